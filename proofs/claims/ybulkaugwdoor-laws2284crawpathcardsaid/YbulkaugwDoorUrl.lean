import Derived.Test.YbulkaugwDoorEsc

namespace Go.Proofs.YbulkaugwDoor
open Go.ChangeShapes Go.WideShapes Go.ChangeAt Go.RowKit

/-- What is known of the URL in memory. -/
structure UrlAt (w : World) (b : Nat) (p q r : ByteArray) (f : Bool) : Prop where
  lt : b < w.heap.size
  path : w.cell? ⟨b, 4, none⟩ = some (.string p)
  query : w.cell? ⟨b, 6, none⟩ = some (.string q)
  raw : w.cell? ⟨b, 7, none⟩ = some (.string r)
  force : w.cell? ⟨b, 9, none⟩ = some (.bool f)
theorem UrlAt.below {w w' : World} {b : Nat} {p q r : ByteArray} {f : Bool} (h : UrlAt w b p q r f) (hb : Below w.heap.size w w') : UrlAt w' b p q r f :=
  ⟨Nat.lt_of_lt_of_le h.lt hb.size, ((bcell hb).1 _ _ h.lt).trans h.path, ((bcell hb).1 _ _ h.lt).trans h.query, ((bcell hb).1 _ _ h.lt).trans h.raw, ((bcell hb).1 _ _ h.lt).trans h.force⟩
/-- net/url's escape, at the strings of the law. -/
def EscSaid (p t : ByteArray) : Prop := ∀ w : World, 0 < w.heap.size → TabOk w → Calls Ybad.prog 14 #[.string p, .int .u8 1] w fun e w' => e = .returned (.string t) ∧ Below w.heap.size w w'
set_option maxHeartbeats 400000 in
theorem escaped (b : Nat) (p q : ByteArray) (f : Bool) (w : World) (t : ByteArray) (h0 : 0 < w.heap.size) (hT : TabOk w) (hu : UrlAt w b p q ⟨#[]⟩ f) (hst : (p.toList == [42]) = false) (hE : EscSaid p t) :
    Calls Ybad.prog 11 #[.pointer (some ⟨b, 0, none⟩)] w fun e w' => e = .returned (.string t) ∧ Below w.heap.size w w' := by
  have h1 := hu.path
  have h2 := hu.raw
  go_enter Ybad.func11, Ybad.ntmps11
  go_wp2_with fail
  refine (hE _ h0 hT).mono ?_
  rintro e w1 ⟨rfl, hb⟩
  go_wp2
  go_ret
  exact ⟨rfl, hb⟩
set_option maxHeartbeats 400000 in
theorem target_bare (b : Nat) (p q : ByteArray) (f : Bool) (w : World) (t : ByteArray) (h0 : 0 < w.heap.size) (hT : TabOk w) (hu : UrlAt w b p q ⟨#[]⟩ f) (hst : (p.toList == [42]) = false) (hE : EscSaid p t) :
    Calls Ybad.prog 9 #[.pointer (some ⟨b, 0, none⟩)] w fun e w' => e = .returned (.string t) ∧ Below w.heap.size w w' := by
  have h2 := hu.raw
  go_enter Ybad.func9, Ybad.ntmps9
  go_wp2_with fail
  refine (escaped b p q f _ t h0 hT hu hst hE).mono ?_
  rintro e w1 ⟨rfl, hb⟩
  go_wp2
  go_ret
  exact ⟨rfl, hb⟩
/-- targetPath at this URL. -/
def TargetSaid (w : World) (b : Nat) (t : ByteArray) : Prop := Calls Ybad.prog 9 #[.pointer (some ⟨b, 0, none⟩)] w fun e w' => e = .returned (.string t) ∧ Below w.heap.size w w'
theorem app3 (a b c : ByteArray) : a ++ (b ++ c) = a ++ b ++ c := by
  rw [ByteArray.append_assoc]
set_option maxHeartbeats 400000 in
theorem request (b : Nat) (p q r : ByteArray) (f : Bool) (w : World) (t : ByteArray) (hu : UrlAt w b p q r f) (ht : t.size ≤ 4096) (hq : q.size ≤ 1024) (hE : TargetSaid w b t) :
    Calls Ybad.prog 6 #[.pointer (some ⟨b, 0, none⟩)] w fun e w' => e = .returned (.string (wantS t q f)) ∧ Below w.heap.size w w' := by
  cases he : t.toList.isEmpty <;> cases hf : ((!q.toList.isEmpty) || f)
  all_goals
    first | have E := headS_yes t he | have E := headS_no t he
    first | have E2 := wantS_yes t q f hf | have E2 := wantS_no t q f hf
    rw [E] at E2
    have H : Hid _ := E2
    clear E E2
    cases hqe : q.toList.isEmpty <;> cases f
  all_goals first | (exfalso; rw [hqe] at hf; cases hf; done) | skip
  all_goals
    clear hf
    go_enter Ybad.func6, Ybad.ntmps6
    go_wp2_with fail
    refine Calls.mono hE ?_
    rintro e w1 ⟨rfl, hb⟩
    obtain ⟨-, h1, h2, h3, h4⟩ := hu.below hb
    go_wp2
    go_ret
    exact ⟨ret_str (by first | exact H.out.symm | (rw [app3]; exact H.out.symm)), hb⟩
end Go.Proofs.YbulkaugwDoor
