import Derived.Test.YbulkaugwDoorEscB
import Derived.Test.YbulkaugwDoorUnesc
import Derived.Test.YbulkaugwDoorLawPlain

namespace Go.Proofs.YbulkaugwDoor
open Go.ChangeShapes Go.WideShapes Go.ChangeAt Go.RowKit
theorem escL_none (l : List UInt8) (h : cnt l = 0) : escL l = l := by
  induction l with
  | nil => rfl
  | cons c l ih =>
    have e : escL (c :: l) = (if c == 32 then [37, 50, 48] else [c]) ++ escL l := rfl
    cases hc : (c == 32)
    · rw [e, hc, ih (by simpa [cnt, hc] using h)]; rfl
    · simp [cnt, hc] at h
theorem esc_said_any (l : List UInt8) (hl : l.length ≤ 1024) (h : ∀ c ∈ l, inTab c = true) : EscSaid ⟨l.toArray⟩ ⟨(escL l).toArray⟩ := fun w h0 hT => by
  have hs : (⟨l.toArray⟩ : ByteArray).size ≤ 1024 := by simpa [ByteArray.size] using hl
  have hok : ∀ j (hj : j < (⟨l.toArray⟩ : ByteArray).size), okc ((⟨l.toArray⟩ : ByteArray)[j]'hj) = true := fun j hj => okc_of_in _ (h _ (mem_at l j hj))
  by_cases hN : cnt l = 0
  · have := esc_plain ⟨l.toArray⟩ w hs h0 hT hok (by simpa using hN)
    rw [escL_none l hN]
    exact this
  · by_cases hR : (⟨l.toArray⟩ : ByteArray).size + 2 * cnt l ≤ 64
    · exact esc_small ⟨l.toArray⟩ w hs h0 hT hok (cnt l) (by simp) (by omega) hR
    · exact esc_big ⟨l.toArray⟩ w hs h0 hT hok (cnt l) (by simp) (by omega) (by omega)
theorem not_pct (c : UInt8) (h : inTab c = true) : (c == 37) = false ∧ (c == 43) = false := by
  simp only [inTab, Bool.or_eq_true, beq_iff_eq] at h
  rcases h with ((((((((rfl | rfl) | rfl) | rfl) | rfl) | rfl) | rfl) | rfl) | rfl) <;> exact ⟨rfl, rfl⟩
theorem escL_size (l : List UInt8) (hl : l.length ≤ 1024) : (⟨(escL l).toArray⟩ : ByteArray).size ≤ 4096 := by
  have h1 := escL_len l
  have h2 := cnt_le l
  simp [ByteArray.size]; omega
theorem target_either (l : List UInt8) (hl : l.length ≤ 1024) (h : ∀ c ∈ l, inTab c = true) (b : Nat) (q : ByteArray) (f : Bool) (w : World) (h0 : 0 < w.heap.size) (hT : TabOk w) (hu : UrlAt w b ⟨l.toArray⟩ q ⟨l.toArray⟩ f) : TargetSaid w b ⟨l.toArray⟩ := by
  cases l with
  | nil => exact target_bare b ⟨#[]⟩ q f w ⟨#[]⟩ h0 hT hu (not_star [] h) (esc_said_any [] hl h)
  | cons c l =>
    refine target_raw b _ q f w (by simpa [ByteArray.size] using hl) hu ?_ (fun j hj => not_pct _ (h _ (mem_at _ j hj)))
    rw [ByteArray.toList_eq]
    rfl
theorem UrlAt.raw_set {w : World} {b : Nat} {p q r : ByteArray} {f : Bool} (h : UrlAt w b p q r f) (x : ByteArray) : UrlAt (w.setCell ⟨b, 7, none⟩ (.string x)) b p q x f := by
  refine ⟨by simpa using h.lt, ?_, ?_, World.cell?_setCell_same _ _ _ h.raw, ?_⟩
  · rw [World.cell?_setCell_other _ _ _ _ (by simp)]; exact h.path
  · rw [World.cell?_setCell_other _ _ _ _ (by simp)]; exact h.query
  · rw [World.cell?_setCell_other _ _ _ _ (by simp)]; exact h.force
set_option maxHeartbeats 400000 in
theorem walk_raw (a : Option Addr) (len cap : Nat) (raw : Bool) (q : ByteArray) (f : Bool) (w : World) (hlen : len ≤ maxLen) (hqs : q.size ≤ maxLen) (hA : SelOk w a len) (h0 : 0 < w.heap.size) (hT : TabOk w) :
    Calls Ybad.prog 4 #[.slice a len cap, .bool raw, .string q, .bool f] w fun e w' => e = .returned (.bool true) ∧ Below w.heap.size w w' := by
  unfold maxLen at hlen hqs
  by_cases hl : 1024 < len
  · go_enter Ybad.func4, Ybad.ntmps4
    go_wp2
    go_ret
    exact ⟨rfl, Below.refl _ _⟩
  by_cases hq : 1024 < q.size
  · go_enter Ybad.func4, Ybad.ntmps4
    go_wp2
    go_ret
    exact ⟨rfl, Below.refl _ _⟩
  have Hpath : Hid _ := path_yes a len cap w (by omega) hA
  clear hA
  cases raw
  · go_enter Ybad.func4, Ybad.ntmps4
    go_wp2_with fail
    refine Calls.mono Hpath.out ?_
    rintro e w1 ⟨l, rfl, hall, hll, hb1⟩
    have Hall : Hid _ := hall
    clear hall
    have hT1 := hT.below h0 hb1
    have h01 : 0 < w1.heap.size := Nat.lt_of_lt_of_le h0 hb1.size
    have hsz : (⟨l.toArray⟩ : ByteArray).size ≤ 1024 := by simp [ByteArray.size]; omega
    have hsz2 := escL_size l (by omega)
    go_wp2_with fail
    refine (zzesc ⟨l.toArray⟩ _ hsz).mono ?_
    rintro e w2 ⟨rfl, hb2⟩
    have hu := (urlAt_new w1 ⟨l.toArray⟩ q ⟨#[]⟩ f).below hb2
    have hb12 : Below w1.heap.size w1 w2 := (((Below.refl _ _).alloc (Nat.le_refl _) _).trans (hb2.mono (by simp)))
    have hT2 := hT1.below h01 hb12
    have h02 : 0 < w2.heap.size := Nat.lt_of_lt_of_le h01 hb12.size
    clear hb2
    go_wp2_with fail
    refine (request w1.heap.size ⟨l.toArray⟩ q ⟨#[]⟩ f _ ⟨(escL l).toArray⟩ hu hsz2 (by omega) (target_bare _ _ q f _ _ h02 hT2 hu (not_star l Hall.out) (esc_said_any l (by omega) Hall.out))).mono ?_
    rintro e w3 ⟨rfl, hb3⟩
    go_wp2_with fail
    refine (want_any _ q f _ hsz2 (by omega)).mono ?_
    rintro e w4 ⟨rfl, rfl⟩
    go_wp2
    go_ret
    exact ⟨rfl, (hb1.trans (hb12.mono hb1.size)).trans (hb3.mono (Nat.le_trans hb1.size hb12.size))⟩
  · go_enter Ybad.func4, Ybad.ntmps4
    go_wp2_with fail
    refine Calls.mono Hpath.out ?_
    rintro e w1 ⟨l, rfl, hall, hll, hb1⟩
    have Hall : Hid _ := hall
    clear hall
    have hT1 := hT.below h0 hb1
    have h01 : 0 < w1.heap.size := Nat.lt_of_lt_of_le h0 hb1.size
    have hsz : (⟨l.toArray⟩ : ByteArray).size ≤ 1024 := by simp [ByteArray.size]; omega
    have hsz2 := escL_size l (by omega)
    go_wp2_with fail
    refine (zzesc ⟨l.toArray⟩ _ hsz).mono ?_
    rintro e w2 ⟨rfl, hb2⟩
    have hu := (urlAt_new w1 ⟨l.toArray⟩ q ⟨#[]⟩ f).below hb2
    have hb12 : Below w1.heap.size w1 w2 := (((Below.refl _ _).alloc (Nat.le_refl _) _).trans (hb2.mono (by simp)))
    have hT2 := hT1.below h01 hb12
    have h02 : 0 < w2.heap.size := Nat.lt_of_lt_of_le h01 hb12.size
    have hfz : w2.frozen? ⟨w1.heap.size, 7, none⟩ = false := ((bcell hb2).2 _ _ (by simp)).trans (by go_simp)
    have hraw := hu.raw
    have hus := hu.raw_set ⟨l.toArray⟩
    have hbs : Below w1.heap.size w1 (w2.setCell ⟨w1.heap.size, 7, none⟩ (.string ⟨l.toArray⟩)) := hb12.setCell (Nat.le_refl _) _
    have hT3 := hT1.below h01 hbs
    have h03 : 0 < (w2.setCell ⟨w1.heap.size, 7, none⟩ (.string ⟨l.toArray⟩)).heap.size := Nat.lt_of_lt_of_le h01 hbs.size
    clear hb2 hu hT2 h02 hb12
    go_wp2_with fail
    refine (request w1.heap.size ⟨l.toArray⟩ q ⟨l.toArray⟩ f _ ⟨l.toArray⟩ hus (by omega) (by omega) (target_either l (by omega) Hall.out _ q f _ h03 hT3 hus)).mono ?_
    rintro e w3 ⟨rfl, hb3⟩
    go_wp2_with fail
    refine (want_any _ q f _ (by omega) (by omega)).mono ?_
    rintro e w4 ⟨rfl, rfl⟩
    go_wp2
    go_ret
    exact ⟨rfl, (hb1.trans (hbs.mono hb1.size)).trans (hb3.mono (Nat.le_trans hb1.size hbs.size))⟩
end Go.Proofs.YbulkaugwDoor
