import Derived.Test.YbulkaugwDoorUrl

namespace Go.Proofs.YbulkaugwDoor
open Go.ChangeShapes Go.WideShapes Go.ChangeAt Go.RowKit

theorem not_star (l : List UInt8) (h : ∀ c ∈ l, inTab c = true) : ((⟨l.toArray⟩ : ByteArray).toList == [42]) = false := by
  rw [ByteArray.toList_eq]
  cases hl : (l == [42])
  · rfl
  · have e : l = [42] := beq_iff_eq.1 hl
    have := h 42 (by rw [e]; simp)
    exact absurd this (by decide)
theorem mem_at (l : List UInt8) (j : Nat) (h : j < (⟨l.toArray⟩ : ByteArray).size) : (⟨l.toArray⟩ : ByteArray)[j] ∈ l := by
  show l.toArray[j]'h ∈ l
  simp
theorem cnt_zero (l : List UInt8) (h : ∀ c ∈ l, (c == 32) = false) : cnt l = 0 := by
  unfold cnt
  rw [List.filter_eq_nil_iff.2 (fun c hc => by simp [h c hc])]
  rfl
theorem esc_said (l : List UInt8) (hl : l.length ≤ 1024) (h : ∀ c ∈ l, inTab c = true ∧ (c == 32) = false) : EscSaid ⟨l.toArray⟩ ⟨l.toArray⟩ := fun w h0 hT =>
  esc_plain _ w (by simpa [ByteArray.size] using hl) h0 hT (fun j hj => okc_of_in _ (h _ (mem_at l j hj)).1) (by simpa using cnt_zero l fun c hc => (h c hc).2)
theorem urlAt_new (w : World) (p q r : ByteArray) (f : Bool) : UrlAt (w.alloc (.cells #[.string ⟨#[]⟩, .string ⟨#[]⟩, .pointer none, .string ⟨#[]⟩, .string p, .string ⟨#[]⟩, .string q, .string r, .string ⟨#[]⟩, .bool f, .bool false] 27)) w.heap.size p q r f :=
  ⟨by simp, by go_simp, by go_simp, by go_simp, by go_simp⟩
set_option maxHeartbeats 400000 in
theorem walk_plain (a : Option Addr) (len cap : Nat) (q : ByteArray) (f : Bool) (w : World) (hlen : len ≤ maxLen) (hqs : q.size ≤ maxLen) (hA : SelOk w a len) (h0 : 0 < w.heap.size) (hT : TabOk w) :
    Calls Ybad.prog 3 #[.slice a len cap, .string q, .bool f] w fun e w' => e = .returned (.bool true) ∧ Below w.heap.size w w' := by
  unfold maxLen at hlen hqs
  by_cases hl : 1024 < len
  · go_enter Ybad.func3, Ybad.ntmps3
    go_wp2
    go_ret
    exact ⟨rfl, Below.refl _ _⟩
  by_cases hq : 1024 < q.size
  · go_enter Ybad.func3, Ybad.ntmps3
    go_wp2
    go_ret
    exact ⟨rfl, Below.refl _ _⟩
  have Hpath : Hid _ := path_no a len cap w (by omega) hA
  clear hA
  go_enter Ybad.func3, Ybad.ntmps3
  go_wp2_with fail
  refine Calls.mono Hpath.out ?_
  rintro e w1 ⟨l, rfl, hall, hll, hb1⟩
  have Hall : Hid _ := hall
  clear hall
  have hT1 := hT.below h0 hb1
  have h01 : 0 < w1.heap.size := Nat.lt_of_lt_of_le h0 hb1.size
  go_wp2_with fail
  have hsz : (⟨l.toArray⟩ : ByteArray).size ≤ 1024 := by simp [ByteArray.size]; omega
  refine (request w1.heap.size ⟨l.toArray⟩ q ⟨#[]⟩ f _ ⟨l.toArray⟩ (urlAt_new w1 _ _ _ _) (by omega) (by omega) (target_bare _ _ q f _ _ ?_ ?_ (urlAt_new w1 _ _ _ _) (not_star l fun c hc => (Hall.out c hc).1) (esc_said l (by omega) Hall.out))).mono ?_
  · simp
  · exact hT1.below h01 ((Below.refl _ _).alloc (Nat.le_refl _) _)
  rintro e w2 ⟨rfl, hb2⟩
  go_wp2_with fail
  refine (want_any _ q f _ (by omega) (by omega)).mono ?_
  rintro e w3 ⟨rfl, rfl⟩
  go_wp2
  go_ret
  exact ⟨rfl, hb1.trans (((Below.refl _ _).alloc (Nat.le_refl _) _ |>.trans (hb2.mono (by simp))).mono hb1.size)⟩
end Go.Proofs.YbulkaugwDoor
