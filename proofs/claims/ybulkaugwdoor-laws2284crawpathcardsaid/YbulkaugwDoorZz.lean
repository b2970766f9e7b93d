import Derived.Test.YbulkaugwDoorUrl

namespace Go.Proofs.YbulkaugwDoor
open Go.ChangeShapes Go.WideShapes Go.ChangeAt Go.RowKit

theorem byte_ne {c d : UInt8} (h : (c == d) = false) : (((c.toNat : Nat) : Int) == ((d.toNat : Nat) : Int)) = false := by
  have h1 : c ≠ d := beq_eq_false_iff_ne.1 h
  rw [beq_eq_false_iff_ne]
  intro e
  exact h1 (UInt8.toNat_inj.1 (by omega))
theorem blank_no {c : UInt8} (h : (c == 32) = false) : (((c.toNat : Nat) : Int) == 32) = false := byte_ne h
theorem blank_yes {c : UInt8} (h : (c == 32) = true) : (((c.toNat : Nat) : Int) == 32) = true := by
  rw [beq_iff_eq.1 h]; rfl
/-- A blank becomes three bytes, every other byte stays. -/
def escL (l : List UInt8) : List UInt8 := l.flatMap fun c => if c == 32 then [37, 50, 48] else [c]
theorem escL_len (l : List UInt8) : (escL l).length = l.length + 2 * cnt l := by
  induction l with
  | nil => rfl
  | cons c l ih =>
    have e : escL (c :: l) = (if c == 32 then [37, 50, 48] else [c]) ++ escL l := rfl
    rw [e, List.length_append, ih]
    cases hc : (c == 32) <;> simp [cnt, hc] <;> omega
theorem escL_snoc_yes (s : ByteArray) (k : Nat) (h : k < s.size) (hc : (s[k] == 32) = true) : escL (s.data.toList.take (k + 1)) = escL (s.data.toList.take k) ++ [37, 50, 48] := by
  rw [take_snoc s k h]; simp [escL, beq_iff_eq.1 hc]
theorem escL_snoc_no (s : ByteArray) (k : Nat) (h : k < s.size) (hc : (s[k] == 32) = false) : escL (s.data.toList.take (k + 1)) = escL (s.data.toList.take k) ++ [s[k]] := by
  rw [take_snoc s k h]; simp [escL, beq_eq_false_iff_ne.1 hc]
theorem escL_le (s : ByteArray) (k : Nat) : (escL (s.data.toList.take k)).length ≤ 3 * k := by
  have h1 := escL_len (s.data.toList.take k)
  have h2 := cnt_le (s.data.toList.take k)
  have h3 : (s.data.toList.take k).length ≤ k := List.length_take_le _ _
  omega
theorem bytesV_app (l m : List UInt8) : bytesV (l ++ m) = bytesV l ++ bytesV m := by simp [bytesV]
theorem three_cells (w : World) (x y z : Value) (t : TypeId) : ∀ j u, [x, y, z][j]? = some u → (w.alloc (.cells #[x, y, z] t)).cell? ((⟨w.heap.size, 0, none⟩ : Addr).add j) = some u := by
  intro j u h
  match j, h with
  | 0, h => simp at h; subst h; simp [Addr.add]
  | 1, h => simp at h; subst h; simp [Addr.add]
  | 2, h => simp at h; subst h; simp [Addr.add]
set_option maxHeartbeats 800000 in
theorem zzesc (s : ByteArray) (w : World) (hs : s.size ≤ 1024) :
    Calls Ybad.prog 8 #[.string s] w fun e w' => e = .returned (.string ⟨(escL s.data.toList).toArray⟩) ∧ Below w.heap.size w w' := by
  obtain ⟨i0, hi, hz0, hz1, hz2⟩ := info_parts Ybad.info5
  go_enter Ybad.func8, Ybad.ntmps8
  go_wp2_with (at_make; refine wpList_make_own _ rfl _ _ 22 rfl w.heap.size 5 i0 (.int .u8 0) 1 Ybad.underlying22 hi hz0 hz1 _ _ _ (3 * s.size) rfl rfl (by omega) ?b2 ?b3 (Nat.le_refl _) ?_)
  case b2 => rw [hz2]; omega
  case b3 => unfold maxLen; omega
  intro w0 hown0 hgrow0
  go_wp2
  go_loopw [3, 4] (fun out si wr => ∃ (k m : Nat), k ≤ s.size ∧ m = (escL (s.data.toList.take k)).length ∧ si = .int .i64 k ∧ out = .slice (some ⟨w.heap.size, 0, none⟩) m (3 * s.size) ∧
      wr.ownsRow w.heap.size 5 1 (.slice (some ⟨w.heap.size, 0, none⟩) m (3 * s.size)) m (bytesV (escL (s.data.toList.take k))) ∧ Below w.heap.size w wr)
    (fun _ si _ => s.size - (intOf si).toNat)
  case atStart => exact ⟨0, 0, Nat.zero_le _, rfl, rfl, rfl, hown0, (Below.refl _ _).grown hgrow0 (Nat.le_refl _) (fun k h => by cases h)⟩
  case round =>
    obtain ⟨k, m, hk, hm, rfl, rfl, hown, hnx⟩ := hrel
    have hle := escL_le s k
    have Hm : Hid _ := hm
    have hm3 : m ≤ 3 * k := by omega
    clear hm hle
    by_cases hlt : k < s.size
    · cases hb : (s[k] == 32)
      · have H1 : Hid _ := escL_snoc_no s k hlt hb
        have hb' := blank_no hb
        go_wp2_with (at_builtin; refine wpList_append_fits _ rfl (.tmp 22) (.tmp 26) 22 rfl w.heap.size 5 i0 1 Ybad.underlying22 hi hz1 w.heap.size m (3 * s.size) _ rfl (hown.alloc _) ⟨wr.heap.size, 0, none⟩ 1 1 [.int .u8 (s[k].toNat : Int)] rfl rfl ?c1 ?c2 ?c3 ?_)
        case c1 => exact one_cell _ _ _
        case c2 => intro u hu; simp at hu; subst hu; rfl
        case c3 => omega
        intro w1 hown1 hgrow1
        rw [← bytesV_snoc, ← H1.out] at hown1
        go_wp2
        go_roundw
        case rel => exact ⟨k + 1, m + 1, by omega, by rw [H1.out, Hm.out]; simp, by go_num, rfl, hown1, (hnx.alloc hnx.size _).grown hgrow1 (by simp; have := hnx.size; omega) (fun k hk => by cases hk; exact Nat.le_refl _)⟩
        case measure => simp [intOf]; omega
      · have H1 : Hid _ := escL_snoc_yes s k hlt hb
        have hb' := blank_yes hb
        go_wp2_with (at_builtin; refine wpList_append_fits _ rfl (.tmp 19) (.tmp 20) 22 rfl w.heap.size 5 i0 1 Ybad.underlying22 hi hz1 w.heap.size m (3 * s.size) _ rfl (hown.alloc _) ⟨wr.heap.size, 0, none⟩ 3 3 [.int .u8 37, .int .u8 50, .int .u8 48] rfl rfl ?d1 ?d2 ?d3 ?_)
        case d1 => exact three_cells _ _ _ _ _
        case d2 => intro u hu; simp at hu; rcases hu with rfl | rfl | rfl <;> rfl
        case d3 => omega
        intro w1 hown1 hgrow1
        have hown2 : w1.ownsRow w.heap.size 5 1 (.slice (some ⟨w.heap.size, 0, none⟩) (m + 3) (3 * s.size)) (m + 3) (bytesV (escL (s.data.toList.take (k + 1)))) := by
          rw [H1.out, bytesV_app]; exact hown1
        clear hown1
        go_wp2
        go_roundw
        case rel => exact ⟨k + 1, m + 3, by omega, by rw [H1.out, Hm.out]; simp, by go_num, rfl, hown2, (hnx.alloc hnx.size _).grown hgrow1 (by simp; have := hnx.size; omega) (fun k hk => by cases hk; exact Nat.le_refl _)⟩
        case measure => simp [intOf]; omega
    · obtain rfl : k = s.size := by omega
      have hcv := conv_back wr _ _ _ _ _ hown Hm.out.symm
      go_wp2
      go_ret
      exact ⟨ret_str (by rw [List.take_of_length_le (by simp)]), hnx⟩
end Go.Proofs.YbulkaugwDoor
