import Derived.Test.YbulkaugwDoorPath

namespace Go.Proofs.YbulkaugwDoor
open Go.ChangeShapes Go.WideShapes Go.ChangeAt Go.RowKit

/-- '[]byte(s)' lays the bytes in a new block. -/
theorem conv_in (s : ByteArray) (w : World) : ∃ cap w1, (convert 9 22 (.string s)).run Ybad.prog w = .ok (.slice (some ⟨w.heap.size, 0, none⟩) s.size cap) w1 ∧ w1.heap.size = w.heap.size + 1 ∧ Below w.heap.size w w1 ∧
    ∀ j (h : j < s.size), w1.cell? ⟨w.heap.size, j, none⟩ = some (.int .u8 ((s[j]'h).toNat : Int)) := by
  refine ⟨_, _, run_bytes_of_string w 9 22 5 s Ybad.underlying9 Ybad.underlying22 Ybad.underlying5, by simp, (Below.refl _ _).drew.alloc (Nat.le_refl _) _, fun j hj => ?_⟩
  have := World.cell?_alloc_mark w.drew (bytesRow s (grownCap w s.size 0 5)) 5 ((bytesRow s (grownCap w s.size 0 5)).size, (bytesRow s (grownCap w s.size 0 5)).size + 1) j
  exact this.trans (bytesRow_at s _ j hj)
/-- How many blanks. -/
def cnt (l : List UInt8) : Nat := (l.filter fun c => c == 32).length
theorem cnt_le (l : List UInt8) : cnt l ≤ l.length := List.length_filter_le _ _
theorem take_snoc (s : ByteArray) (k : Nat) (h : k < s.size) : s.data.toList.take (k + 1) = s.data.toList.take k ++ [s[k]] := by
  rw [List.take_succ_eq_append_getElem (by simpa using h)]; rfl
theorem cnt_yes (s : ByteArray) (k : Nat) (h : k < s.size) (hc : (s[k] == 32) = true) : cnt (s.data.toList.take (k + 1)) = cnt (s.data.toList.take k) + 1 := by
  rw [take_snoc s k h]; simp [cnt, List.filter_append, hc]
theorem cnt_no (s : ByteArray) (k : Nat) (h : k < s.size) (hc : (s[k] == 32) = false) : cnt (s.data.toList.take (k + 1)) = cnt (s.data.toList.take k) := by
  rw [take_snoc s k h]; simp [cnt, List.filter_append, hc]
set_option maxHeartbeats 800000 in
theorem esc_plain (s : ByteArray) (w : World) (hs : s.size ≤ 1024) (h0 : 0 < w.heap.size) (hT : TabOk w) (hok : ∀ j (h : j < s.size), okc (s[j]'h) = true) (hno : cnt s.data.toList = 0) :
    Calls Ybad.prog 14 #[.string s, .int .u8 1] w fun e w' => e = .returned (.string s) ∧ Below w.heap.size w w' := by
  obtain ⟨cap, w1, hcv, hsz, hbel, hcells⟩ := conv_in s w
  have hT1 := hT.below h0 hbel
  have HT := hT1
  clear hT
  have Hno : Hid _ := hno
  have Hok : Hid _ := hok
  have Hcells : Hid _ := hcells
  clear hno hok hcells
  go_enter Ybad.func14, Ybad.ntmps14
  go_wp2
  clear hcv
  go_loop [5, 6, 19] (fun sp hx si => ∃ k : Nat, k ≤ s.size ∧ sp = .int .i64 0 ∧ hx = .int .i64 (cnt (s.data.toList.take k)) ∧ si = .int .i64 k) (fun _ _ si => s.size - (intOf si).toNat)
  case atStart => exact ⟨0, Nat.zero_le _, rfl, rfl, rfl⟩
  case round =>
    obtain ⟨k, hk, rfl, rfl, rfl⟩ := hrel
    have hcl := cnt_le (s.data.toList.take k)
    have hcl2 : (s.data.toList.take k).length ≤ k := List.length_take_le _ _
    by_cases hlt : k < s.size
    · have hc := Hcells.out k hlt
      cases hb : (s[k] == 32)
      · have H1 : Hid _ := cnt_no s k hlt hb
        go_wp2_with fail
        refine (should s[k] false _ hT1 (Hok.out k hlt) hb).mono ?_
        rintro e w' ⟨rfl, rfl⟩
        go_wp2
        go_round
        case rel => exact ⟨k + 1, by omega, rfl, by rw [H1.out], by go_num⟩
        case measure => simp [intOf]; omega
      · have H1 : Hid _ := cnt_yes s k hlt hb
        go_wp2_with fail
        refine (should s[k] true _ hT1 (Hok.out k hlt) hb).mono ?_
        rintro e w' ⟨rfl, rfl⟩
        have hb' : (((s[k].toNat : Nat) : Int) == 32) = true := by
          have : s[k] = 32 := beq_iff_eq.1 hb
          rw [this]; rfl
        go_wp2
        go_round
        case rel => exact ⟨k + 1, by omega, rfl, by rw [H1.out]; go_num, by go_num⟩
        case measure => simp [intOf]; omega
    · obtain rfl : k = s.size := by omega
      have h0' : cnt (List.take s.size s.data.toList) = 0 := by
        have e : List.take s.size s.data.toList = s.data.toList := List.take_of_length_le (by simp)
        rw [e]; exact Hno.out
      rw [h0']
      clear h0' hcl hcl2
      go_wp2
      go_ret
      exact ⟨rfl, hbel⟩
end Go.Proofs.YbulkaugwDoor
