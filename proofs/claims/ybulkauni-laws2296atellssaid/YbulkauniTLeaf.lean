import Derived.Test.YbulkauniTKeys
import Derived.Test.YbulkauniSend
import Derived.Test.YbulkauniTAny
import Derived.StillTailTactics
import Derived.Deep.DeepCutAuto
namespace Go.Proofs.Ybulkauni.lawS2296ATells
open Go.ChangeShapes Go.WideShapes Go.ChangeAt Go.RowKit Go.Maps
open Go.Proofs.Ybulkauni.lawS2296CSendTaken (RowIs clone_any below_drewN bcell)
/-- zzless's answer. -/
def lessB (x1 x2 x3 y1 y2 y3 : Int) : Bool := if x1 = y1 then (if x2 = y2 then decide (x3 < y3) else decide (x2 < y2)) else decide (x1 < y1)
theorem lessB_is (x y : Nat) : lessB ((x / 64 : Nat) : Int) ((x / 8 % 8 : Nat) : Int) ((x % 8 : Nat) : Int) ((y / 64 : Nat) : Int) ((y / 8 % 8 : Nat) : Int) ((y % 8 : Nat) : Int) = decide (x < y) := by
  unfold lessB
  rw [Bool.eq_iff_iff]
  split
  · split
    · simp only [decide_eq_true_eq]; omega
    · simp only [decide_eq_true_eq]; omega
  · simp only [decide_eq_true_eq]; omega
set_option maxRecDepth 100000 in
set_option maxHeartbeats 1000000 in
theorem less_any (x1 x2 x3 y1 y2 y3 : Int) (w : World) : Calls Yba.prog 7 #[.agg #[.int .u64 x1, .int .u64 x2, .int .u64 x3], .agg #[.int .u64 y1, .int .u64 y2, .int .u64 y3]] w fun e w' => e = .returned (.bool (lessB x1 x2 x3 y1 y2 y3)) ∧ Below w.heap.size w w' := by
  have hb : Below w.heap.size w ((w.alloc (.cells #[.int .u64 x1, .int .u64 x2, .int .u64 x3] 68)).alloc (.cells #[.int .u64 y1, .int .u64 y2, .int .u64 y3] 68)) := ((Below.refl _ _).alloc (Nat.le_refl _) _).alloc (by simp) _
  by_cases h1 : x1 = y1
  · by_cases h2 : x2 = y2
    · have e : lessB x1 x2 x3 y1 y2 y3 = decide (x3 < y3) := by unfold lessB; rw [if_pos h1, if_pos h2]
      rw [e]
      clear e
      subst h1 h2
      go_enter Yba.func7, Yba.ntmps7
      go_wp2
      go_ret
      exact ⟨rfl, hb⟩
    · have e : lessB x1 x2 x3 y1 y2 y3 = decide (x2 < y2) := by unfold lessB; rw [if_pos h1, if_neg h2]
      rw [e]
      clear e
      subst h1
      go_enter Yba.func7, Yba.ntmps7
      go_wp2
      go_ret
      exact ⟨rfl, hb⟩
  · have e : lessB x1 x2 x3 y1 y2 y3 = decide (x1 < y1) := by unfold lessB; rw [if_neg h1]
    rw [e]
    clear e
    go_enter Yba.func7, Yba.ntmps7
    go_wp2
    go_ret
    exact ⟨rfl, hb⟩
theorem ta71_71 (x : Value) (w : World) : (Instr.typeAssert (.iface 71 x) 79 71 true).run Yba.prog w = .ok (.tuple #[x, .bool true]) w := by kernel_rfl
theorem ta71_183 (x : Value) (w : World) : (Instr.typeAssert (.iface 71 x) 79 183 true).run Yba.prog w = .ok (.tuple #[.agg #[.int .u64 0, .int .u64 0, .int .i64 0], .bool false]) w := by kernel_rfl
theorem ta71_185 (x : Value) (w : World) : (Instr.typeAssert (.iface 71 x) 79 185 true).run Yba.prog w = .ok (.tuple #[.agg #[.int .u64 0, .int .u64 0, .int .i64 0, .slice none 0 0], .bool false]) w := by kernel_rfl
theorem ta71_188 (x : Value) (w : World) : (Instr.typeAssert (.iface 71 x) 79 188 true).run Yba.prog w = .ok (.tuple #[.agg #[.int .u64 0, .int .u64 0, .int .i64 0], .bool false]) w := by kernel_rfl
end Go.Proofs.Ybulkauni.lawS2296ATells
