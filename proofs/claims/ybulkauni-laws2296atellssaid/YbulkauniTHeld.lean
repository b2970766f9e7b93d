import Derived.Test.YbulkauniTLeaf
namespace Go.Proofs.Ybulkauni.lawS2296ATells
open Go.ChangeShapes Go.WideShapes Go.ChangeAt Go.RowKit Go.Maps
open Go.Proofs.Ybulkauni.lawS2296CSendTaken (RowIs clone_any below_drewN bcell)
/-- A Placed as a message. -/
def pm (r1 r2 o run : Int) (p q : Value) : Value := .iface 71 (.agg #[.int .u64 r1, .int .u64 r2, .int .u64 o, .int .u64 run, p, q])
set_option maxRecDepth 100000 in
set_option maxHeartbeats 1000000 in
theorem held_any (tt r1 r2 o run : Int) (pa qa : Option Addr) (np pc nr qc : Nat) (w : World) :
    Calls Yba.prog 63 #[.int .u64 tt, pm r1 r2 o run (.slice pa np pc) (.slice qa nr qc)] w fun e w' => e = .returned (.tuple #[.agg #[.int .u64 tt, .bool true, .int .u64 o, .int .u64 run], .bool ((nr : Int) == 0)]) ∧ Below w.heap.size w w' := by
  have h1 := ta71_71
  have h2 := ta71_183
  unfold pm
  go_enter Yba.func63, Yba.ntmps63
  go_wp2
  go_region
  go_wp2
  refine bodyPost_ret (v := .tuple #[.agg #[.int .u64 tt, .bool true, .int .u64 o, .int .u64 run], .bool ((nr : Int) == 0)]) (by simp [results, Yba.results63, go_sem]) rfl ⟨rfl, ?_⟩
  exact (((Below.refl w.heap.size w).alloc (Nat.le_refl _) _).alloc (by simp) _).drew
set_option maxRecDepth 100000 in
set_option maxHeartbeats 1000000 in
theorem merge_no (r1 r2 o1 n1 o2 n2 : Int) (pa qa pa' qa' : Option Addr) (np pc nr qc np' pc' nr' qc' : Nat) (h0 : 0 < nr') (h1 : nr ≤ 1000) (h2 : nr' ≤ 1000) (w : World) :
    Calls Yba.prog 65 #[pm r1 r2 o1 n1 (.slice pa np pc) (.slice qa nr qc), pm r1 r2 o2 n2 (.slice pa' np' pc') (.slice qa' nr' qc')] w fun e w' => e = .returned (.tuple #[.nilIface, .bool false]) ∧ Below w.heap.size w w' := by
  have t1 := ta71_71
  have t2 := ta71_183
  have t3 := ta71_185
  have t4 := ta71_188
  have hz : ((nr : Int) + (nr' : Int) == 0) = false := by simp; omega
  unfold pm
  by_cases ho : o2 = o1
  · by_cases hn : n2 = n1
    · subst ho hn
      go_enter Yba.func65, Yba.ntmps65
      go_wp2
      refine bodyPost_ret (v := .tuple #[.nilIface, .bool false]) (by simp [results, Yba.results65, go_sem]) rfl ⟨rfl, ?_⟩
      exact ((Below.refl w.heap.size w).alloc (Nat.le_refl _) _).alloc (by simp) _
    · subst ho
      go_enter Yba.func65, Yba.ntmps65
      go_wp2
      refine bodyPost_ret (v := .tuple #[.nilIface, .bool false]) (by simp [results, Yba.results65, go_sem]) rfl ⟨rfl, ?_⟩
      exact ((Below.refl w.heap.size w).alloc (Nat.le_refl _) _).alloc (by simp) _
  · go_enter Yba.func65, Yba.ntmps65
    go_wp2
    refine bodyPost_ret (v := .tuple #[.nilIface, .bool false]) (by simp [results, Yba.results65, go_sem]) rfl ⟨rfl, ?_⟩
    exact ((Below.refl w.heap.size w).alloc (Nat.le_refl _) _).alloc (by simp) _
end Go.Proofs.Ybulkauni.lawS2296ATells
