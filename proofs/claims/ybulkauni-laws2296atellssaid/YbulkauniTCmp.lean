import Derived.Test.YbulkauniTKeys
import Derived.Test.YbulkauniTLay
import Derived.ProofKit
import Derived.OpenShut
import Derived.WalkSpells
import Derived.WalkLawsBesides
import Derived.Below
import Derived.Deep.AppendLies
import Derived.Lib.SliceRun
import Derived.Laws.IdiomStrings
import Derived.Deep.RegionWith
import Derived.StillTailTactics
import Derived.Deep.DeepCutAuto
namespace Go.Proofs.Ybulkauni.lawS2296ATells
open Go.ChangeShapes Go.WideShapes Go.ChangeAt Go.RowKit Go.Shelf Go.Maps Go.Sort
theorem wp_still_tail {P : Program} {id : Nat} {Q : Exit → Act → World → Prop} {a : Act} {w : World} {l : List Oper} (n : Nat) (hm : P.follows .mixedOrders = true) (hB : Region.lexTailB .any l.toArray n = true)
    (h : wpStill P l.toArray w.drew (fun a' => wpList P l.toArray Q (l.drop n) a' w.drew) (l.take n) a) : (Code.region id l.toArray true).wp P Q a w := wp_region_still_tail n hm hB h
/-- cmp.Compare's answer. -/
def cmpI (x y : Int) : Int := if x < y then -1 else if y < x then 1 else 0
set_option maxHeartbeats 1000000 in
theorem isNaN_any (x : Int) (w : World) : Calls Yba.prog 50 #[.int .u64 x] w fun e w' => e = .returned (.bool false) ∧ w = w' := by
  go_enter Yba.func50, Yba.ntmps50
  go_wp2
  go_ret
  exact ⟨rfl, rfl⟩
set_option maxRecDepth 100000 in
set_option maxHeartbeats 1000000 in
theorem compare_any (x y : Int) (w : World) : Calls Yba.prog 39 #[.int .u64 x, .int .u64 y] w fun e w' => e = .returned (.int .i64 (cmpI x y)) ∧ w = w' := by
  have hc : (x < y ∧ cmpI x y = -1) ∨ (¬ x < y ∧ y < x ∧ cmpI x y = 1) ∨ (¬ x < y ∧ ¬ y < x ∧ cmpI x y = 0) := by
    unfold cmpI
    by_cases h1 : x < y
    · exact .inl ⟨h1, by simp [h1]⟩
    · by_cases h2 : y < x
      · exact .inr (.inl ⟨h1, h2, by simp [h1, h2]⟩)
      · exact .inr (.inr ⟨h1, h2, by simp [h1, h2]⟩)
  rcases hc with ⟨h1, h⟩ | ⟨h1, h2, h⟩ | ⟨h1, h2, h⟩ <;> rw [h] <;> clear h
  all_goals
    go_enter Yba.func39, Yba.ntmps39
    go_wp2_with (go_at_call 50; refine (isNaN_any _ _).mono ?_; rintro e w1 ⟨rfl, rfl⟩)
    go_ret
    exact ⟨rfl, rfl⟩
/-- cmp.Or's answer at three. -/
def orI (a b c : Int) : Int := if a ≠ 0 then a else if b ≠ 0 then b else c
set_option maxRecDepth 100000 in
set_option maxHeartbeats 1000000 in
theorem or_any (g : Nat) (a b c : Int) (w : World) (h0 : w.cell? ⟨g, 0, none⟩ = some (.int .i64 a)) (h1 : w.cell? ⟨g, 1, none⟩ = some (.int .i64 b)) (h2 : w.cell? ⟨g, 2, none⟩ = some (.int .i64 c)) :
    Calls Yba.prog 38 #[.slice (some ⟨g, 0, none⟩) 3 3] w fun e w' => e = .returned (.int .i64 (orI a b c)) ∧ w = w' := by
  have HO : Hid (∀ k : Nat, k < 3 → ∃ z, w.cell? ⟨g, k, none⟩ = some (.int .i64 z) ∧ ((k = 0 → z = a) ∧ (k = 1 → z = b) ∧ (k = 2 → z = c))) := fun k hk => by
    match k, hk with
    | 0, _ => exact ⟨a, h0, by simp⟩
    | 1, _ => exact ⟨b, h1, by simp⟩
    | 2, _ => exact ⟨c, h2, by simp⟩
  clear h0 h1 h2
  go_enter Yba.func38, Yba.ntmps38
  go_wp2
  go_loopw [8] (fun si wr => ∃ k : Nat, k ≤ 3 ∧ si = .int .i64 k ∧ Hid ((1 ≤ k → a = 0) ∧ (2 ≤ k → b = 0) ∧ (3 ≤ k → c = 0)) ∧ w = wr) (fun si _ => 3 - (intOf si).toNat)
  case atStart => exact ⟨0, by omega, rfl, ⟨by omega, by omega, by omega⟩, rfl⟩
  case round =>
    obtain ⟨k, hk, rfl, hz, rfl⟩ := hrel
    by_cases hlt : k < 3
    · obtain ⟨z, hc, hz2⟩ := HO.out k hlt
      have HZ : Hid _ := hz2
      clear hz2
      by_cases hz0 : z = 0
      · subst hz0
        go_wp2
        go_roundw
        case rel => exact ⟨k + 1, by omega, by go_num, ⟨fun h => by
            by_cases e : k = 0
            · exact (HZ.out.1 e).symm
            · exact hz.out.1 (by omega), fun h => by
            by_cases e : k = 1
            · exact (HZ.out.2.1 e).symm
            · exact hz.out.2.1 (by omega), fun h => (HZ.out.2.2 (by omega)).symm⟩, trivial⟩
        case measure => simp [intOf]; omega
      · have HR : Hid (orI a b c = z) := by
          show _ = _
          unfold orI
          obtain ⟨e1, e2, e3⟩ := HZ.out
          obtain ⟨f1, f2, f3⟩ := hz.out
          match k, hlt with
          | 0, _ => rw [← e1 rfl, if_pos hz0]
          | 1, _ => rw [← e2 rfl, f1 (by omega)]; simp [hz0]
          | 2, _ => rw [← e3 rfl, f1 (by omega), f2 (by omega)]; simp
        go_wp2
        go_ret
        exact ⟨by rw [HR.out]; rfl, rfl⟩
    · obtain rfl : k = 3 := by omega
      have HR : Hid (orI a b c = 0) := by
        show _ = _
        obtain ⟨f1, f2, f3⟩ := hz.out
        unfold orI
        rw [f1 (by omega), f2 (by omega), f3 (by omega)]; simp
      go_wp2
      go_ret
      exact ⟨by rw [HR.out]; rfl, rfl⟩
/-- compare's answer. -/
def cf (x y : Nat) : Int := if x < y then -1 else if y < x then 1 else 0
theorem cf_is (x y : Nat) : orI (cmpI ((x / 64 : Nat) : Int) ((y / 64 : Nat) : Int)) (cmpI ((x / 8 % 8 : Nat) : Int) ((y / 8 % 8 : Nat) : Int)) (cmpI ((x % 8 : Nat) : Int) ((y % 8 : Nat) : Int)) = cf x y := by
  unfold orI cmpI cf
  split <;> split <;> (try split) <;> (try split) <;> (try split) <;> (try split) <;> (try split) <;> (try split) <;> omega
set_option maxRecDepth 100000 in
set_option maxHeartbeats 4000000 in
theorem passage_compare (x1 x2 x3 y1 y2 y3 : Int) (W : World) : Calls Yba.prog 25 #[.agg #[.int .u64 x1, .int .u64 x2, .int .u64 x3], .agg #[.int .u64 y1, .int .u64 y2, .int .u64 y3]] W fun e w' => e = .returned (.int .i64 (orI (cmpI x1 y1) (cmpI x2 y2) (cmpI x3 y3))) ∧ ∃ q os', w' = grow (W.drewN q) os' := by
  have hcon : ∀ (x y : Int) (w : World), Calls Yba.prog 39 #[.int .u64 x, .int .u64 y] w fun e w' => e = .returned (.int .i64 (cmpI x y)) ∧ w' = w := fun x y w => (compare_any x y w).mono fun _ _ h => ⟨h.1, h.2.symm⟩
  have h1 := hcon x1 y1
  have h2 := hcon x2 y2
  have h3 := hcon x3 y3
  clear hcon
  generalize cmpI x1 y1 = r1 at h1 ⊢
  generalize cmpI x2 y2 = r2 at h2 ⊢
  generalize cmpI x3 y3 = r3 at h3 ⊢
  have ho := fun g w => or_any g r1 r2 r3 w
  generalize orI r1 r2 r3 = r at ho ⊢
  go_enter Yba.func25, Yba.ntmps25
  go_wp2
  refine wp_still_tail 15 (by kernel_rfl) (by kernel_rfl) ?_
  simp only [List.take_succ_cons, List.take_zero, List.drop_succ_cons, List.drop_zero]
  repeat still_step
  still_call (h1 _)
  repeat still_step
  still_call (h2 _)
  repeat still_step
  still_call (h3 _)
  repeat still_step
  refine wpStill_nil ?_
  clear h1 h2 h3
  go_wp2_with fail
  refine (ho _ _ ?_ ?_ ?_).mono ?_
  · go_simp
  · go_simp
  · go_simp
  rintro e w1 ⟨rfl, rfl⟩
  clear ho
  go_wp2
  go_ret
  exact ⟨rfl, 1, _, by rw [alloc_eq_grow, alloc_eq_grow, alloc_eq_grow, grow_grow, grow_grow]; rfl⟩
/-- The cells of a passage. -/
def encK (c : Nat) : List Value := [.int .u64 ((c / 64 : Nat) : Int), .int .u64 ((c / 8 % 8 : Nat) : Int), .int .u64 ((c % 8 : Nat) : Int)]
theorem cmpLays (blk off size : Nat) (w : World) : CmpLays Yba.prog 25 #[] encK 3 cf blk off size w :=
  fun _ _ _ _ x y => by rw [← cf_is]; exact passage_compare _ _ _ _ _ _ _
theorem lt_is (x y : Nat) : ltOf cf x y = decide (x < y) := by
  unfold ltOf cf
  by_cases h1 : x < y
  · simp [h1]
  · by_cases h2 : y < x <;> simp [h1, h2]
theorem swo : SWO (ltOf cf) where
  irrefl x := by rw [lt_is]; simp
  trans x y z h1 h2 := by rw [lt_is] at *; simp at *; omega
  ntrans x y z h1 h2 := by rw [lt_is] at *; simp at *; omega
end Go.Proofs.Ybulkauni.lawS2296ATells
