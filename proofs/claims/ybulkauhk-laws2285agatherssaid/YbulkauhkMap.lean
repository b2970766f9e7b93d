import Derived.Test.YbulkauhkLeaves
import Derived.Maps.OwnSet
namespace Go.Proofs.Ybulkauhk
open Go.ChangeShapes Go.WideShapes Go.ChangeAt Go.RowKit
open Go.Maps

theorem laidOut : laidOutB Yba.prog = true := by kernel_rfl
theorem row50 : (50 : TypeId) < Yba.prog.types.size := of_decide_eq_true (by kernel_rfl)
theorem typesPos : 0 < Yba.prog.types.size := of_decide_eq_true (by kernel_rfl)
theorem wide50 : (match Yba.prog.underlying 50 with | some (.array _ _) | some (.struct _) => true | _ => false) = true := by rw [Yba.underlying50]
theorem kt50 : Yba.prog.keyTypeAt 2 50 = true := by kernel_rfl
set_option maxRecDepth 100000 in
theorem law : Keyed Yba.prog 50 := Keyed.of_law (deep_law_laid laidOut (m := 2) (by omega) row50 kt50 wide50)
theorem zero21 (w : World) : (zeroValue 21).run Yba.prog w = .ok (.int .i32 0) w := by kernel_rfl
/-- What the key (x, y) reads as. -/
def kl (x y : Nat) : Lit := .string (keyBytes [.int .i32 (x : Int), .int .i32 (y : Int)])
theorem keyType50 : Yba.prog.keyType 50 = true := by kernel_rfl
theorem cells50 : Yba.prog.cellsOf 50 = 2 := by kernel_rfl
theorem cells21 : Yba.prog.cellsOf 21 = 1 := by kernel_rfl
theorem wf32 (x : Nat) (h : x < 2000) : (Lit.int .i32 (x : Int)).wf = true := WalkArith.wf_i32 (by omega)
theorem key_is (x y : Nat) (hx : x < 130) (hy : y < 130) : keyOf Yba.prog 50 (.agg #[.int .i32 (x : Int), .int .i32 (y : Int)]) = some (kl x y) := by
  have h1 := wf32 x (by omega)
  have h2 := wf32 y (by omega)
  have hf : (Value.agg #[.int .i32 (x : Int), .int .i32 (y : Int)]).formed Yba.prog 50 = true := by simp [Value.formed, Yba.underlying50, cells50]
  have hp := typesPos
  unfold keyOf
  rw [Yba.underlying50]
  simp only [keyType50, hf, Bool.and_self, if_true]
  generalize Yba.prog.types.size = N at hp ⊢
  cases N with
  | zero => exact absurd hp (Nat.lt_irrefl 0)
  | succ d => simp [Program.keyLits, Yba.underlying50, Yba.underlying21, cells50, cells21, Value.cells, h1, h2, List.range_succ, kl]
theorem bytes_small (x : Nat) (hx : x < 130) : Lit.keyBytes (.int .i32 (x : Int)) = [0, 0, 0, UInt8.ofNat x] := by
  have e : ((x : Int) % 2 ^ IntKind.i32.bits).toNat = x := by
    show ((x : Int) % 4294967296).toNat = x
    omega
  show bytesBE 4 (((x : Int) % 2 ^ IntKind.i32.bits).toNat) = _
  rw [e]
  have h1 : x / 256 = 0 := by omega
  simp [bytesBE, bytesLE, h1, Nat.mod_eq_of_lt (show x < 256 by omega)]
theorem ofNat_inj (x y : Nat) (hx : x < 130) (hy : y < 130) (h : UInt8.ofNat x = UInt8.ofNat y) : x = y := by
  have := congrArg UInt8.toNat h
  simp at this
  omega
theorem kl_inj (x y x' y' : Nat) (hx : x < 130) (hy : y < 130) (hx' : x' < 130) (hy' : y' < 130) (h : kl x y = kl x' y') : x = x' ∧ y = y' := by
  unfold kl keyBytes at h
  simp only [Lit.string.injEq, List.flatMap_cons, List.flatMap_nil, bytes_small x hx, bytes_small y hy, bytes_small x' hx', bytes_small y' hy'] at h
  simp only [List.cons_append, List.nil_append, List.cons.injEq, true_and, and_true] at h
  exact ⟨ofNat_inj x x' hx hx' h.1, ofNat_inj y y' hy hy' h.2⟩
theorem kl_key (x y : Nat) : WideAt.IsKeyLit (kl x y) := by
  unfold kl; trivial
/-- The map's datum answers as 'refTo' does, after k pairs. -/
def Rep (n : Nat) (tp : List (Nat × Nat)) (k : Nat) (D : DataW Unit) : Prop :=
  IsMap D ∧ ∀ x y, x < n → y < n → (refTo n tp x y k = -1 ∧ Maps.has D (kl x y) = false) ∨ (Maps.has D (kl x y) = true ∧ ∀ z, D.atKey (kl x y) z = .lit (.int .i32 (refTo n tp x y k)))
theorem rep_start (n : Nat) (tp : List (Nat × Nat)) : Rep n tp 0 (.map []) := ⟨isMap_empty, fun _ _ _ _ => .inl ⟨rfl, rfl⟩⟩
theorem rep_step (n : Nat) (tp : List (Nat × Nat)) (k : Nat) (D : DataW Unit) (hn : 0 < n) (hn2 : n < 130) (h : Rep n tp k D) :
    Rep n tp (k + 1) (D.put (kl ((tp.getD k (0, 0)).1 % n) ((tp.getD k (0, 0)).2 % n)) (.lit (.int .i32 (k : Int)))) := by
  refine ⟨h.1.put _ _, fun x y hx hy => ?_⟩
  have hA : (tp.getD k (0, 0)).1 % n < n := Nat.mod_lt _ hn
  have hB : (tp.getD k (0, 0)).2 % n < n := Nat.mod_lt _ hn
  cases hh : hit n x y (tp.getD k (0, 0))
  · rw [refTo_no n x y k tp hh]
    have hne : kl x y ≠ kl ((tp.getD k (0, 0)).1 % n) ((tp.getD k (0, 0)).2 % n) := by
      intro e
      obtain ⟨e1, e2⟩ := kl_inj _ _ _ _ (by omega) (by omega) (by omega) (by omega) e
      unfold hit at hh
      rw [← e1, ← e2] at hh
      simp at hh
    rw [has_put_other hne]
    rcases h.2 x y hx hy with h1 | ⟨h1, h2⟩
    · exact .inl h1
    · exact .inr ⟨h1, fun z => by rw [atKey_put_other hne]; exact h2 z⟩
  · rw [refTo_yes n x y k tp hh]
    unfold hit at hh
    simp only [Bool.and_eq_true, beq_iff_eq] at hh
    rw [hh.1, hh.2]
    exact .inr ⟨has_put_same h.1 (kl_key _ _) _, fun z => atKey_put_same h.1 (kl_key _ _) _ z⟩
/-- What is known of the closure's trail. -/
def RefOk (w : World) (c : Nat) (use : Bool) (n : Nat) (tp : List (Nat × Nat)) : Prop :=
  c < w.heap.size ∧ ((use = false ∧ w.cell? ⟨c, 6, none⟩ = some (.pointer none)) ∨
    (use = true ∧ ∃ t m N D, t < w.heap.size ∧ w.cell? ⟨c, 6, none⟩ = some (.pointer (some ⟨t, 0, none⟩)) ∧ w.cell? ⟨t, 3, none⟩ = some (.map (some m)) ∧ w.ownsMap Yba.prog 50 (plainElem Yba.prog 21) m N D ∧ Rep n tp tp.length D))
theorem RefOk.below {w w' : World} {B c n : Nat} {use : Bool} {tp : List (Nat × Nat)} (h : RefOk w c use n tp) (hb : Below B w w') (hB : ∀ g, g < w.heap.size → g < B) : RefOk w' c use n tp := by
  have hc : ∀ b o, b < w.heap.size → w'.cell? ⟨b, o, none⟩ = w.cell? ⟨b, o, none⟩ := fun b o hlt => hb.cell (p := ⟨b, o, none⟩) (hB b hlt)
  refine ⟨Nat.lt_of_lt_of_le h.1 hb.size, ?_⟩
  rcases h.2 with ⟨h1, h2⟩ | ⟨h1, t, m, N, D, ht, h2, h3, h4, h5⟩
  · exact .inl ⟨h1, (hc _ _ h.1).trans h2⟩
  · refine .inr ⟨h1, t, m, N, D, Nat.lt_of_lt_of_le ht hb.size, (hc _ _ h.1).trans h2, (hc _ _ ht).trans h3, ?_, h5⟩
    obtain ⟨es, clock, hh, r⟩ := h4
    exact ⟨es, clock, (hb.block m (hB m (World.ownsMap.lt ⟨es, clock, hh, r⟩))).trans hh, r⟩
set_option maxHeartbeats 400000 in
theorem ref_any (c : Nat) (use : Bool) (n x y : Nat) (tp : List (Nat × Nat)) (w : World) (hn2 : n < 130) (hx : x < n) (hy : y < n) (hR : RefOk w c use n tp) :
    Calls Yba.prog 13 #[.pointer (some ⟨c, 0, none⟩), .int .i64 x, .int .i64 y] w fun e w' => e = .returned (.int .i32 (refV use n tp x y)) ∧ w = w' := by
  obtain ⟨hlt, ⟨rfl, hc⟩ | ⟨rfl, t, m, N, D, ht, hc, hc2, hown, hrep⟩⟩ := hR
  · go_enter Yba.func13, Yba.ntmps13
    go_wp2
    go_ret
    exact ⟨rfl, rfl⟩
  · obtain ⟨v, ps, hrun, hv⟩ := hown.look_ok law Yba.underlying49 (zero21 w) (plainElem_int (a := 0) Yba.underlying21 (by decide)) (key_is x y (by omega) (by omega))
    obtain ⟨cv, rfl, hcv, -⟩ := plainElem_int_inv Yba.underlying21 hv
    have hr : refV true n tp x y = refTo n tp x y tp.length := rfl
    rcases hrep.2 x y hx hy with ⟨h1, h2⟩ | ⟨h1, h2⟩
    · rw [h2] at hrun
      have H : Hid (refV true n tp x y = -1) := by show _ = _; rw [hr, h1]
      clear hr hown hrep hv hcv h1 h2
      go_enter Yba.func13, Yba.ntmps13
      go_wp2
      go_ret
      exact ⟨ret_i32 H.out.symm, rfl⟩
    · rw [h1] at hrun
      have H : Hid (refV true n tp x y = cv) := by
        show _ = _
        rw [h2] at hcv
        simp at hcv
        rw [hr, hcv.1]
      clear hr hown hrep hv hcv h1 h2
      go_enter Yba.func13, Yba.ntmps13
      go_wp2
      go_ret
      exact ⟨ret_i32 H.out.symm, rfl⟩
end Go.Proofs.Ybulkauhk
