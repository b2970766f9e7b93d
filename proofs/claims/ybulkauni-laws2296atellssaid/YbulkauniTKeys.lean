import Derived.Test.YbulkauniRows
import Derived.RangeFuncNested
import Derived.RangeFuncBound
import Derived.RangeFuncCalls
import Derived.RangeFuncLeaves
import Derived.Shelf.Abstract
import Derived.WalkKit
import Derived.OwnWalkIn
import Derived.TacticsInMore
import Derived.LoopNIn
import Derived.LoopIn
import Derived.RegionIn
import Derived.Sort.MapsRangeIn
import Derived.Sort.KeysCollected
import Derived.Maps.AppendAt
import Derived.Maps.OwnSet
import Derived.Maps.OwnIn
import Derived.DeepKeys4
import Derived.Deep.QuietTactic
import Derived.BigQuiet
namespace Go.Proofs.Ybulkauni.lawS2296ATells
open Go.RowKit Go.Shelf Go.Maps

attribute [local go_sem] Oper.semAt_some

theorem laidOut : laidOutB Yba.prog = true := by kernel_rfl
theorem row68 : (68 : TypeId) < Yba.prog.types.size := of_decide_eq_true (by kernel_rfl)
theorem typesPos : 0 < Yba.prog.types.size := of_decide_eq_true (by kernel_rfl)
theorem wide68 : (match Yba.prog.underlying 68 with | some (.array _ _) | some (.struct _) => true | _ => false) = true := by rw [Yba.underlying68]
theorem kt68 : Yba.prog.keyTypeAt 2 68 = true := by kernel_rfl
set_option maxRecDepth 100000 in
theorem law68 : Keyed Yba.prog 68 := Keyed.of_law (deep_law_laid laidOut (m := 2) (by omega) row68 kt68 wide68)
/-- The passage whose code is c. -/
def K (c : Nat) : Value := .agg #[.int .u64 ((c / 64 : Nat) : Int), .int .u64 ((c / 8 % 8 : Nat) : Int), .int .u64 ((c % 8 : Nat) : Int)]
/-- What it reads as. -/
def kl (c : Nat) : Lit := .string (keyBytes [.int .u64 ((c / 64 : Nat) : Int), .int .u64 ((c / 8 % 8 : Nat) : Int), .int .u64 ((c % 8 : Nat) : Int)])
theorem keyType68 : Yba.prog.keyType 68 = true := by kernel_rfl
theorem cells68 : Yba.prog.cellsOf 68 = 3 := by kernel_rfl
theorem cells22 : Yba.prog.cellsOf 22 = 1 := by kernel_rfl
theorem wf64 (x : Nat) (h : x < 2000) : (Lit.int .u64 (x : Int)).wf = true := WalkArith.wf_u64 (by omega)
theorem key_is (c : Nat) (hc : c < 512) : keyOf Yba.prog 68 (K c) = some (kl c) := by
  have h1 := wf64 (c / 64) (by omega)
  have h2 := wf64 (c / 8 % 8) (by omega)
  have h3 := wf64 (c % 8) (by omega)
  have hf : (K c).formed Yba.prog 68 = true := by simp [K, Value.formed, Yba.underlying68, cells68]
  have hp := typesPos
  unfold K at hf ⊢
  unfold keyOf kl
  rw [Yba.underlying68]
  simp only [keyType68, hf, Bool.and_self, if_true]
  generalize Yba.prog.types.size = N at hp ⊢
  generalize c / 64 = x1 at *
  generalize c / 8 % 8 = x2 at *
  generalize c % 8 = x3 at *
  cases N with
  | zero => exact absurd hp (Nat.lt_irrefl 0)
  | succ d => simp [Program.keyLits, Yba.underlying68, Yba.underlying22, cells68, cells22, Value.cells, h1, h2, h3]
theorem K_inj {c c' : Nat} (h : K c = K c') : c = c' := by
  simp only [K, Value.agg.injEq] at h
  simp only [Array.mk.injEq, List.cons.injEq, Value.int.injEq, true_and, and_true] at h
  omega
theorem kl_inj {c c' : Nat} (hc : c < 512) (hc' : c' < 512) (h : kl c = kl c') : c = c' :=
  K_inj (law68.inj (key_is c hc) (by rw [h]; exact key_is c' hc'))
/-- The datum's keys are those of the codes l. -/
def KeySet {H : Type} (D : DataW H) (l : List Nat) : Prop :=
  l.Nodup ∧ (∀ c, c ∈ l → c < 512) ∧ (∀ c, c < 512 → (has D (kl c) = true ↔ c ∈ l)) ∧ ∀ y, has D y = true → ∃ c, c ∈ l ∧ y = kl c
/-- What has come so far. -/
def Come (l : List Nat) (left : Lit → Bool) (ss : List Nat) : Prop := ss.Nodup ∧ (∀ c, c ∈ ss → c ∈ l) ∧ ∀ c, c ∈ l → (c ∈ ss ↔ left (kl c) = false)
theorem Come.start {H : Type} {D : DataW H} {l : List Nat} (h : KeySet D l) : Come l (has D) [] :=
  ⟨List.nodup_nil, fun c hc => (by cases hc), fun c hc => by rw [(h.2.2.1 c (h.2.1 c hc)).2 hc]; simp⟩
theorem same_kl (c c' : Nat) : (kl c).sameKey (kl c') = true ↔ kl c = kl c' := by
  unfold kl; rw [Lit.string.injEq]; exact beq_iff_eq
theorem Come.step {H : Type} {D : DataW H} {l : List Nat} {left : Lit → Bool} {ss : List Nat} (hk : KeySet D l) (h : Come l left ss) {c : Nat} (hc : c ∈ l) (hl : left (kl c) = true) : Come l (fun z => left z && !z.sameKey (kl c)) (ss ++ [c]) := by
  have hnew : c ∉ ss := fun hx => by have := (h.2.2 c hc).1 hx; rw [hl] at this; cases this
  refine ⟨List.nodup_append.2 ⟨h.1, by simp, fun a ha b hb => by simp at hb; subst hb; exact fun e => hnew (e ▸ ha)⟩, fun a ha => ?_, fun a ha => ?_⟩
  · simp at ha
    rcases ha with ha | rfl
    · exact h.2.1 a ha
    · exact hc
  · show _ ↔ (left (kl a) && !(kl a).sameKey (kl c)) = false
    by_cases e : a = c
    · subst e
      rw [(same_kl a a).2 rfl]; simp
    · have hne : (kl a).sameKey (kl c) = false := by
        cases hs : (kl a).sameKey (kl c)
        · rfl
        · exact absurd (kl_inj (hk.2.1 a ha) (hk.2.1 c hc) ((same_kl a c).1 hs)) e
      simp [h.2.2 a ha, e, hne]
theorem Come.perm {l : List Nat} {left : Lit → Bool} {ss : List Nat} (h : Come l left ss) (hl : l.Nodup) (h0 : ∀ kl, left kl = false) : ss.Perm l :=
  (List.perm_ext_iff_of_nodup h.1 hl).2 fun c => ⟨h.2.1 c, fun hc => (h.2.2 c hc).2 (h0 _)⟩

set_option maxRecDepth 100000 in
set_option maxHeartbeats 1000000 in
theorem keys1_in (n : Nat) (hn : 1 ≤ n) {H : Type} (lp Bm b nn : Nat) (D0 : DataW H) {R : Value → Option (DataW H × List MemPlace)} (l : List Nat) (hks : KeySet D0 l) (J Jx : List Nat → World → Prop)
    (hY : ∀ pre x W, J pre W → pre.length < Maps.size D0 → YieldAt Fence.wide (n - 1) Yba.prog lp #[K x] W fun e W' => (e = .returned (.bool true) ∧ J (pre ++ [x]) W' ∧ KeepsWalks W W') ∨ (e = .returned (.bool false) ∧ Jx (pre ++ [x]) W'))
    (W : World) (hJ : AbidesFrom W.heap.size J) (hm : W.cell? ⟨Bm, 0, none⟩ = some (.map (some b))) (hown : W.ownsMap Yba.prog 68 R b nn D0) (h0 : J [] W) :
    CallsIn Fence.wide n Yba.prog 37 #[.func (.yield lp) #[] #[], .pointer (some ⟨Bm, 0, none⟩)] W fun e W' => (∃ v, e = .returned v) ∧ ((∃ ss : List Nat, ss.Perm l ∧ J ss W') ∨ (∃ pre, True ∧ Jx pre W')) := by
  refine callsIn_of_wp Yba.func37 rfl trivial ?_ rfl
  simp only [Yba.ntmps37, List.size_toArray, List.length_cons, List.length_nil, Nat.reduceAdd, Nat.reduceSub, Array.replicate_succ, Array.replicate_zero, List.push_toArray, List.append_toArray, List.nil_append, List.cons_append]
  gi_wp2_with (first
    | (gi_at_range; refine wpListIn_range_own _ rfl _ 50 rfl 68 _ law68 Yba.underlying50 _ b nn _ rfl hown ?_; intro w0 hrg0 hg0 hs0)
    | gi_in)
  go_frame
  gi_loopw [3] (fun _ wr => ∃ (left : Lit → Bool) (cnt : Nat) (ss : List Nat), wr.ranges Yba.prog 68 R b W.heap.size nn D0 left cnt ∧ ss.length + cnt ≤ Maps.size D0 ∧ Come l left ss ∧ J ss wr)
    (fun _ wr => wr.rangeLeft b W.heap.size)
  case atStart =>
    exact ⟨_, _, [], hrg0, by simp, Come.start hks, hJ [] W w0 none h0 hg0 (fun r e => by cases e)⟩
  case round =>
    obtain ⟨left, cnt, ss, hrg, hcs, hC, hJs⟩ := hrel
    gi_wp2_with (first
      | (gi_at_next; refine wpListIn_next_ranges _ rfl _ rfl 68 law68 R id id (fun key _ _ => ⟨key, rfl⟩) (fun v _ _ => ⟨v, rfl⟩) b W.heap.size nn _ _ _ rfl hrg ?_ ?_)
      | gi_in)
    · intro hc0 hl0
      gi_wp2
      go_end0
      exact ⟨⟨_, rfl⟩, .inl ⟨ss, hC.perm hks.1 hl0, hJs⟩⟩
    · intro x c kl' yd yp w2 cnt2 hkey hlk hv hat hrg2 hlt hg2 hs2 hen
      obtain ⟨cc, hcc, rfl⟩ := hks.2.2.2 kl' (has_true_of_atKey hat)
      obtain rfl : x = K cc := law68.inj hkey (key_is cc (hks.2.1 cc hcc))
      have hJ2 : J ss w2 := hJ ss wr w2 (some W.heap.size) hJs hg2 (fun r e => by cases e; exact ⟨Nat.le_refl _, hrg.iter_walk⟩)
      have hJ3 : J ss (w2.alloc (.cells #[.int .u64 ((cc / 64 : Nat) : Int), .int .u64 ((cc / 8 % 8 : Nat) : Int), .int .u64 ((cc % 8 : Nat) : Int)] 68)) := hJ ss w2 _ none hJ2 (World.grownBy_alloc _ _ none) (fun r e => by cases e)
      obtain ⟨fn, tmps, assign, body, hy, hR⟩ := hY ss cc _ hJ3 (by omega)
      have hrg2' := hrg2.of_walks (KeepsWalks.alloc w2 (.cells #[.int .u64 ((cc / 64 : Nat) : Int), .int .u64 ((cc / 8 % 8 : Nat) : Int), .int .u64 ((cc % 8 : Nat) : Int)] 68))
      have Hc : Hid _ := hC.step hks hcc hlk
      have Hl : Hid (∀ w3 : World, w3.ranges Yba.prog 68 R b W.heap.size nn D0 (fun z => left z && !z.sameKey (kl cc)) cnt2 → w3.rangeLeft b W.heap.size < wr.rangeLeft b W.heap.size) := fun w3 h3 => by rw [h3.left_eq, hrg.left_eq]; exact hlt
      have hcn : ss.length + 1 + cnt2 ≤ Maps.size D0 := by omega
      clear hs2 hkey hat hJ2 hJ3 hg2 hlt
      have HK : K cc = .agg #[.int .u64 ((cc / 64 : Nat) : Int), .int .u64 ((cc / 8 % 8 : Nat) : Int), .int .u64 ((cc % 8 : Nat) : Int)] := rfl
      rw [HK] at hen
      rw [HK] at hy
      rw [HK]
      clear HK
      generalize cc / 64 = x1 at *
      generalize cc / 8 % 8 = x2 at *
      generalize cc % 8 = x3 at *
      gi_wp2
      refine hR.mono ?_
      rintro e W3 (⟨rfl, hJ3, hk3⟩ | ⟨rfl, hJx3⟩)
      · gi_wp2
        have hrg3 := hrg2'.of_walks hk3
        go_roundw
        case rel => exact ⟨_, cnt2, ss ++ [cc], hrg3, by simpa using hcn, Hc.out, hJ3⟩
        case measure => exact Hl.out _ hrg3
      · gi_wp2
        refine bodyPost_ret (results_none rfl _ _ _) rfl ?_
        exact ⟨⟨_, rfl⟩, .inr ⟨_, trivial, hJx3⟩⟩
theorem keys_stops (n : Nat) (hn : 1 ≤ n) {H : Type} (Bm b nn : Nat) (D0 : DataW H) {R : Value → Option (DataW H × List MemPlace)} (l : List Nat) (hks : KeySet D0 l) (w : World) (hBm : Bm < w.heap.size)
    (hm : w.cell? ⟨Bm, 0, none⟩ = some (.map (some b))) (hown : w.ownsMap Yba.prog 68 R b nn D0) :
    SeqStopsK Fence.wide n Yba.prog 37 #[.pointer (some ⟨Bm, 0, none⟩)] (fun c : Nat => #[K c]) KeepsWalks (fun ss => ss.Perm l) (fun _ => True) (Maps.size D0) w := fun lp J Jx W hW hJ _ hY h0 => by
  have hown' : W.ownsMap Yba.prog 68 R b nn D0 := by
    have hbl := hown.lt
    obtain ⟨es, clock, hb, Ft, hs, hD⟩ := hown
    exact ⟨es, clock, (hW.block b hbl).trans hb, Ft, hs, hD⟩
  exact keys1_in n hn lp Bm b nn D0 l hks J Jx hY W hJ ((hW.cell (p := ⟨Bm, 0, none⟩) hBm).trans hm) hown' h0
/-- The cells of a row of passages. -/
def rowK (ss : List Nat) : List Value := ss.flatMap fun c => [.int .u64 ((c / 64 : Nat) : Int), .int .u64 ((c / 8 % 8 : Nat) : Int), .int .u64 ((c % 8 : Nat) : Int)]
theorem rowK_snoc (ss : List Nat) (c : Nat) : rowK (ss ++ [c]) = rowK ss ++ [.int .u64 ((c / 64 : Nat) : Int), .int .u64 ((c / 8 % 8 : Nat) : Int), .int .u64 ((c % 8 : Nat) : Int)] := by
  simp only [rowK, List.flatMap_append, List.flatMap_cons, List.flatMap_nil, List.append_nil]
theorem Yba.info68 : (Yba.prog.info? 68).map (fun i => (i.zero, i.size, i.bytes)) = some (some (.agg #[.int .u64 0, .int .u64 0, .int .u64 0]), 3, 24) := by kernel_rfl
theorem three_cells (w : World) (x y z : Value) (t : TypeId) : ∀ j u, [x, y, z][j]? = some u → (w.alloc (.cells #[x, y, z] t)).cell? ((⟨w.heap.size, 0, none⟩ : Addr).add j) = some u := by
  intro j u h
  match j, h with
  | 0, h => simp at h; subst h; simp [Addr.add]
  | 1, h => simp at h; subst h; simp [Addr.add]
  | 2, h => simp at h; subst h; simp [Addr.add]
set_option maxRecDepth 100000 in
set_option maxHeartbeats 4000000 in
theorem appendSeq_in (n : Nat) (hn : 6 ≤ n) {H : Type} (Bm b nn : Nat) (D0 : DataW H) {R : Value → Option (DataW H × List MemPlace)} (l : List Nat) (hks : KeySet D0 l) (hN : Maps.size D0 ≤ 4096) (w : World) (hBm : Bm < w.heap.size)
    (hm : w.cell? ⟨Bm, 0, none⟩ = some (.map (some b))) (hown : w.ownsMap Yba.prog 68 R b nn D0) :
    CallsIn Fence.wide n Yba.prog 47 #[.slice none 0 0, .func (.func 37) #[] #[.pointer (some ⟨Bm, 0, none⟩)]] w fun e w' => ∃ (v : Value) (ss : List Nat), e = .returned v ∧ ss.Perm l ∧ w'.ownsRow w.heap.size 68 3 v ss.length (rowK ss) ∧ Below w.heap.size w w' := by
  have h1 : 1 ≤ n := by omega
  obtain ⟨i0, hi, hz0, hz1, hz2⟩ := info_parts Yba.info68
  refine callsIn_of_wp_marks Yba.func47 rfl trivial ?_ rfl
  simp only [Yba.ntmps47, List.size_toArray, List.length_cons, List.length_nil, Nat.reduceAdd, Nat.reduceSub, Array.replicate_succ, Array.replicate_zero, List.push_toArray, List.append_toArray, List.nil_append, List.cons_append]
  gi_wp2
  have bS := Boxed.new w 111 (.slice none 0 0)
  have hB0 : Below w.heap.size w (w.alloc (.cells #[.slice none 0 0] 111)) := (Below.refl _ w).alloc (Nat.le_refl _) _
  have hm' : (w.alloc (.cells #[.slice none 0 0] 111)).cell? ⟨Bm, 0, none⟩ = some (.map (some b)) := (hB0.cell (p := ⟨Bm, 0, none⟩) hBm).trans hm
  have hown' := hown.alloc (.cells #[.slice none 0 0] 111)
  have hsz : (w.alloc (.cells #[.slice none 0 0] 111)).heap.size = w.heap.size + 1 := by simp
  obtain ⟨W0, hW0⟩ : ∃ W0, w.alloc (.cells #[.slice none 0 0] 111) = W0 := ⟨_, rfl⟩
  rw [hW0] at bS hB0 hsz hm' hown' ⊢
  clear hW0 hm hown
  refine wpIn_rangeFunc_ownH rfl h1 (gf := 37) (lb := #[.pointer (some ⟨Bm, 0, none⟩)]) rfl trivial (enters_of Yba.func37 (by kernel_rfl) rfl)
    (keys_stops (n - 1) (by omega) Bm b nn D0 l hks W0 (by omega) hm' hown') walksK_t walksK_b (Below.refl _ _) (fun _ => rfl)
    (fun pre W => (∃ v, Boxed W w.heap.size 111 v ∧ W.ownsRow w.heap.size 68 3 v pre.length (rowK pre) ∧ True) ∧ Below w.heap.size w W)
    (fun _ _ _ => False)
    (OwnFrom.and (Own.from (holdsRow_own w.heap.size w.heap.size 111 68 3 (fun pre : List Nat => pre.length) (fun pre => rowK pre) (fun _ _ => True)) _) (ownFrom_below (Nat.le_refl _) (by omega)))
    (fun _ _ _ _ _ hs _ _ => hs)
    ⟨⟨_, bS, World.ownsRow_nil _ _ _ _, trivial⟩, hB0⟩
    (fun x a' W => ∃ Bx, w.heap.size < Bx ∧ W.heap[Bx]? = some (.cells #[.int .u64 ((x / 64 : Nat) : Int), .int .u64 ((x / 8 % 8 : Nat) : Int), .int .u64 ((x % 8 : Nat) : Int)] 68 (0, 0)) ∧ a' = { tmps := #[.slice none 0 0, .func (.func 37) #[] #[.pointer (some ⟨Bm, 0, none⟩)], .pointer (some ⟨w.heap.size, 0, none⟩), undef, .slice none 0 0, .pointer (some ⟨Bx, 0, none⟩), .func (.func 37) #[] #[.pointer (some ⟨Bm, 0, none⟩)], K x, undef, undef, undef, undef, undef], defers := [] })
    ?hAx ?assign ?body ?done ?stop
  case hAx =>
    rintro x a' _ X Y row ⟨Bx, h1, h2, h3⟩ hg hr
    exact ⟨Bx, h1, (hg.block Bx (Array.getElem?_eq_some_iff.1 h2).1 (fun e => by obtain ⟨_, o, ho, hc⟩ := hr Bx e.symm; rw [h2] at ho; cases ho; cases hc)).trans h2, h3⟩
  case assign =>
    rintro lp pre x W K' ⟨⟨v, bV, hrow, _⟩, hB1⟩ hK
    unfold K
    generalize hx1 : x / 64 = x1 at *
    generalize hx2 : x / 8 % 8 = x2 at *
    generalize hx3 : x % 8 = x3 at *
    gi_wp2
    refine hK _ _ ((KeepsOthers.alloc _ _).from _) (KeepsWalks.alloc _ _) ⟨⟨v, bV.alloc _, hrow.alloc _, trivial⟩, hB1.alloc hB1.size _⟩ ⟨W.heap.size, bV.lt, World.alloc_heap_new W _, by subst hx1 hx2 hx3; rfl⟩
  case body =>
    rintro lp pre x a' W hl _ ⟨⟨v, bV, hrow, _⟩, hB1⟩ ⟨Bx, hBx, hX, rfl⟩ hlt
    have cV := bV.cell
    have fV := bV.frozen
    have HK : K x = .agg #[.int .u64 ((x / 64 : Nat) : Int), .int .u64 ((x / 8 % 8 : Nat) : Int), .int .u64 ((x % 8 : Nat) : Int)] := rfl
    rw [HK]
    clear HK
    have Hsn : Hid _ := rowK_snoc pre x
    generalize x / 64 = x1 at *
    generalize x / 8 % 8 = x2 at *
    generalize x % 8 = x3 at *
    have cX0 : W.cell? ⟨Bx, 0, none⟩ = some (.int .u64 (x1 : Int)) := by simp [World.cell?, hX]
    have cX1 : W.cell? ⟨Bx, 1, none⟩ = some (.int .u64 (x2 : Int)) := by simp [World.cell?, hX]
    have cX2 : W.cell? ⟨Bx, 2, none⟩ = some (.int .u64 (x3 : Int)) := by simp [World.cell?, hX]
    have hBxl : Bx < W.heap.size := (Array.getElem?_eq_some_iff.1 hX).1
    have hs1 := hB1.size
    gi_wp2_with (gi_at_builtin; refine wpListIn_append_own _ rfl (.tmp 8) (.tmp 10) 111 rfl w.heap.size 68 i0 (.agg #[.int .u64 0, .int .u64 0, .int .u64 0]) 3 24 Yba.underlying111 hi hz0 hz1 hz2 rfl (by decide) v pre.length (rowK pre) rfl (hrow.alloc _) ⟨W.heap.size, 0, none⟩ 1 1 [.int .u64 (x1 : Int), .int .u64 (x2 : Int), .int .u64 (x3 : Int)] rfl rfl (three_cells _ _ _ _ _) ?c2 ?c3 ?c4 ?c5 ?_)
    case c2 => intro u hu; simp at hu; rcases hu with rfl | rfl | rfl <;> rfl
    case c3 => unfold maxLen; omega
    case c4 => omega
    case c5 => simp; omega
    intro v' w1 hown1 hgrow1 _
    obtain ⟨g', cap', rfl⟩ : ∃ g' cap', v' = .slice (some ⟨g', 0, none⟩) (pre.length + 1) cap' := by
      rcases hown1.2 with ⟨_, h⟩ | ⟨g, cap, cur, h, _⟩
      · omega
      · exact ⟨g, cap, h⟩
    have hne : ∀ {Wx : World} {vx : Value} {nx : Nat} {xs : List Value}, Wx.ownsRow w.heap.size 68 3 vx nx xs → ∀ {vb : Value}, Boxed Wx w.heap.size 111 vb → some w.heap.size ≠ vx.ownBlock := fun hr vb hb e => by
      rcases hr.2 with ⟨rfl, _⟩ | ⟨g, cap, cur, rfl, _, hgb, _⟩
      · cases e
      · have : w.heap.size = g := by simpa [Value.ownBlock] using e
        subst this; rw [show _ = _ from hb] at hgb; cases hgb
    have bV1 : Boxed w1 w.heap.size 111 v := (bV.alloc _).kept hgrow1 (hne hrow bV)
    have cV1 := bV1.cell
    have fV1 := bV1.frozen
    have hb1 : Below w.heap.size w w1 := (hB1.alloc hB1.size _).grown hgrow1 (by simp; omega) (fun k e => (hrow.lt k e).1)
    have hlt1 := bV1.lt
    have HO : Hid (w1.ownsRow w.heap.size 68 3 (.slice (some ⟨g', 0, none⟩) (pre.length + 1) cap') (pre ++ [x]).length (rowK (pre ++ [x]))) := by show World.ownsRow _ _ _ _ _ _ _; rw [Hsn.out, List.length_append]; exact hown1
    have Hn2 : Hid (some w.heap.size ≠ (Value.slice (some ⟨g', 0, none⟩) (pre.length + 1) cap').ownBlock) := hne hown1 bV1
    have Hk : Hid (KeepsWalks W w1) := (KeepsWalks.alloc _ _).trans (KeepsWalks.of_grownBy hgrow1 (fun j o hj ho => by
      rcases (hrow.alloc (.cells #[.int .u64 (x1 : Int), .int .u64 (x2 : Int), .int .u64 (x3 : Int)] 68)).2 with ⟨rfl, _⟩ | ⟨g, cap, cur, rfl, _, hgb, _⟩
      · cases hj
      · have : g = j := by simpa [Value.ownBlock] using hj
        subst this; rw [hgb] at ho; cases ho; rfl))
    have Hk2 : Hid (KeepsFrom W0.heap.size W w1) := ((KeepsOthers.alloc W (.cells #[.int .u64 (x1 : Int), .int .u64 (x2 : Int), .int .u64 (x3 : Int)] 68)).from _).trans ((KeepsOthers.of_grownBy hgrow1 (fun j o hj ho => by
      rcases (hrow.alloc (.cells #[.int .u64 (x1 : Int), .int .u64 (x2 : Int), .int .u64 (x3 : Int)] 68)).2 with ⟨rfl, _⟩ | ⟨g, cap, cur, rfl, _, hgb, _⟩
      · cases hj
      · have : g = j := by simpa [Value.ownBlock] using hj
        subst this; rw [hgb] at ho; cases ho; rfl)).from _)
    clear hown1 hgrow1 hrow Hsn cX0 cX1 cX2 hX hne
    gi_wp2
    exact ⟨Hk2.out.trans ((KeepsOthers.setCell _ _ _).from _), Hk.out.trans (KeepsWalks.setCell _ _ _), ⟨_, bV1.set _, HO.out.kept (grownBy_setCell' _ _ _) (.inr fun e => Hn2.out e.symm), trivial⟩, hb1.setCell (p := ⟨w.heap.size, 0, none⟩) (Nat.le_refl _) _⟩
  case done =>
    rintro D zs W hD hS ⟨⟨v, bV, hrow, _⟩, hB1⟩ hK
    have cV := bV.cell
    gi_wp2
    refine ⟨by simp, .inl ⟨_, _, rfl, run_takeDeferred hK, ?_⟩⟩
    refine ⟨_, results_tmp rfl _ _ _, v, zs, rfl, hS, hrow.kept (grownBy_putObj' _ D _) ?_, hB1.trans (belowK_b (w := w) (Nat.le_refl _) W D _ _ (by omega) hK rfl rfl)⟩
    rcases hrow.2 with ⟨rfl, _⟩ | ⟨g, cap, cur, rfl, _, hgb, _⟩
    · exact .inl rfl
    · refine .inr fun e' => ?_
      have : g = D := by simpa [Value.ownBlock] using e'
      subst this; rw [hgb] at hK; cases hK
  case stop =>
    rintro D c pre W _ _ h _
    exact h.elim
set_option maxRecDepth 100000 in
set_option maxHeartbeats 1000000 in
theorem keys_any (b : Nat) (w : World) : Calls Yba.prog 24 #[.map (some b)] w fun e w' => e = .returned (.func (.func 37) #[] #[.pointer (some ⟨w.heap.size, 0, none⟩)]) ∧ w.alloc (.cells #[.map (some b)] 50) = w' := by
  go_enter Yba.func24, Yba.ntmps24
  go_wp2
  go_ret
  exact ⟨rfl, rfl⟩
set_option maxRecDepth 100000 in
set_option maxHeartbeats 1000000 in
theorem collect_any {H : Type} (Bm b nn : Nat) (D0 : DataW H) {R : Value → Option (DataW H × List MemPlace)} (l : List Nat) (hks : KeySet D0 l) (hN : Maps.size D0 ≤ 4096) (w : World) (hBm : Bm < w.heap.size)
    (hm : w.cell? ⟨Bm, 0, none⟩ = some (.map (some b))) (hown : w.ownsMap Yba.prog 68 R b nn D0) :
    Calls Yba.prog 35 #[.func (.func 37) #[] #[.pointer (some ⟨Bm, 0, none⟩)]] w fun e w' => ∃ (v : Value) (ss : List Nat), e = .returned v ∧ ss.Perm l ∧ w'.ownsRow w.heap.size 68 3 v ss.length (rowK ss) ∧ Below w.heap.size w w' := by
  have Hc : Hid _ := callsIn_wide.1 (appendSeq_in 6 (Nat.le_refl _) Bm b nn D0 l hks hN w hBm hm hown)
  clear hm hown
  go_enter Yba.func35, Yba.ntmps35
  go_wp2_with fail
  refine Calls.mono Hc.out ?_
  rintro e w1 ⟨v, ss, rfl, h1, h2, h3⟩
  have H2 : Hid _ := h2
  clear h2
  go_wp2
  go_ret
  exact ⟨v, ss, rfl, h1, H2.out, h3⟩
end Go.Proofs.Ybulkauni.lawS2296ATells
