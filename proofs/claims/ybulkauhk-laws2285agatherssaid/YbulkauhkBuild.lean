import Derived.Test.YbulkauhkMat
import Derived.Deep.DeepCutAuto

namespace Go.Proofs.Ybulkauhk
open Go.ChangeShapes Go.WideShapes Go.ChangeAt Go.RowKit
open Go.Maps
/-- What is known of the cycle that came in. -/
def CycIn (w : World) (a : Option Addr) (len : Nat) (cy : List Nat) : Prop :=
  cy.length = len ∧ ∀ k, k < len → ∃ b off, a = some ⟨b, off, none⟩ ∧ b < w.heap.size ∧ w.cell? ⟨b, off + k, none⟩ = some (.int .u16 (cy.getD k 0)) ∧ cy.getD k 0 < 65536
/-- The cycle's first k cells are laid. -/
def CycTo (w : World) (y len n : Nat) (cy : List Nat) (k : Nat) : Prop :=
  (∀ j, j < k → w.cell? ⟨y, j, none⟩ = some (.int .i64 ((cy.getD j 0 % (n + 3) : Nat) : Int))) ∧ (∀ j, j < len → ∃ v, w.cell? ⟨y, j, none⟩ = some v) ∧ ∀ j, w.frozen? ⟨y, j, none⟩ = false
theorem cyc_step {w : World} {y len n k : Nat} {cy : List Nat} (h : CycTo w y len n cy k) (hk : k < len) : CycTo (w.setCell ⟨y, k, none⟩ (.int .i64 ((cy.getD k 0 % (n + 3) : Nat) : Int))) y len n cy (k + 1) := by
  refine ⟨fun j hj => ?_, fun j hj => ?_, fun j => ?_⟩
  · by_cases e : j = k
    · subst e
      obtain ⟨v, hv⟩ := h.2.1 j hk
      exact World.cell?_setCell_same _ _ _ hv
    · rw [World.cell?_setCell_other _ _ _ _ (by intro he; injection he; omega)]
      exact h.1 j (by omega)
  · by_cases e : j = k
    · subst e
      obtain ⟨v, hv⟩ := h.2.1 j hk
      exact ⟨_, World.cell?_setCell_same _ _ _ hv⟩
    · rw [World.cell?_setCell_other _ _ _ _ (by intro he; injection he; omega)]
      exact h.2.1 j hj
  · rw [World.frozen?_setCell]; exact h.2.2 j
theorem wrap32_small (k : Nat) (h : k < 5000) : IntKind.i32.wrap (k : Int) = (k : Int) := by
  simp only [IntKind.wrap, IntKind.bits, IntKind.signed]
  simp
  omega
theorem tail_below (w5 : World) (o1 o2 o3 : Obj) : Below w5.heap.size w5 (((w5.alloc o1).alloc o2).alloc o3) :=
  (((Below.refl _ _).alloc (Nat.le_refl _) _).alloc (by simp) _).alloc (by simp; omega) _
theorem tail_ref (w5 : World) (o1 o3 : Obj) (n : Nat) (tp : List (Nat × Nat)) (h0 : n = 0)
    (h1 : (((w5.alloc o1).alloc (.map #[] 0)).alloc o3).cell? ⟨w5.heap.size, 6, none⟩ = some (.pointer (some ⟨w5.heap.size + 1 + 1, 0, none⟩)))
    (h2 : (((w5.alloc o1).alloc (.map #[] 0)).alloc o3).cell? ⟨w5.heap.size + 1 + 1, 3, none⟩ = some (.map (some (w5.heap.size + 1)))) :
    RefOk (((w5.alloc o1).alloc (.map #[] 0)).alloc o3) w5.heap.size true n tp := by
  refine ⟨by simp; omega, .inr ⟨rfl, w5.heap.size + 1 + 1, w5.heap.size + 1, 0, .map [], by simp, h1, h2, ?_, isMap_empty, fun x y hx => by omega⟩⟩
  have := (World.ownsMap_made (H := Unit) (w5.alloc o1) Yba.prog 50 (plainElem Yba.prog 21)).alloc o3
  simpa using this
theorem end_below {w5 wr : World} {o1 : Obj} {T : Array Value} {v : Value} (h : Below (w5.heap.size + 1) (w5.alloc o1) wr) : Below w5.heap.size w5 ((wr.setCell ⟨w5.heap.size, 6, none⟩ v).alloc (.cells T 55)) := by
  have hs := h.size
  simp only [World.size_alloc] at hs
  exact ((((Below.refl w5.heap.size w5).alloc (Nat.le_refl _) o1).trans (h.mono (by omega))).setCell (Nat.le_refl _) _).alloc (by simp; omega) _
theorem end_cell {w5 wr : World} {o1 : Obj} {T : Array Value} {v x : Value} (h : Below (w5.heap.size + 1) (w5.alloc o1) wr) (hc : (w5.alloc o1).cell? ⟨w5.heap.size, 0, none⟩ = some x) : ((wr.setCell ⟨w5.heap.size, 6, none⟩ v).alloc (.cells T 55)).cell? ⟨w5.heap.size, 0, none⟩ = some x := by
  have hs := h.size
  simp only [World.size_alloc] at hs
  have h1 := (h.cell (p := ⟨w5.heap.size, 0, none⟩) (Nat.lt_succ_self _)).trans hc
  rw [World.cell?_alloc_lt _ _ _ (by show w5.heap.size < _; simp; omega), World.cell?_setCell_other _ _ _ _ (by intro he; injection he; omega)]
  exact h1
theorem end_ref {w5 wr : World} {o1 : Obj} {T : Array Value} {n N : Nat} {tp : List (Nat × Nat)} {D : DataW Unit} (h : Below (w5.heap.size + 1) (w5.alloc o1) wr) (hc : wr.cell? ⟨w5.heap.size, 6, none⟩ = some (.pointer none))
    (hT : T[3]? = some (.map (some (w5.heap.size + 1)))) (ho : wr.ownsMap Yba.prog 50 (plainElem Yba.prog 21) (w5.heap.size + 1) N D) (hr : Rep n tp tp.length D) :
    RefOk ((wr.setCell ⟨w5.heap.size, 6, none⟩ (.pointer (some ⟨wr.heap.size, 0, none⟩))).alloc (.cells T 55)) w5.heap.size true n tp := by
  have hs := h.size
  simp only [World.size_alloc] at hs
  have hz : (wr.setCell ⟨w5.heap.size, 6, none⟩ (.pointer (some ⟨wr.heap.size, 0, none⟩))).heap.size = wr.heap.size := by simp
  refine ⟨by simp; omega, .inr ⟨rfl, wr.heap.size, w5.heap.size + 1, N, D, by simp, ?_, ?_, ?_, hr⟩⟩
  · rw [World.cell?_alloc_lt _ _ _ (by show w5.heap.size < _; simp; omega)]
    exact World.cell?_setCell_same _ _ _ hc
  · have := World.cell?_alloc_mark (wr.setCell ⟨w5.heap.size, 6, none⟩ (.pointer (some ⟨wr.heap.size, 0, none⟩))) T 55 (0, 0) 3
    rw [hz] at this
    exact this.trans hT
  · exact (ho.setCell (by show w5.heap.size + 1 ≠ w5.heap.size; omega) _).alloc _
theorem cyc_ok {wr w' : World} {y len n : Nat} {cy : List Nat} (h : CycTo wr y len n cy len) (hl : cy.length = len) (hy : y < wr.heap.size) (hb : Below wr.heap.size wr w') : CycOk w' (some ⟨y, 0, none⟩) (cy.map (· % (n + 3))) := by
  intro k hk
  rw [List.length_map, hl] at hk
  refine ⟨y, 0, rfl, Nat.lt_of_lt_of_le hy hb.size, ?_⟩
  rw [Nat.zero_add, (bcell hb).1 _ _ hy, h.1 k hk]
  have hk' : k < cy.length := by omega
  simp [List.getD_eq_getElem?_getD, hk']
theorem Yba.info113 : (Yba.prog.info? 113).map (fun i => (i.zero, i.size, i.bytes)) = some (some (.pointer none), 1, 8) := by kernel_rfl
set_option maxRecDepth 100000 in
set_option maxHeartbeats 4000000 in
theorem build_any (nn n : Nat) (va : Option Addr) (vlen vcap : Nat) (vis : List (Nat × Nat)) (ta : Option Addr) (tlen tcap : Nat) (tp : List (Nat × Nat)) (use : Bool) (ca : Option Addr) (clen ccap : Nat) (cy : List Nat) (w : World)
    (hnn : nn < 256) (hn : n = nn % 130) (hv : vlen ≤ 1024) (ht : tlen ≤ 1024) (hc : clen ≤ 1024) (hV : PairsOk w va vlen vis) (hT : PairsOk w ta tlen tp) (hC : CycIn w ca clen cy) :
    Calls Yba.prog 5 #[.int .u8 nn, .slice va vlen vcap, .slice ta tlen tcap, .bool use, .slice ca clen ccap] w fun e w' => ∃ s c ca', e = .returned (.tuple #[.pointer (some ⟨s, 0, none⟩), .pointer (some ⟨c, 0, none⟩), .slice ca' clen clen, .int .i64 n]) ∧
      EvOk w' s n ∧ VisOk w' c n vis ∧ RefOk w' c use n tp ∧ CycOk w' ca' (cy.map (· % (n + 3))) ∧ Below w.heap.size w w' := by
  have HV : Hid (PairsOk w va vlen vis) := hV
  have HT : Hid (PairsOk w ta tlen tp) := hT
  have HC : Hid (CycIn w ca clen cy) := hC
  clear hV hT hC
  have hn2 : n < 130 := by omega
  have hni : (nn : Int) % 130 = (n : Int) := by omega
  clear hn
  obtain ⟨W, hW⟩ : ∃ W, W = (n + 63) / 64 := ⟨_, rfl⟩
  have hWi : ((n : Int) + 63) / 64 = (W : Int) := by omega
  have hW3 : W ≤ 3 := by omega
  have HW : Hid (∀ a, a < n → a / 64 < W) := fun a ha => by omega
  clear hW
  obtain ⟨i40, hi40, hz40, hz41, hz42⟩ := info_parts Yba.info40
  obtain ⟨i43, hi43, hy40, hy41, hy42⟩ := info_parts Yba.info43
  obtain ⟨i3, hi3, hx40, hx41, hx42⟩ := info_parts Yba.info3
  go_enter Yba.func5, Yba.ntmps5
  go_wp2_with (at_make; refine wpList_make_full _ rfl _ _ 38 rfl w.heap.size 40 i40 (.slice none 0 0) 1 Yba.underlying38 hi40 hz40 hz41 _ _ _ _ n rfl rfl (by omega) (by omega) ?b2 ?b3 (Nat.le_refl _) ?_)
  case b2 => rw [hz42]; omega
  case b3 => unfold maxLen; omega
  intro w1 hown1 hgrow1
  have hb1 : Below w.heap.size w w1 := (Below.refl _ _).grown hgrow1 (Nat.le_refl _) (fun k h => by cases h)
  have HM : Hid (Mat w1 w.heap.size n W 0 (fun _ => 0) (fun _ _ => 0)) := mat_start _ _ hown1
  clear hown1 hgrow1
  go_wp2
  go_loopw [40] (fun si wr => ∃ (k : Nat) (gs : Nat → Nat), k ≤ n ∧ si = .int .i64 k ∧ Hid (Mat wr w.heap.size n W k gs (fun _ _ => 0)) ∧ Below w.heap.size w wr) (fun si _ => n - (intOf si).toNat)
  case atStart => exact ⟨0, _, Nat.zero_le _, rfl, HM, hb1⟩
  case round =>
    obtain ⟨k, gs, hk, rfl, hM, hnx⟩ := hrel
    clear HM hb1
    by_cases hlt : k < n
    · have hlt' := hM.out.lt
      obtain ⟨v0, hc0⟩ := hM.out.any k hlt
      have hf0 := hM.out.fz k
      go_wp2_with (at_make; refine wpList_make_full _ rfl _ _ 40 rfl w.heap.size 43 i43 (.int .u64 0) 1 Yba.underlying40 hi43 hy40 hy41 _ _ _ _ W rfl rfl (by omega) (by omega) ?d2 ?d3 ?d4 ?_)
      case d2 => rw [hy42]; omega
      case d3 => unfold maxLen; omega
      case d4 => exact hnx.size
      intro w2 hown2 hgrow2
      have hb2 : Below wr.heap.size wr w2 := (Below.refl _ _).grown hgrow2 (Nat.le_refl _) (fun k h => by cases h)
      have hc0' := ((bcell hb2).1 _ k hlt').trans hc0
      have hf0' := ((bcell hb2).2 _ k hlt').trans hf0
      have HM2 : Hid _ := mat_make hM.out hlt rfl hown2 hb2
      have hb3 : Below w.heap.size w w2 := hnx.trans (hb2.mono hnx.size)
      clear hown2 hgrow2 hc0 hf0
      go_wp2
      go_roundw
      case rel => exact ⟨k + 1, _, by omega, by go_num, HM2, hb3.setCell (Nat.le_refl _) _⟩
      case measure => simp [intOf]; omega
    · obtain rfl : n = k := by omega
      go_upto_if 50 with fail
      go_cut [] (fun wx => ∃ f, Hid (Mat wx w.heap.size n W n gs f ∧ BitsOk n vis.length vis f) ∧ Below w.heap.size w wx)
      case first =>
        by_cases hn0 : n = 0
        · have Hb0 : Hid (BitsOk n vis.length vis (fun _ _ => 0)) := ⟨fun _ _ => by show 0 < _; omega, fun a b ha => by omega⟩
          have hn0' : ¬ (0 : Int) < (n : Int) := by omega
          clear hn0
          go_wp2
          go_meet
          case rel => exact ⟨_, ⟨hM.out, Hb0.out⟩, hnx⟩
        · have hn0' : (0 : Int) < (n : Int) := by omega
          go_wp2
          go_loopw [53] (fun si wr2 => ∃ (k : Nat) (f : Nat → Nat → Nat), k ≤ vlen ∧ si = .int .i64 k ∧ Hid (Mat wr2 w.heap.size n W n gs f ∧ BitsOk n k vis f) ∧ Below w.heap.size w wr2) (fun si _ => vlen - (intOf si).toNat)
          case atStart => exact ⟨0, _, Nat.zero_le _, rfl, ⟨hM.out, bits_start _ _⟩, hnx⟩
          case round =>
            obtain ⟨k, f, hk2, rfl, hMB, hnx2⟩ := hrel
            clear hM hnx
            by_cases hlt2 : k < vlen
            · obtain ⟨b1, o1, rfl, p1, c1, c2, l1, l2⟩ := HV.out.2 k hlt2
              have c1' := (hnx2.cell (p := ⟨b1, o1 + k * 2, none⟩) p1).trans c1
              have c2' := (hnx2.cell (p := ⟨b1, o1 + k * 2 + 1, none⟩) p1).trans c2
              have p1' : b1 < wr.heap.size := Nat.lt_of_lt_of_le p1 hnx2.size
              have Hst : Hid _ := fun A Bb hA hB => bits_step n k vis f hMB.out.2 (by rw [HV.out.1]; exact hlt2) A Bb hA hB
              clear c1 c2
              generalize (vis.getD k (0, 0)).1 = A at *
              generalize (vis.getD k (0, 0)).2 = Bb at *
              obtain ⟨a, ha⟩ : ∃ a, a = A % n := ⟨_, rfl⟩
              obtain ⟨b, hb⟩ : ∃ b, b = Bb % n := ⟨_, rfl⟩
              have hai : (A : Int) % (n : Int) = (a : Int) := by rw [ha]; simp
              have hbi : (Bb : Int) % (n : Int) = (b : Int) := by rw [hb]; simp
              have han : a < n := by rw [ha]; exact Nat.mod_lt _ (by omega)
              have hbn : b < n := by rw [hb]; exact Nat.mod_lt _ (by omega)
              have Hst2 : Hid _ := Hst.out a b ha hb
              clear ha hb Hst
              obtain ⟨r1, r2, r3⟩ := hMB.out.1.row b hbn
              have hq := HW.out a han
              have hw1 := hMB.out.1.word b hbn (a / 64) hq
              have hw2 := hMB.out.1.wfz b hbn (a / 64)
              have hm := hMB.out.2.1 b (a / 64)
              have hB1 := hMB.out.1.lt
              have Hset : Hid _ := set_bit (f b (a / 64)) (a % 64) hm (Nat.mod_lt _ (by omega))
              go_wp2
              go_roundw
              case rel => exact ⟨k + 1, _, by omega, by go_num, ⟨by rw [Hset.out]; exact (mat_set hMB.out.1 hbn hq).below ((Below.refl _ _).alloc (Nat.le_refl _) _), Hst2.out⟩, (hnx2.setCell (Nat.le_of_lt r1) _).alloc (by simp; omega) _⟩
              case measure => simp [intOf]; omega
            · obtain rfl : vlen = k := by omega
              have HB : Hid (BitsOk n vis.length vis f) := by rw [HV.out.1]; exact hMB.out.2
              go_wp2
              go_meet
              case rel => exact ⟨f, ⟨hMB.out.1, HB.out⟩, hnx2⟩
      case rest =>
        obtain ⟨f, hMB, hnx2⟩ := hcut
        obtain ⟨w5, hw5⟩ : ∃ w5, w5 = wc := ⟨_, rfl⟩
        subst hw5
        clear hM hnx
        go_upto_if 85 with fail
        go_cut [] (fun wx => Hid (VisOk wx w5.heap.size n vis ∧ RefOk wx w5.heap.size use n tp) ∧ Below w.heap.size w wx)
        case first =>
          have hbc := hnx2.size
          cases use
          · go_wp2
            go_meet
            case rel => exact ⟨⟨vis_of_mat hMB.out.1 HW.out hMB.out.2 ((Below.refl _ _).alloc (Nat.le_refl _) _) (by go_simp), ⟨by simp, .inl ⟨rfl, by go_simp⟩⟩⟩, hnx2.alloc hbc _⟩
          · have hmm := @run_makeMap Yba.prog
            by_cases hn0 : n = 0
            · have hn0' : ¬ (0 : Int) < (n : Int) := by omega
              clear hn0
              go_wp2
              go_meet
              case rel => exact ⟨⟨vis_of_mat hMB.out.1 HW.out hMB.out.2 (tail_below w5 _ _ _) (by go_simp), tail_ref w5 _ _ n tp (by omega) (by go_simp) (by go_simp)⟩, hnx2.trans ((tail_below w5 _ _ _).mono hbc)⟩
            · have hn0' : (0 : Int) < (n : Int) := by omega
              go_wp2
              go_loopw [91] (fun si wr3 => ∃ (k : Nat) (D : DataW Unit), k ≤ tlen ∧ si = .int .i64 k ∧ Hid (wr3.ownsMap Yba.prog 50 (plainElem Yba.prog 21) (w5.heap.size + 1) k D ∧ Rep n tp k D) ∧ Below (w5.heap.size + 1) (w5.alloc (.cells #[.slice (some ⟨w.heap.size, 0, none⟩) n n, .slice none 0 0, .slice none 0 0, .bool false, .slice none 0 0, .slice none 0 0, .pointer none] 48)) wr3) (fun si _ => tlen - (intOf si).toNat)
              case atStart => exact ⟨0, _, Nat.zero_le _, rfl, ⟨by have := World.ownsMap_made (H := Unit) (w5.alloc (.cells #[.slice (some ⟨w.heap.size, 0, none⟩) n n, .slice none 0 0, .slice none 0 0, .bool false, .slice none 0 0, .slice none 0 0, .pointer none] 48)) Yba.prog 50 (plainElem Yba.prog 21); simpa using this, rep_start _ _⟩, (Below.refl _ _).alloc (by simp) _⟩
              case round =>
                obtain ⟨k, D, hk3, rfl, hMR, hnx4⟩ := hrel
                by_cases hlt3 : k < tlen
                · obtain ⟨b1, o1, rfl, p1, c1, c2, l1, l2⟩ := HT.out.2 k hlt3
                  have p2 : b1 < w5.heap.size := Nat.lt_of_lt_of_le p1 hnx2.size
                  have c1' := (hnx4.cell (p := ⟨b1, o1 + k * 2, none⟩) (Nat.lt_succ_of_lt p2)).trans ((World.cell?_alloc_lt _ _ _ p2).trans ((hnx2.cell (p := ⟨b1, o1 + k * 2, none⟩) p1).trans c1))
                  have c2' := (hnx4.cell (p := ⟨b1, o1 + k * 2 + 1, none⟩) (Nat.lt_succ_of_lt p2)).trans ((World.cell?_alloc_lt _ _ _ p2).trans ((hnx2.cell (p := ⟨b1, o1 + k * 2 + 1, none⟩) p1).trans c2))
                  have hs4 := hnx4.size
                  simp only [World.size_alloc] at hs4
                  have p1' : b1 < wr.heap.size := by omega
                  have Hst : Hid _ := rep_step n tp k D (by omega) hn2 hMR.out.2
                  clear c1 c2
                  generalize (tp.getD k (0, 0)).1 = A at *
                  generalize (tp.getD k (0, 0)).2 = Bb at *
                  obtain ⟨a, ha⟩ : ∃ a, a = A % n := ⟨_, rfl⟩
                  obtain ⟨b, hb⟩ : ∃ b, b = Bb % n := ⟨_, rfl⟩
                  rw [← ha, ← hb] at Hst
                  have hai : (A : Int) % (n : Int) = (a : Int) := by rw [ha]; simp
                  have hbi : (Bb : Int) % (n : Int) = (b : Int) := by rw [hb]; simp
                  have han : a < n := by rw [ha]; exact Nat.mod_lt _ (by omega)
                  have hbn : b < n := by rw [hb]; exact Nat.mod_lt _ (by omega)
                  clear ha hb
                  have Hlt : Hid (w5.heap.size + 1 < wr.heap.size) := hMR.out.1.lt
                  obtain ⟨w7, hrun7, hown7, hturn7⟩ := (hMR.out.1.alloc (.cells #[.int .u8 (A : Int), .int .u8 (Bb : Int)] 42)).drew.store (e := 21) law Yba.underlying49 (by unfold maxLen; omega) (key_is a b (by omega) (by omega)) (plainElem_int (a := (k : Int)) Yba.underlying21 (wf32 k (by omega)))
                  have HO : Hid _ := hown7
                  have hgr := hturn7.grown
                  have Hb7 : Hid (Below (w5.heap.size + 1) (w5.alloc (.cells #[.slice (some ⟨w.heap.size, 0, none⟩) n n, .slice none 0 0, .slice none 0 0, .bool false, .slice none 0 0, .slice none 0 0, .pointer none] 48)) w7) := ((hnx4.alloc (by omega) _).drew).grown hgr (by simp; omega) (fun x hx => by cases hx; exact Nat.le_refl _)
                  clear hown7 hturn7 hgr
                  have q1 := wrap32_small a (by omega)
                  have q2 := wrap32_small b (by omega)
                  have q3 := wrap32_small k (by omega)
                  go_wp2
                  go_region
                  all_goals go_wp2
                  all_goals
                    go_roundw
                    case rel => exact ⟨k + 1, _, by omega, by go_num, ⟨HO.out, Hst.out⟩, Hb7.out⟩
                    case measure => simp [intOf]; omega
                · obtain rfl : tlen = k := by omega
                  have hs4 := hnx4.size
                  simp only [World.size_alloc] at hs4
                  have h6 : wr.cell? ⟨w5.heap.size, 6, none⟩ = some (.pointer none) := (hnx4.cell (p := ⟨w5.heap.size, 6, none⟩) (Nat.lt_succ_self _)).trans (by go_simp)
                  have f6 : wr.frozen? ⟨w5.heap.size, 6, none⟩ = false := (hnx4.frozen (p := ⟨w5.heap.size, 6, none⟩) (Nat.lt_succ_self _)).trans (by go_simp)
                  have g6 : w5.heap.size < wr.heap.size := by omega
                  have Hrep : Hid (Rep n tp tp.length D) := by rw [HT.out.1]; exact hMR.out.2
                  go_wp2
                  go_meet
                  case rel => exact ⟨⟨vis_of_mat hMB.out.1 HW.out hMB.out.2 (end_below hnx4) (end_cell hnx4 (x := .slice (some ⟨w.heap.size, 0, none⟩) n n) (by go_simp)), end_ref hnx4 h6 (by rfl) hMR.out.1 Hrep.out⟩, hnx2.trans ((end_below hnx4).mono hbc)⟩
        case rest =>
          obtain ⟨hVR, hnx3⟩ := hcut
          clear hMB hnx2
          go_wp2_with (at_make; refine wpList_make_full _ rfl _ _ 26 rfl wc.heap.size 3 i3 (.int .i64 0) 1 Yba.underlying26 hi3 hx40 hx41 _ _ _ _ clen rfl rfl (by omega) (by omega) ?e2 ?e3 (Nat.le_refl _) ?_)
          case e2 => rw [hx42]; omega
          case e3 => unfold maxLen; omega
          intro w6 hown6 hgrow6
          have hb6 : Below wc.heap.size wc w6 := (Below.refl _ _).grown hgrow6 (Nat.le_refl _) (fun k h => by cases h)
          obtain ⟨m1, m2, m3⟩ := made_row hown6
          have HR6 : Hid ((∀ j, j < clen → w6.cell? ⟨wc.heap.size, j, none⟩ = some (.int .i64 0)) ∧ ∀ j, w6.frozen? ⟨wc.heap.size, j, none⟩ = false) := ⟨m2, m3⟩
          clear m2 m3 hown6 hgrow6
          go_wp2
          go_loopw [124] (fun si wr4 => ∃ k : Nat, k ≤ clen ∧ si = .int .i64 k ∧ Hid (CycTo wr4 wc.heap.size clen n cy k) ∧ Below wc.heap.size wc wr4 ∧ wc.heap.size < wr4.heap.size) (fun si _ => clen - (intOf si).toNat)
          case atStart => exact ⟨0, Nat.zero_le _, rfl, ⟨fun j hj => by omega, fun j hj => ⟨_, HR6.out.1 j hj⟩, HR6.out.2⟩, hb6, m1⟩
          case round =>
            obtain ⟨k, hk4, rfl, hCT, hnx4, hlt4⟩ := hrel
            clear HR6 hb6 m1
            by_cases hlt5 : k < clen
            · obtain ⟨b1, o1, rfl, p1, c1, l1⟩ := HC.out.2 k hlt5
              have p1' : b1 < wc.heap.size := Nat.lt_of_lt_of_le p1 hnx3.size
              have c1' := (hnx4.cell (p := ⟨b1, o1 + k, none⟩) p1').trans ((hnx3.cell (p := ⟨b1, o1 + k, none⟩) p1).trans c1)
              obtain ⟨v0, hc0⟩ := hCT.out.2.1 k hlt5
              have hf0 := hCT.out.2.2 k
              have Hst : Hid _ := cyc_step hCT.out hlt5
              clear c1
              generalize cy.getD k 0 = x at *
              obtain ⟨z, hz⟩ : ∃ z, z = x % (n + 3) := ⟨_, rfl⟩
              rw [← hz] at Hst
              have hxi : (x : Int) % ((n : Int) + 3) = (z : Int) := by rw [hz]; simp
              clear hz
              go_wp2
              go_roundw
              case rel => exact ⟨k + 1, by omega, by go_num, Hst.out, hnx4.setCell (Nat.le_refl _) _, by simpa using hlt4⟩
              case measure => simp [intOf]; omega
            · obtain rfl : clen = k := by omega
              obtain ⟨i11, hi11, hv40, hv41, hv42⟩ := info_parts Yba.info113
              go_wp2_with (at_make; refine wpList_make_full _ rfl _ _ 59 rfl wr.heap.size 113 i11 (.pointer none) 1 Yba.underlying59 hi11 hv40 hv41 _ _ _ _ n rfl rfl (by omega) (by omega) ?f2 ?f3 (Nat.le_refl _) ?_)
              case f2 => rw [hv42]; omega
              case f3 => unfold maxLen; omega
              intro w8 hown8 hgrow8
              have hb8 : Below wr.heap.size wr w8 := (Below.refl _ _).grown hgrow8 (Nat.le_refl _) (fun k h => by cases h)
              clear hown8 hgrow8
              have hs8 := hb8.size
              go_wp2
              have hbz : ∀ o1 o2 o3 : Obj, Below wr.heap.size wr (((w8.alloc o1).alloc o2).alloc o3) := fun o1 o2 o3 => ((hb8.alloc hs8 _).alloc (by simp; omega) _).alloc (by simp; omega) _
              have hbc : ∀ o1 o2 o3 : Obj, Below wc.heap.size wc (((w8.alloc o1).alloc o2).alloc o3) := fun o1 o2 o3 => hnx4.trans ((hbz o1 o2 o3).mono (Nat.le_of_lt hlt4))
              refine bodyPost_ret (v := .tuple #[.pointer (some ⟨w8.heap.size + 1 + 1, 0, none⟩), .pointer (some ⟨w5.heap.size, 0, none⟩), .slice (some ⟨wc.heap.size, 0, none⟩) clen clen, .int .i64 n]) (by simp [results, Yba.results5, go_sem]) rfl ⟨w8.heap.size + 1 + 1, w5.heap.size, some ⟨wc.heap.size, 0, none⟩, rfl, ?_, hVR.out.1.below (hbc _ _ _), hVR.out.2.below (hbc _ _ _) (fun _ h => h), cyc_ok hCT.out HC.out.1 hlt4 (hbz _ _ _), hnx3.trans ((hbc _ _ _).mono hnx3.size)⟩
              exact ⟨by simp, w8.heap.size + 1, w8.heap.size, some ⟨wr.heap.size, 0, none⟩, by simp, by simp; omega, by go_simp, by go_simp, by go_simp⟩
end Go.Proofs.Ybulkauhk
