import Derived.Test.YbulkauniTTell
namespace Go.Proofs.Ybulkauni.lawS2296ATells
open Go.ChangeShapes Go.WideShapes Go.ChangeAt Go.RowKit Go.Maps
open Go.Proofs.Ybulkauni.lawS2296CSendTaken (RowIs clone_any below_drewN bcell)
def msgA (r1 r2 : Int) (c : Nat) (pa : Option Addr) (np pc : Nat) : Value := pm r1 r2 ((og c : Nat) : Int) ((c % 8 : Nat) : Int) (.slice pa np pc) (.slice none 0 0)
def msgE (r1 r2 : Int) (c : Nat) (qa : Option Addr) (nr qc : Nat) : Value := pm r1 r2 ((og c : Nat) : Int) ((c % 8 : Nat) : Int) (.slice none 0 0) (.slice qa nr qc)
theorem cell_heap {w : World} {b t o : Nat} {a : Array Value} {v : Value} (h : w.heap[b]? = some (.cells a t (0, 0))) (hv : a[o]? = some v) : w.cell? ⟨b, o, none⟩ = some v := by simp [World.cell?, h, hv]
set_option maxRecDepth 100000 in
set_option maxHeartbeats 2000000 in
theorem tell_any (R B C c : Nat) (ap es : List (Nat × Value)) (r1 r2 : Int) (pa : Option Addr) (np pc : Nat) (qa : Option Addr) (nr qc : Nat) (w : World)
    (hR : R < B) (hB : B ≤ w.heap.size) (hC : C ≤ c) (hg : Good c) (hnp : np ≤ 1000) (hnr : nr ≤ 1000) (hla : ap.length ≤ 4096) (hle : es.length ≤ 4096) (hf : ∀ o, w.frozen? ⟨R, o, none⟩ = false) (hO : Out w R B C ap es) (hpm : ∀ e ∈ es, IsPm r1 r2 e.2) :
    Calls Yba.prog 26 #[.pointer (some ⟨R, 0, none⟩), .int .u64 ((c / 64 : Nat) : Int), .agg #[.int .u64 r1, .int .u64 r2, .int .u64 ((og c : Nat) : Int), .int .u64 ((c % 8 : Nat) : Int), .slice pa np pc, .slice qa nr qc]] w fun e w' =>
      e = .returned (.tuple #[]) ∧ Out w' R B (c + 1) (ap ++ if 0 < np then [(c / 64, msgA r1 r2 c pa np pc)] else []) (es ++ if 0 < nr then [(c / 64, msgE r1 r2 c qa nr qc)] else []) ∧ TFr R B w w' := by
  have hRw : R < w.heap.size := Nat.lt_of_lt_of_le hR hB
  obtain ⟨apn, hap⟩ : ∃ l, l = ap ++ if 0 < np then [(c / 64, msgA r1 r2 c pa np pc)] else [] := ⟨_, rfl⟩
  obtain ⟨esn, hes⟩ : ∃ l, l = es ++ if 0 < nr then [(c / 64, msgE r1 r2 c qa nr qc)] else [] := ⟨_, rfl⟩
  rw [← hap, ← hes]
  obtain ⟨w1, hw1⟩ : ∃ w1, w1 = w.alloc (.cells #[.int .u64 r1, .int .u64 r2, .int .u64 ((og c : Nat) : Int), .int .u64 ((c % 8 : Nat) : Int), .slice pa np pc, .slice qa nr qc] 71) := ⟨_, rfl⟩
  have hb1 : Below w.heap.size w w1 := by rw [hw1]; exact (Below.refl _ _).alloc (Nat.le_refl _) _
  have hs1 : w.heap.size < w1.heap.size := by rw [hw1]; simp
  have HH : Hid (w1.heap[w.heap.size]? = some (.cells #[.int .u64 r1, .int .u64 r2, .int .u64 ((og c : Nat) : Int), .int .u64 ((c % 8 : Nat) : Int), .slice pa np pc, .slice qa nr qc] 71)) := by rw [hw1]; exact heap_alloc_new _ _
  obtain ⟨va, vc, hm, ve, ec, lm, hT⟩ := hO
  have hT1 := hT.below hb1 hRw
  have hB1 : B ≤ w1.heap.size := Nat.le_trans hB hb1.size
  have hR1 : R < w1.heap.size := Nat.lt_of_lt_of_le hRw hb1.size
  have F1 : TFr R B w w1 := (Fr.refl _ _ _ w).below hb1 hRw
  have hf1 : ∀ o, w1.frozen? ⟨R, o, none⟩ = false := fun o => (F1.frozen o).trans (hf o)
  have Hc1 : Hid (0 < np → Calls Yba.prog 40 #[.pointer (some ⟨R, 0, none⟩), .int .u64 ((c / 64 : Nat) : Int), msgA r1 r2 c pa np pc] w1 fun e w' => e = .returned (.tuple #[]) ∧ Out w' R B (c + 1) apn es ∧ TFr R B w w' ∧ w'.heap[w.heap.size]? = w1.heap[w.heap.size]?) := fun h0 => by
    rw [if_pos h0] at hap
    rw [hap]
    refine send_any R _ _ w1 ?_
    refine (add_apart R B C c va vc hm ap r1 r2 pa np pc w1 hR hB1 hC hg hla hf1 hT1.a).mono ?_
    rintro e w' ⟨rfl, hS⟩
    obtain ⟨va', vc', hm', h1, h2⟩ := hT1.stepA hR hB1 hS
    obtain ⟨-, -, -, -, -, -, h4⟩ := hS
    refine ⟨rfl, rfl, ⟨_, _, _, _, _, _, h1⟩, F1.trans h2, h4.block _ hs1 (by omega) ?_⟩
    rintro (e | e)
    · have := (row_lt hT.a.own _ e).2; omega
    · have := held_lt hT.a.held _ e; omega
  have Hc2 : Hid (0 < nr → ∀ ap' w2, Out w2 R B (c + 1) ap' es → TFr R B w w2 → Calls Yba.prog 41 #[.pointer (some ⟨R, 0, none⟩), .int .u64 ((c / 64 : Nat) : Int), msgE r1 r2 c qa nr qc] w2 fun e w' => e = .returned (.tuple #[]) ∧ Out w' R B (c + 1) ap' esn ∧ TFr R B w w') := fun h0 ap' w2 hO2 hF2 => by
    rw [if_pos h0] at hes
    rw [hes]
    obtain ⟨va2, vc2, hm2, ve2, ec2, lm2, hT2⟩ := hO2
    have hB2 : B ≤ w2.heap.size := Nat.le_trans hB hF2.size
    refine sendNow_any R _ _ w2 ?_
    refine (add_now R B (c / 64) ve2 ec2 lm2 es r1 r2 _ _ none 0 0 qa nr qc w2 hR hB2 (by have := hg.1; omega) h0 hnr hle (fun o => (hF2.frozen o).trans (hf o)) hT2.e hpm).mono ?_
    rintro e w' ⟨rfl, hS⟩
    obtain ⟨va', vc', hm', h1, h2⟩ := hT2.stepE hR hB2 hS
    exact ⟨rfl, rfl, ⟨_, _, _, _, _, _, h1⟩, hF2.trans h2⟩
  have HO1 : Hid (Out w1 R B (c + 1) ap es) := ⟨_, _, _, _, _, _, hT1.mono (by omega)⟩
  have HF1 : Hid _ := F1
  have Ha : Hid (¬ 0 < np → apn = ap) := fun h0 => by rw [hap, if_neg h0, List.append_nil]
  have He : Hid (¬ 0 < nr → esn = es) := fun h0 => by rw [hes, if_neg h0, List.append_nil]
  clear hap hes
  clear hT hT1 hf hf1 hpm F1 hla hle
  have e1 : w1.cell? ⟨w.heap.size, 0, none⟩ = some (.int .u64 r1) := by rw [hw1]; exact (by go_simp)
  have e2 : w1.cell? ⟨w.heap.size, 1, none⟩ = some (.int .u64 r2) := by rw [hw1]; exact (by go_simp)
  unfold msgA msgE pm at *
  generalize hgo : og c = oo at *
  generalize hgr : c % 8 = rr at *
  generalize hgt : c / 64 = t at *
  clear hgo hgr hgt
  go_enter Yba.func26, Yba.ntmps26
  go_upto_if 9 with fail
  rw [← hw1]
  have c0 := cell_heap HH.out (o := 0) rfl
  have c1 := cell_heap HH.out (o := 1) rfl
  have c2 := cell_heap HH.out (o := 2) rfl
  have c3 := cell_heap HH.out (o := 3) rfl
  have c4 := cell_heap HH.out (o := 4) rfl
  have c5 := cell_heap HH.out (o := 5) rfl
  go_cut [] (fun wx => Hid (Out wx R B (c + 1) apn es ∧ TFr R B w wx ∧ wx.heap[w.heap.size]? = w1.heap[w.heap.size]?))
  case first =>
    by_cases h0 : 0 < np
    · have h0' : (0 : Int) < (np : Int) := by omega
      have Hc := Hc1.out h0
      have HC : Hid _ := Hc
      clear Hc h0 hw1
      go_wp2_with fail
      refine Calls.mono HC.out ?_
      rintro e w2 ⟨rfl, hq⟩
      have HQ : Hid _ := hq
      clear hq
      go_wp2
      go_meet
      case rel => exact HQ
    · have h0' : ¬ (0 : Int) < (np : Int) := by omega
      have HQ : Hid (Out w1 R B (c + 1) apn es ∧ TFr R B w w1 ∧ w1.heap[w.heap.size]? = w1.heap[w.heap.size]?) := ⟨by rw [Ha.out h0]; exact HO1.out, HF1.out, rfl⟩
      clear h0 hw1
      go_wp2
      go_meet
      case rel => exact ⟨HQ.out.1, HQ.out.2.1, rfl⟩
  case rest =>
    have hh := hcut.out.2.2.trans HH.out
    clear c0 c1 c2 c3 c4 c5 e1 e2 hw1 Hc1
    have c0 := cell_heap hh (o := 0) rfl
    have c1 := cell_heap hh (o := 1) rfl
    have c2 := cell_heap hh (o := 2) rfl
    have c3 := cell_heap hh (o := 3) rfl
    have c5 := cell_heap hh (o := 5) rfl
    by_cases h0 : 0 < nr
    · have h0' : (0 : Int) < (nr : Int) := by omega
      have HC : Hid _ := Hc2.out h0 _ wc hcut.out.1 hcut.out.2.1
      clear hh h0
      go_wp2_with fail
      refine Calls.mono HC.out ?_
      rintro e w2 ⟨rfl, hq⟩
      have HQ : Hid _ := hq
      clear hq
      go_wp2
      go_end0
      exact ⟨rfl, HQ.out⟩
    · have h0' : ¬ (0 : Int) < (nr : Int) := by omega
      have He' : Hid _ := He.out h0
      clear hh h0
      go_wp2
      go_end0
      rw [He'.out]
      exact ⟨rfl, hcut.out.1, hcut.out.2.1⟩
end Go.Proofs.Ybulkauni.lawS2296ATells
