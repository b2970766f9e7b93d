import Derived.Test.YbulkauniTNewA
namespace Go.Proofs.Ybulkauni.lawS2296ATells
open Go.ChangeShapes Go.WideShapes Go.ChangeAt Go.RowKit Go.Maps
open Go.Proofs.Ybulkauni.lawS2296CSendTaken (RowIs clone_any below_drewN bcell)
set_option maxRecDepth 100000 in
set_option maxHeartbeats 4000000 in
theorem new_any (g : Nat) (w : World) (hg : g < w.heap.size) (h : w.cell? ⟨g, 0, none⟩ = some (.int .u64 1)) :
    Calls Yba.prog 6 #[.int .u64 1, .int .u64 1, .slice (some ⟨g, 0, none⟩) 1 1, .agg #[.int .u64 0, .int .u64 0, .int .u64 0, .int .u64 0, .int .i64 0, .int .u64 0, .int .u64 0], .int .i64 0, .slice none 0 0, .slice none 0 0] w fun e w' =>
      ∃ R sl m5 m13 m14 m15 m17 m, e = .returned (.pointer (some ⟨R, 0, none⟩)) ∧ w.heap.size ≤ R ∧ w'.heap[R]? = some (.cells (rep sl m5 m13 m14 m15 m17 m) 63 (0, 0)) ∧ w.heap.size ≤ m ∧ w'.heap[m]? = some (.map #[] 0) ∧ Below w.heap.size w w' := by
  go_enter Yba.func6, Yba.ntmps6
  go_wp2_with fail
  refine (contains_one g _ ?_).mono ?_
  · exact (World.cell?_alloc_lt _ _ _ hg).trans h
  rintro e w1 ⟨rfl, rfl⟩
  go_wp2
  refine wp_region_inv (NInv g w.heap.size (w.alloc (.cells #[.int .u64 0, .int .u64 0, .int .u64 0, .int .u64 0, .int .i64 0, .int .u64 0, .int .u64 0] 30))) (by kernel_rfl) (by kernel_rfl) ?_ ?_ ?_
  · exact ⟨fun _ => undef, .pointer none, rfl, (Below.refl _ _).drew, fun j hj hl => (by rw [getD_replicate_false] at hl; cases hl), fun hl => (by rw [getD_replicate_false] at hl; cases hl)⟩
  · have hmm := @run_makeMap Yba.prog
    rintro listed a wx i ⟨f, r, rfl, hb, hG, hr⟩ hi
    have hsz := hb.size
    simp only [World.size_alloc] at hsz
    have hcl : ∀ k, k < 7 → wx.cell? ⟨w.heap.size, k, none⟩ = #[.int .u64 0, .int .u64 0, .int .u64 0, .int .u64 0, .int .i64 0, .int .u64 0, .int .u64 0][k]? := fun k hk => (hb.cell (p := ⟨w.heap.size, k, none⟩) (by simp)).trans (World.cell?_alloc_mark w _ 30 (0, 0) k)
    have hgc : wx.cell? ⟨g, 0, none⟩ = some (.int .u64 1) := (hb.cell (p := ⟨g, 0, none⟩) (by simp; omega)).trans ((World.cell?_alloc_lt _ _ _ hg).trans h)
    have Hcl : Hid _ := hcl
    have Hgc : Hid _ := hgc
    have HG : Hid _ := hG
    have Hr : Hid _ := hr
    clear hcl hgc
    obtain ⟨hun, o, ho, hall⟩ := mem_ready.1 hi
    have hlt : i < 30 := (Array.getElem?_eq_some_iff.1 ho).1
    match i, hlt with
    | 0, _ =>
      cases ho
      exact step_value rfl rfl (w' := wx) (v := .int .u64 1) (by go_simp) (NInv.step 0 _ hb hG hr (Below.refl _ _) rfl (by decide) _ rfl)
    | 1, _ =>
      cases ho
      exact step_value rfl rfl (w' := wx) (v := .slice (some ⟨g, 0, none⟩) 1 1) (by go_simp) (NInv.step 1 _ hb hG hr (Below.refl _ _) rfl (by decide) _ rfl)
    | 2, _ =>
      cases ho
      have d1 : f 35 = .slice (some ⟨g, 0, none⟩) 1 1 := hG 1 (by decide) (hall { on := 1, ground := .data } (by simp) rfl)
      refine step_call rfl rfl (f := 19) (args := #[.slice (some ⟨g, 0, none⟩) 1 1]) (by go_simp) ?_
      refine (clone_any (some ⟨g, 0, none⟩) 1 1 [1] wx (by decide) ⟨rfl, fun k hk => ⟨g, 0, rfl, by omega, by obtain rfl : k = 0 := (by omega); exact Hgc.out⟩⟩ (fun e => by cases e)).mono ?_
      rintro e w2 ⟨a', cap', rfl, _, hb2⟩
      exact ⟨_, rfl, NInv.step 2 _ hb hG hr hb2 ⟨_, _, rfl⟩ (by decide) _ rfl⟩
    | 3, _ =>
      cases ho
      exact step_value rfl rfl (w' := wx) (v := .int .u64 1) (by go_simp) (NInv.step 3 _ hb hG hr (Below.refl _ _) rfl (by decide) _ rfl)
    | 4, _ =>
      cases ho
      have d3 : f 37 = .int .u64 1 := hG 3 (by decide) (hall { on := 3, ground := .data } (by simp) rfl)
      exact step_value rfl rfl (w' := wx) (v := .agg #[.int .u64 0, .int .u64 1]) (by go_simp) (NInv.step 4 _ hb hG hr (Below.refl _ _) rfl (by decide) _ rfl)
    | 5, _ =>
      cases ho
      exact step_value rfl rfl (w' := wx.alloc (.map #[] 0)) (v := .map (some wx.heap.size)) (by go_simp) (NInv.step 5 _ hb hG hr ((Below.refl _ _).alloc (Nat.le_refl _) _) ⟨_, rfl⟩ (by decide) _ rfl)
    | 6, _ =>
      cases ho
      have c0 := Hcl.out 0 (by decide)
      have c1 := Hcl.out 1 (by decide)
      have c2 := Hcl.out 2 (by decide)
      have c3 := Hcl.out 3 (by decide)
      have c4 := Hcl.out 4 (by decide)
      have c5 := Hcl.out 5 (by decide)
      have c6 := Hcl.out 6 (by decide)
      exact step_value rfl rfl (w' := wx) (v := .agg #[.int .u64 0, .int .u64 0, .int .u64 0, .int .u64 0, .int .i64 0, .int .u64 0, .int .u64 0]) (by go_simp) (NInv.step 6 _ hb hG hr (Below.refl _ _) rfl (by decide) _ rfl)
    | 7, _ =>
      cases ho
      exact step_value rfl rfl (w' := wx) (v := .int .i64 0) (by go_simp) (NInv.step 7 _ hb hG hr (Below.refl _ _) rfl (by decide) _ rfl)
    | 8, _ =>
      cases ho
      exact step_value rfl rfl (w' := wx) (v := .slice none 0 0) (by go_simp) (NInv.step 8 _ hb hG hr (Below.refl _ _) rfl (by decide) _ rfl)
    | 9, _ =>
      cases ho
      exact step_value rfl rfl (w' := wx) (v := .slice none 0 0) (by go_simp) (NInv.step 9 _ hb hG hr (Below.refl _ _) rfl (by decide) _ rfl)
    | 10, _ =>
      cases ho
      exact step_value rfl rfl (w' := wx) (v := .pointer (some ⟨w.heap.size, 4, none⟩)) (by go_simp) (NInv.step 10 _ hb hG hr (Below.refl _ _) rfl (by decide) _ rfl)
    | 11, _ =>
      cases ho
      have d10 : f 44 = .pointer (some ⟨w.heap.size, 4, none⟩) := hG 10 (by decide) (hall { on := 10, ground := .data } (by simp) rfl)
      have c4 := Hcl.out 4 (by decide)
      exact step_value rfl rfl (w' := wx) (v := .int .i64 0) (by go_simp) (NInv.step 11 _ hb hG hr (Below.refl _ _) rfl (by decide) _ rfl)
    | 12, _ =>
      cases ho
      have d7 : f 41 = .int .i64 0 := hG 7 (by decide) (hall { on := 7, ground := .data } (by simp) rfl)
      have d8 : f 42 = .slice none 0 0 := hG 8 (by decide) (hall { on := 8, ground := .data } (by simp) rfl)
      have d9 : f 43 = .slice none 0 0 := hG 9 (by decide) (hall { on := 9, ground := .data } (by simp) rfl)
      have d11 : f 45 = .int .i64 0 := hG 11 (by decide) (hall { on := 11, ground := .data } (by simp) rfl)
      refine step_call rfl rfl (f := 20) (args := #[.int .i64 0, .slice none 0 0, .slice none 0 0, .int .i64 0]) (by go_simp) ?_
      refine (newLog_nil wx).mono ?_
      rintro e w2 ⟨rfl, hb2⟩
      exact ⟨_, rfl, NInv.step 12 _ hb hG hr hb2 rfl (by decide) _ rfl⟩
    | 13, _ =>
      cases ho
      exact step_value rfl rfl (w' := wx.alloc (.map #[] 0)) (v := .map (some wx.heap.size)) (by go_simp) (NInv.step 13 _ hb hG hr ((Below.refl _ _).alloc (Nat.le_refl _) _) ⟨_, rfl⟩ (by decide) _ rfl)
    | 14, _ =>
      cases ho
      exact step_value rfl rfl (w' := wx.alloc (.map #[] 0)) (v := .map (some wx.heap.size)) (by go_simp) (NInv.step 14 _ hb hG hr ((Below.refl _ _).alloc (Nat.le_refl _) _) ⟨_, rfl⟩ (by decide) _ rfl)
    | 15, _ =>
      cases ho
      exact step_value rfl rfl (w' := wx.alloc (.map #[] 0)) (v := .map (some wx.heap.size)) (by go_simp) (NInv.step 15 _ hb hG hr ((Below.refl _ _).alloc (Nat.le_refl _) _) ⟨_, rfl⟩ (by decide) _ rfl)
    | 16, _ =>
      cases ho
      exact step_value rfl rfl (w' := wx) (v := .int .u64 1) (by go_simp) (NInv.step 16 _ hb hG hr (Below.refl _ _) rfl (by decide) _ rfl)
    | 17, _ =>
      cases ho
      exact step_value rfl rfl (w' := wx.alloc (.map #[] 0)) (v := .map (some wx.heap.size)) (by go_simp) (NInv.step 17 _ hb hG hr ((Below.refl _ _).alloc (Nat.le_refl _) _) ⟨_, rfl⟩ (by decide) _ rfl)
    | 18, _ =>
      cases ho
      exact step_value rfl rfl (w' := wx.alloc (.map #[] 0)) (v := .map (some wx.heap.size)) (by go_simp) (NInv.step 18 _ hb hG hr ((Below.refl _ _).alloc (Nat.le_refl _) _) ⟨_, rfl, by omega, World.alloc_heap_new wx _⟩ (by decide) _ rfl)
    | 19, _ =>
      cases ho
      exact step_value rfl rfl (w' := wx) (v := .int .i64 0) (by go_simp) (NInv.step 19 _ hb hG hr (Below.refl _ _) rfl (by decide) _ rfl)
    | 20, _ =>
      cases ho
      exact step_value rfl rfl (w' := wx) (v := .slice none 0 0) (by go_simp) (NInv.step 20 _ hb hG hr (Below.refl _ _) rfl (by decide) _ rfl)
    | 21, _ =>
      cases ho
      have d20 : f 54 = .slice none 0 0 := hG 20 (by decide) (hall { on := 20, ground := .data } (by simp) rfl)
      exact step_value rfl rfl (w' := wx) (v := .int .i64 0) (by go_simp) (NInv.step 21 _ hb hG hr (Below.refl _ _) rfl (by decide) _ rfl)
    | 22, _ =>
      cases ho
      have d19 : f 53 = .int .i64 0 := hG 19 (by decide) (hall { on := 19, ground := .data } (by simp) rfl)
      have d21 : f 55 = .int .i64 0 := hG 21 (by decide) (hall { on := 21, ground := .data } (by simp) rfl)
      exact step_value rfl rfl (w' := wx) (v := .int .i64 0) (by go_simp; rfl) (NInv.step 22 _ hb hG hr (Below.refl _ _) rfl (by decide) _ rfl)
    | 23, _ =>
      cases ho
      exact step_value rfl rfl (w' := wx) (v := .int .i64 0) (by go_simp) (NInv.step 23 _ hb hG hr (Below.refl _ _) rfl (by decide) _ rfl)
    | 24, _ =>
      cases ho
      exact step_value rfl rfl (w' := wx) (v := .slice none 0 0) (by go_simp) (NInv.step 24 _ hb hG hr (Below.refl _ _) rfl (by decide) _ rfl)
    | 25, _ =>
      cases ho
      have d24 : f 58 = .slice none 0 0 := hG 24 (by decide) (hall { on := 24, ground := .data } (by simp) rfl)
      exact step_value rfl rfl (w' := wx) (v := .int .i64 0) (by go_simp) (NInv.step 25 _ hb hG hr (Below.refl _ _) rfl (by decide) _ rfl)
    | 26, _ =>
      cases ho
      have d23 : f 57 = .int .i64 0 := hG 23 (by decide) (hall { on := 23, ground := .data } (by simp) rfl)
      have d25 : f 59 = .int .i64 0 := hG 25 (by decide) (hall { on := 25, ground := .data } (by simp) rfl)
      exact step_value rfl rfl (w' := wx) (v := .int .i64 0) (by go_simp; rfl) (NInv.step 26 _ hb hG hr (Below.refl _ _) rfl (by decide) _ rfl)
    | 27, _ =>
      cases ho
      have d0 : f 34 = .int .u64 1 := hG 0 (by decide) (hall { on := 0, ground := .data } (by simp) rfl)
      have d2 : ∃ a c, f 36 = .slice a 1 c := hG 2 (by decide) (hall { on := 2, ground := .data } (by simp) rfl)
      obtain ⟨sla, slc, d2⟩ := d2
      have d4 : f 38 = .agg #[.int .u64 0, .int .u64 1] := hG 4 (by decide) (hall { on := 4, ground := .data } (by simp) rfl)
      have d5 : ∃ m, f 39 = .map (some m) := hG 5 (by decide) (hall { on := 5, ground := .data } (by simp) rfl)
      obtain ⟨m5, d5⟩ := d5
      have d6 : f 40 = .agg #[.int .u64 0, .int .u64 0, .int .u64 0, .int .u64 0, .int .i64 0, .int .u64 0, .int .u64 0] := hG 6 (by decide) (hall { on := 6, ground := .data } (by simp) rfl)
      have d12 : f 46 = .agg #[.int .i64 0, .slice none 0 0, .map none, .slice none 0 0, .int .i64 0, .int .i64 0] := hG 12 (by decide) (hall { on := 12, ground := .data } (by simp) rfl)
      have d13 : ∃ m, f 47 = .map (some m) := hG 13 (by decide) (hall { on := 13, ground := .data } (by simp) rfl)
      obtain ⟨m13, d13⟩ := d13
      have d14 : ∃ m, f 48 = .map (some m) := hG 14 (by decide) (hall { on := 14, ground := .data } (by simp) rfl)
      obtain ⟨m14, d14⟩ := d14
      have d15 : ∃ m, f 49 = .map (some m) := hG 15 (by decide) (hall { on := 15, ground := .data } (by simp) rfl)
      obtain ⟨m15, d15⟩ := d15
      have d16 : f 50 = .int .u64 1 := hG 16 (by decide) (hall { on := 16, ground := .data } (by simp) rfl)
      have d17 : ∃ m, f 51 = .map (some m) := hG 17 (by decide) (hall { on := 17, ground := .data } (by simp) rfl)
      obtain ⟨m17, d17⟩ := d17
      have d18 : ∃ m, f 52 = .map (some m) ∧ w.heap.size ≤ m ∧ wx.heap[m]? = some (.map #[] 0) := hG 18 (by decide) (hall { on := 18, ground := .data } (by simp) rfl)
      obtain ⟨m, d18, hm1, hm2⟩ := d18
      have d22 : f 56 = .int .i64 0 := hG 22 (by decide) (hall { on := 22, ground := .data } (by simp) rfl)
      have d26 : f 60 = .int .i64 0 := hG 26 (by decide) (hall { on := 26, ground := .data } (by simp) rfl)
      exact step_value rfl rfl (w' := wx) (v := .agg (rep (.slice sla 1 slc) m5 m13 m14 m15 m17 m)) (by simp only [d0, d2, d4, d5, d6, d12, d13, d14, d15, d16, d17, d18, d22, d26]; kernel_rfl) (NInv.step 27 _ hb hG hr (Below.refl _ _) ⟨_, _, _, _, _, _, _, rfl, hm1, hm2⟩ (by decide) _ rfl)
    | 28, _ =>
      cases ho
      have d27 : ∃ sl m5 m13 m14 m15 m17 m, f 61 = .agg (rep sl m5 m13 m14 m15 m17 m) ∧ w.heap.size ≤ m ∧ wx.heap[m]? = some (.map #[] 0) := hG 27 (by decide) (hall { on := 27, ground := .data } (by simp) rfl)
      obtain ⟨sl, m5, m13, m14, m15, m17, m, d27, hm1, hm2⟩ := d27
      exact step_value rfl rfl (w' := wx.alloc (.cells (rep sl m5 m13 m14 m15 m17 m) 63)) (v := .pointer (some ⟨wx.heap.size, 0, none⟩)) (by unfold rep at d27 ⊢; go_simp) (NInv.step 28 _ hb hG hr ((Below.refl _ _).alloc (Nat.le_refl _) _) ⟨_, _, _, _, _, _, _, _, rfl, by omega, World.alloc_heap_new wx _, hm1, heap_keep hm2 ((Below.refl _ _).alloc (Nat.le_refl _) _)⟩ (by decide) _ rfl)
    | 29, _ =>
      cases ho
      have d28 := hG 28 (by decide) (hall { on := 28, ground := .data } (by simp) rfl)
      exact step_value rfl rfl (w' := wx) (v := f 62) (by go_simp) ⟨f, f 62, rfl, hb, fun j hj hl => (by rcases getD_set hl with e | e; omega; exact hG j hj e), fun _ => d28⟩
  · rintro listed a wx ⟨f, r, rfl, hb, hG, hr⟩ hall
    obtain ⟨R, sl, m5, m13, m14, m15, m17, m, d28, h1, h2, h3, h4⟩ : G g w.heap.size wx r 28 := hr (hall 29 (by decide))
    subst d28
    have hb0 : Below w.heap.size w wx := ((Below.refl w.heap.size w).alloc (Nat.le_refl _) _).trans (hb.mono (by simp))
    clear hG hr hall
    go_wp2
    go_ret
    exact ⟨R, sl, m5, m13, m14, m15, m17, m, rfl, h1, h2, h3, h4, hb0⟩
end Go.Proofs.Ybulkauni.lawS2296ATells
