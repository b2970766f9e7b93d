import Derived.Test.YbulkauhkMap
import Derived.Deep.RegionLaw
import Derived.Deep.AppendLies
namespace Go.Proofs.Ybulkauhk
open Go.ChangeShapes Go.WideShapes Go.ChangeAt Go.RowKit
open Go.Maps
theorem Yba.info21 : (Yba.prog.info? 21).map (fun i => (i.zero, i.size, i.bytes)) = some (some (.int .i32 0), 1, 4) := by kernel_rfl
def i32V (l : List Int) : List Value := l.map (Value.int .i32)
/-- What is known of the blame. -/
structure Blame (w : World) (y base : Nat) (rs : List Int) (f : Bool) : Prop where
  lt : y < base
  le : base ≤ w.heap.size
  own : ∃ v, w.cell? ⟨y, 0, none⟩ = some v ∧ w.ownsRow base 21 1 v rs.length (i32V rs)
  c1 : w.cell? ⟨y, 1, none⟩ = some (.slice none 0 0)
  c2 : w.cell? ⟨y, 2, none⟩ = some (.bool f)
  fz : ∀ o, w.frozen? ⟨y, o, none⟩ = false
theorem own_ne {w : World} {base y n : Nat} {e : TypeId} {v : Value} {xs : List Value} (h : w.ownsRow base e 1 v n xs) (hy : y < base) : some y ≠ v.ownBlock := by
  rcases h.2 with ⟨h', _⟩ | ⟨g, cap', cur, h', hb, _⟩
  · subst h'; simp [Value.ownBlock]
  · subst h'
    simp [Value.ownBlock]
    omega
theorem pair_keep {w w1 : World} {base y : Nat} {v x : Value} {rs : List Int} {f : Bool} (hB : Blame w y base rs f) (hown : w.ownsRow base 21 1 v rs.length (i32V rs)) (hg : (w.drew.alloc (.cells #[x] 21)).grownBy w1 v.ownBlock) :
    (∀ o, w1.cell? ⟨y, o, none⟩ = w.cell? ⟨y, o, none⟩) ∧ (∀ o, w1.frozen? ⟨y, o, none⟩ = w.frozen? ⟨y, o, none⟩) := by
  have hlt : y < (w.drew.alloc (.cells #[x] 21)).heap.size := by have := hB.lt; have := hB.le; simp; omega
  have hlt' : y < w.heap.size := by have := hB.lt; have := hB.le; omega
  refine ⟨fun o => ?_, fun o => ?_⟩
  · rw [hg.cell_far ⟨y, o, none⟩ hlt (own_ne hown hB.lt), World.cell?_alloc_lt _ _ _ hlt']; rfl
  · exact (hg.frozen_far ⟨y, o, none⟩ hlt (own_ne hown hB.lt)).trans (World.frozen?_alloc_past (w := w.drew) _ _ _ hlt')
theorem pair_end {w w1 : World} {base y g cap : Nat} {v : Value} {r : Int} {rs : List Int} {f : Bool} (hB : Blame w y base rs f) (hown : w.ownsRow base 21 1 v rs.length (i32V rs)) (hc : w.cell? ⟨y, 0, none⟩ = some v)
    (hown1 : w1.ownsRow base 21 1 (.slice (some ⟨g, 0, none⟩) (rs.length + 1) cap) (rs.length + 1) (i32V rs ++ [.int .i32 r])) (hg : (w.drew.alloc (.cells #[.int .i32 r] 21)).grownBy w1 v.ownBlock) :
    Blame (w1.setCell ⟨y, 0, none⟩ (.slice (some ⟨g, 0, none⟩) (rs.length + 1) cap)) y base (rs ++ [r]) f ∧ Below y w (w1.setCell ⟨y, 0, none⟩ (.slice (some ⟨g, 0, none⟩) (rs.length + 1) cap)) := by
  obtain ⟨k1, k2⟩ := pair_keep hB hown hg
  have hlt := hB.lt
  have hle := hB.le
  have hb : Below y w w1 := (((Below.refl y w).drew).alloc (by simp; omega) _).grown hg (by simp; omega) (fun k hk => by
    have := own_ne (y := k) hown
    rcases Nat.lt_or_ge k base with h | h
    · exact absurd hk (fun e => this h e.symm)
    · omega)
  refine ⟨⟨hlt, by have := hb.size; simp; omega, ⟨_, World.cell?_setCell_same _ _ _ ((k1 0).trans hc), ?_⟩, ?_, ?_, fun o => ?_⟩, hb.setCell (Nat.le_refl _) _⟩
  · have h1 : (i32V rs ++ [.int .i32 r]) = i32V (rs ++ [r]) := by simp [i32V]
    rw [List.length_append, List.length_singleton, ← h1]
    exact ownsRow_setCell_below hown1 (by exact hlt) _
  · rw [World.cell?_setCell_other _ _ _ _ (by simp), k1]; exact hB.c1
  · rw [World.cell?_setCell_other _ _ _ _ (by simp), k1]; exact hB.c2
  · rw [World.frozen?_setCell, k2]; exact hB.fz o
set_option maxHeartbeats 1000000 in
theorem pair_any (y base c : Nat) (use : Bool) (n a b : Nat) (tp : List (Nat × Nat)) (rs : List Int) (f : Bool) (w : World) (hlen : rs.length ≤ 1024) (hn2 : n < 130) (ha : a < n) (hb : b < n) (hB : Blame w y base rs f) (hR : RefOk w c use n tp) :
    Calls Yba.prog 11 #[.pointer (some ⟨y, 0, none⟩), .pointer (some ⟨c, 0, none⟩), .int .i64 a, .int .i64 b] w fun e w' => e = .returned (.tuple #[]) ∧ Blame w' y base (rs ++ [refV use n tp a b]) f ∧ Below y w w' := by
  obtain ⟨v, hc0, hown⟩ := hB.own
  obtain ⟨i0, hi, hz0, hz1, hz2⟩ := info_parts Yba.info21
  have hle := hB.le
  have hfz := hB.fz 0
  have hy : y < w.heap.size := by have := hB.lt; omega
  have HR : Hid (RefOk w.drew c use n tp) := hR
  have HB : Hid _ := hB
  clear hR hB
  go_enter Yba.func11, Yba.ntmps11
  go_wp2
  go_region_law (first
    | (go_simp; go_at_call 13; refine (ref_any c use n a b tp w.drew hn2 ha hb HR.out).mono ?_; rintro e w' ⟨rfl, rfl⟩)
    | (refine step_append_lies _ rfl (.tmp 14) (.tmp 19) 30 rfl base 21 i0 (.int .i32 0) 1 4 Yba.underlying30 hi hz0 hz1 hz2 rfl (by decide) v rs.length (i32V rs) rfl (hown.drew.alloc _) ⟨w.heap.size, 0, none⟩ 1 1 [.int .i32 (refV use n tp a b)] rfl rfl (cell_one_new w.drew _ _) (by intro u hu; simp at hu; subst hu; rfl) (by omega) (by unfold maxLen; omega) (by omega) (by simp; omega) _ rfl ?_; intro g cap w1 hown1 hgrow1 hat hlt; have hk1 := ((pair_keep HB.out hown hgrow1).1 0).trans hc0; have hk2 := ((pair_keep HB.out hown hgrow1).2 0).trans hfz))
  all_goals go_wp2
  all_goals go_end0
  all_goals exact ⟨rfl, pair_end HB.out hown hc0 hown1 hgrow1⟩
/-- Two slices of the same numbers. -/
def SameRow (w : World) (v : Value) (rs : List Int) : Prop :=
  ∃ a cap, v = .slice a rs.length cap ∧ ∀ k, k < rs.length → ∃ b off, a = some ⟨b, off, none⟩ ∧ w.cell? ⟨b, off + k, none⟩ = some (.int .i32 (rs.getD k 0))
theorem SameRow.of_own {w : World} {base : Nat} {v : Value} {rs : List Int} (h : w.ownsRow base 21 1 v rs.length (i32V rs)) : SameRow w v rs := by
  rcases h.2 with ⟨h', h0⟩ | ⟨g, cap', cur, h', hb, hh, h1, h2, h3, h4⟩
  · subst h'
    exact ⟨none, 0, by rw [h0], fun k hk => by omega⟩
  · subst h'
    refine ⟨_, _, rfl, fun k hk => ⟨g, 0, rfl, ?_⟩⟩
    have := h.cellAt k (by omega)
    simp [i32V, hk] at this
    simpa [List.getD_eq_getElem?_getD, hk] using this
set_option maxHeartbeats 1000000 in
theorem equal_any (v1 v2 : Value) (rs : List Int) (w : World) (hlen : rs.length ≤ 2048) (h1 : SameRow w v1 rs) (h2 : SameRow w v2 rs) :
    Calls Yba.prog 9 #[v1, v2] w fun e w' => e = .returned (.bool true) ∧ ∃ q, w.drewN q = w' := by
  obtain ⟨a1, cap1, rfl, hc1⟩ := h1
  obtain ⟨a2, cap2, rfl, hc2⟩ := h2
  obtain ⟨N, hN⟩ : ∃ N, N = rs.length := ⟨_, rfl⟩
  rw [← hN] at hlen ⊢
  have HN : Hid _ := hN
  have H1 : Hid _ := hc1
  have H2 : Hid _ := hc2
  clear hN hc1 hc2
  go_enter Yba.func9, Yba.ntmps9
  go_wp2
  go_loopw [13] (fun si wr => ∃ (k q : Nat), k ≤ N ∧ si = .int .i64 k ∧ w.drewN q = wr) (fun si _ => N - (intOf si).toNat)
  case atStart => exact ⟨0, 0, Nat.zero_le _, rfl, rfl⟩
  case round =>
    obtain ⟨k, q, hk, rfl, rfl⟩ := hrel
    by_cases hlt : k < N
    · obtain ⟨b1, o1, rfl, c1⟩ := H1.out k (by rw [← HN.out]; exact hlt)
      obtain ⟨b2, o2, rfl, c2⟩ := H2.out k (by rw [← HN.out]; exact hlt)
      generalize rs.getD k 0 = z at c1 c2
      clear H1 H2 HN
      go_wp2
      go_quiet (fail)
      go_wp2
      go_roundw
      case rel => exact ⟨k + 1, _, by omega, by go_num, rfl⟩
      case measure => simp [intOf]; omega
    · go_wp2
      go_ret
      exact ⟨rfl, _, rfl⟩
end Go.Proofs.Ybulkauhk
