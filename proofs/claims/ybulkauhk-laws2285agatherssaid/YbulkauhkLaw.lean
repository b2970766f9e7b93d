import Derived.Test.YbulkauhkBuild

namespace Go.Proofs.Ybulkauhk
open Go.ChangeShapes Go.WideShapes Go.ChangeAt Go.RowKit
open Go.Maps
theorem own_keep {w w' : World} {base n : Nat} {e : TypeId} {v : Value} {xs : List Value} (h : w.ownsRow base e 1 v n xs) (hb : Below w.heap.size w w') : w'.ownsRow base e 1 v n xs := by
  refine ⟨h.1, ?_⟩
  rcases h.2 with h' | ⟨g', cap', cur, h', hb', hh, r⟩
  · exact .inl h'
  · exact .inr ⟨g', cap', cur, h', hb', (hb.block g' (Array.getElem?_eq_some_iff.1 hh).1).trans hh, r⟩
theorem Blame.below {w w' : World} {y base : Nat} {rs : List Int} {f : Bool} (h : Blame w y base rs f) (hb : Below w.heap.size w w') : Blame w' y base rs f := by
  obtain ⟨v, hv, hown⟩ := h.own
  have hy : y < w.heap.size := Nat.lt_of_lt_of_le h.lt h.le
  exact ⟨h.lt, Nat.le_trans h.le hb.size, ⟨v, ((bcell hb).1 _ _ hy).trans hv, own_keep hown hb⟩, ((bcell hb).1 _ _ hy).trans h.c1, ((bcell hb).1 _ _ hy).trans h.c2, fun o => ((bcell hb).2 _ _ hy).trans (h.fz o)⟩
theorem own_base {w : World} {base n : Nat} {e : TypeId} {v : Value} {xs : List Value} (h : w.ownsRow base e 1 v n xs) {x : Nat} (hx : v.ownBlock = some x) : base ≤ x := by
  rcases Nat.lt_or_ge x base with h1 | h1
  · exact absurd hx.symm (own_ne h h1)
  · exact h1
theorem own_snoc {w : World} {base : Nat} {v : Value} {G : List Int} {r : Int} (h : w.ownsRow base 21 1 v (G.length + 1) (i32V G ++ [.int .i32 r])) : w.ownsRow base 21 1 v (G ++ [r]).length (i32V (G ++ [r])) := by
  have e : i32V (G ++ [r]) = i32V G ++ [.int .i32 r] := by simp [i32V]
  rw [List.length_append, e]
  exact h
theorem blame_new (w : World) : Blame (w.alloc (.cells #[.slice none 0 0, .slice none 0 0, .bool false] 32)) w.heap.size (w.heap.size + 1) [] false :=
  ⟨Nat.lt_succ_self _, by simp, ⟨.slice none 0 0, by go_simp, World.ownsRow_nil _ _ _ _⟩, by go_simp, by go_simp, fun o => by go_simp⟩
theorem blame_at (s c y base n N : Nat) (ca : Option Addr) (cap : Nat) (use : Bool) (vis tp : List (Nat × Nat)) (cl : List Nat) (w0 w : World) (hN : cl.length = N) (hn : n < 130) (hlen : N ≤ 1024)
    (hE : EvOk w0 s n) (hV : VisOk w0 c n vis) (hR : RefOk w0 c use n tp) (hC : CycOk w0 ca cl) (hw : Below w0.heap.size w0 w) (hy : w0.heap.size ≤ y) (hB : Blame w y base [] false) :
    Calls Yba.prog 6 #[.pointer (some ⟨s, 0, none⟩), .pointer (some ⟨c, 0, none⟩), .slice ca N cap, .pointer (some ⟨y, 0, none⟩)] w fun e w' =>
      e = .returned (.tuple #[]) ∧ Blame w' y base (gath use n vis tp cl (N - 1)).1 (gath use n vis tp cl (N - 1)).2 ∧ Below y w w' := by
  subst hN
  exact blame_any s c y base n ca cap use vis tp cl w0 w hn hlen hE hV hR hC hw hy hB
set_option maxRecDepth 100000 in
set_option maxHeartbeats 4000000 in
theorem walk_law (nn : Nat) (va : Option Addr) (vlen vcap : Nat) (vis : List (Nat × Nat)) (ta : Option Addr) (tlen tcap : Nat) (tp : List (Nat × Nat)) (use : Bool) (ca : Option Addr) (clen ccap : Nat) (cy : List Nat) (w : World)
    (hnn : nn < 256) (hv : vlen ≤ maxLen) (ht : tlen ≤ maxLen) (hc : clen ≤ maxLen) (hV : PairsOk w va vlen vis) (hT : PairsOk w ta tlen tp) (hC : CycIn w ca clen cy) :
    Calls Yba.prog 3 #[.int .u8 nn, .slice va vlen vcap, .slice ta tlen tcap, .bool use, .slice ca clen ccap] w fun e w' => e = .returned (.bool true) ∧ Below w.heap.size w w' := by
  unfold maxLen at hv ht hc
  have HV : Hid (PairsOk w va vlen vis) := hV
  have HT : Hid (PairsOk w ta tlen tp) := hT
  have HC : Hid (CycIn w ca clen cy) := hC
  clear hV hT hC
  by_cases h1 : 1024 < vlen
  · go_enter Yba.func3, Yba.ntmps3
    go_wp2
    go_ret
    exact ⟨rfl, Below.refl _ _⟩
  by_cases h2 : 1024 < tlen
  · go_enter Yba.func3, Yba.ntmps3
    go_wp2
    go_ret
    exact ⟨rfl, Below.refl _ _⟩
  by_cases h3 : 1024 < clen
  · go_enter Yba.func3, Yba.ntmps3
    go_wp2
    go_ret
    exact ⟨rfl, Below.refl _ _⟩
  obtain ⟨n, hn⟩ : ∃ n, n = nn % 130 := ⟨_, rfl⟩
  have hn2 : n < 130 := by omega
  have Hb : Hid _ := build_any nn n va vlen vcap vis ta tlen tcap tp use ca clen ccap cy w hnn hn (by omega) (by omega) (by omega) HV.out HT.out HC.out
  obtain ⟨cl, hcl⟩ : ∃ cl, cl = cy.map (· % (n + 3)) := ⟨_, rfl⟩
  have Hcl : Hid (cl.length = clen) := by show _ = _; rw [hcl, List.length_map]; exact HC.out.1
  rw [← hcl] at Hb
  clear hn hcl HC
  go_enter Yba.func3, Yba.ntmps3
  go_wp2_with fail
  refine Calls.mono Hb.out ?_
  rintro e w1 ⟨s, c, ca', rfl, hE, hVv, hR, hCc, hb1⟩
  have HCc : Hid (CycOk w1 ca' cl) := hCc
  have Hbl : Hid _ := blame_at s c w1.heap.size (w1.heap.size + 1) n clen ca' clen use vis tp cl w1 (w1.alloc (.cells #[.slice none 0 0, .slice none 0 0, .bool false] 32)) Hcl.out hn2 (by omega) hE hVv hR hCc ((Below.refl _ _).alloc (Nat.le_refl _) _) (Nat.le_refl _) (blame_new w1)
  clear hE hVv hR hCc Hb
  go_wp2_with fail
  refine Calls.mono Hbl.out ?_
  rintro e w2 ⟨rfl, hB, hb2⟩
  have HB : Hid _ := hB
  have hb12 : Below w1.heap.size w1 w2 := ((Below.refl _ _).alloc (Nat.le_refl _) _).trans hb2
  clear hB Hbl hb2
  obtain ⟨i0, hi, hz0, hz1, hz2⟩ := info_parts Yba.info21
  go_wp2
  go_loopw [16, 17, 18] (fun v f si wr => ∃ k : Nat, (k = 0 ∨ k + 1 ≤ clen) ∧ si = .int .i64 ((k : Int) + 1) ∧ f = .bool (gath use n vis tp cl k).2 ∧ wr.ownsRow w2.heap.size 21 1 v (gath use n vis tp cl k).1.length (i32V (gath use n vis tp cl k).1) ∧ Below w2.heap.size w2 wr) (fun _ _ si _ => clen + 1 - (intOf si).toNat)
  case atStart => exact ⟨0, .inl rfl, rfl, rfl, World.ownsRow_nil _ _ _ _, Below.refl _ _⟩
  case round =>
    obtain ⟨k, hk, rfl, rfl, hown, hnx⟩ := hrel
    have hb0 : Below w1.heap.size w1 wr := hb12.trans (hnx.mono hb12.size)
    by_cases hlt : k + 1 < clen
    · obtain ⟨b1, o1, rfl, f1, c1⟩ := HCc.out.below hb0 k (by rw [Hcl.out]; omega)
      obtain ⟨b2, o2, f2, f3, c2⟩ := HCc.out.below hb0 (k + 1) (by rw [Hcl.out]; omega)
      cases f2
      have HG : Hid (gath use n vis tp cl (k + 1) = stepG use n vis tp (cl.getD k 0) (cl.getD (k + 1) 0) (gath use n vis tp cl k)) := rfl
      have hgl := gath_len use n vis tp cl k
      generalize cl.getD k 0 = a at *
      generalize cl.getD (k + 1) 0 = b at *
      have hown' : Hid _ := hown
      clear hown
      generalize hgk : gath use n vis tp cl k = G at *
      have Hgk : Hid _ := hgk
      clear hgk
      by_cases ha : n ≤ a
      · have HG2 : Hid (gath use n vis tp cl (k + 1) = G) := by show _ = _; rw [HG.out, stepG, if_pos (.inl ha)]
        go_wp2
        go_roundw
        case rel => exact ⟨k + 1, .inr (by omega), by go_num, by rw [HG2.out], by rw [HG2.out]; exact hown'.out, hnx⟩
        case measure => simp [intOf]; omega
      by_cases hb : n ≤ b
      · have HG2 : Hid (gath use n vis tp cl (k + 1) = G) := by show _ = _; rw [HG.out, stepG, if_pos (.inr hb)]
        go_wp2
        go_roundw
        case rel => exact ⟨k + 1, .inr (by omega), by go_num, by rw [HG2.out], by rw [HG2.out]; exact hown'.out, hnx⟩
        case measure => simp [intOf]; omega
      have hbw : Below w.heap.size w wr := hb1.trans (hb0.mono hb1.size)
      have Hin : Hid _ := in_any va vlen vcap n a b vis wr (by omega) (by omega) hn2 (HV.out.below hbw)
      cases hin : inVis n vis a b
      · have HG2 : Hid (gath use n vis tp cl (k + 1) = (G.1, true)) := by
          show _ = _; rw [HG.out, stepG, if_neg (by omega), if_neg (by rw [hin]; simp)]
        rw [hin] at Hin
        go_wp2_with fail
        refine Calls.mono Hin.out ?_
        rintro e w3 ⟨rfl, hb3⟩
        clear Hin
        go_wp2
        go_roundw
        case rel => exact ⟨k + 1, .inr (by omega), by go_num, by rw [HG2.out], by rw [HG2.out]; exact own_keep hown'.out hb3, hnx.trans (hb3.mono hnx.size)⟩
        case measure => simp [intOf]; omega
      · have HG2 : Hid (gath use n vis tp cl (k + 1) = (G.1 ++ [refV use n tp a b], G.2)) := by
          show _ = _; rw [HG.out, stepG, if_neg (by omega), if_pos hin]
        rw [hin] at Hin
        go_wp2_with fail
        refine Calls.mono Hin.out ?_
        rintro e w3 ⟨rfl, hb3⟩
        clear Hin
        have hb3' : Below w2.heap.size w2 w3 := hnx.trans (hb3.mono hnx.size)
        have hbw3 : Below w.heap.size w w3 := hbw.trans (hb3.mono hbw.size)
        go_wp2_with fail
        refine (aref_any use ta tlen tcap n a b tp w3 (by omega) (by omega) hn2 (HT.out.below hbw3)).mono ?_
        rintro e w4 ⟨rfl, hb4⟩
        have hown4 := own_keep (own_keep hown'.out hb3) hb4
        have hb4' : Below w2.heap.size w2 w4 := hb3'.trans (hb4.mono hb3'.size)
        go_wp2_with (at_builtin; refine wpList_append_own _ rfl (.tmp 80) (.tmp 87) 30 rfl w2.heap.size 21 i0 (.int .i32 0) 1 4 Yba.underlying30 hi hz0 hz1 hz2 rfl (by decide) _ _ _ rfl (hown4.alloc _) ⟨w4.heap.size, 0, none⟩ 1 1 [.int .i32 (refV use n tp a b)] rfl rfl (cell_one_new _ _ _) ?c2 ?c3 ?c4 ?c5 ?_)
        case c2 => intro u hu; simp at hu; subst hu; rfl
        case c3 => unfold maxLen; omega
        case c4 => omega
        case c5 => have := hb4'.size; simp; omega
        intro v' w5 hown5 hgrow5 _
        have Hown5 : Hid _ := hown5
        have hb5 : Below w2.heap.size w2 w5 := (hb4'.alloc hb4'.size _).grown hgrow5 (by have := hb4'.size; simp; omega) (fun x hx => own_base hown4 hx)
        clear hown5 hgrow5
        go_wp2
        go_roundw
        case rel => exact ⟨k + 1, .inr (by omega), by go_num, by rw [HG2.out], by rw [HG2.out]; exact own_snoc Hown5.out, hb5⟩
        case measure => simp [intOf]; omega
    · obtain rfl : k = clen - 1 := by omega
      have HB3 := HB.out.below hnx
      obtain ⟨v0, d0, d1⟩ := HB3.own
      have d2 := HB3.c1
      have d3 := HB3.c2
      have hgl := gath_len use n vis tp cl (clen - 1)
      have He : Hid _ := equal_any v0 _ _ wr (by omega) (SameRow.of_own d1) (SameRow.of_own hown)
      clear d1 hown
      generalize gath use n vis tp cl (clen - 1) = G at *
      go_wp2_with fail
      refine Calls.mono He.out ?_
      rintro e w3 ⟨rfl, q, rfl⟩
      go_wp2
      go_ret
      exact ⟨rfl, below_drewN (hb1.trans (hb0.mono hb1.size)) _⟩
end Go.Proofs.Ybulkauhk
