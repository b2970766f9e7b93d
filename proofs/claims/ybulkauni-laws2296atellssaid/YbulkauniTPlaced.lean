import Derived.Test.YbulkauniTCheck
import Derived.Test.YbulkauniTNewB
namespace Go.Proofs.Ybulkauni.lawS2296ATells
open Go.ChangeShapes Go.WideShapes Go.ChangeAt Go.RowKit Go.Maps
open Go.ChangeMaps (setBlock heap_setBlock_same)
open Go.Proofs.Ybulkauni.lawS2296CSendTaken (RowIs clone_any below_drewN bcell)
/-- A passage and what is to be told to it. -/
structure Ent where
  c : Nat
  np : Nat
  nr : Nat
  b : Nat
  pa : Option Addr
  pc : Nat
  qa : Option Addr
  qc : Nat
def rdV (v : Value) : Option (DataW Value × List MemPlace) := some (.held v, [])
/-- What the pointer leads to. -/
def PlAt (w : World) (e : Ent) : Prop :=
  e.b < w.heap.size ∧ w.cell? ⟨e.b, 0, none⟩ = some (.int .u64 7) ∧ w.cell? ⟨e.b, 1, none⟩ = some (.int .u64 9) ∧ w.cell? ⟨e.b, 2, none⟩ = some (.int .u64 0) ∧ w.cell? ⟨e.b, 3, none⟩ = some (.int .u64 5) ∧ w.cell? ⟨e.b, 4, none⟩ = some (.slice e.pa e.np e.pc) ∧ w.cell? ⟨e.b, 5, none⟩ = some (.slice e.qa e.nr e.qc)
theorem PlAt.keep {w w' : World} {e : Ent} (h : PlAt w e) (hs : w.heap.size ≤ w'.heap.size) (hb : w'.heap[e.b]? = w.heap[e.b]?) : PlAt w' e := by
  obtain ⟨h0, h1, h2, h3, h4, h5, h6⟩ := h
  have q : ∀ o, w'.cell? ⟨e.b, o, none⟩ = w.cell? ⟨e.b, o, none⟩ := fun o => World.cell?_of_block (w := w) hb
  exact ⟨Nat.lt_of_lt_of_le h0 hs, (q _).trans h1, (q _).trans h2, (q _).trans h3, (q _).trans h4, (q _).trans h5, (q _).trans h6⟩
/-- The telling map holds l. -/
def Tel (w : World) (m : Nat) (l : List Ent) : Prop :=
  ∃ N, ∃ D : DataW Value, w.ownsMap Yba.prog 68 rdV m N D ∧ N ≤ 2000 ∧ KeySet D (l.map (·.c)) ∧ ∀ e ∈ l, ∀ z, D.atKey (kl e.c) z = .held (.pointer (some ⟨e.b, 0, none⟩))
def outA (r1 r2 : Int) (l : List Ent) : List (Nat × Value) := l.flatMap fun e => if 0 < e.np then [(e.c / 64, msgA r1 r2 e.c e.pa e.np e.pc)] else []
def outE (r1 r2 : Int) (l : List Ent) : List (Nat × Value) := l.flatMap fun e => if 0 < e.nr then [(e.c / 64, msgE r1 r2 e.c e.qa e.nr e.qc)] else []
theorem out_len (f : Ent → Bool) (g : Ent → Nat × Value) (l : List Ent) : (l.flatMap fun e => if f e then [g e] else []).length ≤ l.length := by
  induction l with
  | nil => simp
  | cons e r ih => simp only [List.flatMap_cons, List.length_append, List.length_cons]; split <;> simp only [List.length_singleton, List.length_nil] <;> omega
theorem outA_len (r1 r2 : Int) (l : List Ent) : (outA r1 r2 l).length ≤ l.length := by
  have := out_len (fun e => decide (0 < e.np)) (fun e => (e.c / 64, msgA r1 r2 e.c e.pa e.np e.pc)) l
  simpa [outA] using this
theorem outE_len (r1 r2 : Int) (l : List Ent) : (outE r1 r2 l).length ≤ l.length := by
  have := out_len (fun e => decide (0 < e.nr)) (fun e => (e.c / 64, msgE r1 r2 e.c e.qa e.nr e.qc)) l
  simpa [outE] using this
theorem outE_pm (r1 r2 : Int) (l : List Ent) (h : ∀ e ∈ l, e.nr ≤ 1000) : ∀ x ∈ outE r1 r2 l, IsPm r1 r2 x.2 := by
  intro x hx
  simp only [outE, List.mem_flatMap] at hx
  obtain ⟨e, he, hx⟩ := hx
  split at hx
  · simp at hx
    rw [hx]
    exact ⟨_, _, _, _, _, _, _, _, rfl, h e he⟩
  · simp at hx
theorem look_tel {w : World} {m : Nat} {l : List Ent} (h : Tel w m l) {e : Ent} (he : e ∈ l) (hc : e.c < 512) : (Instr.lookup 50 (.map (some m)) (K e.c) false).run Yba.prog w = .ok (.pointer (some ⟨e.b, 0, none⟩)) w := by
  obtain ⟨N, D, h1, h2, h3, h4⟩ := h
  obtain ⟨v, ps, hrun, hv⟩ := h1.lookup law68 Yba.underlying50 (z := .pointer none) (by kernel_rfl) (zd := .held (.pointer none)) (zp := []) rfl (key_is e.c hc)
  rw [h4 e he] at hv
  simp [rdV] at hv
  rw [hrun, hv.1]
theorem Tel.keep {w w' : World} {m : Nat} {l : List Ent} (h : Tel w m l) (hb : w'.heap[m]? = w.heap[m]?) : Tel w' m l := by
  obtain ⟨N, D, ⟨es, clock, hh, r⟩, h2⟩ := h
  exact ⟨N, D, ⟨es, clock, hb.trans hh, r⟩, h2⟩
theorem clear_tel {w : World} {m : Nat} {l : List Ent} (h : Tel w m l) : ∃ W clk, (∀ ty, (Builtin.clear_ #[50] ty #[.map (some m)]).run Yba.prog w = .ok (.tuple #[]) W) ∧ W.heap[m]? = some (.map #[] clk) ∧ w.mapTurned W m := by
  obtain ⟨N, D, ⟨es, clock, hb, -⟩, -⟩ := h
  refine ⟨setBlock w m (.map #[] clock), clock, fun ty => ?_, heap_setBlock_same hb _, ⟨es, clock, #[], clock, hb, rfl⟩⟩
  simp [Builtin.clear_, run_underlying Yba.underlying50, MapKept.run_getObj_map hb, MapKept.run_setObj_map _ hb, Result.andThen, setBlock]
theorem take_next {l : List Ent} {k : Nat} {e : Ent} (h : l[k]? = some e) : l.take (k + 1) = l.take k ++ [e] := by
  rw [List.take_add_one, h]; rfl
theorem drop_later {l : List Ent} {k : Nat} {e : Ent} (h : l[k]? = some e) (hp : (l.map (·.c)).Pairwise (· < ·)) : ∀ e' ∈ l.drop (k + 1), e.c + 1 ≤ e'.c := by
  intro e' he'
  obtain ⟨i, hi, rfl⟩ := List.mem_iff_getElem.1 he'
  rw [List.getElem_drop]
  obtain ⟨hk, rfl⟩ := List.getElem?_eq_some_iff.1 h
  have hlen : k + 1 + i < l.length := by simp at hi; omega
  have := (List.pairwise_iff_getElem.1 hp) k (k + 1 + i) (by simpa using hk) (by simpa using hlen) (by omega)
  simp at this
  omega
theorem later_ge {l : List Ent} {k C : Nat} {e : Ent} (h : l[k]? = some e) (hC : ∀ e' ∈ l.drop k, C ≤ e'.c) : C ≤ e.c := by
  refine hC e ?_
  obtain ⟨hk, rfl⟩ := List.getElem?_eq_some_iff.1 h
  rw [List.drop_eq_getElem_cons hk]
  exact List.mem_cons_self
theorem tell_next (R B k C : Nat) (r1 r2 : Int) (l : List Ent) (e : Ent) (w2 wr W : World) (hR : R < B) (hB : B ≤ w2.heap.size) (he : l[k]? = some e) (hl : l.length ≤ 1024) (hg : Good e.c) (hnp : e.np ≤ 2) (hnr : ∀ e ∈ l, e.nr ≤ 2) (hf : ∀ o, w2.frozen? ⟨R, o, none⟩ = false)
    (hO : Out wr R B C (outA r1 r2 (l.take k)) (outE r1 r2 (l.take k))) (hC : ∀ e ∈ l.drop k, C ≤ e.c) (hF : TFr R B w2 wr) (hW : Below wr.heap.size wr W) (x1 x3 oi : Int) (h1 : x1 = ((e.c / 64 : Nat) : Int)) (h3 : x3 = ((e.c % 8 : Nat) : Int)) (ho : oi = ((og e.c : Nat) : Int)) :
    Calls Yba.prog 26 #[.pointer (some ⟨R, 0, none⟩), .int .u64 x1, .agg #[.int .u64 r1, .int .u64 r2, .int .u64 oi, .int .u64 x3, .slice e.pa e.np e.pc, .slice e.qa e.nr e.qc]] W fun x w' =>
      x = .returned (.tuple #[]) ∧ Out w' R B (e.c + 1) (outA r1 r2 (l.take (k + 1))) (outE r1 r2 (l.take (k + 1))) ∧ TFr R B w2 w' := by
  subst h1 h3 ho
  have hR2 : R < w2.heap.size := Nat.lt_of_lt_of_le hR hB
  have hRr : R < wr.heap.size := Nat.lt_of_lt_of_le hR2 hF.size
  have hF' : TFr R B w2 W := Fr.below hF hW hR2
  have hO' : Out W R B C (outA r1 r2 (l.take k)) (outE r1 r2 (l.take k)) := by
    obtain ⟨va, vc, hm, ve, ec, lm, h⟩ := hO
    exact ⟨va, vc, hm, ve, ec, lm, h.below hW hRr⟩
  have la := outA_len r1 r2 (l.take k)
  have le := outE_len r1 r2 (l.take k)
  have lt := List.length_take_le k l
  have lt' : (l.take k).length ≤ 1024 := Nat.le_trans (List.length_take_le' k l) hl
  have hel : e ∈ l := List.mem_of_getElem? he
  refine (tell_any R B C e.c _ _ r1 r2 e.pa e.np e.pc e.qa e.nr e.qc W hR (Nat.le_trans hB hF'.size) (later_ge he hC) hg (by omega) (by have := hnr e hel; omega) (by omega) (by omega) (fun o => (hF'.frozen o).trans (hf o)) hO' (outE_pm r1 r2 _ (fun x hx => by have := hnr x (List.mem_of_mem_take hx); omega))).mono ?_
  rintro x w' ⟨rfl, h1, h2⟩
  refine ⟨rfl, ?_, hF'.trans h2⟩
  rw [take_next he]
  unfold outA outE at h1 ⊢
  rw [List.flatMap_append, List.flatMap_append]
  simpa using h1
set_option maxRecDepth 100000 in
set_option maxHeartbeats 4000000 in
theorem placed_any (R m : Nat) (r1 r2 : Int) (l : List Ent) (w : World) (hR : R < w.heap.size) (hm : m < w.heap.size) (hmR : m ≠ R) (c39 : w.cell? ⟨R, 39, none⟩ = some (.int .u64 r1)) (c40 : w.cell? ⟨R, 40, none⟩ = some (.int .u64 r2)) (c52 : w.cell? ⟨R, 52, none⟩ = some (.map (some m)))
    (c68 : w.cell? ⟨R, 68, none⟩ = some (.slice none 0 0)) (c69 : w.cell? ⟨R, 69, none⟩ = some (.map none)) (c70 : w.cell? ⟨R, 70, none⟩ = some (.slice none 0 0)) (c71 : w.cell? ⟨R, 71, none⟩ = some (.map none)) (hf : ∀ o, w.frozen? ⟨R, o, none⟩ = false)
    (hT : Tel w m l) (hl : l.length ≤ 1024) (hinc : (l.map (·.c)).Pairwise (· < ·)) (hE : ∀ e ∈ l, PlAt w e ∧ e.b ≠ R ∧ Good e.c ∧ e.np ≤ 2 ∧ e.nr ≤ 2) :
    Calls Yba.prog 9 #[.pointer (some ⟨R, 0, none⟩)] w fun e w' => e = .returned (.tuple #[]) ∧ (∃ B C, w.heap.size ≤ B ∧ Out w' R B C (outA r1 r2 l) (outE r1 r2 l)) ∧ (∃ clk, w'.heap[m]? = some (.map #[] clk)) ∧ Fr R (fun o => 68 ≤ o ∧ o ≤ 71) (fun k => k = m) w w' := by
  obtain ⟨wA, hwA⟩ : ∃ wA, wA = w.alloc (.cells #[.map (some m)] 50) := ⟨_, rfl⟩
  have hbA : Below w.heap.size w wA := by rw [hwA]; exact (Below.refl _ _).alloc (Nat.le_refl _) _
  have hcA : wA.cell? ⟨w.heap.size, 0, none⟩ = some (.map (some m)) := by rw [hwA]; exact (by go_simp)
  have hsA : w.heap.size < wA.heap.size := by rw [hwA]; simp
  have Hk : Hid _ := keys_any m w
  rw [← hwA] at Hk
  have Hs : Hid (Calls Yba.prog 23 #[.func (.func 37) #[] #[.pointer (some ⟨w.heap.size, 0, none⟩)], .func (.func 25) #[] #[]] wA fun e w' => ∃ a cap, e = .returned (.slice a l.length cap) ∧ KRow w' wA.heap.size a (l.map (·.c)) ∧ Below wA.heap.size wA w') := by
    obtain ⟨N, D, h1, h2, h3, h4⟩ := hT
    have := sorted_any w.heap.size m N D (l.map (·.c)) hinc h3 (Nat.le_trans h1.size_le (by omega)) (by simp; omega) wA hsA hcA (below_ownsMap hbA h1)
    rw [List.length_map] at this
    exact this
  have Hf : Hid _ := hf
  have HT : Hid _ := hT
  have HE : Hid _ := hE
  have HI : Hid _ := hinc
  clear hf hT hE hinc hwA
  go_enter Yba.func9, Yba.ntmps9
  go_wp2_with fail
  refine Calls.mono Hk.out ?_
  rintro e w1 ⟨rfl, rfl⟩
  go_wp2_with fail
  refine Calls.mono Hs.out ?_
  rintro e w2 ⟨a, cap, rfl, hK, hb2⟩
  have HK : Hid _ := hK
  have hB : Below w.heap.size w w2 := hbA.trans (hb2.mono hbA.size)
  clear hK Hk Hs hcA
  have HO : Hid (Out w2 R w2.heap.size 0 [] []) := ⟨none, 0, none, none, 0, none, ⟨⟨(hB.cell (p := ⟨R, 68, none⟩) hR).trans c68, (hB.cell (p := ⟨R, 69, none⟩) hR).trans c69, ⟨rfl, .inl ⟨rfl, rfl⟩⟩, .inl rfl⟩, ⟨(hB.cell (p := ⟨R, 70, none⟩) hR).trans c70, (hB.cell (p := ⟨R, 71, none⟩) hR).trans c71, ⟨rfl, .inl ⟨rfl, rfl⟩⟩, .inl rfl⟩, (fun g h => by cases h), (fun g h => by cases h), (fun g h => by cases h), (fun g h => by cases h)⟩⟩
  have d39 := (hB.cell (p := ⟨R, 39, none⟩) hR).trans c39
  have d40 := (hB.cell (p := ⟨R, 40, none⟩) hR).trans c40
  have d52 := (hB.cell (p := ⟨R, 52, none⟩) hR).trans c52
  have hR2 : R < w2.heap.size := Nat.lt_of_lt_of_le hR hB.size
  clear c39 c40 c52 c68 c69 c70 c71
  go_wp2
  go_loopw [12] (fun si wr => ∃ (k C : Nat), k ≤ l.length ∧ si = .int .i64 k ∧ Hid (Out wr R w2.heap.size C (outA r1 r2 (l.take k)) (outE r1 r2 (l.take k)) ∧ ∀ e ∈ l.drop k, C ≤ e.c) ∧ TFr R w2.heap.size w2 wr) (fun si _ => l.length - (intOf si).toNat)
  case atStart => exact ⟨0, 0, Nat.zero_le _, rfl, ⟨HO.out, fun _ _ => Nat.zero_le _⟩, Fr.refl _ _ _ _⟩
  case round =>
    obtain ⟨k, C, hk, rfl, hOC, hF⟩ := hrel
    have HF : Hid _ := hF
    have e39 := (hF.cell 39 (by omega)).trans d39
    have e40 := (hF.cell 40 (by omega)).trans d40
    have e52 := (hF.cell 52 (by omega)).trans d52
    have hRr : R < wr.heap.size := Nat.lt_of_lt_of_le hR2 hF.size
    have hmb : wr.heap[m]? = w.heap[m]? := (hF.block m (Nat.lt_of_lt_of_le hm hB.size) hmR (by have := hB.size; omega)).trans (hB.block m hm)
    clear hF
    by_cases hlt : k < l.length
    · obtain ⟨e, he⟩ : ∃ e, l[k]? = some e := ⟨l[k], List.getElem?_eq_getElem hlt⟩
      have hel : e ∈ l := List.mem_of_getElem? he
      obtain ⟨hPl, hbR, hg, hnp, hnr⟩ := HE.out e hel
      obtain ⟨g, rfl, hg1, hg2, q0, q1, q2⟩ := HK.out k (by simpa using hlt)
      have hce : (l.map (·.c)).getD k 0 = e.c := by simp [List.getD_eq_getElem?_getD, he]
      rw [hce] at q0 q1 q2
      have hgR : g ≠ R := by omega
      have hgb : wr.heap[g]? = w2.heap[g]? := HF.out.block g hg2 hgR (by omega)
      have q0' := (World.cell?_of_block (a := ⟨g, k * 3, none⟩) hgb).trans q0
      have q1' := (World.cell?_of_block (a := ⟨g, k * 3 + 1, none⟩) hgb).trans q1
      have q2' := (World.cell?_of_block (a := ⟨g, k * 3 + 2, none⟩) hgb).trans q2
      have hgr : g < wr.heap.size := Nat.lt_of_lt_of_le hg2 HF.out.size
      obtain ⟨p0, p1, p2, p3, p4, p5, p6⟩ := hPl.keep (w' := wr) (Nat.le_trans hB.size HF.out.size) ((HF.out.block e.b (Nat.lt_of_lt_of_le hPl.1 hB.size) hbR (by have := hB.size; have := hPl.1; omega)).trans (hB.block e.b hPl.1))
      have Hlook : Hid (∀ W : World, W.heap[m]? = wr.heap[m]? → (Instr.lookup 50 (.map (some m)) (K e.c) false).run Yba.prog W = .ok (.pointer (some ⟨e.b, 0, none⟩)) W) := fun W hW => look_tel (Tel.keep (l := l) HT.out (hW.trans hmb)) hel hg.1
      have hmr : m < wr.heap.size := Nat.lt_of_lt_of_le hm (Nat.le_trans hB.size HF.out.size)
      clear q0 q1 q2 hgb hce hg1
      unfold K at Hlook
      obtain ⟨x1, hx1⟩ : ∃ x1, x1 = e.c / 64 := ⟨_, rfl⟩
      obtain ⟨x2, hx2⟩ : ∃ x2, x2 = e.c / 8 % 8 := ⟨_, rfl⟩
      obtain ⟨x3, hx3⟩ : ∃ x3, x3 = e.c % 8 := ⟨_, rfl⟩
      rw [← hx1, ← hx2, ← hx3] at Hlook
      rw [← hx1] at q0'
      rw [← hx2] at q1'
      rw [← hx3] at q2'
      have Hx : Hid (x1 = e.c / 64 ∧ x2 = e.c / 8 % 8 ∧ x3 = e.c % 8) := ⟨hx1, hx2, hx3⟩
      clear hx1 hx2 hx3
      generalize e.b = eb at *
      go_upto_region 3 with fail
      obtain ⟨wk, hwk⟩ : ∃ wk, wk = wr.alloc (.cells #[.int .u64 (x1 : Int), .int .u64 (x2 : Int), .int .u64 (x3 : Int)] 68) := ⟨_, rfl⟩
      rw [← hwk]
      have hbk : Below wr.heap.size wr wk := by rw [hwk]; exact (Below.refl _ _).alloc (Nat.le_refl _) _
      have hsk : wr.heap.size < wk.heap.size := by rw [hwk]; simp
      have k0 : wk.cell? ⟨wr.heap.size, 0, none⟩ = some (.int .u64 (x1 : Int)) := by rw [hwk]; exact (by go_simp)
      have k1 : wk.cell? ⟨wr.heap.size, 1, none⟩ = some (.int .u64 (x2 : Int)) := by rw [hwk]; exact (by go_simp)
      have k2 : wk.cell? ⟨wr.heap.size, 2, none⟩ = some (.int .u64 (x3 : Int)) := by rw [hwk]; exact (by go_simp)
      have f39 := (hbk.cell (p := ⟨R, 39, none⟩) hRr).trans e39
      have f40 := (hbk.cell (p := ⟨R, 40, none⟩) hRr).trans e40
      have f52 := (hbk.cell (p := ⟨R, 52, none⟩) hRr).trans e52
      have s1 := (hbk.cell (p := ⟨eb, 0, none⟩) p0).trans p1
      have s2 := (hbk.cell (p := ⟨eb, 1, none⟩) p0).trans p2
      have s3 := (hbk.cell (p := ⟨eb, 2, none⟩) p0).trans p3
      have s4 := (hbk.cell (p := ⟨eb, 3, none⟩) p0).trans p4
      have s5 := (hbk.cell (p := ⟨eb, 4, none⟩) p0).trans p5
      have s6 := (hbk.cell (p := ⟨eb, 5, none⟩) p0).trans p6
      have sl : eb < wk.heap.size := Nat.lt_of_lt_of_le p0 hbk.size
      have sR : R < wk.heap.size := Nat.lt_of_lt_of_le hRr hbk.size
      have lk1 := Hlook.out wk.drew (hbk.block m hmr)
      have lk2 := fun o => Hlook.out (wk.alloc o).drew ((Below.heap_alloc wk o m (Nat.lt_of_lt_of_le hmr hbk.size)).trans (hbk.block m hmr))
      have Hbk : Hid _ := hbk
      clear q0' q1' q2' p1 p2 p3 p4 p5 p6 hbk hwk e39 e40 e52
      go_region
      go_wp2
      go_region
      have hsz2 : w2.heap.size ≤ wr.heap.size := HF.out.size
      have HC : Hid (∀ (W : World), Below wr.heap.size wr W → ∀ oi : Int, oi = ((og e.c : Nat) : Int) → Calls Yba.prog 26 #[.pointer (some ⟨R, 0, none⟩), .int .u64 (x1 : Int), .agg #[.int .u64 r1, .int .u64 r2, .int .u64 oi, .int .u64 (x3 : Int), .slice e.pa e.np e.pc, .slice e.qa e.nr e.qc]] W fun x w' => x = .returned (.tuple #[]) ∧ Out w' R w2.heap.size (e.c + 1) (outA r1 r2 (l.take (k + 1))) (outE r1 r2 (l.take (k + 1))) ∧ TFr R w2.heap.size w2 w') := fun W hW oi ho =>
        tell_next R w2.heap.size k C r1 r2 l e w2 wr W hR2 (Nat.le_refl _) he hl hg hnp (fun x hx => (HE.out x hx).2.2.2.2) (fun o => (hB.frozen (p := ⟨R, o, none⟩) hR).trans (Hf.out o)) hOC.out.1 hOC.out.2 HF.out hW _ _ oi (by rw [Hx.out.1]) (by rw [Hx.out.2.2]) ho
      have Hlt : Hid _ := drop_later he HI.out
      by_cases hx : x2 = x1
      · have ho : Hid ((0 : Int) = ((og e.c : Nat) : Int)) := by
          show _ = _
          unfold og
          rw [← Hx.out.1, ← Hx.out.2.1, if_pos hx]
          rfl
        have hx' : (x2 : Int) = (x1 : Int) := by omega
        subst hx
        go_wp2_with fail
        refine Calls.mono (HC.out _ ((Hbk.out.alloc Hbk.out.size _).drew.drew) _ ho.out) ?_
        rintro x w3 ⟨rfl, hq⟩
        have HQ : Hid _ := hq
        clear hq
        go_wp2
        go_roundw
        case rel => exact ⟨k + 1, e.c + 1, by omega, by go_num, ⟨HQ.out.1, Hlt.out⟩, HQ.out.2⟩
        case measure => simp [intOf]; omega
      · have ho : Hid ((x2 : Int) = ((og e.c : Nat) : Int)) := by
          show _ = _
          unfold og
          rw [← Hx.out.1, ← Hx.out.2.1, if_neg hx]
        have hx' : ¬ ((x2 : Int) = (x1 : Int)) := by omega
        go_wp2_with fail
        refine Calls.mono (HC.out _ ((Hbk.out.alloc Hbk.out.size _).drew.drew) _ ho.out) ?_
        rintro x w3 ⟨rfl, hq⟩
        have HQ : Hid _ := hq
        clear hq
        go_wp2
        go_roundw
        case rel => exact ⟨k + 1, e.c + 1, by omega, by go_num, ⟨HQ.out.1, Hlt.out⟩, HQ.out.2⟩
        case measure => simp [intOf]; omega
    · obtain rfl : l.length = k := by omega
      obtain ⟨W, clk, hcl, hW, hturn⟩ := clear_tel (Tel.keep (w' := wr) (l := l) HT.out hmb)
      have hwr : w.heap.size ≤ wr.heap.size := Nat.le_trans hB.size HF.out.size
      have F1 : Fr R (fun o => 68 ≤ o ∧ o ≤ 71) (fun k => k = m) w wr := ((Fr.refl _ _ _ w).below hB hR).next HF.out (fun _ h => h) (fun i hi => .inr (Nat.le_trans hB.size hi))
      have F2 : Hid (Fr R (fun o => 68 ≤ o ∧ o ≤ 71) (fun k => k = m) w W) := F1.turned hturn hR hmR (.inl rfl)
      have HO2 : Hid (Out W R w2.heap.size C (outA r1 r2 l) (outE r1 r2 l)) := by
        have h0 := hOC.out.1
        rw [List.take_length] at h0
        obtain ⟨va, vc, hm', ve, ec, lm, h⟩ := h0
        have k1 : Fr R (fun _ => False) (fun k => k = m) wr W := (Fr.refl R _ _ wr).turned hturn hRr hmR (.inl rfl)
        have hmw : m < w2.heap.size := Nat.lt_of_lt_of_le hm hB.size
        have hrow : ∀ g, w2.heap.size ≤ g → g ≠ R ∧ ¬ (g = m) := fun g hg => ⟨by omega, by omega⟩
        refine ⟨va, vc, hm', ve, ec, lm, ⟨⟨(k1.cell 68 id).trans h.a.c68, (k1.cell 69 id).trans h.a.c69, k1.ownsRow h.a.own (fun g hg => hrow g (own_ge h.a.own g hg)), ?_⟩, ⟨(k1.cell 70 id).trans h.e.c70, (k1.cell 71 id).trans h.e.c71, k1.ownsRow h.e.own (fun g hg => hrow g (own_ge h.e.own g hg)), ?_⟩, h.rows, h.maps, h.hmB, h.lmB⟩⟩
        · rcases h.a.held with e | ⟨m', N, D, e, hD, r⟩
          · exact .inl e
          · exact .inr ⟨m', N, D, e, k1.ownsMap hD (hrow m' (h.hmB m' e)).1 (hrow m' (h.hmB m' e)).2, r⟩
        · rcases h.e.last with e | ⟨m', N, D, e, hD, r⟩
          · exact .inl e
          · exact .inr ⟨m', N, D, e, k1.ownsMap hD (hrow m' (h.lmB m' e)).1 (hrow m' (h.lmB m' e)).2, r⟩
      have HW : Hid _ := hW
      clear hturn hW F1
      go_wp2
      go_end0
      exact ⟨rfl, ⟨w2.heap.size, C, hB.size, HO2.out⟩, ⟨clk, HW.out⟩, F2.out⟩
end Go.Proofs.Ybulkauni.lawS2296ATells
