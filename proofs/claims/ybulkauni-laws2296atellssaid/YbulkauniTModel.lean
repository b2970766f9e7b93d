import Derived.Test.YbulkauniTPlaced
import Derived.Test.YbulkauniTIns
namespace Go.Proofs.Ybulkauni.lawS2296ATells
open Go.ChangeShapes Go.WideShapes Go.ChangeAt Go.RowKit Go.Maps
open Go.Proofs.Ybulkauni.lawS2296CSendTaken (RowIs clone_any below_drewN bcell)
/-- An entry's five cells. -/
def five (e : Ent) : List Value := [.int .u64 ((e.c / 64 : Nat) : Int), .int .u64 ((e.c / 8 % 8 : Nat) : Int), .int .u64 ((e.c % 8 : Nat) : Int), .int .i64 (e.np : Int), .int .i64 (e.nr : Int)]
def rowM (l : List Ent) : List Value := l.flatMap five
theorem rowM_len (l : List Ent) : (rowM l).length = l.length * 5 := by
  induction l with
  | nil => rfl
  | cons e r ih => simp only [rowM, List.flatMap_cons, List.length_append, List.length_cons] at ih ⊢; rw [ih]; simp [five]; omega
theorem rowM_at {l : List Ent} {j : Nat} {e : Ent} (h : l[j]? = some e) {r : Nat} (hr : r < 5) : (rowM l)[j * 5 + r]? = (five e)[r]? := by
  induction l generalizing j with
  | nil => simp at h
  | cons x t ih =>
    have e1 : rowM (x :: t) = five x ++ rowM t := by simp [rowM]
    rw [e1]
    cases j with
    | zero =>
      simp at h
      subst h
      rw [Nat.zero_mul, Nat.zero_add, List.getElem?_append_left (by simp [five]; exact hr)]
    | succ i =>
      rw [List.getElem?_append_right (by simp [five]; omega), show (i + 1) * 5 + r - (five x).length = i * 5 + r by simp [five]; omega]
      exact ih (by simpa using h)
theorem rowM_one (l : List Ent) : ∀ u ∈ rowM l, u.oneCell' = true := by
  intro u hu
  simp only [rowM, List.mem_flatMap] at hu
  obtain ⟨e, -, hu⟩ := hu
  simp [five] at hu
  rcases hu with rfl | rfl | rfl | rfl | rfl <;> rfl
theorem rowM_ins (l : List Ent) (p : Nat) (e : Ent) (hp : p ≤ l.length) : rowM (l.take p ++ e :: l.drop p) = insAt (rowM l) p (five e) := by
  have h1 : rowM l = rowM (l.take p) ++ rowM (l.drop p) := by
    unfold rowM
    rw [← List.flatMap_append, List.take_append_drop]
  have hl : (rowM (l.take p)).length = p * 5 := by rw [rowM_len, List.length_take]; omega
  have t1 : (rowM l).take (p * 5) = rowM (l.take p) := by rw [h1, List.take_append_of_le_length (by omega), List.take_of_length_le (by omega)]
  have t2 : (rowM l).drop (p * 5) = rowM (l.drop p) := by rw [h1, List.drop_append_of_le_length (by omega), List.drop_of_length_le (by omega), List.nil_append]
  unfold insAt
  rw [t1, t2]
  simp [rowM]
theorem rowM_set {l : List Ent} {j : Nat} {x : Ent} (h : l[j]? = some x) (e : Ent) (hc : x.c = e.c) : rowM (l.set j e) = ((rowM l).set (j * 5 + 3) (.int .i64 (e.np : Int))).set (j * 5 + 4) (.int .i64 (e.nr : Int)) := by
  induction l generalizing j with
  | nil => simp at h
  | cons y t ih =>
    have e1 : ∀ (z : Ent) (t : List Ent), rowM (z :: t) = five z ++ rowM t := fun z t => by simp [rowM]
    cases j with
    | zero =>
      simp at h
      subst h
      rw [List.set_cons_zero, e1, e1]
      simp [five, hc]
    | succ i =>
      rw [List.set_cons_succ, e1, e1, ih (by simpa using h)]
      rw [List.set_append_right _ _ (by simp [five]; omega), List.set_append_right _ _ (by simp [five]; omega)]
      rw [show (i + 1) * 5 + 3 - (five y).length = i * 5 + 3 by simp [five]; omega, show (i + 1) * 5 + 4 - (five y).length = i * 5 + 4 by simp [five]; omega]
/-- The model's step. -/
def upd (e : Ent) : List Ent → List Ent
  | [] => [e]
  | x :: r => if e.c < x.c then e :: x :: r else if x.c = e.c then e :: r else x :: upd e r
def Inc (l : List Ent) : Prop := (l.map (·.c)).Pairwise (· < ·)
theorem Inc.tail {x : Ent} {l : List Ent} (h : Inc (x :: l)) : Inc l := (List.pairwise_cons.1 h).2
theorem Inc.head {x : Ent} {l : List Ent} (h : Inc (x :: l)) : ∀ y ∈ l, x.c < y.c := fun y hy => (List.pairwise_cons.1 h).1 y.c (List.mem_map_of_mem hy)
theorem mem_upd {e : Ent} {l : List Ent} (hl : Inc l) (x : Ent) : x ∈ upd e l ↔ x = e ∨ (x ∈ l ∧ x.c ≠ e.c) := by
  induction l with
  | nil => simp [upd]
  | cons y t ih =>
    have hh := hl.head
    unfold upd
    split
    · rename_i hlt
      simp only [List.mem_cons]
      constructor
      · rintro (h | h | h)
        · exact .inl h
        · exact .inr ⟨.inl h, by rw [h]; omega⟩
        · exact .inr ⟨.inr h, by have := hh x h; omega⟩
      · rintro (h | ⟨h, -⟩)
        · exact .inl h
        · exact .inr h
    · split
      · rename_i hnl heq
        simp only [List.mem_cons]
        constructor
        · rintro (h | h)
          · exact .inl h
          · exact .inr ⟨.inr h, by have := hh x h; omega⟩
        · rintro (h | ⟨h | h, hne⟩)
          · exact .inl h
          · exact absurd (by rw [h]; exact heq) hne
          · exact .inr h
      · rename_i hnl hne
        simp only [List.mem_cons, ih hl.tail]
        constructor
        · rintro (h | h | ⟨h, hn⟩)
          · exact .inr ⟨.inl h, by rw [h]; exact hne⟩
          · exact .inl h
          · exact .inr ⟨.inr h, hn⟩
        · rintro (h | ⟨h | h, hn⟩)
          · exact .inr (.inl h)
          · exact .inl h
          · exact .inr (.inr ⟨h, hn⟩)
theorem inc_upd {e : Ent} {l : List Ent} (hl : Inc l) : Inc (upd e l) := by
  induction l with
  | nil => simp [upd, Inc]
  | cons y t ih =>
    have hh := hl.head
    unfold upd
    split
    · rename_i hlt
      refine List.pairwise_cons.2 ⟨?_, hl⟩
      intro c hc
      obtain ⟨x, hx, rfl⟩ := List.mem_map.1 hc
      rcases List.mem_cons.1 hx with rfl | hx
      · exact hlt
      · have := hh x hx; show e.c < x.c; omega
    · split
      · rename_i hnl heq
        refine List.pairwise_cons.2 ⟨?_, hl.tail⟩
        intro c hc
        obtain ⟨x, hx, rfl⟩ := List.mem_map.1 hc
        have := hh x hx
        show e.c < x.c
        omega
      · rename_i hnl hne
        refine List.pairwise_cons.2 ⟨?_, ih hl.tail⟩
        intro c hc
        obtain ⟨x, hx, rfl⟩ := List.mem_map.1 hc
        rcases (mem_upd hl.tail x).1 hx with rfl | ⟨hx, -⟩
        · show y.c < x.c; omega
        · exact hh x hx
theorem upd_set {e x : Ent} {l : List Ent} (hl : Inc l) {j : Nat} (h : l[j]? = some x) (hc : x.c = e.c) : upd e l = l.set j e := by
  induction l generalizing j with
  | nil => simp at h
  | cons y t ih =>
    cases j with
    | zero =>
      simp at h
      subst h
      unfold upd
      rw [if_neg (by omega), if_pos hc, List.set_cons_zero]
    | succ i =>
      have hx : x ∈ t := List.mem_of_getElem? (by simpa using h : t[i]? = some x)
      have := hl.head x hx
      unfold upd
      rw [if_neg (by omega), if_neg (by omega), List.set_cons_succ, ih hl.tail (by simpa using h)]
theorem upd_ins {e : Ent} {l : List Ent} (hne : ∀ x ∈ l, x.c ≠ e.c) (p : Nat) (hp : p ≤ l.length) (hlt : ∀ i x, i < p → l[i]? = some x → ¬ e.c < x.c) (hge : ∀ x, l[p]? = some x → e.c < x.c) : upd e l = l.take p ++ e :: l.drop p := by
  induction l generalizing p with
  | nil =>
    have : p = 0 := by simpa using hp
    subst this
    rfl
  | cons y t ih =>
    cases p with
    | zero =>
      have := hge y rfl
      unfold upd
      rw [if_pos this]
      rfl
    | succ i =>
      have h0 := hlt 0 y (by omega) rfl
      have h1 := hne y List.mem_cons_self
      unfold upd
      rw [if_neg h0, if_neg h1, ih (fun x hx => hne x (List.mem_cons_of_mem _ hx)) i (by simpa using hp) (fun k x hk hx => hlt (k + 1) x (by omega) (by simpa using hx)) (fun x hx => hge x (by simpa using hx))]
      rfl
/-- The telling map, at most n stores old. -/
def TelN (w : World) (m n : Nat) (l : List Ent) : Prop :=
  ∃ D : DataW Value, w.ownsMap Yba.prog 68 rdV m n D ∧ KeySet D (l.map (·.c)) ∧ ∀ e ∈ l, ∀ z, D.atKey (kl e.c) z = .held (.pointer (some ⟨e.b, 0, none⟩))
theorem TelN.tel {w : World} {m n : Nat} {l : List Ent} (h : TelN w m n l) (hn : n ≤ 2000) : Tel w m l := by
  obtain ⟨D, h1, h2⟩ := h
  exact ⟨n, D, h1, hn, h2⟩
theorem TelN.keep {w w' : World} {m n : Nat} {l : List Ent} (h : TelN w m n l) (hb : w'.heap[m]? = w.heap[m]?) : TelN w' m n l := by
  obtain ⟨D, ⟨es, clock, hh, r⟩, h2⟩ := h
  exact ⟨D, ⟨es, clock, hb.trans hh, r⟩, h2⟩
theorem kl_key (c : Nat) : WideAt.IsKeyLit (kl c) := by unfold kl; trivial
theorem tel_store {w : World} {m n : Nat} {l : List Ent} (h : TelN w m n l) (hn : n ≤ 4096) (hl : Inc l) {e : Ent} (hc : e.c < 512) :
    ∃ w', (Instr.mapUpdate 50 (.map (some m)) (K e.c) (.pointer (some ⟨e.b, 0, none⟩))).run Yba.prog w.drew = .ok () w' ∧ TelN w' m (n + 1) (upd e l) ∧ w.drew.mapTurned w' m := by
  obtain ⟨D, h1, ⟨hk1, hk2, hk3, hk4⟩, h3⟩ := h
  obtain ⟨w', hrun, hown, hturn⟩ := h1.drew.store law68 Yba.underlying50 (by unfold maxLen; omega) (key_is e.c hc) (val := .pointer (some ⟨e.b, 0, none⟩)) (d := .held (.pointer (some ⟨e.b, 0, none⟩))) (ps := []) rfl
  have hm := h1.isMap
  have hin : ∀ c, c ∈ (upd e l).map (·.c) ↔ c = e.c ∨ c ∈ l.map (·.c) := by
    intro c
    constructor
    · intro h
      obtain ⟨x, hx, rfl⟩ := List.mem_map.1 h
      rcases (mem_upd hl x).1 hx with rfl | ⟨hx, -⟩
      · exact .inl rfl
      · exact .inr (List.mem_map_of_mem hx)
    · rintro (rfl | h)
      · exact List.mem_map_of_mem ((mem_upd hl e).2 (.inl rfl))
      · obtain ⟨x, hx, rfl⟩ := List.mem_map.1 h
        by_cases hne : x.c = e.c
        · rw [hne]; exact List.mem_map_of_mem ((mem_upd hl e).2 (.inl rfl))
        · exact List.mem_map_of_mem ((mem_upd hl x).2 (.inr ⟨hx, hne⟩))
  have hinc := inc_upd (e := e) hl
  have hlt : ∀ c, c ∈ (upd e l).map (·.c) → c < 512 := fun c h => by
    rcases (hin c).1 h with rfl | h
    · exact hc
    · exact hk2 c h
  refine ⟨w', hrun, ⟨_, hown, ⟨List.Pairwise.imp (fun h => Nat.ne_of_lt h) hinc, hlt, ?_, ?_⟩, ?_⟩, hturn⟩
  · intro c hc'
    rw [hin]
    by_cases hce : c = e.c
    · subst hce
      simp [has_put_same hm (kl_key e.c)]
    · rw [has_put_other (fun q => hce (kl_inj hc' hc q)), hk3 c hc']
      simp [hce]
  · intro y hy
    by_cases hye : y = kl e.c
    · exact ⟨e.c, (hin _).2 (.inl rfl), hye⟩
    · rw [has_put_other hye] at hy
      obtain ⟨c, h1, h2⟩ := hk4 y hy
      exact ⟨c, (hin _).2 (.inr h1), h2⟩
  · intro x hx z
    rcases (mem_upd hl x).1 hx with rfl | ⟨hx, hne⟩
    · exact atKey_put_same hm (kl_key x.c) _ z
    · rw [atKey_put_other (fun q => hne (kl_inj (hk2 _ (List.mem_map_of_mem hx)) hc q))]
      exact h3 x hx z
theorem own_set {w : World} {base g n cap o : Nat} {xs : List Value} (h : w.ownsRow base 75 5 (.slice (some ⟨g, 0, none⟩) n cap) n xs) (v : Value) : (w.setCell ⟨g, o, none⟩ v).ownsRow base 75 5 (.slice (some ⟨g, 0, none⟩) n cap) n (xs.set o v) := by
  obtain ⟨h1, h2⟩ := h
  refine ⟨by simpa using h1, ?_⟩
  rcases h2 with ⟨h2, -⟩ | ⟨g', cap', cur, hv, hb, hh, h3, h4, h5, h6⟩
  · cases h2
  · cases hv
    refine .inr ⟨g, cap, cur.setIfInBounds o v, rfl, hb, ?_, h3, h4, by simpa using h5, ?_⟩
    · rw [setCell_eq_setRow w g o cur 75 (0, 0) v hh]
      exact setRow_heap w g cur _ _ _ hh
    · rw [Array.toList_setIfInBounds, List.take_set, h6]
end Go.Proofs.Ybulkauni.lawS2296ATells
