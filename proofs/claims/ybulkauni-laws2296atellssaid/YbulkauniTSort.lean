import Derived.Test.YbulkauniTCmp
import Derived.Shelf.SlSortCmp.NoneTotal
namespace Go.Proofs.Ybulkauni.lawS2296ATells
open Go.ChangeShapes Go.WideShapes Go.ChangeAt Go.RowKit Go.Shelf Go.Maps Go.Sort
theorem rowK_get (r : Nat) (hr : r < 3) : ∀ (ss : List Nat) (k : Nat), k < ss.length → (rowK ss)[k * 3 + r]? = (encK (ss.getD k 0))[r]?
  | [], k, hk => absurd hk (Nat.not_lt_zero _)
  | s :: ss, 0, _ => by
    show (encK s ++ rowK ss)[0 * 3 + r]? = _
    rw [Nat.zero_mul, Nat.zero_add, List.getElem?_append_left (by simpa [encK] using hr)]
    rfl
  | s :: ss, k + 1, hk => by
    show (encK s ++ rowK ss)[(k + 1) * 3 + r]? = _
    have he : (encK s).length = 3 := rfl
    rw [List.getElem?_append_right (by omega), he, show (k + 1) * 3 + r - 3 = k * 3 + r by omega, rowK_get r hr ss k (by simpa using hk)]
    rfl
theorem encK_len (c : Nat) : (encK c).length = 3 := rfl
theorem encK_one (c : Nat) : ∀ v ∈ encK c, v.oneCell' = true := by
  intro v hv; simp [encK] at hv; rcases hv with rfl | rfl | rfl <;> rfl
theorem bang_of {α : Type} [Inhabited α] {l : List α} {i : Nat} {v : α} (h : l[i]? = some v) : l[i]! = v := by
  simp [h]
theorem holdsK_of {W : World} {g cap base : Nat} {ss : List Nat} (h : W.ownsRow base 68 3 (.slice (some ⟨g, 0, none⟩) ss.length cap) ss.length (rowK ss)) : HoldsK encK 3 W g 0 ss.toArray := by
  intro j hj
  have hj' : j < ss.length * 3 := by simpa using hj
  have hc := h.cellAt j hj'
  obtain ⟨g', cap', cur, e, hb, hgb, _⟩ := h.2.resolve_left (by rintro ⟨e, _⟩; cases e)
  cases e
  refine ⟨?_, by simp [World.frozen?, hgb]⟩
  rw [get_flatK _ _ _ j (by simpa using hj'), Nat.zero_add]
  have hk : j / 3 < ss.length := by omega
  have hr := rowK_get (j % 3) (Nat.mod_lt _ (by omega)) ss (j / 3) hk
  rw [show j / 3 * 3 + j % 3 = j by omega] at hr
  have hlt : j % 3 < (encK (ss.getD (j / 3) 0)).length := by rw [encK_len]; exact Nat.mod_lt _ (by omega)
  have e1 : ss.toArray[j / 3]! = ss.getD (j / 3) 0 := by simp [List.getD_eq_getElem?_getD, hk]
  rw [e1]
  have e2 := List.getElem?_eq_getElem hlt
  rw [e2] at hr
  rw [bang_of e2]
  exact hc.trans hr
/-- A slice whose elements are the passages l, in a block from base on. -/
def KRow (w : World) (base : Nat) (a : Option Addr) (l : List Nat) : Prop :=
  ∀ k, k < l.length → ∃ g, a = some ⟨g, 0, none⟩ ∧ base ≤ g ∧ g < w.heap.size ∧ w.cell? ⟨g, k * 3, none⟩ = some (.int .u64 ((l.getD k 0 / 64 : Nat) : Int)) ∧ w.cell? ⟨g, k * 3 + 1, none⟩ = some (.int .u64 ((l.getD k 0 / 8 % 8 : Nat) : Int)) ∧ w.cell? ⟨g, k * 3 + 2, none⟩ = some (.int .u64 ((l.getD k 0 % 8 : Nat) : Int))
theorem krow_of {W : World} {g base : Nat} {l : List Nat} (h : HoldsK encK 3 W g 0 l.toArray) (hb : base ≤ g) (hg : g < W.heap.size) : KRow W base (some ⟨g, 0, none⟩) l := by
  intro k hk
  have key : ∀ r, r < 3 → W.cell? ⟨g, k * 3 + r, none⟩ = some (encK (l.getD k 0))[r]! := fun r hr => by
    have hj : k * 3 + r < (flatK encK 3 l.toArray).size := by simp; omega
    have := (h (k * 3 + r) hj).1
    rw [get_flatK _ _ _ _ (by simpa using hj), Nat.zero_add, show (k * 3 + r) / 3 = k by omega, show (k * 3 + r) % 3 = r by omega] at this
    have e1 : l.toArray[k]! = l.getD k 0 := by simp [List.getD_eq_getElem?_getD, hk]
    rw [e1] at this
    exact this
  exact ⟨g, rfl, hb, hg, key 0 (by omega), key 1 (by omega), key 2 (by omega)⟩
theorem sorted_eq {d : Array Nat} {ss l : List Nat} (hp : PermIn 0 ss.toArray.size ss.toArray d) (hs : SortedIn (ltOf cf) 0 ss.toArray.size d) (hl : ss.Perm l) (hinc : l.Pairwise (· < ·)) : d = l.toArray := by
  obtain ⟨h1, _, h3⟩ := hp
  have hsz : d.size = ss.length := by simpa using h1
  have e1 : (d.extract 0 ss.toArray.size) = d := by rw [← h1]; simp
  have e2 : (ss.toArray.extract 0 ss.toArray.size) = ss.toArray := by simp
  rw [e1, e2] at h3
  have h4 : d.toList.Perm l := h3.trans hl
  have h5 : d.toList.Pairwise (· ≤ ·) := by
    refine List.pairwise_iff_getElem.2 fun i j hi hj hij => ?_
    have := hs i j (Nat.zero_le _) hij (by simpa [hsz] using hj)
    rw [lt_is] at this
    have hi' : i < d.size := by simpa using hi
    have hj' : j < d.size := by simpa using hj
    simp [hi', hj'] at this ⊢
    exact this
  have := List.Perm.eq_of_pairwise (le := fun a b : Nat => a ≤ b) (fun a b _ _ h1 h2 => Nat.le_antisymm h1 h2) h5 (hinc.imp (fun h => Nat.le_of_lt h)) h4
  rw [← this]
theorem below_sortWorldK {w0 W : World} {g n : Nat} {d : Array Nat} {os : Array Obj} (hb : Below w0.heap.size w0 W) (hg : w0.heap.size ≤ g) : Below w0.heap.size w0 (sortWorldK encK 3 W g 0 n d os) := by
  refine hb.grown (row := some g) ⟨rfl, rfl, rfl, by simp [sortWorldK, putRowK, putRow, mapBlock, Sort.ahead], fun k hk hne => ?_⟩ hb.size (fun k e => by cases e; exact hg)
  have hne' : g ≠ k := fun e => hne (by rw [e])
  unfold sortWorldK
  rw [heap_grow_old _ _ (by simpa [putRowK, putRow, mapBlock, Sort.ahead] using hk)]
  simp [putRowK, putRow, mapBlock, Sort.ahead, Array.getElem?_modify, hne']
set_option maxRecDepth 100000 in
set_option maxHeartbeats 1000000 in
theorem sorted_any {H : Type} (Bm b nn : Nat) (D0 : DataW H) {R : Value → Option (DataW H × List MemPlace)} (l : List Nat) (hinc : l.Pairwise (· < ·)) (hks : KeySet D0 l) (hN : Maps.size D0 ≤ 4096) (hl : l.length ≤ 4096) (w : World) (hBm : Bm < w.heap.size)
    (hm : w.cell? ⟨Bm, 0, none⟩ = some (.map (some b))) (hown : w.ownsMap Yba.prog 68 R b nn D0) :
    Calls Yba.prog 23 #[.func (.func 37) #[] #[.pointer (some ⟨Bm, 0, none⟩)], .func (.func 25) #[] #[]] w fun e w' => ∃ a cap, e = .returned (.slice a l.length cap) ∧ KRow w' w.heap.size a l ∧ Below w.heap.size w w' := by
  have Hc : Hid _ := collect_any Bm b nn D0 l hks hN w hBm hm hown
  have Hi : Hid _ := hinc
  clear hm hown hinc
  go_enter Yba.func23, Yba.ntmps23
  go_wp2_with fail
  refine Calls.mono Hc.out ?_
  rintro e w1 ⟨v, ss, rfl, h1, h2, h3⟩
  have hlen : ss.length = l.length := h1.length_eq
  rcases h2.2 with ⟨rfl, hz⟩ | ⟨g, cap, cur, rfl, hbase, hgb, r1, r2, r3, r4⟩
  · have hl0 : l = [] := List.eq_nil_of_length_eq_zero (by omega)
    subst hl0
    clear h2
    have hs0 := AnyF.slices_SortFunc_none Yba.sortP none 0 (.func (.func 25) #[] #[]) w1
    change Calls Yba.prog 36 _ _ _ at hs0
    go_wp2_with fail
    refine hs0.mono ?_
    rintro e w2 ⟨rfl, rfl⟩
    go_wp2
    go_ret
    exact ⟨none, 0, rfl, fun k hk => absurd hk (Nat.not_lt_zero _), h3⟩
  · have hH := holdsK_of h2
    have hgl : g < w1.heap.size := (Array.getElem?_eq_some_iff.1 hgb).1
    have hss : ss.toArray.size = ss.length := by simp
    have hcon := AnyQ.slices_SortFunc Yba.sortP 3 Yba.isAgg68 Yba.sizeOf68 encK encK_len encK_one cf swo 25 #[] g 0 cap ss.toArray w1 (enters_of Yba.func25 (by kernel_rfl) rfl) (cmpLays g 0 ss.toArray.size w1) hH hgl (by rw [hss]; omega)
    change Calls Yba.prog 36 _ _ _ at hcon
    rw [hss, hlen] at hcon
    have HH : Hid _ := hH
    have H1 : Hid _ := h1
    clear h2 hH h1
    go_wp2_with fail
    refine hcon.mono ?_
    clear hcon
    rintro e w2 ⟨rfl, d', n, os, hp, hs, rfl⟩
    have hd := sorted_eq (by rw [hss, hlen]; exact hp) (by rw [hss, hlen]; exact hs) H1.out Hi.out
    subst hd
    have HK : Hid (KRow (sortWorldK encK 3 w1 g 0 n l.toArray os) w.heap.size (some ⟨g, 0, none⟩) l) := krow_of (holdsK_sortWorldK_c encK 3 w1 g 0 ss.toArray l.toArray n os HH.out hgl (by simpa using hlen.symm)) hbase (Nat.lt_of_lt_of_le hgl (size_sortWorldK_c encK 3 w1 g 0 n l.toArray os))
    have HB : Hid (Below w.heap.size w (sortWorldK encK 3 w1 g 0 n l.toArray os)) := below_sortWorldK h3 hbase
    generalize sortWorldK encK 3 w1 g 0 n l.toArray os = w2 at HK HB ⊢
    go_wp2
    go_ret
    exact ⟨some ⟨g, 0, none⟩, cap, rfl, HK.out, HB.out⟩
end Go.Proofs.Ybulkauni.lawS2296ATells
