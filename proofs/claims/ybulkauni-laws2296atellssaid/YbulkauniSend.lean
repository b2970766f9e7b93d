import Derived.Test.YbulkauniRows
import Derived.WalkKit
import Derived.ProofKit
import Derived.OpenShut
import Derived.ShutString
import Derived.Deep.QuietTactic
import Derived.BigQuiet
import Derived.WalkSpells
import Derived.WalkLawsBesides
import Derived.Below
import Derived.Deep.AppendLies
import Derived.Lib.SliceRun
import Derived.Laws.IdiomStrings
import Derived.Deep.RegionWith
namespace Go.Proofs.Ybulkauni.lawS2296CSendTaken
open Go.ChangeShapes Go.WideShapes Go.ChangeAt Go.RowKit
theorem Yba.info22 : (Yba.prog.info? 22).map (fun i => (i.zero, i.size, i.bytes)) = some (some (.int .u64 0), 1, 8) := by kernel_rfl
def u64V (l : List Int) : List Value := l.map (Value.int .u64)
theorem bcell {W w1 : World} (hb : Below W.heap.size W w1) : (∀ b o, b < W.heap.size → w1.cell? ⟨b, o, none⟩ = W.cell? ⟨b, o, none⟩) ∧ (∀ b o, b < W.heap.size → w1.frozen? ⟨b, o, none⟩ = W.frozen? ⟨b, o, none⟩) :=
  ⟨fun b o h => hb.cell (p := ⟨b, o, none⟩) h, fun b o h => hb.frozen (p := ⟨b, o, none⟩) h⟩
/-- A slice whose n elements are these numbers. -/
def RowIs (w : World) (a : Option Addr) (n : Nat) (l : List Int) : Prop :=
  l.length = n ∧ ∀ k, k < n → ∃ b off, a = some ⟨b, off, none⟩ ∧ b < w.heap.size ∧ w.cell? ⟨b, off + k, none⟩ = some (.int .u64 (l.getD k 0))
theorem RowIs.keep {w w' : World} {a : Option Addr} {n : Nat} {l : List Int} (h : RowIs w a n l) (hs : w.heap.size ≤ w'.heap.size) (hc : ∀ b o v, b < w.heap.size → w.cell? ⟨b, o, none⟩ = some (.int .u64 v) → w'.cell? ⟨b, o, none⟩ = some (.int .u64 v)) : RowIs w' a n l :=
  ⟨h.1, fun k hk => by
    obtain ⟨b, off, e, h1, h2⟩ := h.2 k hk
    exact ⟨b, off, e, Nat.lt_of_lt_of_le h1 hs, hc _ _ _ h1 h2⟩⟩
theorem RowIs.below {w w' : World} {a : Option Addr} {n : Nat} {l : List Int} (h : RowIs w a n l) (hb : Below w.heap.size w w') : RowIs w' a n l :=
  h.keep hb.size (fun b o _ hlt hv => ((bcell hb).1 b o hlt).trans hv)
theorem own_form {w : World} {base n : Nat} {v : Value} {l : List Int} (h : w.ownsRow base 22 1 v n (u64V l)) : ∃ a cap, v = .slice a n cap ∧ RowIs w a n l := by
  have hl : l.length = n := by simpa [u64V] using h.1
  rcases h.2 with ⟨h', h0⟩ | ⟨g, cap', cur, h', hb, hh, h1, h2, h3, h4⟩
  · subst h' h0
    exact ⟨none, 0, rfl, hl, fun k hk => by omega⟩
  · subst h'
    refine ⟨_, _, rfl, hl, fun k hk => ⟨g, 0, rfl, (Array.getElem?_eq_some_iff.1 hh).1, ?_⟩⟩
    have hk' : k < l.length := by omega
    have := h.cellAt k (by omega)
    simp [u64V, hk'] at this
    simpa [List.getD_eq_getElem?_getD, hk'] using this
set_option maxHeartbeats 1000000 in
theorem equal_any (a1 a2 : Option Addr) (N cap1 cap2 : Nat) (rs : List Int) (w : World) (hlen : N ≤ 2048) (h1 : RowIs w a1 N rs) (h2 : RowIs w a2 N rs) :
    Calls Yba.prog 28 #[.slice a1 N cap1, .slice a2 N cap2] w fun e w' => e = .returned (.bool true) ∧ ∃ q, w.drewN q = w' := by
  have H1 : Hid _ := h1.2
  have H2 : Hid _ := h2.2
  clear h1 h2
  go_enter Yba.func28, Yba.ntmps28
  go_wp2
  go_loopw [13] (fun si wr => ∃ (k q : Nat), k ≤ N ∧ si = .int .i64 k ∧ w.drewN q = wr) (fun si _ => N - (intOf si).toNat)
  case atStart => exact ⟨0, 0, Nat.zero_le _, rfl, rfl⟩
  case round =>
    obtain ⟨k, q, hk, rfl, rfl⟩ := hrel
    by_cases hlt : k < N
    · obtain ⟨b1, o1, rfl, d1, c1⟩ := H1.out k hlt
      obtain ⟨b2, o2, rfl, d2, c2⟩ := H2.out k hlt
      generalize rs.getD k 0 = z at c1 c2
      clear H1 H2
      go_wp2
      go_quiet (fail)
      go_wp2
      go_roundw
      case rel => exact ⟨k + 1, _, by omega, by go_num, rfl⟩
      case measure => simp [intOf]; omega
    · go_wp2
      go_ret
      exact ⟨rfl, _, rfl⟩
set_option maxRecDepth 100000 in
set_option maxHeartbeats 1000000 in
theorem clone_nil (w : World) : Calls Yba.prog 19 #[.slice none 0 0] w fun e w' => e = .returned (.slice none 0 0) ∧ w = w' := by
  have hq := fun (wx : World) (a : Option Addr) (n c : Nat) => Lib.run_eql_slice_nil (P := Yba.prog) wx 26 22 a n c 0 0 Yba.underlying26
  go_enter Yba.func19, Yba.ntmps19
  go_wp2
  go_ret
  exact ⟨rfl, rfl⟩
theorem own_empty (w : World) (base : Nat) (hb : base ≤ w.heap.size) : (w.alloc (.cells #[] 22)).ownsRow base 22 1 (.slice (some ⟨w.heap.size, 0, none⟩) 0 0) 0 [] :=
  ⟨rfl, .inr ⟨w.heap.size, 0, #[], rfl, hb, heap_alloc_new _ _, Nat.le_refl _, Nat.zero_le _, rfl, rfl⟩⟩
set_option maxRecDepth 100000 in
set_option maxHeartbeats 1000000 in
theorem clone_some (ad : Addr) (n cap : Nat) (l : List Int) (w : World) (hlen : n ≤ 2048) (hl : l.length = n) (hc : ∀ j u, (u64V l)[j]? = some u → w.cell? (ad.add j) = some u) :
    Calls Yba.prog 19 #[.slice (some ad) n cap] w fun e w' => ∃ a' cap', e = .returned (.slice a' n cap') ∧ RowIs w' a' n l ∧ Below w.heap.size w w' := by
  obtain ⟨i0, hi, hz0, hz1, hz2⟩ := info_parts Yba.info22
  have hq := fun (wx : World) (a : Option Addr) (n c : Nat) => Lib.run_eql_slice_nil (P := Yba.prog) wx 26 22 a n c 0 0 Yba.underlying26
  have hc' : Hid (∀ j u, (u64V l)[j]? = some u → (w.alloc (.cells #[] 22)).cell? (ad.add j) = some u) := fun j u h => by
    rw [World.cell?_alloc_lt _ _ _ (World.block_lt_of_cell? w _ (hc j u h))]; exact hc j u h
  clear hc
  have HL : Hid _ := hl
  clear hl
  go_enter Yba.func19, Yba.ntmps19
  go_wp2_with (at_builtin; refine wpList_append_own _ rfl (.tmp 5) (.tmp 6) 26 rfl w.heap.size 22 i0 (.int .u64 0) 1 8 Yba.underlying26 hi hz0 hz1 hz2 rfl (by decide) _ 0 [] rfl (own_empty w _ (Nat.le_refl _)) ad n cap (u64V l) rfl ?c0 hc'.out ?c2 ?c3 ?c4 ?c5 ?_)
  case c0 => simp [u64V]; exact HL.out
  case c2 => intro u hu; simp [u64V] at hu; obtain ⟨z, _, rfl⟩ := hu; rfl
  case c3 => unfold maxLen; omega
  case c4 => omega
  case c5 => simp
  intro v' w1 hown hgrow _
  have hb : Below w.heap.size w w1 := ((Below.refl _ _).alloc (Nat.le_refl _) _).grown hgrow (by simp) (fun x hx => by cases hx; exact Nat.le_refl _)
  have hown' : w1.ownsRow w.heap.size 22 1 v' n (u64V l) := by simpa using hown
  obtain ⟨a', cap', hv', hR⟩ := own_form hown'
  rw [hv']
  have HR : Hid _ := hR
  clear hown hgrow hown' hv' hR
  go_wp2
  go_ret
  exact ⟨a', cap', rfl, HR.out, hb⟩
theorem clone_any (a : Option Addr) (n cap : Nat) (l : List Int) (w : World) (hlen : n ≤ 2048) (h : RowIs w a n l) (hnil : a = none → n = 0 ∧ cap = 0) :
    Calls Yba.prog 19 #[.slice a n cap] w fun e w' => ∃ a' cap', e = .returned (.slice a' n cap') ∧ RowIs w' a' n l ∧ Below w.heap.size w w' := by
  cases a with
  | none =>
    obtain ⟨rfl, rfl⟩ := hnil rfl
    refine (clone_nil w).mono ?_
    rintro e w' ⟨rfl, rfl⟩
    exact ⟨_, _, rfl, h, Below.refl _ _⟩
  | some ad =>
    refine clone_some ad n cap l w hlen h.1 ?_
    intro j u hu
    have hj : j < l.length := by have := (List.getElem?_eq_some_iff.1 hu).1; simpa [u64V] using this
    obtain ⟨b, off, e, _, hcell⟩ := h.2 j (by rw [← h.1]; exact hj)
    cases e
    have e2 : (⟨b, off, none⟩ : Addr).add j = ⟨b, off + j, none⟩ := by cases j <;> simp [Addr.add]
    rw [e2, hcell]
    simp [u64V, hj] at hu
    simp [List.getD_eq_getElem?_getD, hj, hu]
set_option maxRecDepth 100000 in
set_option maxHeartbeats 1000000 in
theorem msg_odd (kind : Nat) (o r : Int) (v : Value) (b : Int) (q : Bool) (w : World) (hk : kind < 256) (h : ((kind : Int) % 2 == 0) = false) :
    Calls Yba.prog 13 #[.int .u8 kind, .int .u64 o, .int .u64 r, v, .int .u64 b, .bool q] w fun e w' => e = .returned (.iface 125 (.agg #[.int .u64 b, .int .u64 r, .int .u64 o, .bool q])) ∧ w = w' := by
  go_enter Yba.func13, Yba.ntmps13
  go_wp2
  go_ret
  exact ⟨rfl, rfl⟩
set_option maxRecDepth 100000 in
set_option maxHeartbeats 1000000 in
theorem msg_even (kind : Nat) (o r : Int) (a : Option Addr) (n cap : Nat) (l : List Int) (b : Int) (q : Bool) (w : World) (hk : kind < 256) (h : ((kind : Int) % 2 == 0) = true) (hlen : n ≤ 2048) (hv : RowIs w a n l) (hnil : a = none → n = 0 ∧ cap = 0) :
    Calls Yba.prog 13 #[.int .u8 kind, .int .u64 o, .int .u64 r, .slice a n cap, .int .u64 b, .bool q] w fun e w' => ∃ a' cap', e = .returned (.iface 123 (.agg #[.int .u64 o, .int .u64 r, .slice a' n cap', .slice none 0 0])) ∧ RowIs w' a' n l ∧ Below w.heap.size w w' := by
  have Hc : Hid _ := clone_any a n cap l w hlen hv hnil
  clear hv hnil
  go_enter Yba.func13, Yba.ntmps13
  go_wp2_with fail
  refine Calls.mono Hc.out ?_
  rintro e w1 ⟨a', cap', rfl, hR, hb⟩
  have HR : Hid _ := hR
  clear hR
  go_wp2
  go_ret
  exact ⟨a', cap', rfl, HR.out, hb⟩
theorem below_drewN {B : Nat} {a w : World} (h : Below B a w) (q : Nat) : Below B a (w.drewN q) := by
  obtain ⟨h1, h2, h3, h4, h5⟩ := h
  exact ⟨h1, h2, h3, h4, h5⟩
theorem ta125 (x : Value) (w : World) : (Instr.typeAssert (.iface 125 x) 79 125 true).run Yba.prog w = .ok (.tuple #[x, .bool true]) w := by kernel_rfl
theorem ta123 (x : Value) (w : World) : (Instr.typeAssert (.iface 123 x) 79 123 true).run Yba.prog w = .ok (.tuple #[x, .bool true]) w := by kernel_rfl
set_option maxRecDepth 100000 in
set_option maxHeartbeats 1000000 in
theorem same_odd (kind : Nat) (o r : Int) (v : Value) (b : Int) (q : Bool) (w : World) (hk : kind < 256) (h : ((kind : Int) % 2 == 0) = false) :
    Calls Yba.prog 14 #[.iface 125 (.agg #[.int .u64 b, .int .u64 r, .int .u64 o, .bool q]), .int .u8 kind, .int .u64 o, .int .u64 r, v, .int .u64 b, .bool q] w fun e w' => e = .returned (.bool true) ∧ Below w.heap.size w w' := by
  have hta := ta125
  go_enter Yba.func14, Yba.ntmps14
  go_wp2
  go_ret
  exact ⟨rfl, (Below.refl _ _).alloc (Nat.le_refl _) _⟩
set_option maxRecDepth 100000 in
set_option maxHeartbeats 1000000 in
theorem same_even (kind : Nat) (o r : Int) (a a' : Option Addr) (n cap cap' : Nat) (l : List Int) (b : Int) (q : Bool) (w : World) (hk : kind < 256) (h : ((kind : Int) % 2 == 0) = true) (hlen : n ≤ 2048) (h1 : RowIs w a n l) (h2 : RowIs w a' n l) :
    Calls Yba.prog 14 #[.iface 123 (.agg #[.int .u64 o, .int .u64 r, .slice a' n cap', .slice none 0 0]), .int .u8 kind, .int .u64 o, .int .u64 r, .slice a n cap, .int .u64 b, .bool q] w fun e w' => e = .returned (.bool true) ∧ Below w.heap.size w w' := by
  have hta := ta123
  have hb : Below w.heap.size w (w.alloc (.cells #[.int .u64 o, .int .u64 r, .slice a' n cap', .slice none 0 0] 123)) := (Below.refl _ _).alloc (Nat.le_refl _) _
  have He : Hid _ := equal_any a' a n cap' cap l (w.alloc (.cells #[.int .u64 o, .int .u64 r, .slice a' n cap', .slice none 0 0] 123)) hlen (h2.below hb) (h1.below hb)
  clear h1 h2 hb
  go_enter Yba.func14, Yba.ntmps14
  go_wp2_with fail
  refine Calls.mono He.out ?_
  rintro e w1 ⟨rfl, k, rfl⟩
  go_wp2
  go_ret
  exact ⟨rfl, below_drewN ((Below.refl _ _).alloc (Nat.le_refl _) _) _⟩
theorem Yba.info81 : (Yba.prog.info? 81).map (fun i => (i.zero, i.size, i.bytes)) = some (some (.agg #[.int .u64 0, .nilIface]), 2, 24) := by kernel_rfl
/-- What the call of Send leaves: the log holds the one envelope; nothing else that was there has turned. -/
def Sent (L : Nat) (to : Int) (m : Value) (w w' : World) : Prop :=
  ∃ g cap, w'.cell? ⟨L, 0, none⟩ = some (.slice (some ⟨g, 0, none⟩) 1 cap) ∧ w'.cell? ⟨g, 0, none⟩ = some (.int .u64 to) ∧ w'.cell? ⟨g, 1, none⟩ = some m ∧ w.heap.size ≤ w'.heap.size ∧ (∀ b o, b < w.heap.size → b ≠ L → w'.cell? ⟨b, o, none⟩ = w.cell? ⟨b, o, none⟩) ∧ Below L w w'
theorem two_cells (w : World) (x y : Value) (t : TypeId) : ∀ j u, [x, y][j]? = some u → (w.alloc (.cells #[x, y] t)).cell? ((⟨w.heap.size, 0, none⟩ : Addr).add j) = some u := by
  intro j u h
  match j, h with
  | 0, h => simp at h; subst h; simp [Addr.add]
  | 1, h => simp at h; subst h; simp [Addr.add]
set_option maxRecDepth 100000 in
set_option maxHeartbeats 1000000 in
theorem send_fn (L : Nat) (to : Int) (m : Value) (w : World) (hL : L < w.heap.size) (hc : w.cell? ⟨L, 0, none⟩ = some (.slice none 0 0)) (hf : w.frozen? ⟨L, 0, none⟩ = false) (hm : m.oneCell' = true) :
    Calls Yba.prog 11 #[.agg #[.int .u64 to, m], .pointer (some ⟨L, 0, none⟩)] w fun e w' => e = .returned (.bool true) ∧ Sent L to m w w' := by
  obtain ⟨i0, hi, hz0, hz1, hz2⟩ := info_parts Yba.info81
  have Hm : Hid _ := hm
  clear hm
  go_enter Yba.func11, Yba.ntmps11
  go_wp2_with (at_builtin; refine wpList_append_lies _ rfl (.tmp 4) (.tmp 6) 55 rfl w.heap.size 81 i0 (.agg #[.int .u64 0, .nilIface]) 2 24 Yba.underlying55 hi hz0 hz1 hz2 rfl (by decide) (.slice none 0 0) 0 [] rfl (World.ownsRow_nil _ _ _ _) ⟨w.heap.size + 1, 0, none⟩ 1 1 [.int .u64 to, m] rfl rfl ?c1 ?c2 (by omega) ?c3 ?c4 ?c5 _ rfl ?_)
  case c1 => have := two_cells (w.alloc (.cells #[.int .u64 to, m] 81)) (.int .u64 to) m 81; simpa using this
  case c2 => intro u hu; simp at hu; rcases hu with rfl | rfl; rfl; exact Hm.out
  case c3 => unfold maxLen; omega
  case c4 => omega
  case c5 => simp; omega
  intro g cap w1 hown1 hgrow1 hat hlt
  have hk1 : ∀ b o, b < w.heap.size → w1.cell? ⟨b, o, none⟩ = w.cell? ⟨b, o, none⟩ := fun b o hb => by
    rw [hgrow1.cell_far ⟨b, o, none⟩ (by simp; omega) (by simp [Value.ownBlock]), World.cell?_alloc_lt _ _ _ (by simp; omega), World.cell?_alloc_lt _ _ _ hb]
  have hk2 : w1.frozen? ⟨L, 0, none⟩ = false := by
    rw [hgrow1.frozen_far ⟨L, 0, none⟩ (by simp; omega) (by simp [Value.ownBlock])]
    exact (World.frozen?_alloc_past _ _ _ (by simp; omega)).trans ((World.frozen?_alloc_past _ _ _ hL).trans hf)
  have hc1 := (hk1 L 0 hL).trans hc
  have hg0 := hown1.cellAt 0 (by omega)
  have hg1 := hown1.cellAt 1 (by omega)
  have hgL : g ≠ L := by
    obtain ⟨_, _, e, h, _⟩ := hown1.form (by omega)
    cases e
    omega
  have hb : Below w.heap.size w w1 := (((Below.refl w.heap.size w).alloc (Nat.le_refl _) (.cells #[.int .u64 to, m] 81)).alloc (by simp) (.cells #[.int .u64 to, m] 81)).grown hgrow1 (by simp; omega) (fun k h => by cases h)
  have HK1 : Hid _ := hk1
  have HG : Hid (w1.cell? ⟨g, 0, none⟩ = some (.int .u64 to) ∧ w1.cell? ⟨g, 1, none⟩ = some m) := ⟨by simpa using hg0, by simpa using hg1⟩
  clear hown1 hgrow1 hg0 hg1 hk1 hat
  go_wp2
  go_ret
  refine ⟨rfl, g, cap, World.cell?_setCell_same _ _ _ hc1, ?_, ?_, by simpa using hb.size, fun b o hb1 hb2 => ?_, (hb.mono (Nat.le_of_lt hL)).setCell (Nat.le_refl _) _⟩
  · rw [World.cell?_setCell_other _ _ _ _ (by intro he; injection he; omega)]; exact HG.out.1
  · rw [World.cell?_setCell_other _ _ _ _ (by intro he; injection he; omega)]; exact HG.out.2
  · rw [World.cell?_setCell_other _ _ _ _ (by intro he; injection he; omega)]; exact HK1.out b o hb1
theorem log_cell (w : World) (o2 : Obj) (off : Nat) (v : Int) (h : ((w.alloc (.cells #[.slice none 0 0] 55)).alloc o2).cell? ⟨w.heap.size, off, none⟩ = some (.int .u64 v)) : False := by
  rw [World.cell?_alloc_lt _ _ _ (by simp), World.cell?_alloc_mark w #[.slice none 0 0] 55 (0, 0) off] at h
  cases off with
  | zero => simp at h
  | succ k => simp at h
theorem Sent.before {L : Nat} {to : Int} {m : Value} {w w' : World} {o : Obj} (h : Sent L to m (w.alloc o).drew w') (hL : L < w.heap.size) : Sent L to m w w' := by
  obtain ⟨g, cap, h1, h2, h3, h4, h5, h6⟩ := h
  have hz : (w.alloc o).drew.heap.size = w.heap.size + 1 := by simp
  refine ⟨g, cap, h1, h2, h3, by rw [hz] at h4; omega, fun b off hb hne => ?_, ?_⟩
  · rw [h5 b off (by rw [hz]; omega) hne]
    exact World.cell?_alloc_lt _ _ _ hb
  · exact (((Below.refl L w).alloc (Nat.le_of_lt hL) o).drew).trans h6
set_option maxRecDepth 100000 in
set_option maxHeartbeats 1000000 in
theorem send_any (M L : Nat) (to : Int) (m : Value) (w : World) (hM : M < w.heap.size) (hS : w.cell? ⟨M, 3, none⟩ = some (.func (Fn.func 11) #[] #[.pointer (some ⟨L, 0, none⟩)])) (hL : L < w.heap.size) (hc : w.cell? ⟨L, 0, none⟩ = some (.slice none 0 0)) (hf : w.frozen? ⟨L, 0, none⟩ = false) (hm : m.oneCell' = true) :
    Calls Yba.prog 12 #[.pointer (some ⟨M, 0, none⟩), .agg #[.int .u64 to, m]] w fun e w' => e = .returned (.tuple #[]) ∧ Sent L to m w w' := by
  have Hs : Hid _ := send_fn L to m (w.alloc (.cells #[.int .u64 to, m] 81)).drew (by simp; omega) ((World.cell?_alloc_lt _ _ _ hL).trans hc) ((World.frozen?_alloc_past _ _ _ hL).trans hf) hm
  clear hc hf hm
  go_enter Yba.func12, Yba.ntmps12
  go_wp2
  go_region_with (go_at_call 11; refine Calls.mono Hs.out ?_; rintro e w' ⟨rfl, hsent⟩)
  all_goals go_wp2
  all_goals go_end0
  all_goals exact ⟨rfl, hsent.before hL⟩
set_option maxRecDepth 100000 in
set_option maxHeartbeats 1000000 in
theorem walk_odd (to : Int) (kind : Nat) (o r : Int) (a : Option Addr) (n cap : Nat) (b : Int) (q : Bool) (w : World) (hk : kind < 256) (h : ((kind : Int) % 2 == 0) = false) (hn : n ≤ 1024) :
    Calls Yba.prog 4 #[.int .u64 to, .int .u8 kind, .int .u64 o, .int .u64 r, .slice a n cap, .int .u64 b, .bool q] w fun e w' => e = .returned (.bool true) ∧ Below w.heap.size w w' := by
  go_enter Yba.func4, Yba.ntmps4
  go_wp2_with fail
  refine (msg_odd kind o r _ b q _ hk h).mono ?_
  rintro e w1 ⟨rfl, rfl⟩
  go_wp2_with fail
  refine (send_any (w.heap.size + 1) w.heap.size to (.iface 125 (.agg #[.int .u64 b, .int .u64 r, .int .u64 o, .bool q])) _ ?_ ?_ ?_ ?_ ?_ rfl).mono ?_
  · simp
  · go_simp
  · simp; omega
  · go_simp
  · go_simp
  rintro e w2 ⟨rfl, g, cap2, c1, c2, c3, c4, c5, c6⟩
  have hb : Below w.heap.size w w2 := (((Below.refl w.heap.size w).alloc (Nat.le_refl _) _).alloc (by simp) _).trans c6
  clear c4 c5 c6
  go_wp2_with fail
  refine (same_odd kind o r _ b q _ hk h).mono ?_
  rintro e w3 ⟨rfl, hb3⟩
  go_wp2
  go_ret
  exact ⟨rfl, hb.trans (hb3.mono hb.size)⟩
set_option maxRecDepth 100000 in
set_option maxHeartbeats 1000000 in
theorem walk_even (to : Int) (kind : Nat) (o r : Int) (a : Option Addr) (n cap : Nat) (l : List Int) (b : Int) (q : Bool) (w : World) (hk : kind < 256) (h : ((kind : Int) % 2 == 0) = true) (hn : n ≤ 1024) (hv : RowIs w a n l) (hnil : a = none → n = 0 ∧ cap = 0) :
    Calls Yba.prog 4 #[.int .u64 to, .int .u8 kind, .int .u64 o, .int .u64 r, .slice a n cap, .int .u64 b, .bool q] w fun e w' => e = .returned (.bool true) ∧ Below w.heap.size w w' := by
  have HV : Hid (RowIs w a n l) := hv
  have HN : Hid _ := hnil
  clear hv hnil
  go_enter Yba.func4, Yba.ntmps4
  go_wp2_with fail
  refine (msg_even kind o r a n cap l b q _ hk h (by omega) (HV.out.below (((Below.refl w.heap.size w).alloc (Nat.le_refl _) _).alloc (by simp) _)) HN.out).mono ?_
  rintro e w1 ⟨a', cap', rfl, hR, hb1⟩
  have HR : Hid (RowIs w1 a' n l) := hR
  have hs1 := hb1.size
  simp only [World.size_alloc] at hs1
  have k1 := (bcell hb1).1 (w.heap.size + 1) 3 (by simp)
  have k2 := (bcell hb1).1 w.heap.size 0 (by simp; omega)
  have k3 := (bcell hb1).2 w.heap.size 0 (by simp; omega)
  have hb2 : Below w.heap.size w w1 := (((Below.refl w.heap.size w).alloc (Nat.le_refl _) _).alloc (by simp) _).trans (hb1.mono (by simp; omega))
  have HL : Hid (∀ b off v, w1.cell? ⟨b, off, none⟩ = some (.int .u64 v) → b ≠ w.heap.size) := fun b off v hv e => by
    subst e
    rw [(bcell hb1).1 w.heap.size off (by simp; omega)] at hv
    exact log_cell _ _ _ _ hv
  have m1 : w1.cell? ⟨w.heap.size + 1, 3, none⟩ = some (.func (Fn.func 11) #[] #[.pointer (some ⟨w.heap.size, 0, none⟩)]) := k1.trans (by go_simp)
  have m2 : w1.cell? ⟨w.heap.size, 0, none⟩ = some (.slice none 0 0) := k2.trans (by go_simp)
  have m3 : w1.frozen? ⟨w.heap.size, 0, none⟩ = false := k3.trans (by go_simp)
  have m4 : w.heap.size + 1 < w1.heap.size := by omega
  clear hR k1 k2 k3 hb1
  go_wp2_with fail
  refine (send_any (w.heap.size + 1) w.heap.size to (.iface 123 (.agg #[.int .u64 o, .int .u64 r, .slice a' n cap', .slice none 0 0])) _ (by omega) m1 (by omega) m2 m3 rfl).mono ?_
  rintro e w2 ⟨rfl, g, cap2, c1, c2, c3, c4, c5, c6⟩
  have hb : Below w.heap.size w w2 := hb2.trans c6
  have HR2 : Hid (RowIs w2 a' n l) := HR.out.keep c4 (fun b off v hlt hv => (c5 b off hlt (HL.out b off v hv)).trans hv)
  have HV2 : Hid (RowIs w2 a n l) := HV.out.below hb
  clear c4 c5 c6 m1 m2 m3
  go_wp2_with fail
  refine (same_even kind o r a a' n cap cap' l b q _ hk h (by omega) HV2.out HR2.out).mono ?_
  rintro e w3 ⟨rfl, hb3⟩
  go_wp2
  go_ret
  exact ⟨rfl, hb.trans (hb3.mono hb.size)⟩
set_option maxRecDepth 100000 in
theorem walk_long (to : Int) (kind o r : Int) (a : Option Addr) (n cap : Nat) (b : Int) (q : Bool) (w : World) (hn : 1024 < n) (hm : n ≤ maxLen) :
    Calls Yba.prog 4 #[.int .u64 to, .int .u8 kind, .int .u64 o, .int .u64 r, .slice a n cap, .int .u64 b, .bool q] w fun e w' => e = .returned (.bool true) ∧ Below w.heap.size w w' := by
  unfold maxLen at hm
  go_enter Yba.func4, Yba.ntmps4
  go_wp2
  go_ret
  exact ⟨rfl, Below.refl _ _⟩
end Go.Proofs.Ybulkauni.lawS2296CSendTaken
