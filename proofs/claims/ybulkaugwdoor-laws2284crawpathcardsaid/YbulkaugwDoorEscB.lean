import Derived.Test.YbulkaugwDoorZz

namespace Go.Proofs.YbulkaugwDoor
open Go.ChangeShapes Go.WideShapes Go.ChangeAt Go.RowKit

theorem conv_back_any (wr : World) (base g cap k : Nat) (e : TypeId) (l : List UInt8) (hown : wr.ownsRow base e 1 (.slice (some ⟨g, 0, none⟩) k cap) k (bytesV l)) (hl : l.length = k) :
    (convert 22 9 (.slice (some ⟨g, 0, none⟩) k cap)).run Ybad.prog wr = .ok (.string ⟨l.toArray⟩) wr := by
  subst hl
  refine run_convert_bytes_back wr 22 9 5 ⟨g, 0, none⟩ cap l Ybad.underlying22 Ybad.underlying5 Ybad.underlying9 fun j hj => ?_
  have := hown.cellAt j (by omega)
  have e : (⟨g, 0, none⟩ : Addr).add j = ⟨g, j, none⟩ := by
    cases j <;> simp [Addr.add]
  rw [e]
  simpa [bytesV, hj] using this
/-- What the third loop owns. -/
structure EscInv (w3 wr : World) (base g R cap : Nat) (e : TypeId) (l : List UInt8) (xs : List Value) : Prop where
  own : wr.ownsRow base e 1 (.slice (some ⟨g, 0, none⟩) R cap) R xs
  done : xs.take l.length = bytesV l
  kept : ∀ b o, b ≠ g → b < w3.heap.size → wr.cell? ⟨b, o, none⟩ = w3.cell? ⟨b, o, none⟩
  below : Below base w3 wr
theorem EscInv.len {w3 wr : World} {base g R cap : Nat} {e : TypeId} {l : List UInt8} {xs : List Value} (h : EscInv w3 wr base g R cap e l xs) : xs.length = R := by simpa using h.own.1
theorem EscInv.base {w3 wr : World} {base g R cap : Nat} {e : TypeId} {l : List UInt8} {xs : List Value} (h : EscInv w3 wr base g R cap e l xs) : base ≤ g := by
  rcases h.own.2 with ⟨h', _⟩ | ⟨g', cap', cur, h', hb, _⟩
  · simp at h'
  · simp only [Value.slice.injEq, Option.some.injEq, Addr.mk.injEq, and_true, true_and] at h'
    obtain ⟨rfl, _⟩ := h'
    exact hb
theorem take_set_next (xs : List Value) (m : Nat) (v : Value) (h : m < xs.length) : (xs.set m v).take (m + 1) = xs.take m ++ [v] := by
  rw [List.take_succ_eq_append_getElem (by simpa using h), List.take_set, List.getElem_set_self, List.set_eq_of_length_le (by simp; omega)]
/-- One byte more. -/
theorem EscInv.push {w3 wr : World} {base g R cap : Nat} {e : TypeId} {l : List UInt8} {xs : List Value} (h : EscInv w3 wr base g R cap e l xs) (c : UInt8) (m : Nat) (hm : m = l.length) (hR : m < R) :
    EscInv w3 (wr.setCell ⟨g, m, none⟩ (.int .u8 (c.toNat : Int))) base g R cap e (l ++ [c]) (xs.set m (.int .u8 (c.toNat : Int))) := by
  obtain ⟨h1, h2⟩ := h.own.stored m (.int .u8 (c.toNat : Int))
  refine ⟨h1, ?_, ?_, ?_⟩
  · rw [List.length_append, List.length_singleton, ← hm, take_set_next _ _ _ (by rw [h.len]; exact hR), hm, h.done, bytesV_snoc]
  · intro b o hb hlt
    rw [World.cell?_setCell_other _ _ _ _ (fun e => hb (congrArg Addr.block e).symm)]
    exact h.kept b o hb hlt
  · exact h.below.setCell h.base _
theorem EscInv.cellAt {w3 wr : World} {base g R cap : Nat} {e : TypeId} {l : List UInt8} {xs : List Value} (h : EscInv w3 wr base g R cap e l xs) (j : Nat) (hj : j < R) : ∃ v, wr.cell? ⟨g, j, none⟩ = some v ∧ wr.frozen? ⟨g, j, none⟩ = false :=
  ⟨_, (h.own.cellAt j (by omega)).trans (List.getElem?_eq_getElem (by rw [h.len]; exact hj)), h.own.frozenAt j⟩
theorem escL_bound (s : ByteArray) (k N : Nat) (hN : cnt s.data.toList = N) : (escL (s.data.toList.take k)).length ≤ s.size + 2 * N := by
  have h1 := escL_len (s.data.toList.take k)
  have h3 : (s.data.toList.take k).length ≤ s.size := by simp; omega
  have h2 : cnt (s.data.toList.take k) ≤ cnt s.data.toList := by
    unfold cnt
    exact ((List.take_sublist k s.data.toList).filter _).length_le
  omega
theorem arr53 : Ybad.prog.arrayLen 53 = 64 := by kernel_rfl
theorem und53 : Ybad.prog.underlying 53 = some (.array (Ybad.prog.arrayLen 53) (Ybad.prog.elem 53)) := by kernel_rfl
theorem siz53 (w : World) : (sizeOf (Ybad.prog.elem 53)).run Ybad.prog w = .ok 1 w := by kernel_rfl
theorem slice_buf (R : Nat) (hR : R ≤ 64) (h : Int) (hh : h = (R : Int)) : ∀ (b : Nat) (wx : World), (Instr.sliceAt 53 (.pointer (some ⟨b, 0, none⟩)) none (some (.int .i64 h)) none).run Ybad.prog wx = .ok (.slice (some ⟨b, 0, none⟩) R 64) wx := by
  intro b wx
  subst hh
  rw [run_sliceAt_array_h wx 53 ⟨b, 0, none⟩ und53 .i64 (R : Int) (by omega) (by rw [arr53]; omega), siz53, arr53]
  simp [Result.andThen, slicedAt, Addr.add]
theorem own_buf (w1 : World) (B R : Nat) (C : Array Value) (hsz : w1.heap.size = B + 1) (hR : R ≤ 64) (hC : C.size = 64) : (w1.alloc (.cells C 53)).ownsRow B 53 1 (.slice (some ⟨B + 1, 0, none⟩) R 64) R (C.toList.take R) := by
  refine ⟨by simp; omega, .inr ⟨B + 1, 64, C, rfl, by omega, ?_, hR, by unfold maxLen; omega, by omega, by simp⟩⟩
  rw [← hsz]
  exact heap_alloc_new _ _
theorem own_below {w w' : World} {base g R cap : Nat} {e : TypeId} {xs : List Value} (h : w.ownsRow base e 1 (.slice (some ⟨g, 0, none⟩) R cap) R xs) (hg : g < w.heap.size) (hb : Below w.heap.size w w') : w'.ownsRow base e 1 (.slice (some ⟨g, 0, none⟩) R cap) R xs := by
  refine ⟨h.1, ?_⟩
  rcases h.2 with ⟨h', _⟩ | ⟨g', cap', cur, h', hb', hh, r⟩
  · simp at h'
  · have e : g' = g := by simp only [Value.slice.injEq, Option.some.injEq, Addr.mk.injEq, and_true, true_and] at h'; exact h'.1.symm
    subst e
    exact .inr ⟨g', cap', cur, h', hb', (hb.block g' hg).trans hh, r⟩
theorem should32 (w : World) (hT : TabOk w) :
    Calls Ybad.prog 17 #[.int .u8 32, .int .u8 1] w fun e w' => e = .returned (.bool true) ∧ w = w' := should 32 true w hT (by rfl) rfl
theorem push3 {w3 wr : World} {base g R cap : Nat} {e : TypeId} {l : List UInt8} {xs : List Value} (h : EscInv w3 wr base g R cap e l xs) (m : Nat) (hm : m = l.length) (hR : m + 3 ≤ R) :
    EscInv w3 (((wr.setCell ⟨g, m, none⟩ (.int .u8 37)).setCell ⟨g, m + 1, none⟩ (.int .u8 50)).setCell ⟨g, m + 2, none⟩ (.int .u8 48)) base g R cap e (l ++ [37, 50, 48]) (((xs.set m (.int .u8 37)).set (m + 1) (.int .u8 50)).set (m + 2) (.int .u8 48)) := by
  have h1 := h.push 37 m hm (by omega)
  have h2 := h1.push 50 (m + 1) (by simp [hm]) (by omega)
  have h3 := h2.push 48 (m + 2) (by simp [hm]) (by omega)
  simpa using h3
theorem size_made {w : World} {base n g cap : Nat} {e : TypeId} {xs : List Value} (h : w.ownsRow base e 1 (.slice (some ⟨g, 0, none⟩) n cap) n xs) {b : Nat} (hg : g = b + 2) : b + 3 ≤ w.heap.size := by
  rcases h.2 with ⟨h', _⟩ | ⟨g', cap', cur, h', hb', hh, r⟩
  · simp at h'
  · have e : g' = g := by simp only [Value.slice.injEq, Option.some.injEq, Addr.mk.injEq, and_true, true_and] at h'; exact h'.1.symm
    subst e
    have := (Array.getElem?_eq_some_iff.1 hh).1
    omega
set_option maxRecDepth 100000 in
set_option maxHeartbeats 4000000 in
theorem esc_small (s : ByteArray) (w : World) (hs : s.size ≤ 1024) (h0 : 0 < w.heap.size) (hT : TabOk w) (hok : ∀ j (h : j < s.size), okc (s[j]'h) = true) (N : Nat) (hN : cnt s.data.toList = N) (hpos : 0 < N) (hreq : s.size + 2 * N ≤ 64) :
    Calls Ybad.prog 14 #[.string s, .int .u8 1] w fun e w' => e = .returned (.string ⟨(escL s.data.toList).toArray⟩) ∧ Below w.heap.size w w' := by
  obtain ⟨cap, w1, hcv, hsz, hbel, hcells⟩ := conv_in s w
  have hT1 := hT.below h0 hbel
  have hNs : N ≤ s.size := by have := cnt_le s.data.toList; simp at this; omega
  have Hlen : Hid (∀ k, k ≤ s.size → (escL (s.data.toList.take k)).length ≤ s.size + 2 * N) := fun k hk => escL_bound s k N hN
  have Hall : Hid ((escL s.data.toList).length = s.size + 2 * N) := by have := escL_len s.data.toList; rw [hN] at this; show _ = _; simpa using this
  have HT : Hid _ := hT
  clear hT
  have HN : Hid _ := hN
  have Hok : Hid _ := hok
  have Hcells : Hid _ := hcells
  clear hN hok hcells
  go_enter Ybad.func14, Ybad.ntmps14
  go_wp2
  clear hcv
  go_loop [5, 6, 19] (fun sp hx si => ∃ k : Nat, k ≤ s.size ∧ sp = .int .i64 0 ∧ hx = .int .i64 (cnt (s.data.toList.take k)) ∧ si = .int .i64 k) (fun _ _ si => s.size - (intOf si).toNat)
  case atStart => exact ⟨0, Nat.zero_le _, rfl, rfl, rfl⟩
  case round =>
    obtain ⟨k, hk, rfl, rfl, rfl⟩ := hrel
    have hcl := cnt_le (s.data.toList.take k)
    have hcl2 : (s.data.toList.take k).length ≤ k := List.length_take_le _ _
    by_cases hlt : k < s.size
    · have hc := Hcells.out k hlt
      cases hb : (s[k] == 32)
      · have H1 : Hid _ := cnt_no s k hlt hb
        go_wp2_with fail
        refine (should s[k] false _ hT1 (Hok.out k hlt) hb).mono ?_
        rintro e w' ⟨rfl, rfl⟩
        go_wp2
        go_round
        case rel => exact ⟨k + 1, by omega, rfl, by rw [H1.out], by go_num⟩
        case measure => simp [intOf]; omega
      · have H1 : Hid _ := cnt_yes s k hlt hb
        go_wp2_with fail
        refine (should s[k] true _ hT1 (Hok.out k hlt) hb).mono ?_
        rintro e w' ⟨rfl, rfl⟩
        have hb' := blank_yes hb
        go_wp2
        go_round
        case rel => exact ⟨k + 1, by omega, rfl, by rw [H1.out]; go_num, by go_num⟩
        case measure => simp [intOf]; omega
    · obtain rfl : k = s.size := by omega
      have h0' : cnt (List.take s.size s.data.toList) = N := by
        have e : List.take s.size s.data.toList = s.data.toList := List.take_of_length_le (by simp)
        rw [e]; exact HN.out
      rw [h0']
      clear h0' hcl hcl2
      have hNz : ((N : Int) == 0) = false := by rw [beq_eq_false_iff_ne]; omega
      have hsl := slice_buf (s.size + 2 * N) hreq ((s.size : Int) + 2 * N) (by omega)
      go_wp2
      have hsz2 : (w1.alloc (Obj.cells #[.int .u8 0, .int .u8 0, .int .u8 0, .int .u8 0, .int .u8 0, .int .u8 0, .int .u8 0, .int .u8 0, .int .u8 0, .int .u8 0, .int .u8 0, .int .u8 0, .int .u8 0, .int .u8 0, .int .u8 0, .int .u8 0, .int .u8 0, .int .u8 0, .int .u8 0, .int .u8 0, .int .u8 0, .int .u8 0, .int .u8 0, .int .u8 0, .int .u8 0, .int .u8 0, .int .u8 0, .int .u8 0, .int .u8 0, .int .u8 0, .int .u8 0, .int .u8 0, .int .u8 0, .int .u8 0, .int .u8 0, .int .u8 0, .int .u8 0, .int .u8 0, .int .u8 0, .int .u8 0, .int .u8 0, .int .u8 0, .int .u8 0, .int .u8 0, .int .u8 0, .int .u8 0, .int .u8 0, .int .u8 0, .int .u8 0, .int .u8 0, .int .u8 0, .int .u8 0, .int .u8 0, .int .u8 0, .int .u8 0, .int .u8 0, .int .u8 0, .int .u8 0, .int .u8 0, .int .u8 0, .int .u8 0, .int .u8 0, .int .u8 0, .int .u8 0] 53)).heap.size = w.heap.size + 2 := by simp [hsz]
      have hbel2 : Below w.heap.size w (w1.alloc (Obj.cells #[.int .u8 0, .int .u8 0, .int .u8 0, .int .u8 0, .int .u8 0, .int .u8 0, .int .u8 0, .int .u8 0, .int .u8 0, .int .u8 0, .int .u8 0, .int .u8 0, .int .u8 0, .int .u8 0, .int .u8 0, .int .u8 0, .int .u8 0, .int .u8 0, .int .u8 0, .int .u8 0, .int .u8 0, .int .u8 0, .int .u8 0, .int .u8 0, .int .u8 0, .int .u8 0, .int .u8 0, .int .u8 0, .int .u8 0, .int .u8 0, .int .u8 0, .int .u8 0, .int .u8 0, .int .u8 0, .int .u8 0, .int .u8 0, .int .u8 0, .int .u8 0, .int .u8 0, .int .u8 0, .int .u8 0, .int .u8 0, .int .u8 0, .int .u8 0, .int .u8 0, .int .u8 0, .int .u8 0, .int .u8 0, .int .u8 0, .int .u8 0, .int .u8 0, .int .u8 0, .int .u8 0, .int .u8 0, .int .u8 0, .int .u8 0, .int .u8 0, .int .u8 0, .int .u8 0, .int .u8 0, .int .u8 0, .int .u8 0, .int .u8 0, .int .u8 0] 53)) := hbel.alloc (by omega) _
      have hown : (w1.alloc (Obj.cells #[.int .u8 0, .int .u8 0, .int .u8 0, .int .u8 0, .int .u8 0, .int .u8 0, .int .u8 0, .int .u8 0, .int .u8 0, .int .u8 0, .int .u8 0, .int .u8 0, .int .u8 0, .int .u8 0, .int .u8 0, .int .u8 0, .int .u8 0, .int .u8 0, .int .u8 0, .int .u8 0, .int .u8 0, .int .u8 0, .int .u8 0, .int .u8 0, .int .u8 0, .int .u8 0, .int .u8 0, .int .u8 0, .int .u8 0, .int .u8 0, .int .u8 0, .int .u8 0, .int .u8 0, .int .u8 0, .int .u8 0, .int .u8 0, .int .u8 0, .int .u8 0, .int .u8 0, .int .u8 0, .int .u8 0, .int .u8 0, .int .u8 0, .int .u8 0, .int .u8 0, .int .u8 0, .int .u8 0, .int .u8 0, .int .u8 0, .int .u8 0, .int .u8 0, .int .u8 0, .int .u8 0, .int .u8 0, .int .u8 0, .int .u8 0, .int .u8 0, .int .u8 0, .int .u8 0, .int .u8 0, .int .u8 0, .int .u8 0, .int .u8 0, .int .u8 0] 53)).ownsRow w.heap.size 53 1 (.slice (some ⟨w.heap.size + 1, 0, none⟩) (s.size + 2 * N) 64) (s.size + 2 * N) _ := own_buf w1 _ _ _ hsz hreq rfl
      generalize (w1.alloc (Obj.cells #[.int .u8 0, .int .u8 0, .int .u8 0, .int .u8 0, .int .u8 0, .int .u8 0, .int .u8 0, .int .u8 0, .int .u8 0, .int .u8 0, .int .u8 0, .int .u8 0, .int .u8 0, .int .u8 0, .int .u8 0, .int .u8 0, .int .u8 0, .int .u8 0, .int .u8 0, .int .u8 0, .int .u8 0, .int .u8 0, .int .u8 0, .int .u8 0, .int .u8 0, .int .u8 0, .int .u8 0, .int .u8 0, .int .u8 0, .int .u8 0, .int .u8 0, .int .u8 0, .int .u8 0, .int .u8 0, .int .u8 0, .int .u8 0, .int .u8 0, .int .u8 0, .int .u8 0, .int .u8 0, .int .u8 0, .int .u8 0, .int .u8 0, .int .u8 0, .int .u8 0, .int .u8 0, .int .u8 0, .int .u8 0, .int .u8 0, .int .u8 0, .int .u8 0, .int .u8 0, .int .u8 0, .int .u8 0, .int .u8 0, .int .u8 0, .int .u8 0, .int .u8 0, .int .u8 0, .int .u8 0, .int .u8 0, .int .u8 0, .int .u8 0, .int .u8 0] 53)) = w2 at *
      obtain ⟨cap2, w3, hcv2, hsz3, hbel3, hcells3⟩ := conv_in s w2
      have inv0 : EscInv w3 w3 w.heap.size (w.heap.size + 1) (s.size + 2 * N) 64 53 [] _ := ⟨own_below hown (by omega) hbel3, rfl, fun _ _ _ _ => rfl, Below.refl _ _⟩
      have hbel4 : Below w.heap.size w w3 := hbel2.trans (hbel3.mono (by omega))
      have Hcells3 : Hid _ := hcells3
      clear hcells3
      go_wp2
      clear hcv2
      go_loopw [13, 78] (fun sj si wr => ∃ (k m : Nat) (xs : List Value), k ≤ s.size ∧ m = (escL (s.data.toList.take k)).length ∧ sj = .int .i64 m ∧ si = .int .i64 k ∧ EscInv w3 wr w.heap.size (w.heap.size + 1) (s.size + 2 * N) 64 53 (escL (s.data.toList.take k)) xs) (fun _ si _ => s.size - (intOf si).toNat)
      case atStart => exact ⟨0, 0, _, Nat.zero_le _, rfl, rfl, rfl, inv0⟩
      case round =>
        clear inv0 hown
        obtain ⟨k, m, xs, hk, hm, rfl, rfl, inv⟩ := hrel
        have hmR := Hlen.out k hk
        rw [← hm] at hmR
        have Hm : Hid _ := hm
        clear hm
        by_cases hlt : k < s.size
        · have hc : wr.cell? ⟨w.heap.size + 2, k, none⟩ = some (.int .u8 (s[k].toNat : Int)) := by
            rw [← hsz2]; exact (inv.kept _ _ (by omega) (by omega)).trans (Hcells3.out k hlt)
          have hTr : TabOk wr := TabOk.below HT.out h0 (hbel4.trans inv.below)
          have hR1 := Hlen.out (k + 1) hlt
          cases hb : (s[k] == 32)
          · have hsn := escL_snoc_no s k hlt hb
            rw [hsn, List.length_append, ← Hm.out] at hR1
            simp only [List.length_cons, List.length_nil] at hR1
            have H1 : Hid _ := hsn
            clear hsn
            obtain ⟨v0, hc0, hf0⟩ := inv.cellAt m (by omega)
            have hb' := blank_no hb
            go_wp2_with fail
            refine (should s[k] false _ hTr (Hok.out k hlt) hb).mono ?_
            rintro e w' ⟨rfl, rfl⟩
            go_wp2
            go_roundw
            case rel => exact ⟨k + 1, m + 1, _, by omega, by rw [H1.out, Hm.out]; simp, by go_num, by go_num, by rw [H1.out]; exact inv.push s[k] m Hm.out (by omega)⟩
            case measure => simp [intOf]; omega
          · have hsn := escL_snoc_yes s k hlt hb
            rw [hsn, List.length_append, ← Hm.out] at hR1
            simp only [List.length_cons, List.length_nil] at hR1
            have H1 : Hid _ := hsn
            clear hsn
            have hck : s[k] = 32 := beq_iff_eq.1 hb
            have hok1 := Hok.out k hlt
            rw [hck] at hc hok1
            have hc' : wr.cell? ⟨w.heap.size + 2, k, none⟩ = some (.int .u8 32) := hc
            clear hc hck
            obtain ⟨v0, hc0, hf0⟩ := inv.cellAt m (by omega)
            obtain ⟨v1, hc1, hf1⟩ := inv.cellAt (m + 1) (by omega)
            obtain ⟨v2, hc2, hf2⟩ := inv.cellAt (m + 2) (by omega)
            go_wp2_with fail
            refine (should32 _ hTr).mono ?_
            rintro e w' ⟨rfl, rfl⟩
            go_wp2
            go_roundw
            case rel => exact ⟨k + 1, m + 3, _, by omega, by rw [H1.out, Hm.out]; simp, by go_num, by go_num, by
              rw [H1.out]
              exact push3 inv m Hm.out (by omega)⟩
            case measure => simp [intOf]; omega
        · obtain rfl : k = s.size := by omega
          have e : List.take s.size s.data.toList = s.data.toList := List.take_of_length_le (by simp)
          rw [e] at inv
          have hx : xs = bytesV (escL s.data.toList) := by
            have := inv.done
            rw [Hall.out, List.take_of_length_le (by rw [inv.len]; omega)] at this
            exact this
          have ho := inv.own
          rw [hx] at ho
          have hcv := conv_back_any wr _ _ _ _ _ _ ho Hall.out
          clear ho hx
          go_wp2
          go_ret
          exact ⟨rfl, hbel4.trans inv.below⟩
set_option maxRecDepth 100000 in
set_option maxHeartbeats 4000000 in
theorem esc_big (s : ByteArray) (w : World) (hs : s.size ≤ 1024) (h0 : 0 < w.heap.size) (hT : TabOk w) (hok : ∀ j (h : j < s.size), okc (s[j]'h) = true) (N : Nat) (hN : cnt s.data.toList = N) (hpos : 0 < N) (hreq : 64 < s.size + 2 * N) :
    Calls Ybad.prog 14 #[.string s, .int .u8 1] w fun e w' => e = .returned (.string ⟨(escL s.data.toList).toArray⟩) ∧ Below w.heap.size w w' := by
  obtain ⟨i0, hi, hz0, hz1, hz2⟩ := info_parts Ybad.info5
  obtain ⟨cap, w1, hcv, hsz, hbel, hcells⟩ := conv_in s w
  have hT1 := hT.below h0 hbel
  have hNs : N ≤ s.size := by have := cnt_le s.data.toList; simp at this; omega
  have Hlen : Hid (∀ k, k ≤ s.size → (escL (s.data.toList.take k)).length ≤ s.size + 2 * N) := fun k hk => escL_bound s k N hN
  have Hall : Hid ((escL s.data.toList).length = s.size + 2 * N) := by have := escL_len s.data.toList; rw [hN] at this; show _ = _; simpa using this
  have HT : Hid _ := hT
  clear hT
  have HN : Hid _ := hN
  have Hok : Hid _ := hok
  have Hcells : Hid _ := hcells
  clear hN hok hcells
  go_enter Ybad.func14, Ybad.ntmps14
  go_wp2
  clear hcv
  go_loop [5, 6, 19] (fun sp hx si => ∃ k : Nat, k ≤ s.size ∧ sp = .int .i64 0 ∧ hx = .int .i64 (cnt (s.data.toList.take k)) ∧ si = .int .i64 k) (fun _ _ si => s.size - (intOf si).toNat)
  case atStart => exact ⟨0, Nat.zero_le _, rfl, rfl, rfl⟩
  case round =>
    obtain ⟨k, hk, rfl, rfl, rfl⟩ := hrel
    have hcl := cnt_le (s.data.toList.take k)
    have hcl2 : (s.data.toList.take k).length ≤ k := List.length_take_le _ _
    by_cases hlt : k < s.size
    · have hc := Hcells.out k hlt
      cases hb : (s[k] == 32)
      · have H1 : Hid _ := cnt_no s k hlt hb
        go_wp2_with fail
        refine (should s[k] false _ hT1 (Hok.out k hlt) hb).mono ?_
        rintro e w' ⟨rfl, rfl⟩
        go_wp2
        go_round
        case rel => exact ⟨k + 1, by omega, rfl, by rw [H1.out], by go_num⟩
        case measure => simp [intOf]; omega
      · have H1 : Hid _ := cnt_yes s k hlt hb
        go_wp2_with fail
        refine (should s[k] true _ hT1 (Hok.out k hlt) hb).mono ?_
        rintro e w' ⟨rfl, rfl⟩
        have hb' := blank_yes hb
        go_wp2
        go_round
        case rel => exact ⟨k + 1, by omega, rfl, by rw [H1.out]; go_num, by go_num⟩
        case measure => simp [intOf]; omega
    · obtain rfl : k = s.size := by omega
      have h0' : cnt (List.take s.size s.data.toList) = N := by
        have e : List.take s.size s.data.toList = s.data.toList := List.take_of_length_le (by simp)
        rw [e]; exact HN.out
      rw [h0']
      clear h0' hcl hcl2
      have hNz : ((N : Int) == 0) = false := by rw [beq_eq_false_iff_ne]; omega
      go_wp2_with (at_make; refine wpList_make_full _ rfl _ _ 22 rfl w.heap.size 5 i0 (.int .u8 0) 1 Ybad.underlying22 hi hz0 hz1 _ _ _ _ (s.size + 2 * N) rfl rfl (by omega) (by omega) ?b2 ?b3 ?b4 ?_)
      case b2 => omega
      case b3 => unfold maxLen; omega
      case b4 => omega
      intro w2 hown hgrow
      have hbel2 : Below w.heap.size w w2 := (hbel.alloc (by omega) _).grown hgrow (by simp; omega) (fun k h => by cases h)
      have hsz2' : w.heap.size + 3 ≤ w2.heap.size := size_made hown (by omega)
      obtain ⟨S2, hsz2⟩ : ∃ S2, w2.heap.size = S2 := ⟨_, rfl⟩
      clear hgrow
      obtain ⟨cap2, w3, hcv2, hsz3, hbel3, hcells3⟩ := conv_in s w2
      have inv0 : EscInv w3 w3 w.heap.size (w.heap.size + 1 + 1) (s.size + 2 * N) (s.size + 2 * N) 5 [] _ := ⟨own_below hown (by omega) hbel3, rfl, fun _ _ _ _ => rfl, Below.refl _ _⟩
      have hbel4 : Below w.heap.size w w3 := hbel2.trans (hbel3.mono (by omega))
      have Hcells3 : Hid _ := hcells3
      clear hcells3
      go_wp2
      clear hcv2
      go_loopw [13, 78] (fun sj si wr => ∃ (k m : Nat) (xs : List Value), k ≤ s.size ∧ m = (escL (s.data.toList.take k)).length ∧ sj = .int .i64 m ∧ si = .int .i64 k ∧ EscInv w3 wr w.heap.size (w.heap.size + 1 + 1) (s.size + 2 * N) (s.size + 2 * N) 5 (escL (s.data.toList.take k)) xs) (fun _ si _ => s.size - (intOf si).toNat)
      case atStart => exact ⟨0, 0, _, Nat.zero_le _, rfl, rfl, rfl, inv0⟩
      case round =>
        clear inv0 hown
        obtain ⟨k, m, xs, hk, hm, rfl, rfl, inv⟩ := hrel
        have hmR := Hlen.out k hk
        rw [← hm] at hmR
        have Hm : Hid _ := hm
        clear hm
        by_cases hlt : k < s.size
        · have hc : wr.cell? ⟨S2, k, none⟩ = some (.int .u8 (s[k].toNat : Int)) := by
            rw [← hsz2]; exact (inv.kept _ _ (by omega) (by omega)).trans (Hcells3.out k hlt)
          have hTr : TabOk wr := TabOk.below HT.out h0 (hbel4.trans inv.below)
          have hR1 := Hlen.out (k + 1) hlt
          cases hb : (s[k] == 32)
          · have hsn := escL_snoc_no s k hlt hb
            rw [hsn, List.length_append, ← Hm.out] at hR1
            simp only [List.length_cons, List.length_nil] at hR1
            have H1 : Hid _ := hsn
            clear hsn
            obtain ⟨v0, hc0, hf0⟩ := inv.cellAt m (by omega)
            have hb' := blank_no hb
            go_wp2_with fail
            refine (should s[k] false _ hTr (Hok.out k hlt) hb).mono ?_
            rintro e w' ⟨rfl, rfl⟩
            go_wp2
            go_roundw
            case rel => exact ⟨k + 1, m + 1, _, by omega, by rw [H1.out, Hm.out]; simp, by go_num, by go_num, by rw [H1.out]; exact inv.push s[k] m Hm.out (by omega)⟩
            case measure => simp [intOf]; omega
          · have hsn := escL_snoc_yes s k hlt hb
            rw [hsn, List.length_append, ← Hm.out] at hR1
            simp only [List.length_cons, List.length_nil] at hR1
            have H1 : Hid _ := hsn
            clear hsn
            have hck : s[k] = 32 := beq_iff_eq.1 hb
            have hok1 := Hok.out k hlt
            rw [hck] at hc hok1
            have hc' : wr.cell? ⟨S2, k, none⟩ = some (.int .u8 32) := hc
            clear hc hck
            obtain ⟨v0, hc0, hf0⟩ := inv.cellAt m (by omega)
            obtain ⟨v1, hc1, hf1⟩ := inv.cellAt (m + 1) (by omega)
            obtain ⟨v2, hc2, hf2⟩ := inv.cellAt (m + 2) (by omega)
            go_wp2_with fail
            refine (should32 _ hTr).mono ?_
            rintro e w' ⟨rfl, rfl⟩
            go_wp2
            go_roundw
            case rel => exact ⟨k + 1, m + 3, _, by omega, by rw [H1.out, Hm.out]; simp, by go_num, by go_num, by
              rw [H1.out]
              exact push3 inv m Hm.out (by omega)⟩
            case measure => simp [intOf]; omega
        · obtain rfl : k = s.size := by omega
          have e : List.take s.size s.data.toList = s.data.toList := List.take_of_length_le (by simp)
          rw [e] at inv
          have hx : xs = bytesV (escL s.data.toList) := by
            have := inv.done
            rw [Hall.out, List.take_of_length_le (by rw [inv.len]; omega)] at this
            exact this
          have ho := inv.own
          rw [hx] at ho
          have hcv := conv_back_any wr _ _ _ _ _ _ ho Hall.out
          clear ho hx
          go_wp2
          go_ret
          exact ⟨rfl, hbel4.trans inv.below⟩
end Go.Proofs.YbulkaugwDoor
