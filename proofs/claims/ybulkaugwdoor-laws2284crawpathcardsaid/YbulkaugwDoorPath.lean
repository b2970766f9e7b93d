import Derived.Test.YbulkaugwDoorPlain
namespace Go.Proofs.YbulkaugwDoor
open Go.ChangeShapes Go.WideShapes Go.ChangeAt Go.RowKit
theorem Ybad.info5 : (Ybad.prog.info? 5).map (fun i => (i.zero, i.size, i.bytes)) = some (some (.int .u8 0), 1, 1) := by kernel_rfl
/-- What is known of the selection's cells. -/
def SelOk (w : World) (a : Option Addr) (len : Nat) : Prop :=
  ∀ k, k < len → ∃ b off z, a = some ⟨b, off, none⟩ ∧ b < w.heap.size ∧ w.cell? ⟨b, off + k, none⟩ = some (.int .u8 z) ∧ 0 ≤ z ∧ z ≤ 255
def bytesV (l : List UInt8) : List Value := l.map fun b => Value.int .u8 (b.toNat : Int)
theorem bytesV_snoc (l : List UInt8) (b : UInt8) : bytesV (l ++ [b]) = bytesV l ++ [.int .u8 (b.toNat : Int)] := by simp [bytesV]
def tblNo : ByteArray := ⟨#[97, 98, 47, 45, 126, 46, 95, 48]⟩
theorem tblNo_in : ∀ n : Fin 8, inTab (tblNo[n.val]'n.2) = true ∧ (tblNo[n.val]'n.2 == 32) = false := by decide
theorem one_cell (w : World) (v : Value) (t : TypeId) : ∀ j u, [v][j]? = some u → (w.alloc (.cells #[v] t)).cell? ((⟨w.heap.size, 0, none⟩ : Addr).add j) = some u := cell_one_new _ _ _
theorem conv_back (wr : World) (base g cap k : Nat) (l : List UInt8) (hown : wr.ownsRow base 5 1 (.slice (some ⟨g, 0, none⟩) k cap) k (bytesV l)) (hl : l.length = k) :
    (convert 22 9 (.slice (some ⟨g, 0, none⟩) k cap)).run Ybad.prog wr = .ok (.string ⟨l.toArray⟩) wr := by
  subst hl
  refine run_convert_bytes_back wr 22 9 5 ⟨g, 0, none⟩ cap l Ybad.underlying22 Ybad.underlying5 Ybad.underlying9 fun j hj => ?_
  have := hown.cellAt j (by omega)
  have e : (⟨g, 0, none⟩ : Addr).add j = ⟨g, j, none⟩ := by
    cases j <;> simp [Addr.add]
  rw [e]
  simpa [bytesV, hj] using this
set_option maxHeartbeats 400000 in
theorem path_no (a : Option Addr) (len cap : Nat) (w : World) (hs : len ≤ 1024) (hA : SelOk w a len) :
    Calls Ybad.prog 5 #[.slice a len cap, .bool false] w fun e w' => ∃ l : List UInt8, e = .returned (.string ⟨l.toArray⟩) ∧ (∀ c ∈ l, inTab c = true ∧ (c == 32) = false) ∧ l.length = len ∧ Below w.heap.size w w' := by
  obtain ⟨i0, hi, hz0, hz1, hz2⟩ := info_parts Ybad.info5
  go_enter Ybad.func5, Ybad.ntmps5
  go_wp2_with (at_make; refine wpList_make_own _ rfl _ _ 22 rfl w.heap.size 5 i0 (.int .u8 0) 1 Ybad.underlying22 hi hz0 hz1 _ _ _ len rfl rfl (by omega) ?b2 ?b3 (Nat.le_refl _) ?_)
  case b2 => rw [hz2]; omega
  case b3 => unfold maxLen; omega
  intro w0 hown0 hgrow0
  go_wp2
  go_loopw [6, 15] (fun out si wr => ∃ (k : Nat) (l : List UInt8), k ≤ len ∧ si = .int .i64 k ∧ out = .slice (some ⟨w.heap.size, 0, none⟩) k len ∧
      wr.ownsRow w.heap.size 5 1 (.slice (some ⟨w.heap.size, 0, none⟩) k len) k (bytesV l) ∧ l.length = k ∧ Hid (∀ c ∈ l, inTab c = true ∧ (c == 32) = false) ∧ Below w.heap.size w wr)
    (fun _ si _ => len - (intOf si).toNat)
  case atStart => exact ⟨0, [], Nat.zero_le _, rfl, rfl, hown0, rfl, by simp [Hid], (Below.refl _ _).grown hgrow0 (Nat.le_refl _) (fun k h => by cases h)⟩
  case round =>
    obtain ⟨k, l, hk, rfl, rfl, hown, hl, hall, hnx⟩ := hrel
    by_cases hlt : k < len
    · obtain ⟨b, off, z, rfl, hb, hc, hz0', hz1'⟩ := hA k hlt
      have hc' : wr.cell? ⟨b, off + k, none⟩ = some (.int .u8 z) := (hnx.cell (by exact hb)).trans hc
      have h8 : (z % 8).toNat < 8 := by omega
      clear hA hc
      go_wp2_with (at_builtin; refine wpList_append_fits _ rfl (.tmp 19) (.tmp 27) 22 rfl w.heap.size 5 i0 1 Ybad.underlying22 hi hz1 w.heap.size k len _ rfl (hown.alloc _) ⟨wr.heap.size, 0, none⟩ 1 1 [.int .u8 ((tblNo[(z % 8).toNat]'h8).toNat : Int)] rfl rfl ?c1 ?c2 ?c3 ?_)
      case c1 => exact one_cell _ _ _
      case c2 => intro u hu; simp at hu; subst hu; rfl
      case c3 => omega
      intro w1 hown1 hgrow1
      rw [← bytesV_snoc] at hown1
      go_wp2
      go_roundw
      case rel => exact ⟨k + 1, l ++ [tblNo[(z % 8).toNat]'h8], by omega, by go_num, rfl, hown1, by simp [hl], fun c hc => by
          rcases List.mem_append.1 hc with h | h
          · exact hall c h
          · have : c = tblNo[(z % 8).toNat]'h8 := by simpa using h
            subst this
            exact tblNo_in ⟨(z % 8).toNat, h8⟩, (hnx.alloc hnx.size _).grown hgrow1 (by simp; have := hnx.size; omega) (fun k hk => by cases hk; exact Nat.le_refl _)⟩
      case measure => simp [intOf]; omega
    · obtain rfl : k = len := by omega
      have hcv := conv_back wr _ _ _ _ l hown hl
      go_wp2
      go_ret
      exact ⟨l, rfl, hall, hl, hnx⟩
def tblYes : ByteArray := ⟨#[97, 98, 47, 32, 45, 126, 46, 95, 48]⟩
theorem tblYes_in : ∀ n : Fin 9, inTab (tblYes[n.val]'n.2) = true := by decide
set_option maxHeartbeats 400000 in
theorem path_yes (a : Option Addr) (len cap : Nat) (w : World) (hs : len ≤ 1024) (hA : SelOk w a len) :
    Calls Ybad.prog 5 #[.slice a len cap, .bool true] w fun e w' => ∃ l : List UInt8, e = .returned (.string ⟨l.toArray⟩) ∧ (∀ c ∈ l, inTab c = true) ∧ l.length = len ∧ Below w.heap.size w w' := by
  obtain ⟨i0, hi, hz0, hz1, hz2⟩ := info_parts Ybad.info5
  go_enter Ybad.func5, Ybad.ntmps5
  go_wp2_with (at_make; refine wpList_make_own _ rfl _ _ 22 rfl w.heap.size 5 i0 (.int .u8 0) 1 Ybad.underlying22 hi hz0 hz1 _ _ _ len rfl rfl (by omega) ?b2 ?b3 (Nat.le_refl _) ?_)
  case b2 => rw [hz2]; omega
  case b3 => unfold maxLen; omega
  intro w0 hown0 hgrow0
  go_wp2
  go_loopw [6, 15] (fun out si wr => ∃ (k : Nat) (l : List UInt8), k ≤ len ∧ si = .int .i64 k ∧ out = .slice (some ⟨w.heap.size, 0, none⟩) k len ∧
      wr.ownsRow w.heap.size 5 1 (.slice (some ⟨w.heap.size, 0, none⟩) k len) k (bytesV l) ∧ l.length = k ∧ Hid (∀ c ∈ l, inTab c = true) ∧ Below w.heap.size w wr)
    (fun _ si _ => len - (intOf si).toNat)
  case atStart => exact ⟨0, [], Nat.zero_le _, rfl, rfl, hown0, rfl, by simp [Hid], (Below.refl _ _).grown hgrow0 (Nat.le_refl _) (fun k h => by cases h)⟩
  case round =>
    obtain ⟨k, l, hk, rfl, rfl, hown, hl, hall, hnx⟩ := hrel
    by_cases hlt : k < len
    · obtain ⟨b, off, z, rfl, hb, hc, hz0', hz1'⟩ := hA k hlt
      have hc' : wr.cell? ⟨b, off + k, none⟩ = some (.int .u8 z) := (hnx.cell (by exact hb)).trans hc
      have h9 : (z % 9).toNat < 9 := by omega
      clear hA hc
      go_wp2_with (at_builtin; refine wpList_append_fits _ rfl (.tmp 19) (.tmp 27) 22 rfl w.heap.size 5 i0 1 Ybad.underlying22 hi hz1 w.heap.size k len _ rfl (hown.alloc _) ⟨wr.heap.size, 0, none⟩ 1 1 [.int .u8 ((tblYes[(z % 9).toNat]'h9).toNat : Int)] rfl rfl ?c1 ?c2 ?c3 ?_)
      case c1 => exact one_cell _ _ _
      case c2 => intro u hu; simp at hu; subst hu; rfl
      case c3 => omega
      intro w1 hown1 hgrow1
      rw [← bytesV_snoc] at hown1
      go_wp2
      go_roundw
      case rel => exact ⟨k + 1, l ++ [tblYes[(z % 9).toNat]'h9], by omega, by go_num, rfl, hown1, by simp [hl], fun c hc => by
          rcases List.mem_append.1 hc with h | h
          · exact hall c h
          · have : c = tblYes[(z % 9).toNat]'h9 := by simpa using h
            subst this
            exact tblYes_in ⟨(z % 9).toNat, h9⟩, (hnx.alloc hnx.size _).grown hgrow1 (by simp; have := hnx.size; omega) (fun k hk => by cases hk; exact Nat.le_refl _)⟩
      case measure => simp [intOf]; omega
    · obtain rfl : k = len := by omega
      have hcv := conv_back wr _ _ _ _ l hown hl
      go_wp2
      go_ret
      exact ⟨l, rfl, hall, hl, hnx⟩
end Go.Proofs.YbulkaugwDoor
