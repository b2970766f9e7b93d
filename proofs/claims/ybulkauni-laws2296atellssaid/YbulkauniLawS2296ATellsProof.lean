import Derived.Test.YbulkauniTLaw
import Derived.WalkKit
import Derived.ProofKit
import Derived.OpenShut
import Derived.ShutString
import Derived.ChangeOld
import Derived.Below
import Derived.Deep.SlicePairs
namespace Go.Proofs.Ybulkauni.lawS2296ATells
open Go.ChangeShapes Go.WideShapes Go.ChangeAt Go.RowKit
set_option linter.unusedVariables false

theorem own : ownKnob Yba.prog.godebug = none := by kernel_rfl
theorem cells66 : Yba.prog.cellsOf 66 = 5 := by kernel_rfl
theorem cells5 : Yba.prog.cellsOf 5 = 1 := by kernel_rfl
theorem addr_add (b off k : Nat) : (⟨b, off, none⟩ : Addr).add k = ⟨b, off + k, none⟩ := by cases k <;> simp [Addr.add]
theorem u8_nat {H : Type} {enc : TypeId × Value → H} {W : World} {base n : Nat} {sp : Nat → Bool} {held : Bool} {v : Value} {x : DataW H × List MemPlace} (h : DataW.trod enc Yba.prog W base sp held n 5 [v] = some x) :
    ∃ m : Nat, m < 256 ∧ v = .int .u8 (m : Int) := by
  obtain ⟨k, e1, _, hw⟩ := DataW.trod_int Yba.underlying5 h
  have hb := bounds_u8 hw
  refine ⟨k.toNat, by omega, ?_⟩
  have : v = .int .u8 k := by simpa using e1
  rw [this]
  congr 1
  omega
theorem list5 {α : Type} {l : List α} (h : l.length = 5) : ∃ a b c d e, l = [a, b, c, d, e] := by
  match l, h with
  | [a, b, c, d, e], _ => exact ⟨a, b, c, d, e, rfl⟩
set_option maxRecDepth 100000 in
theorem items_ok {H : Type} {enc : TypeId × Value → H} {W : World} {a : Option Addr} {len cap : Nat} {d : DataW H} {p : List MemPlace} (h : DataW.Trod enc Yba.prog W 0 (fun _ => true) true 23 (.slice a len cap) d p) :
    Items W a len := by
  obtain ⟨fuel, hf⟩ := h
  rcases Deep.open_slice Yba.underlying23 hf with ⟨hcs, _⟩ | ⟨x, l, c, m, n, D, Pl, hcs, _, hl, hm, hmm, _, hx⟩
  · simp [Value.cells] at hcs
    obtain ⟨rfl, rfl, rfl⟩ := hcs
    exact fun k hk => absurd hk (by omega)
  · simp [Value.cells] at hcs
    obtain ⟨rfl, rfl, rfl⟩ := hcs
    simp only [if_true] at hmm
    subst hmm
    intro k hk
    obtain ⟨cs', h1, h2⟩ := hx k (by omega)
    rw [cells66] at h1
    obtain ⟨_, hlen, hcell⟩ := World.cells?_some h1
    obtain ⟨xs, kf, hkf, hxy, _, hxl, hf⟩ := DataW.trod_struct Yba.underlying66 h2
    obtain ⟨v0, v1, v2, v3, v4, rfl⟩ := list5 hlen
    obtain ⟨y0, y1, y2, y3, y4, rfl⟩ := list5 (l := xs) (by simpa using hxl)
    have g0 := hf 0 _ rfl
    have g1 := hf 1 _ rfl
    have g2 := hf 2 _ rfl
    have g3 := hf 3 _ rfl
    have g4 := hf 4 _ rfl
    simp [cells5] at g0 g1 g2 g3 g4
    obtain ⟨m0, b0, rfl⟩ := u8_nat g0
    obtain ⟨m1, b1, rfl⟩ := u8_nat g1
    obtain ⟨m2, b2, rfl⟩ := u8_nat g2
    obtain ⟨m3, b3, rfl⟩ := u8_nat g3
    obtain ⟨m4, b4, rfl⟩ := u8_nat g4
    have e0 := hcell 0 (by omega)
    have e1 := hcell 1 (by omega)
    have e2 := hcell 2 (by omega)
    have e3 := hcell 3 (by omega)
    have e4 := hcell 4 (by omega)
    rw [Deep.add_add] at e0 e1 e2 e3 e4
    obtain ⟨b, off, spot⟩ := x
    have hspot : spot = none := by
      obtain ⟨cs0, h10, _⟩ := hx 0 (by omega)
      rw [cells66] at h10
      obtain ⟨_, hl0, hc0⟩ := World.cells?_some h10
      obtain ⟨z0, z1, z2, z3, z4, rfl⟩ := list5 hl0
      have ez : W.cell? (((⟨b, off, spot⟩ : Addr).add (0 * 5)).add 0) = some z0 := hc0 0 (by omega)
      simpa [Addr.add] using World.cell?_spot ez
    subst hspot
    rw [addr_add] at e0 e1 e2 e3 e4
    exact ⟨b, off, m0, m1, m2, m3, m4, rfl, World.block_lt_of_cell? W _ e0, ⟨b0, b1, b2, b3, b4⟩, by simpa [Nat.add_assoc] using e0, by simpa [Nat.add_assoc] using e1, by simpa [Nat.add_assoc] using e2, by simpa [Nat.add_assoc] using e3, by simpa [Nat.add_assoc] using e4⟩

set_option maxRecDepth 100000 in
theorem lifted (os : Os) (started : os.Started) (H : Type) (enc : TypeId × Value → H) :
    ReturnsInHanded {} Yba.checked os 3 .any (Rows.lawS2296ATellsSpec.pre6 enc Yba.prog Yba.f3 Rows.lawS2296ATellsRow.domain false) (Rows.lawS2296ATellsSpec.post enc Yba.prog Yba.f3 false true false false) := by
  refine returnsInHanded_of_change (C := Yba.checked) own started (by kernel_rfl) Yba.func3
    (ChangeSpec.witness6 (enc := enc) (C := Yba.checked) false ⟨#[], #[.int .u64 0, .slice none 0 0], []⟩ 8 (by kernel_rfl) (by kernel_rfl) (by kernel_rfl) (by kernel_rfl)) ?_
  intro W base args ds gs before hval0 hW hcnd _
  have hval : ∀ (j : Nat) t v, Yba.f3.params[j]? = some t → args[j]? = some v → Value.okWide Yba.prog W .any base t v := hval0
  have hW' := hW
  obtain ⟨p, q, hA0, hV, rfl, hfz, hnd⟩ := hW
  have hA : DataW.TrodAll enc Yba.prog W 0 (fun _ => true) true Yba.f3.params.toList args.toList ds p := hA0
  rw [Yba.params3] at hA hval
  obtain ⟨v0, vs0, d0, ds0, p0, q0, hargs, rfl, rfl, h0, r0⟩ := trodAll_cons hA
  obtain ⟨v1, vs1, d1, ds1, p1, q1, rfl, rfl, rfl, h1, r1⟩ := trodAll_cons r0
  obtain ⟨rfl, rfl, rfl⟩ := trodAll_nil r1
  obtain rfl : args = #[v0, v1] := by cases args; simp_all
  obtain ⟨rfl, rfl⟩ := trodVars_none hV
  obtain ⟨a0, rfl, rfl, rfl, w0⟩ := open_int Yba.underlying22 (hval 0 22 v0 rfl rfl) h0
  obtain ⟨a1, len1, cap1, rfl⟩ := okWide_slice Yba.underlying23 (hval 1 23 v1 rfl rfl)
  have k1 := h1
  have lt1 : ∀ x ∈ p1, x.block < W.heap.size := by obtain ⟨m, hm⟩ := k1; exact DataW.trod_lt m _ _ _ hm
  have pv := items_ok h1
  clear hA0 hval0
  refine (law_any a0 a1 len1 cap1 W pv).mono fun e W' ⟨he, bel⟩ => ?_
  subst he
  exact ⟨_, rfl, _, _, _, [], _, [], hW', trodAll_mk1 (shut_bool Yba.underlying4 _), (trodAll_cons_mk (shut_int Yba.underlying22 w0) (trodAll_cons_mk (Below.trod laidOut (by kernel_rfl) (of_decide_eq_true (by kernel_rfl)) k1 bel lt1) trodAll_mk0)), rfl, bel.frame _, fun h => by cases h⟩

theorem over : Rows.lawS2296ATellsRow.holds Yba.pinned (OpenSpec.ofChange Rows.lawS2296ATellsSpec) :=
  OpenClaim.holds_of_wide 3 Yba.f3 rfl rfl rfl rfl rfl rfl rfl ⟨rfl, rfl, rfl, rfl, rfl⟩ rfl rfl rfl rfl rfl (by kernel_rfl) Yba.func3 (by kernel_rfl)
    (of_decide_eq_true (by kernel_rfl)) (by unfold Func.isWrapper; first | (rw [if_pos (by decide +kernel)]; kernel_rfl) | (rw [if_neg (by decide +kernel)]; exact ⟨rfl, rfl⟩))
    (fun os started H enc _ => lifted os started H enc)

theorem proved : Rows.LawS2296ATellsSaid := over
end Go.Proofs.Ybulkauni.lawS2296ATells
