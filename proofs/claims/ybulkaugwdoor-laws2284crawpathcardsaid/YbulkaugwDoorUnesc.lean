import Derived.Test.YbulkaugwDoorZz

namespace Go.Proofs.YbulkaugwDoor
open Go.ChangeShapes Go.WideShapes Go.ChangeAt Go.RowKit
set_option maxHeartbeats 800000 in
set_option maxRecDepth 100000 in
theorem unesc (s : ByteArray) (w : World) (hs : s.size ≤ 1024) (hok : ∀ j (h : j < s.size), ((s[j]'h) == 37) = false ∧ ((s[j]'h) == 43) = false) :
    Calls Ybad.prog 12 #[.string s, .int .u8 2] w fun e w' => e = .returned (.tuple #[.string s, .nilIface]) ∧ w = w' := by
  have Hok : Hid _ := hok
  clear hok
  go_enter Ybad.func12, Ybad.ntmps12
  go_wp2
  go_loop [0, 6, 7, 8] (fun ss n hp si => ∃ k : Nat, k ≤ s.size ∧ ss = .string s ∧ n = .int .i64 0 ∧ hp = .bool false ∧ si = .int .i64 k) (fun _ _ _ si => s.size - (intOf si).toNat)
  case atStart => exact ⟨0, Nat.zero_le _, rfl, rfl, rfl, rfl⟩
  case round =>
    obtain ⟨k, hk, rfl, rfl, rfl, rfl⟩ := hrel
    by_cases hlt : k < s.size
    · have h1 := byte_ne (Hok.out k hlt).1
      have h2 := byte_ne (Hok.out k hlt).2
      have h1' : (((s[k].toNat : Nat) : Int) == 37) = false := h1
      have h2' : (((s[k].toNat : Nat) : Int) == 43) = false := h2
      clear h1 h2
      go_wp2
      go_round
      case rel => exact ⟨k + 1, by omega, rfl, rfl, rfl, by go_num⟩
      case measure => simp [intOf]; omega
    · go_wp2
      go_ret2
      exact ⟨rfl, rfl⟩
theorem punesc (s : ByteArray) (w : World) (hs : s.size ≤ 1024) (hok : ∀ j (h : j < s.size), ((s[j]'h) == 37) = false ∧ ((s[j]'h) == 43) = false) :
    Calls Ybad.prog 10 #[.string s] w fun e w' => e = .returned (.tuple #[.string s, .nilIface]) ∧ w = w' := by
  go_enter Ybad.func10, Ybad.ntmps10
  go_wp2_with fail
  refine (unesc s w hs hok).mono ?_
  rintro e w' ⟨rfl, rfl⟩
  go_wp2
  go_ret2
  exact ⟨rfl, rfl⟩
set_option maxHeartbeats 400000 in
theorem target_raw (b : Nat) (p q : ByteArray) (f : Bool) (w : World) (hs : p.size ≤ 1024) (hu : UrlAt w b p q p f) (hne : p.toList.isEmpty = false) (hok : ∀ j (h : j < p.size), ((p[j]'h) == 37) = false ∧ ((p[j]'h) == 43) = false) :
    Calls Ybad.prog 9 #[.pointer (some ⟨b, 0, none⟩)] w fun e w' => e = .returned (.string p) ∧ Below w.heap.size w w' := by
  have h1 := hu.path
  have h2 := hu.raw
  have Hok : Hid _ := hok
  clear hok
  go_enter Ybad.func9, Ybad.ntmps9
  go_wp2_with fail
  refine (punesc p _ hs Hok.out).mono ?_
  rintro e w1 ⟨rfl, rfl⟩
  go_wp2
  go_ret
  exact ⟨rfl, Below.refl _ _⟩
end Go.Proofs.YbulkaugwDoor
