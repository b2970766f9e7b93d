import Derived.Test.YbulkaugwDoorRows
import Derived.WalkKit
import Derived.ProofKit
import Derived.OpenShut
import Derived.ShutString
import Derived.Deep.QuietTactic
import Derived.BigQuiet
import Derived.WalkSpells
import Derived.WalkLawsBesides
import Derived.Below
import Derived.Laws.IdiomStrings
import Derived.Lib.LaidTab
namespace Go.Proofs.YbulkaugwDoor
open Go.ChangeShapes Go.WideShapes Go.ChangeAt Go.RowKit

/-- The numbers of net/url's table, as the row lists them. -/
def tabL : List Int := [0, 0, 0, 0, 0, 0, 0, 0, 0, 0, 0, 0, 0, 0, 0, 0, 0, 0, 0, 0, 0, 0, 0, 0, 0, 0, 0, 0, 0, 0, 0, 0, 0, 76, 12, 0, 95, 0, 95, 12, 76, 76, 76, 95, 93, 127, 127, 65, 255, 255, 255, 255, 255, 255, 255, 255, 255, 255, 79, 93, 12, 95, 12, 64, 67, 255, 255, 255, 255, 255, 255, 127, 127, 127, 127, 127, 127, 127, 127, 127, 127, 127, 127, 127, 127, 127, 127, 127, 127, 127, 127, 12, 0, 12, 0, 127, 0, 255, 255, 255, 255, 255, 255, 127, 127, 127, 127, 127, 127, 127, 127, 127, 127, 127, 127, 127, 127, 127, 127, 127, 127, 127, 127, 0, 0, 0, 127, 0, 0, 0, 0, 0, 0, 0, 0, 0, 0, 0, 0, 0, 0, 0, 0, 0, 0, 0, 0, 0, 0, 0, 0, 0, 0, 0, 0, 0, 0, 0, 0, 0, 0, 0, 0, 0, 0, 0, 0, 0, 0, 0, 0, 0, 0, 0, 0, 0, 0, 0, 0, 0, 0, 0, 0, 0, 0, 0, 0, 0, 0, 0, 0, 0, 0, 0, 0, 0, 0, 0, 0, 0, 0, 0, 0, 0, 0, 0, 0, 0, 0, 0, 0, 0, 0, 0, 0, 0, 0, 0, 0, 0, 0, 0, 0, 0, 0, 0, 0, 0, 0, 0, 0, 0, 0, 0, 0, 0, 0, 0, 0, 0, 0, 0, 0, 0, 0, 0, 0, 0, 0, 0, 0, 0, 0, 0, 0, 0]
set_option maxRecDepth 100000 in
theorem tab_is : (Rows.laid_net_url_table : DataW Unit) = Lib.tabData .u8 tabL := rfl
set_option maxRecDepth 100000 in
theorem tab_len : tabL.length = 256 := rfl
/-- The table lies in memory. -/
def TabOk (w : World) : Prop := ∀ i, i < 256 → w.cell? ⟨0, i, none⟩ = some (.int .u8 (tabL.getD i 0))
/-- A byte that the table escapes in a path just if it is a blank. -/
def okc (c : UInt8) : Bool := (bits .and .u8 (tabL.getD c.toNat 0) 1 == 0) == (c == 32)
/-- The bytes of the law's tables. -/
def inTab (c : UInt8) : Bool := c == 97 || c == 98 || c == 47 || c == 32 || c == 45 || c == 126 || c == 46 || c == 95 || c == 48
theorem okc_of_in (c : UInt8) (h : inTab c = true) : okc c = true := by
  simp only [inTab, Bool.or_eq_true, beq_iff_eq] at h
  rcases h with ((((((((rfl | rfl) | rfl) | rfl) | rfl) | rfl) | rfl) | rfl) | rfl) <;> rfl
theorem bcell {W w1 : World} (hb : Below W.heap.size W w1) : (∀ b o, b < W.heap.size → w1.cell? ⟨b, o, none⟩ = W.cell? ⟨b, o, none⟩) ∧ (∀ b o, b < W.heap.size → w1.frozen? ⟨b, o, none⟩ = W.frozen? ⟨b, o, none⟩) :=
  ⟨fun b o h => hb.cell (p := ⟨b, o, none⟩) h, fun b o h => hb.frozen (p := ⟨b, o, none⟩) h⟩
theorem TabOk.below {w w' : World} (h : TabOk w) (h0 : 0 < w.heap.size) (hb : Below w.heap.size w w') : TabOk w' := fun i hi => ((bcell hb).1 0 i h0).trans (h i hi)

set_option maxHeartbeats 400000 in
theorem should_any (c : Int) (h0 : 0 ≤ c) (h1 : c < 256) (n : Int) (w : World) (hc : w.cell? ⟨0, c.toNat, none⟩ = some (.int .u8 n)) :
    Calls Ybad.prog 17 #[.int .u8 c, .int .u8 1] w fun e w' => e = .returned (.bool (bits .and .u8 n 1 == 0)) ∧ w' = w := by
  go_enter Ybad.func17, Ybad.ntmps17
  go_wp2
  go_ret
  exact ⟨rfl, rfl⟩
theorem should (c : UInt8) (b : Bool) (w : World) (hT : TabOk w) (ho : okc c = true) (hb : (c == 32) = b) :
    Calls Ybad.prog 17 #[.int .u8 (c.toNat : Int), .int .u8 1] w fun e w' => e = .returned (.bool b) ∧ w = w' := by
  have hlt : c.toNat < 256 := c.toNat_lt
  refine (should_any (c.toNat : Int) (by omega) (by omega) (tabL.getD c.toNat 0) w (by simpa using hT c.toNat hlt)).mono ?_
  rintro e w' ⟨rfl, rfl⟩
  refine ⟨?_, rfl⟩
  unfold okc at ho
  rw [hb] at ho
  rw [beq_iff_eq.1 ho]

def headS (p : ByteArray) : ByteArray := if p.toList.isEmpty then ⟨#[47]⟩ else p
def wantS (p q : ByteArray) (f : Bool) : ByteArray := if (!q.toList.isEmpty) || f then headS p ++ ⟨#[63]⟩ ++ q else headS p
theorem wantS_yes (p q : ByteArray) (f : Bool) (h : ((!q.toList.isEmpty) || f) = true) : wantS p q f = headS p ++ ⟨#[63]⟩ ++ q := by unfold wantS; rw [if_pos h]
theorem wantS_no (p q : ByteArray) (f : Bool) (h : ((!q.toList.isEmpty) || f) = false) : wantS p q f = headS p := by unfold wantS; rw [if_neg (by simp [h])]
theorem headS_yes (p : ByteArray) (h : p.toList.isEmpty = true) : headS p = ⟨#[47]⟩ := by unfold headS; rw [if_pos h]
theorem headS_no (p : ByteArray) (h : p.toList.isEmpty = false) : headS p = p := by unfold headS; rw [if_neg (by simp [h])]
theorem ret_str {a b : ByteArray} (h : a = b) : Ending.returned (.string a) = .returned (.string b) := by rw [h]

set_option maxHeartbeats 400000 in
theorem want_any (p q : ByteArray) (f : Bool) (w : World) (hp : p.size ≤ 4096) (hq : q.size ≤ 1024) :
    Calls Ybad.prog 7 #[.string p, .string q, .bool f] w fun e w' => e = .returned (.string (wantS p q f)) ∧ w = w' := by
  cases he : p.toList.isEmpty <;> cases hf : ((!q.toList.isEmpty) || f)
  all_goals
    first | have E := headS_yes p he | have E := headS_no p he
    first | have E2 := wantS_yes p q f hf | have E2 := wantS_no p q f hf
    rw [E] at E2
    have H : Hid _ := E2
    clear E E2
    cases hqe : q.toList.isEmpty <;> cases f
  all_goals first | (exfalso; rw [hqe] at hf; cases hf; done) | skip
  all_goals
    clear hf
    go_enter Ybad.func7, Ybad.ntmps7
    go_wp2
    go_ret
    exact ⟨ret_str H.out.symm, rfl⟩
end Go.Proofs.YbulkaugwDoor
