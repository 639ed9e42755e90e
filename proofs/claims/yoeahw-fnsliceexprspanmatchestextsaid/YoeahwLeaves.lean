/-
  The leaves of both roads: the two bounds on lengths, Ident's and IntLit's methods, SliceExpr's End and Pos.
-/
import Derived.Test.YoeahwRows
import Derived.WalkKit
import Derived.WalkSpells
import Derived.WalkLawsBesides
import Derived.ProofKit
import Derived.Below
namespace Go.Proofs.Yoeahw.Leaves
open Go.RowKit
set_option linter.unusedVariables false

/-- 'zzBytes_FnSliceExprChainPosEnd' at a slice within the bound. -/
theorem bytes3_small (a0 a1 : Int) (a : Option Addr) (len cap : Nat) (w : World) (h : (len : Int) ≤ 1048576) :
    Calls Eahg.prog 5 #[.int .i64 a0, .int .i64 a1, .slice a len cap] w fun e w' => e = .returned (.bool true) ∧ w' = w := by
  go_enter Eahg.func5, Eahg.ntmps5
  go_wp2
  go_ret
  exact ⟨rfl, rfl⟩

/-- .. and beyond it. -/
theorem bytes3_large (a0 a1 : Int) (a : Option Addr) (len cap : Nat) (w : World) (hm : (len : Int) ≤ 9223372036854775807) (h : (1048576 : Int) < (len : Int)) :
    Calls Eahg.prog 5 #[.int .i64 a0, .int .i64 a1, .slice a len cap] w fun e w' => e = .returned (.bool false) ∧ w' = w := by
  go_enter Eahg.func5, Eahg.ntmps5
  go_wp2
  go_ret
  exact ⟨rfl, rfl⟩

theorem identPos (b o : Nat) (p : Int) (w : World) (h : w.cell? ⟨b, o + 1, none⟩ = some (.int .i64 p)) :
    Calls Eahg.prog 25 #[.pointer (some ⟨b, o, none⟩)] w fun e w' => e = .returned (.int .i64 p) ∧ w' = w := by
  go_enter Eahg.func25, Eahg.ntmps25
  go_wp2
  go_ret
  exact ⟨rfl, rfl⟩

theorem sliceEnd (b o : Nat) (r : Int) (w : World) (h : w.cell? ⟨b, o + 4, none⟩ = some (.int .i64 r)) :
    Calls Eahg.prog 7 #[.pointer (some ⟨b, o, none⟩)] w fun e w' => e = .returned (.int .i64 (wrap64 (r + 1))) ∧ w' = w := by
  go_enter Eahg.func7, Eahg.ntmps7
  go_wp2
  go_ret
  exact ⟨rfl, rfl⟩

theorem identString (b o : Nat) (s : ByteArray) (w : World) (h : w.cell? ⟨b, o, none⟩ = some (.string s)) :
    Calls Eahg.prog 26 #[.pointer (some ⟨b, o, none⟩)] w fun e w' => e = .returned (.string s) ∧ w' = w := by
  go_enter Eahg.func26, Eahg.ntmps26
  go_wp2
  go_ret
  exact ⟨rfl, rfl⟩

theorem intString (b o : Nat) (s : ByteArray) (w : World) (h : w.cell? ⟨b, o + 2, none⟩ = some (.string s)) :
    Calls Eahg.prog 32 #[.pointer (some ⟨b, o, none⟩)] w fun e w' => e = .returned (.string s) ∧ w' = w := by
  go_enter Eahg.func32, Eahg.ntmps32
  go_wp2
  go_ret
  exact ⟨rfl, rfl⟩

theorem mPos24 (a : Addr) (w : World) : (method 156 24 (.pointer (some a)) "Pos").run Eahg.prog w = .ok (25, .pointer (some a)) w := by kernel_rfl
theorem mPos28 (a : Addr) (w : World) : (method 156 28 (.pointer (some a)) "Pos").run Eahg.prog w = .ok (6, .pointer (some a)) w := by kernel_rfl
theorem mString24 (a : Addr) (w : World) : (method 156 24 (.pointer (some a)) "String").run Eahg.prog w = .ok (26, .pointer (some a)) w := by kernel_rfl
theorem mString35 (a : Addr) (w : World) : (method 156 35 (.pointer (some a)) "String").run Eahg.prog w = .ok (32, .pointer (some a)) w := by kernel_rfl

/-- Pos of a slice expression over an identifier. -/
theorem slicePos0 (b bi : Nat) (p : Int) (w : World) (h : w.cell? ⟨b, 0, none⟩ = some (.iface 24 (.pointer (some ⟨bi, 0, none⟩)))) (hi : w.cell? ⟨bi, 1, none⟩ = some (.int .i64 p)) :
    Calls Eahg.prog 6 #[.pointer (some ⟨b, 0, none⟩)] w fun e w' => e = .returned (.int .i64 p) ∧ w' = w := by
  have hm := mPos24
  go_enter Eahg.func6, Eahg.ntmps6
  go_wp2_with (go_at_call 25; refine (identPos bi 0 p _ hi).mono ?_; rintro e w' ⟨rfl, rfl⟩)
  go_ret
  exact ⟨rfl, rfl⟩

/-- A chain of slice expressions, 'n' deep, all below block 'B', over an identifier at position 'p'. -/
def Chain (w : World) (p : Int) (B : Nat) : Nat → Nat → Prop
  | 0, b => b < B ∧ ∃ bi, bi < B ∧ w.cell? ⟨b, 0, none⟩ = some (.iface 24 (.pointer (some ⟨bi, 0, none⟩))) ∧ w.cell? ⟨bi, 1, none⟩ = some (.int .i64 p)
  | n + 1, b => b < B ∧ ∃ b', w.cell? ⟨b, 0, none⟩ = some (.iface 28 (.pointer (some ⟨b', 0, none⟩))) ∧ Chain w p B n b'

theorem Chain.below {w w' : World} {p : Int} {B B' : Nat} (h : Below B w w') (hB : B ≤ B') : ∀ {n b : Nat}, Chain w p B n b → Chain w' p B' n b
  | 0, b, ⟨hb, bi, hi, h0, h1⟩ => ⟨by omega, bi, by omega, (h.cell (p := ⟨b, 0, none⟩) hb).trans h0, (h.cell (p := ⟨bi, 1, none⟩) hi).trans h1⟩
  | n + 1, b, ⟨hb, b', h0, hc⟩ => ⟨by omega, b', (h.cell (p := ⟨b, 0, none⟩) hb).trans h0, Chain.below h hB hc⟩

/-- Pos of such a chain is the identifier's position, however deep it is. -/
theorem slicePos {w : World} {p : Int} {B : Nat} (n : Nat) : ∀ b, Chain w p B n b →
    Calls Eahg.prog 6 #[.pointer (some ⟨b, 0, none⟩)] w fun e w' => e = .returned (.int .i64 p) ∧ w' = w := by
  induction n with
  | zero =>
    intro b h
    obtain ⟨_, bi, _, h0, h1⟩ := h
    exact slicePos0 b bi p w h0 h1
  | succ n ih =>
    intro b h
    obtain ⟨_, b', h0, hc⟩ := h
    have hm := mPos28
    have IH : Hid (Calls Eahg.prog 6 #[.pointer (some ⟨b', 0, none⟩)] w fun e w' => e = .returned (.int .i64 p) ∧ w' = w) := ih b' hc
    clear ih hc
    go_enter Eahg.func6, Eahg.ntmps6
    go_wp2_with (go_at_call 6; refine (IH.out).mono ?_; rintro e w' ⟨rfl, rfl⟩)
    go_ret
    exact ⟨rfl, rfl⟩

end Go.Proofs.Yoeahw.Leaves
