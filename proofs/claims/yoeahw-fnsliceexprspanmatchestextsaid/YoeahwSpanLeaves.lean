/-
  What the second road calls besides: the bound on lengths, and SliceExpr's String.
-/
import Derived.Test.YoeahwLeaves
namespace Go.Proofs.Yoeahw.SpanLeaves
open Go.RowKit Go.Proofs.Yoeahw.Leaves
set_option linter.unusedVariables false

/-- 'zzBytes_FnSliceExprSpanMatchesText' at three strings of at most 65536 bytes each. -/
theorem bytes6_small (s0 s1 s3 : ByteArray) (b2 b4 : Bool) (p : Int) (w : World) (h0 : (s0.size : Int) ≤ 65536) (h1 : (s1.size : Int) ≤ 65536) (h3 : (s3.size : Int) ≤ 65536) :
    Calls Eahg.prog 8 #[.string s0, .string s1, .bool b2, .string s3, .bool b4, .int .i64 p] w fun e w' => e = .returned (.bool true) ∧ w' = w := by
  go_enter Eahg.func8, Eahg.ntmps8
  go_wp2
  go_ret
  exact ⟨rfl, rfl⟩

/-- .. and at whatever strings: some bool. -/
theorem bytes6_any (s0 s1 s3 : ByteArray) (b2 b4 : Bool) (p : Int) (w : World) (h0 : (s0.size : Int) ≤ 9223372036854775807) (h1 : (s1.size : Int) ≤ 9223372036854775807) (h3 : (s3.size : Int) ≤ 9223372036854775807) :
    Calls Eahg.prog 8 #[.string s0, .string s1, .bool b2, .string s3, .bool b4, .int .i64 p] w fun e w' => (e = .returned (.bool true) ∨ e = .returned (.bool false)) ∧ w' = w := by
  go_enter Eahg.func8, Eahg.ntmps8
  go_wp2
  all_goals go_ret
  all_goals first | exact ⟨.inl rfl, rfl⟩ | exact ⟨.inr rfl, rfl⟩

/-- What a bound's field holds: nothing (nil), or an integer literal of the text 't'. -/
def Bound (w : World) (b o : Nat) (t : ByteArray) : Prop :=
  (w.cell? ⟨b, o, none⟩ = some .nilIface ∧ t = ByteArray.empty) ∨ (∃ bl, w.cell? ⟨b, o, none⟩ = some (.iface 35 (.pointer (some ⟨bl, 0, none⟩))) ∧ w.cell? ⟨bl, 2, none⟩ = some (.string t))

theorem size91 : (ByteArray.mk #[91]).size = 1 := rfl
theorem size58 : (ByteArray.mk #[58]).size = 1 := rfl
theorem size93 : (ByteArray.mk #[93]).size = 1 := rfl
theorem size0 : (ByteArray.mk #[]).size = 0 := rfl

set_option maxHeartbeats 800000 in
/-- String of a slice expression over an identifier, its bounds absent or integer literals: of its text the length alone is told. -/
theorem sliceString (b bi : Nat) (s l r : ByteArray) (w : World) (hs : (s.size : Int) ≤ 65536) (hl : (l.size : Int) ≤ 65536) (hr : (r.size : Int) ≤ 65536)
    (h0 : w.cell? ⟨b, 0, none⟩ = some (.iface 24 (.pointer (some ⟨bi, 0, none⟩)))) (hi : w.cell? ⟨bi, 0, none⟩ = some (.string s))
    (h2 : Bound w b 2 l) (h3 : Bound w b 3 r) :
    Calls Eahg.prog 9 #[.pointer (some ⟨b, 0, none⟩)] w fun e w' => ∃ t : ByteArray, e = .returned (.string t) ∧ t.size = s.size + l.size + r.size + 3 ∧ w' = w := by
  have m1 := mString24
  have m2 := mString35
  rcases h2 with ⟨h2, rfl⟩ | ⟨bl, h2, h2s⟩ <;> rcases h3 with ⟨h3, rfl⟩ | ⟨br, h3, h3s⟩
  · go_enter Eahg.func9, Eahg.ntmps9
    go_wp2_with (go_at_call 26; refine (identString bi 0 s _ hi).mono ?_; rintro e w' ⟨rfl, hw⟩; subst w')
    go_ret
    exact ⟨_, rfl, by simp only [ByteArray.size_append, size91, size58, size93, size0, ByteArray.size_empty], rfl⟩
  · go_enter Eahg.func9, Eahg.ntmps9
    go_wp2_with (first | (go_at_call 26; refine (identString bi 0 s _ hi).mono ?_; rintro e w' ⟨rfl, hw⟩; subst w') | (go_at_call 32; refine (intString br 0 r _ h3s).mono ?_; rintro e w' ⟨rfl, hw⟩; subst w'))
    go_ret
    exact ⟨_, rfl, by simp only [ByteArray.size_append, size91, size58, size93, size0, ByteArray.size_empty]; omega, rfl⟩
  · go_enter Eahg.func9, Eahg.ntmps9
    go_wp2_with (first | (go_at_call 26; refine (identString bi 0 s _ hi).mono ?_; rintro e w' ⟨rfl, hw⟩; subst w') | (go_at_call 32; refine (intString bl 0 l _ h2s).mono ?_; rintro e w' ⟨rfl, hw⟩; subst w'))
    go_ret
    exact ⟨_, rfl, by simp only [ByteArray.size_append, size91, size58, size93, size0, ByteArray.size_empty]; omega, rfl⟩
  · go_enter Eahg.func9, Eahg.ntmps9
    go_wp2_with fail
    refine (intString bl 0 l _ h2s).mono ?_
    rintro e w' ⟨rfl, hw⟩
    subst w'
    go_wp2_with fail
    refine (intString br 0 r _ h3s).mono ?_
    rintro e w' ⟨rfl, hw⟩
    subst w'
    go_wp2_with fail
    refine (identString bi 0 s _ hi).mono ?_
    rintro e w' ⟨rfl, hw⟩
    subst w'
    go_wp2_with fail
    go_ret
    exact ⟨_, rfl, by simp only [ByteArray.size_append, size91, size58, size93]; omega, rfl⟩
end Go.Proofs.Yoeahw.SpanLeaves
