/-
  The proof of 'Rows.FnSliceExprSpanMatchesTextSaid': the given shell's frame, its one hole filled by the walks of YoeahwSpanWalk.
-/
import Derived.Test.YoeahwRows
import Derived.Test.YoeahwSpanWalk
import Derived.WalkKit
import Derived.ProofKit
import Derived.OpenShut
import Derived.ShutString
namespace Go.Proofs.Yoeahw.fnSliceExprSpanMatchesText
open Go.ChangeShapes Go.WideShapes Go.ChangeAt Go.RowKit
open Go.ChangeMaps (open_string shut_string)
set_option linter.unusedVariables false      -- a walk need not use every 'w<i>' (that an integer argument fits its kind)

theorem own : ownKnob Eahg.prog.godebug = none := by kernel_rfl

/-! ### STEP 1: THE WALK: the Go text returns true. 'Grown w w'': the world has at most new blocks (Derived/RowKit3.lean). Part the cases AHEAD of 'go_enter' where a test parts the walk; take each callee by a contract of your own. -/
theorem walk (a0 : ByteArray) (a1 : ByteArray) (a2 : Bool) (a3 : ByteArray) (a4 : Bool) (a5 : Int) (w0 : a0.size ≤ maxLen) (w1 : a1.size ≤ maxLen) (w3 : a3.size ≤ maxLen) (w5 : (Lit.int .i64 a5).wf = true) (w : World) :
    Calls Eahg.prog 4 #[.string a0, .string a1, .bool a2, .string a3, .bool a4, .int .i64 a5] w fun e w' => e = .returned (.bool true) ∧ Grown w w' := by
  unfold maxLen at w0 w1 w3
  by_cases h : (65536 : Int) < (a0.size : Int) ∨ (65536 : Int) < (a1.size : Int) ∨ (65536 : Int) < (a3.size : Int)
  · exact SpanWalk.walk_large a0 a1 a3 a2 a4 a5 w (by omega) (by omega) (by omega) h
  · have h0 : (a0.size : Int) ≤ 65536 := by omega
    have h1 : (a1.size : Int) ≤ 65536 := by omega
    have h3 : (a3.size : Int) ≤ 65536 := by omega
    cases a2
    · cases a4
      · exact SpanWalk.walk_ff a0 a1 a3 a5 w h0 h1 h3
      · exact SpanWalk.walk_ft a0 a1 a3 a5 w h0 h1 h3
    · cases a4
      · exact SpanWalk.walk_tf a0 a1 a3 a5 w h0 h1 h3
      · exact SpanWalk.walk_tt a0 a1 a3 a5 w h0 h1 h3

/-! ### THE ROW's STEP: WRITTEN OUT: LEAVE IT -/
set_option maxRecDepth 100000 in
theorem lifted (os : Os) (started : os.Started) (H : Type) (enc : TypeId × Value → H) :
    ReturnsInHanded {} Eahg.checked os 4 .any (Rows.fnSliceExprSpanMatchesTextSpec.pre6 enc Eahg.prog Eahg.f4 Rows.fnSliceExprSpanMatchesTextRow.domain false) (Rows.fnSliceExprSpanMatchesTextSpec.post enc Eahg.prog Eahg.f4 false true false false) := by
  refine returnsInHanded_of_change (C := Eahg.checked) own started (by kernel_rfl) Eahg.func4
    (ChangeSpec.witness6 (enc := enc) (C := Eahg.checked) false ⟨#[], #[.string ByteArray.empty, .string ByteArray.empty, .bool false, .string ByteArray.empty, .bool false, .int .i64 0], []⟩ 8 (by kernel_rfl) (by kernel_rfl) (by kernel_rfl) (by kernel_rfl)) ?_
  intro W base args ds gs before hval0 hW hcnd _
  have hval : ∀ (j : Nat) t v, Eahg.f4.params[j]? = some t → args[j]? = some v → Value.okWide Eahg.prog W .any base t v := hval0
  have hW' := hW
  obtain ⟨p, q, hA0, hV, rfl, hfz, hnd⟩ := hW
  have hA : DataW.TrodAll enc Eahg.prog W 0 (fun _ => true) true Eahg.f4.params.toList args.toList ds p := hA0
  rw [Eahg.params4] at hA hval
  obtain ⟨v0, vs0, d0, ds0, p0, q0, hargs, rfl, rfl, h0, r0⟩ := trodAll_cons hA
  obtain ⟨v1, vs1, d1, ds1, p1, q1, rfl, rfl, rfl, h1, r1⟩ := trodAll_cons r0
  obtain ⟨v2, vs2, d2, ds2, p2, q2, rfl, rfl, rfl, h2, r2⟩ := trodAll_cons r1
  obtain ⟨v3, vs3, d3, ds3, p3, q3, rfl, rfl, rfl, h3, r3⟩ := trodAll_cons r2
  obtain ⟨v4, vs4, d4, ds4, p4, q4, rfl, rfl, rfl, h4, r4⟩ := trodAll_cons r3
  obtain ⟨v5, vs5, d5, ds5, p5, q5, rfl, rfl, rfl, h5, r5⟩ := trodAll_cons r4
  obtain ⟨rfl, rfl, rfl⟩ := trodAll_nil r5
  obtain rfl : args = #[v0, v1, v2, v3, v4, v5] := by cases args; simp_all
  obtain ⟨rfl, rfl⟩ := trodVars_none hV
  obtain ⟨a0, rfl, rfl, rfl, w0⟩ := open_string Eahg.underlying9 (hval 0 9 v0 rfl rfl) h0
  obtain ⟨a1, rfl, rfl, rfl, w1⟩ := open_string Eahg.underlying9 (hval 1 9 v1 rfl rfl) h1
  obtain ⟨a2, rfl, rfl, rfl⟩ := open_bool Eahg.underlying4 (hval 2 4 v2 rfl rfl) h2
  obtain ⟨a3, rfl, rfl, rfl, w3⟩ := open_string Eahg.underlying9 (hval 3 9 v3 rfl rfl) h3
  obtain ⟨a4, rfl, rfl, rfl⟩ := open_bool Eahg.underlying4 (hval 4 4 v4 rfl rfl) h4
  obtain ⟨a5, rfl, rfl, rfl, w5⟩ := open_int Eahg.underlying3 (hval 5 3 v5 rfl rfl) h5
  clear hA0 hval0
  simp only [List.append_nil] at hW'
  refine (walk a0 a1 a2 a3 a4 a5 w0 w1 w3 w5 W).mono fun e W' ⟨he, hg⟩ => ?_
  subst he
  exact ⟨_, rfl, post_of_same (pa := []) (pv := []) hW' (fun _ _ _ => (trodAll_cons_mk (shut_bool Eahg.underlying4 _) trodAll_mk0)) (fun sp _ => (trodAll_cons_mk (shut_string Eahg.underlying9 w0) (trodAll_cons_mk (shut_string Eahg.underlying9 w1) (trodAll_cons_mk (shut_bool Eahg.underlying4 _) (trodAll_cons_mk (shut_string Eahg.underlying9 w3) (trodAll_cons_mk (shut_bool Eahg.underlying4 _) (trodAll_cons_mk (shut_int Eahg.underlying3 w5) trodAll_mk0))))))) (fun _ _ => rfl) rfl
    (hg.frame _) hg.2.1 (ok_one (by kernel_rfl) rfl (okWide_bool_mk Eahg.underlying4 _))⟩

theorem over : Rows.fnSliceExprSpanMatchesTextRow.holds Eahg.pinned (OpenSpec.ofChange Rows.fnSliceExprSpanMatchesTextSpec) :=
  OpenClaim.holds_of_wide 4 Eahg.f4 rfl rfl rfl rfl rfl rfl rfl ⟨rfl, rfl, rfl, rfl, rfl⟩ rfl rfl rfl rfl rfl (by kernel_rfl) Eahg.func4 (by kernel_rfl)
    (of_decide_eq_true (by kernel_rfl)) (by unfold Func.isWrapper; first | (rw [if_pos (by decide +kernel)]; kernel_rfl) | (rw [if_neg (by decide +kernel)]; exact ⟨rfl, rfl⟩))
    (fun os started H enc _ => lifted os started H enc)

/-- THE STATEMENT. -/
theorem proved : Rows.FnSliceExprSpanMatchesTextSaid :=
  over
end Go.Proofs.Yoeahw.fnSliceExprSpanMatchesText
