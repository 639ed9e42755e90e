/-
  The walks of 'FnSliceExprSpanMatchesText': one where a string is beyond the law's own bound; and four, by which bounds the expression has.
-/
import Derived.Test.YoeahwSpanLeaves
namespace Go.Proofs.Yoeahw.SpanWalk
open Go.RowKit Go.Proofs.Yoeahw.Leaves Go.Proofs.Yoeahw.SpanLeaves
set_option linter.unusedVariables false

/-- A string beyond the law's own bound: true at once. -/
theorem walk_large (s0 s1 s3 : ByteArray) (b2 b4 : Bool) (p : Int) (w : World) (h0 : (s0.size : Int) ≤ 9223372036854775807) (h1 : (s1.size : Int) ≤ 9223372036854775807) (h3 : (s3.size : Int) ≤ 9223372036854775807)
    (h : (65536 : Int) < (s0.size : Int) ∨ (65536 : Int) < (s1.size : Int) ∨ (65536 : Int) < (s3.size : Int)) :
    Calls Eahg.prog 4 #[.string s0, .string s1, .bool b2, .string s3, .bool b4, .int .i64 p] w fun e w' => e = .returned (.bool true) ∧ Grown w w' := by
  by_cases g0 : (65536 : Int) < (s0.size : Int)
  · clear h
    go_enter Eahg.func4, Eahg.ntmps4
    go_wp2_with fail
    refine (bytes6_any s0 s1 s3 b2 b4 p w h0 h1 h3).mono ?_
    rintro e w1 ⟨rfl | rfl, hw⟩ <;> subst w1
    all_goals go_wp2_with fail
    all_goals go_ret
    all_goals exact ⟨rfl, Grown.refl _⟩
  · by_cases g1 : (65536 : Int) < (s1.size : Int)
    · clear h
      go_enter Eahg.func4, Eahg.ntmps4
      go_wp2_with fail
      refine (bytes6_any s0 s1 s3 b2 b4 p w h0 h1 h3).mono ?_
      rintro e w1 ⟨rfl | rfl, hw⟩ <;> subst w1
      all_goals go_wp2_with fail
      all_goals go_ret
      all_goals exact ⟨rfl, Grown.refl _⟩
    · have g3 : (65536 : Int) < (s3.size : Int) := by omega
      clear h
      go_enter Eahg.func4, Eahg.ntmps4
      go_wp2_with fail
      refine (bytes6_any s0 s1 s3 b2 b4 p w h0 h1 h3).mono ?_
      rintro e w1 ⟨rfl | rfl, hw⟩ <;> subst w1
      all_goals go_wp2_with fail
      all_goals go_ret
      all_goals exact ⟨rfl, Grown.refl _⟩

theorem wrap_nest (x y : Int) : wrap64 (wrap64 x + y) = wrap64 (x + y) := by unfold wrap64; omega
theorem wrap_back (p n : Int) (h0 : 0 ≤ n) (h1 : n ≤ 9223372036854775807) : wrap64 (wrap64 (p + n) - p) = n := by unfold wrap64; omega

set_option maxHeartbeats 800000 in
theorem walk_tt (s0 s1 s3 : ByteArray) (p : Int) (w : World) (h0 : (s0.size : Int) ≤ 65536) (h1 : (s1.size : Int) ≤ 65536) (h3 : (s3.size : Int) ≤ 65536) :
    Calls Eahg.prog 4 #[.string s0, .string s1, .bool true, .string s3, .bool true, .int .i64 p] w fun e w' => e = .returned (.bool true) ∧ Grown w w' := by
  go_enter Eahg.func4, Eahg.ntmps4
  go_wp2_with fail
  refine (bytes6_small s0 s1 s3 true true p w h0 h1 h3).mono ?_
  rintro e w1 ⟨rfl, hw⟩
  subst w1
  go_wp2_with fail
  refine (sliceString (w.heap.size + 1) w.heap.size s0 s1 s3 _ h0 h1 h3 ?_ ?_ ?_ ?_).mono ?_
  · go_simp
  · go_simp
  · exact .inr ⟨w.heap.size + 1 + 1, by go_simp, by go_simp⟩
  · exact .inr ⟨w.heap.size + 1 + 1 + 1, by go_simp, by go_simp⟩
  rintro e w1 ⟨t, rfl, ht, hw⟩
  subst w1
  have E1 : wrap64 (wrap64 (p + (t.size : Int)) - p) = (t.size : Int) := wrap_back p t.size (by omega) (by omega)
  have E2 : Hid (wrap64 (wrap64 (wrap64 (wrap64 (wrap64 (wrap64 (p + (s0.size : Int)) + 1) + (s1.size : Int)) + 1) + (s3.size : Int)) + 1) = wrap64 (p + (t.size : Int))) := by
    show _ = _
    simp only [wrap_nest]
    congr 1
    omega
  have hb : (t.size : Int) ≤ 196611 := by omega
  clear ht
  go_wp2_with fail
  refine (slicePos0 (w.heap.size + 1) w.heap.size p _ (by go_simp) (by go_simp)).mono ?_
  rintro e w1 ⟨rfl, hw⟩
  subst w1
  go_wp2_with fail
  have HE := sliceEnd (w.heap.size + 1) 0 (wrap64 (wrap64 (wrap64 (wrap64 (wrap64 (p + (s0.size : Int)) + 1) + (s1.size : Int)) + 1) + (s3.size : Int)))
  rw [E2.out] at HE
  refine (HE _ (by go_simp)).mono ?_
  clear HE
  rintro e w1 ⟨rfl, hw⟩
  subst w1
  go_wp2_with fail
  refine (slicePos0 (w.heap.size + 1) w.heap.size p _ (by go_simp) (by go_simp)).mono ?_
  rintro e w1 ⟨rfl, hw⟩
  subst w1
  go_wp2_with fail
  have HE := sliceEnd (w.heap.size + 1) 0 (wrap64 (wrap64 (wrap64 (wrap64 (wrap64 (p + (s0.size : Int)) + 1) + (s1.size : Int)) + 1) + (s3.size : Int)))
  rw [E2.out] at HE
  refine (HE _ (by go_simp)).mono ?_
  clear HE
  rintro e w1 ⟨rfl, hw⟩
  subst w1
  go_wp2_with fail
  go_ret
  exact ⟨rfl, ((((Grown.refl _).alloc _ _).alloc _ _).alloc _ _).alloc _ _⟩

set_option maxHeartbeats 800000 in
theorem walk_tf (s0 s1 s3 : ByteArray) (p : Int) (w : World) (h0 : (s0.size : Int) ≤ 65536) (h1 : (s1.size : Int) ≤ 65536) (h3 : (s3.size : Int) ≤ 65536) :
    Calls Eahg.prog 4 #[.string s0, .string s1, .bool true, .string s3, .bool false, .int .i64 p] w fun e w' => e = .returned (.bool true) ∧ Grown w w' := by
  go_enter Eahg.func4, Eahg.ntmps4
  go_wp2_with fail
  refine (bytes6_small s0 s1 s3 true false p w h0 h1 h3).mono ?_
  rintro e w1 ⟨rfl, hw⟩
  subst w1
  go_wp2_with fail
  refine (sliceString (w.heap.size + 1) w.heap.size s0 s1 ByteArray.empty _ h0 h1 (by simp) ?_ ?_ ?_ ?_).mono ?_
  · go_simp
  · go_simp
  · exact .inr ⟨w.heap.size + 1 + 1, by go_simp, by go_simp⟩
  · exact .inl ⟨by go_simp, rfl⟩
  rintro e w1 ⟨t, rfl, ht, hw⟩
  subst w1
  simp only [ByteArray.size_empty] at ht
  have E1 : wrap64 (wrap64 (p + (t.size : Int)) - p) = (t.size : Int) := wrap_back p t.size (by omega) (by omega)
  have E2 : Hid (wrap64 (wrap64 (wrap64 (wrap64 (wrap64 (p + (s0.size : Int)) + 1) + (s1.size : Int)) + 1) + 1) = wrap64 (p + (t.size : Int))) := by
    show _ = _
    simp only [wrap_nest]
    congr 1
    omega
  have hb : (t.size : Int) ≤ 196611 := by omega
  clear ht
  go_wp2_with fail
  refine (slicePos0 (w.heap.size + 1) w.heap.size p _ (by go_simp) (by go_simp)).mono ?_
  rintro e w1 ⟨rfl, hw⟩
  subst w1
  go_wp2_with fail
  have HE := sliceEnd (w.heap.size + 1) 0 (wrap64 (wrap64 (wrap64 (wrap64 (p + (s0.size : Int)) + 1) + (s1.size : Int)) + 1))
  rw [E2.out] at HE
  refine (HE _ (by go_simp)).mono ?_
  clear HE
  rintro e w1 ⟨rfl, hw⟩
  subst w1
  go_wp2_with fail
  refine (slicePos0 (w.heap.size + 1) w.heap.size p _ (by go_simp) (by go_simp)).mono ?_
  rintro e w1 ⟨rfl, hw⟩
  subst w1
  go_wp2_with fail
  have HE := sliceEnd (w.heap.size + 1) 0 (wrap64 (wrap64 (wrap64 (wrap64 (p + (s0.size : Int)) + 1) + (s1.size : Int)) + 1))
  rw [E2.out] at HE
  refine (HE _ (by go_simp)).mono ?_
  clear HE
  rintro e w1 ⟨rfl, hw⟩
  subst w1
  go_wp2_with fail
  go_ret
  exact ⟨rfl, (((Grown.refl _).alloc _ _).alloc _ _).alloc _ _⟩

set_option maxHeartbeats 800000 in
theorem walk_ft (s0 s1 s3 : ByteArray) (p : Int) (w : World) (h0 : (s0.size : Int) ≤ 65536) (h1 : (s1.size : Int) ≤ 65536) (h3 : (s3.size : Int) ≤ 65536) :
    Calls Eahg.prog 4 #[.string s0, .string s1, .bool false, .string s3, .bool true, .int .i64 p] w fun e w' => e = .returned (.bool true) ∧ Grown w w' := by
  go_enter Eahg.func4, Eahg.ntmps4
  go_wp2_with fail
  refine (bytes6_small s0 s1 s3 false true p w h0 h1 h3).mono ?_
  rintro e w1 ⟨rfl, hw⟩
  subst w1
  go_wp2_with fail
  refine (sliceString (w.heap.size + 1) w.heap.size s0 ByteArray.empty s3 _ h0 (by simp) h3 ?_ ?_ ?_ ?_).mono ?_
  · go_simp
  · go_simp
  · exact .inl ⟨by go_simp, rfl⟩
  · exact .inr ⟨w.heap.size + 1 + 1, by go_simp, by go_simp⟩
  rintro e w1 ⟨t, rfl, ht, hw⟩
  subst w1
  simp only [ByteArray.size_empty] at ht
  have E1 : wrap64 (wrap64 (p + (t.size : Int)) - p) = (t.size : Int) := wrap_back p t.size (by omega) (by omega)
  have E2 : Hid (wrap64 (wrap64 (wrap64 (wrap64 (wrap64 (p + (s0.size : Int)) + 1) + 1) + (s3.size : Int)) + 1) = wrap64 (p + (t.size : Int))) := by
    show _ = _
    simp only [wrap_nest]
    congr 1
    omega
  have hb : (t.size : Int) ≤ 196611 := by omega
  clear ht
  go_wp2_with fail
  refine (slicePos0 (w.heap.size + 1) w.heap.size p _ (by go_simp) (by go_simp)).mono ?_
  rintro e w1 ⟨rfl, hw⟩
  subst w1
  go_wp2_with fail
  have HE := sliceEnd (w.heap.size + 1) 0 (wrap64 (wrap64 (wrap64 (wrap64 (p + (s0.size : Int)) + 1) + 1) + (s3.size : Int)))
  rw [E2.out] at HE
  refine (HE _ (by go_simp)).mono ?_
  clear HE
  rintro e w1 ⟨rfl, hw⟩
  subst w1
  go_wp2_with fail
  refine (slicePos0 (w.heap.size + 1) w.heap.size p _ (by go_simp) (by go_simp)).mono ?_
  rintro e w1 ⟨rfl, hw⟩
  subst w1
  go_wp2_with fail
  have HE := sliceEnd (w.heap.size + 1) 0 (wrap64 (wrap64 (wrap64 (wrap64 (p + (s0.size : Int)) + 1) + 1) + (s3.size : Int)))
  rw [E2.out] at HE
  refine (HE _ (by go_simp)).mono ?_
  clear HE
  rintro e w1 ⟨rfl, hw⟩
  subst w1
  go_wp2_with fail
  go_ret
  exact ⟨rfl, (((Grown.refl _).alloc _ _).alloc _ _).alloc _ _⟩

set_option maxHeartbeats 800000 in
theorem walk_ff (s0 s1 s3 : ByteArray) (p : Int) (w : World) (h0 : (s0.size : Int) ≤ 65536) (h1 : (s1.size : Int) ≤ 65536) (h3 : (s3.size : Int) ≤ 65536) :
    Calls Eahg.prog 4 #[.string s0, .string s1, .bool false, .string s3, .bool false, .int .i64 p] w fun e w' => e = .returned (.bool true) ∧ Grown w w' := by
  go_enter Eahg.func4, Eahg.ntmps4
  go_wp2_with fail
  refine (bytes6_small s0 s1 s3 false false p w h0 h1 h3).mono ?_
  rintro e w1 ⟨rfl, hw⟩
  subst w1
  go_wp2_with fail
  refine (sliceString (w.heap.size + 1) w.heap.size s0 ByteArray.empty ByteArray.empty _ h0 (by simp) (by simp) ?_ ?_ ?_ ?_).mono ?_
  · go_simp
  · go_simp
  · exact .inl ⟨by go_simp, rfl⟩
  · exact .inl ⟨by go_simp, rfl⟩
  rintro e w1 ⟨t, rfl, ht, hw⟩
  subst w1
  simp only [ByteArray.size_empty] at ht
  have E1 : wrap64 (wrap64 (p + (t.size : Int)) - p) = (t.size : Int) := wrap_back p t.size (by omega) (by omega)
  have E2 : Hid (wrap64 (wrap64 (wrap64 (wrap64 (p + (s0.size : Int)) + 1) + 1) + 1) = wrap64 (p + (t.size : Int))) := by
    show _ = _
    simp only [wrap_nest]
    congr 1
    omega
  have hb : (t.size : Int) ≤ 196611 := by omega
  clear ht
  go_wp2_with fail
  refine (slicePos0 (w.heap.size + 1) w.heap.size p _ (by go_simp) (by go_simp)).mono ?_
  rintro e w1 ⟨rfl, hw⟩
  subst w1
  go_wp2_with fail
  have HE := sliceEnd (w.heap.size + 1) 0 (wrap64 (wrap64 (wrap64 (p + (s0.size : Int)) + 1) + 1))
  rw [E2.out] at HE
  refine (HE _ (by go_simp)).mono ?_
  clear HE
  rintro e w1 ⟨rfl, hw⟩
  subst w1
  go_wp2_with fail
  refine (slicePos0 (w.heap.size + 1) w.heap.size p _ (by go_simp) (by go_simp)).mono ?_
  rintro e w1 ⟨rfl, hw⟩
  subst w1
  go_wp2_with fail
  have HE := sliceEnd (w.heap.size + 1) 0 (wrap64 (wrap64 (wrap64 (p + (s0.size : Int)) + 1) + 1))
  rw [E2.out] at HE
  refine (HE _ (by go_simp)).mono ?_
  clear HE
  rintro e w1 ⟨rfl, hw⟩
  subst w1
  go_wp2_with fail
  go_ret
  exact ⟨rfl, ((Grown.refl _).alloc _ _).alloc _ _⟩

end Go.Proofs.Yoeahw.SpanWalk
