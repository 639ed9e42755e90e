import Derived.Test.YoeahwLeaves
namespace Go.Proofs.Yoeahw.ChainWalk
open Go.RowKit Go.Proofs.Yoeahw.Leaves
set_option linter.unusedVariables false

theorem info3 : (Eahg.prog.info? 3).map (fun i => (i.zero, i.size, i.bytes)) = some (some (.int .i64 0), 1, 8) := by kernel_rfl

theorem walk_large (a0 a1 : Int) (a : Option Addr) (len cap : Nat) (w : World) (hm : (len : Int) ≤ 9223372036854775807) (h : (4096 : Int) < (len : Int)) :
    Calls Eahg.prog 3 #[.int .i64 a0, .int .i64 a1, .slice a len cap] w fun e w' => e = .returned (.bool true) ∧ Below w.heap.size w w' := by
  by_cases hl : (1048576 : Int) < (len : Int)
  · go_enter Eahg.func3, Eahg.ntmps3
    go_wp2_with (go_at_call 5; refine (bytes3_large _ _ _ _ _ _ hm hl).mono ?_; rintro e w' ⟨rfl, rfl⟩)
    go_ret
    exact ⟨rfl, Below.refl _ _⟩
  · go_enter Eahg.func3, Eahg.ntmps3
    go_wp2_with (go_at_call 5; refine (bytes3_small _ _ _ _ _ _ (by omega)).mono ?_; rintro e w' ⟨rfl, rfl⟩)
    go_ret
    exact ⟨rfl, Below.refl _ _⟩

theorem walk_none (a0 a1 : Int) (a : Option Addr) (cap : Nat) (w : World) :
    Calls Eahg.prog 3 #[.int .i64 a0, .int .i64 a1, .slice a 0 cap] w fun e w' => e = .returned (.bool true) ∧ Below w.heap.size w w' := by
  go_enter Eahg.func3, Eahg.ntmps3
  go_wp2_with (go_at_call 5; refine (bytes3_small _ _ _ _ _ _ (by omega)).mono ?_; rintro e w' ⟨rfl, rfl⟩)
  go_ret
  exact ⟨rfl, Below.refl _ _⟩

/-- The slice 'c' that the call makes: block 'N', 'len' numbers 'cs'. -/
def Row (w : World) (N len : Nat) (cs : List Int) : Prop := N < w.heap.size ∧ ∀ j, j < len → w.cell? ⟨N, j, none⟩ = some (.int .i64 (cs.getD j 0))

theorem row_of_owns {w : World} {N len : Nat} {cs : List Int} (hl : cs.length = len) (hN : N < w.heap.size) (h : w.ownsRow N 3 1 (.slice (some ⟨N, 0, none⟩) len len) len (cs.map (Value.int .i64))) : Row w N len cs := by
  refine ⟨hN, fun j hj => ?_⟩
  rw [h.cellAt j (by omega)]
  simp [List.getD, hl ▸ hj]

theorem Row.below {w w' : World} {N len : Nat} {cs : List Int} {B : Nat} (hB : N < B) (hb : Below B w w') (h : Row w N len cs) : Row w' N len cs :=
  ⟨Nat.lt_of_lt_of_le h.1 hb.size, fun j hj => (hb.cell (p := ⟨N, j, none⟩) hB).trans (h.2 j hj)⟩

theorem owns_set {w : World} {N len : Nat} {cs : List Int} (h : w.ownsRow N 3 1 (.slice (some ⟨N, 0, none⟩) len len) len (cs.map (Value.int .i64))) (k : Nat) (z : Int) :
    (w.setCell ⟨N, k, none⟩ (.int .i64 z)).ownsRow N 3 1 (.slice (some ⟨N, 0, none⟩) len len) len ((cs.set k z).map (Value.int .i64)) := by
  rw [List.map_set]
  exact (h.stored k (.int .i64 z)).1

theorem owns_made {w : World} {N len : Nat} (h : w.ownsRow N 3 1 (.slice (some ⟨N, 0, none⟩) len len) len (madeCells (Value.int .i64 0).cells (len * 1)).toList) :
    w.ownsRow N 3 1 (.slice (some ⟨N, 0, none⟩) len len) len ((List.replicate len (0 : Int)).map (Value.int .i64)) := by
  rw [List.map_replicate]
  have e : (madeCells (Value.int .i64 0).cells (len * 1)).toList = List.replicate len (Value.int .i64 0) := by
    rw [Nat.mul_one]; exact toList_madeCells_one _ _
  rw [← e]; exact h

/-- What holds at the head of every round of the second loop: 'c' is as it was, 's' (at block 'b') is a chain 'j' deep whose right bracket is 'c[j]'. -/
def Rel (w wr : World) (p : Int) (N len : Nat) (cs : List Int) (j b : Nat) : Prop :=
  Row wr N len cs ∧ Below N w wr ∧ Chain wr p wr.heap.size j b ∧ wr.cell? ⟨b, 4, none⟩ = some (.int .i64 (cs.getD j 0))

theorem rel_start {w wr : World} {p : Int} {N len : Nat} {cs : List Int} (s : Value) (x1 x2 x3 : Value) (hrow : Row wr N len cs) (hbel : Below N w wr) :
    Rel w ((wr.alloc (.cells #[s, .int .i64 p] 27)).alloc (.cells #[.iface 24 (.pointer (some ⟨wr.heap.size, 0, none⟩)), x1, x2, x3, .int .i64 (cs.getD 0 0)] 32)) p N len cs 0 (wr.heap.size + 1) := by
  have hN := hrow.1
  have B1 : Below wr.heap.size wr ((wr.alloc (.cells #[s, .int .i64 p] 27)).alloc (.cells #[.iface 24 (.pointer (some ⟨wr.heap.size, 0, none⟩)), x1, x2, x3, .int .i64 (cs.getD 0 0)] 32)) :=
    ((Below.refl _ _).alloc (Nat.le_refl _) _).alloc (by simp) _
  refine ⟨hrow.below hN B1, hbel.trans (B1.mono (by omega)), ⟨by simp, wr.heap.size, by simp; omega, ?_, ?_⟩, ?_⟩
  · simp
  · simp
  · simp

theorem rel_step {w wr : World} {p : Int} {N len : Nat} {cs : List Int} {j b : Nat} (x1 x2 x3 : Value) (h : Rel w wr p N len cs j b) :
    Rel w (wr.alloc (.cells #[.iface 28 (.pointer (some ⟨b, 0, none⟩)), x1, x2, x3, .int .i64 (cs.getD (j + 1) 0)] 32)) p N len cs (j + 1) wr.heap.size := by
  obtain ⟨hrow, hbel, hch, _⟩ := h
  have hN := hrow.1
  have B1 : Below wr.heap.size wr (wr.alloc (.cells #[.iface 28 (.pointer (some ⟨b, 0, none⟩)), x1, x2, x3, .int .i64 (cs.getD (j + 1) 0)] 32)) :=
    (Below.refl _ _).alloc (Nat.le_refl _) _
  refine ⟨hrow.below hN B1, hbel.trans (B1.mono (by omega)), ⟨by simp, b, ?_, Chain.below B1 (by simp) hch⟩, ?_⟩
  · simp
  · simp

theorem rel_drew {w wr : World} {p : Int} {N len : Nat} {cs : List Int} {j b : Nat} (h : Rel w wr p N len cs j b) : Rel w wr.drew p N len cs j b := by
  obtain ⟨hrow, hbel, hch, hc⟩ := h
  exact ⟨hrow.below (B := wr.heap.size) hrow.1 (Below.refl _ _).drew, hbel.drew, Chain.below (Below.refl _ _).drew (Nat.le_refl _) hch, hc⟩

set_option maxHeartbeats 400000 in
theorem walk_some (a0 a1 : Int) (b off : Nat) (len cap : Nat) (zs : List Int) (w : World) (h0 : (0 : Int) < (len : Int)) (h : (len : Int) ≤ 4096)
    (hb : b < w.heap.size) (hc : ∀ i, i < len → w.cell? ⟨b, off + i, none⟩ = some (.int .i64 (zs.getD i 0))) :
    Calls Eahg.prog 3 #[.int .i64 a0, .int .i64 a1, .slice (some ⟨b, off, none⟩) len cap] w fun e w' => e = .returned (.bool true) ∧ Below w.heap.size w w' := by
  have he : ((len : Int) == 0) = false := by simp; omega
  have hd : decide ((4096 : Int) < (len : Int)) = false := by simp; omega
  obtain ⟨i0, hi, hz0, hz1, hz2⟩ := info_parts info3
  go_enter Eahg.func3, Eahg.ntmps3
  go_wp2_with (first | (go_at_call 5; refine (bytes3_small _ _ _ _ _ _ (by omega)).mono ?_; rintro e w1 ⟨rfl, hw⟩; subst w1) | (at_make; refine wpList_make_full _ rfl _ _ 22 rfl w.heap.size 3 i0 (.int .i64 0) 1 Eahg.underlying22 hi hz0 hz1 _ _ _ _ len rfl rfl (by omega) (by omega) (by rw [hz2]; omega) (by unfold maxLen; omega) (Nat.le_refl _) ?_; intro w2 hown hgrow))
  go_loopw [8] (fun i wr => ∃ (k : Nat) (cs : List Int), k ≤ len ∧ i = .int .i64 k ∧ cs.length = len ∧ wr.ownsRow w.heap.size 3 1 (.slice (some ⟨w.heap.size, 0, none⟩) len len) len (cs.map (Value.int .i64)) ∧ Below w.heap.size w wr ∧ w.heap.size < wr.heap.size)
    (fun i _ => len - (intOf i).toNat)
  case atStart => exact ⟨0, List.replicate len 0, Nat.zero_le _, rfl, by simp, owns_made hown, (Below.refl _ _).grown hgrow (Nat.le_refl _) (by simp), (hown.lt w.heap.size rfl).2⟩
  case round =>
    obtain ⟨k, cs, hk, rfl, hcs, hown', hbel, hN⟩ := hrel
    clear hown hgrow
    by_cases hlt : k < len
    · have hcx : wr.cell? ⟨b, off + k, none⟩ = some (.int .i64 (zs.getD k 0)) := (hbel.cell (p := ⟨b, off + k, none⟩) hb).trans (hc k hlt)
      have hcy : wr.cell? ⟨w.heap.size, k, none⟩ = some (.int .i64 (cs.getD k 0)) := (row_of_owns hcs hN hown').2 k hlt
      have hfy : wr.frozen? ⟨w.heap.size, k, none⟩ = false := hown'.frozenAt k
      go_wp2_with fail
      go_roundw
      case rel => exact ⟨k + 1, cs.set k (zs.getD k 0), by omega, by go_num, by simpa using hcs, by first | exact owns_set hown' k _ | (simp; exact owns_set hown' k _), hbel.setCell (Nat.le_refl _) _, by simpa using hN⟩
      case measure => simp [intOf]; omega
    · obtain ⟨hN', hrow⟩ := row_of_owns hcs hN hown'
      have hr0 : wr.cell? ⟨w.heap.size, 0, none⟩ = some (.int .i64 (cs.getD 0 0)) := hrow 0 (by omega)
      have hR : ∀ s x1 x2 x3 : Value, Rel w ((wr.alloc (.cells #[s, .int .i64 a0] 27)).alloc (.cells #[.iface 24 (.pointer (some ⟨wr.heap.size, 0, none⟩)), x1, x2, x3, .int .i64 (cs.getD 0 0)] 32)) a0 w.heap.size len cs 0 (wr.heap.size + 1) := fun s x1 x2 x3 => rel_start s x1 x2 x3 ⟨hN', hrow⟩ hbel
      clear hcs hown' hc hrow
      go_wp2_with fail
      go_loopw [10, 11] (fun s i wx => ∃ j b : Nat, j < len ∧ s = .pointer (some ⟨b, 0, none⟩) ∧ i = .int .i64 ((j : Int) + 1) ∧ Rel w wx a0 w.heap.size len cs j b) (fun _ i _ => len - (intOf i).toNat)
      case atStart => exact ⟨0, wr.heap.size + 1, by omega, rfl, rfl, hR _ _ _ _⟩
      case round =>
        clear hR
        obtain ⟨j, b', hj, rfl, rfl, hrel'⟩ := hrel
        by_cases hlt2 : (j : Int) + 1 < (len : Int)
        · have hA := hrel'.1.2 j (by omega)
          have hB := hrel'.1.2 (j + 1) (by omega)
          have hNr : w.heap.size < wr.heap.size := hrel'.1.1
          have hBx : ∀ o, (wr.alloc o).cell? ⟨w.heap.size, j + 1, none⟩ = some (.int .i64 (cs.getD (j + 1) 0)) := fun o => by
            rw [World.cell?_alloc_past _ _ _ (by exact hNr)]; exact hB
          go_wp2_with fail
          go_region
          go_wp2_with fail
          all_goals
            go_roundw
            case rel => exact ⟨j + 1, wr.heap.size, by omega, rfl, by go_num, rel_drew (rel_step _ _ _ hrel')⟩
            case measure => simp [intOf]; omega
        · have hL : wr.cell? ⟨w.heap.size, j, none⟩ = some (.int .i64 (cs.getD j 0)) := hrel'.1.2 j (by omega)
          have hE := hrel'.2.2.2
          have hP := slicePos j b' hrel'.2.2.1
          have HP : Hid (Calls Eahg.prog 6 #[.pointer (some ⟨b', 0, none⟩)] wr fun e w' => e = .returned (.int .i64 a0) ∧ w' = wr) := hP
          have HQ : Hid (Below w.heap.size w wr) := hrel'.2.1
          clear hP hrel'
          obtain rfl : len = j + 1 := by omega
          go_wp2_with (first | (go_at_call 6; refine (HP.out).mono ?_; rintro e w3 ⟨rfl, hw⟩; subst w3) | (go_at_call 7; refine (sliceEnd b' 0 _ _ hE).mono ?_; rintro e w3 ⟨rfl, hw⟩; subst w3))
          go_ret
          exact ⟨rfl, HQ.out⟩
end Go.Proofs.Yoeahw.ChainWalk
