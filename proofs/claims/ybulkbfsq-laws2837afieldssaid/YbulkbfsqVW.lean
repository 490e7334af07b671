/-
  math/big.subVW (38), in place.
-/
import Derived.Test.YbulkbfsqVV
import Derived.Laws.Pointers
import Derived.LaidEqlPtr
namespace Go.Proofs.Ybulkbfsq
open Go.ChangeShapes Go.WideShapes Go.ChangeAt Go.RowKit

theorem Yba.info45 : (Yba.prog.info? 45).map (fun i => (i.zero, i.size, i.bytes)) = some (some (.int .u64 0), 1, 8) := by kernel_rfl

/-- '!=' between pointers to words. -/
theorem neq59_same (w : World) (a : Addr) : (binOp .neq 59 (.pointer (some a)) (.pointer (some a))).run Yba.prog w = .ok (.bool false) w := by
  obtain ⟨i0, hi, hz0, hz1, hz2⟩ := info_parts Yba.info45
  have h : ∀ d : Nat, (Op.equalIn (d + 1) 59 (.pointer (some a)) (.pointer (some a))).run Yba.prog w = .ok true w := fun d => by
    simp [Op.equalIn, run_underlying Yba.underlying59, sizeOf, typeInfo, hi, run_sameAddr_same]
  simp only [binOp]
  simp [Op.equal, Op.maxDepth, h 9999]
theorem neq59_other {w : World} {g o g' o' : Nat} {c c' : Array Value} {t t' : TypeId} (hne : g ≠ g') (ha : w.heap[g]? = some (.cells c t (0, 0))) (hb : w.heap[g']? = some (.cells c' t' (0, 0))) :
    (binOp .neq 59 (.pointer (some ⟨g, o, none⟩)) (.pointer (some ⟨g', o', none⟩))).run Yba.prog w = .ok (.bool true) w := by
  obtain ⟨i0, hi, hz0, hz1, hz2⟩ := info_parts Yba.info45
  have hne' : (⟨g, o, none⟩ : Addr) ≠ ⟨g', o', none⟩ := fun e => hne (congrArg Addr.block e)
  have h : ∀ d : Nat, (Op.equalIn (d + 1) 59 (.pointer (some ⟨g, o, none⟩)) (.pointer (some ⟨g', o', none⟩))).run Yba.prog w = .ok false w := fun d => by
    simp [Op.equalIn, run_underlying Yba.underlying59, sizeOf, typeInfo, hi, hz1, run_sameAddr_other w hne' ha hb]
  simp only [binOp]
  simp [Op.equal, Op.maxDepth, h 9999]

/-- What subVW has done: D is X less y, with the borrow c. -/
def SubW (X D : List Int) (y c : Int) (k : Nat) : Prop :=
  D.length = k ∧ Dig D ∧ (0 ≤ c ∧ c ≤ 1) ∧ dval D = dval (X.take k) - y + c * bp k

theorem SubW.first {X : List Int} {y : Int} (hX : Dig X) (hx : 0 < X.length) (hy : 0 ≤ y ∧ y < 18446744073709551616) : SubW X [subd (X.getD 0 0) y 0] y (bor (X.getD 0 0) y 0) 1 := by
  have hd := subd_dig (X.getD 0 0) y 0
  refine ⟨rfl, (Dig.nil.snoc hd.1 hd.2), bor01 _ _ _, ?_⟩
  have e := subd_eq (X.getD 0 0) y 0 (hX.getD 0) hy ⟨by decide, by decide⟩
  rw [take_snoc X 0 hx]
  simp only [List.take_zero, List.nil_append, dval, bp, Int.mul_zero, Int.add_zero, Int.mul_one]
  omega

/-- The digit is nought and there is a borrow: it turns to the greatest. -/
theorem SubW.zero {X D : List Int} {y : Int} {k : Nat} (h : SubW X D y 1 k) (hx : k < X.length) (h0 : X.getD k 0 = 0) : SubW X (D ++ [18446744073709551615]) y 1 (k + 1) := by
  obtain ⟨h1, h2, _, h4⟩ := h
  refine ⟨by simp [h1], h2.snoc (by decide) (by decide), ⟨by decide, by decide⟩, ?_⟩
  have lx : (X.take k).length = k := by simp; omega
  rw [take_snoc X k hx, dval_snoc, dval_snoc, h1, lx, h0]
  simp only [bp, Int.mul_zero, Int.add_zero]
  have e1 : BB * bp k = bp k * 18446744073709551615 + bp k := by
    rw [Int.mul_comm, show BB = 18446744073709551615 + 1 from by decide, Int.mul_add]; simp
  omega

/-- The digit is not nought: one less, and all above it as it was. -/
theorem SubW.stop {X D : List Int} {y : Int} {k : Nat} (h : SubW X D y 1 k) (hX : Dig X) (hx : k < X.length) (h0 : X.getD k 0 ≠ 0) : SubW X (D ++ [X.getD k 0 - 1] ++ X.drop (k + 1)) y 0 X.length := by
  obtain ⟨h1, h2, _, h4⟩ := h
  have hb := hX.getD k
  refine ⟨by simp [h1]; omega, (h2.snoc (by omega) (by omega)).append (hX.drop _), ⟨by decide, by decide⟩, ?_⟩
  have lx : (X.take k).length = k := by simp; omega
  have e : X.take X.length = X.take k ++ [X.getD k 0] ++ X.drop (k + 1) := by
    rw [← take_snoc X k hx, List.take_append_drop, List.take_length]
  rw [e, dval_append, dval_append (X.take k ++ _), dval_snoc, dval_snoc, h1, lx]
  have l1 : (D ++ [X.getD k 0 - 1]).length = k + 1 := by simp [h1]
  have l2 : (X.take k ++ [X.getD k 0]).length = k + 1 := by simp; omega
  rw [l1, l2]
  have : bp k * (X.getD k 0 - 1) = bp k * X.getD k 0 - bp k := by rw [Int.mul_sub]; simp
  omega

/-- No borrow behind the first digit: all above it as it was. -/
theorem SubW.stop0 {X D : List Int} {y : Int} {k : Nat} (h : SubW X D y 0 k) (hX : Dig X) (hx : k ≤ X.length) : SubW X (D ++ X.drop k) y 0 X.length := by
  obtain ⟨h1, h2, _, h4⟩ := h
  refine ⟨by simp [h1]; omega, h2.append (hX.drop _), ⟨by decide, by decide⟩, ?_⟩
  have lx : (X.take k).length = k := by simp; omega
  have e : X.take X.length = X.take k ++ X.drop k := by rw [List.take_append_drop, List.take_length]
  rw [e, dval_append, dval_append, h1, lx]
  omega

/-- In place: what lies above already lies there. -/
theorem splice_same (R D E : List Int) (o : Nat) (hE : (R.drop (o + D.length)).take E.length = E) : splice R o (D ++ E) = splice R o D := by
  unfold splice
  rw [List.append_assoc]
  congr 2
  have e : R.drop (o + D.length) = E ++ (R.drop (o + D.length)).drop E.length := by
    conv => lhs; rw [← List.take_append_drop E.length (R.drop (o + D.length)), hE]
  rw [e, List.drop_drop, List.length_append, Nat.add_assoc]

set_option maxHeartbeats 800000 in
theorem subVW_in (g o cz cx n : Nat) (y : Int) (R X : List Int) (w : World) (hz : Row w g R) (hzn : o + n ≤ R.length) (lx : Hid (X.length = n)) (hX : Hid ((R.drop o).take n = X))
    (dX : Dig X) (hy : 0 ≤ y ∧ y < 18446744073709551616) (h0 : 0 < n) (hn : n ≤ 100000) :
    Calls Yba.prog 38 #[.slice (some ⟨g, o, none⟩) n cz, .slice (some ⟨g, o, none⟩) n cx, .int .u64 y] w fun e w' =>
      ∃ D c, e = .returned (.int .u64 c) ∧ SubW X D y c n ∧ Row w' g (splice R o D) ∧ Keeps (· = g) w w' := by
  have hn0 : ((n : Int) == 0) = false := by simp; omega
  have hx0 : w.cell? ⟨g, o, none⟩ = some (.int .u64 (X.getD 0 0)) := by
    have := hz.cell o (by omega)
    rw [this, ← hX.out]; simp [List.getD_eq_getElem?_getD, h0]
  have b0 := dX.getD 0
  have f0 := hz.frozen o
  have hI1 : (0 : Int) < (n : Int) := by omega
  have hfirst := SubW.first (X := X) (y := y) dX (by rw [lx.out]; exact h0) hy
  generalize X.getD 0 0 = x0 at *
  have hc := bor01 x0 y 0
  have hne := neq59_same
  have hK1 : Keeps (· = g) w (w.setCell ⟨g, o, none⟩ (.int .u64 (subd x0 y 0))) := (Keeps.refl _ w).setCell _ (fun _ => rfl)
  have hr1 : Row (w.setCell ⟨g, o, none⟩ (.int .u64 (subd x0 y 0))) g (splice R o [subd x0 y 0]) := by
    have := hz.setCell o (subd x0 y 0)
    have e := splice_set R [] o (subd x0 y 0) (by simp; omega)
    rw [splice_nil] at e
    simp only [List.length_nil, Nat.add_zero, List.nil_append] at e
    rw [← e]; exact this
  go_enter Yba.func38, Yba.ntmps38
  go_wp2_with fail
  refine (sub_at x0 y 0 b0 hy ⟨by decide, by decide⟩ _).mono ?_
  rintro e w1 ⟨rfl, hw1⟩
  subst w1
  by_cases hb : bor x0 y 0 = 0
  · have hb' : (bor x0 y 0 == 0) = true := by simp [hb]
    have hfin : Hid (SubW X ([subd x0 y 0] ++ X.drop 1) y 0 n ∧ splice R o ([subd x0 y 0] ++ X.drop 1) = splice R o [subd x0 y 0]) := by
      rw [hb] at hfirst
      have h1 := hfirst.stop0 dX (by rw [lx.out]; omega)
      rw [lx.out] at h1
      refine ⟨h1, splice_same _ _ _ _ ?_⟩
      have hl : (X.drop 1).length = n - 1 := by rw [List.length_drop, lx.out]
      rw [hl, ← hX.out, List.drop_take, List.drop_drop]; rfl
    have Hb : Hid (bor x0 y 0 = 0) := hb
    clear hb hfirst
    go_wp2
    go_quiet (fail)
    go_wp2
    go_ret
    exact ⟨_, 0, rfl, hfin.out.1, by rw [hfin.out.2]; exact hr1, hK1.drewN _⟩
  · have hb' : (bor x0 y 0 == 0) = false := by simp [hb]
    have hb1 : bor x0 y 0 = 1 := by omega
    rw [hb1] at hfirst
    have Hf : Hid (SubW X [subd x0 y 0] y 1 1) := hfirst
    clear hb hfirst hb1
    go_wp2
    generalize hW1 : w.setCell ⟨g, o, none⟩ (.int .u64 (subd x0 y 0)) = W1 at *
    clear hW1
    go_loopw [9] (fun i wr => ∃ (k : Nat) (D : List Int), 1 ≤ k ∧ k ≤ n ∧ i = .int .i64 k ∧ SubW X D y 1 k ∧ Row wr g (splice R o D) ∧ Keeps (· = g) w wr) (fun i _ => n - (intOf i).toNat)
    case atStart => exact ⟨1, [subd x0 y 0], Nat.le_refl _, h0, rfl, Hf.out, hr1, hK1⟩
    case round =>
      obtain ⟨k, D, hk1, hk, rfl, hI, hr, hK⟩ := hrel
      have hD : D.length = k := hI.1
      by_cases hlt : k < n
      · have hkx : k < X.length := by rw [lx.out]; exact hlt
        have hlen : (splice R o D).length = R.length := by rw [length_splice _ _ _ (by omega)]
        have cx := hr.cell (o + k) (by omega)
        rw [splice_getD_past R D o (o + k) (by omega) (by omega)] at cx
        have ex : R.getD (o + k) 0 = X.getD k 0 := by rw [← hX.out]; simp [List.getD_eq_getElem?_getD, hlt]
        rw [ex] at cx
        have fz := hr.frozen (o + k)
        have bx := dX.getD k
        have hI0 : (0 : Int) ≤ (k : Int) := by omega
        have hI1 : (k : Int) < (n : Int) := by omega
        have hrow : ∀ d, Row (wr.setCell ⟨g, o + k, none⟩ (.int .u64 d)) g (splice R o (D ++ [d])) := by
          intro d
          have := hr.setCell (o + k) d
          rw [← hD] at this
          rw [splice_set R D o d (by omega)] at this
          rw [← hD]; exact this
        by_cases hx0 : X.getD k 0 = 0
        · have hz' : (X.getD k 0 != 0) = false := by rw [hx0]; rfl
          have Hst : Hid (SubW X (D ++ [18446744073709551615]) y 1 (k + 1)) := hI.zero hkx hx0
          clear hx0 ex hI
          generalize X.getD k 0 = x at *
          go_wp2
          go_roundw
          case rel => exact ⟨k + 1, D ++ [18446744073709551615], by omega, by omega, by go_num, Hst.out, hrow _, hK.setCell (p := ⟨g, o + k, none⟩) _ (fun _ => rfl)⟩
          case measure => simp [intOf]; omega
        · have hz' : (X.getD k 0 != 0) = true := bne_iff_ne.2 hx0
          have hp : 0 < X.getD k 0 := by omega
          have hst := hI.stop dX hkx hx0
          have hfin : Hid (SubW X (D ++ [X.getD k 0 - 1] ++ X.drop (k + 1)) y 0 n ∧ splice R o (D ++ [X.getD k 0 - 1] ++ X.drop (k + 1)) = splice R o (D ++ [X.getD k 0 - 1])) := by
            rw [lx.out] at hst
            refine ⟨hst, splice_same _ _ _ _ ?_⟩
            have hl : (X.drop (k + 1)).length = n - (k + 1) := by rw [List.length_drop, lx.out]
            rw [hl, ← hX.out, List.drop_take, List.drop_drop]
            simp [hD]
          clear hst hx0 ex hI
          generalize X.getD k 0 = x at *
          go_wp2
          go_quiet (fail)
          go_wp2
          go_ret
          exact ⟨_, 0, rfl, hfin.out.1, by rw [hfin.out.2]; exact hrow _, (hK.setCell (p := ⟨g, o + k, none⟩) _ (fun _ => rfl)).drewN _⟩
      · have : k = n := by omega
        subst this
        go_wp2
        go_ret
        exact ⟨D, 1, rfl, hI, hr, hK⟩

end Go.Proofs.Ybulkbfsq
