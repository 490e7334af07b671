/-
  math/big.addVW (35), in place and apart.
-/
import Derived.Test.YbulkbfsqVWo
namespace Go.Proofs.Ybulkbfsq
open Go.ChangeShapes Go.WideShapes Go.ChangeAt Go.RowKit

/-- What addVW has done: D is X and y together, with the carry c. -/
def AddW (X D : List Int) (y c : Int) (k : Nat) : Prop :=
  D.length = k ∧ Dig D ∧ (0 ≤ c ∧ c ≤ 1) ∧ dval D + c * bp k = dval (X.take k) + y

theorem AddW.first {X : List Int} {y : Int} (hX : Dig X) (hx : 0 < X.length) (hy : 0 ≤ y ∧ y < 18446744073709551616) : AddW X [addd (X.getD 0 0) y 0] y (car (X.getD 0 0) y 0) 1 := by
  have hd := addd_dig (X.getD 0 0) y 0
  refine ⟨rfl, (Dig.nil.snoc hd.1 hd.2), car01 _ _ _ (hX.getD 0) hy ⟨by decide, by decide⟩, ?_⟩
  have e := addd_eq (X.getD 0 0) y 0
  rw [take_snoc X 0 hx]
  simp only [List.take_zero, List.nil_append, dval, bp, Int.mul_zero, Int.add_zero, Int.mul_one]
  omega

/-- The digit is the greatest and there is a carry: it turns to nought. -/
theorem AddW.zero {X D : List Int} {y : Int} {k : Nat} (h : AddW X D y 1 k) (hx : k < X.length) (h0 : X.getD k 0 = 18446744073709551615) : AddW X (D ++ [0]) y 1 (k + 1) := by
  obtain ⟨h1, h2, _, h4⟩ := h
  refine ⟨by simp [h1], h2.snoc (by decide) (by decide), ⟨by decide, by decide⟩, ?_⟩
  have lx : (X.take k).length = k := by simp; omega
  rw [take_snoc X k hx, dval_snoc, dval_snoc, h1, lx, h0]
  simp only [bp, Int.mul_zero, Int.add_zero]
  have e1 : BB * bp k = bp k * 18446744073709551615 + bp k := by
    rw [Int.mul_comm, show BB = 18446744073709551615 + 1 from by decide, Int.mul_add]; simp
  omega

/-- The digit is not the greatest: one more, and all above it as it was. -/
theorem AddW.stop {X D : List Int} {y : Int} {k : Nat} (h : AddW X D y 1 k) (hX : Dig X) (hx : k < X.length) (h0 : X.getD k 0 ≠ 18446744073709551615) : AddW X (D ++ [X.getD k 0 + 1] ++ X.drop (k + 1)) y 0 X.length := by
  obtain ⟨h1, h2, _, h4⟩ := h
  have hb := hX.getD k
  refine ⟨by simp [h1]; omega, (h2.snoc (by omega) (by omega)).append (hX.drop _), ⟨by decide, by decide⟩, ?_⟩
  have lx : (X.take k).length = k := by simp; omega
  have e : X.take X.length = X.take k ++ [X.getD k 0] ++ X.drop (k + 1) := by
    rw [← take_snoc X k hx, List.take_append_drop, List.take_length]
  rw [e, dval_append, dval_append (X.take k ++ _), dval_snoc, dval_snoc, h1, lx]
  have l1 : (D ++ [X.getD k 0 + 1]).length = k + 1 := by simp [h1]
  have l2 : (X.take k ++ [X.getD k 0]).length = k + 1 := by simp; omega
  rw [l1, l2]
  have : bp k * (X.getD k 0 + 1) = bp k * X.getD k 0 + bp k := by rw [Int.mul_add]; simp
  omega

/-- No carry behind the first digit: all above it as it was. -/
theorem AddW.stop0 {X D : List Int} {y : Int} {k : Nat} (h : AddW X D y 0 k) (hX : Dig X) (hx : k ≤ X.length) : AddW X (D ++ X.drop k) y 0 X.length := by
  obtain ⟨h1, h2, _, h4⟩ := h
  refine ⟨by simp [h1]; omega, h2.append (hX.drop _), ⟨by decide, by decide⟩, ?_⟩
  have lx : (X.take k).length = k := by simp; omega
  have e : X.take X.length = X.take k ++ X.drop k := by rw [List.take_append_drop, List.take_length]
  rw [e, dval_append, dval_append, h1, lx]
  omega

set_option maxHeartbeats 800000 in
theorem addVW_in (g o cz cx n : Nat) (y : Int) (R X : List Int) (w : World) (hz : Row w g R) (hzn : o + n ≤ R.length) (lx : Hid (X.length = n)) (hX : Hid ((R.drop o).take n = X))
    (dX : Dig X) (hy : 0 ≤ y ∧ y < 18446744073709551616) (h0 : 0 < n) (hn : n ≤ 100000) :
    Calls Yba.prog 35 #[.slice (some ⟨g, o, none⟩) n cz, .slice (some ⟨g, o, none⟩) n cx, .int .u64 y] w fun e w' =>
      ∃ D c, e = .returned (.int .u64 c) ∧ AddW X D y c n ∧ Row w' g (splice R o D) ∧ Keeps (· = g) w w' := by
  have hn0 : ((n : Int) == 0) = false := by simp; omega
  have hx0 : w.cell? ⟨g, o, none⟩ = some (.int .u64 (X.getD 0 0)) := by
    have := hz.cell o (by omega)
    rw [this, ← hX.out]; simp [List.getD_eq_getElem?_getD, h0]
  have b0 := dX.getD 0
  have f0 := hz.frozen o
  have hI1 : (0 : Int) < (n : Int) := by omega
  have hfirst := AddW.first (X := X) (y := y) dX (by rw [lx.out]; exact h0) hy
  generalize X.getD 0 0 = x0 at *
  have hc := car01 x0 y 0 b0 hy ⟨by decide, by decide⟩
  have hne := neq59_same
  have hK1 : Keeps (· = g) w (w.setCell ⟨g, o, none⟩ (.int .u64 (addd x0 y 0))) := (Keeps.refl _ w).setCell _ (fun _ => rfl)
  have hr1 : Row (w.setCell ⟨g, o, none⟩ (.int .u64 (addd x0 y 0))) g (splice R o [addd x0 y 0]) := by
    have := hz.setCell o (addd x0 y 0)
    have e := splice_set R [] o (addd x0 y 0) (by simp; omega)
    rw [splice_nil] at e
    simp only [List.length_nil, Nat.add_zero, List.nil_append] at e
    rw [← e]; exact this
  go_enter Yba.func35, Yba.ntmps35
  go_wp2_with fail
  refine (add_at x0 y 0 b0 hy ⟨by decide, by decide⟩ _).mono ?_
  rintro e w1 ⟨rfl, hw1⟩
  subst w1
  by_cases hb : car x0 y 0 = 0
  · have hb' : (car x0 y 0 == 0) = true := by simp [hb]
    have hfin : Hid (AddW X ([addd x0 y 0] ++ X.drop 1) y 0 n ∧ splice R o ([addd x0 y 0] ++ X.drop 1) = splice R o [addd x0 y 0]) := by
      rw [hb] at hfirst
      have h1 := hfirst.stop0 dX (by rw [lx.out]; omega)
      rw [lx.out] at h1
      refine ⟨h1, splice_same _ _ _ _ ?_⟩
      have hl : (X.drop 1).length = n - 1 := by rw [List.length_drop, lx.out]
      rw [hl, ← hX.out, List.drop_take, List.drop_drop]; rfl
    have Hb : Hid (car x0 y 0 = 0) := hb
    clear hb hfirst
    go_wp2
    go_quiet (fail)
    go_wp2
    go_ret
    exact ⟨_, 0, rfl, hfin.out.1, by rw [hfin.out.2]; exact hr1, hK1.drewN _⟩
  · have hb' : (car x0 y 0 == 0) = false := by simp [hb]
    have hb1 : car x0 y 0 = 1 := by omega
    rw [hb1] at hfirst
    have Hf : Hid (AddW X [addd x0 y 0] y 1 1) := hfirst
    clear hb hfirst hb1
    go_wp2
    generalize hW1 : w.setCell ⟨g, o, none⟩ (.int .u64 (addd x0 y 0)) = W1 at *
    clear hW1
    go_loopw [9] (fun i wr => ∃ (k : Nat) (D : List Int), 1 ≤ k ∧ k ≤ n ∧ i = .int .i64 k ∧ AddW X D y 1 k ∧ Row wr g (splice R o D) ∧ Keeps (· = g) w wr) (fun i _ => n - (intOf i).toNat)
    case atStart => exact ⟨1, [addd x0 y 0], Nat.le_refl _, h0, rfl, Hf.out, hr1, hK1⟩
    case round =>
      obtain ⟨k, D, hk1, hk, rfl, hI, hr, hK⟩ := hrel
      have hD : D.length = k := hI.1
      by_cases hlt : k < n
      · have hkx : k < X.length := by rw [lx.out]; exact hlt
        have hlen : (splice R o D).length = R.length := by rw [length_splice _ _ _ (by omega)]
        have cx := hr.cell (o + k) (by omega)
        rw [splice_getD_past R D o (o + k) (by omega) (by omega)] at cx
        have ex : R.getD (o + k) 0 = X.getD k 0 := by rw [← hX.out]; simp [List.getD_eq_getElem?_getD, hlt]
        rw [ex] at cx
        have fz := hr.frozen (o + k)
        have bx := dX.getD k
        have hI0 : (0 : Int) ≤ (k : Int) := by omega
        have hI1 : (k : Int) < (n : Int) := by omega
        have hrow : ∀ d, Row (wr.setCell ⟨g, o + k, none⟩ (.int .u64 d)) g (splice R o (D ++ [d])) := by
          intro d
          have := hr.setCell (o + k) d
          rw [← hD] at this
          rw [splice_set R D o d (by omega)] at this
          rw [← hD]; exact this
        by_cases hx0 : X.getD k 0 = 18446744073709551615
        · have hz' : (X.getD k 0 != 18446744073709551615) = false := by rw [hx0]; rfl
          have Hst : Hid (AddW X (D ++ [0]) y 1 (k + 1)) := hI.zero hkx hx0
          clear hx0 ex hI
          generalize X.getD k 0 = x at *
          go_wp2
          go_roundw
          case rel => exact ⟨k + 1, D ++ [0], by omega, by omega, by go_num, Hst.out, hrow _, hK.setCell (p := ⟨g, o + k, none⟩) _ (fun _ => rfl)⟩
          case measure => simp [intOf]; omega
        · have hz' : (X.getD k 0 != 18446744073709551615) = true := bne_iff_ne.2 hx0
          have hp : X.getD k 0 < 18446744073709551615 := by omega
          have hst := hI.stop dX hkx hx0
          have hfin : Hid (AddW X (D ++ [X.getD k 0 + 1] ++ X.drop (k + 1)) y 0 n ∧ splice R o (D ++ [X.getD k 0 + 1] ++ X.drop (k + 1)) = splice R o (D ++ [X.getD k 0 + 1])) := by
            rw [lx.out] at hst
            refine ⟨hst, splice_same _ _ _ _ ?_⟩
            have hl : (X.drop (k + 1)).length = n - (k + 1) := by rw [List.length_drop, lx.out]
            rw [hl, ← hX.out, List.drop_take, List.drop_drop]
            simp [hD]
          clear hst hx0 ex hI
          generalize X.getD k 0 = x at *
          go_wp2
          go_quiet (fail)
          go_wp2
          go_ret
          exact ⟨_, 0, rfl, hfin.out.1, by rw [hfin.out.2]; exact hrow _, (hK.setCell (p := ⟨g, o + k, none⟩) _ (fun _ => rfl)).drewN _⟩
      · have : k = n := by omega
        subst this
        go_wp2
        go_ret
        exact ⟨D, 1, rfl, hI, hr, hK⟩

set_option maxHeartbeats 1600000 in
theorem addVW_out (g o cz gx ox cx n : Nat) (y : Int) (R RX X : List Int) (w : World) (hz : Row w g R) (hzn : o + n ≤ R.length) (lx : Hid (X.length = n)) (hRX : Row w gx RX) (hx : At w gx ox X)
    (hgx : gx ≠ g) (dX : Dig X) (hy : 0 ≤ y ∧ y < 18446744073709551616) (h0 : 0 < n) (hn : n ≤ 100000) (hcz : n < cz) (hcx : n < cx) :
    Calls Yba.prog 35 #[.slice (some ⟨g, o, none⟩) n cz, .slice (some ⟨gx, ox, none⟩) n cx, .int .u64 y] w fun e w' =>
      ∃ D c, e = .returned (.int .u64 c) ∧ AddW X D y c n ∧ Row w' g (splice R o D) ∧ Keeps (· = g) w w' := by
  have hn0 : ((n : Int) == 0) = false := by simp; omega
  have hxl : 0 < X.length := by rw [lx.out]; exact h0
  have hx0 := hx 0 hxl
  rw [Nat.add_zero] at hx0
  have z0 := hz.cell o (by omega)
  have b0 := dX.getD 0
  have f0 := hz.frozen o
  have hI1 : (0 : Int) < (n : Int) := by omega
  have hfirst := AddW.first (X := X) (y := y) dX hxl hy
  generalize X.getD 0 0 = x0 at *
  generalize R.getD o 0 = r0 at *
  have hc := car01 x0 y 0 b0 hy ⟨by decide, by decide⟩
  have hK1 : Keeps (· = g) w (w.setCell ⟨g, o, none⟩ (.int .u64 (addd x0 y 0))) := (Keeps.refl _ w).setCell _ (fun _ => rfl)
  have hr1 : Row (w.setCell ⟨g, o, none⟩ (.int .u64 (addd x0 y 0))) g (splice R o [addd x0 y 0]) := by
    have := hz.setCell o (addd x0 y 0)
    have e := splice_set R [] o (addd x0 y 0) (by simp; omega)
    rw [splice_nil] at e
    simp only [List.length_nil, Nat.add_zero, List.nil_append] at e
    rw [← e]; exact this
  go_enter Yba.func35, Yba.ntmps35
  go_wp2_with fail
  refine (add_at x0 y 0 b0 hy ⟨by decide, by decide⟩ _).mono ?_
  rintro e w1 ⟨rfl, hw1⟩
  subst w1
  by_cases hb : car x0 y 0 = 0
  · have hb' : (car x0 y 0 == 0) = true := by simp [hb]
    rw [hb] at hfirst
    have hfin : Hid (AddW X ([addd x0 y 0] ++ X.drop 1) y 0 n) := by
      have h1 := hfirst.stop0 dX (by rw [lx.out]; omega)
      rw [lx.out] at h1
      exact h1
    have Hb : Hid (car x0 y 0 = 0) := hb
    clear hb hfirst
    go_wp2
    have hRX1 := hRX.kept hK1 hgx
    have hx1 := (hx.kept hRX.lt hK1 hgx).drop 1
    have hl1 : Hid ((X.drop 1).length = n - 1) := by rw [Hid, List.length_drop, lx.out]
    generalize hW1 : w.setCell ⟨g, o, none⟩ (.int .u64 (addd x0 y 0)) = W1 at *
    clear hW1
    have hne : ∀ q, (binOp .neq 59 (.pointer (some ⟨g, o, none⟩)) (.pointer (some ⟨gx, ox, none⟩))).run Yba.prog (W1.drewN q) = .ok (.bool true) (W1.drewN q) := fun q => neq59_other (w := W1.drewN q) (Ne.symm hgx) hr1 hRX1
    go_quiet (fail)
    clear hne
    have hr2 : Row (W1.drewN nq) g (splice R o [addd x0 y 0]) := hr1
    have hx2 : At (W1.drewN nq) gx (ox + 1) (X.drop 1) := hx1
    have hK2 := hK1.drewN nq
    generalize W1.drewN nq = W2 at *
    have i1 : (1 : Int) ≤ (n : Int) := by omega
    have i2 : (n : Int) ≤ (cz : Int) := by omega
    have i3 : (n : Int) ≤ (cx : Int) := by omega
    have i4 : cz ≠ 1 := by omega
    have i5 : cx ≠ 1 := by omega
    have HN : Hid ((X.drop 1).length = Nat.min (n - 1) (n - 1)) := by rw [Hid, hl1.out]; simp
    have HFt : Hid (o + 1 + (X.drop 1).length ≤ (splice R o [addd x0 y 0]).length) := by
      rw [Hid, length_splice _ _ _ (by simp; omega), hl1.out]; omega
    go_wp2
    go_region_law ((refine step_cp rfl (.tmp 40) (.tmp 42) 29 rfl Yba.underlying29 (some ⟨g, o + 1, none⟩) (some ⟨gx, ox + 1, none⟩) (n - 1) (cz - 1) (n - 1) (cx - 1) (by simp [Act.eval, Act.put]) (by simp [Act.eval, Act.put]) g (o + 1) _ (X.drop 1) hr2 HN.out (fun _ => ⟨rfl, gx, ox + 1, rfl, hx2⟩) HFt.out ?_; intro W3 hr3 hK3))
    go_wp2
    go_ret
    refine ⟨_, 0, rfl, hfin.out, ?_, hK2.drew.trans hK3⟩
    have e := splice_splice R [addd x0 y 0] (X.drop 1) o (by rw [hl1.out]; simp; omega)
    rw [← e]; exact hr3
  · have hb' : (car x0 y 0 == 0) = false := by simp [hb]
    have hb1 : car x0 y 0 = 1 := by omega
    rw [hb1] at hfirst
    have Hf : Hid (AddW X [addd x0 y 0] y 1 1) := hfirst
    clear hb hfirst hb1
    go_wp2
    generalize hW1 : w.setCell ⟨g, o, none⟩ (.int .u64 (addd x0 y 0)) = W1 at *
    clear hW1
    go_loopw [9] (fun i wr => ∃ (k : Nat) (D : List Int), 1 ≤ k ∧ k ≤ n ∧ i = .int .i64 k ∧ AddW X D y 1 k ∧ Row wr g (splice R o D) ∧ Keeps (· = g) w wr) (fun i _ => n - (intOf i).toNat)
    case atStart => exact ⟨1, [addd x0 y 0], Nat.le_refl _, h0, rfl, Hf.out, hr1, hK1⟩
    case round =>
      obtain ⟨k, D, hk1, hk, rfl, hI, hr, hK⟩ := hrel
      have hD : D.length = k := hI.1
      by_cases hlt : k < n
      · have hkx : k < X.length := by rw [lx.out]; exact hlt
        have hlen : (splice R o D).length = R.length := by rw [length_splice _ _ _ (by omega)]
        have hxr := hx.kept hRX.lt hK hgx
        have hRXr := hRX.kept hK hgx
        have cx' := hxr k hkx
        have zx' := hr.cell (o + k) (by omega)
        have fz := hr.frozen (o + k)
        have bx := dX.getD k
        have hI0 : (0 : Int) ≤ (k : Int) := by omega
        have hI1 : (k : Int) < (n : Int) := by omega
        have hrow : ∀ d, Row (wr.setCell ⟨g, o + k, none⟩ (.int .u64 d)) g (splice R o (D ++ [d])) := by
          intro d
          have := hr.setCell (o + k) d
          rw [← hD] at this
          rw [splice_set R D o d (by omega)] at this
          rw [← hD]; exact this
        generalize (splice R o D).getD (o + k) 0 = zz at *
        by_cases hx0 : X.getD k 0 = 18446744073709551615
        · have hz' : (X.getD k 0 != 18446744073709551615) = false := by rw [hx0]; rfl
          have Hst : Hid (AddW X (D ++ [0]) y 1 (k + 1)) := hI.zero hkx hx0
          clear hx0 hI
          generalize X.getD k 0 = x at *
          go_wp2
          go_roundw
          case rel => exact ⟨k + 1, D ++ [0], by omega, by omega, by go_num, Hst.out, hrow _, hK.setCell (p := ⟨g, o + k, none⟩) _ (fun _ => rfl)⟩
          case measure => simp [intOf]; omega
        · have hz' : (X.getD k 0 != 18446744073709551615) = true := bne_iff_ne.2 hx0
          have hp : X.getD k 0 < 18446744073709551615 := by omega
          have hst := hI.stop dX hkx hx0
          rw [lx.out] at hst
          have hfin : Hid (AddW X (D ++ [X.getD k 0 + 1] ++ X.drop (k + 1)) y 0 n) := hst
          clear hst hx0 hI
          generalize X.getD k 0 = x at *
          have hr1' := hrow (x + 1)
          have hKs : Keeps (· = g) wr (wr.setCell ⟨g, o + k, none⟩ (.int .u64 (x + 1))) := (Keeps.refl _ wr).setCell _ (fun _ => rfl)
          have hK1' := hK.trans hKs
          have hRX1 := hRXr.kept hKs hgx
          have hx1 := (hxr.kept hRXr.lt hKs hgx).drop (k + 1)
          have hl1 : Hid ((X.drop (k + 1)).length = n - (k + 1)) := by rw [Hid, List.length_drop, lx.out]
          clear hrow hKs
          go_wp2
          generalize hW2 : wr.setCell ⟨g, o + k, none⟩ (.int .u64 (x + 1)) = W2 at *
          clear hW2
          have hne : ∀ q, (binOp .neq 59 (.pointer (some ⟨g, o, none⟩)) (.pointer (some ⟨gx, ox, none⟩))).run Yba.prog (W2.drewN q) = .ok (.bool true) (W2.drewN q) := fun q => neq59_other (w := W2.drewN q) (Ne.symm hgx) hr1' hRX1
          go_quiet (fail)
          clear hne
          have hr2 : Row (W2.drewN nq) g (splice R o (D ++ [x + 1])) := hr1'
          have hx2 : At (W2.drewN nq) gx (ox + (k + 1)) (X.drop (k + 1)) := hx1
          have hK2 := hK1'.drewN nq
          generalize W2.drewN nq = W3 at *
          have i1 : (k : Int) + 1 ≤ (n : Int) := by omega
          have i0 : (0 : Int) ≤ (k : Int) + 1 := by omega
          have iw : IntKind.i64.wrap ((k : Int) + 1) = (k : Int) + 1 := by rw [IntKind.wrap_i64]; omega
          have it : ((k : Int) + 1).toNat = k + 1 := by omega
          have i2 : (n : Int) ≤ (cz : Int) := by omega
          have i3 : (n : Int) ≤ (cx : Int) := by omega
          have i4 : cz ≠ k + 1 := by omega
          have i5 : cx ≠ k + 1 := by omega
          have HN : Hid ((X.drop (k + 1)).length = Nat.min (n - (k + 1)) (n - (k + 1))) := by rw [Hid, hl1.out]; simp
          have HFt : Hid (o + (k + 1) + (X.drop (k + 1)).length ≤ (splice R o (D ++ [x + 1])).length) := by
            rw [Hid, length_splice _ _ _ (by simp; omega), hl1.out]; omega
          go_wp2
          go_region_law ((refine step_cp rfl (.tmp 69) (.tmp 73) 29 rfl Yba.underlying29 (some ⟨g, o + (k + 1), none⟩) (some ⟨gx, ox + (k + 1), none⟩) (n - (k + 1)) (cz - (k + 1)) (n - (k + 1)) (cx - (k + 1)) (by simp [Act.eval, Act.put]) (by simp [Act.eval, Act.put]) g (o + (k + 1)) _ (X.drop (k + 1)) hr2 HN.out (fun _ => ⟨rfl, gx, ox + (k + 1), rfl, hx2⟩) HFt.out ?_; intro W4 hr3 hK3))
          go_wp2
          go_ret
          refine ⟨_, 0, rfl, hfin.out, ?_, hK2.drew.trans hK3⟩
          have hDl : (D ++ [x + 1]).length = k + 1 := by simp [hD]
          have e := splice_splice R (D ++ [x + 1]) (X.drop (k + 1)) o (by rw [hl1.out, hDl]; omega)
          rw [hDl] at e
          rw [← e]; exact hr3
      · have : k = n := by omega
        subst this
        go_wp2
        go_ret
        exact ⟨D, 1, rfl, hI, hr, hK⟩

end Go.Proofs.Ybulkbfsq
