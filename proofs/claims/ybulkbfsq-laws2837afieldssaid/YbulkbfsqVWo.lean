/-
  math/big.subVW (38), the two rows apart.
-/
import Derived.Test.YbulkbfsqSet
import Derived.Deep.RegionLaw
namespace Go.Proofs.Ybulkbfsq
open Go.ChangeShapes Go.WideShapes Go.ChangeAt Go.RowKit

/-- What is laid over the row behind the digits that were laid over it. -/
theorem splice_splice (R D E : List Int) (o : Nat) (h : o + D.length + E.length ≤ R.length) : splice (splice R o D) (o + D.length) E = splice R o (D ++ E) := by
  have e1 : (R.take o).length = o := by simp; omega
  have h1 : (splice R o D).take (o + D.length) = R.take o ++ D := splice_take R D o (by omega)
  have h2 : (splice R o D).drop (o + D.length + E.length) = R.drop (o + (D ++ E).length) := by
    unfold splice
    rw [← List.append_assoc, List.drop_append]
    have e2 : (R.take o ++ D).length = o + D.length := by simp; omega
    rw [List.drop_of_length_le (by omega), e2, List.nil_append, List.drop_drop]
    congr 1
    simp; omega
  show (splice R o D).take (o + D.length) ++ (E ++ (splice R o D).drop (o + D.length + E.length)) = R.take o ++ ((D ++ E) ++ R.drop (o + (D ++ E).length))
  rw [h1, h2]; simp

theorem At.drop {w : World} {g o : Nat} {X : List Int} (h : At w g o X) (k : Nat) : At w g (o + k) (X.drop k) := by
  intro i hi
  have hi' : k + i < X.length := by simp at hi; omega
  have := h (k + i) hi'
  rw [← Nat.add_assoc] at this
  rw [this]
  simp [List.getD_eq_getElem?_getD]

set_option maxHeartbeats 1600000 in
theorem subVW_out (g o cz gx ox cx n : Nat) (y : Int) (R RX X : List Int) (w : World) (hz : Row w g R) (hzn : o + n ≤ R.length) (lx : Hid (X.length = n)) (hRX : Row w gx RX) (hx : At w gx ox X)
    (hgx : gx ≠ g) (dX : Dig X) (hy : 0 ≤ y ∧ y < 18446744073709551616) (h0 : 0 < n) (hn : n ≤ 100000) (hcz : n < cz) (hcx : n < cx) :
    Calls Yba.prog 38 #[.slice (some ⟨g, o, none⟩) n cz, .slice (some ⟨gx, ox, none⟩) n cx, .int .u64 y] w fun e w' =>
      ∃ D c, e = .returned (.int .u64 c) ∧ SubW X D y c n ∧ Row w' g (splice R o D) ∧ Keeps (· = g) w w' := by
  have hn0 : ((n : Int) == 0) = false := by simp; omega
  have hxl : 0 < X.length := by rw [lx.out]; exact h0
  have hx0 := hx 0 hxl
  rw [Nat.add_zero] at hx0
  have z0 := hz.cell o (by omega)
  have b0 := dX.getD 0
  have f0 := hz.frozen o
  have hI1 : (0 : Int) < (n : Int) := by omega
  have hfirst := SubW.first (X := X) (y := y) dX hxl hy
  generalize X.getD 0 0 = x0 at *
  generalize R.getD o 0 = r0 at *
  have hc := bor01 x0 y 0
  have hK1 : Keeps (· = g) w (w.setCell ⟨g, o, none⟩ (.int .u64 (subd x0 y 0))) := (Keeps.refl _ w).setCell _ (fun _ => rfl)
  have hr1 : Row (w.setCell ⟨g, o, none⟩ (.int .u64 (subd x0 y 0))) g (splice R o [subd x0 y 0]) := by
    have := hz.setCell o (subd x0 y 0)
    have e := splice_set R [] o (subd x0 y 0) (by simp; omega)
    rw [splice_nil] at e
    simp only [List.length_nil, Nat.add_zero, List.nil_append] at e
    rw [← e]; exact this
  go_enter Yba.func38, Yba.ntmps38
  go_wp2_with fail
  refine (sub_at x0 y 0 b0 hy ⟨by decide, by decide⟩ _).mono ?_
  rintro e w1 ⟨rfl, hw1⟩
  subst w1
  by_cases hb : bor x0 y 0 = 0
  · have hb' : (bor x0 y 0 == 0) = true := by simp [hb]
    rw [hb] at hfirst
    have hfin : Hid (SubW X ([subd x0 y 0] ++ X.drop 1) y 0 n) := by
      have h1 := hfirst.stop0 dX (by rw [lx.out]; omega)
      rw [lx.out] at h1
      exact h1
    have Hb : Hid (bor x0 y 0 = 0) := hb
    clear hb hfirst
    go_wp2
    have hRX1 := hRX.kept hK1 hgx
    have hx1 := (hx.kept hRX.lt hK1 hgx).drop 1
    have hl1 : Hid ((X.drop 1).length = n - 1) := by rw [Hid, List.length_drop, lx.out]
    generalize hW1 : w.setCell ⟨g, o, none⟩ (.int .u64 (subd x0 y 0)) = W1 at *
    clear hW1
    have hne : ∀ q, (binOp .neq 59 (.pointer (some ⟨g, o, none⟩)) (.pointer (some ⟨gx, ox, none⟩))).run Yba.prog (W1.drewN q) = .ok (.bool true) (W1.drewN q) := fun q => neq59_other (w := W1.drewN q) (Ne.symm hgx) hr1 hRX1
    go_quiet (fail)
    clear hne
    have hr2 : Row (W1.drewN nq) g (splice R o [subd x0 y 0]) := hr1
    have hx2 : At (W1.drewN nq) gx (ox + 1) (X.drop 1) := hx1
    have hK2 := hK1.drewN nq
    generalize W1.drewN nq = W2 at *
    have i1 : (1 : Int) ≤ (n : Int) := by omega
    have i2 : (n : Int) ≤ (cz : Int) := by omega
    have i3 : (n : Int) ≤ (cx : Int) := by omega
    have i4 : cz ≠ 1 := by omega
    have i5 : cx ≠ 1 := by omega
    have HN : Hid ((X.drop 1).length = Nat.min (n - 1) (n - 1)) := by rw [Hid, hl1.out]; simp
    have HFt : Hid (o + 1 + (X.drop 1).length ≤ (splice R o [subd x0 y 0]).length) := by
      rw [Hid, length_splice _ _ _ (by simp; omega), hl1.out]; omega
    go_wp2
    go_region_law ((refine step_cp rfl (.tmp 40) (.tmp 42) 29 rfl Yba.underlying29 (some ⟨g, o + 1, none⟩) (some ⟨gx, ox + 1, none⟩) (n - 1) (cz - 1) (n - 1) (cx - 1) (by simp [Act.eval, Act.put]) (by simp [Act.eval, Act.put]) g (o + 1) _ (X.drop 1) hr2 HN.out (fun _ => ⟨rfl, gx, ox + 1, rfl, hx2⟩) HFt.out ?_; intro W3 hr3 hK3))
    go_wp2
    go_ret
    refine ⟨_, 0, rfl, hfin.out, ?_, hK2.drew.trans hK3⟩
    have e := splice_splice R [subd x0 y 0] (X.drop 1) o (by rw [hl1.out]; simp; omega)
    rw [← e]; exact hr3
  · have hb' : (bor x0 y 0 == 0) = false := by simp [hb]
    have hb1 : bor x0 y 0 = 1 := by omega
    rw [hb1] at hfirst
    have Hf : Hid (SubW X [subd x0 y 0] y 1 1) := hfirst
    clear hb hfirst hb1
    go_wp2
    generalize hW1 : w.setCell ⟨g, o, none⟩ (.int .u64 (subd x0 y 0)) = W1 at *
    clear hW1
    go_loopw [9] (fun i wr => ∃ (k : Nat) (D : List Int), 1 ≤ k ∧ k ≤ n ∧ i = .int .i64 k ∧ SubW X D y 1 k ∧ Row wr g (splice R o D) ∧ Keeps (· = g) w wr) (fun i _ => n - (intOf i).toNat)
    case atStart => exact ⟨1, [subd x0 y 0], Nat.le_refl _, h0, rfl, Hf.out, hr1, hK1⟩
    case round =>
      obtain ⟨k, D, hk1, hk, rfl, hI, hr, hK⟩ := hrel
      have hD : D.length = k := hI.1
      by_cases hlt : k < n
      · have hkx : k < X.length := by rw [lx.out]; exact hlt
        have hlen : (splice R o D).length = R.length := by rw [length_splice _ _ _ (by omega)]
        have hxr := hx.kept hRX.lt hK hgx
        have hRXr := hRX.kept hK hgx
        have cx' := hxr k hkx
        have zx' := hr.cell (o + k) (by omega)
        have fz := hr.frozen (o + k)
        have bx := dX.getD k
        have hI0 : (0 : Int) ≤ (k : Int) := by omega
        have hI1 : (k : Int) < (n : Int) := by omega
        have hrow : ∀ d, Row (wr.setCell ⟨g, o + k, none⟩ (.int .u64 d)) g (splice R o (D ++ [d])) := by
          intro d
          have := hr.setCell (o + k) d
          rw [← hD] at this
          rw [splice_set R D o d (by omega)] at this
          rw [← hD]; exact this
        generalize (splice R o D).getD (o + k) 0 = zz at *
        by_cases hx0 : X.getD k 0 = 0
        · have hz' : (X.getD k 0 != 0) = false := by rw [hx0]; rfl
          have Hst : Hid (SubW X (D ++ [18446744073709551615]) y 1 (k + 1)) := hI.zero hkx hx0
          clear hx0 hI
          generalize X.getD k 0 = x at *
          go_wp2
          go_roundw
          case rel => exact ⟨k + 1, D ++ [18446744073709551615], by omega, by omega, by go_num, Hst.out, hrow _, hK.setCell (p := ⟨g, o + k, none⟩) _ (fun _ => rfl)⟩
          case measure => simp [intOf]; omega
        · have hz' : (X.getD k 0 != 0) = true := bne_iff_ne.2 hx0
          have hp : 0 < X.getD k 0 := by omega
          have hst := hI.stop dX hkx hx0
          rw [lx.out] at hst
          have hfin : Hid (SubW X (D ++ [X.getD k 0 - 1] ++ X.drop (k + 1)) y 0 n) := hst
          clear hst hx0 hI
          generalize X.getD k 0 = x at *
          have hr1' := hrow (x - 1)
          have hKs : Keeps (· = g) wr (wr.setCell ⟨g, o + k, none⟩ (.int .u64 (x - 1))) := (Keeps.refl _ wr).setCell _ (fun _ => rfl)
          have hK1' := hK.trans hKs
          have hRX1 := hRXr.kept hKs hgx
          have hx1 := (hxr.kept hRXr.lt hKs hgx).drop (k + 1)
          have hl1 : Hid ((X.drop (k + 1)).length = n - (k + 1)) := by rw [Hid, List.length_drop, lx.out]
          clear hrow hKs
          go_wp2
          generalize hW2 : wr.setCell ⟨g, o + k, none⟩ (.int .u64 (x - 1)) = W2 at *
          clear hW2
          have hne : ∀ q, (binOp .neq 59 (.pointer (some ⟨g, o, none⟩)) (.pointer (some ⟨gx, ox, none⟩))).run Yba.prog (W2.drewN q) = .ok (.bool true) (W2.drewN q) := fun q => neq59_other (w := W2.drewN q) (Ne.symm hgx) hr1' hRX1
          go_quiet (fail)
          clear hne
          have hr2 : Row (W2.drewN nq) g (splice R o (D ++ [x - 1])) := hr1'
          have hx2 : At (W2.drewN nq) gx (ox + (k + 1)) (X.drop (k + 1)) := hx1
          have hK2 := hK1'.drewN nq
          generalize W2.drewN nq = W3 at *
          have i1 : (k : Int) + 1 ≤ (n : Int) := by omega
          have i0 : (0 : Int) ≤ (k : Int) + 1 := by omega
          have iw : IntKind.i64.wrap ((k : Int) + 1) = (k : Int) + 1 := by rw [IntKind.wrap_i64]; omega
          have it : ((k : Int) + 1).toNat = k + 1 := by omega
          have i2 : (n : Int) ≤ (cz : Int) := by omega
          have i3 : (n : Int) ≤ (cx : Int) := by omega
          have i4 : cz ≠ k + 1 := by omega
          have i5 : cx ≠ k + 1 := by omega
          have HN : Hid ((X.drop (k + 1)).length = Nat.min (n - (k + 1)) (n - (k + 1))) := by rw [Hid, hl1.out]; simp
          have HFt : Hid (o + (k + 1) + (X.drop (k + 1)).length ≤ (splice R o (D ++ [x - 1])).length) := by
            rw [Hid, length_splice _ _ _ (by simp; omega), hl1.out]; omega
          go_wp2
          go_region_law ((refine step_cp rfl (.tmp 69) (.tmp 73) 29 rfl Yba.underlying29 (some ⟨g, o + (k + 1), none⟩) (some ⟨gx, ox + (k + 1), none⟩) (n - (k + 1)) (cz - (k + 1)) (n - (k + 1)) (cx - (k + 1)) (by simp [Act.eval, Act.put]) (by simp [Act.eval, Act.put]) g (o + (k + 1)) _ (X.drop (k + 1)) hr2 HN.out (fun _ => ⟨rfl, gx, ox + (k + 1), rfl, hx2⟩) HFt.out ?_; intro W4 hr3 hK3))
          go_wp2
          go_ret
          refine ⟨_, 0, rfl, hfin.out, ?_, hK2.drew.trans hK3⟩
          have hDl : (D ++ [x - 1]).length = k + 1 := by simp [hD]
          have e := splice_splice R (D ++ [x - 1]) (X.drop (k + 1)) o (by rw [hl1.out, hDl]; omega)
          rw [hDl] at e
          rw [← e]; exact hr3
      · have : k = n := by omega
        subst this
        go_wp2
        go_ret
        exact ⟨D, 1, rfl, hI, hr, hK⟩

end Go.Proofs.Ybulkbfsq
