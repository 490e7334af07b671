/-
  math/big.nat.add (23): x and 1.
-/
import Derived.Test.YbulkbfsqAVW
import Derived.Test.YbulkbfsqSubN
namespace Go.Proofs.Ybulkbfsq
open Go.ChangeShapes Go.WideShapes Go.ChangeAt Go.RowKit

theorem addVW_at (g o cz gx ox cx n : Nat) (y : Int) (R RX X : List Int) (w : World) (hz : Row w g R) (hzn : o + n ≤ R.length) (lx : X.length = n) (hRX : Row w gx RX) (hxn : ox + n ≤ RX.length) (hX : (RX.drop ox).take n = X)
    (ha : (gx = g ∧ ox = o) ∨ (gx ≠ g ∧ n < cz ∧ n < cx)) (dX : Dig X) (hy : 0 ≤ y ∧ y < 18446744073709551616) (h0 : 0 < n) (hn : n ≤ 100000) :
    Calls Yba.prog 35 #[.slice (some ⟨g, o, none⟩) n cz, .slice (some ⟨gx, ox, none⟩) n cx, .int .u64 y] w fun e w' =>
      ∃ D c, e = .returned (.int .u64 c) ∧ AddW X D y c n ∧ Row w' g (splice R o D) ∧ Keeps (· = g) w w' := by
  rcases ha with ⟨rfl, rfl⟩ | ⟨h, h1, h2⟩
  · have e : R = RX := hz.inj hRX
    subst e
    exact addVW_in gx ox cz cx n y R X w hz hzn lx hX dX hy h0 hn
  · have hx := hRX.at_ ox n hxn
    rw [hX] at hx
    exact addVW_out g o cz gx ox cx n y R RX X w hz hzn lx hRX hx h dX hy h0 hn h1 h2

/-- The parts of 'x + 1', joined. -/
theorem add_fin {X D E : List Int} {c c' : Int} {m : Nat} (hX : X.length = m) (hm : 1 ≤ m) (h1 : AddIs (X.take 1) [1] D c 1) (h2 : AddW (X.drop 1) E c c' (m - 1)) :
    dval (D ++ E ++ [c']) = dval X + 1 := by
  obtain ⟨a1, a2, a3, a4⟩ := h1
  obtain ⟨b1, b2, b3, b4⟩ := h2
  have ln : (X.take 1).length = 1 := by simp; omega
  rw [List.take_of_length_le (by omega), show ([(1 : Int)].take 1) = [1] from rfl] at a4
  rw [List.take_of_length_le (by simp; omega)] at b4
  have ex : dval X = dval (X.take 1) + bp 1 * dval (X.drop 1) := by
    conv => lhs; rw [← List.take_append_drop 1 X, dval_append, ln]
  have ed : dval (D ++ E ++ [c']) = dval D + bp 1 * dval E + bp m * c' := by
    rw [dval_snoc, dval_append, List.length_append, a1, b1, Nat.add_sub_of_le hm]
  have e1 : bp 1 * (dval E + c' * bp (m - 1)) = bp 1 * (dval (X.drop 1) + c) := by rw [b4]
  rw [Int.mul_add, Int.mul_add, Int.mul_left_comm, ← bp_add, Nat.add_sub_of_le hm] at e1
  have e2 : bp 1 * c = c * bp 1 := Int.mul_comm _ _
  have e3 : c' * bp m = bp m * c' := Int.mul_comm _ _
  have e4 : dval [1] = 1 := by decide
  omega
theorem add_fin0 {X D : List Int} {c : Int} (hX : X.length = 1) (h1 : AddIs (X.take 1) [1] D c 1) : dval (D ++ [c]) = dval X + 1 := by
  obtain ⟨a1, a2, a3, a4⟩ := h1
  rw [List.take_of_length_le (by simp; omega), List.take_of_length_le (by omega), show ([(1 : Int)].take 1) = [1] from rfl] at a4
  have e4 : dval [1] = 1 := by decide
  rw [dval_snoc, a1]
  have e2 : bp 1 * c = c * bp 1 := Int.mul_comm _ _
  omega

theorem dig_one : Dig [1] := fun d hd => by simp at hd; subst hd; exact ⟨by decide, by decide⟩

set_option maxHeartbeats 1600000 in
theorem nat_add_go (az : Option Addr) (lz c0 gz cz gx cx m gy cy : Nat) (RZ RX X : List Int) (w W1 : World)
    (HM : Calls Yba.prog 31 #[.slice az lz c0, .int .i64 ((m : Int) + 1)] w fun e w1 => e = .returned (.slice (some ⟨gz, 0, none⟩) (m + 1) cz) ∧ w1 = W1)
    (hZ : Row W1 gz RZ) (hcz : Hid (RZ.length = cz)) (hmz : m + 1 ≤ cz) (hX : Row W1 gx RX) (hcx : Hid (RX.length = cx)) (hmx : m ≤ cx) (hXt : Hid (RX.take m = X))
    (hY : At W1 gy 0 [1]) (hcy : 1 ≤ cy) (hgy : gy ≠ gz)
    (ha : Hid (gx = gz ∨ (gx ≠ gz ∧ (1 < m → m < cx)))) (dZ : Dig RZ) (dX : Dig RX) (h0 : 0 < m) (hb : m ≤ 2000) (hbz : cz ≤ 2000) :
    Calls Yba.prog 23 #[.slice az lz c0, .slice (some ⟨gx, 0, none⟩) m cx, .slice (some ⟨gy, 0, none⟩) 1 cy] w fun e w' =>
      ∃ k R', e = .returned (.slice (some ⟨gz, 0, none⟩) k cz) ∧ Row w' gz R' ∧ R'.length = cz ∧ Dig R' ∧ k ≤ m + 1 ∧ Norm (R'.take k) ∧ dval (R'.take k) = dval X + 1 ∧ Keeps (· = gz) W1 w' := by
  have t34 := twin34
  have h1 : ¬ (m : Int) < 1 := by omega
  have h2 : ((m : Int) == 0) = false := beq_eq_false_iff_ne.2 (by omega)
  have HM' : Hid (Calls Yba.prog 31 #[.slice az lz c0, .int .i64 ((m : Int) + 1)] w fun e w1 => e = .returned (.slice (some ⟨gz, 0, none⟩) (m + 1) cz) ∧ w1 = W1) := HM
  clear HM
  go_enter Yba.func23, Yba.ntmps23
  go_wp2_with fail
  refine (HM'.out).mono ?_
  rintro e w1 ⟨rfl, hw1⟩
  subst w1
  have i1 : (1 : Int) ≤ (cz : Int) := by omega
  have i2 : (1 : Int) ≤ (cx : Int) := by omega
  have i3 : (1 : Int) ≤ (cy : Int) := by omega
  have lX : Hid (X.length = m) := by rw [Hid, ← hXt.out, List.length_take, hcx.out]; omega
  have dX' : Dig X := by rw [← hXt.out]; exact dX.take m
  have eXn : Hid (RX.take 1 = X.take 1) := by rw [Hid, ← hXt.out, List.take_take, Nat.min_eq_left h0]
  have aX : At W1 gx 0 (X.take 1) := by
    have := hX.at_ 0 1 (by rw [hcx.out]; omega)
    rw [List.drop_zero, eXn.out] at this
    exact this
  have lXn : Hid ((X.take 1).length = 1) := by rw [Hid, List.length_take, lX.out]; omega
  have hz0 : 0 + 1 ≤ RZ.length := by rw [hcz.out]; omega
  go_wp2_with fail
  go_region_with (go_at_call 16; refine (addVV_at gz 0 cz gx 0 cx gy 0 cy 1 RZ (X.take 1) [1] W1.drew hZ hz0 aX hY lXn rfl (dX'.take 1) dig_one (Or.inr rfl) (Or.inl hgy) (by omega)).mono ?_; rintro e w2 ⟨D, c, rfl, hI, hr, hk⟩)
  have hk1 : Keeps (· = gz) W1 w2 := (Keeps.refl _ W1).drew.trans hk
  clear hk
  have hD : Hid (D.length = 1) := hI.1
  have dD := hI.2.1
  have bc := hI.2.2.1
  clear aX hz0
  have hlen : Hid ((splice RZ 0 D).length = cz) := by rw [Hid, length_splice _ _ _ (by rw [hcz.out, hD.out]; omega), hcz.out]
  by_cases hmn : m = 1
  · subst hmn
    have Hv : Hid (dval (D ++ [c]) = dval X + 1) := add_fin0 lX.out hI
    clear hI
    have c1 := hr.cell 1 (by rw [hlen.out]; omega)
    have f1 := hr.frozen 1
    have hr3 := hr.setCell 1 c
    have e3 := splice_set RZ D 0 c (by rw [hcz.out, hD.out]; omega)
    rw [hD.out, Nat.zero_add] at e3
    rw [e3] at hr3
    have hk3 : Keeps (· = gz) W1 (w2.setCell ⟨gz, 1, none⟩ (.int .u64 c)) := hk1.setCell _ (fun _ => rfl)
    have lF : Hid ((D ++ [c]).length = 2) := by rw [Hid, List.length_append, hD.out]; rfl
    have dF := dD.snoc (d := c) (by omega) (by omega)
    clear e3 hr hk1
    generalize (splice RZ 0 D).getD 1 0 = zz at *
    generalize D ++ [c] = F at *
    have hlen' : Hid ((splice RZ 0 F).length = cz) := by rw [Hid, length_splice _ _ _ (by rw [hcz.out, lF.out]; omega), hcz.out]
    go_wp2_with fail
    refine (norm_at gz 2 cz (splice RZ 0 F) _ hr3 (by rw [hlen'.out]; exact hmz) hmz (by omega)).mono ?_
    rintro e w3 ⟨k, hk, rfl, hv2, hnorm, hw3⟩
    subst w3
    have ht : (splice RZ 0 F).take 2 = F := by rw [← lF.out]; exact splice0_take RZ F
    go_wp2
    go_ret
    exact ⟨k, splice RZ 0 F, rfl, hr3, hlen'.out, dZ.splice dF 0, hk, hnorm, by rw [hv2, ht, Hv.out], hk3⟩
  · have hx2 : ∃ R2, Row w2 gx R2 ∧ R2.length = cx ∧ (R2.drop 1).take (m - 1) = X.drop 1 ∧ (gx = gz ∨ (gx ≠ gz ∧ m - 1 < cz - 1 ∧ m - 1 < cx - 1)) := by
      rcases ha.out with h | ⟨h, k12⟩
      · subst h
        have e := hX.inj hZ
        subst e
        refine ⟨_, hr, ?_, ?_, .inl rfl⟩
        · rw [length_splice _ _ _ (by rw [hcx.out, hD.out]; omega), hcx.out]
        · have e2 : (splice RX 0 D).drop 1 = RX.drop 1 := by
            unfold splice
            rw [List.take_zero, List.nil_append, Nat.zero_add, ← hD.out, List.drop_append, List.drop_of_length_le (Nat.le_refl _), Nat.sub_self, List.drop_zero, List.nil_append]
          rw [e2, ← hXt.out, List.drop_take]
      · exact ⟨RX, hX.kept hk1 h, hcx.out, by rw [← hXt.out, List.drop_take], .inr ⟨h, by omega, by have := k12 (by omega); omega⟩⟩
    obtain ⟨R2, q1, q2, q3, q4⟩ := hx2
    have Q4 : Hid (gx = gz ∨ (gx ≠ gz ∧ m - 1 < cz - 1 ∧ m - 1 < cx - 1)) := q4
    have Q3 : Hid ((R2.drop 1).take (m - 1) = X.drop 1) := q3
    have Q2 : Hid (R2.length = cx) := q2
    clear q2 q3 q4
    have lX2 : Hid ((X.drop 1).length = m - 1) := by rw [Hid, List.length_drop, lX.out]
    have j1 : (1 : Int) ≤ (m : Int) := by omega
    have j2 : cz ≠ 1 := by omega
    have j3 : cx ≠ 1 := by omega
    have j4 : (1 : Int) < (m : Int) := by omega
    have j5 : (m : Int) ≤ (cz : Int) := by omega
    have z1 : 1 + (m - 1) ≤ (splice RZ 0 D).length := by rw [hlen.out]; omega
    have z2 : 1 + (m - 1) ≤ R2.length := by rw [Q2.out]; omega
    go_wp2_with fail
    go_region_with (go_at_call 35; refine (addVW_at gz 1 (cz - 1) gx 1 (cx - 1) (m - 1) c (splice RZ 0 D) R2 (X.drop 1) w2.drew hr z1 lX2.out q1 z2 Q3.out (Q4.out.elim (fun h => .inl ⟨h, rfl⟩) .inr) (dX'.drop 1) ⟨bc.1, by omega⟩ (by omega) (by omega)).mono ?_; rintro e w3 ⟨E, c', rfl, hJ, hr3, hk3⟩)
    have hk3' : Keeps (· = gz) W1 w3 := hk1.drew.trans hk3
    have Hv : Hid (dval (D ++ E ++ [c']) = dval X + 1) := add_fin lX.out (by omega) hI hJ
    have hE : Hid (E.length = m - 1) := hJ.1
    have dE := hJ.2.1
    have bc' := hJ.2.2.1
    clear hI hJ hk3 hk1 hr q1 z1 z2
    have e4 : splice (splice RZ 0 D) 1 E = splice RZ 0 (D ++ E) := by
      have := splice_splice RZ D E 0 (by rw [hcz.out, hD.out, hE.out]; omega)
      rw [Nat.zero_add, hD.out] at this
      exact this
    rw [e4] at hr3
    have lDE : Hid ((D ++ E).length = m) := by rw [Hid, List.length_append, hD.out, hE.out]; omega
    have dDE := dD.append dE
    clear e4 hlen hD hE dD dE
    generalize D ++ E = F at *
    have hlen : Hid ((splice RZ 0 F).length = cz) := by rw [Hid, length_splice _ _ _ (by rw [hcz.out, lDE.out]; omega), hcz.out]
    have c1 := hr3.cell m (by rw [hlen.out]; omega)
    have f1 := hr3.frozen m
    have hr4 := hr3.setCell m c'
    have e5 := splice_set RZ F 0 c' (by rw [hcz.out, lDE.out]; omega)
    rw [lDE.out, Nat.zero_add] at e5
    rw [e5] at hr4
    have hk4 : Keeps (· = gz) W1 (w3.setCell ⟨gz, m, none⟩ (.int .u64 c')) := hk3'.setCell _ (fun _ => rfl)
    have lF : Hid ((F ++ [c']).length = m + 1) := by rw [Hid, List.length_append, lDE.out]; rfl
    have dF := dDE.snoc (d := c') (by omega) (by omega)
    have j6 : (m : Int) < (m : Int) + 1 := by omega
    clear e5 hr3 hk3'
    generalize (splice RZ 0 F).getD m 0 = zz at *
    generalize F ++ [c'] = G at *
    have hlen' : Hid ((splice RZ 0 G).length = cz) := by rw [Hid, length_splice _ _ _ (by rw [hcz.out, lF.out]; omega), hcz.out]
    go_wp2_with fail
    refine (norm_at gz (m + 1) cz (splice RZ 0 G) _ hr4 (by rw [hlen'.out]; exact hmz) hmz (by omega)).mono ?_
    rintro e w4 ⟨k, hk, rfl, hv2, hnorm, hw4⟩
    subst w4
    have ht : (splice RZ 0 G).take (m + 1) = G := by rw [← lF.out]; exact splice0_take RZ G
    go_wp2
    go_ret
    exact ⟨k, splice RZ 0 G, rfl, hr4, hlen'.out, dZ.splice dF 0, hk, hnorm, by rw [hv2, ht, Hv.out], hk4⟩

end Go.Proofs.Ybulkbfsq
