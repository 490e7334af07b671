/-
  math/big.nat.sub (25).
-/
import Derived.Test.YbulkbfsqCmp
import Derived.Test.YbulkbfsqVWo
import Derived.Deep.RegionWith
namespace Go.Proofs.Ybulkbfsq
open Go.ChangeShapes Go.WideShapes Go.ChangeAt Go.RowKit

theorem map_inj : ∀ A B : List Int, A.map (Value.int .u64) = B.map (Value.int .u64) → A = B
  | [], [], _ => rfl
  | [], _ :: _, h => by simp at h
  | _ :: _, [], h => by simp at h
  | a :: A, b :: B, h => by
    simp only [List.map_cons, List.cons.injEq, Value.int.injEq, true_and] at h
    rw [h.1, map_inj A B h.2]
theorem Row.inj {w : World} {g : Nat} {A B : List Int} (h : Row w g A) (k : Row w g B) : A = B := by
  have := h.symm.trans k
  simp only [Option.some.injEq, Obj.cells.injEq, and_true] at this
  exact map_inj A B (congrArg Array.toList this)

/-- subVW, in place or apart. -/
theorem subVW_at (g o cz gx ox cx n : Nat) (y : Int) (R RX X : List Int) (w : World) (hz : Row w g R) (hzn : o + n ≤ R.length) (lx : X.length = n) (hRX : Row w gx RX) (hxn : ox + n ≤ RX.length) (hX : (RX.drop ox).take n = X)
    (ha : (gx = g ∧ ox = o) ∨ (gx ≠ g ∧ n < cz ∧ n < cx)) (dX : Dig X) (hy : 0 ≤ y ∧ y < 18446744073709551616) (h0 : 0 < n) (hn : n ≤ 100000) :
    Calls Yba.prog 38 #[.slice (some ⟨g, o, none⟩) n cz, .slice (some ⟨gx, ox, none⟩) n cx, .int .u64 y] w fun e w' =>
      ∃ D c, e = .returned (.int .u64 c) ∧ SubW X D y c n ∧ Row w' g (splice R o D) ∧ Keeps (· = g) w w' := by
  rcases ha with ⟨rfl, rfl⟩ | ⟨h, h1, h2⟩
  · have e : R = RX := hz.inj hRX
    subst e
    exact subVW_in gx ox cz cx n y R X w hz hzn lx hX dX hy h0 hn
  · have hx := hRX.at_ ox n hxn
    rw [hX] at hx
    exact subVW_out g o cz gx ox cx n y R RX X w hz hzn lx hRX hx h dX hy h0 hn h1 h2

/-- The two parts of a subtraction, joined. -/
theorem sub_fin {X Y D E : List Int} {c c' : Int} {n m : Nat} (hX : X.length = m) (hY : Y.length = n) (hnm : n ≤ m) (h1 : SubIs (X.take n) Y D c n) (h2 : SubW (X.drop n) E c c' (m - n)) (hle : dval Y ≤ dval X) :
    c' = 0 ∧ dval (D ++ E) = dval X - dval Y := by
  obtain ⟨a1, a2, a3, a4⟩ := h1
  obtain ⟨b1, b2, b3, b4⟩ := h2
  have ln : (X.take n).length = n := by simp; omega
  rw [List.take_of_length_le (by omega), List.take_of_length_le (l := Y) (by omega)] at a4
  rw [List.take_of_length_le (by simp; omega)] at b4
  have ex : dval X = dval (X.take n) + bp n * dval (X.drop n) := by
    conv => lhs; rw [← List.take_append_drop n X, dval_append, ln]
  have ed : dval (D ++ E) = dval D + bp n * dval E := by rw [dval_append, a1]
  have e1 : bp n * dval E = bp n * dval (X.drop n) - c * bp n + c' * (bp n * bp (m - n)) := by
    rw [b4, Int.mul_add, Int.mul_sub, Int.mul_comm (bp n) c, Int.mul_left_comm]
  have ee : bp n * bp (m - n) = bp m := by rw [← bp_add, Nat.add_sub_of_le hnm]
  rw [ee] at e1
  have hlt := dval_lt (a2.append b2)
  rw [List.length_append, a1, b1, Nat.add_sub_of_le hnm] at hlt
  have hbm := bp_pos m
  have : c' = 0 ∨ c' = 1 := by omega
  rcases this with rfl | rfl
  · exact ⟨rfl, by omega⟩
  · exfalso; omega
/-- A subtraction of one length. -/
theorem sub_fin0 {X Y D : List Int} {c : Int} {n : Nat} (hX : X.length = n) (hY : Y.length = n) (h1 : SubIs X Y D c n) (hle : dval Y ≤ dval X) : c = 0 ∧ dval D = dval X - dval Y := by
  obtain ⟨a1, a2, a3, a4⟩ := h1
  rw [List.take_of_length_le (by omega), List.take_of_length_le (l := Y) (by omega)] at a4
  have hlt := dval_lt a2
  rw [a1] at hlt
  have hbm := bp_pos n
  have : c = 0 ∨ c = 1 := by omega
  rcases this with rfl | rfl
  · exact ⟨rfl, by omega⟩
  · exfalso; omega

theorem splice0_take (R D : List Int) : (splice R 0 D).take D.length = D := by
  have := splice_take R D 0 (Nat.zero_le _)
  simpa using this

set_option maxHeartbeats 1600000 in
theorem nat_sub_go (az : Option Addr) (lz c0 gz cz gx cx m gy cy n : Nat) (RZ RX RY X Y : List Int) (w W1 : World)
    (HM : Calls Yba.prog 31 #[.slice az lz c0, .int .i64 (m : Int)] w fun e w1 => e = .returned (.slice (some ⟨gz, 0, none⟩) m cz) ∧ w1 = W1)
    (hZ : Row W1 gz RZ) (hcz : Hid (RZ.length = cz)) (hmz : m ≤ cz) (hX : Row W1 gx RX) (hcx : Hid (RX.length = cx)) (hmx : m ≤ cx) (hXt : Hid (RX.take m = X))
    (hY : Row W1 gy RY) (hcy : Hid (RY.length = cy)) (hny : n ≤ cy) (hYt : Hid (RY.take n = Y)) (hgy : gy ≠ gz)
    (ha : Hid (gx = gz ∨ (gx ≠ gz ∧ (n < m → m < cz ∧ m < cx)))) (dZ : Dig RZ) (dX : Dig RX) (dY : Dig RY) (h0 : 0 < n) (hnm : n ≤ m) (hle : Hid (dval Y ≤ dval X)) (hb : m ≤ 2000) (hbz : cz ≤ 2000) :
    Calls Yba.prog 25 #[.slice az lz c0, .slice (some ⟨gx, 0, none⟩) m cx, .slice (some ⟨gy, 0, none⟩) n cy] w fun e w' =>
      ∃ k R', e = .returned (.slice (some ⟨gz, 0, none⟩) k cz) ∧ Row w' gz R' ∧ R'.length = cz ∧ Dig R' ∧ k ≤ m ∧ Norm (R'.take k) ∧ dval (R'.take k) = dval X - dval Y ∧ Keeps (· = gz) W1 w' := by
  have t37 := twin37
  have h1 : ¬ (m : Int) < (n : Int) := by omega
  have h2 : ((m : Int) == 0) = false := beq_eq_false_iff_ne.2 (by omega)
  have h3 : ((n : Int) == 0) = false := beq_eq_false_iff_ne.2 (by omega)
  have HM' : Hid (Calls Yba.prog 31 #[.slice az lz c0, .int .i64 (m : Int)] w fun e w1 => e = .returned (.slice (some ⟨gz, 0, none⟩) m cz) ∧ w1 = W1) := HM
  clear HM
  go_enter Yba.func25, Yba.ntmps25
  go_wp2_with fail
  refine (HM'.out).mono ?_
  rintro e w1 ⟨rfl, hw1⟩
  subst w1
  have i0 : (0 : Int) ≤ (n : Int) := by omega
  have i1 : (n : Int) ≤ (cz : Int) := by omega
  have i2 : (n : Int) ≤ (cx : Int) := by omega
  have i3 : (n : Int) ≤ (cy : Int) := by omega
  have lX : Hid (X.length = m) := by rw [Hid, ← hXt.out, List.length_take, hcx.out]; omega
  have lY : Hid (Y.length = n) := by rw [Hid, ← hYt.out, List.length_take, hcy.out]; omega
  have dX' : Dig X := by rw [← hXt.out]; exact dX.take m
  have dY' : Dig Y := by rw [← hYt.out]; exact dY.take n
  have eXn : Hid (RX.take n = X.take n) := by rw [Hid, ← hXt.out, List.take_take, Nat.min_eq_left hnm]
  have aX : At W1 gx 0 (X.take n) := by
    have := hX.at_ 0 n (by rw [hcx.out]; omega)
    rw [List.drop_zero, eXn.out] at this
    exact this
  have aY : At W1 gy 0 Y := by
    have := hY.at_ 0 n (by rw [hcy.out]; omega)
    rw [List.drop_zero, hYt.out] at this
    exact this
  have lXn : Hid ((X.take n).length = n) := by rw [Hid, List.length_take, lX.out]; omega
  have hz0 : 0 + n ≤ RZ.length := by rw [hcz.out]; omega
  go_wp2_with fail
  go_region_with (go_at_call 17; refine (subVV_at gz 0 cz gx 0 cx gy 0 cy n RZ (X.take n) Y W1.drew hZ hz0 aX aY lXn lY (dX'.take n) dY' (Or.inr rfl) (Or.inl hgy) (by omega)).mono ?_; rintro e w2 ⟨D, c, rfl, hI, hr, hk⟩)
  have hk1 : Keeps (· = gz) W1 w2 := (Keeps.refl _ W1).drew.trans hk
  clear hk
  have hD : Hid (D.length = n) := hI.1
  have dD := hI.2.1
  have bc := hI.2.2.1
  clear aX aY hz0
  by_cases hmn : m = n
  · subst hmn
    have hX' : X.take m = X := List.take_of_length_le (by rw [lX.out]; exact Nat.le_refl _)
    rw [hX'] at hI
    obtain ⟨hc0, hv⟩ := sub_fin0 lX.out lY.out hI hle.out
    subst hc0
    have Hv : Hid (dval D = dval X - dval Y) := hv
    clear hv hI hX'
    have hlen : Hid ((splice RZ 0 D).length = cz) := by rw [Hid, length_splice _ _ _ (by rw [hcz.out, hD.out]; omega), hcz.out]
    go_wp2_with fail
    refine (norm_at gz m cz (splice RZ 0 D) _ hr (by rw [hlen.out]; exact hmz) hmz (by omega)).mono ?_
    rintro e w3 ⟨k, hk, rfl, hv2, hnorm, hw3⟩
    subst w3
    have ht : (splice RZ 0 D).take m = D := by rw [← hD.out]; exact splice0_take RZ D
    go_wp2
    go_ret
    exact ⟨k, splice RZ 0 D, rfl, hr, hlen.out, dZ.splice dD 0, hk, hnorm, by rw [hv2, ht, Hv.out], hk1⟩
  · have hx2 : ∃ R2, Row w2 gx R2 ∧ R2.length = cx ∧ (R2.drop n).take (m - n) = X.drop n ∧ (gx = gz ∨ (gx ≠ gz ∧ m - n < cz - n ∧ m - n < cx - n)) := by
      rcases ha.out with h | ⟨h, k12⟩
      · subst h
        have e := hX.inj hZ
        subst e
        refine ⟨_, hr, ?_, ?_, .inl rfl⟩
        · rw [length_splice _ _ _ (by rw [hcx.out, hD.out]; omega), hcx.out]
        · have e2 : (splice RX 0 D).drop n = RX.drop n := by
            unfold splice
            rw [List.take_zero, List.nil_append, Nat.zero_add, ← hD.out, List.drop_append, List.drop_of_length_le (Nat.le_refl _), Nat.sub_self, List.drop_zero, List.nil_append]
          rw [e2, ← hXt.out, List.drop_take]
      · exact ⟨RX, hX.kept hk1 h, hcx.out, by rw [← hXt.out, List.drop_take], .inr ⟨h, by have := k12 (by omega); omega, by have := k12 (by omega); omega⟩⟩
    obtain ⟨R2, q1, q2, q3, q4⟩ := hx2
    have Q4 : Hid (gx = gz ∨ (gx ≠ gz ∧ m - n < cz - n ∧ m - n < cx - n)) := q4
    have Q3 : Hid ((R2.drop n).take (m - n) = X.drop n) := q3
    have Q2 : Hid (R2.length = cx) := q2
    clear q2 q3 q4
    have hlen : Hid ((splice RZ 0 D).length = cz) := by rw [Hid, length_splice _ _ _ (by rw [hcz.out, hD.out]; omega), hcz.out]
    have lX2 : Hid ((X.drop n).length = m - n) := by rw [Hid, List.length_drop, lX.out]
    have j1 : (n : Int) ≤ (m : Int) := by omega
    have j2 : cz ≠ n := by omega
    have j3 : cx ≠ n := by omega
    have j4 : (n : Int) < (m : Int) := by omega
    have z1 : n + (m - n) ≤ (splice RZ 0 D).length := by rw [hlen.out]; omega
    have z2 : n + (m - n) ≤ R2.length := by rw [Q2.out]; omega
    go_wp2_with fail
    go_region_with (go_at_call 38; refine (subVW_at gz n (cz - n) gx n (cx - n) (m - n) c (splice RZ 0 D) R2 (X.drop n) w2.drew hr z1 lX2.out q1 z2 Q3.out (Q4.out.elim (fun h => .inl ⟨h, rfl⟩) .inr) (dX'.drop n) ⟨bc.1, by omega⟩ (by omega) (by omega)).mono ?_; rintro e w3 ⟨E, c', rfl, hJ, hr3, hk3⟩)
    have hk3' : Keeps (· = gz) W1 w3 := hk1.drew.trans hk3
    obtain ⟨hc0, hv⟩ := sub_fin lX.out lY.out hnm hI hJ hle.out
    have Hv : Hid (dval (D ++ E) = dval X - dval Y) := hv
    have hE : Hid (E.length = m - n) := hJ.1
    have dE := hJ.2.1
    clear hv hI hJ hk3 hk1 hr q1 z1 z2
    subst hc0
    have e4 : splice (splice RZ 0 D) n E = splice RZ 0 (D ++ E) := by
      have := splice_splice RZ D E 0 (by rw [hcz.out, hD.out, hE.out]; omega)
      rw [Nat.zero_add, hD.out] at this
      exact this
    rw [e4] at hr3
    have lDE : Hid ((D ++ E).length = m) := by rw [Hid, List.length_append, hD.out, hE.out]; omega
    have dDE := dD.append dE
    clear e4 hlen hD hE dD dE
    generalize D ++ E = F at *
    have hlen : Hid ((splice RZ 0 F).length = cz) := by rw [Hid, length_splice _ _ _ (by rw [hcz.out, lDE.out]; omega), hcz.out]
    go_wp2_with fail
    refine (norm_at gz m cz (splice RZ 0 F) _ hr3 (by rw [hlen.out]; exact hmz) hmz (by omega)).mono ?_
    rintro e w4 ⟨k, hk, rfl, hv2, hnorm, hw4⟩
    subst w4
    have ht : (splice RZ 0 F).take m = F := by rw [← lDE.out]; exact splice0_take RZ F
    go_wp2
    go_ret
    exact ⟨k, splice RZ 0 F, rfl, hr3, hlen.out, dZ.splice dDE 0, hk, hnorm, by rw [hv2, ht, Hv.out], hk3'⟩

end Go.Proofs.Ybulkbfsq
