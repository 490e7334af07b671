/-
  Sign (13), Uint64 (14), low64 (27); bits.Len64, Len (46, 40); nat.bitLen, Int.BitLen (26, 11).
-/
import Derived.Test.YbulkbfsqPhi
import Derived.Test.YbulkbfsqLen
import Derived.Laws.Bits64b
namespace Go.Proofs.Ybulkbfsq
open Go.ChangeShapes Go.WideShapes Go.ChangeAt Go.RowKit

set_option maxHeartbeats 400000 in
theorem sign_zero (p c : Nat) (a : Option Addr) (w : World) (hp : IntBlk w p (.slice a 0 c)) : Calls Yba.prog 13 #[.pointer (some ⟨p, 0, none⟩)] w fun e w' => e = .returned (.int .i64 0) ∧ w' = w := by
  have c1 := hp.cell1
  go_enter Yba.func13, Yba.ntmps13
  go_wp2
  go_ret
  exact ⟨rfl, rfl⟩
set_option maxHeartbeats 400000 in
theorem sign_pos (p n c : Nat) (a : Option Addr) (w : World) (hp : IntBlk w p (.slice a n c)) (h0 : 0 < n) : Calls Yba.prog 13 #[.pointer (some ⟨p, 0, none⟩)] w fun e w' => e = .returned (.int .i64 1) ∧ w' = w := by
  have c0 := hp.cell0
  have c1 := hp.cell1
  have h1 : ((n : Int) == 0) = false := beq_eq_false_iff_ne.2 (by omega)
  go_enter Yba.func13, Yba.ntmps13
  go_wp2
  go_ret
  exact ⟨rfl, rfl⟩

set_option maxHeartbeats 400000 in
theorem low64_zero (c : Nat) (a : Option Addr) (w : World) : Calls Yba.prog 27 #[.slice a 0 c] w fun e w' => e = .returned (.int .u64 0) ∧ w' = w := by
  go_enter Yba.func27, Yba.ntmps27
  go_wp2
  go_ret
  exact ⟨rfl, rfl⟩
set_option maxHeartbeats 400000 in
theorem low64_pos (g n c : Nat) (x : Int) (w : World) (hx : w.cell? ⟨g, 0, none⟩ = some (.int .u64 x)) (h0 : 0 < n) : Calls Yba.prog 27 #[.slice (some ⟨g, 0, none⟩) n c] w fun e w' => e = .returned (.int .u64 x) ∧ w' = w := by
  have h1 : ((n : Int) == 0) = false := beq_eq_false_iff_ne.2 (by omega)
  have h2 : (0 : Int) < (n : Int) := by omega
  go_enter Yba.func27, Yba.ntmps27
  go_wp2
  go_ret
  exact ⟨rfl, rfl⟩

theorem norm_one {X : List Int} (dX : Dig X) (nX : Norm X) (hv : dval X < 18446744073709551616) : X = [] ∨ X = [dval X] := by
  match X with
  | [] => exact .inl rfl
  | [d] => right; simp [dval]
  | d :: e :: r =>
    have := norm_ge dX nX (r.length + 1) (by simp)
    have h1 := bp_mono (show 1 ≤ r.length + 1 by omega)
    have : bp 1 = 18446744073709551616 := by decide
    omega

/-- The lowest 64 bits of a number that has no more. -/
theorem low64_at (a : Option Addr) (n c : Nat) (X : List Int) (w : World) (hx : NatAt w a n c X) (hv : dval X < 18446744073709551616) : Calls Yba.prog 27 #[.slice a n c] w fun e w' => e = .returned (.int .u64 (dval X)) ∧ w' = w := by
  rcases norm_one hx.dig hx.norm hv with h | h
  · have h0 : n = 0 := by rw [← hx.len, h]; rfl
    subst h0
    rw [h]
    exact low64_zero c a w
  · have h0 : n = 1 := by rw [← hx.len, h]; rfl
    subst h0
    obtain ⟨g, rfl, hat⟩ := hx.at_ (by omega)
    have := hat 0 (by rw [h]; simp)
    rw [h] at this
    simp only [Nat.zero_add, List.getD_cons_zero] at this
    exact low64_pos g 1 c _ w this (by omega)

set_option maxHeartbeats 400000 in
theorem uint64_at (p : Nat) (a : Option Addr) (n c : Nat) (X : List Int) (w : World) (hp : IntBlk w p (.slice a n c)) (hx : NatAt w a n c X) (hv : dval X < 18446744073709551616) : Calls Yba.prog 14 #[.pointer (some ⟨p, 0, none⟩)] w fun e w' => e = .returned (.int .u64 (dval X)) ∧ w' = w := by
  have c1 := hp.cell1
  go_enter Yba.func14, Yba.ntmps14
  go_wp2_with fail
  refine (low64_at a n c X w hx hv).mono ?_
  rintro e w' ⟨rfl, h⟩
  subst w'
  go_wp2
  go_ret
  exact ⟨rfl, rfl⟩

/-- t has just L + 1 bits. -/
def InB (t : Int) (L : Nat) : Prop := L ≤ 63 ∧ 0 ≤ t ∧ 2 ^ L ≤ t.toNat ∧ t.toNat < 2 ^ (L + 1)
theorem InB.lt {t : Int} {L : Nat} (h : InB t L) : t < 18446744073709551616 := by
  obtain ⟨h1, h2, _, h4⟩ := h
  have : 2 ^ (L + 1) ≤ 2 ^ 64 := Nat.pow_le_pow_right (by decide) (by omega)
  have e : (2 : Nat) ^ 64 = 18446744073709551616 := by decide
  omega
theorem InB.smear {t : Int} {L : Nat} (h : InB t L) (k : Nat) : InB (bits .or .u64 t (t / (k : Int))) L := by
  have hlt := h.lt
  obtain ⟨h1, h2, h3, h4⟩ := h
  obtain ⟨a, rfl⟩ := Int.eq_ofNat_of_zero_le h2
  rw [Int.toNat_natCast] at h3 h4
  have hd : a / k ≤ a := Nat.div_le_self _ _
  rw [show ((a : Int) / (k : Int)) = ((a / k : Nat) : Int) from by simp, bits_or_u64_nat a (a / k) (by omega) (by omega)]
  refine ⟨h1, by omega, ?_, ?_⟩
  · rw [Int.toNat_natCast]; exact Nat.le_trans h3 Nat.left_le_or
  · rw [Int.toNat_natCast]; exact Nat.or_lt_two_pow h4 (by omega)
theorem InB.bitLen {t : Int} {L : Nat} (h : InB t L) : Lib.bitLen t.toNat = L + 1 := by
  have hlt := h.lt
  obtain ⟨h1, h2, h3, h4⟩ := h
  have u := Lib.bitLen_le t.toNat (L + 1) (by omega) h4
  have e : (2 : Nat) ^ 64 = 18446744073709551616 := by decide
  have s := Lib.bitLen_shift L t.toNat h3 (by omega)
  have hq : t.toNat / 2 ^ L ≠ 0 := by
    have := Nat.div_pos h3 (Nat.pow_pos (by decide))
    omega
  have h5 : t.toNat / 2 ^ L ≤ t.toNat := Nat.div_le_self _ _
  have := Lib.bitLen_half (t.toNat / 2 ^ L) hq (by omega)
  omega
theorem InB.of {x : Int} (h0 : 0 < x) (h1 : x < 18446744073709551616) : ∃ L, InB x L := by
  have hx : x.toNat ≠ 0 := by omega
  refine ⟨Nat.log2 x.toNat, ?_, by omega, ?_, ?_⟩
  · have := (Nat.log2_lt (n := x.toNat) (k := 64) hx).2 (by have e : (2 : Nat) ^ 64 = 18446744073709551616 := by decide
                                                            omega)
    omega
  · exact (Nat.le_log2 hx).1 (Nat.le_refl _)
  · exact (Nat.log2_lt hx).1 (Nat.lt_succ_self _)

theorem p2_mono {a b : Nat} (h : a ≤ b) : p2 a ≤ p2 b := by
  obtain ⟨k, rfl⟩ := Nat.exists_eq_add_of_le h
  rw [p2_add]
  have := Int.mul_le_mul_of_nonneg_left (show (1 : Int) ≤ p2 k by have := p2_pos k; omega) (Int.le_of_lt (p2_pos a))
  omega
theorem p2_between {B C : Nat} {v : Int} (h1 : p2 B ≤ v) (h2 : v < p2 (B + 1)) (h3 : p2 C ≤ v) (h4 : v < p2 (C + 1)) : B = C := by
  rcases Nat.lt_trichotomy B C with h | h | h
  · have := p2_mono (show B + 1 ≤ C by omega); omega
  · exact h
  · have := p2_mono (show C + 1 ≤ B by omega); omega

/-- A number's bits, from its highest digit. -/
theorem bits_of_top {X : List Int} {m L B : Nat} (dX : Dig X) (hl : X.length = m + 1) (hL : InB (X.getD m 0) L) (h1 : p2 B ≤ dval X) (h2 : dval X < p2 (B + 1)) : B = 64 * m + L := by
  have e : dval X = dval (X.take m) + bp m * X.getD m 0 := by
    have lx : (X.take m).length = m := by simp; omega
    conv => lhs; rw [← List.take_of_length_le (l := X) (i := m + 1) (by omega), take_snoc X m (by omega), dval_snoc, lx]
  have hlo := dval_lt (dX.take m)
  rw [show (X.take m).length = m by simp; omega] at hlo
  have hnn := dval_nonneg (dX.take m)
  obtain ⟨_, q0, q1, q2⟩ := hL
  generalize X.getD m 0 = x at *
  have x1 : p2 L ≤ x := by unfold p2; have : ((2 ^ L : Nat) : Int) = 2 ^ L := by simp
                           omega
  have x2 : x + 1 ≤ p2 (L + 1) := by unfold p2; have : ((2 ^ (L + 1) : Nat) : Int) = 2 ^ (L + 1) := by simp
                                     omega
  have hb := Int.le_of_lt (bp_pos m)
  have y1 := Int.mul_le_mul_of_nonneg_left x1 hb
  have y2 := Int.mul_le_mul_of_nonneg_left x2 hb
  rw [Int.mul_add, Int.mul_one] at y2
  have z1 : bp m * p2 L = p2 (64 * m + L) := by rw [p2_add, bp_pow]; rfl
  have z2 : bp m * p2 (L + 1) = p2 (64 * m + L + 1) := by rw [Nat.add_assoc, p2_add (64 * m), bp_pow]; rfl
  exact p2_between h1 h2 (by omega) (by omega)

set_option maxHeartbeats 800000 in
theorem bitLen_top (g m c L : Nat) (x : Int) (w : World) (hx : w.cell? ⟨g, m, none⟩ = some (.int .u64 x)) (hL : InB x L) (hm : m ≤ 2000) :
    Calls Yba.prog 26 #[.slice (some ⟨g, 0, none⟩) (m + 1) c] w fun e w' => e = .returned (.int .i64 (((64 * m + L + 1 : Nat) : Int))) ∧ w' = w := by
  have j1 : (0 : Int) ≤ (m : Int) := by omega
  have j2 : (m : Int) < (m : Int) + 1 := by omega
  have q1 := hL.smear 2
  obtain ⟨t1, h1⟩ : ∃ t1, bits .or .u64 x (x / 2) = t1 := ⟨_, rfl⟩
  rw [show ((2 : Nat) : Int) = 2 from rfl, h1] at q1
  have q2 := q1.smear 4
  obtain ⟨t2, h2⟩ : ∃ t2, bits .or .u64 t1 (t1 / 4) = t2 := ⟨_, rfl⟩
  rw [show ((4 : Nat) : Int) = 4 from rfl, h2] at q2
  have q3 := q2.smear 16
  obtain ⟨t3, h3⟩ : ∃ t3, bits .or .u64 t2 (t2 / 16) = t3 := ⟨_, rfl⟩
  rw [show ((16 : Nat) : Int) = 16 from rfl, h3] at q3
  have q4 := q3.smear 256
  obtain ⟨t4, h4⟩ : ∃ t4, bits .or .u64 t3 (t3 / 256) = t4 := ⟨_, rfl⟩
  rw [show ((256 : Nat) : Int) = 256 from rfl, h4] at q4
  have q5 := q4.smear 65536
  obtain ⟨t5, h5⟩ : ∃ t5, bits .or .u64 t4 (t4 / 65536) = t5 := ⟨_, rfl⟩
  rw [show ((65536 : Nat) : Int) = 65536 from rfl, h5] at q5
  have q6 := q5.smear 4294967296
  obtain ⟨t6, h6⟩ : ∃ t6, bits .or .u64 t5 (t5 / 65536 / 65536) = t6 := ⟨_, rfl⟩
  have e6 : t5 / ((4294967296 : Nat) : Int) = t5 / 65536 / 65536 := by omega
  rw [e6, h6] at q6
  have Q6 : Hid (InB t6 L) := q6
  have l1 := hL.2.1
  have l2 := hL.lt
  have l3 := q6.2.1
  have l4 := q6.lt
  have lL := hL.1
  clear q1 q2 q3 q4 q5 q6 e6 hL
  go_enter Yba.func26, Yba.ntmps26
  go_wp2_with fail
  refine (len_at t6 w l3 (by omega)).mono ?_
  rintro e w' ⟨he, hw⟩
  subst w'
  rw [Q6.out.bitLen] at he
  subst he
  go_wp2
  go_ret
  refine ⟨ret_int (by omega), rfl⟩

/-- 'BitLen' of a number, by the powers of two that it lies between. -/
theorem bitLen_at (a : Option Addr) (n c B : Nat) (X : List Int) (w : World) (hx : NatAt w a n c X) (h1 : p2 B ≤ dval X) (h2 : dval X < p2 (B + 1)) :
    Calls Yba.prog 26 #[.slice a n c] w fun e w' => e = .returned (.int .i64 ((B + 1 : Nat) : Int)) ∧ w' = w := by
  have hp := p2_pos B
  have hn := hx.pos (by omega)
  obtain ⟨m, rfl⟩ : ∃ m, n = m + 1 := ⟨n - 1, by omega⟩
  obtain ⟨g, rfl, hat⟩ := hx.at_ (by omega)
  have hc := hat m (by rw [hx.len]; omega)
  rw [Nat.zero_add] at hc
  have hb := hx.dig.getD m
  have hz := hx.norm m hx.len
  obtain ⟨L, hL⟩ := InB.of (x := X.getD m 0) (by omega) hb.2
  have e := bits_of_top hx.dig hx.len hL h1 h2
  rw [e]
  exact bitLen_top g m c L _ w hc hL (by have := hx.fits; have := hx.small; omega)

set_option maxHeartbeats 400000 in
theorem intBitLen_at (p : Nat) (a : Option Addr) (n c B : Nat) (X : List Int) (w : World) (hp : IntBlk w p (.slice a n c)) (hx : NatAt w a n c X) (h1 : p2 B ≤ dval X) (h2 : dval X < p2 (B + 1)) :
    Calls Yba.prog 11 #[.pointer (some ⟨p, 0, none⟩)] w fun e w' => e = .returned (.int .i64 ((B + 1 : Nat) : Int)) ∧ w' = w := by
  have c1 := hp.cell1
  go_enter Yba.func11, Yba.ntmps11
  go_wp2_with fail
  refine (bitLen_at a n c B X w hx h1 h2).mono ?_
  rintro e w' ⟨rfl, h⟩
  subst w'
  go_wp2
  go_ret
  exact ⟨rfl, rfl⟩

end Go.Proofs.Ybulkbfsq
