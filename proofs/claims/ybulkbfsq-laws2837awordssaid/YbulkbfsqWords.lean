/-
  LawS2837AWords (4): the walk.
-/
import Derived.Test.YbulkbfsqBit
namespace Go.Proofs.Ybulkbfsq
open Go.ChangeShapes Go.WideShapes Go.ChangeAt Go.RowKit

/-- 0 or 1. -/
def sg (n : Nat) : Int := if n = 0 then 0 else 1
theorem sg_ge (n : Nat) : 0 ≤ sg n := by unfold sg; split <;> decide
theorem sign_at (p n c : Nat) (a : Option Addr) (w : World) (hp : IntBlk w p (.slice a n c)) : Calls Yba.prog 13 #[.pointer (some ⟨p, 0, none⟩)] w fun e w' => e = .returned (.int .i64 (sg n)) ∧ w' = w := by
  by_cases h : n = 0
  · subst h; exact sign_zero p c a w hp
  · have e : sg n = 1 := by unfold sg; rw [if_neg h]
    rw [e]; exact sign_pos p n c a w hp (by omega)

theorem p2_31 (s : Nat) (h : s ≤ 31) : 1 ≤ p2 s ∧ p2 s ≤ 2147483648 := by
  have : ∀ s : Nat, s < 32 → 1 ≤ p2 s ∧ p2 s ≤ 2147483648 := by decide +kernel
  exact this s (by omega)
theorem p2_62 (s : Nat) (h : s ≤ 31) : p2 s ≤ p2 (2 * s) ∧ p2 (2 * s) ≤ 4611686018427387904 := by
  have : ∀ s : Nat, s < 32 → p2 s ≤ p2 (2 * s) ∧ p2 (2 * s) ≤ 4611686018427387904 := by decide +kernel
  exact this s (by omega)
theorem wrap_sq (s : Nat) (h : s ≤ 31) : IntKind.u64.wrap (p2 s * p2 s) = p2 (2 * s) := by
  have : ∀ s : Nat, s < 32 → IntKind.u64.wrap (p2 s * p2 s) = p2 (2 * s) := by decide +kernel
  exact this s (by omega)

theorem p2_of {v : Int} (h0 : 0 < v) (h1 : v < 18446744073709551616) : ∃ B, B ≤ 63 ∧ p2 B ≤ v ∧ v < p2 (B + 1) := by
  obtain ⟨L, a, _, c, d⟩ := InB.of h0 h1
  refine ⟨L, a, ?_, ?_⟩
  · unfold p2; have : ((2 ^ L : Nat) : Int) = 2 ^ L := by simp
    omega
  · unfold p2; have : ((2 ^ (L + 1) : Nat) : Int) = 2 ^ (L + 1) := by simp
    omega

set_option maxHeartbeats 1600000 in
theorem words_core (a : Int) (s : Nat) (w : World) (h0 : 0 ≤ a) (h1 : a ≤ 255) (hs : a % 32 = (s : Int)) :
    Calls Yba.prog 4 #[.int .u8 a] w fun e w' => e = .returned (.bool true) ∧ Keeps (fun _ => False) w w' := by
  have hs1 : s ≤ 31 := by omega
  have k1 := wrap_p2 s (by omega)
  have k2 := p2_31 s hs1
  have k3 := p2_62 s hs1
  have k4 := wrap_sq s hs1
  go_enter Yba.func4, Yba.ntmps4
  go_wp2_with fail
  refine (newPhi6 s w (by omega)).mono ?_
  rintro e w1 ⟨ps, pmod, pmask, pt, pu, pv, gd, kd, cd, gm, km, cm, Dd, Dm, rfl, hS, hk⟩
  obtain ⟨blk, mod, modN, modV, mask, maskN, maskV, _, _, _, _⟩ := hS
  have l1 : w1.cell? ⟨ps, 1, none⟩ = some (.pointer (some ⟨pmod, 0, none⟩)) := by rw [cell_of_row w1 _ 1 _ 28 (0, 0) blk]; rfl
  have l2 : w1.cell? ⟨ps, 2, none⟩ = some (.pointer (some ⟨pmask, 0, none⟩)) := by rw [cell_of_row w1 _ 2 _ 28 (0, 0) blk]; rfl
  have hkd := modN.pos (by omega)
  have hv1 : dval Dd < 18446744073709551616 := by omega
  have hv2 : dval Dm < 18446744073709551616 := by omega
  have MV : Hid (dval Dd = p2 (2 * s) - p2 s + 1) := by rw [Hid, modV]; omega
  have NV : Hid (dval Dm = p2 s - 1) := maskV
  clear blk modV maskV
  go_wp2_with fail
  refine (sign_pos pmod kd cd _ w1 mod hkd).mono ?_
  rintro e w' ⟨rfl, hw⟩
  subst w'
  go_wp2_with fail
  refine (uint64_at pmod _ kd cd Dd w1 mod modN hv1).mono ?_
  rintro e w' ⟨he, hw⟩
  subst w'
  rw [MV.out] at he
  subst he
  go_wp2_with fail
  have hsg := sg_ge km
  refine (sign_at pmask km cm _ w1 mask).mono ?_
  rintro e w' ⟨rfl, hw⟩
  subst w'
  go_wp2_with fail
  refine (uint64_at pmask _ km cm Dm w1 mask maskN hv2).mono ?_
  rintro e w' ⟨he, hw⟩
  subst w'
  rw [NV.out] at he
  subst he
  obtain ⟨B, hB, hB1, hB2⟩ := p2_of (v := dval Dd) (by have := MV.out; omega) hv1
  go_wp2_with fail
  refine (intBitLen_at pmod _ kd cd B Dd w1 mod modN hB1 hB2).mono ?_
  rintro e w' ⟨rfl, hw⟩
  subst w'
  have hB3 : decide ((B : Int) + 1 ≤ 64) = true := decide_eq_true (by omega)
  go_wp2
  go_ret
  exact ⟨rfl, hk⟩

end Go.Proofs.Ybulkbfsq
