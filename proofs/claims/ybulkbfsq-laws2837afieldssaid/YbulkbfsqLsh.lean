/-
  math/big.lshVU_g (18) at one digit that is 1.
-/
import Derived.Test.YbulkbfsqSubN
namespace Go.Proofs.Ybulkbfsq
open Go.ChangeShapes Go.WideShapes Go.ChangeAt Go.RowKit

/-- 2 to the power s, under a name. -/
def p2 (s : Nat) : Int := 2 ^ s
theorem p2_pos (s : Nat) : 0 < p2 s := Int.pow_pos (by decide)
theorem p2_add (s t : Nat) : p2 (s + t) = p2 s * p2 t := Int.pow_add ..
theorem p2_dig (s : Nat) (h : s ≤ 63) : 0 ≤ p2 s ∧ p2 s < 18446744073709551616 := by
  have : ∀ s : Nat, s < 64 → 0 ≤ p2 s ∧ p2 s < 18446744073709551616 := by decide +kernel
  exact this s (by omega)

theorem and63 (s : Nat) (h : s ≤ 63) : bits .and .u64 (s : Int) 63 = s := by
  have : ∀ s : Nat, s < 64 → bits .and .u64 (s : Int) 63 = s := by decide +kernel
  exact this s (by omega)
theorem one_shr (t : Nat) (h1 : 1 ≤ t) (h : t ≤ 63) : (1 : Int) / 2 ^ t = 0 := by
  have : ∀ t : Nat, t < 64 → 1 ≤ t → (1 : Int) / 2 ^ t = 0 := by decide +kernel
  exact this t (by omega) h1
theorem wrap_p2 (s : Nat) (h : s ≤ 63) : IntKind.u64.wrap (2 ^ s) = p2 s := by
  have : ∀ s : Nat, s < 64 → IntKind.u64.wrap (2 ^ s) = p2 s := by decide +kernel
  exact this s (by omega)

set_option maxHeartbeats 800000 in
theorem lshVU_one (gz oz cz gx cx s : Nat) (R : List Int) (w : World) (hz : Row w gz R) (hzn : oz < R.length) (hx : At w gx 0 [1]) (h1 : 1 ≤ s) (h2 : s ≤ 63) :
    Calls Yba.prog 18 #[.slice (some ⟨gz, oz, none⟩) 1 cz, .slice (some ⟨gx, 0, none⟩) 1 cx, .int .u64 (s : Int)] w fun e w' =>
      e = .returned (.int .u64 0) ∧ Row w' gz (R.set oz (p2 s)) ∧ Keeps (· = gz) w w' := by
  have hs0 : ((s : Int) == 0) = false := beq_eq_false_iff_ne.2 (by omega)
  have hx0 := hx 0 (by decide)
  simp only [Nat.add_zero, List.getD_cons_zero] at hx0
  have z0 := hz.cell oz hzn
  have f0 := hz.frozen oz
  generalize R.getD oz 0 = r0 at *
  have k1 := and63 s h2
  have k2 := and63 (64 - s) (by omega)
  rw [show ((64 - s : Nat) : Int) = 64 - (s : Int) by omega] at k2
  have k3 := one_shr (64 - s) (by omega) (by omega)
  have k4 := wrap_p2 s h2
  have hK : Keeps (· = gz) w (w.setCell ⟨gz, oz, none⟩ (.int .u64 (p2 s))) := (Keeps.refl _ w).setCell _ (fun _ => rfl)
  have hR := hz.setCell oz (p2 s)
  go_enter Yba.func18, Yba.ntmps18
  go_wp2
  go_loop [8] (fun i => i = .int .i64 0) (fun _ => 0)
  case atStart => rfl
  case round =>
    subst hrel
    go_wp2
    go_ret
    exact ⟨rfl, hR, hK⟩

end Go.Proofs.Ybulkbfsq
