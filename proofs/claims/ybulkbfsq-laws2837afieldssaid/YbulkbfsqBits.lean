/-
  math/bits.Add, Sub (36, 39) over the model's entries for Add64, Sub64 (42, 44); the assembly functions' twins.
-/
import Derived.Test.YbulkbfsqMem
import Derived.Laws.Twins
import Derived.Shelf.Spec.BitsCarry
namespace Go.Proofs.Ybulkbfsq
open Go.ChangeShapes Go.WideShapes Go.ChangeAt Go.RowKit

/-- The borrow, the carry, the digits: under names, so that no walk parts on them. -/
def bor (x y b : Int) : Int := if x < y + b then 1 else 0
def subd (x y b : Int) : Int := (x - y - b) % 18446744073709551616
def car (x y c : Int) : Int := (x + y + c) / 18446744073709551616
def addd (x y c : Int) : Int := (x + y + c) % 18446744073709551616

theorem bor01 (x y b : Int) : 0 ≤ bor x y b ∧ bor x y b ≤ 1 := by unfold bor; split <;> omega
theorem subd_dig (x y b : Int) : 0 ≤ subd x y b ∧ subd x y b < 18446744073709551616 := by unfold subd; omega
theorem subd_eq (x y b : Int) (hx : 0 ≤ x ∧ x < 18446744073709551616) (hy : 0 ≤ y ∧ y < 18446744073709551616) (hb : 0 ≤ b ∧ b ≤ 1) : subd x y b = x - y - b + bor x y b * BB := by
  unfold subd bor BB; split <;> omega
theorem car01 (x y c : Int) (hx : 0 ≤ x ∧ x < 18446744073709551616) (hy : 0 ≤ y ∧ y < 18446744073709551616) (hc : 0 ≤ c ∧ c ≤ 1) : 0 ≤ car x y c ∧ car x y c ≤ 1 := by unfold car; omega
theorem addd_dig (x y c : Int) : 0 ≤ addd x y c ∧ addd x y c < 18446744073709551616 := by unfold addd; omega
theorem addd_eq (x y c : Int) : addd x y c + car x y c * BB = x + y + c := by unfold addd car BB; omega

theorem run44 (x y b : Int) (hx : 0 ≤ x) (hy : 0 ≤ y ∧ y < 18446744073709551616) (hb : 0 ≤ b ∧ b ≤ 1) (w : World) : (callFunc 44 #[.int .u64 x, .int .u64 y, .int .u64 b]).run Yba.prog w =
    .ok (.value (.tuple #[.int .u64 (subd x y b), .int .u64 (bor x y b)])) w := by
  obtain ⟨x, rfl⟩ := Int.eq_ofNat_of_zero_le hx
  obtain ⟨y, rfl⟩ := Int.eq_ofNat_of_zero_le hy.1
  obtain ⟨b, rfl⟩ := Int.eq_ofNat_of_zero_le hb.1
  have e1 : (((x + 18446744073709551616 - y - b) % 18446744073709551616 : Nat) : Int) = subd x y b := by unfold subd; omega
  have e2 : ((if x < y + b then 1 else 0 : Nat) : Int) = bor x y b := by unfold bor; split <;> split <;> omega
  rw [← e1, ← e2, run_callFunc_extern Yba.func44 (by kernel_rfl) (by kernel_rfl) (by kernel_rfl) (e := sub64Entry) (by kernel_rfl), run_sub64 x y b (by omega)]
  rfl
theorem run42 (x y c : Int) (hx : 0 ≤ x) (hy : 0 ≤ y) (hc : 0 ≤ c ∧ c ≤ 1) (w : World) : (callFunc 42 #[.int .u64 x, .int .u64 y, .int .u64 c]).run Yba.prog w =
    .ok (.value (.tuple #[.int .u64 (addd x y c), .int .u64 (car x y c)])) w := by
  rw [run_callFunc_extern Yba.func42 (by kernel_rfl) (by kernel_rfl) (by kernel_rfl) (e := add64Entry) (by kernel_rfl), run_add64 x y c (by omega) (by omega) (by omega) (by omega)]
  rfl

set_option maxHeartbeats 400000 in
theorem sub_at (x y b : Int) (hx : 0 ≤ x ∧ x < 18446744073709551616) (hy : 0 ≤ y ∧ y < 18446744073709551616) (hb : 0 ≤ b ∧ b ≤ 1) (w : World) :
    Calls Yba.prog 39 #[.int .u64 x, .int .u64 y, .int .u64 b] w fun e w' => e = .returned (.tuple #[.int .u64 (subd x y b), .int .u64 (bor x y b)]) ∧ w' = w := by
  have hr := run44 x y b hx.1 hy hb
  go_enter Yba.func39, Yba.ntmps39
  go_wp2
  go_ret2
  exact ⟨rfl, rfl⟩

set_option maxHeartbeats 400000 in
theorem add_at (x y c : Int) (hx : 0 ≤ x ∧ x < 18446744073709551616) (hy : 0 ≤ y ∧ y < 18446744073709551616) (hc : 0 ≤ c ∧ c ≤ 1) (w : World) :
    Calls Yba.prog 36 #[.int .u64 x, .int .u64 y, .int .u64 c] w fun e w' => e = .returned (.tuple #[.int .u64 (addd x y c), .int .u64 (car x y c)]) ∧ w' = w := by
  have hr := run42 x y c hx.1 hy.1 hc
  go_enter Yba.func36, Yba.ntmps36
  go_wp2
  go_ret2
  exact ⟨rfl, rfl⟩

theorem twin37 (args : Array Value) (w : World) : (callFunc 37 args).run Yba.prog w = .ok (.enter 17 args) w :=
  run_callFunc_twin (twin := Yba.f17.name) Yba.func37 (by kernel_rfl) (by kernel_rfl) (by kernel_rfl) (by kernel_rfl) Yba.func17 (by kernel_rfl) (by kernel_rfl) (by kernel_rfl) args w
theorem twin34 (args : Array Value) (w : World) : (callFunc 34 args).run Yba.prog w = .ok (.enter 16 args) w :=
  run_callFunc_twin (twin := Yba.f16.name) Yba.func34 (by kernel_rfl) (by kernel_rfl) (by kernel_rfl) (by kernel_rfl) Yba.func16 (by kernel_rfl) (by kernel_rfl) (by kernel_rfl) args w
theorem twin32 (args : Array Value) (w : World) : (callFunc 32 args).run Yba.prog w = .ok (.enter 18 args) w :=
  run_callFunc_twin (twin := Yba.f18.name) Yba.func32 (by kernel_rfl) (by kernel_rfl) (by kernel_rfl) (by kernel_rfl) Yba.func18 (by kernel_rfl) (by kernel_rfl) (by kernel_rfl) args w

end Go.Proofs.Ybulkbfsq
