/-
  'clear' of the first digits of a row, as a law of the walk; math/big.same, alias (28, 29) at a nil number.
-/
import Derived.Test.YbulkbfsqLsh
namespace Go.Proofs.Ybulkbfsq
open Go.ChangeShapes Go.WideShapes Go.ChangeAt Go.RowKit

theorem run_clr (w : World) (ty : TypeId) (g n c : Nat) (R : List Int) (hz : Row w g R) (hn : n ≤ R.length) :
    ∃ w', (Builtin.clear_ #[30] ty #[.slice (some ⟨g, 0, none⟩) n c]).run Yba.prog w = .ok (.tuple #[]) w' ∧ Row w' g (splice R 0 (List.replicate n 0)) ∧ Keeps (· = g) w w' := by
  obtain ⟨i0, hi, hz0, hz1, hz2⟩ := info_parts Yba.info45
  rcases n with _ | m
  · refine ⟨w, ?_, by rw [List.replicate_zero, splice_nil]; exact hz, Keeps.refl _ _⟩
    simp [Builtin.clear_, run_underlying Yba.underlying30]
  · refine ⟨_, ?_, row_copied (o := 0) (X := List.replicate (m + 1) 0) hz, (Keeps.refl _ _).setRow _ (fun _ => rfl)⟩
    have hzc : (Builtin.zeroCells (Value.int .u64 0).cells (m + 1)).toList = (List.replicate (m + 1) (0 : Int)).map (Value.int .u64) := by
      simp only [Builtin.zeroCells, Value.cells]
      apply List.ext_getElem
      · simp
      · intro i h1 h2
        simp [Nat.mod_one]
    have hst := run_storeCells_at Yba.prog g 0 45 ((List.replicate (m + 1) (0 : Int)).map (Value.int .u64)) 0 _ w hz (by simp; omega) (ints_oneCell _ _)
    simp only [Nat.add_zero, Nat.zero_add] at hst ⊢
    generalize (List.replicate (m + 1) (0 : Int)).map (Value.int .u64) = L at *
    simp [Builtin.clear_, run_underlying Yba.underlying30, zeroValue, typeInfo, hi, hz0, hzc, hst]

theorem wpList_clr {w : World} {ops : Array Oper} {rest : List Oper} {o : Oper} {a : Act} {Q : Exit → Act → World → Prop} (hgd : o.guard = none) (d : Operand)
    (ho : o.op = .call { callee := .builtin .clear, args := #[d], argTypes := #[30] })
    (g n c : Nat) (hd : a.eval d = .slice (some ⟨g, 0, none⟩) n c) (R : List Int) (hz : Row w g R) (hn : n ≤ R.length)
    (h : ∀ w', Row w' g (splice R 0 (List.replicate n 0)) → Keeps (· = g) w w' → wpList Yba.prog ops Q rest (a.put o.dst (.tuple #[])) w') : wpList Yba.prog ops Q (o :: rest) a w := by
  refine wpList_plain hgd fun K hK => ?_
  obtain ⟨w', hrun, h1, h2⟩ := run_clr w o.type g n c R hz hn
  unfold Oper.wp
  simp [execOp, ho, resolve, invoke, builtin, hd, hrun, Result.andThen]
  exact hK _ _ (h w' h1 h2)

set_option maxHeartbeats 800000 in
theorem same_nil (gx cx : Nat) (w : World) : Calls Yba.prog 28 #[.slice none 0 0, .slice (some ⟨gx, 0, none⟩) 1 cx] w fun e w' => e = .returned (.bool false) ∧ ∃ q, w' = w.drewN q := by
  go_enter Yba.func28, Yba.ntmps28
  go_wp2
  go_quiet (fail)
  go_wp2
  go_ret
  exact ⟨rfl, _, rfl⟩

set_option maxHeartbeats 800000 in
theorem alias_nil (gx cx : Nat) (w : World) : Calls Yba.prog 29 #[.slice none 0 0, .slice (some ⟨gx, 0, none⟩) 1 cx] w fun e w' => e = .returned (.bool false) ∧ ∃ q, w' = w.drewN q := by
  go_enter Yba.func29, Yba.ntmps29
  go_wp2
  go_quiet (fail)
  go_wp2
  go_ret
  exact ⟨rfl, _, rfl⟩

end Go.Proofs.Ybulkbfsq
