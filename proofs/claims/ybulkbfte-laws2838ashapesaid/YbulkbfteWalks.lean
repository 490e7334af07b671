/-
  written (5): make, clear, cut to nothing; LawS2838AShape (3).
-/
import Derived.Test.YbulkbfteRows
import Derived.WalkKit
import Derived.ProofKit
import Derived.WalkSpells
import Derived.Laws.CopyOwn
namespace Go.Proofs.Ybulkbfte
open Go.ChangeShapes Go.WideShapes Go.ChangeAt Go.RowKit

theorem Yba.info3 : (Yba.prog.info? 3).map (fun i => (i.zero, i.size, i.bytes)) = some (some (.int .i64 0), 1, 8) := by kernel_rfl

/-- 'clear' of a whole row of ints: nothing but that row may turn. -/
theorem run_clr (w : World) (ty : TypeId) (g n c : Nat) (cur : Array Value) (hz : w.heap[g]? = some (.cells cur 3 (0, 0))) (hn : n ≤ cur.size) :
    ∃ w', (Builtin.clear_ #[22] ty #[.slice (some ⟨g, 0, none⟩) n c]).run Yba.prog w = .ok (.tuple #[]) w' ∧ ∀ B w0, Below B w0 w → B ≤ g → Below B w0 w' := by
  obtain ⟨i0, hi, hz0, hz1, hz2⟩ := info_parts Yba.info3
  rcases n with _ | m
  · refine ⟨w, ?_, fun _ _ h _ => h⟩
    simp [Builtin.clear_, run_underlying Yba.underlying22]
  · have hzc : (Builtin.zeroCells (Value.int .i64 0).cells (m + 1)).toList = (List.replicate (m + 1) (0 : Int)).map (Value.int .i64) := by
      simp only [Builtin.zeroCells, Value.cells]
      apply List.ext_getElem
      · simp
      · intro i h1 h2
        simp [Nat.mod_one]
    have hst := run_storeCells_at Yba.prog g 0 3 ((List.replicate (m + 1) (0 : Int)).map (Value.int .i64)) 0 _ w hz (by simp; omega) (ints_oneCell _ _)
    generalize (List.replicate (m + 1) (0 : Int)).map (Value.int .i64) = L at *
    generalize (List.take (0 + 0) cur.toList ++ L ++ List.drop (0 + 0 + L.length) cur.toList).toArray = A at hst
    refine ⟨w.setRow g A, ?_, fun B w0 hb hB => below_setRow hb hB _⟩
    simp [Builtin.clear_, run_underlying Yba.underlying22, zeroValue, typeInfo, hi, hz0, hzc, hst]

theorem wpList_clr {w : World} {ops : Array Oper} {rest : List Oper} {o : Oper} {a : Act} {Q : Exit → Act → World → Prop} (hgd : o.guard = none) (d : Operand)
    (ho : o.op = .call { callee := .builtin .clear, args := #[d], argTypes := #[22] })
    (g n c : Nat) (hd : a.eval d = .slice (some ⟨g, 0, none⟩) n c) (cur : Array Value) (hz : w.heap[g]? = some (.cells cur 3 (0, 0))) (hn : n ≤ cur.size) (B : Nat) (w0 : World) (hb : Below B w0 w) (hB : B ≤ g)
    (h : ∀ w', Below B w0 w' → wpList Yba.prog ops Q rest (a.put o.dst (.tuple #[])) w') : wpList Yba.prog ops Q (o :: rest) a w := by
  refine wpList_plain hgd fun K hK => ?_
  obtain ⟨w', hrun, h1⟩ := run_clr w o.type g n c cur hz hn
  unfold Oper.wp
  simp [execOp, ho, resolve, invoke, builtin, hd, hrun, Result.andThen]
  exact hK _ _ (h w' (h1 B w0 hb hB))

set_option maxHeartbeats 800000 in
theorem written_at (n : Nat) (w : World) (hn : n ≤ 65536) :
    Calls Yba.prog 5 #[.int .i64 (n : Int)] w fun e w' => e = .returned (.slice (some ⟨w.heap.size, 0, none⟩) 0 n) ∧ Below w.heap.size w w' := by
  obtain ⟨i0, hi, hz0, hz1, hz2⟩ := info_parts Yba.info3
  go_enter Yba.func5, Yba.ntmps5
  go_wp2_with (at_make; refine wpList_make_full _ rfl _ _ 22 rfl w.heap.size 3 i0 (.int .i64 0) 1 Yba.underlying22 hi hz0 hz1 _ _ _ _ n rfl rfl rfl rfl ?b2 ?b3 (Nat.le_refl _) ?_)
  case b2 => rw [hz2]; omega
  case b3 => unfold maxLen; omega
  intro w1 hown hgrow
  obtain ⟨_, h2⟩ := hown
  rcases h2 with ⟨h, _⟩ | ⟨g, c, cur, hv, hg, hh, _, _, hsz, _⟩
  · cases h
  simp only [Value.slice.injEq, Option.some.injEq, Addr.mk.injEq, and_true, true_and] at hv
  obtain ⟨rfl, rfl⟩ := hv
  have hb1 : Below w.heap.size w w1 := (Below.refl _ _).grown hgrow (Nat.le_refl _) (fun k h => by cases h)
  have hn' : n ≤ cur.size := by omega
  clear hgrow hsz
  go_wp2_with (refine wpList_clr (by rfl) (.tmp 6) (by rfl) w.heap.size n n (by rfl) cur hh hn' w.heap.size w hb1 (Nat.le_refl _) ?_)
  intro w2 hb2
  go_wp2
  go_ret
  exact ⟨rfl, hb2⟩

set_option maxHeartbeats 800000 in
theorem shape_in (n : Nat) (w : World) (hn : n ≤ 65536) :
    Calls Yba.prog 3 #[.int .i64 (n : Int)] w fun e w' => e = .returned (.bool true) ∧ Below w.heap.size w w' := by
  have q22 : ∀ (w : World) (a : Option Addr) (n c n' c' : Nat), (binOp .neq 22 (.slice a n c) (.slice none n' c')).run Yba.prog w = .ok (.bool (!a.isNone)) w := fun w a n c n' c' => run_neq_slice_nil_any w _ _ a n c n' c' Yba.underlying22
  have d0 : ¬ ((n : Int) < 0) := by omega
  have d1 : ¬ ((65536 : Int) < (n : Int)) := by omega
  go_enter Yba.func3, Yba.ntmps3
  go_wp2_with fail
  refine (written_at n w hn).mono ?_
  rintro e w1 ⟨rfl, hb⟩
  go_wp2
  go_ret
  exact ⟨rfl, hb⟩

set_option maxHeartbeats 800000 in
theorem shape_out (n : Int) (w : World) (h : n < 0 ∨ 65536 < n) :
    Calls Yba.prog 3 #[.int .i64 n] w fun e w' => e = .returned (.bool true) ∧ Below w.heap.size w w' := by
  rcases h with h | h
  · go_enter Yba.func3, Yba.ntmps3
    go_wp2
    go_ret
    exact ⟨rfl, Below.refl _ _⟩
  · have h0 : ¬ n < 0 := by omega
    go_enter Yba.func3, Yba.ntmps3
    go_wp2
    go_ret
    exact ⟨rfl, Below.refl _ _⟩

end Go.Proofs.Ybulkbfte
