/-
  The walk of LawS2832CSplit (4).
-/
import Derived.Test.YbulkbfpyWalks
namespace Go.Proofs.Ybulkbfpy
open Go.ChangeShapes Go.WideShapes Go.ChangeAt Go.RowKit

theorem split_sum (xs ys : List Int) : wrap64 (xs ++ ys).sum = wrap64 (wrap64 xs.sum + wrap64 ys.sum) := by
  rw [List.sum_append, wrap_two]
theorem one_sum (xs : List Int) : wrap64 (xs ++ [1]).sum = wrap64 (wrap64 xs.sum + 1) := by
  rw [List.sum_append, wrap_step]; simp

set_option maxHeartbeats 1000000 in
theorem split_core (a0 : Option Addr) (n0 c0 : Nat) (xs : List Int) (a1 : Option Addr) (n1 c1 : Nat) (ys : List Int) (w : World)
    (e0 : Hid (xs.length = n0)) (e1 : Hid (ys.length = n1)) (r0 : Row w a0 xs) (r1 : Row w a1 ys) (m0 : Came a0 c0 xs) (m1 : Came a1 c1 ys) (l0 : n0 ≤ 4096) (l1 : n1 ≤ 4096) :
    Calls Yba.prog 4 #[.slice a0 n0 c0, .slice a1 n1 c1] w fun e w' => e = .returned (.bool true) ∧ Below w.heap.size w w' := by
  obtain ⟨i0, hi, hz0, hz1, hz2⟩ := info_parts Yba.info3
  have d0 : ¬ ((4096 : Int) < (n0 : Int)) := by omega
  have d1 : ¬ ((4096 : Int) < (n1 : Int)) := by omega
  go_enter Yba.func4, Yba.ntmps4
  go_wp2_with (at_make; refine wpList_make_own _ rfl _ _ 22 rfl w.heap.size 3 i0 (.int .i64 0) 1 Yba.underlying22 hi hz0 hz1 _ _ _ (n0 + n1 + 1) rfl rfl (by omega) ?b2 ?b3 (Nat.le_refl _) ?_)
  case b2 => omega
  case b3 => unfold maxLen; omega
  intro w1 hown1 hgrow1
  have b1 : Below w.heap.size w w1 := (Below.refl _ _).grown hgrow1 (Nat.le_refl _) (fun k h => by cases h)
  have r0' := r0.below b1
  have r1' := r1.below b1
  clear hgrow1
  go_wp2_with (at_builtin; refine wpList_append_fits_any _ rfl (.tmp 24) (.tmp 25) 22 rfl w.heap.size 3 i0 1 Yba.underlying22 hi hz1 w.heap.size 0 (n0 + n1 + 1) _ rfl hown1 _ n0 c0 (xs.map (Value.int .i64)) rfl ?c1 (m0.none_ e0.out) r0'.cells (ints_oneCell _ _) ?c2 ?_)
  case c1 => simp [e0.out]
  case c2 => omega
  intro w2 hown2 hgrow2
  have b2 : Below w.heap.size w w2 := b1.grown hgrow2 b1.size (fun k h => by cases h; exact Nat.le_refl _)
  have r1'' := r1.below b2
  clear r0' r1' hown1 hgrow2 b1
  go_wp2_with (at_builtin; refine wpList_append_fits_any _ rfl (.tmp 27) (.tmp 28) 22 rfl w.heap.size 3 i0 1 Yba.underlying22 hi hz1 w.heap.size n0 (n0 + n1 + 1) _ rfl hown2 _ n1 c1 (ys.map (Value.int .i64)) rfl ?c1 (m1.none_ e1.out) r1''.cells (ints_oneCell _ _) ?c2 ?_)
  case c1 => simp [e1.out]
  case c2 => omega
  intro w3 hown3 hgrow3
  have b3 : Below w.heap.size w w3 := b2.grown hgrow3 b2.size (fun k h => by cases h; exact Nat.le_refl _)
  have rab : Row w3 (some ⟨w.heap.size, 0, none⟩) (xs ++ ys) := row_of_owns (by rw [List.map_append]; exact hown3)
  have r0' := r0.below b3
  clear hown2 hown3 hgrow3 b2 r1''
  -- pa
  go_wp2_with fail
  refine (clone_at a0 n0 c0 xs _ e0.out r0' m0 l0).mono ?_
  rintro e w4 ⟨ap, cp, rfl, rp, hb⟩
  have b4 := b3.trans (hb.mono b3.size)
  have rab4 := rab.below hb
  clear r0' hb b3 rab
  go_wp2_with fail
  refine (peers_at ap n0 cp 0 xs _ e0.out rp (by omega)).mono ?_
  rintro e w5 ⟨rfl, hb⟩
  have b5 := b4.trans (hb.mono b4.size)
  have rab5 := rab4.below hb
  have r1' := r1.below b5
  clear rp hb b4 rab4
  -- pb
  go_wp2_with fail
  refine (clone_at a1 n1 c1 ys _ e1.out r1' m1 l1).mono ?_
  rintro e w6 ⟨aq, cq, rfl, rq, hb⟩
  have b6 := b5.trans (hb.mono b5.size)
  have rab6 := rab5.below hb
  clear r1' hb b5 rab5
  go_wp2_with fail
  refine (peers_at aq n1 cq 0 ys _ e1.out rq (by omega)).mono ?_
  rintro e w7 ⟨rfl, hb⟩
  have b7 := b6.trans (hb.mono b6.size)
  have rab7 := rab6.below hb
  clear rq hb b6 rab6
  -- the two stacked
  go_wp2_with fail
  refine (peers_at _ (n0 + n1) _ 0 (xs ++ ys) _ (by rw [List.length_append, e0.out, e1.out]) rab7 (by omega)).mono ?_
  rintro e w8 ⟨he, hb⟩
  rw [split_sum] at he
  subst he
  have b8 := b7.trans (hb.mono b7.size)
  clear hb b7 rab7
  -- the empty shape
  go_wp2_with fail
  refine (peers_at none 0 0 0 [] _ rfl (.inl rfl) (by omega)).mono ?_
  rintro e w9 ⟨he, hb⟩
  rw [List.sum_nil, wrap_zero] at he
  subst he
  have b9 := b8.trans (hb.mono b8.size)
  clear hb b8
  -- one level more
  go_wp2_with (at_make; refine wpList_make_own _ rfl _ _ 22 rfl w.heap.size 3 i0 (.int .i64 0) 1 Yba.underlying22 hi hz0 hz1 _ _ _ (n0 + 1) rfl rfl (by omega) ?b2 ?b3 b9.size ?_)
  case b2 => rw [hz2]; omega
  case b3 => unfold maxLen; omega
  intro wa howna hgrowa
  have ba := b9.grown hgrowa b9.size (fun k h => by cases h)
  have r0' := r0.below ba
  have hsz : w.heap.size ≤ w9.heap.size := b9.size
  clear hgrowa b9
  generalize w9.heap.size = g at *
  go_wp2_with (at_builtin; refine wpList_append_fits_any _ rfl (.tmp 52) (.tmp 53) 22 rfl w.heap.size 3 i0 1 Yba.underlying22 hi hz1 g 0 (n0 + 1) _ rfl howna _ n0 c0 (xs.map (Value.int .i64)) rfl ?c1 (m0.none_ e0.out) r0'.cells (ints_oneCell _ _) ?c2 ?_)
  case c1 => simp [e0.out]
  case c2 => omega
  intro wb hownb hgrowb
  have bb := ba.grown hgrowb ba.size (fun k h => by cases h; exact hsz)
  clear r0' howna hgrowb ba
  go_wp2_with (at_builtin; refine wpList_append_fits _ rfl (.tmp 55) (.tmp 56) 22 rfl w.heap.size 3 i0 1 Yba.underlying22 hi hz1 g n0 (n0 + 1) _ rfl (hownb.alloc _) ⟨wb.heap.size, 0, none⟩ 1 1 [.int .i64 1] rfl rfl ?d1 ?d2 ?d3 ?_)
  case d1 =>
    intro j u hj
    match j, hj with
    | 0, hj => simp at hj; subst hj; simp [Addr.add]
  case d2 => intro u hu; simp at hu; subst hu; rfl
  case d3 => omega
  intro wc hownc hgrowc
  have bc := (bb.alloc bb.size _).grown hgrowc (by simp; have := bb.size; omega) (fun k h => by cases h; exact hsz)
  have rc : Row wc (some ⟨g, 0, none⟩) (xs ++ [1]) := row_of_owns (by rw [List.map_append]; exact hownc)
  clear hownb hownc hgrowc bb
  go_wp2_with fail
  refine (peers_at _ (n0 + 1) _ 0 (xs ++ [1]) _ (by rw [List.length_append, e0.out]; rfl) rc (by omega)).mono ?_
  rintro e wd ⟨he, hb⟩
  rw [one_sum] at he
  subst he
  have bd := bc.trans (hb.mono bc.size)
  clear hb bc rc
  go_wp2
  go_ret
  exact ⟨rfl, bd⟩

end Go.Proofs.Ybulkbfpy
