/-
  math/big.Int.Cmp (9) of two numbers at different places, both not negative; zzs2837afresh (12).
-/
import Derived.Test.YbulkbfsqIntSub
import Derived.Test.YbulkbfsqBit
namespace Go.Proofs.Ybulkbfsq
open Go.ChangeShapes Go.WideShapes Go.ChangeAt Go.RowKit

theorem Yba.info32 : (Yba.prog.info? 32).map (fun i => (i.size, i.bytes)) = some (2, 32) := by kernel_rfl

/-- '==' between pointers to big.Ints at different places. -/
theorem eql26_other {w : World} {g g' : Nat} {c c' : Array Value} {t t' : TypeId} (hne : g ≠ g') (ha : w.heap[g]? = some (.cells c t (0, 0))) (hb : w.heap[g']? = some (.cells c' t' (0, 0))) :
    (binOp .eql 26 (.pointer (some ⟨g, 0, none⟩)) (.pointer (some ⟨g', 0, none⟩))).run Yba.prog w = .ok (.bool false) w := by
  obtain ⟨i, hi, hs⟩ := Option.map_eq_some_iff.1 Yba.info32
  simp only [Prod.mk.injEq] at hs
  have hne' : (⟨g, 0, none⟩ : Addr) ≠ ⟨g', 0, none⟩ := fun e => hne (congrArg Addr.block e)
  exact run_eql_ptr_other w Yba.underlying26 hi (by rw [hs.1]; decide) hne' ha hb

set_option maxHeartbeats 1600000 in
theorem intCmp (p q : Nat) (ax ay : Option Addr) (nx cx ny cy : Nat) (X Y : List Int) (w : World) (hp : IntBlk w p (.slice ax nx cx)) (hq : IntBlk w q (.slice ay ny cy)) (hx : NatAt w ax nx cx X) (hy : NatAt w ay ny cy Y) (hne : p ≠ q) :
    Calls Yba.prog 9 #[.pointer (some ⟨p, 0, none⟩), .pointer (some ⟨q, 0, none⟩)] w fun e w' => e = .returned (.int .i64 (cmpv (dval X) (dval Y))) ∧ ∃ j, w' = w.drewN j := by
  have heq := eql26_other hne hp hq
  have c0 := hp.cell0
  have d0 := hq.cell0
  go_enter Yba.func9, Yba.ntmps9
  go_wp2
  go_quiet (fail)
  have hx1 := hx.drewN nq
  have hy1 := hy.drewN nq
  have hp1 : IntBlk (w.drewN nq) p (.slice ax nx cx) := hp
  have hq1 : IntBlk (w.drewN nq) q (.slice ay ny cy) := hq
  have hk1 : Hid (∃ j, w.drewN nq = w.drewN j) := ⟨_, rfl⟩
  clear c0 d0 hx hy hp hq heq
  generalize w.drewN nq = W at *
  have c0 := hp1.cell0
  have c1 := hp1.cell1
  have d1 := hq1.cell1
  have HC : Hid (∀ q, Calls Yba.prog 24 #[.slice ax nx cx, .slice ay ny cy] (W.drewN q) fun e w' => e = .returned (.int .i64 (cmpv (dval X) (dval Y))) ∧ ∃ j, w' = (W.drewN q).drewN j) :=
    fun q => cmp_at _ _ _ _ _ _ X Y _ (hx1.drewN q) (hy1.drewN q)
  go_wp2
  go_quiet ((go_at_call 24; exact Calls.quiet_of (HC.out _)))
  go_wp2
  go_ret
  obtain ⟨j, hj⟩ := hk1.out
  exact ⟨rfl, j + nq, by rw [hj, drew2]⟩

set_option maxHeartbeats 400000 in
theorem fresh_at (p c : Nat) (a : Option Addr) (w : World) (hp : IntBlk w p (.slice a 0 c)) : Calls Yba.prog 12 #[.pointer (some ⟨p, 0, none⟩)] w fun e w' => e = .returned (.bool true) ∧ w' = w := by
  go_enter Yba.func12, Yba.ntmps12
  go_wp2_with fail
  refine (sign_zero p c a w hp).mono ?_
  rintro e w' ⟨rfl, h⟩
  subst w'
  go_wp2
  go_ret
  exact ⟨rfl, rfl⟩

end Go.Proofs.Ybulkbfsq
