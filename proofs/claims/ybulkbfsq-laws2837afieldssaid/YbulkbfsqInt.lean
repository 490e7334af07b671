/-
  math/big.NewInt at 1 (7), Int.Lsh (6), Int.Sub (10).
-/
import Derived.Test.YbulkbfsqLshN
import Derived.Deep.DrawnRows
namespace Go.Proofs.Ybulkbfsq
open Go.ChangeShapes Go.WideShapes Go.ChangeAt Go.RowKit
attribute [local go_sem ↓] Go.wp_at_zero Go.wp_at_succ

theorem lsh_at (gx cx s : Nat) (w : World) (hx : At w gx 0 [1]) (hgx : gx < w.heap.size) (hb : s ≤ 100000) :
    Calls Yba.prog 22 #[.slice none 0 0, .slice (some ⟨gx, 0, none⟩) 1 cx, .int .u64 (s : Int)] w fun e w' =>
      ∃ k c D, e = .returned (.slice (some ⟨w.heap.size, 0, none⟩) k c) ∧ NatAt w' (some ⟨w.heap.size, 0, none⟩) k c D ∧ dval D = p2 s ∧ (k < c ∨ k = 1) ∧ k ≤ s / 64 + 2 ∧ Keeps (fun _ => False) w w' := by
  by_cases h : s = 0
  · subst h
    refine (lsh_zero gx cx w hx hgx).mono ?_
    rintro e w' ⟨rfl, h1, h2⟩
    exact ⟨1, 1, [1], rfl, h1, by decide, .inr rfl, by omega, h2⟩
  · refine (lsh_pos gx cx s (s / 64) (s % 64) w hx hgx (by omega) hb (by omega) (by omega)).mono ?_
    rintro e w' ⟨k, D, rfl, h1, h2, h3, h4⟩
    exact ⟨k, _, D, rfl, h1, h2, .inl (by omega), h3, h4⟩

set_option maxHeartbeats 800000 in
theorem newInt_one (w : World) : Calls Yba.prog 7 #[.int .i64 1] w fun e w' =>
    e = .returned (.pointer (some ⟨w.heap.size + 1, 0, none⟩)) ∧ IntBlk w' (w.heap.size + 1) (.slice (some ⟨w.heap.size, 0, none⟩) 1 1) ∧ Row w' w.heap.size [1] ∧ Keeps (fun _ => False) w w' := by
  go_enter Yba.func7, Yba.ntmps7
  go_wp2
  go_ret
  refine ⟨rfl, ?_, ?_, ((Keeps.refl _ _).alloc _).alloc _⟩
  · have := heap_alloc_new (w.alloc (.cells #[.int .u64 1] 45)) (.cells #[.bool false, .slice (some ⟨w.heap.size, 0, none⟩) 1 1] 32)
    simpa [IntBlk] using this
  · have := Below.heap_alloc (w.alloc (.cells #[.int .u64 1] 45)) (.cells #[.bool false, .slice (some ⟨w.heap.size, 0, none⟩) 1 1] 32) w.heap.size (by simp)
    exact this.trans (heap_alloc_new w _)

theorem row_ne_int {w : World} {p g : Nat} {R : List Int} {v : Value} (h : Row w g R) (k : IntBlk w p v) : g ≠ p := by
  rintro rfl
  have := h.symm.trans k
  simp only [Option.some.injEq, Obj.cells.injEq] at this
  exact absurd this.2.1 (by decide)

set_option maxHeartbeats 1600000 in
/-- 'new(big.Int).Lsh(one, s)'. -/
theorem intLsh (p px gx s : Nat) (w : World) (hp : IntBlk w p (.slice none 0 0)) (hpx : IntBlk w px (.slice (some ⟨gx, 0, none⟩) 1 1)) (hx : Row w gx [1]) (hne : px ≠ p) (hb : s ≤ 100000) :
    Calls Yba.prog 6 #[.pointer (some ⟨p, 0, none⟩), .pointer (some ⟨px, 0, none⟩), .int .u64 (s : Int)] w fun e w' =>
      e = .returned (.pointer (some ⟨p, 0, none⟩)) ∧ ∃ k c D, IntBlk w' p (.slice (some ⟨w.heap.size, 0, none⟩) k c) ∧ NatAt w' (some ⟨w.heap.size, 0, none⟩) k c D ∧ dval D = p2 s ∧ (k < c ∨ k = 1) ∧ k ≤ s / 64 + 2 ∧ Keeps (· = p) w w' := by
  have c0 := hp.cell0
  have c1 := hp.cell1
  have d0 := hpx.cell0
  have d1 := hpx.cell1
  have hat : At w gx 0 [1] := by
    have := hx.at_ 0 1 (by simp)
    simpa using this
  go_enter Yba.func6, Yba.ntmps6
  go_wp2_with fail
  go_region_with (go_at_call 22; refine (lsh_at gx 1 s w.drew hat hx.lt hb).mono ?_; rintro e w1 ⟨k, c, D, rfl, hn, hv, hkc, hkb, hk⟩; have e1 := (IntBlk.kept (w := w.drew) hp hk (fun h => h)).cell1; have e2 := (IntBlk.kept (w := w.drew) hp hk (fun h => h)).frozen 1)
  all_goals
    have hp1 := IntBlk.kept (w := w.drew) hp hk (fun h => h)
    have hpx1 := IntBlk.kept (w := w.drew) hpx hk (fun h => h)
    have hk1 : Keeps (· = p) w w1 := ((Keeps.refl _ w).drew.trans hk).mono (fun _ _ h => h.elim)
    have hn1 : NatAt w1 (some ⟨w.heap.size, 0, none⟩) k c D := hn
    have hgp : w.heap.size ≠ p := by have := hp.lt; omega
    have hp2 := hp1.setCell1 (.slice (some ⟨w.heap.size, 0, none⟩) k c)
    have hks : Keeps (· = p) w1 (w1.setCell ⟨p, 1, none⟩ (.slice (some ⟨w.heap.size, 0, none⟩) k c)) := (Keeps.refl _ _).setCell _ (fun _ => rfl)
    have hpx2 := hpx1.kept hks hne
    have hn2 := hn1.kept hks (fun g h => by simp only [Option.some.injEq, Addr.mk.injEq, and_true] at h; subst h; exact hgp)
    have hk2 := hk1.trans hks
    clear hn hn1 hk hk1 hks hp1 hpx1 e1 e2 c0 c1 d0 d1 hat
    generalize hW : w1.setCell ⟨p, 1, none⟩ (.slice (some ⟨w.heap.size, 0, none⟩) k c) = W at *
    clear hW
    have a0 := hp2.cell0
    have a1 := hp2.frozen 0
    have a2 := hpx2.cell0
    go_wp2
    go_ret
    have hp3 := hp2.setCell0
    have hks : Keeps (· = p) W (W.setCell ⟨p, 0, none⟩ (.bool false)) := (Keeps.refl _ _).setCell _ (fun _ => rfl)
    exact ⟨rfl, k, c, D, hp3, hn2.kept hks (fun g h => by simp only [Option.some.injEq, Addr.mk.injEq, and_true] at h; subst h; exact hgp), hv, hkc, hkb, hk2.trans hks⟩

end Go.Proofs.Ybulkbfsq
