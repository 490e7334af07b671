/-
  The walk of LawS2832CSum (3), and the contract of slices.Equal at []int (7).
-/
import Derived.Test.YbulkbfpyWalks
import Derived.Deep.QuietTactic
import Derived.BigQuiet
import Derived.WalkSmall
namespace Go.Proofs.Ybulkbfpy
open Go.ChangeShapes Go.WideShapes Go.ChangeAt Go.RowKit

set_option maxHeartbeats 400000 in
/-- 'slices.Equal' of two slices that hold the same numbers. -/
theorem equal_at (a0 : Option Addr) (a1 : Option Addr) (n c0 c1 : Nat) (zs : List Int) (w : World) (hn : Hid (zs.length = n)) (r0 : Row w a0 zs) (r1 : Row w a1 zs) (hl : n ≤ 4096) :
    Calls Yba.prog 7 #[.slice a0 n c0, .slice a1 n c1] w fun e w' => e = .returned (.bool true) ∧ Below w.heap.size w w' := by
  go_enter Yba.func7, Yba.ntmps7
  go_wp2
  go_loopw [13] (fun i wr => ∃ k : Nat, k ≤ n ∧ i = .int .i64 k ∧ Below w.heap.size w wr) (fun i _ => n - (intOf i).toNat)
  case atStart => exact ⟨0, Nat.zero_le _, rfl, Below.refl _ _⟩
  case round =>
    obtain ⟨k, hk, rfl, hb⟩ := hrel
    by_cases hlt : k < n
    · have hkz : k < zs.length := by rw [hn.out]; exact hlt
      have q0 := r0.below hb
      have q1 := r1.below hb
      rcases q0 with hz | ⟨b0, o0, rfl, _, hc0⟩
      · have := hn.out; simp [hz] at this; omega
      rcases q1 with hz | ⟨b1, o1, rfl, _, hc1⟩
      · have := hn.out; simp [hz] at this; omega
      have g0 := hc0 k hkz
      have g1 := hc1 k hkz
      have hI0 : (0 : Int) ≤ (k : Int) := by omega
      have hI1 : (k : Int) < (n : Int) := by omega
      clear hc0 hc1 hkz
      generalize zs.getD k 0 = c at *
      go_wp2
      go_quiet (fail)
      go_wp2
      go_roundw
      case rel => exact ⟨k + 1, by omega, by go_num, below_drewN hb nq⟩
      case measure => simp [intOf]; omega
    · go_wp2
      go_ret
      exact ⟨rfl, hb⟩

theorem sum_drop (zs : List Int) (k : Nat) (h : k < zs.length) : (zs.drop k).sum = zs.getD k 0 + (zs.drop (k + 1)).sum := by
  rw [List.drop_eq_getElem_cons h, List.sum_cons]
  simp [List.getD, h]

/-- The wrapped sum from place k on. -/
def suf (zs : List Int) (k : Nat) : Int := wrap64 (zs.drop k).sum
theorem suf_end (zs : List Int) (n : Nat) (h : zs.length = n) : suf zs n = 0 := by
  unfold suf; rw [List.drop_of_length_le (by omega), List.sum_nil, wrap_zero]
theorem suf_zero (zs : List Int) : suf zs 0 = wrap64 zs.sum := rfl
theorem suf_step (zs : List Int) (k : Nat) (h : k < zs.length) : wrap64 (zs.getD k 0 + suf zs (k + 1)) = suf zs k := by
  unfold suf; rw [sum_drop zs k h, wrap_step']

set_option maxHeartbeats 1000000 in
theorem sum_core (a0 : Option Addr) (n0 c0 : Nat) (xs : List Int) (ent : Int) (w : World)
    (e0 : Hid (xs.length = n0)) (r0 : Row w a0 xs) (m0 : Came a0 c0 xs) (l0 : n0 ≤ 4096) :
    Calls Yba.prog 3 #[.slice a0 n0 c0, .int .i64 ent] w fun e w' => e = .returned (.bool true) ∧ Below w.heap.size w w' := by
  have d0 : ¬ ((4096 : Int) < (n0 : Int)) := by omega
  go_enter Yba.func3, Yba.ntmps3
  go_wp2_with fail
  refine (clone_at a0 n0 c0 xs _ e0.out r0 m0 l0).mono ?_
  rintro e w1 ⟨ap, cp, rfl, rp, b1⟩
  have r1 := r0.below b1
  go_wp2_with fail
  refine (peers_at ap n0 cp ent xs _ e0.out ?_ (by omega)).mono ?_
  · exact rp.below ((Below.refl _ _).alloc (Nat.le_refl _) _)
  rintro e w2 ⟨rfl, hb⟩
  have b2 : Below w1.heap.size w1 w2 := ((Below.refl _ _).alloc (Nat.le_refl _) _).trans (hb.mono (by simp))
  have r2 := r1.below b2
  have p2 := rp.below b2
  have bb2 := b1.trans (b2.mono b1.size)
  clear hb b1 b2 r1 rp
  have Hend : Hid (suf xs n0 = 0) := suf_end xs n0 e0.out
  go_wp2
  go_loop [8, 9] (fun t i => ∃ k : Nat, k ≤ n0 ∧ i = .int .i64 ((k : Int) - 1) ∧ t = .int .i64 (suf xs k)) (fun _ i => (intOf i + 1).toNat)
  case atStart => exact ⟨n0, Nat.le_refl _, rfl, by rw [Hend.out]⟩
  case round =>
    obtain ⟨k, hk, rfl, rfl⟩ := hrel
    rcases k with _ | k
    · rw [suf_zero]
      go_wp2_with fail
      refine (equal_at ap a0 n0 cp c0 xs _ e0 p2 r2 l0).mono ?_
      rintro e w3 ⟨rfl, b3⟩
      have p3 := p2.below b3
      have bb3 := bb2.trans (b3.mono bb2.size)
      clear b3 p2 r2 bb2
      go_wp2_with fail
      refine (peers_at ap n0 cp _ xs _ e0.out p3 (by omega)).mono ?_
      rintro e w4 ⟨rfl, b4⟩
      have bb4 := bb3.trans (b4.mono bb3.size)
      clear b4 p3 bb3
      go_wp2
      go_ret
      exact ⟨rfl, bb4⟩
    · rw [show (((k + 1 : Nat) : Int) - 1) = (k : Int) from by omega]
      have hkx : k < xs.length := by rw [e0.out]; omega
      have HS : Hid (wrap64 (xs.getD k 0 + suf xs (k + 1)) = suf xs k) := suf_step xs k hkx
      rcases r2 with hz | ⟨b, o, rfl, _, hc⟩
      · simp [hz] at hkx
      have g := hc k hkx
      have hlt : k < n0 := by omega
      clear hc hkx
      generalize xs.getD k 0 = c at *
      generalize suf xs (k + 1) = v at *
      go_wp2
      go_round
      case rel => exact ⟨k, by omega, by go_num, by rw [HS.out]⟩
      case measure => simp [intOf]

end Go.Proofs.Ybulkbfpy
