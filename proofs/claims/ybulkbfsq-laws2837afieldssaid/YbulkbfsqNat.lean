/-
  math/big.nat: norm, make (33, 31).
-/
import Derived.Test.YbulkbfsqVW
namespace Go.Proofs.Ybulkbfsq
open Go.ChangeShapes Go.WideShapes Go.ChangeAt Go.RowKit

theorem dval_take_zero (R : List Int) (k : Nat) (h : k < R.length) (h0 : R.getD k 0 = 0) : dval (R.take (k + 1)) = dval (R.take k) := by
  rw [take_snoc R k h, dval_snoc, h0]; simp

set_option maxHeartbeats 800000 in
theorem norm_at (g n cap : Nat) (R : List Int) (w : World) (hz : Row w g R) (hn : n ≤ R.length) (hc : n ≤ cap) (hb : cap ≤ 100000) :
    Calls Yba.prog 33 #[.slice (some ⟨g, 0, none⟩) n cap] w fun e w' => ∃ m, m ≤ n ∧ e = .returned (.slice (some ⟨g, 0, none⟩) m cap) ∧ dval (R.take m) = dval (R.take n) ∧ Norm (R.take m) ∧ w' = w := by
  go_enter Yba.func33, Yba.ntmps33
  go_wp2
  go_loop [3] (fun i => ∃ k : Nat, k ≤ n ∧ i = .int .i64 k ∧ dval (R.take k) = dval (R.take n)) (fun i => (intOf i).toNat)
  case atStart => exact ⟨n, Nat.le_refl _, rfl, rfl⟩
  case round =>
    obtain ⟨k, hk, rfl, hv⟩ := hrel
    have HV : Hid (dval (R.take k) = dval (R.take n)) := hv
    clear hv
    rcases k with _ | k
    · have hd : decide ((0 : Int) < ((0 : Nat) : Int)) = false := by decide
      go_wp2
      go_ret
      exact ⟨0, Nat.zero_le _, rfl, HV.out, fun k hk => by simp at hk, rfl⟩
    · have hp : (0 : Int) < ((k + 1 : Nat) : Int) := by omega
      have cx := hz.cell k (by omega)
      have hI1 : (k : Int) < (n : Int) := by omega
      by_cases h0 : R.getD k 0 = 0
      · have h0' : (R.getD k 0 == 0) = true := by rw [h0]; rfl
        have Hst : Hid (dval (R.take k) = dval (R.take n)) := (dval_take_zero R k (by omega) h0).symm.trans HV.out
        clear h0 HV
        generalize R.getD k 0 = x at *
        go_wp2
        go_round
        case rel => exact ⟨k, by omega, by go_num, Hst.out⟩
        case measure => simp [intOf]
      · have h0' : (R.getD k 0 == 0) = false := beq_eq_false_iff_ne.2 h0
        have Hst : Hid (Norm (R.take (k + 1))) := by
          intro j hj
          have : j = k := by simp at hj; omega
          subst this
          simpa [List.getD_eq_getElem?_getD] using h0
        clear h0
        generalize R.getD k 0 = x at *
        go_wp2
        go_ret
        exact ⟨k + 1, hk, rfl, HV.out, Hst.out, rfl⟩

/-- k noughts, as a block's cells. -/
def zrow (k : Nat) : Array Value := ((List.replicate k (0 : Int)).map (Value.int .u64)).toArray

theorem made_zrow (k : Nat) : madeCells (Value.int .u64 0).cells k = zrow k := by
  apply Array.ext
  · simp [madeCells, zrow]
  · intro i h1 h2
    simp [madeCells, zrow, Value.cells, Nat.mod_one]

theorem run_make30 (n c : Nat) (hnc : n ≤ c) (hc : c ≤ 100000) (w : World) : (Instr.makeSlice 30 (.int .i64 (n : Int)) (.int .i64 (c : Int))).run Yba.prog w = .ok (.slice (some ⟨w.heap.size, 0, none⟩) n c) (w.alloc (.cells (zrow c) 45)) := by
  obtain ⟨i0, hi, hz0, hz1, hz2⟩ := info_parts Yba.info45
  rw [run_make w 30 45 i0 (.int .u64 0) Yba.underlying30 hi hz0 .i64 .i64 n c (by omega) (by omega) (by rw [hz2]; omega) (by omega), hz1, Nat.mul_one, made_zrow, Int.toNat_natCast, Int.toNat_natCast]

set_option maxHeartbeats 800000 in
/-- 'z.make(n)' where z has room: z anew. -/
theorem make_fit (g l n cap : Nat) (w : World) (hn : n ≤ cap) :
    Calls Yba.prog 31 #[.slice (some ⟨g, 0, none⟩) l cap, .int .i64 (n : Int)] w fun e w' => e = .returned (.slice (some ⟨g, 0, none⟩) n cap) ∧ w' = w := by
  have h1 : decide ((n : Int) ≤ (cap : Int)) = true := by simp; omega
  go_enter Yba.func31, Yba.ntmps31
  go_wp2
  go_ret
  exact ⟨rfl, rfl⟩

/-- The capacity of what 'make' makes anew. -/
def ncap (n : Nat) : Nat := if n = 1 then 1 else n + 4

set_option maxHeartbeats 800000 in
/-- 'z.make(n)' where z has no room. -/
theorem make_new (a : Option Addr) (l n cap : Nat) (w : World) (hn : cap < n) (hb : n ≤ 90000) :
    Calls Yba.prog 31 #[.slice a l cap, .int .i64 (n : Int)] w fun e w' => e = .returned (.slice (some ⟨w.heap.size, 0, none⟩) n (ncap n)) ∧ w' = w.alloc (.cells (zrow (ncap n)) 45) := by
  have h1 : decide ((n : Int) ≤ (cap : Int)) = false := by simp; omega
  by_cases hn1 : n = 1
  · subst hn1
    have hmk : ∀ W : World, (Instr.makeSlice 30 (.int .i64 1) (.int .i64 1)).run Yba.prog W = .ok (.slice (some ⟨W.heap.size, 0, none⟩) 1 1) (W.alloc (.cells (zrow 1) 45)) := run_make30 1 1 (by omega) (by omega)
    rw [show ncap 1 = 1 from rfl]
    have hcap : cap = 0 := by omega
    subst hcap
    go_enter Yba.func31, Yba.ntmps31
    go_wp2
    go_ret
    exact ⟨rfl, rfl⟩
  · have h2 : ((n : Int) == 1) = false := by simp; omega
    have hmk := run_make30 n (n + 4) (by omega) (by omega)
    rw [show ((n + 4 : Nat) : Int) = (n : Int) + 4 by omega] at hmk
    have hne : ncap n = n + 4 := by unfold ncap; rw [if_neg hn1]
    rw [hne]
    clear hne
    go_enter Yba.func31, Yba.ntmps31
    go_wp2
    go_ret
    exact ⟨rfl, rfl⟩

end Go.Proofs.Ybulkbfsq
