/-
  math/big.nat.lsh (22): 'nat(nil).lsh([1], s)'.
-/
import Derived.Test.YbulkbfsqClr
namespace Go.Proofs.Ybulkbfsq
open Go.ChangeShapes Go.WideShapes Go.ChangeAt Go.RowKit

theorem natAt_one {w : World} {g : Nat} (h : Row w g [1]) : NatAt w (some ⟨g, 0, none⟩) 1 1 [1] :=
  ⟨rfl, fun d hd => by simp at hd; subst hd; exact ⟨by decide, by decide⟩, fun k hk => by simp at hk; subst hk; simp, by decide, by decide, .inr ⟨g, [1], rfl, h, rfl, fun d hd => by simp at hd; subst hd; exact ⟨by decide, by decide⟩, rfl⟩⟩

set_option maxHeartbeats 800000 in
theorem lsh_zero (gx cx : Nat) (w : World) (hx : At w gx 0 [1]) (hgx : gx < w.heap.size) :
    Calls Yba.prog 22 #[.slice none 0 0, .slice (some ⟨gx, 0, none⟩) 1 cx, .int .u64 0] w fun e w' =>
      e = .returned (.slice (some ⟨w.heap.size, 0, none⟩) 1 1) ∧ NatAt w' (some ⟨w.heap.size, 0, none⟩) 1 1 [1] ∧ Keeps (fun _ => False) w w' := by
  go_enter Yba.func22, Yba.ntmps22
  go_wp2_with fail
  refine (same_nil gx cx _).mono ?_
  rintro e w1 ⟨rfl, q, hw1⟩
  subst w1
  go_wp2_with fail
  refine (alias_nil gx cx _).mono ?_
  rintro e w2 ⟨rfl, q2, hw2⟩
  subst w2
  have hx2 : At ((w.drewN q).drewN q2) gx 0 [1] := hx
  have hs2 : Hid (((w.drewN q).drewN q2).heap.size = w.heap.size) := rfl
  have hk2 : Keeps (fun _ => False) w ((w.drewN q).drewN q2) := ((Keeps.refl _ w).drewN q).drewN q2
  generalize (w.drewN q).drewN q2 = W at *
  go_wp2_with fail
  refine (set_new none 0 0 gx cx 1 [1] _ (by omega) hx2 (by rw [hs2.out]; exact hgx) rfl (by omega)).mono ?_
  rintro e w3 ⟨rfl, hr, hk⟩
  rw [hs2.out] at hr
  go_wp2
  go_ret
  exact ⟨by rw [hs2.out]; rfl, natAt_one hr, hk2.trans hk⟩

theorem make_new_at (a : Option Addr) (l n cap : Nat) (N : Int) (w : World) (hN : N = (n : Int)) (hn : cap < n) (hb : n ≤ 90000) (h1 : n ≠ 1) :
    Calls Yba.prog 31 #[.slice a l cap, .int .i64 N] w fun e w' => e = .returned (.slice (some ⟨w.heap.size, 0, none⟩) n (n + 4)) ∧ Row w' w.heap.size (List.replicate (n + 4) 0) ∧ Keeps (fun _ => False) w w' := by
  subst hN
  refine (make_new a l n cap w hn hb).mono ?_
  rintro e w' ⟨rfl, rfl⟩
  have hne : ncap n = n + 4 := by unfold ncap; rw [if_neg h1]
  rw [hne]
  exact ⟨rfl, row_zrow _ _, (Keeps.refl _ _).alloc _⟩

theorem dval_zeros (q : Nat) : dval (List.replicate q 0) = 0 := by
  induction q with
  | zero => rfl
  | succ q ih => rw [List.replicate_succ]; simp [dval, ih]

theorem splice_one (R : List Int) (o : Nat) (d : Int) (h : o < R.length) : splice R o [d] = R.set o d := by
  have := splice_set R [] o d (by simpa using h)
  rw [splice_nil] at this
  simpa using this.symm

/-- The row that lsh has filled. -/
theorem lsh_row (q : Nat) (d : Int) : splice (((List.replicate (q + 2 + 4) (0 : Int)).set q d).set (1 + q) 0) 0 (List.replicate q 0) = List.replicate q 0 ++ d :: List.replicate 5 0 := by
  rw [show q + 2 + 4 = q + 6 by omega]
  have e1 : (List.replicate (q + 6) (0 : Int)).set q d = List.replicate q 0 ++ d :: List.replicate 5 0 := by
    rw [← List.replicate_append_replicate, List.set_append_right _ _ (by simp)]
    simp [List.replicate_succ]
  have e2 : (List.replicate q (0 : Int) ++ d :: List.replicate 5 0).set (1 + q) 0 = List.replicate q 0 ++ d :: List.replicate 5 0 := by
    rw [List.set_append_right _ _ (by simp)]
    simp [List.replicate_succ]
  rw [e1, e2]
  unfold splice
  simp

theorem lsh_val (q r s : Nat) (hq : (s : Int) / 64 = (q : Int)) (hr : (s : Int) % 64 = (r : Int)) : dval ((List.replicate q (0 : Int) ++ p2 r :: List.replicate 5 0).take (q + 2)) = p2 s := by
  have e : (List.replicate q (0 : Int) ++ p2 r :: List.replicate 5 0).take (q + 2) = List.replicate q 0 ++ [p2 r, 0] := by
    rw [List.take_append]
    simp [List.replicate_succ]
  rw [e, dval_append, dval_zeros]
  simp only [dval, List.length_replicate, Int.mul_zero, Int.add_zero, Int.zero_add]
  rw [bp_pow, p2, ← Int.pow_add, p2]
  congr 1
  omega

theorem lsh_dig (q r : Nat) (hr : r ≤ 63) : Dig (List.replicate q (0 : Int) ++ p2 r :: List.replicate 5 0) := by
  refine (Dig.replicate q).append ?_
  intro d hd
  rcases List.mem_cons.1 hd with rfl | hd
  · exact p2_dig r hr
  · exact Dig.replicate 5 d hd

set_option maxHeartbeats 1600000 in
theorem lsh_pos (gx cx s q r : Nat) (w : World) (hx : At w gx 0 [1]) (hgx : gx < w.heap.size) (hs : 0 < s) (hb : s ≤ 100000) (hq : (s : Int) / 64 = (q : Int)) (hr : (s : Int) % 64 = (r : Int)) :
    Calls Yba.prog 22 #[.slice none 0 0, .slice (some ⟨gx, 0, none⟩) 1 cx, .int .u64 (s : Int)] w fun e w' =>
      ∃ k D, e = .returned (.slice (some ⟨w.heap.size, 0, none⟩) k (q + 6)) ∧ NatAt w' (some ⟨w.heap.size, 0, none⟩) k (q + 6) D ∧ dval D = p2 s ∧ k ≤ q + 2 ∧ Keeps (fun _ => False) w w' := by
  have t32 := twin32
  have hs0 : ((s : Int) == 0) = false := beq_eq_false_iff_ne.2 (by omega)
  have hq1 : q ≤ 1600 := by omega
  have hr1 : r ≤ 63 := by omega
  have Hq : Hid ((s : Int) / 64 = (q : Int)) := hq
  have Hr : Hid ((s : Int) % 64 = (r : Int)) := hr
  have fin : ∀ (g : Nat) (w4 : World) (k : Nat), Row w4 g (List.replicate q 0 ++ p2 r :: List.replicate 5 0) → k ≤ q + 2 → dval ((List.replicate q (0 : Int) ++ p2 r :: List.replicate 5 0).take k) = dval ((List.replicate q (0 : Int) ++ p2 r :: List.replicate 5 0).take (q + 2)) →
      Norm ((List.replicate q (0 : Int) ++ p2 r :: List.replicate 5 0).take k) → ∃ D, NatAt w4 (some ⟨g, 0, none⟩) k (q + 6) D ∧ dval D = p2 s := by
    intro g w4 k h1 h2 h3 h4
    refine ⟨_, ⟨by simp; omega, (lsh_dig q r hr1).take k, h4, by omega, by omega, .inr ⟨g, _, rfl, h1, by simp, lsh_dig q r hr1, rfl⟩⟩, ?_⟩
    rw [h3]; exact lsh_val q r s Hq.out Hr.out
  have FIN : Hid (∀ (g : Nat) (w4 : World) (k : Nat), Row w4 g (List.replicate q 0 ++ p2 r :: List.replicate 5 0) → k ≤ q + 2 → dval ((List.replicate q (0 : Int) ++ p2 r :: List.replicate 5 0).take k) = dval ((List.replicate q (0 : Int) ++ p2 r :: List.replicate 5 0).take (q + 2)) →
      Norm ((List.replicate q (0 : Int) ++ p2 r :: List.replicate 5 0).take k) → ∃ D, NatAt w4 (some ⟨g, 0, none⟩) k (q + 6) D ∧ dval D = p2 s) := fin
  clear fin
  by_cases h0 : r = 0
  · subst h0
    go_enter Yba.func22, Yba.ntmps22
    go_wp2_with fail
    refine (make_new_at none 0 (q + 2) 0 _ _ (by omega) (by omega) (by omega) (by omega)).mono ?_
    rintro e w1 ⟨rfl, hz, hk⟩
    have hx1 := hx.kept hgx hk (fun h => h)
    have hgz : gx ≠ w.heap.size := by omega
    have hg0 : Hid (∀ i, i < w.heap.size → i = w.heap.size → False) := fun i h1 h2 => by omega
    generalize hg : w.heap.size = g at *
    have Hn : Hid ([(1 : Int)].length = Nat.min 1 (1 + q - (1 + q - 1))) := by rw [Hid, show 1 + q - (1 + q - 1) = 1 by omega]; rfl
    have Ha : Hid ((some ⟨g, 1 + q - 1, none⟩ : Option Addr) = some ⟨g, q, none⟩) := by rw [Hid, show 1 + q - 1 = q by omega]
    have Hf : Hid (q + [(1 : Int)].length ≤ (List.replicate (q + 2 + 4) (0 : Int)).length) := by rw [Hid, List.length_replicate]; simp
    go_wp2_with (refine wpList_cp (by rfl) (.tmp 46) (.tmp 47) 30 (by rfl) Yba.underlying30 (some ⟨g, 1 + q - 1, none⟩) (some ⟨gx, 0, none⟩) (1 + q - (1 + q - 1)) (q + 2 + 4 - (1 + q - 1)) 1 cx (by rfl) (by rfl) g q _ [1] hz Hn.out (fun _ => ⟨Ha.out, gx, 0, rfl, hx1⟩) Hf.out ?_)
    intro w2 hr2 hk2
    rw [splice_one _ _ _ (by simp; omega)] at hr2
    have hlen : Hid (((List.replicate (q + 2 + 4) (0 : Int)).set q 1).length = q + 6) := by simp [Hid]
    have c2 := hr2.cell (1 + q) (by rw [hlen.out]; omega)
    have f2 := hr2.frozen (1 + q)
    have hr3 := hr2.setCell (1 + q) 0
    have hk3 : Keeps (· = g) w1 (w2.setCell ⟨g, 1 + q, none⟩ (.int .u64 0)) := hk2.setCell _ (fun _ => rfl)
    have hlen3 : Hid ((((List.replicate (q + 2 + 4) (0 : Int)).set q 1).set (1 + q) 0).length = q + 6) := by simp [Hid]
    have hrow : Hid (splice (((List.replicate (q + 2 + 4) (0 : Int)).set q 1).set (1 + q) 0) 0 (List.replicate q 0) = List.replicate q 0 ++ p2 0 :: List.replicate 5 0) := lsh_row q (p2 0)
    generalize ((List.replicate (q + 2 + 4) (0 : Int)).set q 1).getD (1 + q) 0 = zz at *
    generalize ((List.replicate (q + 2 + 4) (0 : Int)).set q 1).set (1 + q) 0 = R3 at *
    clear hr2 hk2 hz hx1
    go_wp2_with (refine wpList_clr (by rfl) (.tmp 68) (by rfl) g (1 + q - 1) (q + 2 + 4) (by rfl) R3 hr3 (by rw [hlen3.out]; omega) ?_)
    intro w4 hr4 hk4
    rw [hrow.out] at hr4
    have hk5 := hk3.trans hk4
    clear hr3 hk3 hk4 hrow hlen3 c2 f2
    go_wp2_with fail
    refine (norm_at g (q + 2) (q + 2 + 4) (List.replicate q 0 ++ p2 0 :: List.replicate 5 0) _ hr4 (by simp) (by omega) (by omega)).mono ?_
    rintro e w5 ⟨k, hk', rfl, hv, hno, hw5⟩
    subst w5
    obtain ⟨D, hD1, hD2⟩ := FIN.out g w4 k hr4 hk' hv hno
    go_wp2
    go_ret
    subst hg
    exact ⟨k, D, rfl, hD1, hD2, hk', hk.then_ hk5 (fun i hi h => hg0.out i (by omega) h)⟩
  · have hrr : (((r : Nat) : Int) == 0) = false := beq_eq_false_iff_ne.2 (by omega)
    go_enter Yba.func22, Yba.ntmps22
    go_wp2_with fail
    refine (make_new_at none 0 (q + 2) 0 _ _ (by omega) (by omega) (by omega) (by omega)).mono ?_
    rintro e w1 ⟨rfl, hz, hk⟩
    have hx1 := hx.kept hgx hk (fun h => h)
    have hgz : gx ≠ w.heap.size := by omega
    have hg0 : Hid (∀ i, i < w.heap.size → i = w.heap.size → False) := fun i h1 h2 => by omega
    generalize hg : w.heap.size = g at *
    go_wp2_with fail
    refine (lshVU_one g q (q + 2 + 4 - q) gx cx r _ _ hz (by simp; omega) hx1 (by omega) hr1).mono ?_
    rintro e w2 ⟨rfl, hr2, hk2⟩
    have hlen : Hid (((List.replicate (q + 2 + 4) (0 : Int)).set q (p2 r)).length = q + 6) := by simp [Hid]
    have c2 := hr2.cell (1 + q) (by rw [hlen.out]; omega)
    have f2 := hr2.frozen (1 + q)
    have hr3 := hr2.setCell (1 + q) 0
    have hk3 : Keeps (· = g) w1 (w2.setCell ⟨g, 1 + q, none⟩ (.int .u64 0)) := hk2.setCell _ (fun _ => rfl)
    have hlen3 : Hid ((((List.replicate (q + 2 + 4) (0 : Int)).set q (p2 r)).set (1 + q) 0).length = q + 6) := by simp [Hid]
    have hrow : Hid (splice (((List.replicate (q + 2 + 4) (0 : Int)).set q (p2 r)).set (1 + q) 0) 0 (List.replicate q 0) = List.replicate q 0 ++ p2 r :: List.replicate 5 0) := lsh_row q (p2 r)
    generalize ((List.replicate (q + 2 + 4) (0 : Int)).set q (p2 r)).getD (1 + q) 0 = zz at *
    generalize ((List.replicate (q + 2 + 4) (0 : Int)).set q (p2 r)).set (1 + q) 0 = R3 at *
    clear hr2 hk2 hz hx1
    go_wp2_with (refine wpList_clr (by rfl) (.tmp 68) (by rfl) g (1 + q - 1) (q + 2 + 4) (by rfl) R3 hr3 (by rw [hlen3.out]; omega) ?_)
    intro w4 hr4 hk4
    rw [hrow.out] at hr4
    have hk5 := hk3.trans hk4
    clear hr3 hk3 hk4 hrow hlen3 c2 f2
    go_wp2_with fail
    refine (norm_at g (q + 2) (q + 2 + 4) (List.replicate q 0 ++ p2 r :: List.replicate 5 0) _ hr4 (by simp) (by omega) (by omega)).mono ?_
    rintro e w5 ⟨k, hk', rfl, hv, hno, hw5⟩
    subst w5
    obtain ⟨D, hD1, hD2⟩ := FIN.out g w4 k hr4 hk' hv hno
    go_wp2
    go_ret
    subst hg
    exact ⟨k, D, rfl, hD1, hD2, hk', hk.then_ hk5 (fun i hi h => hg0.out i (by omega) h)⟩

end Go.Proofs.Ybulkbfsq
