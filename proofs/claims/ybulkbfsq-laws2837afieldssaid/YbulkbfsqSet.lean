/-
  'copy' into a row of digits, as a law of the walk; math/big.nat.set (30).
-/
import Derived.Test.YbulkbfsqNat
namespace Go.Proofs.Ybulkbfsq
open Go.ChangeShapes Go.WideShapes Go.ChangeAt Go.RowKit

theorem At.src {w : World} {g o : Nat} {X : List Int} (h : At w g o X) : ∀ j u, (X.map (Value.int .u64))[j]? = some u → w.cell? ((⟨g, o, none⟩ : Addr).add j) = some u := by
  intro j u hj
  simp only [List.getElem?_map, Option.map_eq_some_iff] at hj
  obtain ⟨q, hq, rfl⟩ := hj
  obtain ⟨hlt, rfl⟩ := List.getElem?_eq_some_iff.1 hq
  rw [Addr.add_lit, h j hlt]
  simp [List.getD, hlt]
theorem At.kept {S : Nat → Prop} {w w' : World} {g o : Nat} {X : List Int} (h : At w g o X) (hg : g < w.heap.size) (k : Keeps S w w') (hs : ¬ S g) : At w' g o X := fun i hi =>
  (World.cell?_of_block (a := ⟨g, o + i, none⟩) (k.block g hg hs)).trans (h i hi)
theorem At.lt {w : World} {g o : Nat} {X : List Int} (h : At w g o X) (h0 : 0 < X.length) : g < w.heap.size := World.block_lt_of_cell? w ⟨g, o + 0, none⟩ (h 0 h0)

theorem row_zrow (w : World) (k : Nat) : Row (w.alloc (.cells (zrow k) 45)) w.heap.size (List.replicate k 0) := heap_alloc_new w _

theorem size45 : (Yba.prog.info? 45).map (·.size) = some 1 := by
  obtain ⟨i0, hi, hz0, hz1, hz2⟩ := info_parts Yba.info45
  rw [hi]; simp [hz1]

/-- The row behind a copy of X into block g from place o on. -/
theorem row_copied {w : World} {g o : Nat} {R X : List Int} (h : Row w g R) :
    Row (w.setRow g (((R.map (Value.int .u64)).toArray.toList.take o ++ X.map (Value.int .u64) ++ (R.map (Value.int .u64)).toArray.toList.drop (o + (X.map (Value.int .u64)).length)).toArray)) g (splice R o X) := by
  unfold Row
  rw [setRow_heap w g _ _ 45 (0, 0) h, ← splice_map, List.append_assoc]
  rfl

/-- What the builtin copy does, of digits: X lies in the row from 'off' on; nothing else has turned. -/
theorem run_cp (w : World) (T ty : TypeId) (hu : Yba.prog.underlying T = some (.slice 45)) (dp sp : Option Addr) (dLen dCap sLen sCap g off : Nat) (R X : List Int) (hz : Row w g R) (hn : X.length = Nat.min sLen dLen)
    (hpos : 0 < X.length → dp = some ⟨g, off, none⟩ ∧ ∃ gx ox, sp = some ⟨gx, ox, none⟩ ∧ At w gx ox X) (hfit : off + X.length ≤ R.length) :
    ∃ w', (Builtin.copy_ #[T, T] ty #[.slice dp dLen dCap, .slice sp sLen sCap]).run Yba.prog w = .ok (goInt X.length) w' ∧ Row w' g (splice R off X) ∧ Keeps (· = g) w w' := by
  by_cases h0 : X.length = 0
  · obtain rfl : X = [] := List.eq_nil_of_length_eq_zero h0
    refine ⟨w, ?_, by rw [splice_nil]; exact hz, Keeps.refl _ _⟩
    exact run_copy_none (P := Yba.prog) w T T ty 45 dp sp dLen dCap sLen sCap hu size45 (by simpa using hn.symm)
  · obtain ⟨rfl, gx, ox, rfl, hx⟩ := hpos (by omega)
    refine ⟨_, ?_, row_copied (o := off) (X := X) hz, (Keeps.refl _ _).setRow _ (fun _ => rfl)⟩
    have := run_copy_row (P := Yba.prog) w T T ty 45 g off dLen dCap ⟨gx, ox, none⟩ sLen sCap _ 45 (X.map (Value.int .u64)) hu size45 hz (by simpa using hn) hx.src (by simpa using hfit) (ints_oneCell _ _)
    rw [this]; simp

theorem wpList_cp {w : World} {ops : Array Oper} {rest : List Oper} {o : Oper} {a : Act} {Q : Exit → Act → World → Prop} (hgd : o.guard = none) (d s : Operand) (T : TypeId)
    (ho : o.op = .call { callee := .builtin .copy, args := #[d, s], argTypes := #[T, T] }) (hu : Yba.prog.underlying T = some (.slice 45))
    (dp sp : Option Addr) (dLen dCap sLen sCap : Nat) (hd : a.eval d = .slice dp dLen dCap) (hs : a.eval s = .slice sp sLen sCap)
    (g off : Nat) (R X : List Int) (hz : Row w g R) (hn : X.length = Nat.min sLen dLen)
    (hpos : 0 < X.length → dp = some ⟨g, off, none⟩ ∧ ∃ gx ox, sp = some ⟨gx, ox, none⟩ ∧ At w gx ox X) (hfit : off + X.length ≤ R.length)
    (h : ∀ w', Row w' g (splice R off X) → Keeps (· = g) w w' → wpList Yba.prog ops Q rest (a.put o.dst (goInt X.length)) w') : wpList Yba.prog ops Q (o :: rest) a w := by
  refine wpList_plain hgd fun K hK => ?_
  obtain ⟨w', hrun, h1, h2⟩ := run_cp w T o.type hu dp sp dLen dCap sLen sCap g off R X hz hn hpos hfit
  unfold Oper.wp
  simp [execOp, ho, resolve, invoke, builtin, hd, hs, hrun, Result.andThen]
  exact hK _ _ (h w' h1 h2)

/-- The same as one step of a region that draws its order. -/
theorem step_cp {ops : Array Oper} {o : Oper} {a : Act} {w : World} {K : Act → World → Prop} {Q : Exit → Act → World → Prop} {E : Prop} (hgd : o.guard = none) (d s : Operand) (T : TypeId)
    (ho : o.op = .call { callee := .builtin .copy, args := #[d, s], argTypes := #[T, T] }) (hu : Yba.prog.underlying T = some (.slice 45))
    (dp sp : Option Addr) (dLen dCap sLen sCap : Nat) (hd : a.eval d = .slice dp dLen dCap) (hs : a.eval s = .slice sp sLen sCap)
    (g off : Nat) (R X : List Int) (hz : Row w g R) (hn : X.length = Nat.min sLen dLen)
    (hpos : 0 < X.length → dp = some ⟨g, off, none⟩ ∧ ∃ gx ox, sp = some ⟨gx, ox, none⟩ ∧ At w gx ox X) (hfit : off + X.length ≤ R.length)
    (h : ∀ w', Row w' g (splice R off X) → Keeps (· = g) w w' → K (a.put o.dst (goInt X.length)) w') :
    if Region.wanted o (yielded ops a.tmps) = true then Oper.wp Yba.prog o a w K Q else E := by
  have hw : Region.wanted o (yielded ops a.tmps) = true := by simp [Region.wanted, hgd]
  rw [if_pos hw]
  obtain ⟨w', hrun, h1, h2⟩ := run_cp w T o.type hu dp sp dLen dCap sLen sCap g off R X hz hn hpos hfit
  unfold Oper.wp
  simp [execOp, ho, resolve, invoke, builtin, hd, hs, hrun, Result.andThen]
  exact h w' h1 h2

set_option maxHeartbeats 800000 in
theorem set_fit (g l cap gx cx n : Nat) (R X : List Int) (w : World) (hz : Row w g R) (hR : n ≤ R.length) (hc : n ≤ cap) (hx : At w gx 0 X) (lx : Hid (X.length = n)) :
    Calls Yba.prog 30 #[.slice (some ⟨g, 0, none⟩) l cap, .slice (some ⟨gx, 0, none⟩) n cx] w fun e w' =>
      e = .returned (.slice (some ⟨g, 0, none⟩) n cap) ∧ Row w' g (splice R 0 X) ∧ Keeps (· = g) w w' := by
  go_enter Yba.func30, Yba.ntmps30
  go_wp2_with fail
  refine (make_fit g l n cap _ hc).mono ?_
  rintro e w1 ⟨rfl, hw1⟩
  subst w1
  go_wp2_with (refine wpList_cp rfl _ _ 30 rfl Yba.underlying30 _ _ _ _ _ _ rfl rfl g 0 R X hz (by rw [lx.out]; simp) (fun _ => ⟨rfl, gx, 0, rfl, hx⟩) (by rw [lx.out]; omega) ?_)
  intro w2 hr hk
  go_wp2
  go_ret
  exact ⟨rfl, hr, hk⟩

set_option maxHeartbeats 800000 in
theorem set_new (a : Option Addr) (l cap gx cx n : Nat) (X : List Int) (w : World) (hc : cap < n) (hx : At w gx 0 X) (hgx : gx < w.heap.size) (lx : Hid (X.length = n)) (hn : n ≤ 90000) :
    Calls Yba.prog 30 #[.slice a l cap, .slice (some ⟨gx, 0, none⟩) n cx] w fun e w' =>
      e = .returned (.slice (some ⟨w.heap.size, 0, none⟩) n (ncap n)) ∧ Row w' w.heap.size (splice (List.replicate (ncap n) 0) 0 X) ∧ Keeps (fun _ => False) w w' := by
  have hz := row_zrow w (ncap n)
  have hk0 : Keeps (fun _ => False) w (w.alloc (.cells (zrow (ncap n)) 45)) := (Keeps.refl _ _).alloc _
  have hx1 := hx.kept hgx hk0 (fun h => h)
  have hnc : n ≤ ncap n := by unfold ncap; split <;> omega
  go_enter Yba.func30, Yba.ntmps30
  go_wp2_with fail
  refine (make_new a l n cap _ hc hn).mono ?_
  rintro e w1 ⟨rfl, hw1⟩
  rw [← hw1] at hz hk0 hx1
  clear hw1
  go_wp2_with (refine wpList_cp rfl _ _ 30 rfl Yba.underlying30 _ _ _ _ _ _ rfl rfl w.heap.size 0 (List.replicate (ncap n) 0) X hz (by rw [lx.out]; simp) (fun _ => ⟨rfl, gx, 0, rfl, hx1⟩) (by rw [lx.out]; simp; omega) ?_)
  intro w2 hr hk
  go_wp2
  go_ret
  exact ⟨rfl, hr, hk0.then_ hk (fun i hi h => by omega)⟩

end Go.Proofs.Ybulkbfsq
