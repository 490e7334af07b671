/-
  The contracts of the functions under both laws of this seat: Peers (6), zzs2832cclone (5).
-/
import Derived.Test.YbulkbfpyRows
import Derived.WalkKit
import Derived.ProofKit
import Derived.Laws.CopyOwn
import Derived.WalkSpells
namespace Go.Proofs.Ybulkbfpy
open Go.ChangeShapes Go.WideShapes Go.ChangeAt Go.RowKit

theorem Yba.info3 : (Yba.prog.info? 3).map (fun i => (i.zero, i.size, i.bytes)) = some (some (.int .i64 0), 1, 8) := by kernel_rfl

/-- The numbers 'zs' lie from the address on (nothing is asked where there are none). -/
def Row (w : World) (a : Option Addr) (zs : List Int) : Prop :=
  zs = [] ∨ ∃ b off, a = some ⟨b, off, none⟩ ∧ b < w.heap.size ∧ ∀ i, i < zs.length → w.cell? ⟨b, off + i, none⟩ = some (.int .i64 (zs.getD i 0))

theorem Row.below {w w' : World} {a : Option Addr} {zs : List Int} (h : Row w a zs) (hb : Below w.heap.size w w') : Row w' a zs := by
  rcases h with h | ⟨b, off, e, hlt, hc⟩
  · exact .inl h
  · exact .inr ⟨b, off, e, Nat.lt_of_lt_of_le hlt hb.size, fun i hi => (hb.cell (p := ⟨b, off + i, none⟩) hlt).trans (hc i hi)⟩

theorem wrap_step (x c : Int) : wrap64 (wrap64 x + c) = wrap64 (x + c) := by unfold wrap64; omega
theorem wrap_step' (x c : Int) : wrap64 (c + wrap64 x) = wrap64 (c + x) := by unfold wrap64; omega
theorem wrap_two (x y : Int) : wrap64 (wrap64 x + wrap64 y) = wrap64 (x + y) := by unfold wrap64; omega
theorem wrap_zero : wrap64 0 = 0 := by unfold wrap64; omega

theorem sum_take (zs : List Int) (k : Nat) (h : k < zs.length) : (zs.take (k + 1)).sum = (zs.take k).sum + zs.getD k 0 := by
  rw [List.take_succ_eq_append_getElem h, List.sum_append]
  simp [List.getD, h]

theorem ret_int {k : IntKind} {a b : Int} (h : a = b) : Ending.returned (.int k a) = .returned (.int k b) := by rw [h]

set_option maxHeartbeats 400000 in
/-- 'Shape.Peers': the sum of the levels, wrapped. -/
theorem peers_any (a : Option Addr) (cap : Nat) (ent : Int) (zs : List Int) (w : World) (hr : Row w a zs) (hl : zs.length ≤ 100000) :
    Calls Yba.prog 6 #[.agg #[.slice a zs.length cap, .int .i64 ent]] w fun e w' => e = .returned (.int .i64 (wrap64 zs.sum)) ∧ Below w.heap.size w w' := by
  generalize hn : zs.length = n at *
  have Hn : Hid (zs.length = n) := hn
  clear hn
  go_enter Yba.func6, Yba.ntmps6
  go_wp2
  go_loop [3, 9] (fun t i => ∃ k : Nat, k ≤ n ∧ i = .int .i64 k ∧ t = .int .i64 (wrap64 (zs.take k).sum)) (fun _ i => n - (intOf i).toNat)
  case atStart => exact ⟨0, Nat.zero_le _, rfl, by simp [wrap_zero]⟩
  case round =>
    obtain ⟨k, hk, rfl, rfl⟩ := hrel
    by_cases hlt : k < n
    · rcases hr with hz | ⟨b, off, rfl, hb, hc⟩
      · have := Hn.out; simp [hz] at this; omega
      · have hcell := hc k (by rw [Hn.out]; exact hlt)
        have HS : Hid (wrap64 (wrap64 (zs.take k).sum + zs.getD k 0) = wrap64 (zs.take (k + 1)).sum) := by
          rw [Hid, sum_take zs k (by rw [Hn.out]; exact hlt), wrap_step]
        clear hc
        generalize zs.getD k 0 = c at *
        go_wp2
        go_round
        case rel => exact ⟨k + 1, by omega, by go_num, by rw [← HS.out]⟩
        case measure => simp [intOf]; omega
    · go_wp2
      go_ret
      have : k = n := by omega
      subst this
      exact ⟨ret_int (by rw [List.take_of_length_le (by rw [Hn.out]; exact Nat.le_refl _)]), (Below.refl _ _).alloc (Nat.le_refl _) _⟩

/-- A row known whole, read as a 'Row'. -/
theorem row_of_block {w : World} {g : Nat} {cur : List Value} {zs : List Int} {t : TypeId} (hg : w.heap[g]? = some (.cells cur.toArray t (0, 0))) (hc : cur.take zs.length = zs.map (Value.int .i64)) :
    Row w (some ⟨g, 0, none⟩) zs := by
  refine .inr ⟨g, 0, rfl, (Array.getElem?_eq_some_iff.1 hg).1, fun i hi => ?_⟩
  rw [Nat.zero_add, cell_of_row w g i _ t (0, 0) hg]
  have h := congrArg (fun l => l[i]?) hc
  simp only [List.getElem?_take, hi, if_true] at h
  simp [h, List.getD, hi]

set_option maxHeartbeats 400000 in
theorem clone_nil (w : World) : Calls Yba.prog 5 #[.slice none 0 0] w fun e w' => e = .returned (.slice none 0 0) ∧ Below w.heap.size w w' := by
  have q22 : ∀ (w : World) (a : Option Addr) (n c n' c' : Nat), (binOp .eql 22 (.slice a n c) (.slice none n' c')).run Yba.prog w = .ok (.bool a.isNone) w := fun w a n c n' c' => Lib.run_eql_slice_nil w _ _ a n c n' c' Yba.underlying22
  go_enter Yba.func5, Yba.ntmps5
  go_wp2
  go_ret
  exact ⟨rfl, Below.refl _ _⟩

set_option maxHeartbeats 400000 in
theorem clone_some (x : Addr) (cap : Nat) (zs : List Int) (w : World) (hr : Row w (some x) zs) (hl : zs.length ≤ 4096) :
    Calls Yba.prog 5 #[.slice (some x) zs.length cap] w fun e w' => e = .returned (.slice (some ⟨w.heap.size, 0, none⟩) zs.length zs.length) ∧ Row w' (some ⟨w.heap.size, 0, none⟩) zs ∧ Below w.heap.size w w' := by
  have q22 : ∀ (w : World) (a : Option Addr) (n c n' c' : Nat), (binOp .eql 22 (.slice a n c) (.slice none n' c')).run Yba.prog w = .ok (.bool a.isNone) w := fun w a n c n' c' => Lib.run_eql_slice_nil w _ _ a n c n' c' Yba.underlying22
  obtain ⟨i0, hi, hz0, hz1, hz2⟩ := info_parts Yba.info3
  generalize hn : zs.length = n at *
  have Hn : Hid (zs.length = n) := hn
  clear hn
  go_enter Yba.func5, Yba.ntmps5
  go_wp2_with (at_make; refine wpList_make_full _ rfl _ _ 22 rfl w.heap.size 3 i0 (.int .i64 0) 1 Yba.underlying22 hi hz0 hz1 _ _ _ _ n rfl rfl rfl rfl ?b2 ?b3 (Nat.le_refl _) ?_)
  case b2 => rw [hz2]; omega
  case b3 => unfold maxLen; omega
  intro w1 hown hgrow
  obtain ⟨_, h2⟩ := hown
  rcases h2 with ⟨h, _⟩ | ⟨g, c, cur, hv, hg, hh, _, _, hsz, _⟩
  · cases h
  simp only [Value.slice.injEq, Option.some.injEq, Addr.mk.injEq, and_true, true_and] at hv
  obtain ⟨rfl, rfl⟩ := hv
  have hb1 : Below w.heap.size w w1 := (Below.refl _ _).grown hgrow (Nat.le_refl _) (fun k h => by cases h)
  have hr1 := hr.below hb1
  clear hr hgrow
  have hh' : w1.heap[w.heap.size]? = some (.cells cur.toList.toArray 3 (0, 0)) := by simpa using hh
  clear hh
  have hcl : cur.toList.length = n := by simpa using hsz
  generalize cur.toList = cl at *
  have HS : Hid (cl.length = n) := hcl
  clear hcl hsz
  go_wp2_with (refine wpList_copy_splice rfl _ _ 22 22 rfl 3 Yba.underlying22 (by rw [hi]; simp [hz1]) _ _ _ _ _ _ rfl rfl w.heap.size 0 cl 3 hh' (zs.map (Value.int .i64)) ?c1 ?c2 ?c3 (ints_oneCell _ _) w.heap.size w hb1 (Nat.le_refl _) ?_)
  case c1 => simp [Hn.out]
  case c2 =>
    intro _ j q hq
    rcases hr1 with hz | ⟨b, off, e, _, hc⟩
    · simp [hz] at hq
    · obtain rfl := Option.some.inj e
      obtain ⟨hlt, rfl⟩ := List.getElem?_eq_some_iff.1 hq
      rw [Addr.add_lit, hc j hlt]
      simp [List.getD, hlt]
  case c3 => simp [Hn.out, HS.out]
  intro w2 HG hb2
  go_wp2
  go_ret
  refine ⟨rfl, row_of_block HG.out ?_, hb2⟩
  simp [splice]

/-- The contracts, with the length as a letter of its own. -/
theorem peers_at (a : Option Addr) (n cap : Nat) (ent : Int) (zs : List Int) (w : World) (hn : zs.length = n) (hr : Row w a zs) (hl : n ≤ 100000) :
    Calls Yba.prog 6 #[.agg #[.slice a n cap, .int .i64 ent]] w fun e w' => e = .returned (.int .i64 (wrap64 zs.sum)) ∧ Below w.heap.size w w' := by
  subst hn
  exact peers_any a cap ent zs w hr hl

/-- A slice that came in: nil, or an address. -/
def Came (a : Option Addr) (cap : Nat) (zs : List Int) : Prop := (a = none ∧ cap = 0 ∧ zs = []) ∨ ∃ x, a = some x

theorem clone_at (a : Option Addr) (n cap : Nat) (zs : List Int) (w : World) (hn : zs.length = n) (hr : Row w a zs) (hc : Came a cap zs) (hl : n ≤ 4096) :
    Calls Yba.prog 5 #[.slice a n cap] w fun e w' => ∃ a' cap', e = .returned (.slice a' n cap') ∧ Row w' a' zs ∧ Below w.heap.size w w' := by
  subst hn
  rcases hc with ⟨rfl, rfl, rfl⟩ | ⟨x, rfl⟩
  · exact (clone_nil w).mono fun e w' ⟨he, hb⟩ => ⟨none, 0, he, .inl rfl, hb⟩
  · exact (clone_some x cap zs w hr hl).mono fun e w' ⟨he, hr', hb⟩ => ⟨_, _, he, hr', hb⟩

theorem Row.cells {w : World} {a : Option Addr} {zs : List Int} (h : Row w a zs) : ∀ ad, a = some ad → ∀ j u, (zs.map (Value.int .i64))[j]? = some u → w.cell? (ad.add j) = some u := by
  intro ad had j u hj
  rcases h with rfl | ⟨b, off, e, _, hc⟩
  · simp at hj
  · obtain rfl := Option.some.inj (had.symm.trans e)
    simp only [List.getElem?_map, Option.map_eq_some_iff] at hj
    obtain ⟨q, hq, rfl⟩ := hj
    obtain ⟨hlt, rfl⟩ := List.getElem?_eq_some_iff.1 hq
    rw [Addr.add_lit, hc j hlt]
    simp [List.getD, hlt]

theorem Came.none_ {a : Option Addr} {n cap : Nat} {zs : List Int} (h : Came a cap zs) (hn : zs.length = n) : a = none → n = 0 ∧ cap = 0 := by
  intro ha
  rcases h with ⟨_, rfl, rfl⟩ | ⟨x, rfl⟩
  · exact ⟨hn.symm, rfl⟩
  · cases ha

/-- What an 'ownsRow' says, as a 'Row'. -/
theorem row_of_owns {w : World} {base n cap g : Nat} {e : TypeId} {zs : List Int} (h : w.ownsRow base e 1 (.slice (some ⟨g, 0, none⟩) n cap) n (zs.map (Value.int .i64))) : Row w (some ⟨g, 0, none⟩) zs := by
  obtain ⟨h1, h2⟩ := h
  rcases h2 with ⟨h, _⟩ | ⟨g', c, cur, hv, _, hh, _, _, _, ht⟩
  · cases h
  simp only [Value.slice.injEq, Option.some.injEq, Addr.mk.injEq, and_true, true_and] at hv
  obtain ⟨rfl, rfl⟩ := hv
  refine row_of_block (cur := cur.toList) (t := e) (by simpa using hh) ?_
  simp only [List.length_map, Nat.mul_one] at h1 ht
  rw [h1]; exact ht

end Go.Proofs.Ybulkbfpy
