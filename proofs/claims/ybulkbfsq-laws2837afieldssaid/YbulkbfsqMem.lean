/-
  Rows of digits in memory, and what a call leaves alone.
-/
import Derived.Test.YbulkbfsqRows
import Derived.Test.YbulkbfsqPlain
import Derived.WalkKit
import Derived.ProofKit
import Derived.WalkSpells
import Derived.WalkSmall
import Derived.Deep.QuietTactic
import Derived.BigQuiet
namespace Go.Proofs.Ybulkbfsq
open Go.ChangeShapes Go.WideShapes Go.ChangeAt Go.RowKit

/-- A block of digits, whole. -/
def Row (w : World) (g : Nat) (R : List Int) : Prop := w.heap[g]? = some (.cells (R.map (Value.int .u64)).toArray 45 (0, 0))
/-- A block that holds a big.Int: its sign is plus, its digits' slice is 'v'. -/
def IntBlk (w : World) (p : Nat) (v : Value) : Prop := w.heap[p]? = some (.cells #[.bool false, v] 32 (0, 0))

/-- Nothing has turned but in the blocks of S; new blocks may have come. -/
structure Keeps (S : Nat → Prop) (w w' : World) : Prop where
  os : w'.os = w.os
  tape : w'.tape = w.tape
  output : w'.output = w.output
  size : w.heap.size ≤ w'.heap.size
  block : ∀ k, k < w.heap.size → ¬ S k → w'.heap[k]? = w.heap[k]?

theorem Keeps.refl (S : Nat → Prop) (w : World) : Keeps S w w := ⟨rfl, rfl, rfl, Nat.le_refl _, fun _ _ _ => rfl⟩
theorem Keeps.trans {S : Nat → Prop} {a b c : World} (h : Keeps S a b) (k : Keeps S b c) : Keeps S a c :=
  ⟨k.os.trans h.os, k.tape.trans h.tape, k.output.trans h.output, Nat.le_trans h.size k.size, fun i hi hs => (k.block i (Nat.lt_of_lt_of_le hi h.size) hs).trans (h.block i hi hs)⟩
/-- Two steps; what the second may turn lies in S or is new. -/
theorem Keeps.then_ {S T : Nat → Prop} {a b c : World} (h : Keeps S a b) (k : Keeps T b c) (hT : ∀ i, i < a.heap.size → T i → S i) : Keeps S a c :=
  ⟨k.os.trans h.os, k.tape.trans h.tape, k.output.trans h.output, Nat.le_trans h.size k.size, fun i hi hs => (k.block i (Nat.lt_of_lt_of_le hi h.size) (fun t => hs (hT i hi t))).trans (h.block i hi hs)⟩
theorem Keeps.mono {S T : Nat → Prop} {a b : World} (h : Keeps S a b) (hT : ∀ i, i < a.heap.size → S i → T i) : Keeps T a b :=
  ⟨h.os, h.tape, h.output, h.size, fun i hi hs => h.block i hi (fun s => hs (hT i hi s))⟩
theorem Keeps.drewN {S : Nat → Prop} {a b : World} (h : Keeps S a b) (n : Nat) : Keeps S a (b.drewN n) := h.trans ⟨rfl, rfl, rfl, Nat.le_refl _, fun _ _ _ => rfl⟩
theorem Keeps.drew {S : Nat → Prop} {a b : World} (h : Keeps S a b) : Keeps S a b.drew := h.trans ⟨rfl, rfl, rfl, Nat.le_refl _, fun _ _ _ => rfl⟩
theorem Keeps.alloc {S : Nat → Prop} {a b : World} (h : Keeps S a b) (o : Obj) : Keeps S a (b.alloc o) :=
  h.trans ⟨rfl, rfl, rfl, by simp, fun k hk _ => Below.heap_alloc b o k hk⟩
theorem Keeps.setCell {S : Nat → Prop} {a b : World} (h : Keeps S a b) {p : Addr} (u : Value) (hp : p.block < a.heap.size → S p.block) : Keeps S a (b.setCell p u) :=
  ⟨h.os, h.tape, h.output, by simpa [World.setCell] using h.size, fun k hk hs => (Below.heap_setCell b p u k (fun e => hs (e ▸ hp (e ▸ hk)))).trans (h.block k hk hs)⟩
theorem Keeps.grown {S : Nat → Prop} {a b c : World} {row : Option Nat} (h : Keeps S a b) (hg : b.grownBy c row) (hr : ∀ k, row = some k → k < a.heap.size → S k) : Keeps S a c :=
  ⟨hg.os.trans h.os, hg.tape.trans h.tape, hg.output.trans h.output, Nat.le_trans h.size hg.size, fun k hk hs => (hg.block k (Nat.lt_of_lt_of_le hk h.size) (fun e => hs (hr k e.symm hk))).trans (h.block k hk hs)⟩
theorem Keeps.setRow {S : Nat → Prop} {a b : World} (h : Keeps S a b) {g : Nat} (cs : Array Value) (hg : g < a.heap.size → S g) : Keeps S a (b.setRow g cs) :=
  ⟨h.os, h.tape, h.output, by simpa [World.setRow] using h.size, fun k hk hs => (setRow_other b g k cs (fun e => hs (e ▸ hg (e ▸ hk)))).trans (h.block k hk hs)⟩
theorem Keeps.below {S : Nat → Prop} {a b : World} {B : Nat} (h : Keeps S a b) (hB : B ≤ a.heap.size) (hS : ∀ k, k < B → ¬ S k) : Below B a b :=
  ⟨h.os, h.tape, h.output, h.size, fun k hk => h.block k (Nat.lt_of_lt_of_le hk hB) (hS k hk)⟩

theorem Row.lt {w : World} {g : Nat} {R : List Int} (h : Row w g R) : g < w.heap.size := (Array.getElem?_eq_some_iff.1 h).1
theorem IntBlk.lt {w : World} {g : Nat} {v : Value} (h : IntBlk w g v) : g < w.heap.size := (Array.getElem?_eq_some_iff.1 h).1
theorem Row.kept {S : Nat → Prop} {w w' : World} {g : Nat} {R : List Int} (h : Row w g R) (k : Keeps S w w') (hs : ¬ S g) : Row w' g R := (k.block g h.lt hs).trans h
theorem IntBlk.kept {S : Nat → Prop} {w w' : World} {g : Nat} {v : Value} (h : IntBlk w g v) (k : Keeps S w w') (hs : ¬ S g) : IntBlk w' g v := (k.block g h.lt hs).trans h

theorem Row.cell {w : World} {g : Nat} {R : List Int} (h : Row w g R) (i : Nat) (hi : i < R.length) : w.cell? ⟨g, i, none⟩ = some (.int .u64 (R.getD i 0)) := by
  rw [cell_of_row w g i _ 45 (0, 0) h]
  simp [List.getD, hi]
theorem frozen_of_block {w : World} {g i : Nat} {c : Array Value} {t : TypeId} (h : w.heap[g]? = some (.cells c t (0, 0))) : w.frozen? ⟨g, i, none⟩ = false := by
  simp [World.frozen?, h]
theorem Row.frozen {w : World} {g : Nat} {R : List Int} (h : Row w g R) (i : Nat) : w.frozen? ⟨g, i, none⟩ = false := frozen_of_block h
theorem IntBlk.cell0 {w : World} {g : Nat} {v : Value} (h : IntBlk w g v) : w.cell? ⟨g, 0, none⟩ = some (.bool false) := by
  rw [cell_of_row w g 0 _ 32 (0, 0) h]; rfl
theorem IntBlk.cell1 {w : World} {g : Nat} {v : Value} (h : IntBlk w g v) : w.cell? ⟨g, 1, none⟩ = some v := by
  rw [cell_of_row w g 1 _ 32 (0, 0) h]; rfl
theorem IntBlk.frozen {w : World} {g : Nat} {v : Value} (h : IntBlk w g v) (i : Nat) : w.frozen? ⟨g, i, none⟩ = false := frozen_of_block h

theorem block_setCell {w : World} {g i : Nat} {c : Array Value} {t : TypeId} {f : Nat × Nat} (h : w.heap[g]? = some (.cells c t f)) (v : Value) : (w.setCell ⟨g, i, none⟩ v).heap[g]? = some (.cells (c.setIfInBounds i v) t f) := by
  simp [World.setCell, Array.getElem?_modify, h]
theorem Row.setCell {w : World} {g : Nat} {R : List Int} (h : Row w g R) (i : Nat) (d : Int) : Row (w.setCell ⟨g, i, none⟩ (.int .u64 d)) g (R.set i d) := by
  unfold Row
  rw [block_setCell h]
  simp [List.map_set]
theorem IntBlk.setCell1 {w : World} {g : Nat} {v : Value} (h : IntBlk w g v) (u : Value) : IntBlk (w.setCell ⟨g, 1, none⟩ u) g u := by
  unfold IntBlk
  rw [block_setCell h]
  rfl
theorem IntBlk.setCell0 {w : World} {g : Nat} {v : Value} (h : IntBlk w g v) : IntBlk (w.setCell ⟨g, 0, none⟩ (.bool false)) g v := by
  unfold IntBlk
  rw [block_setCell h]
  rfl

/-! ### splice, on digits -/
theorem splice_nil (R : List Int) (o : Nat) : splice R o [] = R := by simp [splice]
theorem splice_set (R D : List Int) (o : Nat) (d : Int) (h : o + D.length < R.length) : (splice R o D).set (o + D.length) d = splice R o (D ++ [d]) := by
  have e1 : (R.take o).length = o := by simp; omega
  unfold splice
  rw [List.set_append_right _ _ (by omega), e1, List.set_append_right _ _ (by omega)]
  rw [show o + D.length - o - D.length = 0 by omega]
  rw [List.drop_eq_getElem_cons h]
  simp [Nat.add_assoc]
theorem splice_getD_past (R D : List Int) (o j : Nat) (ho : o + D.length ≤ R.length) (h : o + D.length ≤ j) : (splice R o D).getD j 0 = R.getD j 0 := by
  have e1 : (R.take o).length = o := by simp; omega
  simp only [splice, List.getD_eq_getElem?_getD]
  rw [List.getElem?_append_right (by omega), List.getElem?_append_right (by omega), List.getElem?_drop, e1]
  rw [show o + D.length + (j - o - D.length) = j by omega]
theorem splice_map {f : Int → Value} (R D : List Int) (o : Nat) : splice (R.map f) o (D.map f) = (splice R o D).map f := by
  simp [splice, List.map_take, List.map_drop]
theorem splice_take (R D : List Int) (o : Nat) (ho : o ≤ R.length) : (splice R o D).take (o + D.length) = R.take o ++ D := by
  have e1 : (R.take o).length = o := by simp; omega
  unfold splice
  rw [← List.append_assoc, List.take_append_of_le_length (by simp; omega), List.take_of_length_le (by simp; omega)]

/-- A slice's elements: the digits X lie from offset o on in block g. -/
def At (w : World) (g o : Nat) (X : List Int) : Prop := ∀ i, i < X.length → w.cell? ⟨g, o + i, none⟩ = some (.int .u64 (X.getD i 0))
theorem Row.at_ {w : World} {g : Nat} {R : List Int} (h : Row w g R) (o n : Nat) (hn : o + n ≤ R.length) : At w g o ((R.drop o).take n) := by
  intro i hi
  have hi' : i < n := by simp at hi; omega
  rw [h.cell (o + i) (by omega)]
  simp [List.getD_eq_getElem?_getD, hi']

/-- THE WRITTEN ROW IN MID-LOOP: what x's place i holds while z's first digits are written over. -/
theorem read_at {w wr : World} {gz oz gx ox n : Nat} {R X D : List Int} (hx : At w gx ox X) (hz : Row w gz R) (hzn : oz + n ≤ R.length) (hk : Keeps (· = gz) w wr) (hr : Row wr gz (splice R oz D))
    (hl : X.length = n) (ha : gx ≠ gz ∨ ox = oz) (i : Nat) (hD : D.length ≤ i) (hi : i < n) : wr.cell? ⟨gx, ox + i, none⟩ = some (.int .u64 (X.getD i 0)) := by
  have h0 := hx i (by omega)
  by_cases hg : gx = gz
  · subst hg
    obtain rfl : ox = oz := by rcases ha with h | h; exact absurd rfl h; exact h
    have hlen : (splice R ox D).length = R.length := by
      rw [length_splice _ _ _ (by omega)]
    rw [hr.cell (ox + i) (by omega), splice_getD_past _ _ _ _ (by omega) (by omega)]
    rw [hz.cell (ox + i) (by omega)] at h0
    exact h0
  · have hlt : gx < w.heap.size := World.block_lt_of_cell? w ⟨gx, ox + i, none⟩ h0
    have := World.cell?_of_block (a := ⟨gx, ox + i, none⟩) (hk.block gx hlt hg)
    rw [this]; exact h0

end Go.Proofs.Ybulkbfsq
