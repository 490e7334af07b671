/-
  What the listed variable 'actionKinds' holds, as the walks ask it ('Laid'), and the contracts of (ActionKind).String at the five kinds and of ActionKinds.
-/
import Derived.Test.YbulkbftsFmtRows
import Derived.Test.YbulkbftsFmtShelf
import Derived.WalkKit
import Derived.BigCall
import Derived.Below
namespace Go.Proofs.YbulkbftsFmt
open Go.RowKit

/-- The five names. -/
def nm : Nat → ByteArray
  | 0 => ⟨#[98, 111, 110, 117, 115]⟩
  | 1 => ⟨#[99, 111, 110, 115, 111, 108, 105, 100, 97, 116, 101]⟩
  | 2 => ⟨#[100, 105, 118, 105, 100, 101, 110, 100]⟩
  | 3 => ⟨#[114, 105, 103, 104, 116, 115]⟩
  | _ => ⟨#[105, 115, 115, 117, 101]⟩

/-- The variable's block and the five structs' first fields. -/
structure Laid (W : World) (a : Addr) (cap : Nat) : Prop where
  var : W.cell? ⟨0, 0, none⟩ = some (.slice (some a) 5 cap)
  name : ∀ k, k < 5 → W.cell? (a.add (k * 3)) = some (.string (nm k))

theorem cell_lt {W : World} {a : Addr} {v : Value} (h : W.cell? a = some v) : a.block < W.heap.size := by
  rcases Nat.lt_or_ge a.block W.heap.size with hl | hl
  · exact hl
  · simp [World.cell?, Array.getElem?_eq_none hl] at h

theorem Laid.below {B : Nat} {W W' : World} {a : Addr} {cap : Nat} (h : Laid W a cap) (hb : Below B W W') (hB : W.heap.size ≤ B) : Laid W' a cap :=
  ⟨by rw [hb.cell (Nat.lt_of_lt_of_le (cell_lt h.var) hB)]; exact h.var, fun k hk => by rw [hb.cell (Nat.lt_of_lt_of_le (cell_lt (h.name k hk)) hB)]; exact h.name k hk⟩

/-- (ActionKind).String at one of the five kinds. -/
theorem string_of (k : Nat) (hk : k < 5) (a : Addr) (cap : Nat) (w : World) (hl : Laid w a cap) :
    Calls Ybaf.prog 9 #[.int .i64 (k : Int)] w fun e w' => e = .returned (.string (nm k)) ∧ w' = w := by
  have hv := hl.var
  have hn := hl.name k hk
  clear hl
  have h1 : ¬ (k : Int) < 0 := by omega
  have h2 : ¬ (5 : Int) ≤ (k : Int) := by omega
  go_enter Ybaf.func9, Ybaf.ntmps9
  go_wp2
  go_ret
  exact ⟨rfl, rfl⟩

theorem make5 (w : World) : (Instr.makeSlice 34 (.int .i64 5) (.int .i64 5)).run Ybaf.prog w = .ok (.slice (some ⟨w.heap.size, 0, none⟩) 5 5) (w.alloc (.cells #[.int .i64 0, .int .i64 0, .int .i64 0, .int .i64 0, .int .i64 0] 25 (0, 0))) := by kernel_rfl

/-- The kinds behind k rounds. -/
def kinds : Nat → Array Value
  | 0 => #[.int .i64 0, .int .i64 0, .int .i64 0, .int .i64 0, .int .i64 0]
  | 1 => #[.int .i64 0, .int .i64 0, .int .i64 0, .int .i64 0, .int .i64 0]
  | 2 => #[.int .i64 0, .int .i64 1, .int .i64 0, .int .i64 0, .int .i64 0]
  | 3 => #[.int .i64 0, .int .i64 1, .int .i64 2, .int .i64 0, .int .i64 0]
  | 4 => #[.int .i64 0, .int .i64 1, .int .i64 2, .int .i64 3, .int .i64 0]
  | _ => #[.int .i64 0, .int .i64 1, .int .i64 2, .int .i64 3, .int .i64 4]

set_option maxRecDepth 100000 in
/-- ActionKinds: one new block. -/
theorem kinds_of (a : Addr) (cap : Nat) (w : World) (hl : Laid w a cap) :
    Calls Ybaf.prog 8 #[] w fun e w' => e = .returned (.slice (some ⟨w.heap.size, 0, none⟩) 5 5) ∧ w' = w.alloc (.cells (kinds 5) 25 (0, 0)) := by
  have hv := hl.var
  have hm := make5
  clear hl
  go_enter Ybaf.func8, Ybaf.ntmps8
  go_wp2
  go_loopw [8] (fun i wr => ∃ k : Nat, k ≤ 5 ∧ i = .int .i64 k ∧ wr = w.alloc (.cells (kinds k) 25 (0, 0))) (fun i _ => 5 - (intOf i).toNat)
  case atStart => exact ⟨0, by omega, rfl, rfl⟩
  case round =>
    obtain ⟨k, hk, rfl, rfl⟩ := hrel
    rcases (show k = 0 ∨ k = 1 ∨ k = 2 ∨ k = 3 ∨ k = 4 ∨ k = 5 from by omega) with rfl | rfl | rfl | rfl | rfl | rfl
    · go_wp2
      exact ⟨⟨1, by omega, rfl, rfl⟩, by simp [intOf]⟩
    · go_wp2
      exact ⟨⟨2, by omega, rfl, rfl⟩, by simp [intOf]⟩
    · go_wp2
      exact ⟨⟨3, by omega, rfl, rfl⟩, by simp [intOf]⟩
    · go_wp2
      exact ⟨⟨4, by omega, rfl, rfl⟩, by simp [intOf]⟩
    · go_wp2
      exact ⟨⟨5, by omega, rfl, rfl⟩, by simp [intOf]⟩
    · go_wp2
      go_ret
      exact ⟨rfl, rfl⟩

end Go.Proofs.YbulkbftsFmt
