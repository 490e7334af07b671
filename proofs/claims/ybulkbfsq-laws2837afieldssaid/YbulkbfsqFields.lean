/-
  LawS2837AFields (3): the walk.
-/
import Derived.Test.YbulkbfsqIntOps
import Derived.Test.YbulkbfsqIntCmp
import Derived.Test.YbulkbfsqPhi
import Derived.Deep.RegionHeld3
import Derived.Deep.RegionWith
import Derived.Deep.DeepCutAuto
namespace Go.Proofs.Ybulkbfsq
open Go.ChangeShapes Go.WideShapes Go.ChangeAt Go.RowKit
attribute [local go_sem ↓] Go.wp_at_zero Go.wp_at_succ

theorem sqr_cell {w : World} {s ps pmod pmask pt pu pv gd kd cd gm km cm : Nat} {Dd Dm : List Int} (h : SqrAt w s ps pmod pmask pt pu pv gd kd cd gm km cm Dd Dm) :
    w.cell? ⟨ps, 0, none⟩ = some (.int .u64 (s : Int)) ∧ w.cell? ⟨ps, 1, none⟩ = some (.pointer (some ⟨pmod, 0, none⟩)) ∧ w.cell? ⟨ps, 2, none⟩ = some (.pointer (some ⟨pmask, 0, none⟩)) ∧
    w.cell? ⟨ps, 3, none⟩ = some (.pointer (some ⟨pt, 0, none⟩)) ∧ w.cell? ⟨ps, 4, none⟩ = some (.pointer (some ⟨pu, 0, none⟩)) ∧ w.cell? ⟨ps, 5, none⟩ = some (.pointer (some ⟨pv, 0, none⟩)) := by
  refine ⟨?_, ?_, ?_, ?_, ?_, ?_⟩
  · rw [cell_of_row w _ 0 _ 28 (0, 0) h.blk]; rfl
  · rw [cell_of_row w _ 1 _ 28 (0, 0) h.blk]; rfl
  · rw [cell_of_row w _ 2 _ 28 (0, 0) h.blk]; rfl
  · rw [cell_of_row w _ 3 _ 28 (0, 0) h.blk]; rfl
  · rw [cell_of_row w _ 4 _ 28 (0, 0) h.blk]; rfl
  · rw [cell_of_row w _ 5 _ 28 (0, 0) h.blk]; rfl

theorem SqrAt.kept {w w' : World} {s ps pmod pmask pt pu pv gd kd cd gm km cm : Nat} {Dd Dm : List Int} (h : SqrAt w s ps pmod pmask pt pu pv gd kd cd gm km cm Dd Dm) (k : Keeps (fun _ => False) w w') :
    SqrAt w' s ps pmod pmask pt pu pv gd kd cd gm km cm Dd Dm :=
  ⟨block_kept h.blk k (fun h => h), h.mod.kept k (fun h => h), h.modN.kept k (fun _ _ h => h), h.modV, h.mask.kept k (fun h => h), h.maskN.kept k (fun _ _ h => h), h.maskV, h.maskR, h.t.kept k (fun h => h), h.u.kept k (fun h => h), h.v.kept k (fun h => h), h.far⟩

/-- What stands behind 'm1 := new(big.Int).Add(s.mask, big.NewInt(1))', in whatever order its parts were made. -/
def M1 (w3 : World) (s : Nat) (e : Ending) (w' : World) : Prop :=
  ∃ pz g k c D, e = .returned (.pointer (some ⟨pz, 0, none⟩)) ∧ IntBlk w' pz (.slice (some ⟨g, 0, none⟩) k c) ∧ NatAt w' (some ⟨g, 0, none⟩) k c D ∧ dval D = p2 s ∧ w3.heap.size ≤ pz ∧ Keeps (fun _ => False) w3 w'

theorem m1_A {w3 V1 : World} {s ps pmod pmask pt pu pv gd kd cd gm km cm : Nat} {Dd Dm : List Int} (h : SqrAt w3 s ps pmod pmask pt pu pv gd kd cd gm km cm Dd Dm) (hs : s ≤ 4096)
    (hkx : Keeps (fun _ => False) (w3.alloc (.cells #[.bool false, .slice none 0 0] 32)).drew V1) (hqx : IntBlk V1 (w3.heap.size + 1 + 1) (.slice (some ⟨w3.heap.size + 1, 0, none⟩) 1 1)) (hqy : Row V1 (w3.heap.size + 1) [1]) :
    Calls Yba.prog 8 #[.pointer (some ⟨w3.heap.size, 0, none⟩), .pointer (some ⟨pmask, 0, none⟩), .pointer (some ⟨w3.heap.size + 1 + 1, 0, none⟩)] V1 (M1 w3 s) := by
  have hp0 : IntBlk (w3.alloc (.cells #[.bool false, .slice none 0 0] 32)).drew w3.heap.size (.slice none 0 0) := heap_alloc_new w3 _
  have hk0 : Keeps (fun _ => False) w3 (w3.alloc (.cells #[.bool false, .slice none 0 0] 32)).drew := ((Keeps.refl _ _).alloc _).drew
  have hk1 := hk0.trans hkx
  have hR := h.maskR
  refine (intAddNew w3.heap.size pmask (w3.heap.size + 1 + 1) _ km cm (w3.heap.size + 1) Dm V1 (hp0.kept hkx (fun h => h)) (h.mask.kept hk1 (fun h => h)) (h.maskN.kept hk1 (fun _ _ h => h)) hqx hqy hR.1 (by omega)).mono ?_
  rintro e w' ⟨rfl, g, k, c, D, a1, a2, a3, a4⟩
  exact ⟨_, g, k, c, D, rfl, a1, a2, by rw [a3, h.maskV]; omega, Nat.le_refl _, hk1.then_ a4 (fun i hi h => by omega)⟩

theorem m1_B {w3 V1 : World} {s ps pmod pmask pt pu pv gd kd cd gm km cm : Nat} {Dd Dm : List Int} (h : SqrAt w3 s ps pmod pmask pt pu pv gd kd cd gm km cm Dd Dm) (hs : s ≤ 4096)
    (hkx : Keeps (fun _ => False) w3.drew V1) (hqx : IntBlk V1 (w3.heap.size + 1) (.slice (some ⟨w3.heap.size, 0, none⟩) 1 1)) (hqy : Row V1 w3.heap.size [1]) :
    Calls Yba.prog 8 #[.pointer (some ⟨V1.heap.size, 0, none⟩), .pointer (some ⟨pmask, 0, none⟩), .pointer (some ⟨w3.heap.size + 1, 0, none⟩)] (V1.alloc (.cells #[.bool false, .slice none 0 0] 32)) (M1 w3 s) := by
  have hp0 : IntBlk (V1.alloc (.cells #[.bool false, .slice none 0 0] 32)) V1.heap.size (.slice none 0 0) := heap_alloc_new V1 _
  have hka : Keeps (fun _ => False) V1 (V1.alloc (.cells #[.bool false, .slice none 0 0] 32)) := (Keeps.refl _ _).alloc _
  have hk0 : Keeps (fun _ => False) w3 V1 := (Keeps.refl _ _).drew.trans hkx
  have hk1 := hk0.trans hka
  have hR := h.maskR
  have hsz := hk0.size
  refine (intAddNew V1.heap.size pmask (w3.heap.size + 1) _ km cm w3.heap.size Dm _ hp0 (h.mask.kept hk1 (fun h => h)) (h.maskN.kept hk1 (fun _ _ h => h)) (hqx.kept hka (fun h => h)) (hqy.kept hka (fun h => h)) hR.1 (by omega)).mono ?_
  rintro e w' ⟨rfl, g, k, c, D, a1, a2, a3, a4⟩
  exact ⟨_, g, k, c, D, rfl, a1, a2, by rw [a3, h.maskV]; omega, hsz, hk1.then_ a4 (fun i hi h => by omega)⟩

end Go.Proofs.Ybulkbfsq
