/-
  (*ActionKind).UnmarshalText: a name sets the kind to its place and gives nil; any other text gives a new error and leaves all as it was.
-/
import Derived.Test.YbulkbftsFmtStop
import Derived.Maps.AppendAt
import Derived.Laws.IdiomStrings
namespace Go.Proofs.YbulkbftsFmt
open Go.RowKit Go.Extern.Stop Go.Stop Go.Extern

def nms (k : Nat) : List ByteArray := (List.range k).map nm
theorem nms_length (k : Nat) : (nms k).length = k := by simp [nms]
theorem nms_succ (k : Nat) : nms (k + 1) = nms k ++ [nm k] := by simp [nms, List.range_succ]
/-- The place of a text among the five names, or -1. -/
def idx (s : ByteArray) : Int := Lib.idxOfS (nms 5) s

theorem info9 : (Ybaf.prog.info? 9).map (fun i => (i.zero, i.size, i.bytes)) = some (some (.string ByteArray.empty), 1, 16) := by kernel_rfl

theorem kind_cell (w : World) : ∀ k, k < 5 → (w.alloc (.cells (kinds 5) 25 (0, 0))).cell? ⟨w.heap.size, k, none⟩ = some (.int .i64 (k : Int)) := by
  intro k hk
  rw [World.cell?_alloc_mark]
  rcases (show k = 0 ∨ k = 1 ∨ k = 2 ∨ k = 3 ∨ k = 4 from by omega) with rfl | rfl | rfl | rfl | rfl <;> rfl

theorem own_cells {wr : World} {B : Nat} {ao : Option Addr} {cv : Nat} (h : wr.ownsRow B 9 1 (.slice ao 5 cv) 5 ((nms 5).map Value.string)) :
    ∃ g, ao = some ⟨g, 0, none⟩ ∧ B ≤ g ∧ g < wr.heap.size ∧ 5 ≤ cv ∧ ∀ (j : Nat) x, (nms 5)[j]? = some x → wr.cell? ⟨g, 0 + j, none⟩ = some (.string x) := by
  rcases h.2 with ⟨_, h0⟩ | ⟨g, cap, cur, hv, hb, hh, hn, hm, hs, ht⟩
  · omega
  · have hv' := hv
    simp only [Value.slice.injEq, true_and] at hv'
    obtain ⟨rfl, rfl⟩ := hv'
    obtain ⟨_, hlt⟩ := h.lt g rfl
    refine ⟨g, rfl, hb, hlt, hn, fun j x hj => ?_⟩
    have hj5 : j < 5 := by
      have := (List.getElem?_eq_some_iff.1 hj).1
      rwa [nms_length] at this
    rw [Nat.zero_add, h.cellAt j (by omega), List.getElem?_map, hj]
    rfl

theorem nms_cells {wr : World} {g : Nat} (h : ∀ (j : Nat) x, (nms 5)[j]? = some x → wr.cell? ⟨g, 0 + j, none⟩ = some (.string x)) :
    ∀ j, j < (nms 5).length → wr.cell? ⟨g, 0 + j, none⟩ = some (.string ((nms 5).getD j ByteArray.empty)) := by
  intro j hj
  rw [h j _ (List.getElem?_eq_getElem hj)]
  simp [List.getD, List.getElem?_eq_getElem hj]

theorem bytes_below {B : Nat} {w wr : World} {b : Nat} {s : ByteArray} (h : Below B w wr) (hb : b < B) (hs : Lib.Bytes w b 0 s) : Lib.Bytes wr b 0 s := by
  intro i hi
  rw [h.cell (by exact hb)]
  exact hs i hi

set_option maxHeartbeats 4000000 in
set_option maxRecDepth 100000 in
theorem unm_of (F : Interp) (p : Addr) (old : Int) (b c : Nat) (s : ByteArray) (a : Addr) (cap : Nat) (w : World) (hF : F.answers w.tape) (hl : Laid w a cap)
    (hb : Lib.Bytes w b 0 s) (hbs : b < w.heap.size) (hp : w.cell? p = some (.int .i64 old)) (hfz : w.frozen? p = false) :
    Calls Ybaf.prog 6 #[.pointer (some p), .slice (some ⟨b, 0, none⟩) s.size c] w fun e w' =>
      (∃ w2, 0 ≤ idx s ∧ e = .returned .nilIface ∧ Below w.heap.size w w2 ∧ w' = w2.setCell p (.int .i64 (idx s))) ∨
      (idx s < 0 ∧ (∃ q, e = .returned (.iface 52 (.pointer (some q)))) ∧ Below w.heap.size w w') := by
  obtain ⟨i0, hi, hz0, hz1, hz2⟩ := info_parts info9
  have HF : Hid (F.answers w.tape) := hF
  have HL : Hid (Laid w a cap) := hl
  have HB : Hid (Lib.Bytes w b 0 s) := hb
  have HP : Hid (w.cell? p = some (.int .i64 old)) := hp
  have HZ : Hid (w.frozen? p = false) := hfz
  clear hF hl hb hp hfz
  go_enter Ybaf.func6, Ybaf.ntmps6
  go_wp2_with (first | (go_at_call 8; refine (kinds_of a cap _ HL.out).mono ?_; rintro e w' ⟨rfl, rfl⟩))
  have HK : Hid (∀ k, k < 5 → (w.alloc (.cells (kinds 5) 25 (0, 0))).cell? ⟨w.heap.size, k, none⟩ = some (.int .i64 (k : Int))) := kind_cell w
  obtain ⟨W1, hW1⟩ : ∃ W1, W1 = w.alloc (.cells (kinds 5) 25 (0, 0)) := ⟨_, rfl⟩
  have hB1 : Hid (Below w.heap.size w W1) := by rw [hW1]; exact (Below.refl _ w).alloc (Nat.le_refl _) _
  have hS1 : W1.heap.size = w.heap.size + 1 := by rw [hW1]; simp
  rw [← hW1] at HK ⊢
  clear hW1
  go_loopw [5, 11] (fun v i wr => ∃ (k : Nat) (ao : Option Addr) (cv : Nat), k ≤ 5 ∧ i = .int .i64 k ∧ v = .slice ao k cv ∧ wr.ownsRow W1.heap.size 9 1 v k ((nms k).map Value.string) ∧ Below W1.heap.size W1 wr)
    (fun _ i _ => 5 - (intOf i).toNat)
  case atStart => exact ⟨0, none, 0, Nat.zero_le _, rfl, rfl, World.ownsRow_nil _ _ _ _, Below.refl _ _⟩
  case round =>
    obtain ⟨k, ao, cv, hk, rfl, rfl, hown, hnx⟩ := hrel
    have hsize := hnx.size
    rcases Nat.lt_or_ge k 5 with hk5 | hk5
    · have hkc : wr.cell? ⟨w.heap.size, k, none⟩ = some (.int .i64 (k : Int)) := by
        rw [hnx.cell (by show w.heap.size < _; omega)]; exact HK.out k hk5
      have hkl : (k : Int) < 5 := by omega
      go_wp2_with (first
        | (go_at_call 9; refine (string_of k hk5 a cap _ ((HL.out.below hB1.out (Nat.le_refl _)).below hnx (Nat.le_refl _))).mono ?_; rintro e w' ⟨rfl, rfl⟩)
        | (at_builtin; refine wpList_append_own _ rfl _ _ 23 rfl W1.heap.size 9 i0 (.string ByteArray.empty) 1 16 Ybaf.underlying23 hi hz0 hz1 hz2 rfl (by decide) _ _ _ rfl (hown.alloc _) _ 1 1 [.string (nm k)] rfl rfl (cell_one_new _ _ _) (fun x hx => by simp at hx; subst hx; rfl) (by unfold maxLen; omega) (by omega) (by simp; omega) ?_; intro v' w3 hown' hgrow3 hnil3))
      obtain ⟨g3, cap3, hv3⟩ : ∃ g3 cap3, v' = .slice (some ⟨g3, 0, none⟩) (k + 1) cap3 := by
        rcases hown'.2 with ⟨_, h⟩ | ⟨g3, cap3, _, h, _⟩
        · omega
        · exact ⟨g3, cap3, h⟩
      exact ⟨⟨k + 1, some ⟨g3, 0, none⟩, cap3, by omega, by simp, hv3, by rw [nms_succ, List.map_append]; exact hown', (hnx.alloc hsize _).grown hgrow3 (by simp; omega) (fun q hq => (hown.lt q hq).1)⟩, by simp [intOf]; omega⟩
    · obtain rfl : k = 5 := by omega
      obtain ⟨g, rfl, hgB, hgS, hcv, hcl⟩ := own_cells hown
      have hcn := nms_cells hcl
      have hbw : Below w.heap.size w wr := hB1.out.trans (hnx.mono (by omega))
      have hbt : Lib.Bytes wr b 0 s := bytes_below hbw hbs HB.out
      have hconv := Lib.run_convert_whole (P := Ybaf.prog) wr 22 5 9 Ybaf.underlying22 Ybaf.underlying5 Ybaf.underlying9 b 0 s hbt c
      have HBT : Hid (Lib.Bytes wr b 0 s) := hbt
      clear hbt
      have hi5 : Lib.idxOfS ((nms 5).take 5) s = idx s := by rw [List.take_of_length_le (by rw [nms_length]; omega)]; rfl
      have HCL : Hid (∀ (j : Nat) x, (nms 5)[j]? = some x → wr.cell? ⟨g, 0 + j, none⟩ = some (.string x)) := hcl
      have HCN : Hid (∀ j, j < (nms 5).length → wr.cell? ⟨g, 0 + j, none⟩ = some (.string ((nms 5).getD j ByteArray.empty))) := hcn
      have HBW : Hid (Below w.heap.size w wr) := hbw
      have hpl : p.block < w.heap.size := cell_lt HP.out
      have hpc : wr.cell? p = some (.int .i64 old) := by rw [hbw.cell hpl]; exact HP.out
      have hpf : wr.frozen? p = false := by rw [hbw.frozen hpl]; exact HZ.out
      clear hcl hcn hbw hown hnx
      by_cases hx : idx s < 0
      · go_wp2_with (first
          | (go_at_call 10; refine (Ybaf.slices_Index_string g 0 5 cv (nms 5) s wr (by rw [nms_length]; omega) (by omega) HCN.out).mono ?_; rintro e w' ⟨rfl, rfl⟩; rw [hi5])
          | (go_at_call 12; refine (Ybaf.strings_Join g 0 cv (nms 5) _ _ HCL.out hgS (by rw [nms_length]; omega) (by rw [nms_length]; exact hcv) (by decide)).mono ?_; rintro e wj ⟨rfl, hbj⟩)
          | (go_at_call 11; refine (errorf_of F b c wj.heap.size s ⟨(Lib.join (List.map (fun x => x.data.toList) (nms 5)) [44, 32]).toArray⟩ _ (by show F.answers wj.tape; rw [hbj.tape, HBW.out.tape]; exact HF.out)
              (bytes_below (hbj.alloc hbj.size _) (by have := HBW.out.size; omega) HBT.out) (by rw [World.cell?_alloc_mark]; rfl) (by rw [World.cell?_alloc_mark]; rfl)).mono ?_; rintro e wf ⟨⟨q, rfl⟩, hbf⟩))
        go_ret
        refine Or.inr ⟨hx, ⟨q, rfl⟩, ?_⟩
        have h1 := HBW.out
        have h2 : Below w.heap.size _ wj := hbj.mono h1.size
        have h3 := (h1.trans h2)
        exact (h3.alloc h3.size _).trans (hbf.mono (by have := h3.size; simp; omega))
      · go_wp2_with (first
          | (go_at_call 10; refine (Ybaf.slices_Index_string g 0 5 cv (nms 5) s wr (by rw [nms_length]; omega) (by omega) HCN.out).mono ?_; rintro e w' ⟨rfl, rfl⟩; rw [hi5]))
        go_ret
        exact Or.inl ⟨_, by omega, rfl, HBW.out, rfl⟩

end Go.Proofs.YbulkbftsFmt
