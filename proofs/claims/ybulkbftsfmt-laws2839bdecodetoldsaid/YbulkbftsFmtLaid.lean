/-
  From the row's condition on 'actionKinds' to 'Laid'; a start that meets the condition; the closed facts of the seat.
-/
import Derived.Test.YbulkbftsFmtTie
import Derived.Test.YbulkbftsFmtCards
import Derived.Test.YbulkbftsFmtKinds
import Derived.LaidMore
import Derived.OpenVars
import Derived.SevenTiedAt
import Derived.Stop.JoinedTold
import Derived.Stop.Joined
import Derived.Stop.JoinedAt
import Derived.Deep.DeepWitnessRef
import Derived.ProofKit
import Derived.OpenShut
import Derived.SizedLaws
namespace Go.Proofs.YbulkbftsFmt
open Go.ChangeShapes Go.WideShapes Go.ChangeAt Go.RowKit
open Go.Extern.Stop Go.Stop Go.Extern

theorem own : ownKnob Ybaf.prog.godebug = none := by kernel_rfl
theorem laidOut : laidOutB Ybaf.pinned.checked.prog = true := by kernel_rfl
theorem stopKnobs : Ybaf.pinned.checked.prog.stopKnobs = [] := by kernel_rfl
theorem quiet (os : Os) : Stop.quiet Ybaf.pinned.checked.prog os := by
  intro k hk
  rw [stopKnobs] at hk
  cases hk
def vname : String := Rows.lawS2839BDecodeSpec.vars.headD ""
theorem gK : Ybaf.prog.globalNamed vname = some 0 := by kernel_rfl
theorem gKt : (Ybaf.prog.globals[0]?).map (·.type) = some 40 := by kernel_rfl
theorem c42 : Ybaf.prog.cellsOf 42 = 3 := by kernel_rfl
theorem c9 : Ybaf.prog.cellsOf 9 = 1 := by kernel_rfl

/-- What the variable is said to hold: five structs. -/
def data5 : List (DataW Unit) := [.agg [.lit (.string (nm 0).data.toList), .slice [.lit (.string [114, 97, 116, 105, 111])] [], .lit (.int .i64 1)], .agg [.lit (.string (nm 1).data.toList), .slice [.lit (.string [114, 97, 116, 105, 111])] [], .lit (.int .i64 2)],
  .agg [.lit (.string (nm 2).data.toList), .slice [.lit (.string [97, 109, 111, 117, 110, 116])] [], .lit (.int .i64 0)], .agg [.lit (.string (nm 3).data.toList), .slice [.lit (.string [114, 97, 116, 105, 111]), .lit (.string [112, 114, 105, 99, 101]), .lit (.string [99, 108, 111, 115, 101])] [], .lit (.int .i64 3)],
  .agg [.lit (.string (nm 4).data.toList), .nil, .lit (.int .i64 4)]]
theorem data_eq : (Rows.laid_example_com_vestledger_vestledger_pkg_ledger_actionKinds : DataW Unit) = .slice data5 [] := rfl
theorem data_at (k : Nat) (hk : k < 5) : ∃ r, data5[k]? = some (.agg (.lit (.string (nm k).data.toList) :: r)) := by
  rcases (show k = 0 ∨ k = 1 ∨ k = 2 ∨ k = 3 ∨ k = 4 from by omega) with rfl | rfl | rfl | rfl | rfl <;> exact ⟨_, rfl⟩

theorem cells3 {W : World} {a : Addr} {l : List Value} (h : W.cells? 0 a 3 = some l) : ∃ c0 c1 c2, l = [c0, c1, c2] ∧ W.cell? a = some c0 := by
  unfold World.cells? at h
  rw [if_pos (Nat.zero_le _)] at h
  have e : List.range 3 = [0, 1, 2] := rfl
  rw [e] at h
  simp only [List.mapM_cons, List.mapM_nil, Option.bind_eq_bind, Option.bind_eq_some_iff, Option.pure_def, Option.some.injEq] at h
  obtain ⟨c0, h0, _, ⟨c1, _, _, ⟨c2, _, _, rfl, rfl⟩, rfl⟩, rfl⟩ := h
  exact ⟨c0, c1, c2, rfl, by rw [Addr.add_zero'] at h0; exact h0⟩

theorem ba_of_list {s t : ByteArray} (h : s.data.toList = t.data.toList) : s = t := ByteArray.ext (Array.toList_inj.1 h)

theorem laid_of {W : World} (h : laidMetH Ybaf.prog Rows.lawS2839BDecodeRow.laid W) : ∃ a cap, Laid W a cap := by
  rw [MakeChecks.laidMetH_plain _ _ _ (by kernel_rfl)] at h
  obtain ⟨ps, hv, _⟩ := h
  have hv' : DataW.LaidVars Ybaf.prog W [(vname, .slice data5 [])] ps := hv
  obtain ⟨g, t, cs, fuel, p, q, hg, ht, hvar, hd, _, _⟩ := hv'
  obtain rfl := Option.some.inj (gK.symm.trans hg)
  obtain rfl := Option.some.inj (gKt.symm.trans ht)
  rcases DataW.trod_slice Ybaf.underlying40 hd with ⟨_, hx⟩ | ⟨a, len, cap, elems, rest, n, rfl, hcs, hx, _, _, _, hlen, hel, _, _⟩
  · simp at hx
  · simp only [Prod.mk.injEq, DataW.slice.injEq] at hx
    obtain ⟨⟨hx1, _⟩, _⟩ := hx
    have hl5 : len = 5 := by
      have := congrArg List.length hx1
      simp [data5] at this
      omega
    subst hl5
    refine ⟨a, cap, ?_, fun k hk => ?_⟩
    · have := World.var?_cell hg hvar 0
      rw [Array.eq_one_of_toList hcs] at this
      simpa using this
    · obtain ⟨r, hr⟩ := data_at k hk
      rw [hx1, List.getElem?_map] at hr
      obtain ⟨x, hx, hx2⟩ := Option.map_eq_some_iff.1 hr
      have hE := hel k (by omega)
      rw [c42, hx] at hE
      obtain ⟨l, hl, hT⟩ := Option.bind_eq_some_iff.1 hE
      obtain ⟨c0, c1, c2, rfl, hc0⟩ := cells3 hl
      obtain ⟨xs, m, rfl, hxs, _, _, hf⟩ := DataW.trod_struct Ybaf.underlying42 hT
      have hf0 : DataW.trod (fun _ => ()) Ybaf.prog W 0 (fun _ => true) false m 9 (List.take (Ybaf.prog.cellsOf 9) (List.drop 0 [c0, c1, c2])) = xs[0]? := hf 0 _ rfl
      rw [c9] at hf0
      rw [hxs] at hx2
      simp only [DataW.agg.injEq] at hx2
      cases xs with
      | nil => simp at hx2
      | cons y ys =>
        simp only [List.map_cons, List.cons.injEq] at hx2
        obtain ⟨s, hs, hy, _⟩ := DataW.trod_string Ybaf.underlying9 (show DataW.trod _ _ _ _ _ _ _ _ _ = some y from hf0)
        simp at hs
        subst hs
        rw [hc0]
        rw [hy] at hx2
        have := hx2.1
        simp only [DataW.lit.injEq, Lit.string.injEq] at this
        rw [ba_of_list this]

/-- The start that the program's own text lays meets the condition. -/
theorem door_met (os : Os) (args : Array Value) : laidMetH Ybaf.prog Rows.lawS2839BDecodeRow.laid ((World.doorLaid Ybaf.prog 400 os).forCall (fun _ _ => 0) ⟨#[], args, []⟩).memory := by
  rw [MakeChecks.laidMetH_plain _ _ _ (by kernel_rfl)]
  exact laidMet_of_run' 8 (by kernel_rfl) (by kernel_rfl)

end Go.Proofs.YbulkbftsFmt
