/-
  The proof of 'Rows.LawS2839BDecodeToldSaid'.
-/
import Derived.Test.YbulkbftsFmtDecode
import Derived.Test.YbulkbftsFmtLaid
import Derived.ChangeSlices
import Derived.Carry
import Derived.Laws.BytesArg
import Derived.Laws.IdiomStrings
namespace Go.Proofs.YbulkbftsFmt.lawS2839BDecode
open Go.ChangeShapes Go.WideShapes Go.ChangeAt Go.RowKit
open Go.Extern.Stop Go.Stop Go.Extern

theorem cells5 : Ybaf.prog.cellsOf 5 = 1 := by kernel_rfl

set_option maxRecDepth 100000 in
/-- A text of more than 4096 bytes: true at once. -/
theorem walk_long (ao : Option Addr) (n c : Nat) (start : Int) (w : World) (hn : 4096 < n) :
    Calls Ybaf.prog 3 #[.slice ao n c, .int .i64 start] w fun e w' => e = .returned (.bool true) ∧ Below w.heap.size w w' := by
  have h : (4096 : Int) < (n : Int) := by omega
  go_enter Ybaf.func3, Ybaf.ntmps3
  go_wp2
  go_ret
  exact ⟨rfl, Below.refl _ _⟩

/-- The walk at a slice whose cells hold the bytes l. -/
theorem walk_some (F : Interp) (ad : Addr) (c : Nat) (l : List UInt8) (start : Int) (a : Addr) (cap : Nat) (w : World) (hn : l.length ≤ 4096) (hF : F.answers w.tape) (hl : Laid w a cap)
    (hc : ∀ j (hj : j < l.length), w.cell? (ad.add j) = some (.int .u8 (l[j].toNat : Int))) :
    Calls Ybaf.prog 3 #[.slice (some ad) l.length c, .int .i64 start] w fun e w' => e = .returned (.bool true) ∧ Below w.heap.size w w' := by
  have hs : (⟨l.toArray⟩ : ByteArray).size = l.length := by simp [ByteArray.size]
  have hblk : 0 < l.length → ad.block < w.heap.size := fun h => by
    have := cell_lt (hc 0 h)
    rwa [add_block] at this
  have h := decode_of F (some ad) c ⟨l.toArray⟩ start a cap w (by rw [hs]; exact hn) hF hl
    (fun _ => ⟨ad, rfl, fun j v hj => by
      have hjl : j < l.length := by
        have := (List.getElem?_eq_some_iff.1 hj).1
        rwa [bcells_length, hs] at this
      rw [bcells_at _ j (by rw [hs]; exact hjl)] at hj
      rw [hc j hjl]
      exact hj⟩)
    (fun ad' e h0 => by
      obtain rfl := Option.some.inj e
      rw [hs] at h0
      exact hblk h0)
    (fun W' hb => by
      rw [hs]
      exact run_convert_bytes_back (P := Ybaf.prog) W' 22 9 5 ad c l Ybaf.underlying22 Ybaf.underlying5 Ybaf.underlying9 (fun j hj => by
        rw [hb.cell (by rw [add_block]; exact hblk (by omega))]
        exact hc j hj))
  rw [hs] at h
  exact h

theorem walk_nil (F : Interp) (start : Int) (a : Addr) (cap : Nat) (w : World) (hF : F.answers w.tape) (hl : Laid w a cap) :
    Calls Ybaf.prog 3 #[.slice none 0 0, .int .i64 start] w fun e w' => e = .returned (.bool true) ∧ Below w.heap.size w w' :=
  decode_of F none 0 ByteArray.empty start a cap w (by decide) hF hl (fun h => absurd h (by decide)) (fun _ e => by cases e)
    (fun W' _ => run_convert_bytes_nil W' 22 5 Ybaf.underlying22 Ybaf.underlying5 0 0 9 Ybaf.underlying9)

set_option maxRecDepth 100000 in
theorem lifted (os : Os) (started : os.Started) (H : Type) (enc : TypeId × Value → H) :
    ReturnsInTold none {} Ybaf.checked os 3 .any Input.okWide ((OpenSpec.ofChange Rows.lawS2839BDecodeSpec).preRow enc Ybaf.prog Ybaf.f3 [] false Rows.lawS2839BDecodeRow.laid)
      (fun F => ((OpenSpec.ofChange Rows.lawS2839BDecodeSpec).at F).post enc Ybaf.prog Ybaf.f3 false true false false) (aloneAtReturn Ybaf.prog) nothingAlways := by
  refine returnsInTold_of_row (C := Ybaf.checked) (s := OpenSpec.ofChange Rows.lawS2839BDecodeSpec) (by kernel_rfl) own started (by kernel_rfl) Ybaf.func3
    (OpenSpec.witness_stopped_atRef (enc := enc) (C := Ybaf.checked) false (World.doorLaid Ybaf.prog 400 os) #[.slice none 0 0, .int .i64 0] rfl (by kernel_rfl) (by kernel_rfl) (by kernel_rfl)
      (OpenSpec.preRow_of_B rfl 8 (by kernel_rfl) (by kernel_rfl) (door_met os _))) ?_
  intro F W base args ds gs before _ hF hval0 hW _ _ _ hL _
  have hval : ∀ (j : Nat) t v, Ybaf.f3.params[j]? = some t → args[j]? = some v → Value.okWide Ybaf.prog W .any base t v := hval0
  have hW' := hW
  obtain ⟨p, q, hA0, hV, rfl, hfz, hnd⟩ := hW
  have hA : DataW.TrodAll enc Ybaf.prog W 0 (fun _ => true) true Ybaf.f3.params.toList args.toList ds p := hA0
  rw [Ybaf.params3] at hA hval
  obtain ⟨v0, v1, d0, d1, p0, p1, rfl, rfl, rfl, h0, h1⟩ := trodAll_two hA
  obtain ⟨ao, len, c, rfl⟩ := okWide_slice Ybaf.underlying22 (hval 0 22 v0 rfl rfl)
  obtain ⟨a1, rfl, rfl, rfl, w1⟩ := open_int Ybaf.underlying3 (hval 1 3 v1 rfl rfl) h1
  have hVk : DataW.TrodVars enc Ybaf.prog W (fun _ => true) [vname] gs q := hV
  obtain ⟨_, _, _, _, g1, _, rfl, _, _, _, _, _⟩ := trodVars_one hVk
  obtain ⟨a, cap, hl⟩ := laid_of hL
  have h0k := h0
  obtain ⟨fuel, hf⟩ := h0
  clear hA0 hval0
  have hlt : ∀ x ∈ p0, x.block < W.heap.size := fun x hx => by simpa using hW'.lt x (by simp [hx])
  have hargs : ∀ (W' : World), Below W.heap.size W W' → DataW.Trod enc Ybaf.prog W' 0 (fun b => decide (b < W.heap.size)) true 22 (.slice ao len c) d0 p0 :=
    fun W' hn => Below.trod laidOut (by kernel_rfl) (of_decide_eq_true (by kernel_rfl)) h0k hn hlt
  have key : Calls Ybaf.prog 3 #[.slice ao len c, .int .i64 a1] W fun e w' => e = .returned (.bool true) ∧ Below W.heap.size W w' := by
    rcases Nat.lt_or_ge 4096 len with hbig | hsm
    · exact walk_long ao len c a1 W hbig
    · rcases open_ints Ybaf.underlying22 Ybaf.underlying5 cells5 hf with ⟨hcs, _⟩ | ⟨ad, len', cap', zs, hcs, _, hle, _, hz, _, hcell, hwz⟩
      · simp [Value.cells] at hcs
        obtain ⟨rfl, rfl, rfl⟩ := hcs
        exact walk_nil F.told a1 a cap W hF hl
      · simp [Value.cells] at hcs
        obtain ⟨rfl, rfl, rfl⟩ := hcs
        simp at hz
        have hll : ((zs.take len).map fun z => UInt8.ofNat z.toNat).length = len := by simp; omega
        have := walk_some F.told ad c ((zs.take len).map fun z => UInt8.ofNat z.toNat) a1 a cap W (by rw [hll]; exact hsm) hF hl (fun j hj => by
          rw [hll] at hj
          have hjz : j < zs.length := by omega
          rw [hcell j hjz]
          have hb := bounds_u8 (hwz zs[j] (List.getElem_mem hjz))
          simp [List.getD, List.getElem?_eq_getElem hjz]
          omega)
        rw [hll] at this
        exact this
  refine key.mono fun e W' ⟨he, hg⟩ => ?_
  subst he
  exact ⟨_, rfl, _, _, _, [], _, _, hW', trodAll_mk1 (shut_bool Ybaf.underlying4 _), trodAll_mk2 (hargs _ hg) (shut_int Ybaf.underlying3 w1), Below.trodVars laidOut hg (by kernel_rfl) hVk, hg.frame _, fun h => by cases h⟩

/-- ████ THE STATEMENT ████ -/
theorem proved : Rows.LawS2839BDecodeToldSaid :=
  Claim7.holds_of_told_tied_any_at .later 3 Ybaf.f3 "fmt.Sprintf" ["fmt.errorf"] [] _ _ _ _ _ (by kernel_rfl) rfl rfl rfl laidOut (by kernel_rfl) rfl ⟨rfl, rfl, rfl, rfl, rfl, rfl, rfl⟩ rfl rfl (by kernel_rfl) (by kernel_rfl) Ybaf.func3 (by kernel_rfl)
    (of_decide_eq_true (by kernel_rfl)) (of_decide_eq_true (by kernel_rfl)) (by kernel_rfl) rfl stopKnobs.symm (by kernel_rfl)
    (by kernel_rfl) (by kernel_rfl) (by kernel_rfl) (by kernel_rfl) (by kernel_rfl) (by kernel_rfl) (by kernel_rfl) (by kernel_rfl) (by kernel_rfl) rfl (by kernel_rfl) rfl rfl
    rfl rfl
    rfl (by kernel_rfl) (by kernel_rfl) (by kernel_rfl) (by decide) (by kernel_rfl) lawS2839BDecode_row_tie
    (OpenClaim.moreEntering_of (by kernel_rfl) (by kernel_rfl) (by kernel_rfl) (by kernel_rfl) (by kernel_rfl) (by kernel_rfl) (by kernel_rfl) (by kernel_rfl) (by kernel_rfl) (by kernel_rfl))
    ⟨_, WideRow.started_initial, quiet _⟩
    (fun os started _ H enc _ => lifted os started H enc)
#print axioms proved
end Go.Proofs.YbulkbftsFmt.lawS2839BDecode
