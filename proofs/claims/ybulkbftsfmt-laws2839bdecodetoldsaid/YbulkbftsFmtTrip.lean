/-
  The walk of LawS2839BRoundTrip: it returns true, whatever the selector and the start.
-/
import Derived.Test.YbulkbftsFmtUnm
import Derived.BigQuiet
namespace Go.Proofs.YbulkbftsFmt
open Go.RowKit Go.Extern.Stop Go.Stop Go.Extern

theorem idx_nm (i : Nat) (h : i < 5) : idx (nm i) = (i : Int) := by
  rcases (show i = 0 ∨ i = 1 ∨ i = 2 ∨ i = 3 ∨ i = 4 from by omega) with rfl | rfl | rfl | rfl | rfl <;> decide +kernel

/-- UnmarshalText of a name. -/
theorem unm_name (F : Interp) (p : Addr) (old : Int) (b c : Nat) (i : Nat) (hi : i < 5) (a : Addr) (cap : Nat) (w : World) (hF : F.answers w.tape) (hl : Laid w a cap)
    (hb : Lib.Bytes w b 0 (nm i)) (hbs : b < w.heap.size) (hp : w.cell? p = some (.int .i64 old)) (hfz : w.frozen? p = false) :
    Calls Ybaf.prog 6 #[.pointer (some p), .slice (some ⟨b, 0, none⟩) (nm i).size c] w fun e w' =>
      e = .returned .nilIface ∧ w'.cell? p = some (.int .i64 (i : Int)) ∧ Below p.block w w' ∧ w.heap.size ≤ w'.heap.size := by
  refine (unm_of F p old b c (nm i) a cap w hF hl hb hbs hp hfz).mono ?_
  rintro e w' (⟨w2, _, rfl, hbw, rfl⟩ | ⟨hx, _⟩)
  · have hpl := cell_lt hp
    have hp2 : w2.cell? p = some (.int .i64 old) := by rw [hbw.cell hpl]; exact hp
    refine ⟨rfl, ?_, (hbw.mono (Nat.le_of_lt hpl)).setCell (Nat.le_refl _) _, by simp [World.setCell]; exact hbw.size⟩
    rw [idx_nm i hi]
    exact World.cell?_setCell_same' _ _ _ (by rw [hp2]; rfl)
  · rw [idx_nm i hi] at hx; omega

theorem bytes_new (w : World) (s : ByteArray) (cap : Nat) (fr : Nat × Nat) : Lib.Bytes (w.alloc (.cells (bytesRow s cap) 5 fr)) w.heap.size 0 s := by
  intro i hi
  rw [World.cell?_alloc_mark, Nat.zero_add, bytesRow_at s cap i hi]
  rfl

set_option maxRecDepth 100000 in
/-- MarshalText of one of the five kinds. -/
theorem marshal_of (k : Nat) (hk : k < 5) (a : Addr) (cap : Nat) (w : World) (hl : Laid w a cap) :
    Calls Ybaf.prog 7 #[.int .i64 (k : Int)] w fun e w' => ∃ c, e = .returned (.tuple #[.slice (some ⟨w.heap.size, 0, none⟩) (nm k).size c, .nilIface]) ∧ Lib.Bytes w' w.heap.size 0 (nm k) ∧ Below w.heap.size w w' ∧ w.heap.size < w'.heap.size := by
  have hcv := run_bytes_of_string (P := Ybaf.prog) w 9 22 5 (nm k) Ybaf.underlying9 Ybaf.underlying22 Ybaf.underlying5
  go_enter Ybaf.func7, Ybaf.ntmps7
  go_wp2_with (first | (go_at_call 9; refine (string_of k hk a cap w hl).mono ?_; rintro e w' ⟨rfl, rfl⟩))
  go_ret2
  exact ⟨_, rfl, bytes_new _ _ _ _, ((Below.refl _ _).alloc (Nat.le_refl _) _).drew, by simp⟩

/-- The law's own list of names. -/
theorem names_of (w : World) :
    Calls Ybaf.prog 5 #[] w fun e w' => e = .returned (.slice (some ⟨w.heap.size, 0, none⟩) 5 5) ∧ Below w.heap.size w w' ∧ w'.heap.size = w.heap.size + 1 ∧ ∀ i, i < 5 → w'.cell? ⟨w.heap.size, i, none⟩ = some (.string (nm i)) := by
  go_enter Ybaf.func5, Ybaf.ntmps5
  go_wp2
  go_ret
  refine ⟨rfl, (Below.refl _ _).alloc (Nat.le_refl _) _, by simp, fun i hi => ?_⟩
  rw [World.cell?_alloc_mark]
  rcases (show i = 0 ∨ i = 1 ∨ i = 2 ∨ i = 3 ∨ i = 4 from by omega) with rfl | rfl | rfl | rfl | rfl <;> rfl

/-- The variable k and the bytes of a string, newly made. -/
theorem x_facts (W : World) (n : Nat) (hn : W.heap.size = n) (start : Int) (s : ByteArray) (c : Nat) (fr : Nat × Nat) :
    Below n W ((W.alloc (.cells #[.int .i64 start] 25)).alloc (.cells (bytesRow s c) 5 fr)).drew ∧ Lib.Bytes ((W.alloc (.cells #[.int .i64 start] 25)).alloc (.cells (bytesRow s c) 5 fr)).drew (n + 1) 0 s ∧
    ((W.alloc (.cells #[.int .i64 start] 25)).alloc (.cells (bytesRow s c) 5 fr)).drew.heap.size = n + 1 + 1 ∧
    ((W.alloc (.cells #[.int .i64 start] 25)).alloc (.cells (bytesRow s c) 5 fr)).drew.cell? ⟨n, 0, none⟩ = some (.int .i64 start) ∧
    ((W.alloc (.cells #[.int .i64 start] 25)).alloc (.cells (bytesRow s c) 5 fr)).drew.frozen? ⟨n, 0, none⟩ = false := by
  subst hn
  have hs : (W.alloc (.cells #[.int .i64 start] 25)).heap.size = W.heap.size + 1 := by simp
  have hb : Below (W.heap.size + 1) (W.alloc (.cells #[.int .i64 start] 25)) ((W.alloc (.cells #[.int .i64 start] 25)).alloc (.cells (bytesRow s c) 5 fr)).drew := ((Below.refl _ _).alloc (by omega) _).drew
  refine ⟨(((Below.refl _ _).alloc (Nat.le_refl _) _).alloc (by omega) _).drew, ?_, by simp, ?_, ?_⟩
  · have := bytes_new (W.alloc (.cells #[.int .i64 start] 25)) s c fr
    rw [hs] at this
    exact this
  · rw [hb.cell (by show W.heap.size < _; omega), World.cell?_alloc_mark]; rfl
  · rw [hb.frozen (by show W.heap.size < _; omega), World.frozen?_alloc_mark]; rfl

set_option maxHeartbeats 4000000 in
set_option maxRecDepth 100000 in
theorem trip_of (F : Interp) (a0 start : Int) (h0 : 0 ≤ a0 ∧ a0 < 256) (a : Addr) (cap : Nat) (w : World) (hF : F.answers w.tape) (hl : Laid w a cap) :
    Calls Ybaf.prog 4 #[.int .u8 a0, .int .i64 start] w fun e w' => e = .returned (.bool true) ∧ Below w.heap.size w w' := by
  obtain ⟨i, hi, hie⟩ : ∃ i : Nat, i < 5 ∧ Int.tmod a0 5 = (i : Int) := ⟨(Int.tmod a0 5).toNat, by rw [Int.tmod_eq_emod_of_nonneg h0.1]; omega, by rw [Int.tmod_eq_emod_of_nonneg h0.1]; omega⟩
  have HF : Hid (F.answers w.tape) := hF
  have HL : Hid (Laid w a cap) := hl
  have hcv := fun W => run_bytes_of_string (P := Ybaf.prog) W 9 22 5 (nm i) Ybaf.underlying9 Ybaf.underlying22 Ybaf.underlying5
  have hi5 : (i : Int) < 5 := by omega
  clear hF hl
  go_enter Ybaf.func4, Ybaf.ntmps4
  go_wp2_with (first | (go_at_call 5; refine (names_of _).mono ?_; rintro e W1 ⟨rfl, hB1, hS1, hN1⟩; have hNi := hN1 i hi; have HN : Hid (∀ i, i < 5 → W1.cell? ⟨w.heap.size, i, none⟩ = some (.string (nm i))) := hN1; clear hN1))
  have HB1 : Hid (Below w.heap.size w W1) := hB1
  clear hB1
  obtain ⟨x1, x2, x3, x4, x5⟩ := x_facts W1 (w.heap.size + 1) hS1 start (nm i) (grownCap (W1.alloc (Obj.cells #[Value.int IntKind.i64 start] 25)) (nm i).size 0 5) ((bytesRow (nm i) (grownCap (W1.alloc (Obj.cells #[Value.int IntKind.i64 start] 25)) (nm i).size 0 5)).size, (bytesRow (nm i) (grownCap (W1.alloc (Obj.cells #[Value.int IntKind.i64 start] 25)) (nm i).size 0 5)).size + 1)
  refine (unm_name F ⟨w.heap.size + 1, 0, none⟩ start (w.heap.size + 1 + 1) _ i hi a cap _ (by rw [x1.tape, HB1.out.tape]; exact HF.out) ((HL.out.below HB1.out (Nat.le_refl _)).below x1 (by omega)) x2 (by rw [x3]; omega) x4 x5).mono ?_
  rintro e W2 ⟨rfl, hk2, hB2, hs2⟩
  have HB2 : Hid (Below w.heap.size w W2) := (HB1.out.trans (x1.mono (by omega))).trans (hB2.mono (by show w.heap.size ≤ w.heap.size + 1; omega))
  have hN2 : W2.cell? ⟨w.heap.size, i, none⟩ = some (.string (nm i)) := by
    rw [hB2.cell (by show w.heap.size < w.heap.size + 1; omega), x1.cell (by show w.heap.size < w.heap.size + 1; omega)]; exact HN.out i hi
  have hs2' : w.heap.size + 1 + 1 ≤ W2.heap.size := by rw [x3] at hs2; omega
  clear x1 x2 x3 x4 x5 hB2 hs2 hNi HN HB1 hS1 hcv
  go_wp2_with (first | (go_at_call 7; refine (marshal_of i hi a cap _ (HL.out.below HB2.out (Nat.le_refl _))).mono ?_; rintro e W3 ⟨c3, rfl, hb3, hB3, hs3⟩))
  have hN3 : W3.cell? ⟨w.heap.size, i, none⟩ = some (.string (nm i)) := by rw [hB3.cell (by show w.heap.size < _; omega)]; exact hN2
  have hk3 : W3.cell? ⟨w.heap.size + 1, 0, none⟩ = some (.int .i64 (i : Int)) := by rw [hB3.cell (by show w.heap.size + 1 < _; omega)]; exact hk2
  have hconv := fun n => Lib.run_convert_whole (P := Ybaf.prog) (W3.drewN n) 22 5 9 Ybaf.underlying22 Ybaf.underlying5 Ybaf.underlying9 W2.heap.size 0 (nm i) (hb3.drewN n) c3
  have HBy : Hid (Lib.Bytes W3 W2.heap.size 0 (nm i)) := hb3
  have HB3 : Hid (Below w.heap.size w W3) := HB2.out.trans (hB3.mono (by omega))
  clear hb3 hB3
  go_quiet (fail)
  have hk4 : (W3.drewN nq).cell? ⟨w.heap.size + 1, 0, none⟩ = some (.int .i64 (i : Int)) := by simpa using hk3
  have hs4 : W2.heap.size < (W3.drewN nq).heap.size := by simpa using hs3
  have HBy4 : Hid (Lib.Bytes (W3.drewN nq) W2.heap.size 0 (nm i)) := HBy.out.drewN nq
  have HB4 : Hid (Below w.heap.size w (W3.drewN nq)) := HB3.out.trans ⟨rfl, rfl, rfl, by simp, fun k _ => by simp⟩
  generalize W3.drewN nq = W4 at hk4 hs4 HBy4 HB4 ⊢
  clear hconv hN3 hk3 hs3 HBy HB3 hN2 hk2 HB2
  go_wp2_with (fail)
  have y1 : Below W4.heap.size W4 (W4.alloc (.cells #[.int .i64 start] 25)) := (Below.refl _ _).alloc (Nat.le_refl _) _
  refine (unm_name F ⟨W4.heap.size, 0, none⟩ start W2.heap.size _ i hi a cap _ (by rw [y1.tape, HB4.out.tape]; exact HF.out) ((HL.out.below HB4.out (Nat.le_refl _)).below y1 (Nat.le_refl _)) (bytes_below y1 hs4 HBy4.out) (by simp; omega) (by rw [World.cell?_alloc_mark]; rfl) (by rw [World.frozen?_alloc_mark]; rfl)).mono ?_
  rintro e W5 ⟨rfl, hk5, hB5, hs5⟩
  have hk6 : W5.cell? ⟨w.heap.size + 1, 0, none⟩ = some (.int .i64 (i : Int)) := by
    rw [hB5.cell (by show w.heap.size + 1 < W4.heap.size; omega), y1.cell (by show w.heap.size + 1 < W4.heap.size; omega)]; exact hk4
  have HB5 : Hid (Below w.heap.size w W5) := (HB4.out.trans (y1.mono (by omega))).trans (hB5.mono (by show w.heap.size ≤ W4.heap.size; omega))
  clear y1 hB5
  go_wp2_with (fail)
  go_ret
  exact ⟨rfl, HB5.out⟩

end Go.Proofs.YbulkbftsFmt
