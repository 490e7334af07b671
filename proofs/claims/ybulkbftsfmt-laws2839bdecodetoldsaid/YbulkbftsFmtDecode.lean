/-
  The walk of LawS2839BDecode: it returns true, whatever the text and the start.
-/
import Derived.Test.YbulkbftsFmtTrip
import Derived.Laws.CopyOwn
import Derived.Laws.MakeOwn
import Derived.BigQuiet
namespace Go.Proofs.YbulkbftsFmt
open Go.RowKit Go.Extern.Stop Go.Stop Go.Extern

theorem info5 : (Ybaf.prog.info? 5).map (fun i => (i.zero, i.size, i.bytes)) = some (some (.int .u8 0), 1, 1) := by kernel_rfl
theorem info5s : (Ybaf.prog.info? 5).map (·.size) = some 1 := by kernel_rfl

/-- The cells of a new slice of bytes. -/
def zrow (n : Nat) : List Value := (madeCells (Value.int .u8 0).cells n).toList
theorem zrow_length (n : Nat) : (zrow n).length = n := by rw [zrow, Array.length_toList, size_madeCells]

theorem make_bytes (n : Nat) (hn : n ≤ 4096) (W : World) :
    (Instr.makeSlice 22 (.int .i64 (n : Int)) (.int .i64 (n : Int))).run Ybaf.prog W = .ok (.slice (some ⟨W.heap.size, 0, none⟩) n n) (W.alloc (.cells (zrow n).toArray 5 (0, 0))) := by
  obtain ⟨i0, hi, hz0, hz1, hz2⟩ := info_parts info5
  have h := run_make (P := Ybaf.prog) W 22 5 i0 (.int .u8 0) Ybaf.underlying22 hi hz0 .i64 .i64 n n (by omega) (Int.le_refl _) (by rw [hz2]; omega) (by omega)
  rw [h, hz1]
  simp [zrow]

/-- The cells of a string's bytes. -/
def bcells (s : ByteArray) : List Value := (numsOf s).map (Value.int .u8)
theorem bcells_length (s : ByteArray) : (bcells s).length = s.size := by simp [bcells, numsOf_length]
theorem bcells_at (s : ByteArray) (j : Nat) (hj : j < s.size) : (bcells s)[j]? = some (.int .u8 (s[j].toNat : Int)) := by
  simp [bcells, numsOf, List.getElem?_map, byteAt s j hj]

theorem bytes_row {W : World} {g : Nat} {s : ByteArray} {L : List Value} (h : W.heap[g]? = some (.cells L.toArray 5 (0, 0))) (hL : L = bcells s) : Lib.Bytes W g 0 s := by
  intro i hi
  rw [Nat.zero_add]
  simp only [World.cell?, h]
  rw [hL]
  simpa using bcells_at s i hi

theorem splice_all (L cs : List Value) (h : L.length = cs.length) : splice L 0 cs = cs := by
  simp [splice, h]

theorem add_block (a : Addr) (j : Nat) : (a.add j).block = a.block := by unfold Addr.add; split <;> rfl

theorem idx_miss (s : ByteArray) (h : ∀ j, j < 5 → s ≠ nm j) : idx s < 0 := by
  have hm := Lib.idxOfS_miss (nms 5) 5 s (fun j hj => by
    have e : (nms 5).getD j ByteArray.empty = nm j := by simp [nms, List.getD, hj]
    rw [e]; exact fun e => h j hj e.symm)
  rw [List.take_of_length_le (by rw [nms_length]; omega)] at hm
  unfold idx
  rw [hm]
  decide

/-- UnmarshalText of a text that is the name of kind i. -/
theorem unm_hit (F : Interp) (p : Addr) (old : Int) (b c : Nat) (s : ByteArray) (i : Nat) (hx : idx s = (i : Int)) (a : Addr) (cap : Nat) (w : World) (hF : F.answers w.tape) (hl : Laid w a cap)
    (hb : Lib.Bytes w b 0 s) (hbs : b < w.heap.size) (hp : w.cell? p = some (.int .i64 old)) (hfz : w.frozen? p = false) :
    Calls Ybaf.prog 6 #[.pointer (some p), .slice (some ⟨b, 0, none⟩) s.size c] w fun e w' =>
      e = .returned .nilIface ∧ w'.cell? p = some (.int .i64 (i : Int)) ∧ Below p.block w w' ∧ w.heap.size ≤ w'.heap.size := by
  refine (unm_of F p old b c s a cap w hF hl hb hbs hp hfz).mono ?_
  rintro e w' (⟨w2, _, rfl, hbw, rfl⟩ | ⟨hy, _⟩)
  · have hpl := cell_lt hp
    have hp2 : w2.cell? p = some (.int .i64 old) := by rw [hbw.cell hpl]; exact hp
    refine ⟨rfl, ?_, (hbw.mono (Nat.le_of_lt hpl)).setCell (Nat.le_refl _) _, by simp [World.setCell]; exact hbw.size⟩
    rw [hx]
    exact World.cell?_setCell_same' _ _ _ (by rw [hp2]; rfl)
  · rw [hx] at hy; omega

/-- UnmarshalText of any other text. -/
theorem unm_miss (F : Interp) (p : Addr) (old : Int) (b c : Nat) (s : ByteArray) (hx : idx s < 0) (a : Addr) (cap : Nat) (w : World) (hF : F.answers w.tape) (hl : Laid w a cap)
    (hb : Lib.Bytes w b 0 s) (hbs : b < w.heap.size) (hp : w.cell? p = some (.int .i64 old)) (hfz : w.frozen? p = false) :
    Calls Ybaf.prog 6 #[.pointer (some p), .slice (some ⟨b, 0, none⟩) s.size c] w fun e w' =>
      (∃ q, e = .returned (.iface 52 (.pointer (some q)))) ∧ Below w.heap.size w w' := by
  refine (unm_of F p old b c s a cap w hF hl hb hbs hp hfz).mono ?_
  rintro e w' (⟨w2, hy, _⟩ | ⟨_, he, hb'⟩)
  · omega
  · exact ⟨he, hb'⟩

theorem below_drewN {B : Nat} {W X : World} (h : Below B W X) (q : Nat) : Below B W (X.drewN q) := h.trans ⟨rfl, rfl, rfl, by simp, fun k _ => by simp⟩

set_option maxHeartbeats 4000000 in
set_option maxRecDepth 100000 in
theorem decode_of (F : Interp) (ao : Option Addr) (c : Nat) (s : ByteArray) (start : Int) (a : Addr) (cap : Nat) (w : World) (hn : s.size ≤ 4096) (hF : F.answers w.tape) (hl : Laid w a cap)
    (hsrc : 0 < s.size → ∃ ad, ao = some ad ∧ ∀ j v, (bcells s)[j]? = some v → w.cell? (ad.add j) = some v) (hlt : ∀ ad, ao = some ad → 0 < s.size → ad.block < w.heap.size)
    (hconv : ∀ W', Below w.heap.size w W' → (convert 22 9 (.slice ao s.size c)).run Ybaf.prog W' = .ok (.string s) W') :
    Calls Ybaf.prog 3 #[.slice ao s.size c, .int .i64 start] w fun e w' => e = .returned (.bool true) ∧ Below w.heap.size w w' := by
  have hmk := make_bytes s.size hn
  have HF : Hid (F.answers w.tape) := hF
  have HL : Hid (Laid w a cap) := hl
  have HC : Hid (∀ W', Below w.heap.size w W' → (convert 22 9 (.slice ao s.size c)).run Ybaf.prog W' = .ok (.string s) W') := hconv
  have hn' : ¬ (4096 : Int) < (s.size : Int) := by omega
  have hb0 : Below w.heap.size w (w.alloc (.cells (zrow s.size).toArray 5 (0, 0))) := (Below.refl _ _).alloc (Nat.le_refl _) _
  have HP : Hid (0 < (bcells s).length → (some ⟨w.heap.size, 0, none⟩ : Option Addr) = some ⟨w.heap.size, 0, none⟩ ∧ ∃ ad, ao = some ad ∧ ∀ j v, (bcells s)[j]? = some v → (w.alloc (.cells (zrow s.size).toArray 5 (0, 0))).cell? (ad.add j) = some v) := by
    intro h
    rw [bcells_length] at h
    obtain ⟨ad, e, hc⟩ := hsrc h
    exact ⟨rfl, ad, e, fun j v hj => by rw [hb0.cell (by rw [add_block]; exact hlt ad e h)]; exact hc j v hj⟩
  have HG0 : Hid ((w.alloc (.cells (zrow s.size).toArray 5 (0, 0))).heap[w.heap.size]? = some (.cells (zrow s.size).toArray 5 (0, 0))) := by
    show (w.heap.push _)[w.heap.size]? = _
    simp
  have HB0 : Hid (Below w.heap.size w (w.alloc (.cells (zrow s.size).toArray 5 (0, 0)))) := hb0
  clear hF hl hsrc hlt hconv hb0
  go_enter Ybaf.func3, Ybaf.ntmps3
  go_wp2_with (first
    | (refine wpList_copy_splice (by rfl) (.tmp 18) (.tmp 19) 22 22 (by rfl) 5 Ybaf.underlying22 info5s (some ⟨w.heap.size, 0, none⟩) ao s.size s.size s.size c (by rfl) (by rfl) w.heap.size 0 (zrow s.size) 5 HG0.out (bcells s) (by rw [bcells_length]; simp) (by simpa using HP.out) (by rw [bcells_length, zrow_length]; omega) (fun v hv => by simp [bcells] at hv; obtain ⟨x, _, rfl⟩ := hv; rfl) w.heap.size w HB0.out (Nat.le_refl _) ?_
       intro w1 hrow1 hB1)
    | (go_at_call 5; refine (names_of _).mono ?_; rintro e W2 ⟨rfl, hB2, hS2, hN2⟩; have HN : Hid (∀ i, i < 5 → W2.cell? ⟨w1.heap.size, i, none⟩ = some (.string (nm i))) := hN2; clear hN2))
  have hg1 : w.heap.size < w1.heap.size := by
    rcases Nat.lt_or_ge w.heap.size w1.heap.size with h | h
    · exact h
    · have := hrow1.out
      rw [Array.getElem?_eq_none h] at this
      cases this
  have HBuf : Hid (Lib.Bytes W2 w.heap.size 0 s) := bytes_below hB2 hg1 (bytes_row hrow1.out (splice_all _ _ (by rw [bcells_length, zrow_length])))
  have HB2 : Hid (Below w.heap.size w W2) := hB1.trans (hB2.mono hB1.size)
  generalize w1.heap.size = gN at *
  clear HP HG0 HB0 hmk hrow1 hB1 hB2
  go_loopw [7, 8] (fun v i wr => ∃ k : Nat, k ≤ 5 ∧ v = .int .i64 (-1) ∧ i = .int .i64 k ∧ (∀ j, j < k → s ≠ nm j) ∧ Below W2.heap.size W2 wr) (fun _ i _ => 5 - (intOf i).toNat)
  case atStart => exact ⟨0, by omega, rfl, rfl, fun j hj => by omega, Below.refl _ _⟩
  case round =>
    obtain ⟨k, hk, rfl, rfl, hne, hnx⟩ := hrel
    have HNE : Hid (∀ j, j < k → s ≠ nm j) := hne
    have HNX : Hid (Below W2.heap.size W2 wr) := hnx
    have HBw : Hid (Below w.heap.size w wr) := HB2.out.trans (hnx.mono (by omega))
    rcases Nat.lt_or_ge k 5 with hk5 | hk5
    · have hNk : wr.cell? ⟨gN, k, none⟩ = some (.string (nm k)) := by
        rw [hnx.cell (by show gN < _; omega)]; exact HN.out k hk5
      have hkl : (k : Int) < 5 := by omega
      have hcv := fun m => HC.out (wr.drewN m) (below_drewN HBw.out m)
      clear hne hnx
      by_cases hsk : s = nm k
      · have hd : (s.toList == (nm k).toList) = true := (Lib.bytes_beq_iff _ _).2 hsk
        have hix : Hid (idx s = (k : Int)) := by rw [hsk]; exact idx_nm k hk5
        clear hsk
        go_wp2_with (fail)
        go_quiet (fail)
        have HBufX : Hid (Lib.Bytes (wr.drewN nq) w.heap.size 0 s) := bytes_below (below_drewN HNX.out nq) (by omega) HBuf.out
        have HBX : Hid (Below w.heap.size w (wr.drewN nq)) := below_drewN HBw.out nq
        have hsX : w.heap.size < (wr.drewN nq).heap.size := by have := HNX.out.size; simp; omega
        clear hcv hNk HNX HBw HNE HN HBuf HB2
        generalize wr.drewN nq = X at HBufX HBX hsX ⊢
        go_wp2_with (fail)
        have y1 : Below X.heap.size X (X.alloc (.cells #[.int .i64 start] 25)) := (Below.refl _ _).alloc (Nat.le_refl _) _
        refine (unm_hit F ⟨X.heap.size, 0, none⟩ start w.heap.size _ s k hix.out a cap _ (by rw [y1.tape, HBX.out.tape]; exact HF.out) ((HL.out.below HBX.out (Nat.le_refl _)).below y1 (Nat.le_refl _)) (bytes_below y1 hsX HBufX.out) (by simp; omega) (by rw [World.cell?_alloc_mark]; rfl) (by rw [World.frozen?_alloc_mark]; rfl)).mono ?_
        rintro e W5 ⟨rfl, hk6, hB5, hs5⟩
        have hB6 : Below X.heap.size X W5 := y1.trans hB5
        have HB5 : Hid (Below w.heap.size w W5) := HBX.out.trans (hB6.mono (by omega))
        have hc1 := Lib.run_convert_whole (P := Ybaf.prog) W5 22 5 9 Ybaf.underlying22 Ybaf.underlying5 Ybaf.underlying9 w.heap.size 0 s (bytes_below hB6 hsX HBufX.out) s.size
        have hc2 := HC.out W5 HB5.out
        clear y1 hB5 hB6 hs5
        go_wp2_with (fail)
        go_ret
        exact ⟨rfl, HB5.out⟩
      · have hd : (s.toList == (nm k).toList) = false := (Lib.bytes_beq_false_iff _ _).2 hsk
        have HSK : Hid (s ≠ nm k) := hsk
        clear hsk
        go_wp2_with (fail)
        go_quiet (fail)
        go_wp2_with (fail)
        exact ⟨⟨k + 1, by omega, rfl, by simp, fun j hj => (Nat.lt_or_ge j k).elim (HNE.out j) (fun h => by rw [show j = k by omega]; exact HSK.out), below_drewN HNX.out nq⟩, by simp [intOf]; omega⟩
    · obtain rfl : k = 5 := by omega
      have hix : Hid (idx s < 0) := idx_miss s hne
      have HBufX : Hid (Lib.Bytes wr w.heap.size 0 s) := bytes_below hnx (by omega) HBuf.out
      have hsX : w.heap.size < wr.heap.size := by have := hnx.size; omega
      clear hne hnx HNX HNE HN HBuf HB2
      go_wp2_with (fail)
      have y1 : Below wr.heap.size wr (wr.alloc (.cells #[.int .i64 start] 25)) := (Below.refl _ _).alloc (Nat.le_refl _) _
      have y2 : (wr.alloc (.cells #[.int .i64 start] 25)).cell? ⟨wr.heap.size, 0, none⟩ = some (.int .i64 start) := by rw [World.cell?_alloc_mark]; rfl
      refine (unm_miss F ⟨wr.heap.size, 0, none⟩ start w.heap.size _ s hix.out a cap _ (by rw [y1.tape, HBw.out.tape]; exact HF.out) ((HL.out.below HBw.out (Nat.le_refl _)).below y1 (Nat.le_refl _)) (bytes_below y1 hsX HBufX.out) (by simp; omega) y2 (by rw [World.frozen?_alloc_mark]; rfl)).mono ?_
      rintro e W5 ⟨⟨q, rfl⟩, hB5⟩
      have hk6 : W5.cell? ⟨wr.heap.size, 0, none⟩ = some (.int .i64 start) := by rw [hB5.cell (by simp)]; exact y2
      have hB6 : Below wr.heap.size wr W5 := y1.trans (hB5.mono (by simp))
      have HB5 : Hid (Below w.heap.size w W5) := HBw.out.trans (hB6.mono (by omega))
      have hc1 := Lib.run_convert_whole (P := Ybaf.prog) W5 22 5 9 Ybaf.underlying22 Ybaf.underlying5 Ybaf.underlying9 w.heap.size 0 s (bytes_below hB6 hsX HBufX.out) s.size
      have hc2 := HC.out W5 HB5.out
      clear y1 y2 hB5 hB6
      go_wp2_with (fail)
      go_ret
      exact ⟨rfl, HB5.out⟩

end Go.Proofs.YbulkbftsFmt
