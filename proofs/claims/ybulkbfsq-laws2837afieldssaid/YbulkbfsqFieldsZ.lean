/-
  LawS2837AFields (3): the walk at the width nought.
-/
import Derived.Test.YbulkbfsqFields
namespace Go.Proofs.Ybulkbfsq
open Go.ChangeShapes Go.WideShapes Go.ChangeAt Go.RowKit
attribute [local go_sem ↓] Go.wp_at_zero Go.wp_at_succ

set_option maxRecDepth 100000 in
set_option maxHeartbeats 4000000 in
theorem fields_zero (s : Nat) (w : World) (hs : s ≤ 4096) (hs0 : Hid (s = 0)) :
    Calls Yba.prog 3 #[.int .u16 (s : Int)] w fun e w' => e = .returned (.bool true) ∧ Keeps (fun _ => False) w w' := by
  have hs' : ¬ (4096 : Int) < (s : Int) := by omega
  go_enter Yba.func3, Yba.ntmps3
  go_wp2_with fail
  refine (newPhi6 s w (by omega)).mono ?_
  rintro e w1 ⟨ps, pmod, pmask, pt, pu, pv, gd, kd, cd, gm, km, cm, Dd, Dm, rfl, hS, hk⟩
  have hSc := sqr_cell hS
  have l0 := hSc.1
  have l1 := hSc.2.1
  have l2 := hSc.2.2.1
  clear hSc
  -- y
  have hp0 : IntBlk (w1.alloc (.cells #[.bool false, .slice none 0 0] 32)) w1.heap.size (.slice none 0 0) := heap_alloc_new w1 _
  have hk0 : Keeps (fun _ => False) w1 (w1.alloc (.cells #[.bool false, .slice none 0 0] 32)) := (Keeps.refl _ _).alloc _
  go_wp2_with fail
  generalize hW : w1.alloc (.cells #[.bool false, .slice none 0 0] 32) = W1 at *
  clear hW l0 l1 l2
  have hl0 := hp0.lt
  have HS : Hid (SqrAt w1 s ps pmod pmask pt pu pv gd kd cd gm km cm Dd Dm) := hS
  clear hS
  refine (newInt_one W1).mono ?_
  rintro e W2 ⟨rfl, hpx, hx, hk1⟩
  have hp1 := hp0.kept hk1 (fun h => h)
  have hkk := hk0.trans hk1
  clear hp0 hk0 hk1
  go_wp2_with fail
  refine (intLsh w1.heap.size (W1.heap.size + 1) W1.heap.size s W2 hp1 hpx hx (by omega) (by omega)).mono ?_
  rintro e w2 ⟨rfl, ky, cy, Dy, hpy, hyN, hyV, hyR, hyB, hk2⟩
  have hkA : Keeps (fun _ => False) w1 w2 := hkk.then_ hk2 (fun i hi h => by omega)
  clear hp1 hpx hx hkk hk2
  generalize w1.heap.size = py at *
  generalize W2.heap.size = gY at *
  -- y2
  have hp0 : IntBlk (w2.alloc (.cells #[.bool false, .slice none 0 0] 32)) w2.heap.size (.slice none 0 0) := heap_alloc_new w2 _
  have hk0 : Keeps (fun _ => False) w2 (w2.alloc (.cells #[.bool false, .slice none 0 0] 32)) := (Keeps.refl _ _).alloc _
  go_wp2_with fail
  generalize hW : w2.alloc (.cells #[.bool false, .slice none 0 0] 32) = W3 at *
  clear hW
  have hl1 := hp0.lt
  refine (newInt_one W3).mono ?_
  rintro e W4 ⟨rfl, hpx, hx, hk1⟩
  have hp1 := hp0.kept hk1 (fun h => h)
  have hkk := hk0.trans hk1
  clear hp0 hk0 hk1
  go_wp2_with fail
  refine (intLsh_at w2.heap.size (W3.heap.size + 1) W3.heap.size (2 * s) _ W4 (by omega) hp1 hpx hx (by omega) (by omega)).mono ?_
  rintro e w3 ⟨rfl, kz, cz, Dz, hpz, hzN, hzV, hzR, hzB, hk2⟩
  have hkB : Keeps (fun _ => False) w2 w3 := hkk.then_ hk2 (fun i hi h => by omega)
  have hly := hpy.lt
  clear hp1 hpx hx hkk hk2 hl1 hl0
  generalize w2.heap.size = pz at *
  generalize W4.heap.size = gZ at *
  generalize W3.heap.size = oz at *
  generalize W1.heap.size = oy at *
  -- m1
  have HS3 : Hid (SqrAt w3 s ps pmod pmask pt pu pv gd kd cd gm km cm Dd Dm) := HS.out.kept (hkA.trans hkB)
  have l2 : w3.cell? ⟨ps, 2, none⟩ = some (.pointer (some ⟨pmask, 0, none⟩)) := (sqr_cell HS3.out).2.2.1
  have hnw := World.new_ne w3 ⟨ps, 2, none⟩ l2
  have hpl : ps < w3.heap.size := block_lt HS3.out.blk
  go_upto_region 9 with fail
  go_cut [7] (fun m wc => ∃ pm gM kM cM DM, m = .pointer (some ⟨pm, 0, none⟩) ∧ IntBlk wc pm (.slice (some ⟨gM, 0, none⟩) kM cM) ∧ NatAt wc (some ⟨gM, 0, none⟩) kM cM DM ∧ dval DM = p2 s ∧ w3.heap.size ≤ pm ∧ Keeps (fun _ => False) w3 wc)
  case first =>
    go_region_held3 (fun w' => w'.cell? ⟨ps, 2, none⟩ = some (.pointer (some ⟨pmask, 0, none⟩))) (go_keep) ((first
      | (go_at_call 7; refine (newInt_one _).mono ?_; rintro e V1 ⟨rfl, hqx, hqy, hkx⟩; have l3 : V1.cell? ⟨ps, 2, none⟩ = some (.pointer (some ⟨pmask, 0, none⟩)) := (World.cell?_of_block (a := ⟨ps, 2, none⟩) (hkx.block ps (by simp; omega) (fun h => h))).trans (by simp [l2, hpl, World.cell?_alloc_past]); simp at hqx hqy)
      | (go_at_call_of 8 (Value.pointer (some ⟨w3.heap.size, 0, none⟩)); refine (m1_A HS3.out hs hkx hqx hqy).mono ?_; rintro e V2 ⟨pm, gM, kM, cM, DM, rfl, hpm, hmN, hmV, hml, hkm⟩; have l4 : V2.cell? ⟨ps, 2, none⟩ = some (.pointer (some ⟨pmask, 0, none⟩)) := (sqr_cell (HS3.out.kept hkm)).2.2.1)
      | (go_at_call 8; refine (m1_B HS3.out hs hkx hqx hqy).mono ?_; rintro e V2 ⟨pm, gM, kM, cM, DM, rfl, hpm, hmN, hmV, hml, hkm⟩; have l4 : V2.cell? ⟨ps, 2, none⟩ = some (.pointer (some ⟨pmask, 0, none⟩)) := (sqr_cell (HS3.out.kept hkm)).2.2.1)))
    all_goals
      go_wp2_with fail
      go_meet
      case rel => exact ⟨pm, gM, kM, cM, DM, rfl, hpm, hmN, hmV, hml, hkm⟩
  case rest =>
    obtain ⟨pm, gM, kM, cM, DM, rfl, hpm, hmN, hmV, hml, hkm⟩ := hcut
    obtain ⟨V2, hV2⟩ : ∃ V, V = wc := ⟨_, rfl⟩
    subst hV2
    have hkC : Keeps (fun _ => False) w V2 := hk.trans (hkA.trans (hkB.trans hkm))
    have HSV : Hid (SqrAt V2 s ps pmod pmask pt pu pv gd kd cd gm km cm Dd Dm) := HS3.out.kept hkm
    have hyP := hpy.kept (hkB.trans hkm) (fun h => h)
    have hyN2 := hyN.kept (hkB.trans hkm) (fun _ _ h => h)
    have hzP := hpz.kept hkm (fun h => h)
    have hzN2 := hzN.kept hkm (fun _ _ h => h)
    have hlz := hpz.lt
    clear l2 hkm hkA hkB hk HS HS3 hpy hyN hpz hzN hnw
    have hpos := p2_pos s
    have hpos2 := p2_mono (show s ≤ 2 * s by omega)
    -- m1.Cmp(y)
    go_wp2_with fail
    refine (intCmp pm py _ _ kM cM ky cy DM Dy V2 hpm hyP hmN hyN2 (by omega)).mono ?_
    rintro e V3 ⟨he, j, hw⟩
    rw [cmpv_eq (by rw [hmV, hyV])] at he
    subst he
    have hkD : Keeps (fun _ => False) V2 V3 := by rw [hw]; exact (Keeps.refl _ V2).drewN j
    clear hw
    have HS4 : Hid (SqrAt V3 s ps pmod pmask pt pu pv gd kd cd gm km cm Dd Dm) := HSV.out.kept hkD
    have hyP3 := hyP.kept hkD (fun h => h)
    have hyN3 := hyN2.kept hkD (fun _ _ h => h)
    have hzP3 := hzP.kept hkD (fun h => h)
    have hzN3 := hzN2.kept hkD (fun _ _ h => h)
    have hkE := hkC.trans hkD
    clear hkD hkC HSV hyP hyN2 hzP hzN2 hpm hmN
    -- want
    have hp0 : IntBlk (V3.alloc (.cells #[.bool false, .slice none 0 0] 32)) V3.heap.size (.slice none 0 0) := heap_alloc_new V3 _
    have hk0 : Keeps (fun _ => False) V3 (V3.alloc (.cells #[.bool false, .slice none 0 0] 32)) := (Keeps.refl _ _).alloc _
    have hyP4 := hyP3.kept hk0 (fun h => h)
    have hyN4 := hyN3.kept hk0 (fun _ _ h => h)
    have hzP4 := hzP3.kept hk0 (fun h => h)
    have hzN4 := hzN3.kept hk0 (fun _ _ h => h)
    have HS5 : Hid (SqrAt (V3.alloc (.cells #[.bool false, .slice none 0 0] 32)) s ps pmod pmask pt pu pv gd kd cd gm km cm Dd Dm) := HS4.out.kept hk0
    have hky := hyN3.pos (by omega)
    have hlt3 := block_lt HS4.out.mod
    have hkF := hkE.trans hk0
    have hwlt := hkE.size
    have HG : Hid (∀ V, Keeps (fun i => i = V3.heap.size) (V3.alloc (.cells #[.bool false, .slice none 0 0] 32)) V → Keeps (fun _ => False) V3 V) := fun V h => hk0.then_ h (fun i hi e => by omega)
    have HG2 : Hid (∀ (A B : World) (gw : Nat), Keeps (fun _ => False) V3 A → (V3.alloc (.cells #[.bool false, .slice none 0 0] 32)).heap.size ≤ gw → Keeps (fun i => i = V3.heap.size ∨ i = gw) A B → Keeps (fun _ => False) V3 B) :=
      fun A B gw h1 h2 h3 => h1.then_ h3 (fun i hi e => by have := hk0.size; omega)
    clear HS5 hyP3 hyN3 hzP3 hzN3
    go_wp2_with fail
    generalize hW5 : V3.alloc (.cells #[.bool false, .slice none 0 0] 32) = W5 at *
    clear hW5
    generalize hpwE : V3.heap.size = pw at *
    clear hpwE
    refine (intSubNew pw pz py _ _ kz cz ky cy Dz Dy W5 hp0 hzP4 hzN4 hyP4 hyN4 hky (by omega) hzR (by omega)).mono ?_
    rintro e V5 ⟨rfl, gW, kW, cW, DW, hpW, hWN, hWV, hWT, hkG⟩
    have hsq := HG.out V5 hkG
    have hWl := hWN.lt
    clear hp0 hzP4 hzN4 hyP4 hyN4 hkG hkF HG
    -- want.Add(want, one)
    go_wp2_with fail
    refine (newInt_one V5).mono ?_
    rintro e V6 ⟨rfl, hpx, hx, hk6⟩
    have hsq6 := hsq.trans hk6
    have hpW6 := hpW.kept hk6 (fun h => h)
    have hWN6 := hWN.kept hk6 (fun _ _ h => h)
    clear hpW hWN hk6 hsq
    go_wp2_with fail
    refine (intAddIn pw (V5.heap.size + 1) gW kW cW V5.heap.size DW V6 hpW6 hWN6 hpx hx (by omega) hWT.1 hWT.2.1 (by omega)).mono ?_
    rintro e V7 ⟨rfl, gV, kV, cV, DV, hpV, hVN, hVV, hk7⟩
    have hsq7 := HG2.out V6 V7 gW hsq6 hWT.2.2.2 hk7
    have HS7 : Hid (SqrAt V7 s ps pmod pmask pt pu pv gd kd cd gm km cm Dd Dm) := HS4.out.kept hsq7
    have hkI := hkE.trans hsq7
    have hmV7 := HS4.out.modV
    clear hpW6 hWN6 hpx hx hk7 hsq6 hsq7 HS4 hkE HG2
    -- s.mod.Cmp(want)
    have l1 := (sqr_cell HS7.out).2.1
    go_wp2_with fail
    refine (intCmp pmod pw _ _ kd cd kV cV Dd DV V7 HS7.out.mod hpV HS7.out.modN hVN (by omega)).mono ?_
    rintro e V8 ⟨he, j8, hw8⟩
    rw [cmpv_eq (by rw [hVV, hWV, hzV, hyV, hmV7]; omega)] at he
    subst he
    have hk8 : Keeps (fun _ => False) V7 V8 := by rw [hw8]; exact (Keeps.refl _ V7).drewN j8
    clear hw8
    have HS8 : Hid (SqrAt V8 s ps pmod pmask pt pu pv gd kd cd gm km cm Dd Dm) := HS7.out.kept hk8
    have hkJ := hkI.trans hk8
    clear l1 hk8 hkI HS7 hpV hVN
    have hcs := sqr_cell HS8.out
    have l1 := hcs.2.1
    have l2 := hcs.2.2.1
    have l3 := hcs.2.2.2.1
    have l4 := hcs.2.2.2.2.1
    have l5 := hcs.2.2.2.2.2
    clear hcs
    have g1 : decide ((1 : Int) ≤ (s : Int)) = false := decide_eq_false (by have := hs0.out; omega)
    have g2 : ((s : Int) == 0) = true := beq_iff_eq.2 (by have := hs0.out; omega)
    have hb1 : p2 0 ≤ dval Dd := by rw [hmV7, hs0.out]; decide
    have hb2 : dval Dd < p2 (0 + 1) := by rw [hmV7, hs0.out]; decide
    go_wp2_with fail
    refine (intBitLen_at pmod _ kd cd 0 Dd V8 HS8.out.mod HS8.out.modN hb1 hb2).mono ?_
    rintro e w' ⟨rfl, hw⟩
    subst w'
    clear hb1 hb2
    clear hmV7 hVV hWV hzV hyV hmV hpos hpos2
    go_wp2_with fail
    refine (fresh_at pt 0 none V8 HS8.out.t).mono ?_
    rintro e w' ⟨rfl, hw⟩
    subst w'
    go_wp2_with fail
    refine (fresh_at pu 0 none V8 HS8.out.u).mono ?_
    rintro e w' ⟨rfl, hw⟩
    subst w'
    go_wp2_with fail
    refine (fresh_at pv 0 none V8 HS8.out.v).mono ?_
    rintro e w' ⟨rfl, hw⟩
    subst w'
    have q0 : ∀ q, (binOp .eql 26 (.pointer (some ⟨pt, 0, none⟩)) (.pointer (some ⟨pu, 0, none⟩))).run Yba.prog (V8.drewN q) = .ok (.bool false) (V8.drewN q) := fun q => eql26_other (w := V8.drewN q) HS8.out.far.1 HS8.out.t HS8.out.u
    have q1 : ∀ q, (binOp .eql 26 (.pointer (some ⟨pt, 0, none⟩)) (.pointer (some ⟨pv, 0, none⟩))).run Yba.prog (V8.drewN q) = .ok (.bool false) (V8.drewN q) := fun q => eql26_other (w := V8.drewN q) HS8.out.far.2.1 HS8.out.t HS8.out.v
    have q2 : ∀ q, (binOp .eql 26 (.pointer (some ⟨pu, 0, none⟩)) (.pointer (some ⟨pv, 0, none⟩))).run Yba.prog (V8.drewN q) = .ok (.bool false) (V8.drewN q) := fun q => eql26_other (w := V8.drewN q) HS8.out.far.2.2.1 HS8.out.u HS8.out.v
    go_wp2_with fail
    go_quiet (fail)
    have hk9 : Keeps (fun _ => False) V8 (V8.drewN nq) := (Keeps.refl _ V8).drewN nq
    have HS9 : Hid (SqrAt (V8.drewN nq) s ps pmod pmask pt pu pv gd kd cd gm km cm Dd Dm) := HS8.out.kept hk9
    have hkK := hkJ.trans hk9
    clear q0 q1 q2 l1 l2 l3 l4 l5 hk9 HS8 hkJ
    generalize V8.drewN nq = V9 at *
    have hcs := sqr_cell HS9.out
    have l1 := hcs.2.1
    have l2 := hcs.2.2.1
    have l3 := hcs.2.2.2.1
    have l4 := hcs.2.2.2.2.1
    have l5 := hcs.2.2.2.2.2
    clear hcs
    have q3 : ∀ q, (binOp .eql 26 (.pointer (some ⟨pmod, 0, none⟩)) (.pointer (some ⟨pmask, 0, none⟩))).run Yba.prog (V9.drewN q) = .ok (.bool false) (V9.drewN q) := fun q => eql26_other (w := V9.drewN q) HS9.out.far.2.2.2.1 HS9.out.mod HS9.out.mask
    have q4 : ∀ q, (binOp .eql 26 (.pointer (some ⟨pt, 0, none⟩)) (.pointer (some ⟨pmod, 0, none⟩))).run Yba.prog (V9.drewN q) = .ok (.bool false) (V9.drewN q) := fun q => eql26_other (w := V9.drewN q) HS9.out.far.2.2.2.2.1 HS9.out.t HS9.out.mod
    have q5 : ∀ q, (binOp .eql 26 (.pointer (some ⟨pt, 0, none⟩)) (.pointer (some ⟨pmask, 0, none⟩))).run Yba.prog (V9.drewN q) = .ok (.bool false) (V9.drewN q) := fun q => eql26_other (w := V9.drewN q) HS9.out.far.2.2.2.2.2.1 HS9.out.t HS9.out.mask
    have q6 : ∀ q, (binOp .eql 26 (.pointer (some ⟨pu, 0, none⟩)) (.pointer (some ⟨pmod, 0, none⟩))).run Yba.prog (V9.drewN q) = .ok (.bool false) (V9.drewN q) := fun q => eql26_other (w := V9.drewN q) HS9.out.far.2.2.2.2.2.2.1 HS9.out.u HS9.out.mod
    have q7 : ∀ q, (binOp .eql 26 (.pointer (some ⟨pu, 0, none⟩)) (.pointer (some ⟨pmask, 0, none⟩))).run Yba.prog (V9.drewN q) = .ok (.bool false) (V9.drewN q) := fun q => eql26_other (w := V9.drewN q) HS9.out.far.2.2.2.2.2.2.2.1 HS9.out.u HS9.out.mask
    have q8 : ∀ q, (binOp .eql 26 (.pointer (some ⟨pv, 0, none⟩)) (.pointer (some ⟨pmod, 0, none⟩))).run Yba.prog (V9.drewN q) = .ok (.bool false) (V9.drewN q) := fun q => eql26_other (w := V9.drewN q) HS9.out.far.2.2.2.2.2.2.2.2.1 HS9.out.v HS9.out.mod
    have q9 : ∀ q, (binOp .eql 26 (.pointer (some ⟨pv, 0, none⟩)) (.pointer (some ⟨pmask, 0, none⟩))).run Yba.prog (V9.drewN q) = .ok (.bool false) (V9.drewN q) := fun q => eql26_other (w := V9.drewN q) HS9.out.far.2.2.2.2.2.2.2.2.2 HS9.out.v HS9.out.mask
    go_wp2_with fail
    go_quiet (fail)
    go_wp2
    go_ret
    exact ⟨rfl, hkK.drewN _⟩

end Go.Proofs.Ybulkbfsq
