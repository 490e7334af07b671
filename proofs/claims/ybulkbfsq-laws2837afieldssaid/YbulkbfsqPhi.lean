/-
  newPhi6Squarer (5).
-/
import Derived.Test.YbulkbfsqSqr
import Derived.Deep.RegionHeld3
namespace Go.Proofs.Ybulkbfsq
open Go.ChangeShapes Go.WideShapes Go.ChangeAt Go.RowKit
attribute [local go_sem ↓] Go.wp_at_zero Go.wp_at_succ

/-- The squarer in memory. -/
structure SqrAt (w : World) (s ps pmod pmask pt pu pv gd kd cd gm km cm : Nat) (Dd Dm : List Int) : Prop where
  blk : w.heap[ps]? = some (.cells #[.int .u64 (s : Int), .pointer (some ⟨pmod, 0, none⟩), .pointer (some ⟨pmask, 0, none⟩), .pointer (some ⟨pt, 0, none⟩), .pointer (some ⟨pu, 0, none⟩), .pointer (some ⟨pv, 0, none⟩)] 28 (0, 0))
  mod : IntBlk w pmod (.slice (some ⟨gd, 0, none⟩) kd cd)
  modN : NatAt w (some ⟨gd, 0, none⟩) kd cd Dd
  modV : dval Dd = p2 (2 * s) - (p2 s - 1)
  mask : IntBlk w pmask (.slice (some ⟨gm, 0, none⟩) km cm)
  maskN : NatAt w (some ⟨gm, 0, none⟩) km cm Dm
  maskV : dval Dm = p2 s - 1
  maskR : (km < cm ∨ km ≤ 1) ∧ km ≤ s / 64 + 2
  t : IntBlk w pt (.slice none 0 0)
  u : IntBlk w pu (.slice none 0 0)
  v : IntBlk w pv (.slice none 0 0)
  far : pt ≠ pu ∧ pt ≠ pv ∧ pu ≠ pv ∧ pmod ≠ pmask ∧ pt ≠ pmod ∧ pt ≠ pmask ∧ pu ≠ pmod ∧ pu ≠ pmask ∧ pv ≠ pmod ∧ pv ≠ pmask

theorem intLsh_at (p px gx s : Nat) (N : Int) (w : World) (hN : N = (s : Int)) (hp : IntBlk w p (.slice none 0 0)) (hpx : IntBlk w px (.slice (some ⟨gx, 0, none⟩) 1 1)) (hx : Row w gx [1]) (hne : px ≠ p) (hb : s ≤ 100000) :
    Calls Yba.prog 6 #[.pointer (some ⟨p, 0, none⟩), .pointer (some ⟨px, 0, none⟩), .int .u64 N] w fun e w' =>
      e = .returned (.pointer (some ⟨p, 0, none⟩)) ∧ ∃ k c D, IntBlk w' p (.slice (some ⟨w.heap.size, 0, none⟩) k c) ∧ NatAt w' (some ⟨w.heap.size, 0, none⟩) k c D ∧ dval D = p2 s ∧ (k < c ∨ k = 1) ∧ k ≤ s / 64 + 2 ∧ Keeps (· = p) w w' := by
  subst hN; exact intLsh p px gx s w hp hpx hx hne hb

theorem block_kept {S : Nat → Prop} {w w' : World} {g : Nat} {o : Obj} (h : w.heap[g]? = some o) (k : Keeps S w w') (hs : ¬ S g) : w'.heap[g]? = some o :=
  (k.block g (Array.getElem?_eq_some_iff.1 h).1 hs).trans h
theorem block_lt {w : World} {g : Nat} {o : Obj} (h : w.heap[g]? = some o) : g < w.heap.size := (Array.getElem?_eq_some_iff.1 h).1

theorem new_at (W : World) (o : Obj) (n : Nat) (h : n = W.heap.size) : (W.alloc o).heap[n]? = some o := by subst h; exact heap_alloc_new W o
theorem five (W : World) (a b c d e : Obj) :
    (((((W.alloc a).alloc b).alloc c).alloc d).alloc e).heap[W.heap.size]? = some a ∧ (((((W.alloc a).alloc b).alloc c).alloc d).alloc e).heap[W.heap.size + 1]? = some b ∧
    (((((W.alloc a).alloc b).alloc c).alloc d).alloc e).heap[W.heap.size + 1 + 1]? = some c ∧ (((((W.alloc a).alloc b).alloc c).alloc d).alloc e).heap[W.heap.size + 1 + 1 + 1]? = some d ∧
    (((((W.alloc a).alloc b).alloc c).alloc d).alloc e).heap[W.heap.size + 1 + 1 + 1 + 1]? = some e ∧ (((((W.alloc a).alloc b).alloc c).alloc d).alloc e).heap.size = W.heap.size + 1 + 1 + 1 + 1 + 1 ∧
    Keeps (fun _ => False) W (((((W.alloc a).alloc b).alloc c).alloc d).alloc e) := by
  refine ⟨?_, ?_, ?_, ?_, ?_, ?_, (((((Keeps.refl _ _).alloc _).alloc _).alloc _).alloc _).alloc _⟩
  · rw [Below.heap_alloc _ _ _ (by simp; omega), Below.heap_alloc _ _ _ (by simp; omega), Below.heap_alloc _ _ _ (by simp; omega), Below.heap_alloc _ _ _ (by simp)]; exact new_at _ _ _ rfl
  · rw [Below.heap_alloc _ _ _ (by first | (simp; done) | (simp; omega)), Below.heap_alloc _ _ _ (by first | (simp; done) | (simp; omega)), Below.heap_alloc _ _ _ (by simp)]; exact new_at _ _ _ (by simp)
  · rw [Below.heap_alloc _ _ _ (by first | (simp; done) | (simp; omega)), Below.heap_alloc _ _ _ (by simp)]; exact new_at _ _ _ (by simp)
  · rw [Below.heap_alloc _ _ _ (by simp)]; exact new_at _ _ _ (by simp)
  · exact new_at _ _ _ (by simp)
  · simp

set_option maxHeartbeats 1600000 in
theorem newPhi6 (s : Nat) (w : World) (hs : s ≤ 10000) :
    Calls Yba.prog 5 #[.int .u64 (s : Int)] w fun e w' => ∃ ps pmod pmask pt pu pv gd kd cd gm km cm Dd Dm, e = .returned (.pointer (some ⟨ps, 0, none⟩)) ∧ SqrAt w' s ps pmod pmask pt pu pv gd kd cd gm km cm Dd Dm ∧ Keeps (fun _ => False) w w' := by
  go_enter Yba.func5, Yba.ntmps5
  go_wp2_with fail
  refine (pow2m1 s w (by omega)).mono ?_
  rintro e W1 ⟨gm, km, cm, Dm, rfl, hm, hmN, hmV, hmR, hmB, hgm, hk1⟩
  have HR : Hid ((km < cm ∨ km ≤ 1) ∧ km ≤ s / 64 + 2) := ⟨hmR, hmB⟩
  clear hmR hmB
  have hml := hm.lt
  have hgl := hmN.lt
  generalize w.heap.size = pm at *
  go_wp2_with fail
  obtain ⟨b1, b2, b3, b4, b5, b6, hk2⟩ := five W1 (.cells #[.bool false, .slice none 0 0] 32) (.cells #[.bool false, .slice none 0 0] 32) (.cells #[.bool false, .slice none 0 0] 32) (.cells #[.int .u64 (s : Int), .pointer none, .pointer (some ⟨pm, 0, none⟩), .pointer (some ⟨W1.heap.size, 0, none⟩), .pointer (some ⟨W1.heap.size + 1, 0, none⟩), .pointer (some ⟨W1.heap.size + 1 + 1, 0, none⟩)] 28) (.cells #[.bool false, .slice none 0 0] 32)
  have hm2 := hm.kept hk2 (fun h => h)
  have hmN2 := hmN.kept hk2 (fun _ _ h => h)
  have hkk2 := hk1.trans hk2
  have hw1 := hk1.size
  generalize hV : ((((W1.alloc (.cells #[.bool false, .slice none 0 0] 32)).alloc (.cells #[.bool false, .slice none 0 0] 32)).alloc (.cells #[.bool false, .slice none 0 0] 32)).alloc (.cells #[.int .u64 (s : Int), .pointer none, .pointer (some ⟨pm, 0, none⟩), .pointer (some ⟨W1.heap.size, 0, none⟩), .pointer (some ⟨W1.heap.size + 1, 0, none⟩), .pointer (some ⟨W1.heap.size + 1 + 1, 0, none⟩)] 28)).alloc (.cells #[.bool false, .slice none 0 0] 32) = W2 at *
  clear hV hm hmN hk1 hk2
  generalize W1.heap.size = N at *
  have b1' : IntBlk W2 N (.slice none 0 0) := b1
  have b2' : IntBlk W2 (N + 1) (.slice none 0 0) := b2
  have b3' : IntBlk W2 (N + 1 + 1) (.slice none 0 0) := b3
  have b5' : IntBlk W2 (N + 1 + 1 + 1 + 1) (.slice none 0 0) := b5
  have B6 : Hid (W2.heap.size = N + 1 + 1 + 1 + 1 + 1) := b6
  have B4 : Hid (W2.heap[N + 1 + 1 + 1]? = some (.cells #[.int .u64 (s : Int), .pointer none, .pointer (some ⟨pm, 0, none⟩), .pointer (some ⟨N, 0, none⟩), .pointer (some ⟨N + 1, 0, none⟩), .pointer (some ⟨N + 1 + 1, 0, none⟩)] 28 (0, 0))) := b4
  clear b1 b2 b3 b4 b5 b6
  refine (newInt_one W2).mono ?_
  rintro e W3 ⟨rfl, hpx, hx, hk3⟩
  have a1 := b1'.kept hk3 (fun h => h)
  have a2 := b2'.kept hk3 (fun h => h)
  have a3 := b3'.kept hk3 (fun h => h)
  have a5 := b5'.kept hk3 (fun h => h)
  have A4 : Hid _ := block_kept B4.out hk3 (fun h => h)
  have hm3 := hm2.kept hk3 (fun h => h)
  have hmN3 := hmN2.kept hk3 (fun _ _ h => h)
  have hkk3 := hkk2.trans hk3
  have hl3 := hpx.lt
  clear b1' b2' b3' b5' B4 hm2 hmN2 hk3 hkk2
  rw [B6.out] at hpx hx hl3 ⊢
  go_wp2_with fail
  refine (intLsh_at (N + 1 + 1 + 1 + 1) (N + 1 + 1 + 1 + 1 + 1 + 1) (N + 1 + 1 + 1 + 1 + 1) (2 * s) _ W3 (by omega) a5 hpx hx (by omega) (by omega)).mono ?_
  rintro e W4 ⟨rfl, kd, cd, Dd, hd4, hdN4, hdV4, _, _, hk4⟩
  have c1 := a1.kept hk4 (by omega)
  have c2 := a2.kept hk4 (by omega)
  have c3 := a3.kept hk4 (by omega)
  have C4 : Hid _ := block_kept A4.out hk4 (by omega)
  have hm4 := hm3.kept hk4 (by omega)
  have hmN4 := hmN3.kept hk4 (fun g h => by have := addr_inj h; omega)
  have hkk4 := hkk3.then_ hk4 (fun i hi h => by omega)
  have hl4 := hdN4.lt
  clear a1 a2 a3 a5 A4 hm3 hmN3 hkk3 hk4 hpx hx
  generalize W3.heap.size = G at *
  -- s.mod = ..
  have f1 : W4.frozen? ⟨N + 1 + 1 + 1, 1, none⟩ = false := frozen_of_block C4.out
  have e1 : W4.cell? ⟨N + 1 + 1 + 1, 1, none⟩ = some (.pointer none) := by rw [cell_of_row W4 _ 1 _ 28 (0, 0) C4.out]; rfl
  have hks : Keeps (· = N + 1 + 1 + 1) W4 (W4.setCell ⟨N + 1 + 1 + 1, 1, none⟩ (.pointer (some ⟨N + 1 + 1 + 1 + 1, 0, none⟩))) := (Keeps.refl _ _).setCell _ (fun _ => rfl)
  have D4 : Hid _ := block_setCell (i := 1) C4.out (.pointer (some ⟨N + 1 + 1 + 1 + 1, 0, none⟩))
  have g1 := c1.kept hks (by omega)
  have g2 := c2.kept hks (by omega)
  have g3 := c3.kept hks (by omega)
  have hd5 := hd4.kept hks (by omega)
  have hdN5 := hdN4.kept hks (fun g h => by have := addr_inj h; omega)
  have hm5 := hm4.kept hks (by omega)
  have hmN5 := hmN4.kept hks (fun g h => by have := addr_inj h; omega)
  have hkk5 := hkk4.then_ hks (fun i hi h => by omega)
  clear c1 c2 c3 C4 hm4 hmN4 hkk4 hks hd4 hdN4
  go_wp2_with fail
  generalize hV5 : W4.setCell ⟨N + 1 + 1 + 1, 1, none⟩ (.pointer (some ⟨N + 1 + 1 + 1 + 1, 0, none⟩)) = W5 at *
  clear hV5 f1 e1
  have E4 : Hid (W5.heap[N + 1 + 1 + 1]? = some (.cells #[.int .u64 (s : Int), .pointer (some ⟨N + 1 + 1 + 1 + 1, 0, none⟩), .pointer (some ⟨pm, 0, none⟩), .pointer (some ⟨N, 0, none⟩), .pointer (some ⟨N + 1, 0, none⟩), .pointer (some ⟨N + 1 + 1, 0, none⟩)] 28 (0, 0))) := D4.out
  clear D4
  have l1 : W5.cell? ⟨N + 1 + 1 + 1, 1, none⟩ = some (.pointer (some ⟨N + 1 + 1 + 1 + 1, 0, none⟩)) := by rw [cell_of_row W5 _ 1 _ 28 (0, 0) E4.out]; rfl
  have l2 : W5.cell? ⟨N + 1 + 1 + 1, 2, none⟩ = some (.pointer (some ⟨pm, 0, none⟩)) := by rw [cell_of_row W5 _ 2 _ 28 (0, 0) E4.out]; rfl
  have hpos := p2_pos s
  have hpos2 : p2 s ≤ p2 (2 * s) := by
    rw [show 2 * s = s + s by omega, p2_add]
    have := Int.mul_le_mul_of_nonneg_left (show (1 : Int) ≤ p2 s by omega) (Int.le_of_lt hpos)
    omega
  have hm0 := hdN5.pos (by omega)
  have hle : dval Dm ≤ dval Dd := by omega
  have hgd : Apart (some ⟨gm, 0, none⟩) G := fun h => by have := addr_inj h; omega
  go_region_held3 (fun w' => w'.cell? ⟨N + 1 + 1 + 1, 1, none⟩ = some (.pointer (some ⟨N + 1 + 1 + 1 + 1, 0, none⟩)) ∧ w'.cell? ⟨N + 1 + 1 + 1, 2, none⟩ = some (.pointer (some ⟨pm, 0, none⟩))) (go_keep) ((go_at_call 10; refine (intSub_in (N + 1 + 1 + 1 + 1) G kd cd pm (some ⟨gm, 0, none⟩) km cm Dd Dm W5.drew hd5 hdN5.drew hm5 hmN5.drew hgd hm0 hle).mono ?_; rintro e W6 ⟨rfl, k6, D6, hd6, hdN6, hdV6, hk6⟩; have l3 : W6.cell? ⟨N + 1 + 1 + 1, 1, none⟩ = some (.pointer (some ⟨N + 1 + 1 + 1 + 1, 0, none⟩)) := (World.cell?_of_block (a := ⟨N + 1 + 1 + 1, 1, none⟩) (hk6.block (N + 1 + 1 + 1) (block_lt (w := W5.drew) E4.out) (by omega))).trans l1; have l4 : W6.cell? ⟨N + 1 + 1 + 1, 2, none⟩ = some (.pointer (some ⟨pm, 0, none⟩)) := (World.cell?_of_block (a := ⟨N + 1 + 1 + 1, 2, none⟩) (hk6.block (N + 1 + 1 + 1) (block_lt (w := W5.drew) E4.out) (by omega))).trans l2))
  have hk6' : Keeps (fun i => i = N + 1 + 1 + 1 + 1 ∨ i = G) W5 W6 := (Keeps.refl _ W5).drew.trans hk6
  have F4 := block_kept E4.out hk6' (by omega)
  go_wp2
  go_ret
  exact ⟨_, _, _, _, _, _, _, _, _, _, _, _, _, _, rfl, ⟨F4, hd6, hdN6, by rw [hdV6, hdV4, hmV], hm5.kept hk6' (by omega), hmN5.kept hk6' (fun g h => by have := addr_inj h; omega), hmV, HR.out, g1.kept hk6' (by omega), g2.kept hk6' (by omega), g3.kept hk6' (by omega), by omega⟩, hkk5.then_ hk6' (fun i hi h => by omega)⟩

end Go.Proofs.Ybulkbfsq
