/-
  pow2Minus1 (15), newPhi6Squarer (5).
-/
import Derived.Test.YbulkbfsqIntSub
namespace Go.Proofs.Ybulkbfsq
open Go.ChangeShapes Go.WideShapes Go.ChangeAt Go.RowKit
attribute [local go_sem ↓] Go.wp_at_zero Go.wp_at_succ

theorem NatAt.lt {w : World} {g n c : Nat} {X : List Int} (h : NatAt w (some ⟨g, 0, none⟩) n c X) : g < w.heap.size := by
  obtain ⟨R, hr, _⟩ := natAt_some h
  exact hr.lt
theorem NatAt.pos {w : World} {a : Option Addr} {n c : Nat} {X : List Int} (h : NatAt w a n c X) (hv : 0 < dval X) : 0 < n := by
  rcases Nat.eq_zero_or_pos n with h0 | h0
  · have e := List.eq_nil_of_length_eq_zero (h.len.trans h0)
    rw [e] at hv; exact absurd hv (by decide)
  · exact h0

set_option maxHeartbeats 1600000 in
theorem pow2m1 (s : Nat) (w : World) (hs : s ≤ 100000) :
    Calls Yba.prog 15 #[.int .u64 (s : Int)] w fun e w' => ∃ g k c D, e = .returned (.pointer (some ⟨w.heap.size, 0, none⟩)) ∧ IntBlk w' w.heap.size (.slice (some ⟨g, 0, none⟩) k c) ∧ NatAt w' (some ⟨g, 0, none⟩) k c D ∧ dval D = p2 s - 1 ∧ (k < c ∨ k ≤ 1) ∧ k ≤ s / 64 + 2 ∧ w.heap.size < g ∧ Keeps (fun _ => False) w w' := by
  have hp0 : IntBlk (w.alloc (.cells #[.bool false, .slice none 0 0] 32)) w.heap.size (.slice none 0 0) := heap_alloc_new w _
  have hk0 : Keeps (fun _ => False) w (w.alloc (.cells #[.bool false, .slice none 0 0] 32)) := (Keeps.refl _ _).alloc _
  go_enter Yba.func15, Yba.ntmps15
  go_wp2_with fail
  generalize hW : w.alloc (.cells #[.bool false, .slice none 0 0] 32) = W1 at *
  clear hW
  have hl0 := hp0.lt
  refine (newInt_one W1).mono ?_
  rintro e W2 ⟨rfl, hpx, hx, hk1⟩
  have hp1 := hp0.kept hk1 (fun h => h)
  have hkk := hk0.trans hk1
  clear hp0 hk0 hk1
  go_wp2_with fail
  refine (intLsh w.heap.size (W1.heap.size + 1) W1.heap.size s W2 hp1 hpx hx (by omega) hs).mono ?_
  rintro e W3 ⟨rfl, k, c, D, hp2, hn2, hv, hroom, hkb, hk2⟩
  have hkk2 := hkk.then_ hk2 (fun i hi h => by omega)
  have hlt2 := hp1.lt
  clear hp1 hpx hx hkk hk2
  go_wp2_with fail
  refine (newInt_one W3).mono ?_
  rintro e W4 ⟨rfl, hpy, hy, hk3⟩
  have hp3 := hp2.kept hk3 (fun h => h)
  have hn3 := hn2.kept hk3 (fun _ _ h => h)
  have hkk3 := hkk2.trans hk3
  have hlt3 := hn2.lt
  have hpos := p2_pos s
  have hm := hn2.pos (by omega)
  clear hp2 hn2 hkk2 hk3
  go_wp2_with fail
  refine (intSub_in w.heap.size W2.heap.size k c (W3.heap.size + 1) (some ⟨W3.heap.size, 0, none⟩) 1 1 D [1] W4 hp3 hn3 hpy (natAt_one hy) (fun h => by have := addr_inj h; omega) hm (by rw [hv]; show (1 : Int) + BB * 0 ≤ _; omega)).mono ?_
  rintro e W5 ⟨rfl, k', D', hp4, hn4, hv4, hk4⟩
  have hkk4 := hkk3.then_ hk4 (fun i hi h => by omega)
  go_wp2
  go_ret
  have hkk' : k' ≤ k := by
    rcases Nat.lt_or_ge k k' with h | h
    · have := norm_len_lt hn3.dig hn4.dig hn4.norm (by rw [hn3.len, hn4.len]; exact h)
      have : dval [1] = 1 := by decide
      omega
    · exact h
  exact ⟨W2.heap.size, k', c, D', rfl, hp4, hn4, by rw [hv4, hv]; rfl, by omega, by omega, by omega, hkk4⟩

end Go.Proofs.Ybulkbfsq
