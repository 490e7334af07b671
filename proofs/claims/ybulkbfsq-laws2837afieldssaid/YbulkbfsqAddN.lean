/-
  math/big.nat.add (23): 'x + 1' of numbers, into new memory or onto x itself.
-/
import Derived.Test.YbulkbfsqAdd
import Derived.Test.YbulkbfsqLshN
namespace Go.Proofs.Ybulkbfsq
open Go.ChangeShapes Go.WideShapes Go.ChangeAt Go.RowKit

set_option maxHeartbeats 800000 in
/-- 'z.add(x, 0)': 'z.set(x)', x one digit. -/
theorem add_set (az : Option Addr) (lz cz : Nat) (gy cy : Nat) (ax : Option Addr) (cx : Nat) (w : World) (R : Ending → World → Prop)
    (H : Hid (Calls Yba.prog 30 #[.slice az lz cz, .slice (some ⟨gy, 0, none⟩) 1 cy] w fun e w' => ∃ g k c, e = .returned (.slice (some ⟨g, 0, none⟩) k c) ∧ R (.returned (.slice (some ⟨g, 0, none⟩) k c)) w')) :
    Calls Yba.prog 23 #[.slice az lz cz, .slice (some ⟨gy, 0, none⟩) 1 cy, .slice ax 0 cx] w R := by
  go_enter Yba.func23, Yba.ntmps23
  go_wp2_with fail
  refine (H.out).mono ?_
  rintro e w' ⟨g, k, c, rfl, hR⟩
  go_wp2
  exact hR

set_option maxHeartbeats 800000 in
/-- 'z.add(0, 1)': turned round. -/
theorem add_turn (az : Option Addr) (lz cz : Nat) (gy cy : Nat) (ax : Option Addr) (cx : Nat) (w : World) (R : Ending → World → Prop)
    (H : Hid (Calls Yba.prog 30 #[.slice az lz cz, .slice (some ⟨gy, 0, none⟩) 1 cy] w fun e w' => ∃ g k c, e = .returned (.slice (some ⟨g, 0, none⟩) k c) ∧ R (.returned (.slice (some ⟨g, 0, none⟩) k c)) w')) :
    Calls Yba.prog 23 #[.slice az lz cz, .slice ax 0 cx, .slice (some ⟨gy, 0, none⟩) 1 cy] w R := by
  go_enter Yba.func23, Yba.ntmps23
  go_wp2_with fail
  refine (add_set az lz cz gy cy ax cx w (fun e w' => ∃ g k c, e = .returned (.slice (some ⟨g, 0, none⟩) k c) ∧ R (.returned (.slice (some ⟨g, 0, none⟩) k c)) w') ?_).mono ?_
  · exact (H.out).mono fun e w' ⟨g, k, c, he, hR⟩ => ⟨g, k, c, he, g, k, c, rfl, hR⟩
  rintro e w' ⟨g, k, c, rfl, hR⟩
  go_wp2
  exact hR

theorem make_new_add (a : Option Addr) (l m cap : Nat) (w : World) (hn : cap < m + 1) (h0 : 0 < m) (hb : m ≤ 80000) :
    Calls Yba.prog 31 #[.slice a l cap, .int .i64 ((m : Int) + 1)] w fun e w' => e = .returned (.slice (some ⟨w.heap.size, 0, none⟩) (m + 1) (m + 5)) ∧ w' = w.alloc (.cells (zrow (m + 5)) 45) := by
  have h := make_new a l (m + 1) cap w hn (by omega)
  have e : ncap (m + 1) = m + 5 := by unfold ncap; rw [if_neg (by omega)]
  rw [e] at h
  rw [show ((m : Int) + 1) = ((m + 1 : Nat) : Int) by omega]
  exact h
theorem make_fit_add (g l m cap : Nat) (w : World) (hn : m + 1 ≤ cap) :
    Calls Yba.prog 31 #[.slice (some ⟨g, 0, none⟩) l cap, .int .i64 ((m : Int) + 1)] w fun e w' => e = .returned (.slice (some ⟨g, 0, none⟩) (m + 1) cap) ∧ w' = w := by
  rw [show ((m : Int) + 1) = ((m + 1 : Nat) : Int) by omega]
  exact make_fit g l (m + 1) cap w hn

theorem one_at {w : World} {g : Nat} (h : Row w g [1]) : At w g 0 [1] := by
  have := h.at_ 0 1 (by simp)
  simpa using this

/-- 'nat(nil).add(x, 1)'. -/
theorem nat_add_new (ax : Option Addr) (m c gy cy : Nat) (X : List Int) (w : World) (hx : NatAt w ax m c X) (hy : Row w gy [1]) (hcy : 1 ≤ cy) (hroom : m < c ∨ m ≤ 1) (hb : m ≤ 1900) :
    Calls Yba.prog 23 #[.slice none 0 0, .slice ax m c, .slice (some ⟨gy, 0, none⟩) 1 cy] w fun e w' =>
      ∃ k c' D, e = .returned (.slice (some ⟨w.heap.size, 0, none⟩) k c') ∧ NatAt w' (some ⟨w.heap.size, 0, none⟩) k c' D ∧ dval D = dval X + 1 ∧ Keeps (fun _ => False) w w' := by
  by_cases h0 : m = 0
  · subst h0
    have eX : X = [] := List.eq_nil_of_length_eq_zero hx.len
    refine add_turn none 0 0 gy cy ax c w _ ?_
    refine (set_new none 0 0 gy cy 1 [1] w (by omega) (one_at hy) hy.lt rfl (by omega)).mono ?_
    rintro e w' ⟨rfl, hr, hk⟩
    exact ⟨_, _, _, rfl, 1, 1, [1], rfl, natAt_one hr, by rw [eX]; decide, hk⟩
  · rcases hx.lies with ⟨_, hcx⟩ | ⟨gx, RX, rfl, hrx, hlx, hdx, htx⟩
    · have := hx.fits; omega
    have hk0 : Keeps (fun _ => False) w (w.alloc (.cells (zrow (m + 5)) 45)) := (Keeps.refl _ _).alloc _
    have hgx := hrx.lt
    have hgy := hy.lt
    have hf := hx.fits
    refine (nat_add_go none 0 0 w.heap.size (m + 5) gx c m gy cy (List.replicate (m + 5) 0) RX X w _ (make_new_add none 0 m 0 w (by omega) (by omega) (by omega)) (row_zrow w _) (by simp [Hid]) (by omega) (hrx.kept hk0 (fun h => h)) hlx hf htx
      ((one_at hy).kept hgy hk0 (fun h => h)) hcy (by omega) (.inr ⟨by omega, by omega⟩) (Dig.replicate _) hdx (by omega) (by omega) (by omega)).mono ?_
    rintro e w' ⟨k, R', rfl, hr', hl', hd', hkm, hno, hv, hk⟩
    exact ⟨k, _, R'.take k, rfl, ⟨by rw [List.length_take]; omega, hd'.take k, hno, by omega, by omega, .inr ⟨_, R', rfl, hr', hl', hd', rfl⟩⟩, hv, hk0.then_ hk (fun i hi h => by omega)⟩

/-- 'x.add(x, 1)'. -/
theorem nat_add_in (g m c gy cy : Nat) (X : List Int) (w : World) (hx : NatAt w (some ⟨g, 0, none⟩) m c X) (hy : Row w gy [1]) (hcy : 1 ≤ cy) (hgy : gy ≠ g) (hc : 1 ≤ c) (hroom : m < c ∨ m ≤ 1) (hb : m ≤ 1900) :
    Calls Yba.prog 23 #[.slice (some ⟨g, 0, none⟩) m c, .slice (some ⟨g, 0, none⟩) m c, .slice (some ⟨gy, 0, none⟩) 1 cy] w fun e w' =>
      ∃ g' k c' D, e = .returned (.slice (some ⟨g', 0, none⟩) k c') ∧ NatAt w' (some ⟨g', 0, none⟩) k c' D ∧ dval D = dval X + 1 ∧ Keeps (· = g) w w' := by
  obtain ⟨R, hr, hl, hd, ht⟩ := natAt_some hx
  have hf := hx.fits
  have hs := hx.small
  by_cases h0 : m = 0
  · subst h0
    have eX : X = [] := List.eq_nil_of_length_eq_zero hx.len
    refine add_turn (some ⟨g, 0, none⟩) 0 c gy cy (some ⟨g, 0, none⟩) c w _ ?_
    refine (set_fit g 0 c gy cy 1 R [1] w hr (by omega) hc (one_at hy) rfl).mono ?_
    rintro e w' ⟨rfl, hr', hk⟩
    have hlen : (splice R 0 [1]).length = c := by rw [length_splice _ _ _ (by simp; omega), hl]
    exact ⟨_, _, _, rfl, g, 1, c, [1], rfl, ⟨rfl, dig_one, fun k hk => by simp at hk; subst hk; simp, hs, hc, .inr ⟨g, _, rfl, hr', hlen, hd.splice dig_one 0, splice0_take R [1]⟩⟩, by rw [eX]; decide, hk⟩
  · by_cases h1 : m + 1 ≤ c
    · refine (nat_add_go (some ⟨g, 0, none⟩) m c g c g c m gy cy R R X w w (make_fit_add g m m c w h1) hr hl h1 hr hl hf ht (one_at hy) hcy hgy (.inl rfl) hd hd (by omega) (by omega) hs).mono ?_
      rintro e w' ⟨k, R', rfl, hr', hl', hd', hkm, hno, hv, hk⟩
      exact ⟨g, k, c, R'.take k, rfl, ⟨by rw [List.length_take]; omega, hd'.take k, hno, hs, by omega, .inr ⟨g, R', rfl, hr', hl', hd', rfl⟩⟩, hv, hk⟩
    · have hk0 : Keeps (fun _ => False) w (w.alloc (.cells (zrow (m + 5)) 45)) := (Keeps.refl _ _).alloc _
      have hg := hr.lt
      have hgy' := hy.lt
      refine (nat_add_go (some ⟨g, 0, none⟩) m c w.heap.size (m + 5) g c m gy cy (List.replicate (m + 5) 0) R X w _ (make_new_add _ m m c w (by omega) (by omega) (by omega)) (row_zrow w _) (by simp [Hid]) (by omega) (hr.kept hk0 (fun h => h)) hl hf ht
        ((one_at hy).kept hgy' hk0 (fun h => h)) hcy (by omega) (.inr ⟨by omega, by omega⟩) (Dig.replicate _) hd (by omega) (by omega) (by omega)).mono ?_
      rintro e w' ⟨k, R', rfl, hr', hl', hd', hkm, hno, hv, hk⟩
      exact ⟨_, k, _, R'.take k, rfl, ⟨by rw [List.length_take]; omega, hd'.take k, hno, by omega, by omega, .inr ⟨_, R', rfl, hr', hl', hd', rfl⟩⟩, hv, (hk0.mono (fun _ _ h => h.elim)).then_ hk (fun i hi h => by omega)⟩

end Go.Proofs.Ybulkbfsq
