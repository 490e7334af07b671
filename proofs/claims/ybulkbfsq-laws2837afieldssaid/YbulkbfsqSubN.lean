/-
  math/big.nat.sub (25), in place and into new memory, said of numbers.
-/
import Derived.Test.YbulkbfsqSub
namespace Go.Proofs.Ybulkbfsq
open Go.ChangeShapes Go.WideShapes Go.ChangeAt Go.RowKit

set_option maxHeartbeats 800000 in
/-- Nothing is taken away: 'z.set(x)', z and x one. -/
theorem nat_sub_zero (g m c : Nat) (ay : Option Addr) (cy : Nat) (R X : List Int) (w : World) (hr : Row w g R) (hc : R.length = c) (hm : m ≤ c) (hX : R.take m = X) (h0 : 0 < m) :
    Calls Yba.prog 25 #[.slice (some ⟨g, 0, none⟩) m c, .slice (some ⟨g, 0, none⟩) m c, .slice ay 0 cy] w fun e w' =>
      e = .returned (.slice (some ⟨g, 0, none⟩) m c) ∧ Row w' g R ∧ Keeps (· = g) w w' := by
  have h2 : ((m : Int) == 0) = false := beq_eq_false_iff_ne.2 (by omega)
  have hx : At w g 0 X := by
    have := hr.at_ 0 m (by omega)
    rw [List.drop_zero, hX] at this
    exact this
  have lX : Hid (X.length = m) := by rw [Hid, ← hX, List.length_take]; omega
  have es : Hid (splice R 0 X = R) := by
    rw [Hid, splice, List.take_zero, List.nil_append, lX.out, ← hX, Nat.zero_add, List.take_append_drop]
  have hR : m ≤ R.length := by omega
  clear hX hc
  go_enter Yba.func25, Yba.ntmps25
  go_wp2_with fail
  refine (set_fit g m c g c m R X _ hr hR hm hx lX).mono ?_
  rintro e w1 ⟨rfl, hr1, hk1⟩
  rw [es.out] at hr1
  go_wp2
  go_ret
  exact ⟨rfl, hr1, hk1⟩

theorem natAt_some {w : World} {g n c : Nat} {X : List Int} (h : NatAt w (some ⟨g, 0, none⟩) n c X) : ∃ R, Row w g R ∧ R.length = c ∧ Dig R ∧ R.take n = X := by
  rcases h.lies with ⟨h, _⟩ | ⟨g', R, e, h⟩
  · cases h
  · simp only [Option.some.injEq, Addr.mk.injEq, and_true] at e
    subst e; exact ⟨R, h⟩

/-- Which block a number's digits lie in, if in any. -/
def Apart (a : Option Addr) (g : Nat) : Prop := a ≠ some ⟨g, 0, none⟩

theorem NatAt.kept {S : Nat → Prop} {w w' : World} {a : Option Addr} {n c : Nat} {X : List Int} (h : NatAt w a n c X) (k : Keeps S w w') (hs : ∀ g, a = some ⟨g, 0, none⟩ → ¬ S g) : NatAt w' a n c X := by
  refine ⟨h.len, h.dig, h.norm, h.small, h.fits, ?_⟩
  rcases h.lies with h | ⟨g, R, e, hr, h⟩
  · exact .inl h
  · exact .inr ⟨g, R, e, hr.kept k (hs g e), h⟩

/-- 'x.sub(x, y)' of numbers, y not greater than x. -/
theorem nat_sub_in (g m c : Nat) (ay : Option Addr) (n cy : Nat) (X Y : List Int) (w : World) (hx : NatAt w (some ⟨g, 0, none⟩) m c X) (hy : NatAt w ay n cy Y) (hap : Apart ay g) (h0 : 0 < m) (hle : dval Y ≤ dval X) :
    Calls Yba.prog 25 #[.slice (some ⟨g, 0, none⟩) m c, .slice (some ⟨g, 0, none⟩) m c, .slice ay n cy] w fun e w' =>
      ∃ k D, e = .returned (.slice (some ⟨g, 0, none⟩) k c) ∧ NatAt w' (some ⟨g, 0, none⟩) k c D ∧ dval D = dval X - dval Y ∧ Keeps (· = g) w w' := by
  obtain ⟨R, hr, hl, hd, ht⟩ := natAt_some hx
  by_cases hn : n = 0
  · subst hn
    refine (nat_sub_zero g m c ay cy R X w hr hl hx.fits ht h0).mono ?_
    rintro e w' ⟨rfl, hr', hk⟩
    have eY : Y = [] := List.eq_nil_of_length_eq_zero hy.len
    refine ⟨m, X, rfl, ⟨hx.len, hx.dig, hx.norm, hx.small, hx.fits, .inr ⟨g, R, rfl, hr', hl, hd, ht⟩⟩, by rw [eY]; simp [dval], hk⟩
  · have hnm : n ≤ m := by
      by_cases h : m < n
      · have := norm_len_lt hx.dig hy.dig hy.norm (by rw [hx.len, hy.len]; exact h)
        omega
      · omega
    rcases hy.lies with ⟨_, hcy⟩ | ⟨gy, RY, rfl, hry, hly, hdy, hty⟩
    · have := hy.fits; omega
    have hgy : gy ≠ g := fun e => hap (by rw [e])
    have hb := hx.small
    have hf := hx.fits
    refine (nat_sub_go (some ⟨g, 0, none⟩) m c g c g c m gy cy n R R RY X Y w w (make_fit g m m c w hx.fits) hr hl hx.fits hr hl hx.fits ht hry hly hy.fits hty hgy (.inl rfl) hd hd hdy (by omega) hnm hle (by omega) hb).mono ?_
    rintro e w' ⟨k, R', rfl, hr', hl', hd', hkm, hno, hv, hk⟩
    exact ⟨k, R'.take k, rfl, ⟨by rw [List.length_take]; omega, hd'.take k, hno, hb, by omega, .inr ⟨g, R', rfl, hr', hl', hd', rfl⟩⟩, hv, hk⟩

/-- 'nat(nil).sub(x, y)' of numbers, y not nought and not greater than x; x has spare room where it is the longer. -/
theorem nat_sub_new (ax : Option Addr) (m c : Nat) (ay : Option Addr) (n cy : Nat) (X Y : List Int) (w : World) (hx : NatAt w ax m c X) (hy : NatAt w ay n cy Y) (hn : 0 < n) (hle : dval Y ≤ dval X) (hroom : m < c ∨ m = 1) (hb : m ≤ 1900) :
    Calls Yba.prog 25 #[.slice none 0 0, .slice ax m c, .slice ay n cy] w fun e w' =>
      ∃ k D, e = .returned (.slice (some ⟨w.heap.size, 0, none⟩) k (ncap m)) ∧ NatAt w' (some ⟨w.heap.size, 0, none⟩) k (ncap m) D ∧ dval D = dval X - dval Y ∧ Keeps (fun _ => False) w w' := by
  have hnm : n ≤ m := by
    by_cases h : m < n
    · have := norm_len_lt hx.dig hy.dig hy.norm (by rw [hx.len, hy.len]; exact h)
      omega
    · omega
  rcases hx.lies with ⟨_, hcx⟩ | ⟨gx, RX, rfl, hrx, hlx, hdx, htx⟩
  · have := hx.fits; omega
  rcases hy.lies with ⟨_, hcy⟩ | ⟨gy, RY, rfl, hry, hly, hdy, hty⟩
  · have := hy.fits; omega
  have hk0 : Keeps (fun _ => False) w (w.alloc (.cells (zrow (ncap m)) 45)) := (Keeps.refl _ _).alloc _
  have hgx := hrx.lt
  have hgy := hry.lt
  have hmc : m ≤ ncap m := by unfold ncap; split <;> omega
  have hsm : ncap m ≤ 2000 := by unfold ncap; split <;> omega
  have hf := hx.fits
  have hcm : n < m → m < ncap m ∧ m < c := by
    intro h
    unfold ncap; rw [if_neg (by omega)]; omega
  refine (nat_sub_go none 0 0 w.heap.size (ncap m) gx c m gy cy n (List.replicate (ncap m) 0) RX RY X Y w _ (make_new none 0 m 0 w (by omega) (by omega)) (row_zrow w _) (by simp [Hid]) hmc (hrx.kept hk0 (fun h => h)) hlx hf htx
      (hry.kept hk0 (fun h => h)) hly hy.fits hty (by omega) (.inr ⟨by omega, hcm⟩) (Dig.replicate _) hdx hdy hn hnm hle (by omega) hsm).mono ?_
  rintro e w' ⟨k, R', rfl, hr', hl', hd', hkm, hno, hv, hk⟩
  exact ⟨k, R'.take k, rfl, ⟨by rw [List.length_take]; omega, hd'.take k, hno, hsm, by omega, .inr ⟨_, R', rfl, hr', hl', hd', rfl⟩⟩, hv, hk0.then_ hk (fun i hi h => by omega)⟩

end Go.Proofs.Ybulkbfsq
