/-
  math/big.nat.cmp (24).
-/
import Derived.Test.YbulkbfsqSet
namespace Go.Proofs.Ybulkbfsq
open Go.ChangeShapes Go.WideShapes Go.ChangeAt Go.RowKit

/-- The order of two numbers, as -1, 0, 1. -/
def cmpv (a b : Int) : Int := if a < b then -1 else if b < a then 1 else 0
theorem cmpv_lt {a b : Int} (h : a < b) : cmpv a b = -1 := by unfold cmpv; rw [if_pos h]
theorem cmpv_gt {a b : Int} (h : b < a) : cmpv a b = 1 := by unfold cmpv; rw [if_neg (by omega), if_pos h]
theorem cmpv_eq {a b : Int} (h : a = b) : cmpv a b = 0 := by unfold cmpv; rw [if_neg (by omega), if_neg (by omega)]
theorem cmpv_ge {a b : Int} (h : b ≤ a) : 0 ≤ cmpv a b ∧ cmpv a b ≤ 1 := by unfold cmpv; split; omega; split <;> omega

theorem drew2 (w : World) (a b : Nat) : (w.drewN a).drewN b = w.drewN (a + b) := by simp [World.drewN, Nat.add_assoc]
theorem drew3 (w : World) (a b c : Nat) : ∃ q, ((w.drewN a).drewN b).drewN c = w.drewN q := ⟨_, by rw [drew2, drew2]⟩
theorem drew4 (w : World) (a b c d : Nat) : ∃ q, (((w.drewN a).drewN b).drewN c).drewN d = w.drewN q := ⟨_, by rw [drew2, drew2, drew2]⟩
theorem ret_int {k : IntKind} {a b : Int} (h : a = b) : Ending.returned (.int k a) = .returned (.int k b) := by rw [h]

/-- What cmp says at place k, all above it alike. -/
theorem cmp_done {X Y : List Int} (dX : Dig X) (dY : Dig Y) (k : Nat) (hl : X.length = Y.length) (hk : k < X.length) (hd : X.drop (k + 1) = Y.drop (k + 1)) :
    (X.getD k 0 < Y.getD k 0 → cmpv (dval X) (dval Y) = -1) ∧ (Y.getD k 0 < X.getD k 0 → cmpv (dval X) (dval Y) = 1) ∧ (k = 0 → X.getD k 0 = Y.getD k 0 → cmpv (dval X) (dval Y) = 0) := by
  refine ⟨fun h => cmpv_lt (lt_at dX dY k hl hk hd h), fun h => cmpv_gt (lt_at dY dX k hl.symm (by omega) hd.symm h), fun h0 h => ?_⟩
  subst h0
  have e1 := take_snoc X 0 hk
  have e2 := take_snoc Y 0 (by omega)
  have : X = Y := by rw [← List.take_append_drop (0 + 1) X, ← List.take_append_drop (0 + 1) Y, hd, e1, e2, h]; simp
  exact cmpv_eq (by rw [this])

theorem drop_same {X Y : List Int} (k : Nat) (hx : k < X.length) (hy : k < Y.length) (hd : X.drop (k + 1) = Y.drop (k + 1)) (h : X.getD k 0 = Y.getD k 0) : X.drop k = Y.drop k := by
  rw [List.drop_eq_getElem_cons hx, List.drop_eq_getElem_cons hy, hd]
  simp [List.getD_eq_getElem?_getD, hx, hy] at h
  rw [h]

set_option maxHeartbeats 800000 in
theorem cmp_short (ax ay : Option Addr) (cx cy n m : Nat) (w : World) (h : n < m) :
    Calls Yba.prog 24 #[.slice ax n cx, .slice ay m cy] w fun e w' => e = .returned (.int .i64 (-1)) ∧ w' = w := by
  have h1 : ((n : Int) != (m : Int)) = true := bne_iff_ne.2 (by omega)
  have h2 : (n : Int) < (m : Int) := by omega
  go_enter Yba.func24, Yba.ntmps24
  go_wp2
  go_ret
  exact ⟨rfl, rfl⟩

set_option maxHeartbeats 800000 in
theorem cmp_long (ax ay : Option Addr) (cx cy n m : Nat) (w : World) (h : m < n) :
    Calls Yba.prog 24 #[.slice ax n cx, .slice ay m cy] w fun e w' => e = .returned (.int .i64 1) ∧ w' = w := by
  have h1 : ((n : Int) != (m : Int)) = true := bne_iff_ne.2 (by omega)
  have h2 : ¬ (n : Int) < (m : Int) := by omega
  have h3 : (m : Int) < (n : Int) := by omega
  go_enter Yba.func24, Yba.ntmps24
  go_wp2
  go_ret
  exact ⟨rfl, rfl⟩

set_option maxHeartbeats 800000 in
theorem cmp_none (ax ay : Option Addr) (cx cy : Nat) (w : World) :
    Calls Yba.prog 24 #[.slice ax 0 cx, .slice ay 0 cy] w fun e w' => e = .returned (.int .i64 0) ∧ w' = w := by
  go_enter Yba.func24, Yba.ntmps24
  go_wp2
  go_ret
  exact ⟨rfl, rfl⟩

set_option maxHeartbeats 1600000 in
theorem cmp_same (gx gy cx cy m : Nat) (X Y : List Int) (w : World) (hx : At w gx 0 X) (hy : At w gy 0 Y) (lx : Hid (X.length = m + 1)) (ly : Hid (Y.length = m + 1)) (dX : Dig X) (dY : Dig Y) (hb : m ≤ 100000) :
    Calls Yba.prog 24 #[.slice (some ⟨gx, 0, none⟩) (m + 1) cx, .slice (some ⟨gy, 0, none⟩) (m + 1) cy] w fun e w' => e = .returned (.int .i64 (cmpv (dval X) (dval Y))) ∧ ∃ q, w' = w.drewN q := by
  have hn0 : ((m : Int) + 1 == 0) = false := beq_eq_false_iff_ne.2 (by omega)
  go_enter Yba.func24, Yba.ntmps24
  go_wp2
  go_loopw [7] (fun i wr => ∃ k q : Nat, k ≤ m ∧ i = .int .i64 k ∧ X.drop (k + 1) = Y.drop (k + 1) ∧ wr = w.drewN q) (fun i _ => (intOf i).toNat)
  case atStart => exact ⟨m, 0, Nat.le_refl _, by go_num, by rw [List.drop_of_length_le (by rw [lx.out]; omega), List.drop_of_length_le (by rw [ly.out]; omega)], rfl⟩
  case round =>
    obtain ⟨k, q, hk, rfl, hd, rfl⟩ := hrel
    have hkx : k < X.length := by rw [lx.out]; omega
    have hky : k < Y.length := by rw [ly.out]; omega
    have HD := cmp_done dX dY k (lx.out.trans ly.out.symm) hkx hd
    have HE : Hid (X.getD k 0 = Y.getD k 0 → X.drop k = Y.drop k) := drop_same k hkx hky hd
    have HL : Hid (X.getD k 0 < Y.getD k 0 → cmpv (dval X) (dval Y) = -1) := HD.1
    have HG : Hid (Y.getD k 0 < X.getD k 0 → cmpv (dval X) (dval Y) = 1) := HD.2.1
    have HZ : Hid (k = 0 → X.getD k 0 = Y.getD k 0 → cmpv (dval X) (dval Y) = 0) := HD.2.2
    have gx' := hx k hkx
    have gy' := hy k hky
    rw [Nat.zero_add] at gx' gy'
    have hI0 : (0 : Int) ≤ (k : Int) := by omega
    have hI1 : (k : Int) < (m : Int) + 1 := by omega
    clear HD hd hkx hky
    generalize X.getD k 0 = x at *
    generalize Y.getD k 0 = y at *
    by_cases hk0 : k = 0
    · subst hk0
      have HZ' : Hid (x = y → cmpv (dval X) (dval Y) = 0) := HZ.out rfl
      clear HZ
      have hg : decide ((0 : Int) < ((0 : Nat) : Int)) = false := by decide
      rcases Int.lt_trichotomy x y with h | h | h
      · have Hv : Hid (cmpv (dval X) (dval Y) = -1) := HL.out h
        clear HL HG HZ' HE
        go_wp2
        go_quiet (fail)
        go_wp2
        go_quiet (fail)
        go_wp2
        go_ret
        exact ⟨ret_int Hv.out.symm, drew3 _ _ _ _⟩
      · have Hv : Hid (cmpv (dval X) (dval Y) = 0) := HZ'.out h
        clear HL HG HZ' HE
        subst h
        have h1 : ¬ x < x := Int.lt_irrefl x
        go_wp2
        go_quiet (fail)
        go_wp2
        go_quiet (fail)
        go_wp2
        go_quiet (fail)
        go_wp2
        go_ret
        exact ⟨ret_int Hv.out.symm, drew4 _ _ _ _ _⟩
      · have Hv : Hid (cmpv (dval X) (dval Y) = 1) := HG.out h
        have h1 : ¬ x < y := by omega
        clear HL HG HZ' HE
        go_wp2
        go_quiet (fail)
        go_wp2
        go_quiet (fail)
        go_wp2
        go_quiet (fail)
        go_wp2
        go_ret
        exact ⟨ret_int Hv.out.symm, drew4 _ _ _ _ _⟩
    · have hg : 0 < k := by omega
      clear HZ
      rcases Int.lt_trichotomy x y with h | h | h
      · have Hv : Hid (cmpv (dval X) (dval Y) = -1) := HL.out h
        have hb' : (x == y) = false := beq_eq_false_iff_ne.2 (by omega)
        clear HL HG HE
        go_wp2
        go_quiet (fail)
        go_wp2
        go_quiet (fail)
        go_wp2
        go_ret
        exact ⟨ret_int Hv.out.symm, drew3 _ _ _ _⟩
      · have Hv : Hid (X.drop k = Y.drop k) := HE.out h
        clear HL HG HE
        subst h
        go_wp2
        go_quiet (fail)
        go_wp2
        go_roundw
        case rel => exact ⟨k - 1, _, by omega, by go_num, by rw [show k - 1 + 1 = k by omega]; exact Hv.out, rfl⟩
        case measure => simp [intOf]; omega
      · have Hv : Hid (cmpv (dval X) (dval Y) = 1) := HG.out h
        have hb' : (x == y) = false := beq_eq_false_iff_ne.2 (by omega)
        have h1 : ¬ x < y := by omega
        clear HL HG HE
        go_wp2
        go_quiet (fail)
        go_wp2
        go_quiet (fail)
        go_wp2
        go_quiet (fail)
        go_wp2
        go_ret
        exact ⟨ret_int Hv.out.symm, drew4 _ _ _ _ _⟩

/-- A number in memory: its slice's address, length and capacity; its digits, normal. -/
structure NatAt (w : World) (a : Option Addr) (n c : Nat) (X : List Int) : Prop where
  len : X.length = n
  dig : Dig X
  norm : Norm X
  small : c ≤ 2000
  fits : n ≤ c
  lies : (a = none ∧ c = 0) ∨ ∃ g R, a = some ⟨g, 0, none⟩ ∧ Row w g R ∧ R.length = c ∧ Dig R ∧ R.take n = X

theorem NatAt.at_ {w : World} {a : Option Addr} {n c : Nat} {X : List Int} (h : NatAt w a n c X) (h0 : n ≠ 0) : ∃ g, a = some ⟨g, 0, none⟩ ∧ At w g 0 X := by
  rcases h.lies with ⟨_, hc⟩ | ⟨g, R, rfl, hr, hl, _, ht⟩
  · have := h.fits; omega
  · refine ⟨g, rfl, ?_⟩
    have := hr.at_ 0 n (by have := h.fits; omega)
    rw [List.drop_zero, ht] at this
    exact this

theorem cmp_at (ax ay : Option Addr) (cx cy n m : Nat) (X Y : List Int) (w : World) (hx : NatAt w ax n cx X) (hy : NatAt w ay m cy Y) :
    Calls Yba.prog 24 #[.slice ax n cx, .slice ay m cy] w fun e w' => e = .returned (.int .i64 (cmpv (dval X) (dval Y))) ∧ ∃ q, w' = w.drewN q := by
  rcases Nat.lt_trichotomy n m with h | h | h
  · refine (cmp_short ax ay cx cy n m w h).mono ?_
    rintro e w' ⟨rfl, rfl⟩
    exact ⟨ret_int (cmpv_lt (norm_len_lt hx.dig hy.dig hy.norm (by rw [hx.len, hy.len]; exact h))).symm, 0, rfl⟩
  · subst h
    rcases n with _ | n
    · refine (cmp_none ax ay cx cy w).mono ?_
      rintro e w' ⟨rfl, rfl⟩
      have e1 := List.eq_nil_of_length_eq_zero hx.len
      have e2 := List.eq_nil_of_length_eq_zero hy.len
      exact ⟨ret_int (cmpv_eq (by rw [e1, e2])).symm, 0, rfl⟩
    · obtain ⟨gx, rfl, ax'⟩ := hx.at_ (by omega)
      obtain ⟨gy, rfl, ay'⟩ := hy.at_ (by omega)
      exact cmp_same gx gy cx cy n X Y w ax' ay' hx.len hy.len hx.dig hy.dig (by have := hx.small; have := hx.fits; omega)
  · refine (cmp_long ax ay cx cy n m w h).mono ?_
    rintro e w' ⟨rfl, rfl⟩
    exact ⟨ret_int (cmpv_gt (norm_len_lt hy.dig hx.dig hx.norm (by rw [hx.len, hy.len]; exact h))).symm, 0, rfl⟩

end Go.Proofs.Ybulkbfsq
