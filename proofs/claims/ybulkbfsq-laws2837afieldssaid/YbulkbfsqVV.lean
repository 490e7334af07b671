/-
  math/big.subVV_g, addVV_g (17, 16): two rows of digits, from the lowest up.
-/
import Derived.Test.YbulkbfsqBits
namespace Go.Proofs.Ybulkbfsq
open Go.ChangeShapes Go.WideShapes Go.ChangeAt Go.RowKit

/-- What the loop of subVV has done after k digits. -/
def SubIs (X Y D : List Int) (c : Int) (k : Nat) : Prop :=
  D.length = k ∧ Dig D ∧ (0 ≤ c ∧ c ≤ 1) ∧ dval D = dval (X.take k) - dval (Y.take k) + c * bp k
theorem SubIs.zero (X Y : List Int) : SubIs X Y [] 0 0 := ⟨rfl, Dig.nil, ⟨by decide, by decide⟩, by simp [dval]⟩
theorem SubIs.step {X Y D : List Int} {c : Int} {k : Nat} (h : SubIs X Y D c k) (hX : Dig X) (hY : Dig Y) (hx : k < X.length) (hy : k < Y.length) :
    SubIs X Y (D ++ [subd (X.getD k 0) (Y.getD k 0) c]) (bor (X.getD k 0) (Y.getD k 0) c) (k + 1) := by
  obtain ⟨h1, h2, h3, h4⟩ := h
  have hd := subd_dig (X.getD k 0) (Y.getD k 0) c
  refine ⟨by simp [h1], h2.snoc hd.1 hd.2, bor01 _ _ _, ?_⟩
  have lx : (X.take k).length = k := by simp; omega
  have ly : (Y.take k).length = k := by simp; omega
  rw [take_snoc X k hx, take_snoc Y k hy, dval_snoc, dval_snoc, dval_snoc, h1, lx, ly]
  exact sub_step h4 (subd_eq _ _ _ (hX.getD k) (hY.getD k) h3)

set_option maxHeartbeats 800000 in
theorem subVV_at (gz oz cz gx ox cx gy oy cy n : Nat) (R X Y : List Int) (w : World) (hz : Row w gz R) (hzn : oz + n ≤ R.length) (hx : At w gx ox X) (hy : At w gy oy Y) (lx : Hid (X.length = n)) (ly : Hid (Y.length = n))
    (dX : Dig X) (dY : Dig Y) (ax : gx ≠ gz ∨ ox = oz) (ay : gy ≠ gz ∨ oy = oz) (hn : n ≤ 100000) :
    Calls Yba.prog 17 #[.slice (some ⟨gz, oz, none⟩) n cz, .slice (some ⟨gx, ox, none⟩) n cx, .slice (some ⟨gy, oy, none⟩) n cy] w fun e w' =>
      ∃ D c, e = .returned (.int .u64 c) ∧ SubIs X Y D c n ∧ Row w' gz (splice R oz D) ∧ Keeps (· = gz) w w' := by
  go_enter Yba.func17, Yba.ntmps17
  go_wp2
  go_loopw [6, 25] (fun c i wr => ∃ (k : Nat) (D : List Int) (q : Int), k ≤ n ∧ i = .int .i64 k ∧ c = .int .u64 q ∧ SubIs X Y D q k ∧ Row wr gz (splice R oz D) ∧ Keeps (· = gz) w wr) (fun _ i _ => n - (intOf i).toNat)
  case atStart => exact ⟨0, [], 0, Nat.zero_le _, rfl, rfl, SubIs.zero X Y, by rw [splice_nil]; exact hz, Keeps.refl _ _⟩
  case round =>
    obtain ⟨k, D, q, hk, rfl, rfl, hI, hr, hK⟩ := hrel
    by_cases hlt : k < n
    · have hD : D.length = k := hI.1
      have cx := read_at hx hz hzn hK hr lx.out ax k (by omega) hlt
      have cy := read_at hy hz hzn hK hr ly.out ay k (by omega) hlt
      have hst := hI.step dX dY (by rw [lx.out]; exact hlt) (by rw [ly.out]; exact hlt)
      have hlen : (splice R oz D).length = R.length := by rw [length_splice _ _ _ (by omega)]
      have cz := hr.cell (oz + k) (by omega)
      have fz := hr.frozen (oz + k)
      have bx := dX.getD k
      have by' := dY.getD k
      have bq := hI.2.2.1
      have hI0 : (0 : Int) ≤ (k : Int) := by omega
      have hI1 : (k : Int) < (n : Int) := by omega
      have hrow : ∀ d, Row (wr.setCell ⟨gz, oz + k, none⟩ (.int .u64 d)) gz (splice R oz (D ++ [d])) := by
        intro d
        have := hr.setCell (oz + k) d
        rw [← hD] at this
        rw [splice_set R D oz d (by omega)] at this
        rw [← hD]; exact this
      generalize X.getD k 0 = x at *
      generalize Y.getD k 0 = y at *
      generalize (splice R oz D).getD (oz + k) 0 = zz at *
      clear hI hlen hx hy hz
      go_wp2
      go_quiet ((go_at_call 39; exact Calls.quiet_of_same (sub_at x y q bx by' bq _)))
      go_wp2
      go_roundw
      case rel => exact ⟨k + 1, D ++ [subd x y q], bor x y q, by omega, by go_num, rfl, hst, hrow _, (hK.setCell (p := ⟨gz, oz + k, none⟩) _ (fun _ => rfl)).drewN nq⟩
      case measure => simp [intOf]; omega
    · have : k = n := by omega
      subst this
      go_wp2
      go_ret
      exact ⟨D, q, rfl, hI, hr, hK⟩

/-- What the loop of addVV has done after k digits. -/
def AddIs (X Y D : List Int) (c : Int) (k : Nat) : Prop :=
  D.length = k ∧ Dig D ∧ (0 ≤ c ∧ c ≤ 1) ∧ dval D + c * bp k = dval (X.take k) + dval (Y.take k)
theorem AddIs.zero (X Y : List Int) : AddIs X Y [] 0 0 := ⟨rfl, Dig.nil, ⟨by decide, by decide⟩, by simp [dval]⟩
theorem AddIs.step {X Y D : List Int} {c : Int} {k : Nat} (h : AddIs X Y D c k) (hX : Dig X) (hY : Dig Y) (hx : k < X.length) (hy : k < Y.length) :
    AddIs X Y (D ++ [addd (X.getD k 0) (Y.getD k 0) c]) (car (X.getD k 0) (Y.getD k 0) c) (k + 1) := by
  obtain ⟨h1, h2, h3, h4⟩ := h
  have hd := addd_dig (X.getD k 0) (Y.getD k 0) c
  refine ⟨by simp [h1], h2.snoc hd.1 hd.2, car01 _ _ _ (hX.getD k) (hY.getD k) h3, ?_⟩
  have lx : (X.take k).length = k := by simp; omega
  have ly : (Y.take k).length = k := by simp; omega
  rw [take_snoc X k hx, take_snoc Y k hy, dval_snoc, dval_snoc, dval_snoc, h1, lx, ly]
  exact add_step h4 (addd_eq _ _ _)

set_option maxHeartbeats 800000 in
theorem addVV_at (gz oz cz gx ox cx gy oy cy n : Nat) (R X Y : List Int) (w : World) (hz : Row w gz R) (hzn : oz + n ≤ R.length) (hx : At w gx ox X) (hy : At w gy oy Y) (lx : Hid (X.length = n)) (ly : Hid (Y.length = n))
    (dX : Dig X) (dY : Dig Y) (ax : gx ≠ gz ∨ ox = oz) (ay : gy ≠ gz ∨ oy = oz) (hn : n ≤ 100000) :
    Calls Yba.prog 16 #[.slice (some ⟨gz, oz, none⟩) n cz, .slice (some ⟨gx, ox, none⟩) n cx, .slice (some ⟨gy, oy, none⟩) n cy] w fun e w' =>
      ∃ D c, e = .returned (.int .u64 c) ∧ AddIs X Y D c n ∧ Row w' gz (splice R oz D) ∧ Keeps (· = gz) w w' := by
  go_enter Yba.func16, Yba.ntmps16
  go_wp2
  go_loopw [6, 25] (fun c i wr => ∃ (k : Nat) (D : List Int) (q : Int), k ≤ n ∧ i = .int .i64 k ∧ c = .int .u64 q ∧ AddIs X Y D q k ∧ Row wr gz (splice R oz D) ∧ Keeps (· = gz) w wr) (fun _ i _ => n - (intOf i).toNat)
  case atStart => exact ⟨0, [], 0, Nat.zero_le _, rfl, rfl, AddIs.zero X Y, by rw [splice_nil]; exact hz, Keeps.refl _ _⟩
  case round =>
    obtain ⟨k, D, q, hk, rfl, rfl, hI, hr, hK⟩ := hrel
    by_cases hlt : k < n
    · have hD : D.length = k := hI.1
      have cx := read_at hx hz hzn hK hr lx.out ax k (by omega) hlt
      have cy := read_at hy hz hzn hK hr ly.out ay k (by omega) hlt
      have hst := hI.step dX dY (by rw [lx.out]; exact hlt) (by rw [ly.out]; exact hlt)
      have hlen : (splice R oz D).length = R.length := by rw [length_splice _ _ _ (by omega)]
      have cz := hr.cell (oz + k) (by omega)
      have fz := hr.frozen (oz + k)
      have bx := dX.getD k
      have by' := dY.getD k
      have bq := hI.2.2.1
      have hI0 : (0 : Int) ≤ (k : Int) := by omega
      have hI1 : (k : Int) < (n : Int) := by omega
      have hrow : ∀ d, Row (wr.setCell ⟨gz, oz + k, none⟩ (.int .u64 d)) gz (splice R oz (D ++ [d])) := by
        intro d
        have := hr.setCell (oz + k) d
        rw [← hD] at this
        rw [splice_set R D oz d (by omega)] at this
        rw [← hD]; exact this
      generalize X.getD k 0 = x at *
      generalize Y.getD k 0 = y at *
      generalize (splice R oz D).getD (oz + k) 0 = zz at *
      clear hI hlen hx hy hz
      go_wp2
      go_quiet ((go_at_call 36; exact Calls.quiet_of_same (add_at x y q bx by' bq _)))
      go_wp2
      go_roundw
      case rel => exact ⟨k + 1, D ++ [addd x y q], car x y q, by omega, by go_num, rfl, hst, hrow _, (hK.setCell (p := ⟨gz, oz + k, none⟩) _ (fun _ => rfl)).drewN nq⟩
      case measure => simp [intOf]; omega
    · have : k = n := by omega
      subst this
      go_wp2
      go_ret
      exact ⟨D, q, rfl, hI, hr, hK⟩

end Go.Proofs.Ybulkbfsq
