/-
  math/big.Int.Sub (10), in place: 'x.Sub(x, y)', y not greater than x, both not negative, x not nought.
-/
import Derived.Test.YbulkbfsqInt
namespace Go.Proofs.Ybulkbfsq
open Go.ChangeShapes Go.WideShapes Go.ChangeAt Go.RowKit
attribute [local go_sem ↓] Go.wp_at_zero Go.wp_at_succ

theorem NatAt.ne_int {w : World} {p n c g : Nat} {X : List Int} {v : Value} (h : NatAt w (some ⟨g, 0, none⟩) n c X) (k : IntBlk w p v) : g ≠ p := by
  obtain ⟨R, hr, _⟩ := natAt_some h
  exact row_ne_int hr k

theorem addr_inj {g h : Nat} (e : (some ⟨g, 0, none⟩ : Option Addr) = some ⟨h, 0, none⟩) : g = h := by
  simp only [Option.some.injEq, Addr.mk.injEq, and_true] at e; exact e

theorem NatAt.drewN {w : World} {a : Option Addr} {n c : Nat} {X : List Int} (h : NatAt w a n c X) (q : Nat) : NatAt (w.drewN q) a n c X :=
  h.kept ((Keeps.refl (fun _ => False) w).drewN q) (fun _ _ h => h)
theorem NatAt.drew {w : World} {a : Option Addr} {n c : Nat} {X : List Int} (h : NatAt w a n c X) : NatAt w.drew a n c X :=
  h.kept (Keeps.refl (fun _ => False) w).drew (fun _ _ h => h)

set_option maxHeartbeats 3200000 in
theorem intSub_in (p g m c py : Nat) (ay : Option Addr) (n cy : Nat) (X Y : List Int) (w : World) (hp : IntBlk w p (.slice (some ⟨g, 0, none⟩) m c)) (hx : NatAt w (some ⟨g, 0, none⟩) m c X)
    (hpy : IntBlk w py (.slice ay n cy)) (hy : NatAt w ay n cy Y) (hap : Apart ay g) (h0 : 0 < m) (hle : dval Y ≤ dval X) :
    Calls Yba.prog 10 #[.pointer (some ⟨p, 0, none⟩), .pointer (some ⟨p, 0, none⟩), .pointer (some ⟨py, 0, none⟩)] w fun e w' =>
      e = .returned (.pointer (some ⟨p, 0, none⟩)) ∧ ∃ k D, IntBlk w' p (.slice (some ⟨g, 0, none⟩) k c) ∧ NatAt w' (some ⟨g, 0, none⟩) k c D ∧ dval D = dval X - dval Y ∧ Keeps (fun i => i = p ∨ i = g) w w' := by
  have hgp := hx.ne_int hp
  have hv := cmpv_ge hle
  have hv0 := hv.1
  have c0 := hp.cell0
  have c1 := hp.cell1
  have d0 := hpy.cell0
  have d1 := hpy.cell1
  go_enter Yba.func10, Yba.ntmps10
  go_wp2
  go_quiet (fail)
  have hx1 := hx.drewN nq
  have hy1 := hy.drewN nq
  have hp1 : IntBlk (w.drewN nq) p (.slice (some ⟨g, 0, none⟩) m c) := hp
  have hpy1 : IntBlk (w.drewN nq) py (.slice ay n cy) := hpy
  have hk1 : Keeps (fun i => i = p ∨ i = g) w (w.drewN nq) := (Keeps.refl _ w).drewN nq
  clear c0 c1 d0 d1 hx hy hp hpy
  generalize w.drewN nq = W at *
  have c0 := hp1.cell0
  have c1 := hp1.cell1
  have d0 := hpy1.cell0
  have d1 := hpy1.cell1
  have HC : ∀ q, Calls Yba.prog 24 #[.slice (some ⟨g, 0, none⟩) m c, .slice ay n cy] (W.drewN q) fun e w' => e = .returned (.int .i64 (cmpv (dval X) (dval Y))) ∧ ∃ j, w' = (W.drewN q).drewN j :=
    fun q => cmp_at _ _ _ _ _ _ X Y _ (hx1.drewN q) (hy1.drewN q)
  have HC' : Hid (∀ q, Calls Yba.prog 24 #[.slice (some ⟨g, 0, none⟩) m c, .slice ay n cy] (W.drewN q) fun e w' => e = .returned (.int .i64 (cmpv (dval X) (dval Y))) ∧ ∃ j, w' = (W.drewN q).drewN j) := HC
  clear HC
  go_wp2
  go_quiet ((go_at_call 24; exact Calls.quiet_of (HC'.out _)))
  have hx2 := hx1.drewN nq
  have hy2 := hy1.drewN nq
  have hp2 : IntBlk (W.drewN nq) p (.slice (some ⟨g, 0, none⟩) m c) := hp1
  have hpy2 : IntBlk (W.drewN nq) py (.slice ay n cy) := hpy1
  have hk2 := hk1.drewN nq
  clear c0 c1 d0 d1 HC' hx1 hy1 hp1 hpy1 hk1
  generalize W.drewN nq = V at *
  have c0 := hp2.cell0
  have c1 := hp2.cell1
  have d1 := hpy2.cell1
  go_wp2
  go_region_with (go_at_call 25; refine (nat_sub_in g m c ay n cy X Y V.drew hx2.drew hy2.drew hap h0 hle).mono ?_; rintro e w3 ⟨k, D, rfl, hn, hv3, hk⟩; have e1 := (IntBlk.kept (w := V.drew) hp2 hk (Ne.symm hgp)).cell1; have e2 := (IntBlk.kept (w := V.drew) hp2 hk (Ne.symm hgp)).frozen 1)
  all_goals
    have hp3 := IntBlk.kept (w := V.drew) hp2 hk (Ne.symm hgp)
    have hk3 : Keeps (fun i => i = p ∨ i = g) w w3 := (hk2.drew).then_ hk (fun _ _ h => .inr h)
    have hp4 := hp3.setCell1 (.slice (some ⟨g, 0, none⟩) k c)
    have hks : Keeps (· = p) w3 (w3.setCell ⟨p, 1, none⟩ (.slice (some ⟨g, 0, none⟩) k c)) := (Keeps.refl _ _).setCell _ (fun _ => rfl)
    have hn4 := hn.kept hks (fun i h => by have := addr_inj h; subst this; exact hgp)
    have hk4 := hk3.then_ hks (fun _ _ h => .inl h)
    clear hn hk hk3 hks hp3 e1 e2 c0 c1 d1 hx2 hy2 hp2 hpy2 hk2
    generalize hU : w3.setCell ⟨p, 1, none⟩ (.slice (some ⟨g, 0, none⟩) k c) = U at *
    clear hU
    have a0 := hp4.cell0
    have a1 := hp4.frozen 0
    have a2 := hp4.cell1
    go_wp2
    all_goals
      go_ret
      have hp5 := hp4.setCell0
      have hks : Keeps (· = p) U (U.setCell ⟨p, 0, none⟩ (.bool false)) := (Keeps.refl _ _).setCell _ (fun _ => rfl)
      exact ⟨rfl, k, D, hp5, hn4.kept hks (fun i h => by have := addr_inj h; subst this; exact hgp), hv3, hk4.then_ hks (fun _ _ h => .inl h)⟩

end Go.Proofs.Ybulkbfsq
