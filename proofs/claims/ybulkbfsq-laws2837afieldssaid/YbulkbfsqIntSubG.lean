/-
  math/big.Int.Sub (10), whatever number z holds, over contracts of nat.sub and nat.cmp that are handed in.
-/
import Derived.Test.YbulkbfsqIntAdd
namespace Go.Proofs.Ybulkbfsq
open Go.ChangeShapes Go.WideShapes Go.ChangeAt Go.RowKit
attribute [local go_sem ↓] Go.wp_at_zero Go.wp_at_succ

set_option maxHeartbeats 3200000 in
theorem intSub_go (p px py : Nat) (az ax ay : Option Addr) (nz cz nx cx ny cy : Nat) (v r : Int) (Inv : World → Prop) (S : Nat → Prop) (T : Nat → Nat → Nat → Prop) (w : World)
    (hp : IntBlk w p (.slice az nz cz)) (hpx : IntBlk w px (.slice ax nx cx)) (hpy : IntBlk w py (.slice ay ny cy)) (hI : Inv w) (hdr : ∀ V q, Inv V → Inv (World.drewN V q)) (hS : ¬ S p)
    (HC : ∀ V, Inv V → Calls Yba.prog 24 #[.slice ax nx cx, .slice ay ny cy] V fun e w' => e = .returned (.int .i64 r) ∧ ∃ q, w' = V.drewN q) (hr : 0 ≤ r)
    (HN : NatOp 25 Inv S T (.slice az nz cz) (.slice ax nx cx) (.slice ay ny cy) v) :
    Calls Yba.prog 10 #[.pointer (some ⟨p, 0, none⟩), .pointer (some ⟨px, 0, none⟩), .pointer (some ⟨py, 0, none⟩)] w fun e w' =>
      e = .returned (.pointer (some ⟨p, 0, none⟩)) ∧ ∃ g k c D, IntBlk w' p (.slice (some ⟨g, 0, none⟩) k c) ∧ NatAt w' (some ⟨g, 0, none⟩) k c D ∧ dval D = v ∧ T g k c ∧ Keeps (fun i => i = p ∨ S i) w w' := by
  have c0 := hpx.cell0
  have d0 := hpy.cell0
  have HI : Hid (Inv w) := hI
  have HS : Hid (¬ S p) := hS
  have HD : Hid (∀ V q, Inv V → Inv (World.drewN V q)) := hdr
  have HC' : Hid (∀ V, Inv V → Calls Yba.prog 24 #[.slice ax nx cx, .slice ay ny cy] V fun e w' => e = .returned (.int .i64 r) ∧ ∃ q, w' = V.drewN q) := HC
  clear hI hS hdr HC
  go_enter Yba.func10, Yba.ntmps10
  go_wp2
  go_quiet (fail)
  have HI1 : Hid (Inv (w.drewN nq)) := HD.out _ _ HI.out
  have hp1 : IntBlk (w.drewN nq) p (.slice az nz cz) := hp
  have hpx1 : IntBlk (w.drewN nq) px (.slice ax nx cx) := hpx
  have hpy1 : IntBlk (w.drewN nq) py (.slice ay ny cy) := hpy
  have hk1 : Keeps (fun i => i = p ∨ S i) w (w.drewN nq) := (Keeps.refl _ w).drewN nq
  clear c0 d0 hp hpx hpy HI
  generalize w.drewN nq = W at *
  have d1 := hpx1.cell1
  have e1 := hpy1.cell1
  have HC2 : Hid (∀ q, Calls Yba.prog 24 #[.slice ax nx cx, .slice ay ny cy] (W.drewN q) fun e w' => e = .returned (.int .i64 r) ∧ ∃ j, w' = (W.drewN q).drewN j) := fun q => HC'.out _ (HD.out _ _ HI1.out)
  go_wp2
  go_quiet ((go_at_call 24; exact Calls.quiet_of (HC2.out _)))
  have HI2 : Hid (Inv ((W.drewN nq).drewN 1)) := HD.out _ _ (HD.out _ _ HI1.out)
  have hp2 : IntBlk (W.drewN nq) p (.slice az nz cz) := hp1
  have hpx2 : IntBlk (W.drewN nq) px (.slice ax nx cx) := hpx1
  have hpy2 : IntBlk (W.drewN nq) py (.slice ay ny cy) := hpy1
  have hk2 := hk1.drewN nq
  clear d1 e1 HC2 HI1 hp1 hpx1 hpy1 hk1
  generalize W.drewN nq = V at *
  have c1 := hp2.cell1
  have d1 := hpx2.cell1
  have e1 := hpy2.cell1
  go_wp2
  go_region_with (go_at_call 25; refine (HN V.drew HI2.out).mono ?_; rintro e w3 ⟨g, k, c, D, rfl, hn, hv3, hT, hk⟩; have HT : Hid (T g k c) := hT; clear hT; have x1 := (IntBlk.kept (w := V.drew) hp2 hk HS.out).cell1; have x2 := (IntBlk.kept (w := V.drew) hp2 hk HS.out).frozen 1)
  all_goals
    have hp3 := IntBlk.kept (w := V.drew) hp2 hk HS.out
    have hgp := hn.ne_int hp3
    have hk3 : Keeps (fun i => i = p ∨ S i) w w3 := (hk2.drew).then_ hk (fun _ _ h => .inr h)
    have hp4 := hp3.setCell1 (.slice (some ⟨g, 0, none⟩) k c)
    have hks : Keeps (· = p) w3 (w3.setCell ⟨p, 1, none⟩ (.slice (some ⟨g, 0, none⟩) k c)) := (Keeps.refl _ _).setCell _ (fun _ => rfl)
    have hn4 := hn.kept hks (fun i h => by have := addr_inj h; subst this; exact hgp)
    have hk4 := hk3.then_ hks (fun _ _ h => .inl h)
    clear hn hk hk3 hks hp3 x1 x2 c1 d1 e1 hp2 hpx2 hpy2 hk2
    generalize hU : w3.setCell ⟨p, 1, none⟩ (.slice (some ⟨g, 0, none⟩) k c) = U at *
    clear hU
    have a0 := hp4.cell0
    have a1 := hp4.frozen 0
    have a2 := hp4.cell1
    go_wp2
    all_goals
      go_ret
      have hp5 := hp4.setCell0
      have hks : Keeps (· = p) U (U.setCell ⟨p, 0, none⟩ (.bool false)) := (Keeps.refl _ _).setCell _ (fun _ => rfl)
      exact ⟨rfl, g, k, c, D, hp5, hn4.kept hks (fun i h => by have := addr_inj h; subst this; exact hgp), hv3, HT.out, hk4.then_ hks (fun _ _ h => .inl h)⟩

end Go.Proofs.Ybulkbfsq
