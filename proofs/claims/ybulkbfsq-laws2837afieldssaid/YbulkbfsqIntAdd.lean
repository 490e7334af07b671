/-
  math/big.Int.Add (8), Int.Sub (10), whatever number z holds, over a contract of nat.add, nat.sub that is handed in.
-/
import Derived.Test.YbulkbfsqIntSub
namespace Go.Proofs.Ybulkbfsq
open Go.ChangeShapes Go.WideShapes Go.ChangeAt Go.RowKit
attribute [local go_sem ↓] Go.wp_at_zero Go.wp_at_succ

/-- What nat.add or nat.sub (f) is known to do in every world that 'Inv' holds of. -/
def NatOp (f : FuncId) (Inv : World → Prop) (S : Nat → Prop) (T : Nat → Nat → Nat → Prop) (vz vx vy : Value) (v : Int) : Prop :=
  ∀ V, Inv V → Calls Yba.prog f #[vz, vx, vy] V fun e w' => ∃ g k c D, e = .returned (.slice (some ⟨g, 0, none⟩) k c) ∧ NatAt w' (some ⟨g, 0, none⟩) k c D ∧ dval D = v ∧ T g k c ∧ Keeps S V w'

set_option maxHeartbeats 3200000 in
theorem intAdd_go (p px py : Nat) (az ax ay : Option Addr) (nz cz nx cx ny cy : Nat) (v : Int) (Inv : World → Prop) (S : Nat → Prop) (T : Nat → Nat → Nat → Prop) (w : World)
    (hp : IntBlk w p (.slice az nz cz)) (hpx : IntBlk w px (.slice ax nx cx)) (hpy : IntBlk w py (.slice ay ny cy)) (hI : Inv w) (hdr : ∀ V q, Inv V → Inv (World.drewN V q)) (hS : ¬ S p)
    (HN : NatOp 23 Inv S T (.slice az nz cz) (.slice ax nx cx) (.slice ay ny cy) v) :
    Calls Yba.prog 8 #[.pointer (some ⟨p, 0, none⟩), .pointer (some ⟨px, 0, none⟩), .pointer (some ⟨py, 0, none⟩)] w fun e w' =>
      e = .returned (.pointer (some ⟨p, 0, none⟩)) ∧ ∃ g k c D, IntBlk w' p (.slice (some ⟨g, 0, none⟩) k c) ∧ NatAt w' (some ⟨g, 0, none⟩) k c D ∧ dval D = v ∧ T g k c ∧ Keeps (fun i => i = p ∨ S i) w w' := by
  have c0 := hpx.cell0
  have d0 := hpy.cell0
  have HI : Hid (Inv w) := hI
  have HS : Hid (¬ S p) := hS
  have HD : Hid (∀ V q, Inv V → Inv (World.drewN V q)) := hdr
  clear hI hS hdr
  go_enter Yba.func8, Yba.ntmps8
  go_wp2
  go_quiet (fail)
  have HI1 : Hid (Inv ((w.drewN nq).drewN 1)) := HD.out _ _ (HD.out _ _ HI.out)
  have hp1 : IntBlk (w.drewN nq) p (.slice az nz cz) := hp
  have hpx1 : IntBlk (w.drewN nq) px (.slice ax nx cx) := hpx
  have hpy1 : IntBlk (w.drewN nq) py (.slice ay ny cy) := hpy
  have hk1 : Keeps (fun i => i = p ∨ S i) w (w.drewN nq) := (Keeps.refl _ w).drewN nq
  clear c0 d0 hp hpx hpy HI
  generalize w.drewN nq = V at *
  have c1 := hp1.cell1
  have d1 := hpx1.cell1
  have e1 := hpy1.cell1
  have hpV := hp1.cell0
  go_wp2
  go_region_with (go_at_call 23; refine (HN V.drew HI1.out).mono ?_; rintro e w3 ⟨g, k, c, D, rfl, hn, hv3, hT, hk⟩; have HT : Hid (T g k c) := hT; clear hT; have x1 := (IntBlk.kept (w := V.drew) hp1 hk HS.out).cell1; have x2 := (IntBlk.kept (w := V.drew) hp1 hk HS.out).frozen 1)
  all_goals
    have hp3 := IntBlk.kept (w := V.drew) hp1 hk HS.out
    have hgp := hn.ne_int hp3
    have hk3 : Keeps (fun i => i = p ∨ S i) w w3 := (hk1.drew).then_ hk (fun _ _ h => .inr h)
    have hp4 := hp3.setCell1 (.slice (some ⟨g, 0, none⟩) k c)
    have hks : Keeps (· = p) w3 (w3.setCell ⟨p, 1, none⟩ (.slice (some ⟨g, 0, none⟩) k c)) := (Keeps.refl _ _).setCell _ (fun _ => rfl)
    have hn4 := hn.kept hks (fun i h => by have := addr_inj h; subst this; exact hgp)
    have hk4 := hk3.then_ hks (fun _ _ h => .inl h)
    clear hn hk hk3 hks hp3 x1 x2 c1 d1 e1 hp1 hpx1 hpy1 hk1 hpV
    generalize hU : w3.setCell ⟨p, 1, none⟩ (.slice (some ⟨g, 0, none⟩) k c) = U at *
    clear hU
    have a0 := hp4.cell0
    have a1 := hp4.frozen 0
    have a2 := hp4.cell1
    go_wp2
    all_goals
      go_ret
      have hp5 := hp4.setCell0
      have hks : Keeps (· = p) U (U.setCell ⟨p, 0, none⟩ (.bool false)) := (Keeps.refl _ _).setCell _ (fun _ => rfl)
      exact ⟨rfl, g, k, c, D, hp5, hn4.kept hks (fun i h => by have := addr_inj h; subst this; exact hgp), hv3, HT.out, hk4.then_ hks (fun _ _ h => .inl h)⟩

end Go.Proofs.Ybulkbfsq
