/-
  math/big.Int: 'new(big.Int).Add(x, one)', 'x.Add(x, one)', 'new(big.Int).Sub(x, y)'.
-/
import Derived.Test.YbulkbfsqIntSubG
import Derived.Test.YbulkbfsqAddN
namespace Go.Proofs.Ybulkbfsq
open Go.ChangeShapes Go.WideShapes Go.ChangeAt Go.RowKit

theorem Row.drewN {w : World} {g : Nat} {R : List Int} (h : Row w g R) (q : Nat) : Row (w.drewN q) g R := h

theorem intAddNew (p px py : Nat) (ax : Option Addr) (m c gy : Nat) (X : List Int) (w : World) (hp : IntBlk w p (.slice none 0 0)) (hpx : IntBlk w px (.slice ax m c)) (hx : NatAt w ax m c X)
    (hpy : IntBlk w py (.slice (some ⟨gy, 0, none⟩) 1 1)) (hy : Row w gy [1]) (hroom : m < c ∨ m ≤ 1) (hb : m ≤ 1900) :
    Calls Yba.prog 8 #[.pointer (some ⟨p, 0, none⟩), .pointer (some ⟨px, 0, none⟩), .pointer (some ⟨py, 0, none⟩)] w fun e w' =>
      e = .returned (.pointer (some ⟨p, 0, none⟩)) ∧ ∃ g k c D, IntBlk w' p (.slice (some ⟨g, 0, none⟩) k c) ∧ NatAt w' (some ⟨g, 0, none⟩) k c D ∧ dval D = dval X + 1 ∧ Keeps (fun i => i = p) w w' := by
  refine (intAdd_go p px py none ax (some ⟨gy, 0, none⟩) 0 0 m c 1 1 (dval X + 1) (fun V => NatAt V ax m c X ∧ Row V gy [1]) (fun _ => False) (fun _ _ _ => True) w hp hpx hpy ⟨hx, hy⟩ (fun V q h => ⟨h.1.drewN q, h.2⟩) (fun h => h) ?_).mono ?_
  · intro V hV
    refine (nat_add_new ax m c gy 1 X V hV.1 hV.2 (by omega) hroom hb).mono ?_
    rintro e w' ⟨k, c', D, rfl, h1, h2, h3⟩
    exact ⟨_, k, c', D, rfl, h1, h2, trivial, h3⟩
  · rintro e w' ⟨rfl, g, k, c', D, h1, h2, h3, _, h4⟩
    exact ⟨rfl, g, k, c', D, h1, h2, h3, h4.mono (fun i _ h => by rcases h with h | h; exact h; exact h.elim)⟩

theorem intAddIn (p py g m c gy : Nat) (X : List Int) (w : World) (hp : IntBlk w p (.slice (some ⟨g, 0, none⟩) m c)) (hx : NatAt w (some ⟨g, 0, none⟩) m c X)
    (hpy : IntBlk w py (.slice (some ⟨gy, 0, none⟩) 1 1)) (hy : Row w gy [1]) (hgy : gy ≠ g) (hc : 1 ≤ c) (hroom : m < c ∨ m ≤ 1) (hb : m ≤ 1900) :
    Calls Yba.prog 8 #[.pointer (some ⟨p, 0, none⟩), .pointer (some ⟨p, 0, none⟩), .pointer (some ⟨py, 0, none⟩)] w fun e w' =>
      e = .returned (.pointer (some ⟨p, 0, none⟩)) ∧ ∃ g' k c D, IntBlk w' p (.slice (some ⟨g', 0, none⟩) k c) ∧ NatAt w' (some ⟨g', 0, none⟩) k c D ∧ dval D = dval X + 1 ∧ Keeps (fun i => i = p ∨ i = g) w w' := by
  have hgp := hx.ne_int hp
  refine (intAdd_go p p py (some ⟨g, 0, none⟩) (some ⟨g, 0, none⟩) (some ⟨gy, 0, none⟩) m c m c 1 1 (dval X + 1) (fun V => NatAt V (some ⟨g, 0, none⟩) m c X ∧ Row V gy [1]) (· = g) (fun _ _ _ => True) w hp hp hpy ⟨hx, hy⟩ (fun V q h => ⟨h.1.drewN q, h.2⟩) (Ne.symm hgp) ?_).mono ?_
  · intro V hV
    refine (nat_add_in g m c gy 1 X V hV.1 hV.2 (by omega) hgy hc hroom hb).mono ?_
    rintro e w' ⟨g', k, c', D, rfl, h1, h2, h3⟩
    exact ⟨g', k, c', D, rfl, h1, h2, trivial, h3⟩
  · rintro e w' ⟨rfl, g', k, c', D, h1, h2, h3, _, h4⟩
    exact ⟨rfl, g', k, c', D, h1, h2, h3, h4⟩

theorem intSubNew (p px py : Nat) (ax ay : Option Addr) (m c n cy : Nat) (X Y : List Int) (w : World) (hp : IntBlk w p (.slice none 0 0)) (hpx : IntBlk w px (.slice ax m c)) (hx : NatAt w ax m c X)
    (hpy : IntBlk w py (.slice ay n cy)) (hy : NatAt w ay n cy Y) (hn : 0 < n) (hle : dval Y ≤ dval X) (hroom : m < c ∨ m = 1) (hb : m ≤ 1900) :
    Calls Yba.prog 10 #[.pointer (some ⟨p, 0, none⟩), .pointer (some ⟨px, 0, none⟩), .pointer (some ⟨py, 0, none⟩)] w fun e w' =>
      e = .returned (.pointer (some ⟨p, 0, none⟩)) ∧ ∃ g k c D, IntBlk w' p (.slice (some ⟨g, 0, none⟩) k c) ∧ NatAt w' (some ⟨g, 0, none⟩) k c D ∧ dval D = dval X - dval Y ∧ (1 ≤ c ∧ (k < c ∨ k ≤ 1) ∧ k ≤ m ∧ w.heap.size ≤ g) ∧ Keeps (fun i => i = p) w w' := by
  refine (intSub_go p px py none ax ay 0 0 m c n cy (dval X - dval Y) (cmpv (dval X) (dval Y)) (fun V => NatAt V ax m c X ∧ NatAt V ay n cy Y ∧ w.heap.size ≤ V.heap.size) (fun _ => False) (fun g k c => 1 ≤ c ∧ (k < c ∨ k ≤ 1) ∧ k ≤ m ∧ w.heap.size ≤ g) w hp hpx hpy ⟨hx, hy, Nat.le_refl _⟩ (fun V q h => ⟨h.1.drewN q, h.2.1.drewN q, h.2.2⟩) (fun h => h) (fun V hV => cmp_at _ _ _ _ _ _ X Y V hV.1 hV.2.1) (cmpv_ge hle).1 ?_).mono ?_
  · intro V hV
    refine (nat_sub_new ax m c ay n cy X Y V hV.1 hV.2.1 hn hle hroom hb).mono ?_
    rintro e w' ⟨k, D, rfl, h1, h2, h3⟩
    have hnn := dval_nonneg hV.2.1.dig
    have hkm : k ≤ m := by
      rcases Nat.lt_or_ge m k with h | h
      · have := norm_len_lt hV.1.dig h1.dig h1.norm (by rw [hV.1.len, h1.len]; exact h)
        omega
      · exact h
    have hnm : n ≤ m := by
      rcases Nat.lt_or_ge m n with h | h
      · have := norm_len_lt hV.1.dig hV.2.1.dig hV.2.1.norm (by rw [hV.1.len, hV.2.1.len]; exact h)
        omega
      · exact h
    refine ⟨_, k, _, D, rfl, h1, h2, ?_, h3⟩
    have hVs := hV.2.2
    unfold ncap
    split <;> omega
  · rintro e w' ⟨rfl, g, k, c', D, h1, h2, h3, hT, h4⟩
    exact ⟨rfl, g, k, c', D, h1, h2, h3, hT, h4.mono (fun i _ h => by rcases h with h | h; exact h; exact h.elim)⟩

end Go.Proofs.Ybulkbfsq
