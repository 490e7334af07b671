/-
  Plain mathematics: numbers as lists of 64-bit digits, the lowest first. No Go in sight.
-/
import Derived.Laws.CopyOwn
namespace Go.Proofs.Ybulkbfsq

/-- The base. -/
def BB : Int := 18446744073709551616
/-- Its powers. -/
def bp : Nat → Int
  | 0 => 1
  | n + 1 => BB * bp n
/-- The number of a list of digits. -/
def dval : List Int → Int
  | [] => 0
  | d :: r => d + BB * dval r
/-- Each is a digit. -/
def Dig (R : List Int) : Prop := ∀ d ∈ R, 0 ≤ d ∧ d < 18446744073709551616

theorem bp_pos (n : Nat) : 0 < bp n := by
  induction n with
  | zero => decide
  | succ n ih => exact Int.mul_pos (by decide) ih

theorem bp_add (m n : Nat) : bp (m + n) = bp m * bp n := by
  induction m with
  | zero => simp [bp]
  | succ m ih => rw [Nat.succ_add]; simp only [bp]; rw [ih, Int.mul_assoc]

theorem bp_pow (n : Nat) : bp n = 2 ^ (64 * n) := by
  induction n with
  | zero => rfl
  | succ n ih =>
    rw [Nat.mul_add, Int.pow_add]
    simp only [bp]
    rw [ih, Int.mul_comm]
    congr 1

theorem bp_mono {m n : Nat} (h : m ≤ n) : bp m ≤ bp n := by
  obtain ⟨k, rfl⟩ := Nat.exists_eq_add_of_le h
  rw [bp_add]
  have h1 := bp_pos m
  have h2 := bp_pos k
  have := Int.mul_le_mul_of_nonneg_left (show (1 : Int) ≤ bp k by omega) (Int.le_of_lt h1)
  omega

theorem dval_append (A B : List Int) : dval (A ++ B) = dval A + bp A.length * dval B := by
  induction A with
  | nil => simp [dval, bp]
  | cons x A ih =>
    simp only [List.cons_append, dval, List.length_cons, bp, ih, Int.mul_add, Int.mul_assoc]
    omega

theorem dval_snoc (D : List Int) (d : Int) : dval (D ++ [d]) = dval D + bp D.length * d := by
  rw [dval_append]; simp [dval]

theorem Dig.nil : Dig [] := by intro d h; cases h
theorem Dig.snoc {D : List Int} (h : Dig D) {d : Int} (h0 : 0 ≤ d) (h1 : d < 18446744073709551616) : Dig (D ++ [d]) := by
  intro x hx
  rcases List.mem_append.1 hx with hx | hx
  · exact h x hx
  · simp at hx; subst hx; exact ⟨h0, h1⟩
theorem Dig.append {A B : List Int} (h : Dig A) (k : Dig B) : Dig (A ++ B) := by
  intro x hx
  rcases List.mem_append.1 hx with hx | hx
  · exact h x hx
  · exact k x hx
theorem Dig.take {R : List Int} (h : Dig R) (n : Nat) : Dig (R.take n) := fun d hd => h d (List.mem_of_mem_take hd)
theorem Dig.drop {R : List Int} (h : Dig R) (n : Nat) : Dig (R.drop n) := fun d hd => h d (List.mem_of_mem_drop hd)
theorem Dig.getD {R : List Int} (h : Dig R) (i : Nat) : 0 ≤ R.getD i 0 ∧ R.getD i 0 < 18446744073709551616 := by
  by_cases hi : i < R.length
  · rw [List.getD_eq_getElem?_getD, List.getElem?_eq_getElem hi]; exact h _ (List.getElem_mem hi)
  · rw [List.getD_eq_getElem?_getD, List.getElem?_eq_none (by omega)]; exact ⟨by decide, by decide⟩
theorem Dig.replicate (n : Nat) : Dig (List.replicate n 0) := by
  intro d hd; rw [List.eq_of_mem_replicate hd]; exact ⟨by decide, by decide⟩
theorem Dig.splice {R D : List Int} (h : Dig R) (k : Dig D) (o : Nat) : Dig (splice R o D) := by
  unfold Go.splice; exact (h.take _).append (k.append (h.drop _))

theorem dval_nonneg {R : List Int} (h : Dig R) : 0 ≤ dval R := by
  induction R with
  | nil => decide
  | cons d r ih =>
    have h0 := h d (List.mem_cons_self ..)
    have h1 := ih (fun x hx => h x (List.mem_cons_of_mem _ hx))
    have h2 : 0 ≤ BB * dval r := Int.mul_nonneg (by decide) h1
    simp only [dval]; omega

theorem dval_lt {R : List Int} (h : Dig R) : dval R < bp R.length := by
  induction R with
  | nil => decide
  | cons d r ih =>
    have h0 := h d (List.mem_cons_self ..)
    have h1 := ih (fun x hx => h x (List.mem_cons_of_mem _ hx))
    have h2 := Int.mul_le_mul_of_nonneg_left (show dval r ≤ bp r.length - 1 by omega) (show 0 ≤ BB by decide)
    rw [Int.mul_sub] at h2
    simp only [dval, List.length_cons, bp]
    have : BB * 1 = 18446744073709551616 := by decide
    omega

/-- One step of a subtraction from the lowest digit up. -/
theorem sub_step {a b e p x y c d c' : Int} (h : a = b - e + c * p) (hd : d = x - y - c + c' * BB) : a + p * d = (b + p * x) - (e + p * y) + c' * (BB * p) := by
  subst hd; subst h
  have e1 : p * (x - y - c + c' * BB) = p * x - p * y - p * c + p * (c' * BB) := by
    rw [Int.mul_add, Int.mul_sub, Int.mul_sub]
  have e2 : p * (c' * BB) = c' * (BB * p) := by
    rw [Int.mul_left_comm, Int.mul_comm p BB]
  have e3 : p * c = c * p := Int.mul_comm _ _
  omega

/-- One step of an addition from the lowest digit up: the sum of what is below is 'a + c * p'. -/
theorem add_step {a b e p x y c d c' : Int} (h : a + c * p = b + e) (hd : d + c' * BB = x + y + c) : (a + p * d) + c' * (BB * p) = (b + p * x) + (e + p * y) := by
  have e0 : p * (d + c' * BB) = p * (x + y + c) := by rw [hd]
  rw [Int.mul_add, Int.mul_add, Int.mul_add] at e0
  have e2 : p * (c' * BB) = c' * (BB * p) := by
    rw [Int.mul_left_comm, Int.mul_comm p BB]
  have e3 : p * c = c * p := Int.mul_comm _ _
  omega

/-- Normal: the highest digit is not nought. -/
def Norm (R : List Int) : Prop := ∀ k, R.length = k + 1 → R.getD k 0 ≠ 0

theorem take_snoc (R : List Int) (k : Nat) (h : k < R.length) : R.take (k + 1) = R.take k ++ [R.getD k 0] := by
  rw [List.take_succ_eq_append_getElem h, List.getD_eq_getElem?_getD, List.getElem?_eq_getElem h]; rfl

theorem norm_ge {R : List Int} (h : Dig R) (hn : Norm R) (k : Nat) (hk : R.length = k + 1) : bp k ≤ dval R := by
  have e : R = R.take k ++ [R.getD k 0] := by
    rw [← take_snoc R k (by omega), List.take_of_length_le (by omega)]
  have h0 := hn k hk
  have h1 := h.getD k
  have h2 := dval_nonneg (h.take k)
  rw [e, dval_snoc]
  have h3 : (R.take k).length = k := by simp; omega
  rw [h3]
  have := Int.mul_le_mul_of_nonneg_left (show (1 : Int) ≤ R.getD k 0 by omega) (Int.le_of_lt (bp_pos k))
  omega

theorem norm_len_lt {X Y : List Int} (hx : Dig X) (hy : Dig Y) (ny : Norm Y) (h : X.length < Y.length) : dval X < dval Y := by
  have h1 := dval_lt hx
  have h2 := norm_ge hy ny (Y.length - 1) (by omega)
  have h3 := bp_mono (show X.length ≤ Y.length - 1 by omega)
  omega

theorem norm_zero {X : List Int} (hx : Dig X) (nx : Norm X) (h : dval X = 0) : X = [] := by
  by_cases h0 : X.length = 0
  · exact List.eq_nil_of_length_eq_zero h0
  · have := norm_ge hx nx (X.length - 1) (by omega)
    have := bp_pos (X.length - 1)
    omega

/-- Two numbers of one length that agree above place i: their order is that of the digits there, if these differ. -/
theorem lt_at {X Y : List Int} (hx : Dig X) (hy : Dig Y) (i : Nat) (hl : X.length = Y.length) (hi : i < X.length) (hd : X.drop (i + 1) = Y.drop (i + 1)) (h : X.getD i 0 < Y.getD i 0) : dval X < dval Y := by
  have ex : X = X.take (i + 1) ++ X.drop (i + 1) := (List.take_append_drop _ _).symm
  have ey : Y = Y.take (i + 1) ++ Y.drop (i + 1) := (List.take_append_drop _ _).symm
  have lx : (X.take (i + 1)).length = i + 1 := by simp; omega
  have ly : (Y.take (i + 1)).length = i + 1 := by simp; omega
  have lx' : (X.take i).length = i := by simp; omega
  have ly' : (Y.take i).length = i := by simp; omega
  rw [ex, ey, dval_append, dval_append, lx, ly, hd, take_snoc X i hi, take_snoc Y i (by omega), dval_snoc, dval_snoc, lx', ly']
  have h1 := dval_lt (hx.take i)
  rw [lx'] at h1
  have h2 := dval_nonneg (hy.take i)
  have h3 := Int.mul_le_mul_of_nonneg_left (show X.getD i 0 + 1 ≤ Y.getD i 0 by omega) (Int.le_of_lt (bp_pos i))
  rw [Int.mul_add] at h3
  omega

end Go.Proofs.Ybulkbfsq
