/-
  PLAIN LAW, PART 3: natural numbers as lists of digits to the base 2^32, the lowest first: their value, and what taking, dropping, appending and setting a digit does to it. No program here.
-/
import Ieee.Arith
namespace Go.Proofs.Ytbadlnbpoabdeaa.Dn

/-- the value of the digits -/
def nv : List Int → Int
  | [] => 0
  | x :: r => x + 4294967296 * nv r
/-- each is a digit -/
def Dg (l : List Int) : Prop := ∀ x ∈ l, 0 ≤ x ∧ x < 4294967296
/-- the weight of the digit of place n -/
def bp (n : Nat) : Int := 4294967296 ^ n
/-- the digit of place j, 0 behind the end -/
def dg (l : List Int) (j : Nat) : Int := l.getD j 0

theorem bp_zero : bp 0 = 1 := rfl
theorem bp_succ (n : Nat) : bp (n + 1) = 4294967296 * bp n := by unfold bp; rw [Int.pow_succ, Int.mul_comm]
theorem bp_pos (n : Nat) : 0 < bp n := by
  induction n with
  | zero => decide
  | succ n ih => rw [bp_succ]; omega
theorem bp_add (m n : Nat) : bp (m + n) = bp m * bp n := by unfold bp; rw [Int.pow_add]
theorem Dg.nil : Dg [] := fun _ h => by cases h
theorem Dg.cons {x : Int} {l : List Int} (h0 : 0 ≤ x) (h1 : x < 4294967296) (h : Dg l) : Dg (x :: l) := fun y hy => by
  rcases List.mem_cons.1 hy with rfl | hy
  · exact ⟨h0, h1⟩
  · exact h y hy
theorem Dg.append {a b : List Int} (h : Dg a) (k : Dg b) : Dg (a ++ b) := fun x hx => by
  rcases List.mem_append.1 hx with hx | hx
  · exact h x hx
  · exact k x hx
theorem Dg.one {x : Int} (h0 : 0 ≤ x) (h1 : x < 4294967296) : Dg [x] := Dg.cons h0 h1 Dg.nil
theorem Dg.take {l : List Int} (h : Dg l) (n : Nat) : Dg (l.take n) := fun x hx => h x (List.mem_of_mem_take hx)
theorem Dg.drop {l : List Int} (h : Dg l) (n : Nat) : Dg (l.drop n) := fun x hx => h x (List.mem_of_mem_drop hx)
theorem Dg.zeros (n : Nat) : Dg (List.replicate n 0) := fun x hx => by
  rw [List.eq_of_mem_replicate hx]; decide
theorem Dg.set {l : List Int} (h : Dg l) (j : Nat) {x : Int} (h0 : 0 ≤ x) (h1 : x < 4294967296) : Dg (l.set j x) := fun y hy => by
  rcases List.mem_or_eq_of_mem_set hy with hy | rfl
  · exact h y hy
  · exact ⟨h0, h1⟩
theorem dg_of_ge {l : List Int} {j : Nat} (h : l.length ≤ j) : dg l j = 0 := by
  unfold dg; rw [List.getD_eq_getElem?_getD, List.getElem?_eq_none h]; rfl
theorem dg_of_lt {l : List Int} {j : Nat} (h : j < l.length) : dg l j = l[j] := by
  unfold dg; rw [List.getD_eq_getElem?_getD, List.getElem?_eq_getElem h]; rfl
theorem Dg.dg {l : List Int} (h : Dg l) (j : Nat) : 0 ≤ dg l j ∧ dg l j < 4294967296 := by
  by_cases hj : j < l.length
  · rw [dg_of_lt hj]; exact h _ (List.getElem_mem hj)
  · rw [dg_of_ge (by omega)]; decide
theorem nv_append (a b : List Int) : nv (a ++ b) = nv a + bp a.length * nv b := by
  induction a with
  | nil => simp [nv, bp_zero]
  | cons x a ih => simp only [List.cons_append, nv, List.length_cons, ih, bp_succ]; grind
theorem nv_one (x : Int) : nv [x] = x := by simp [nv]
theorem nv_bound {l : List Int} (h : Dg l) : 0 ≤ nv l ∧ nv l < bp l.length := by
  induction l with
  | nil => simp [nv, bp_zero]
  | cons x l ih =>
    have hx := h x List.mem_cons_self
    have hl := ih (fun y hy => h y (List.mem_cons_of_mem _ hy))
    simp only [nv, List.length_cons, bp_succ]
    omega
theorem nv_drop (l : List Int) (j : Nat) : nv (l.drop j) = dg l j + 4294967296 * nv (l.drop (j + 1)) := by
  by_cases hj : j < l.length
  · rw [List.drop_eq_getElem_cons hj, dg_of_lt hj]; rfl
  · rw [List.drop_eq_nil_of_le (by omega), List.drop_eq_nil_of_le (by omega), dg_of_ge (by omega)]; rfl
theorem nv_split (l : List Int) (j : Nat) : nv l = nv (l.take j) + bp j * nv (l.drop j) := by
  by_cases hj : j ≤ l.length
  · have := nv_append (l.take j) (l.drop j)
    rw [List.take_append_drop, List.length_take, Nat.min_eq_left hj] at this
    exact this
  · rw [List.take_of_length_le (by omega), List.drop_eq_nil_of_le (by omega)]; simp [nv]
theorem nv_take_succ (l : List Int) (j : Nat) : nv (l.take (j + 1)) = nv (l.take j) + bp j * dg l j := by
  have h1 := nv_split l j
  have h2 := nv_split l (j + 1)
  have h3 := nv_drop l j
  rw [h3] at h1
  rw [bp_succ] at h2
  grind
theorem nv_take_all {l : List Int} {j : Nat} (h : l.length ≤ j) : nv (l.take j) = nv l := by rw [List.take_of_length_le h]
theorem nv_take_zero (l : List Int) : nv (l.take 0) = 0 := rfl
theorem nv_take_bound {l : List Int} (h : Dg l) (j : Nat) : 0 ≤ nv (l.take j) ∧ nv (l.take j) < bp j := by
  have h1 := nv_bound (h.take j)
  refine ⟨h1.1, Int.lt_of_lt_of_le h1.2 ?_⟩
  rw [List.length_take]
  have : min j l.length ≤ j := Nat.min_le_left _ _
  obtain ⟨d, hd⟩ : ∃ d, j = min j l.length + d := ⟨j - min j l.length, by omega⟩
  conv => rhs; rw [hd, bp_add]
  have hp := bp_pos (min j l.length)
  have hq := bp_pos d
  have := Int.mul_le_mul_of_nonneg_left (show (1:Int) ≤ bp d by omega) (Int.le_of_lt hp)
  omega
theorem nv_set {l : List Int} {j : Nat} (h : j < l.length) (x : Int) : nv (l.set j x) = nv l + bp j * (x - dg l j) := by
  have h1 := nv_split l j
  have h2 := nv_split (l.set j x) j
  have h3 : (l.set j x).take j = l.take j := by rw [List.take_set_of_le (Nat.le_refl j)]
  have h4 : (l.set j x).drop (j + 1) = l.drop (j + 1) := by rw [List.drop_set_of_lt (by omega)]
  have h5 : dg (l.set j x) j = x := by rw [dg_of_lt (by simpa using h)]; simp
  rw [nv_drop, h3, h4, h5] at h2
  rw [nv_drop] at h1
  grind
theorem dg_set_ne {l : List Int} {i j : Nat} (h : i ≠ j) (x : Int) : dg (l.set i x) j = dg l j := by
  unfold dg; rw [List.getD_eq_getElem?_getD, List.getD_eq_getElem?_getD, List.getElem?_set_ne h]
theorem dg_zeros (n j : Nat) : dg (List.replicate n 0) j = 0 := by
  by_cases h : j < n
  · rw [dg_of_lt (by simpa using h)]; simp
  · rw [dg_of_ge (by simp; omega)]
theorem nv_zeros (n : Nat) : nv (List.replicate n 0) = 0 := by
  induction n with
  | zero => rfl
  | succ n ih => rw [List.replicate_succ]; simp only [nv, ih]; decide
/-- Dropped a digit 0 at the end. -/
theorem nv_take_last {l : List Int} {n : Nat} (h : l.length = n + 1) (h0 : dg l n = 0) : nv (l.take n) = nv l := by
  have h1 := nv_split l n
  rw [nv_drop, h0, List.drop_eq_nil_of_le (by omega)] at h1
  rw [h1]
  simp [nv]
/-- Two numbers whose digits agree from place j + 1 on and part at place j. -/
theorem nv_lt_of {a b : List Int} (ha : Dg a) (hb : Dg b) {j : Nat} (he : nv (a.drop (j + 1)) = nv (b.drop (j + 1))) (h : dg a j < dg b j) : nv a < nv b := by
  have h1 := nv_split a j
  have h2 := nv_split b j
  have h3 := nv_take_bound ha j
  have h4 := nv_take_bound hb j
  rw [nv_drop, he] at h1
  rw [nv_drop] at h2
  have hp := bp_pos j
  have h5 := Int.mul_le_mul_of_nonneg_left (show dg a j + 1 ≤ dg b j by omega) (Int.le_of_lt hp)
  rw [Int.mul_add] at h1 h2 h5
  omega
end Go.Proofs.Ytbadlnbpoabdeaa.Dn
