/-
  PLAIN LAW, PART 1: Smith's division of complex numbers over the rationals. If each of its nine operations is right up to 2^-53 of its result's size (divisions up to 2^-52), the quotient times the divisor differs from the dividend by at most 20 * 2^-53 in each part of what bounds the dividend's parts. No program, no floats here.
-/
import Ieee.Arith
namespace Go.Proofs.Ytbadlnbpoabdeaa.Qn

def B (x X : Rat) : Prop := -X ≤ x ∧ x ≤ X
theorem B.nonneg {x X : Rat} (h : B x X) : 0 ≤ X := by
  unfold B at h
  grind
theorem B.mul {x X y Y : Rat} (h : B x X) (k : B y Y) : B (x*y) (X*Y) := by
  have hX := h.nonneg
  have hY := k.nonneg
  obtain ⟨h1, h2⟩ := h
  obtain ⟨k1, k2⟩ := k
  have a1 : 0 ≤ (X - x) * (Y - y) := Rat.mul_nonneg (by grind) (by grind)
  have a2 : 0 ≤ (X + x) * (Y - y) := Rat.mul_nonneg (by grind) (by grind)
  have a3 : 0 ≤ (X - x) * (Y + y) := Rat.mul_nonneg (by grind) (by grind)
  have a4 : 0 ≤ (X + x) * (Y + y) := Rat.mul_nonneg (by grind) (by grind)
  constructor <;> grind
theorem B.add {x X y Y : Rat} (h : B x X) (k : B y Y) : B (x+y) (X+Y) := by
  unfold B at *; constructor <;> grind
theorem B.sub {x X y Y : Rat} (h : B x X) (k : B y Y) : B (x-y) (X+Y) := by
  unfold B at *; constructor <;> grind
theorem B.neg {x X : Rat} (h : B x X) : B (-x) X := by
  unfold B at *; constructor <;> grind
theorem B.mono {x X Y : Rat} (h : B x X) (k : X ≤ Y) : B x Y := by
  unfold B at *; constructor <;> grind
/-- x = y + (x - y) -/
theorem B.near {x y X Y : Rat} (h : B (x - y) X) (k : B y Y) : B x (X + Y) := by
  unfold B at *; constructor <;> grind

/-- 2^-53 -/
def U : Rat := 1/9007199254740992

/-- z is v up to κ of its size. -/
def Rd (κ z v : Rat) : Prop := ∀ V, B v V → B (z - v) (κ * V)

theorem smith_pos {a b c d r t D s n1 e s2 n2 f M : Rat} (hc : 0 < c) (hd : B d c) (ha : B a M) (hb : B b M)
    (h1 : Rd (2*U) (r*c) d) (h2 : Rd U t (r*d)) (h3 : Rd U D (c+t)) (h4 : Rd U s (b*r)) (h5 : Rd U n1 (a+s)) (h6 : Rd (2*U) (e*D) n1)
    (h7 : Rd U s2 (a*r)) (h8 : Rd U n2 (b-s2)) (h9 : Rd (2*U) (f*D) n2) :
    B (e*c - f*d - a) (20*U*M) ∧ B (e*d + f*c - b) (20*U*M) := by
  have hM := ha.nonneg
  have hr : B r 1.001 := by
    have k := (h1 c hd).near hd
    unfold B U at k
    obtain ⟨k1, k2⟩ := k
    constructor
    · apply Rat.le_of_mul_le_mul_right (c := c) _ hc; grind
    · apply Rat.le_of_mul_le_mul_right (c := c) _ hc; grind
  have hrd := hr.mul hd
  have e2 := h2 _ hrd
  have ht := e2.near hrd
  have ht0 : 0 ≤ t := by
    by_cases hd0 : 0 ≤ d
    · have k := h1 d ⟨by grind, by grind⟩
      have hr0 : 0 ≤ r := by
        apply Rat.le_of_mul_le_mul_right (c := c) _ hc
        unfold B U at k; grind
      have k0 : 0 ≤ r*d := Rat.mul_nonneg hr0 hd0
      have k2 := h2 (r*d) ⟨by grind, by grind⟩
      unfold B U at k2; grind
    · have k := h1 (-d) ⟨by grind, by grind⟩
      have hr0 : r ≤ 0 := by
        apply Rat.le_of_mul_le_mul_right (c := c) _ hc
        unfold B U at k; grind
      have k0 : 0 ≤ (-r)*(-d) := Rat.mul_nonneg (by grind) (by grind)
      have k2 := h2 (r*d) ⟨by grind, by grind⟩
      unfold B U at k2; grind
  have hct : B (c+t) (2.01*c) := by
    unfold B U at *; constructor <;> grind
  have e3 := h3 _ hct
  have hD : 0.999*c ≤ D := by
    have k := h3 (c+t) ⟨by grind, by grind⟩
    unfold B U at k; grind
  have e1 := h1 _ hd
  have hbr := hb.mul hr
  have har := ha.mul hr
  have e4 := h4 _ hbr
  have e7 := h7 _ har
  have hs := e4.near hbr
  have hs2 := e7.near har
  have has : B (a+s) (2.01*M) := by
    unfold B U at *; constructor <;> grind
  have hbs : B (b-s2) (2.01*M) := by
    unfold B U at *; constructor <;> grind
  have e5 := h5 _ has
  have e8 := h8 _ hbs
  have hn1 : B n1 (2.02*M) := (e5.near has).mono (by unfold U; grind)
  have hn2 : B n2 (2.02*M) := (e8.near hbs).mono (by unfold U; grind)
  have e6 := h6 _ hn1
  have e9 := h9 _ hn2
  have hcc : B c c := ⟨by grind, by grind⟩
  have hMc : 0 ≤ M * c := Rat.mul_nonneg hM (by grind)
  have q1 : D*(e*c-f*d-a) = b*(r*c-d) + c*(s-b*r) - a*(t-r*d) + d*(s2-a*r) + c*((n1-(a+s)) + (e*D-n1)) - d*((n2-(b-s2))+(f*D-n2)) - a*(D-(c+t)) := by
    grind
  have q2 : D*(e*d+f*c-b) = c*((n2-(b-s2))+(f*D-n2)) - c*(s2-a*r) - a*(r*c-d) + d*(s-b*r) - b*(t-r*d) + d*((n1-(a+s)) + (e*D-n1)) - b*(D-(c+t)) := by
    grind
  have p1 : B (D*(e*c-f*d-a)) (19.5*U*(M*c)) := by
    rw [q1]
    refine B.mono ((((((((hb.mul e1).add (hcc.mul e4)).sub (ha.mul e2)).add (hd.mul e7)).add (hcc.mul (e5.add e6))).sub (hd.mul (e8.add e9))).sub (ha.mul e3))) ?_
    unfold U; grind
  have p2 : B (D*(e*d+f*c-b)) (19.5*U*(M*c)) := by
    rw [q2]
    refine B.mono ((((((((hcc.mul (e8.add e9)).sub (hcc.mul e7)).sub (ha.mul e1)).add (hd.mul e4)).sub (hb.mul e2)).add (hd.mul (e5.add e6))).sub (hb.mul e3))) ?_
    unfold U; grind
  have hD0 : 0 < D := by grind
  have fin : ∀ x, B (D*x) (19.5*U*(M*c)) → B x (20*U*M) := by
    intro x hx
    have k : 19.5*U*(M*c) ≤ D*(20*U*M) := by
      have := Rat.mul_le_mul_of_nonneg_right (c := 20*U*M) hD (Rat.mul_nonneg (by unfold U; grind) hM)
      unfold U at *; grind
    unfold B at hx
    constructor
    · apply Rat.le_of_mul_le_mul_left (c := D) _ hD0; grind
    · apply Rat.le_of_mul_le_mul_left (c := D) _ hD0; grind
  exact ⟨fin _ p1, fin _ p2⟩
theorem Rd.negate {κ z v : Rat} (h : Rd κ z v) : Rd κ (-z) (-v) := by
  intro V hV
  have k := h V (by have := hV.neg; rwa [Rat.neg_neg] at this)
  have := k.neg
  have e : -(z - v) = -z - -v := by grind
  rwa [e] at this
theorem Rd.of_eq {κ z v z' v' : Rat} (h : Rd κ z v) (e : z = z') (e' : v = v') : Rd κ z' v' := by subst e; subst e'; exact h

/-- d is of no greater size than c, which is not 0 -/
def Low (d c : Rat) : Prop := (0 < c ∧ B d c) ∨ (c < 0 ∧ B d (-c))

theorem smith_ge {a b c d r t D s n1 e s2 n2 f M : Rat} (hcd : Low d c) (ha : B a M) (hb : B b M)
    (h1 : Rd (2*U) (r*c) d) (h2 : Rd U t (r*d)) (h3 : Rd U D (c+t)) (h4 : Rd U s (b*r)) (h5 : Rd U n1 (a+s)) (h6 : Rd (2*U) (e*D) n1)
    (h7 : Rd U s2 (a*r)) (h8 : Rd U n2 (b-s2)) (h9 : Rd (2*U) (f*D) n2) :
    B (e*c - f*d - a) (20*U*M) ∧ B (e*d + f*c - b) (20*U*M) := by
  rcases hcd with ⟨hc, hd⟩ | ⟨hc, hd⟩
  · exact smith_pos hc hd ha hb h1 h2 h3 h4 h5 h6 h7 h8 h9
  · have k := smith_pos (a := a) (b := b) (c := -c) (d := -d) (r := r) (t := -t) (D := -D) (s := s) (n1 := n1) (e := -e) (s2 := s2) (n2 := n2) (f := -f) (M := M)
      (by grind) hd.neg ha hb (h1.negate.of_eq (by grind) rfl) (h2.negate.of_eq rfl (by grind)) (h3.negate.of_eq rfl (by grind)) h4 h5 (h6.of_eq (by grind) rfl) h7 h8 (h9.of_eq (by grind) rfl)
    have e1 : -e * -c - -f * -d - a = e*c - f*d - a := by grind
    have e2 : -e * -d + -f * -c - b = e*d + f*c - b := by grind
    rw [e1, e2] at k
    exact k
theorem Low.neg {d c : Rat} (h : Low d c) : Low (-d) c := by
  rcases h with ⟨h, k⟩ | ⟨h, k⟩
  · exact .inl ⟨h, k.neg⟩
  · exact .inr ⟨h, k.neg⟩
theorem smith_lt {a b c d r t D s n1 e s2 n2 f M : Rat} (hcd : Low c d) (ha : B a M) (hb : B b M)
    (h1 : Rd (2*U) (r*d) c) (h2 : Rd U t (r*c)) (h3 : Rd U D (d+t)) (h4 : Rd U s (a*r)) (h5 : Rd U n1 (s+b)) (h6 : Rd (2*U) (e*D) n1)
    (h7 : Rd U s2 (b*r)) (h8 : Rd U n2 (s2-a)) (h9 : Rd (2*U) (f*D) n2) :
    B (e*c - f*d - a) (20*U*M) ∧ B (e*d + f*c - b) (20*U*M) := by
  have k := smith_ge (a := b) (b := -a) (c := d) (d := -c) (r := -r) (t := t) (D := D) (s := s) (n1 := n1) (e := e) (s2 := -s2) (n2 := n2) (f := f) (M := M)
      hcd.neg hb ha.neg (h1.negate.of_eq (by grind) rfl) (h2.of_eq rfl (by grind)) h3 (h4.of_eq rfl (by grind)) (h5.of_eq rfl (by grind)) h6 (h7.negate.of_eq rfl (by grind)) (h8.of_eq rfl (by grind)) h9
  refine ⟨?_, ?_⟩
  · have := k.2.neg
    have e1 : -(e * -c + f * d - -a) = e*c - f*d - a := by grind
    rwa [e1] at this
  · have := k.1
    have e1 : e * d - f * -c - b = e*d + f*c - b := by grind
    rwa [e1] at this

theorem near_norm {a b x y : Rat} (h : ∀ M, B a M → B b M → B x (20*U*M) ∧ B y (20*U*M)) : (x*x + y*y) * 79228162514264337593543950336 ≤ a*a + b*b := by
  have key : ∀ M, B a M → B b M → M*M ≤ a*a+b*b → (x*x + y*y) * 79228162514264337593543950336 ≤ a*a + b*b := by
    intro M ha hb hm
    obtain ⟨hx, hy⟩ := h M ha hb
    have hM := ha.nonneg
    have hMM : 0 ≤ M*M := Rat.mul_nonneg hM hM
    have k1 := (hx.mul hx).2
    have k2 := (hy.mul hy).2
    unfold U at k1 k2
    grind
  have sq : ∀ z : Rat, 0 ≤ z*z := by
    intro z
    by_cases hz : 0 ≤ z
    · exact Rat.mul_nonneg hz hz
    · have : 0 ≤ (-z)*(-z) := Rat.mul_nonneg (by grind) (by grind)
      grind
  have sa := sq a
  have sb := sq b
  by_cases ha : 0 ≤ a <;> by_cases hb : 0 ≤ b
  · by_cases hab : b ≤ a
    · exact key a ⟨by grind, by grind⟩ ⟨by grind, by grind⟩ (by grind)
    · exact key b ⟨by grind, by grind⟩ ⟨by grind, by grind⟩ (by grind)
  · by_cases hab : -b ≤ a
    · exact key a ⟨by grind, by grind⟩ ⟨by grind, by grind⟩ (by grind)
    · exact key (-b) ⟨by grind, by grind⟩ ⟨by grind, by grind⟩ (by grind)
  · by_cases hab : b ≤ -a
    · exact key (-a) ⟨by grind, by grind⟩ ⟨by grind, by grind⟩ (by grind)
    · exact key b ⟨by grind, by grind⟩ ⟨by grind, by grind⟩ (by grind)
  · by_cases hab : -b ≤ -a
    · exact key (-a) ⟨by grind, by grind⟩ ⟨by grind, by grind⟩ (by grind)
    · exact key (-b) ⟨by grind, by grind⟩ ⟨by grind, by grind⟩ (by grind)

end Go.Proofs.Ytbadlnbpoabdeaa.Qn
