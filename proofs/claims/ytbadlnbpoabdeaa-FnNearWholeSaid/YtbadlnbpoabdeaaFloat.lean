/-
  PLAIN LAW, PART 2: what the operations of the format binary64 give (Ieee), as rationals: each within 2^-53 of the result's size where the result is 0 or in the range; and the whole division of complex numbers by these operations, both ways. No program here.
-/
import Derived.Test.YtbadlnbpoabdeaaSmith
namespace Go.Proofs.Ytbadlnbpoabdeaa.Qn
open Ieee

theorem pw_pos (n : Int) : 0 < (2:Rat)^n := Rat.zpow_pos (by decide)
theorem pw_add (m n : Int) : (2:Rat)^(m+n) = 2^m * 2^n := Rat.zpow_add (by decide) m n
theorem pw_nat (n : Nat) : (2:Rat)^(n:Int) = ((2^n : Nat) : Rat) := by
  rw [Rat.zpow_natCast]
  induction n with
  | zero => rfl
  | succ n ih => rw [Rat.pow_succ, ih, Nat.pow_succ]; simp [Rat.natCast_mul]
theorem pw_le {i j : Int} (h : i ≤ j) : (2:Rat)^i ≤ 2^j := by
  obtain ⟨n, rfl⟩ : ∃ n : Nat, j = i + n := ⟨(j - i).toNat, by omega⟩
  rw [pw_add, pw_nat]
  have h1 : (1:Rat) ≤ ((2^n : Nat) : Rat) := by
    have : ((1:Nat):Rat) ≤ ((2^n : Nat) : Rat) := Rat.natCast_le_natCast.2 Nat.one_le_two_pow
    exact this
  have := Rat.mul_le_mul_of_nonneg_left h1 (Rat.le_of_lt (pw_pos i))
  grind
theorem pw_lt_of {i j : Int} (h : (2:Rat)^i < 2^j) : i < j := by
  by_cases hij : i < j
  · exact hij
  · have := pw_le (show j ≤ i by omega)
    exact absurd h (by grind)
theorem pw_succ (i : Int) : (2:Rat)^(i+1) = 2 * 2^i := by rw [pw_add, Rat.zpow_one, Rat.mul_comm]

theorem dSign : double.signWeight = 2^63 := rfl
theorem dBin : double.binade = 2^52 := rfl
theorem dInf : double.infRung = 2047 * 2^52 := rfl
theorem dLeast : double.leastPlace = -1074 := rfl

theorem word_neg (neg : Bool) {rung : Nat} (h : rung < 2^63) : (double.word neg rung / double.signWeight % 2 == 1) = neg := by
  rw [dSign]; unfold Format.word; rw [dSign]
  cases neg
  · rw [if_neg (by decide)]; rw [Nat.div_eq_of_lt h]; rfl
  · rw [if_pos rfl]
    have : (2^63 + rung) / 2^63 = 1 := by omega
    rw [this]; rfl
theorem word_rung (neg : Bool) {rung : Nat} (h : rung < 2^63) : double.word neg rung % double.signWeight = rung := by
  rw [dSign]; unfold Format.word; rw [dSign]
  cases neg
  · rw [if_neg (by decide)]; exact Nat.mod_eq_of_lt h
  · rw [if_pos rfl]; omega
theorem read_word_low (neg : Bool) {rung : Nat} (h : rung < 2^52) : double.read (double.word neg rung) = .number neg rung (-1074) := by
  unfold Format.read
  rw [word_neg neg (by omega), word_rung neg (by omega), dBin, dLeast]
  simp only [if_pos h]
theorem read_word_mid (neg : Bool) {rung : Nat} (h : 2^52 ≤ rung) (h2 : rung < 2047 * 2^52) : double.read (double.word neg rung) = .number neg (2^52 + rung % 2^52) (-1074 + (rung / 2^52 - 1 : Nat)) := by
  unfold Format.read
  rw [word_neg neg (by omega), word_rung neg (by omega), dBin, dLeast, dInf]
  simp only [if_neg (show ¬ rung < 2^52 by omega), if_pos h2]

theorem nearest_zero (neg : Bool) (place : Int) : double.read (double.nearest neg 0 place) = .number neg 0 (-1074) := by
  unfold Format.nearest
  rw [if_pos rfl]
  exact read_word_low neg (by decide)

/-- what is kept of n behind a cut of 'drop' digits -/
theorem cut_even (neg : Bool) (n d : Nat) (hd : d ≤ n.log2 + 2) : ∃ low k, Toward.even.cut neg n d = low + k ∧ k ≤ 1 ∧ low = n / 2^d ∧ 2 * ((low + k) * 2^d) ≤ 2 * n + 2^d ∧ 2 * n ≤ 2 * ((low + k) * 2^d) + 2^d := by
  have hg : 1 <<< min d (n.log2 + 2) = 2^d := by rw [Nat.min_eq_left hd, Nat.shiftLeft_eq, Nat.one_mul]
  have hpos : 0 < 2^d := Nat.two_pow_pos d
  have hdm := Nat.div_add_mod n (2^d)
  have hlt := Nat.mod_lt n hpos
  unfold Toward.cut
  simp only [hg]
  generalize hG : 2^d = G at *
  generalize hl : n / G = low at *
  generalize hr : n % G = rest at *
  have e1 : (low + 1) * G = G * low + G := by rw [Nat.add_mul, Nat.one_mul, Nat.mul_comm]
  have e0 : (low + 0) * G = G * low := by rw [Nat.add_zero, Nat.mul_comm]
  by_cases hm : (decide (G < 2 * rest) || (G == 2 * rest && low % 2 == 1)) = true
  · refine ⟨low, 1, by rw [hm]; rfl, by omega, rfl, ?_, ?_⟩
    · rw [e1]
      have : G ≤ 2 * rest := by
        simp only [Bool.or_eq_true, decide_eq_true_eq, Bool.and_eq_true, beq_iff_eq] at hm
        omega
      omega
    · rw [e1]; omega
  · rw [Bool.not_eq_true] at hm
    refine ⟨low, 0, by rw [hm]; rfl, by omega, rfl, ?_, ?_⟩
    · rw [e0]; omega
    · rw [e0]
      have : ¬ G < 2 * rest := by
        simp only [Bool.or_eq_false_iff, decide_eq_false_iff_not] at hm
        exact hm.1
      omega

theorem natCast_two_pow_mul (n : Nat) (k : Nat) : ((n * 2^k : Nat) : Rat) = (n:Rat) * 2^(k:Int) := by
  rw [pw_nat, Rat.natCast_mul]

/-- What is kept, as a rational: within half a unit of the last place. -/
theorem kept_spec (neg : Bool) (mag : Nat) (hm : mag ≠ 0) (place last : Int) (hl : last = place + mag.log2 - 52) :
    ∃ kept : Nat, Toward.even.cut neg (mag <<< (place - last).toNat) (last - place).toNat = kept ∧ 2^52 ≤ kept ∧ kept ≤ 2^53 ∧ B ((kept:Rat)*2^last - (mag:Rat)*2^place) (U * ((mag:Rat)*2^place)) := by
  have hlo := Nat.log2_self_le hm
  have hhi := @Nat.lt_log2_self mag
  generalize hL : mag.log2 = L at *
  have hv : 0 ≤ (mag:Rat)*2^place := Rat.mul_nonneg Rat.natCast_nonneg (Rat.le_of_lt (pw_pos _))
  by_cases hc : L ≤ 52
  · have e1 : (place - last).toNat = 52 - L := by omega
    have e2 : (last - place).toNat = 0 := by omega
    rw [e1, e2, Nat.shiftLeft_eq]
    have hp1 : 2^L * 2^(52-L) = 2^52 := by rw [← Nat.pow_add]; congr 1; omega
    have hp2 : 2^(L+1) * 2^(52-L) = 2^53 := by rw [← Nat.pow_add]; congr 1; omega
    refine ⟨mag * 2^(52-L), ?_, ?_, ?_, ?_⟩
    · obtain ⟨low, k, h, hk, hlow, ha, hb⟩ := cut_even neg (mag * 2^(52-L)) 0 (Nat.zero_le _)
      rw [h]
      simp only [Nat.pow_zero, Nat.mul_one, Nat.div_one] at *
      omega
    · rw [← hp1]; exact Nat.mul_le_mul_right _ hlo
    · rw [← hp2]; exact Nat.mul_le_mul_right _ (Nat.le_of_lt hhi)
    · have : ((mag * 2^(52-L) : Nat) : Rat) * 2^last = (mag:Rat) * 2^place := by
        rw [natCast_two_pow_mul, Rat.mul_assoc, ← pw_add]; congr 2; omega
      rw [this]
      unfold B U; constructor <;> grind
  · have e1 : (place - last).toNat = 0 := by omega
    obtain ⟨d, hd⟩ : ∃ d, L = 52 + d := ⟨L - 52, by omega⟩
    have e2 : (last - place).toNat = d := by omega
    rw [e1, e2, Nat.shiftLeft_eq, Nat.pow_zero, Nat.mul_one]
    obtain ⟨low, k, h, hk, hlow, ha, hb⟩ := cut_even neg mag d (by omega)
    rw [h]
    have hG : 0 < 2^d := Nat.two_pow_pos d
    have hp1 : 2^L = 2^52 * 2^d := by rw [← Nat.pow_add, hd]
    have hp2 : 2^(L+1) = 2^53 * 2^d := by rw [← Nat.pow_add]; congr 1; omega
    have hlow1 : 2^52 ≤ low := by
      rw [hlow, Nat.le_div_iff_mul_le hG]; omega
    have hlow2 : low < 2^53 := by
      rw [hlow, Nat.div_lt_iff_lt_mul hG]; omega
    refine ⟨low + k, rfl, by omega, by omega, ?_⟩
    have e3 : (2:Rat)^last = 2^(d:Int) * 2^place := by rw [← pw_add]; congr 1; omega
    rw [e3, ← Rat.mul_assoc, ← natCast_two_pow_mul]
    have hp := pw_pos place
    have ha' : 2 * (((low + k) * 2^d : Nat) : Rat) ≤ 2 * (mag : Rat) + ((2^d : Nat) : Rat) := by
      have := Rat.natCast_le_natCast.2 ha
      simpa [Rat.natCast_mul, Rat.natCast_add] using this
    have hb' : 2 * (mag : Rat) ≤ 2 * (((low + k) * 2^d : Nat) : Rat) + ((2^d : Nat) : Rat) := by
      have := Rat.natCast_le_natCast.2 hb
      simpa [Rat.natCast_mul, Rat.natCast_add] using this
    have hc' : 4503599627370496 * ((2^d : Nat) : Rat) ≤ (mag : Rat) := by
      have := Rat.natCast_le_natCast.2 (show 4503599627370496 * 2^d ≤ mag by omega)
      simpa [Rat.natCast_mul] using this
    generalize (((low + k) * 2^d : Nat) : Rat) = K at *
    generalize ((2^d : Nat) : Rat) = G at *
    generalize (mag : Rat) = m at *
    generalize (2:Rat)^place = p at *
    have k1 : B (K - m) (U * m) := by unfold B U; constructor <;> grind
    have e4 : K * p - m * p = (K - m) * p := by grind
    have e5 : U * (m * p) = (U * m) * p := by grind
    rw [e4, e5]
    exact k1.mul ⟨by grind, by grind⟩

theorem nearest_read (neg : Bool) (mag : Nat) (place : Int) (hm : mag ≠ 0) (h1 : -1022 ≤ place + mag.log2) (h2 : place + mag.log2 ≤ 1020) :
    ∃ (m : Nat) (p : Int), double.read (double.nearest neg mag place) = .number neg m p ∧ B ((m:Rat)*2^p - (mag:Rat)*2^place) (U * ((mag:Rat)*2^place)) := by
  obtain ⟨kept, hk, hk1, hk2, hB⟩ := kept_spec neg mag hm place _ rfl
  unfold Format.nearest
  rw [if_neg hm]
  have e0 : (double.fractionBits : Int) = 52 := rfl
  simp only [dLeast, dBin, dInf, e0]
  rw [show max (place + (mag.log2 : Int) - 52) (-1074) = place + mag.log2 - 52 by omega]
  rw [hk]
  generalize hlast : place + (mag.log2 : Int) - 52 = last at *
  obtain ⟨j, hj⟩ : ∃ j : Nat, last = (j:Int) - 1074 := ⟨(last + 1074).toNat, by omega⟩
  have ej : (last - -1074).toNat = j := by omega
  rw [ej]
  rw [Nat.min_eq_left (by omega)]
  rw [read_word_mid neg (by omega) (by omega)]
  by_cases hc : kept < 2^53
  · refine ⟨kept, last, ?_, hB⟩
    have q1 : (j * 2^52 + kept) / 2^52 = j + 1 := by omega
    have q2 : (j * 2^52 + kept) % 2^52 = kept - 2^52 := by omega
    rw [q1, q2, show 2^52 + (kept - 2^52) = kept by omega, show -1074 + ((j + 1 - 1 : Nat) : Int) = last by omega]
  · have hk3 : kept = 2^53 := by omega
    subst hk3
    refine ⟨2^52, last + 1, ?_, ?_⟩
    · have q1 : (j * 2^52 + 2^53) / 2^52 = j + 2 := by omega
      have q2 : (j * 2^52 + 2^53) % 2^52 = 0 := by omega
      rw [q1, q2, show -1074 + ((j + 2 - 1 : Nat) : Int) = last + 1 by omega]
    · have : ((2^52 : Nat) : Rat) * 2^(last+1) = ((2^53 : Nat) : Rat) * 2^last := by
        have e : ((2^53 : Nat) : Rat) = ((2^52 * 2 : Nat) : Rat) := rfl
        rw [e, Rat.natCast_mul, pw_succ, Rat.mul_assoc]; rfl
      rw [this]; exact hB

def ab (x : Rat) : Rat := if 0 ≤ x then x else -x
theorem ab_nonneg (x : Rat) : 0 ≤ ab x := by unfold ab; split <;> grind
theorem ab_mul (x y : Rat) : ab (x*y) = ab x * ab y := by
  have e1 : x * -y = -(x*y) := by grind
  have e2 : -x * y = -(x*y) := by grind
  have e3 : -x * -y = x*y := by grind
  unfold ab
  by_cases hx : 0 ≤ x <;> by_cases hy : 0 ≤ y
  · rw [if_pos hx, if_pos hy, if_pos (Rat.mul_nonneg hx hy)]
  · have k := Rat.mul_nonneg hx (show 0 ≤ -y by grind)
    rw [if_pos hx, if_neg hy, e1]
    rw [e1] at k
    split <;> grind
  · have k := Rat.mul_nonneg (show 0 ≤ -x by grind) hy
    rw [if_neg hx, if_pos hy, e2]
    rw [e2] at k
    split <;> grind
  · have k := Rat.mul_nonneg (show 0 ≤ -x by grind) (show 0 ≤ -y by grind)
    rw [e3] at k
    rw [if_neg hx, if_neg hy, e3, if_pos k]
theorem ab_neg (x : Rat) : ab (-x) = ab x := by unfold ab; grind
theorem B_iff {x X : Rat} : B x X ↔ ab x ≤ X := by unfold B ab; grind
theorem B_ab (x : Rat) : B x (ab x) := B_iff.2 Rat.le_refl
theorem ab_pos {x : Rat} (h : x ≠ 0) : 0 < ab x := by unfold ab; grind
theorem ab_zero : ab 0 = 0 := by unfold ab; grind
theorem ab_eq_zero {x : Rat} (h : ab x = 0) : x = 0 := by unfold ab at h; grind
theorem ab_add (x y : Rat) : ab (x+y) ≤ ab x + ab y := by unfold ab; grind
theorem ab_of_pos {x : Rat} (h : 0 ≤ x) : ab x = x := by unfold ab; grind

theorem Rd.ab {κ z v : Rat} (h : Rd κ z v) : ab (z - v) ≤ κ * ab v := B_iff.1 (h _ (B_ab v))
theorem Rd.of_ab {κ z v : Rat} (hκ : 0 ≤ κ) (h : Qn.ab (z - v) ≤ κ * Qn.ab v) : Rd κ z v := by
  intro V hV
  refine (B_iff.2 h).mono ?_
  exact Rat.mul_le_mul_of_nonneg_left (B_iff.1 hV) hκ

/-- 0, or of a size from 2^-l to 2^h -/
def In (l h : Int) (q : Rat) : Prop := q = 0 ∨ ((2:Rat)^(-l) ≤ ab q ∧ ab q ≤ 2^h)
theorem In.mono {l h l' h' : Int} {q : Rat} (k : In l h q) (hl : l ≤ l') (hh : h ≤ h') : In l' h' q := by
  rcases k with k | ⟨k1, k2⟩
  · exact .inl k
  · exact .inr ⟨Rat.le_trans (pw_le (by omega)) k1, Rat.le_trans k2 (pw_le hh)⟩
theorem In.neg {l h : Int} {q : Rat} (k : In l h q) : In l h (-q) := by
  rcases k with k | k
  · exact .inl (by rw [k]; rfl)
  · right; rw [ab_neg]; exact k
theorem In.le {l h : Int} {q : Rat} (k : In l h q) : ab q ≤ 2^h := by
  rcases k with k | ⟨_, k⟩
  · rw [k, ab_zero]; exact Rat.le_of_lt (pw_pos _)
  · exact k
theorem mul_le_mul' {a b c d : Rat} (h1 : a ≤ b) (h2 : c ≤ d) (hc : 0 ≤ c) (hb : 0 ≤ b) : a * c ≤ b * d :=
  Rat.le_trans (Rat.mul_le_mul_of_nonneg_right h1 hc) (Rat.mul_le_mul_of_nonneg_left h2 hb)
theorem In.mul {l h l' h' : Int} {q r : Rat} (k : In l h q) (k' : In l' h' r) : In (l+l') (h+h') (q*r) := by
  rcases k with k | ⟨k1, k2⟩
  · exact .inl (by rw [k]; grind)
  rcases k' with k' | ⟨k3, k4⟩
  · exact .inl (by rw [k']; grind)
  right
  rw [ab_mul, show -(l+l') = -l + -l' by omega, pw_add, pw_add]
  exact ⟨mul_le_mul' k1 k3 (Rat.le_of_lt (pw_pos _)) (ab_nonneg _), mul_le_mul' k2 k4 (ab_nonneg _) (Rat.le_of_lt (pw_pos _))⟩
/-- Near a value of the range, within half of its size. -/
theorem In.near {l h : Int} {z v κ : Rat} (k : In l h v) (hκ : κ ≤ 1/2) (hr : ab (z - v) ≤ κ * ab v) : In (l+1) (h+1) z := by
  have hv := ab_nonneg v
  have hk2 : κ * ab v ≤ 1/2 * ab v := Rat.mul_le_mul_of_nonneg_right hκ hv
  rcases k with k | ⟨k1, k2⟩
  · left; subst k
    rw [ab_zero] at hr
    have := ab_nonneg (z - 0)
    have : ab (z - 0) = 0 := by grind
    have := ab_eq_zero this
    grind
  · right
    have e1 : (2:Rat)^(-l) = 2 * 2^(-(l+1)) := by rw [← pw_succ]; congr 1; omega
    rw [e1] at k1
    rw [pw_succ]
    have h1 : ab z ≤ ab (z - v) + ab v := by have := ab_add (z - v) v; grind
    have h2 : ab v ≤ ab (z - v) + ab z := by have := ab_add (-(z - v)) z; rw [ab_neg] at this; grind
    constructor <;> grind
/-- v b near a: v's range out of a's and b's. -/
theorem In.quo {l h l' h' : Int} {a b v κ : Rat} (ha : In l h a) (hb : In l' h' b) (hb0 : b ≠ 0) (hκ : κ ≤ 1/2) (hr : ab (v*b - a) ≤ κ * ab a) : In (l+h'+1) (h+l'+1) v := by
  have hvb := ha.near hκ hr
  rcases hb with hb | ⟨b1, b2⟩
  · exact absurd hb hb0
  rcases hvb with k | ⟨k1, k2⟩
  · left
    rcases Rat.mul_eq_zero.1 k with h | h
    · exact h
    · exact absurd h hb0
  · right
    rw [ab_mul] at k1 k2
    have hv := ab_nonneg v
    have hbp := ab_pos hb0
    constructor
    · have e : (2:Rat)^(-(l+1)) = 2^(-(l+h'+1)) * 2^h' := by rw [← pw_add]; congr 1; omega
      rw [e] at k1
      have k3 : ab v * ab b ≤ ab v * 2^h' := Rat.mul_le_mul_of_nonneg_left b2 hv
      exact Rat.le_of_mul_le_mul_right (c := 2^h') (Rat.le_trans k1 k3) (pw_pos _)
    · have e : (2:Rat)^(h+1) = 2^(h+l'+1) * 2^(-l') := by rw [← pw_add]; congr 1; omega
      rw [e] at k2
      have k3 : ab v * 2^(-l') ≤ ab v * ab b := Rat.mul_le_mul_of_nonneg_left b1 hv
      exact Rat.le_of_mul_le_mul_right (c := 2^(-l')) (Rat.le_trans k3 k2) (pw_pos _)

/-- a multiple of 2^-g -/
def Grid (g : Int) (q : Rat) : Prop := ∃ n : Int, q = (n:Rat) * 2^(-g)
theorem Grid.mono {g g' : Int} {q : Rat} (k : Grid g q) (h : g ≤ g') : Grid g' q := by
  obtain ⟨n, rfl⟩ := k
  obtain ⟨d, rfl⟩ : ∃ d : Nat, g' = g + d := ⟨(g' - g).toNat, by omega⟩
  refine ⟨n * (2^d : Nat), ?_⟩
  have e : (2:Rat)^(-g) = 2^(d:Int) * 2^(-(g+d)) := by rw [← pw_add]; congr 1; omega
  rw [e, pw_nat, Rat.intCast_mul, Rat.mul_assoc]; rfl
theorem Grid.add {g : Int} {q r : Rat} (k : Grid g q) (k' : Grid g r) : Grid g (q+r) := by
  obtain ⟨n, rfl⟩ := k
  obtain ⟨m, rfl⟩ := k'
  exact ⟨n + m, by rw [Rat.intCast_add, Rat.add_mul]⟩
theorem Grid.neg {g : Int} {q : Rat} (k : Grid g q) : Grid g (-q) := by
  obtain ⟨n, rfl⟩ := k
  exact ⟨-n, by rw [Rat.intCast_neg, Rat.neg_mul]⟩
theorem Grid.sub {g : Int} {q r : Rat} (k : Grid g q) (k' : Grid g r) : Grid g (q-r) := by
  rw [Rat.sub_eq_add_neg]; exact k.add k'.neg
theorem Grid.low {g : Int} {q : Rat} (k : Grid g q) (h : q ≠ 0) : (2:Rat)^(-g) ≤ ab q := by
  obtain ⟨n, rfl⟩ := k
  have hp := pw_pos (-g)
  have hn : n ≠ 0 := by
    intro e; subst e; exact h (by simp)
  rw [ab_mul, ab_of_pos (Rat.le_of_lt hp)]
  have h1 : 1 ≤ ab (n:Rat) := by
    unfold ab
    split
    · rename_i h0
      have : 0 ≤ n := Rat.intCast_nonneg.1 h0
      have : ((1:Int):Rat) ≤ (n:Rat) := Rat.intCast_le_intCast.2 (by omega)
      simpa using this
    · rename_i h0
      have : ¬ 0 ≤ n := fun h => h0 (Rat.intCast_nonneg.2 h)
      have : ((1:Int):Rat) ≤ ((-n : Int):Rat) := Rat.intCast_le_intCast.2 (by omega)
      rw [Rat.intCast_neg] at this
      simpa using this
  have := Rat.mul_le_mul_of_nonneg_right h1 (Rat.le_of_lt hp)
  grind

def sg (neg : Bool) : Rat := if neg then -1 else 1
theorem ab_sg (s : Bool) (x : Rat) : ab (sg s * x) = ab x := by
  rw [ab_mul]
  cases s <;> simp [sg] <;> (unfold ab; grind)
/-- The word x stands for the number q. -/
def Has (x : Nat) (q : Rat) : Prop := ∃ s m p, double.read x = .number s m p ∧ q = sg s * ((m:Rat) * 2^p)

theorem read_eq (x : Nat) : double.read x = if x % 2^63 < 2^52 then .number (x / 2^63 % 2 == 1) (x % 2^63) (-1074)
    else if x % 2^63 < 2047 * 2^52 then .number (x / 2^63 % 2 == 1) (2^52 + x % 2^63 % 2^52) (-1074 + (x % 2^63 / 2^52 - 1 : Nat))
    else if x % 2^63 = 2047 * 2^52 then .infinity (x / 2^63 % 2 == 1) else .nan (x / 2^63 % 2 == 1) (x % 2^63 - 2047 * 2^52) := rfl
theorem read_mag {x : Nat} {s : Bool} {m : Nat} {p : Int} (h : double.read x = .number s m p) : m < 2^53 ∧ -1074 ≤ p := by
  rw [read_eq] at h
  by_cases h1 : x % 2^63 < 2^52
  · rw [if_pos h1] at h
    cases h; omega
  · rw [if_neg h1] at h
    by_cases h2 : x % 2^63 < 2047 * 2^52
    · rw [if_pos h2] at h
      cases h; omega
    · rw [if_neg h2] at h
      by_cases h3 : x % 2^63 = 2047 * 2^52
      · rw [if_pos h3] at h; cases h
      · rw [if_neg h3] at h; cases h

/-- What is written of a number in the range. -/
theorem write_has (neg : Bool) (mag : Nat) (place : Int) {v : Rat} {l h : Int} (hl : l ≤ 1020) (hh : h ≤ 1000) (hv : v = sg neg * ((mag:Rat) * 2^place)) (hin : In l h v) :
    ∃ q, Has (double.nearest neg mag place) q ∧ ab (q - v) ≤ U * ab v := by
  have hu : 0 ≤ U := by unfold U; grind
  by_cases hm : mag = 0
  · subst hm
    have hz : ∀ p : Int, sg neg * (((0:Nat):Rat) * 2^p) = 0 := fun p => by
      rw [show ((0:Nat):Rat) = 0 from rfl, Rat.zero_mul, Rat.mul_zero]
    rw [hz] at hv
    subst hv
    refine ⟨0, ⟨neg, 0, -1074, nearest_zero neg place, (hz _).symm⟩, ?_⟩
    rw [Rat.sub_self, ab_zero, Rat.mul_zero]
    exact Rat.le_refl
  · have hw : 0 < (mag:Rat) * 2^place := Rat.mul_pos (Rat.natCast_pos.2 (by omega)) (pw_pos _)
    have hav : ab v = (mag:Rat) * 2^place := by
      rw [hv, ab_sg, ab_of_pos (Rat.le_of_lt hw)]
    have hin' : (2:Rat)^(-1020:Int) ≤ (mag:Rat) * 2^place ∧ (mag:Rat) * 2^place ≤ 2^(1000:Int) := by
      rw [← hav]
      rcases hin.mono hl hh with h0 | h0
      · exfalso
        rw [h0, ab_zero] at hav
        grind
      · exact h0
    have hlo : ((2^mag.log2 : Nat) : Rat) ≤ (mag : Rat) := Rat.natCast_le_natCast.2 (Nat.log2_self_le hm)
    have hhi : (mag : Rat) < ((2^(mag.log2+1) : Nat) : Rat) := Rat.natCast_lt_natCast.2 (@Nat.lt_log2_self mag)
    rw [← pw_nat] at hlo hhi
    have hp := pw_pos place
    have b1 : place + mag.log2 < 1001 := by
      apply pw_lt_of
      have h1 : (2:Rat)^(place + (mag.log2:Int)) ≤ (mag:Rat) * 2^place := by
        rw [pw_add, Rat.mul_comm]; exact Rat.mul_le_mul_of_nonneg_right hlo (Rat.le_of_lt hp)
      have h2 : (2:Rat)^(1000:Int) < 2^(1001:Int) := by
        have : (2:Rat)^(1001:Int) = 2 * 2^(1000:Int) := pw_succ 1000
        have := pw_pos 1000
        grind
      grind
    have b2 : -1020 < place + ((mag.log2 + 1 : Nat) : Int) := by
      apply pw_lt_of
      have h1 : (mag:Rat) * 2^place < (2:Rat)^(place + ((mag.log2 + 1 : Nat) : Int)) := by
        rw [pw_add, Rat.mul_comm ((2:Rat)^place)]; exact Rat.mul_lt_mul_of_pos_right hhi hp
      grind
    obtain ⟨m, p, hr, hB⟩ := nearest_read neg mag place hm (by omega) (by omega)
    refine ⟨sg neg * ((m:Rat) * 2^p), ⟨neg, m, p, hr, rfl⟩, ?_⟩
    have e : sg neg * ((m:Rat) * 2^p) - v = sg neg * ((m:Rat)*2^p - (mag:Rat)*2^place) := by rw [hv]; grind
    rw [e, ab_sg, hav]
    exact B_iff.1 hB

theorem signed_rat (s : Bool) (m k : Nat) : ((signed s m k : Int) : Rat) = sg s * ((m:Rat) * 2^(k:Int)) := by
  have e : ((m <<< k : Nat) : Rat) = (m:Rat) * 2^(k:Int) := by rw [Nat.shiftLeft_eq, natCast_two_pow_mul]
  unfold signed sg
  cases s
  · rw [if_neg (by decide), if_neg (by decide), Rat.one_mul, ← e]; rfl
  · rw [if_pos rfl, if_pos rfl, ← e, Rat.intCast_neg, Rat.neg_mul, Rat.one_mul]; rfl
theorem total_rat (total : Int) (s : Bool) (hs : total ≠ 0 → s = decide (total < 0)) : (total : Rat) = sg s * (total.natAbs : Rat) := by
  by_cases h0 : total = 0
  · subst h0; simp
  · rw [hs h0]
    by_cases hn : total < 0
    · rw [decide_eq_true hn]
      have : total = -(total.natAbs : Int) := by omega
      unfold sg
      rw [if_pos rfl, Rat.neg_mul, Rat.one_mul]
      conv => lhs; rw [this]
      rw [Rat.intCast_neg]; rfl
    · rw [decide_eq_false hn]
      have : total = (total.natAbs : Int) := by omega
      unfold sg
      rw [if_neg (by decide), Rat.one_mul]
      conv => lhs; rw [this]
      rfl

theorem sum_has (s t : Bool) (m n : Nat) (i j : Int) {l h : Int} (hl : l ≤ 1020) (hh : h ≤ 1000) (hin : In l h (sg s * ((m:Rat)*2^i) + sg t * ((n:Rat)*2^j))) :
    ∃ z q, ((Datum.number s m i).sum (.number t n j)).map double.write = some z ∧ Has z q ∧ ab (q - (sg s * ((m:Rat)*2^i) + sg t * ((n:Rat)*2^j))) ≤ U * ab (sg s * ((m:Rat)*2^i) + sg t * ((n:Rat)*2^j)) := by
  have main := fun (neg : Bool) (mag : Nat) (place : Int) hv => write_has neg mag place hl hh (v := sg s * ((m:Rat)*2^i) + sg t * ((n:Rat)*2^j)) hv hin
  simp only [Datum.sum, Option.map_some, Format.write]
  generalize hb : min i j = base
  obtain ⟨di, hi⟩ : ∃ d : Nat, i = base + d := ⟨(i - base).toNat, by omega⟩
  obtain ⟨dj, hj⟩ : ∃ d : Nat, j = base + d := ⟨(j - base).toNat, by omega⟩
  have ei : (i - base).toNat = di := by omega
  have ej : (j - base).toNat = dj := by omega
  rw [ei, ej]
  have ht : ((signed s m di + signed t n dj : Int) : Rat) * 2^base = sg s * ((m:Rat)*2^i) + sg t * ((n:Rat)*2^j) := by
    rw [Rat.intCast_add, signed_rat, signed_rat, hi, hj, pw_add, pw_add]; grind
  generalize hT : signed s m di + signed t n dj = total at *
  obtain ⟨q, h1, h2⟩ := main (if total = 0 then s && t else decide (total < 0)) total.natAbs base (by
    rw [← ht, total_rat total (if total = 0 then s && t else decide (total < 0)) (fun h => if_neg h), Rat.mul_assoc])
  exact ⟨_, q, rfl, h1, h2⟩

theorem Has.add {x y : Nat} {a b : Rat} (hx : Has x a) (hy : Has y b) {l h : Int} (hl : l ≤ 1020) (hh : h ≤ 1000) (hin : In l h (a+b)) :
    ∃ z q, double.add x y = some z ∧ Has z q ∧ ab (q - (a+b)) ≤ U * ab (a+b) := by
  obtain ⟨s, m, i, rx, rfl⟩ := hx
  obtain ⟨t, n, j, ry, rfl⟩ := hy
  unfold Format.add
  rw [rx, ry]
  exact sum_has s t m n i j hl hh hin
theorem Has.sub {x y : Nat} {a b : Rat} (hx : Has x a) (hy : Has y b) {l h : Int} (hl : l ≤ 1020) (hh : h ≤ 1000) (hin : In l h (a-b)) :
    ∃ z q, double.sub x y = some z ∧ Has z q ∧ ab (q - (a-b)) ≤ U * ab (a-b) := by
  obtain ⟨s, m, i, rx, rfl⟩ := hx
  obtain ⟨t, n, j, ry, rfl⟩ := hy
  unfold Format.sub
  rw [rx, ry]
  have e : sg s * ((m:Rat)*2^i) - sg t * ((n:Rat)*2^j) = sg s * ((m:Rat)*2^i) + sg (!t) * ((n:Rat)*2^j) := by
    cases t <;> simp [sg] <;> grind
  rw [e] at hin ⊢
  exact sum_has s (!t) m n i j hl hh hin
theorem Has.mul {x y : Nat} {a b : Rat} (hx : Has x a) (hy : Has y b) {l h : Int} (hl : l ≤ 1020) (hh : h ≤ 1000) (hin : In l h (a*b)) :
    ∃ z q, double.mul x y = some z ∧ Has z q ∧ ab (q - (a*b)) ≤ U * ab (a*b) := by
  obtain ⟨s, m, i, rx, rfl⟩ := hx
  obtain ⟨t, n, j, ry, rfl⟩ := hy
  unfold Format.mul
  rw [rx, ry]
  simp only [Datum.product, Option.map_some, Format.write]
  obtain ⟨q, h1, h2⟩ := write_has (s ^^ t) (m*n) (i+j) hl hh (v := sg s * ((m:Rat)*2^i) * (sg t * ((n:Rat)*2^j))) (by
    have : sg (s ^^ t) = sg s * sg t := by cases s <;> cases t <;> simp [sg] <;> grind
    rw [this, pw_add, Rat.natCast_mul]; grind) hin
  exact ⟨_, q, rfl, h1, h2⟩

theorem quo_nat (m n : Nat) (hn : n ≠ 0) (st : Nat) (more : Nat) (hmore : more = 54 + n.log2 - m.log2) (hst : st = (m <<< more % n != 0).toNat) :
    B (((2 * (m <<< more / n) + st) * n : Nat) - ((2 * (m <<< more) : Nat) : Rat)) (U / 2 * ((2 * (m <<< more) : Nat) : Rat)) := by
  have hn0 : 0 < n := by omega
  have hdm := Nat.div_add_mod (m <<< more) n
  have hlt := Nat.mod_lt (m <<< more) hn0
  by_cases hm : m = 0
  · subst hm
    have e0 : 0 <<< more = 0 := by simp
    rw [e0] at hst ⊢
    have : st = 0 := by rw [hst]; simp
    subst this
    simp
    unfold B; constructor <;> grind
  · have hD : 9007199254740992 * n ≤ m <<< more := by
      have h1 := Nat.log2_self_le hm
      have h2 := @Nat.lt_log2_self n
      rw [Nat.shiftLeft_eq]
      have h3 : 2^m.log2 * 2^more ≤ m * 2^more := Nat.mul_le_mul_right _ h1
      rw [← Nat.pow_add] at h3
      have h4 : 2^(n.log2+1) * 2^53 ≤ 2^(m.log2 + more) := by
        rw [← Nat.pow_add]; exact Nat.pow_le_pow_right (by decide) (by omega)
      omega
    generalize m <<< more = D at *
    generalize hq : D / n = q at *
    have hN : (2 * q + st) * n = 2 * (n * q) + st * n := by grind
    have hst1 : (st = 0 ∧ D % n = 0) ∨ st = 1 := by
      by_cases hr : D % n = 0
      · left; rw [hst, hr]; exact ⟨rfl, rfl⟩
      · right; rw [hst]; simp [hr]
    have k1 : (2 * q + st) * n ≤ 2 * D + n := by
      rw [hN]; rcases hst1 with ⟨h, h'⟩ | h <;> subst h <;> omega
    have k2 : 2 * D ≤ (2 * q + st) * n + n := by
      rw [hN]; rcases hst1 with ⟨h, h'⟩ | h <;> subst h <;> omega
    generalize (2 * q + st) * n = N at *
    have k1' : (N:Rat) ≤ ((2 * D : Nat) : Rat) + (n:Rat) := by
      have := Rat.natCast_le_natCast.2 k1
      rwa [Rat.natCast_add] at this
    have k2' : ((2 * D : Nat) : Rat) ≤ (N:Rat) + (n:Rat) := by
      have := Rat.natCast_le_natCast.2 k2
      rwa [Rat.natCast_add] at this
    have k3' : 9007199254740992 * (n:Rat) ≤ (D : Rat) := by
      have := Rat.natCast_le_natCast.2 hD
      rw [Rat.natCast_mul] at this
      exact this
    have k4 : ((2 * D : Nat) : Rat) = 2 * (D:Rat) := by rw [Rat.natCast_mul]; rfl
    rw [k4] at *
    unfold B U; constructor <;> grind

theorem Has.div {x y : Nat} {a b : Rat} (hx : Has x a) (hy : Has y b) (hb : b ≠ 0) {l h l' h' : Int} (ha : In l h a) (hbi : In l' h' b) (hl : l + h' + 1 ≤ 1020) (hh : h + l' + 1 ≤ 1000) :
    ∃ z q, double.div x y = some z ∧ Has z q ∧ ab (q*b - a) ≤ 2*U * ab a := by
  obtain ⟨s, m, i, rx, ea⟩ := hx
  obtain ⟨t, n, j, ry, eb⟩ := hy
  have hn : n ≠ 0 := by
    rintro rfl
    apply hb
    rw [eb, show ((0:Nat):Rat) = 0 from rfl, Rat.zero_mul, Rat.mul_zero]
  have hu : 0 ≤ U := by unfold U; grind
  unfold Format.div
  rw [rx, ry]
  simp only [Datum.quotient, if_neg hn, Option.map_some, Format.write]
  have e52 : double.fractionBits + 2 = 54 := rfl
  rw [e52]
  obtain ⟨more, hmore⟩ : ∃ k, k = 54 + n.log2 - m.log2 := ⟨_, rfl⟩
  obtain ⟨st, hst⟩ : ∃ k, k = (m <<< more % n != 0).toNat := ⟨_, rfl⟩
  have key := quo_nat m n hn st more hmore hst
  rw [← hmore, ← hst]
  generalize hq : 2 * (m <<< more / n) + st = Q at *
  generalize hv : sg (s ^^ t) * ((Q:Rat) * 2^(i - j - (more:Int) - 1)) = v
  have sgm : sg (s ^^ t) * sg t = sg s := by cases s <;> cases t <;> simp [sg] <;> grind
  have e1 : v * b - a = sg s * ((((Q * n : Nat) : Rat) - ((2 * (m <<< more) : Nat) : Rat)) * 2^(i - (more:Int) - 1)) := by
    have ej : (2:Rat)^(i - (more:Int) - 1) = 2^(i - j - (more:Int) - 1) * 2^j := by rw [← pw_add]; congr 1; omega
    have ei : (2:Rat)^i = 2 * 2^(more:Int) * 2^(i - (more:Int) - 1) := by
      rw [← pw_succ, ← pw_add]; congr 1; omega
    have eD : ((2 * (m <<< more) : Nat) : Rat) = 2 * ((m:Rat) * 2^(more:Int)) := by
      rw [Rat.natCast_mul, Nat.shiftLeft_eq, natCast_two_pow_mul]; rfl
    rw [ea, eb, ← hv, eD, Rat.natCast_mul, ei, ← sgm]
    rw [ej]
    have sq : sg t * sg t = 1 := by cases t <;> simp [sg] <;> grind
    grind
  have e2 : ab a = ((2 * (m <<< more) : Nat) : Rat) * 2^(i - (more:Int) - 1) := by
    have ei : (2:Rat)^i = 2 * 2^(more:Int) * 2^(i - (more:Int) - 1) := by
      rw [← pw_succ, ← pw_add]; congr 1; omega
    have eD : ((2 * (m <<< more) : Nat) : Rat) = 2 * ((m:Rat) * 2^(more:Int)) := by
      rw [Rat.natCast_mul, Nat.shiftLeft_eq, natCast_two_pow_mul]; rfl
    rw [ea, ab_sg, ab_of_pos (Rat.mul_nonneg Rat.natCast_nonneg (Rat.le_of_lt (pw_pos _))), eD, ei]
    grind
  have e3 : ab (v * b - a) ≤ U / 2 * ab a := by
    have hp := pw_pos (i - (more:Int) - 1)
    rw [e1, ab_sg, ab_mul, ab_of_pos (Rat.le_of_lt hp), e2, ← Rat.mul_assoc]
    exact Rat.mul_le_mul_of_nonneg_right (B_iff.1 key) (Rat.le_of_lt hp)
  have hin := In.quo (κ := U/2) ha hbi hb (by unfold U; grind) e3
  obtain ⟨q, h1, h2⟩ := write_has (s ^^ t) Q (i - j - (more:Int) - 1) hl hh (v := v) hv.symm hin
  refine ⟨_, q, rfl, h1, ?_⟩
  have e4 : q * b - a = (q - v) * b + (v * b - a) := by grind
  have e5 : ab ((q - v) * b) ≤ U * ab (v * b) := by
    rw [ab_mul, ab_mul, ← Rat.mul_assoc]
    exact Rat.mul_le_mul_of_nonneg_right h2 (ab_nonneg _)
  have e6 : ab (v * b) ≤ ab (v * b - a) + ab a := by have := ab_add (v * b - a) a; grind
  have e7 := ab_add ((q - v) * b) (v * b - a)
  have e8 := ab_nonneg a
  rw [e4]
  unfold U at *
  grind

/-- The order of two numbers is that of what they stand for. -/
theorem Has.order {x y : Nat} {a b : Rat} (hx : Has x a) (hy : Has y b) : double.order x y = some (if a < b then .lt else if a = b then .eq else .gt) := by
  obtain ⟨s, m, i, rx, rfl⟩ := hx
  obtain ⟨t, n, j, ry, rfl⟩ := hy
  unfold Format.order
  rw [rx, ry]
  simp only [Datum.order]
  generalize hb : min i j = base
  obtain ⟨di, hi⟩ : ∃ d : Nat, i = base + d := ⟨(i - base).toNat, by omega⟩
  obtain ⟨dj, hj⟩ : ∃ d : Nat, j = base + d := ⟨(j - base).toNat, by omega⟩
  have ei : (i - base).toNat = di := by omega
  have ej : (j - base).toNat = dj := by omega
  rw [ei, ej]
  have hp := pw_pos base
  have e1 : sg s * ((m:Rat) * 2^i) = ((signed s m di : Int) : Rat) * 2^base := by
    rw [signed_rat, hi, pw_add]; grind
  have e2 : sg t * ((n:Rat) * 2^j) = ((signed t n dj : Int) : Rat) * 2^base := by
    rw [signed_rat, hj, pw_add]; grind
  rw [e1, e2]
  generalize signed s m di = p
  generalize signed t n dj = q
  congr 1
  have lt_iff : (p:Rat) * 2^base < (q:Rat) * 2^base ↔ p < q := by
    rw [Rat.mul_lt_mul_right hp]; exact Rat.intCast_lt_intCast
  by_cases h1 : p < q
  · rw [if_pos (lt_iff.2 h1)]
    simp [compare, compareOfLessAndEq, h1]
  · rw [if_neg (fun h => h1 (lt_iff.1 h))]
    by_cases h2 : p = q
    · subst h2
      simp [compare, compareOfLessAndEq]
    · have h3 : ¬ (p:Rat) * 2^base = (q:Rat) * 2^base := by
        intro h
        have : ¬ q < p := fun h4 => by
          have := (Rat.mul_lt_mul_right hp).2 (Rat.intCast_lt_intCast.2 h4)
          grind
        omega
      rw [if_neg h3]
      simp [compare, compareOfLessAndEq, h1, h2]

/-- x, y stand for a quotient of a, b and c, d that is near enough. -/
def Good (a b c d : Rat) (x y : Nat) : Prop := ∃ p q, Has x p ∧ Has y q ∧ In 500 500 p ∧ In 500 500 q ∧
  ((p*c - q*d - a)*(p*c - q*d - a) + (p*d + q*c - b)*(p*d + q*c - b)) * 79228162514264337593543950336 ≤ a*a + b*b

theorem low_of {c d : Rat} (hc : c ≠ 0) (h : ab d ≤ ab c) : Low d c := by
  by_cases h0 : 0 < c
  · left
    refine ⟨h0, B_iff.2 ?_⟩
    rwa [ab_of_pos (Rat.le_of_lt h0)] at h
  · right
    refine ⟨by grind, B_iff.2 ?_⟩
    have e : ab c = -c := by rw [← ab_neg, ab_of_pos (by grind)]
    rwa [e] at h

/-- A number of the range, by its places. -/
theorem Has.grid {x : Nat} {q : Rat} {l h : Int} (hx : Has x q) (hi : In l h q) : Grid (l + 53) q := by
  obtain ⟨s, m, p, rx, rfl⟩ := hx
  have hm := (read_mag rx).1
  rcases hi with hz | ⟨h1, _⟩
  · exact ⟨0, by rw [hz]; simp⟩
  · have hp := pw_pos p
    rw [ab_sg, ab_of_pos (Rat.mul_nonneg Rat.natCast_nonneg (Rat.le_of_lt hp))] at h1
    have h2 : (m:Rat) * 2^p < 2^(53 + p : Int) := by
      rw [pw_add]
      refine Rat.mul_lt_mul_of_pos_right ?_ hp
      rw [show (53:Int) = ((53:Nat):Int) from rfl, pw_nat]
      exact Rat.natCast_lt_natCast.2 hm
    have h3 : -l < 53 + p := pw_lt_of (by grind)
    obtain ⟨k, hk⟩ : ∃ k : Nat, p = -(l+53) + k := ⟨(p + (l + 53)).toNat, by omega⟩
    refine ⟨(if s then -1 else 1) * (m * (2^k : Nat)), ?_⟩
    rw [hk, pw_add, pw_nat, Rat.intCast_mul, Rat.intCast_mul]
    have es : ((if s then -1 else 1 : Int) : Rat) = sg s := by cases s <;> simp [sg]
    rw [es]
    have e1 : (((m:Nat):Int):Rat) = (m:Rat) := rfl
    have e2 : (((2^k:Nat):Int):Rat) = ((2^k:Nat):Rat) := rfl
    rw [e1, e2]
    grind
theorem In.of_grid {g h : Int} {q : Rat} (k : Grid g q) (hh : ab q ≤ 2^h) : In g h q := by
  by_cases h0 : q = 0
  · exact .inl h0
  · exact .inr ⟨k.low h0, hh⟩
theorem pw_double (h : Int) : (2:Rat)^h + 2^h = 2^(h+1) := by rw [pw_succ]; grind
theorem ab_add_le {x y : Rat} {h : Int} (hx : ab x ≤ 2^h) (hy : ab y ≤ 2^h) : ab (x+y) ≤ 2^(h+1) := by
  have := ab_add x y
  have := pw_double h
  grind
theorem ab_sub_le {x y : Rat} {h : Int} (hx : ab x ≤ 2^h) (hy : ab y ≤ 2^h) : ab (x-y) ≤ 2^(h+1) := by
  rw [Rat.sub_eq_add_neg]; exact ab_add_le hx (by rwa [ab_neg])
theorem hU0 : 0 ≤ U := by unfold U; grind
theorem hU2 : 0 ≤ 2*U := by unfold U; grind
theorem hUh : U ≤ 1/2 := by unfold U; grind
theorem hUh2 : 2*U ≤ 1/2 := by unfold U; grind

theorem t_nonneg {c d r t : Rat} (hc : 0 < c) (h1 : Rd (2*U) (r*c) d) (h2 : Rd U t (r*d)) : 0 ≤ t := by
  by_cases hd0 : 0 ≤ d
  · have k := h1 d ⟨by grind, by grind⟩
    have hr0 : 0 ≤ r := by
      apply Rat.le_of_mul_le_mul_right (c := c) _ hc
      unfold B U at k; grind
    have k0 : 0 ≤ r*d := Rat.mul_nonneg hr0 hd0
    have k2 := h2 (r*d) ⟨by grind, by grind⟩
    unfold B U at k2; grind
  · have k := h1 (-d) ⟨by grind, by grind⟩
    have hr0 : r ≤ 0 := by
      apply Rat.le_of_mul_le_mul_right (c := c) _ hc
      unfold B U at k; grind
    have k0 : 0 ≤ (-r)*(-d) := Rat.mul_nonneg (by grind) (by grind)
    have k2 := h2 (r*d) ⟨by grind, by grind⟩
    unfold B U at k2; grind
theorem denom_ne {c d r t D : Rat} (hc : c ≠ 0) (h1 : Rd (2*U) (r*c) d) (h2 : Rd U t (r*d)) (h3 : ab (D - (c+t)) ≤ U * ab (c+t)) : D ≠ 0 := by
  have hct : c + t ≠ 0 := by
    by_cases h0 : 0 < c
    · have := t_nonneg h0 h1 h2
      grind
    · have := t_nonneg (c := -c) (d := -d) (r := r) (t := -t) (by grind) (h1.negate.of_eq (by grind) rfl) (h2.negate.of_eq rfl (by grind))
      grind
  rintro rfl
  have h4 : 0 - (c+t) = -(c+t) := by grind
  rw [h4, ab_neg] at h3
  have := ab_pos hct
  unfold U at h3
  grind
theorem ratio_le {c d r : Rat} (hc : c ≠ 0) (hge : ab d ≤ ab c) (e1 : ab (r*c - d) ≤ 2*U * ab d) : ab r ≤ 2^(1:Int) := by
  have h1 : ab (r*c) ≤ ab (r*c - d) + ab d := by have := ab_add (r*c - d) d; grind
  have hp := ab_pos hc
  have hd := ab_nonneg d
  rw [ab_mul] at h1
  rw [Rat.zpow_one]
  apply Rat.le_of_mul_le_mul_right (c := ab c) _ hp
  unfold U at e1
  grind

/-- THE FIRST WAY: |c| ≥ |d|. -/
theorem div_ge {a b c d : Nat} {qa qb qc qd : Rat} (ha : Has a qa) (hb : Has b qb) (hc : Has c qc) (hd : Has d qd)
    (ia : In 100 100 qa) (ib : In 100 100 qb) (ic : In 100 100 qc) (id : In 100 100 qd) (h0 : qc ≠ 0) (hge : ab qd ≤ ab qc) :
    ∃ ratio rd denom br n1 e ar n2 f, double.div d c = some ratio ∧ double.mul ratio d = some rd ∧ double.add c rd = some denom ∧
      double.mul b ratio = some br ∧ double.add a br = some n1 ∧ double.div n1 denom = some e ∧
      double.mul a ratio = some ar ∧ double.sub b ar = some n2 ∧ double.div n2 denom = some f ∧ Good qa qb qc qd e f := by
  obtain ⟨ratio, r, o1, h1, e1⟩ := hd.div hc h0 id ic (by omega) (by omega)
  have r1 := Rd.of_ab hU2 e1
  have ir : In 201 1 r := by
    rcases In.quo id ic h0 hUh2 e1 with h | ⟨h, _⟩
    · exact .inl h
    · exact .inr ⟨h, ratio_le h0 hge e1⟩
  obtain ⟨rd, t, o2, h2, e2⟩ := h1.mul hd (by omega) (by omega) (ir.mul id)
  have r2 := Rd.of_ab hU0 e2
  have it := (ir.mul id).near hUh e2
  have ict : In 355 103 (qc + t) := In.of_grid (((hc.grid ic).mono (by omega)).add ((h2.grid it).mono (by omega))) (ab_add_le (ic.mono (l' := 400) (h' := 102) (by omega) (by omega)).le (it.mono (l' := 400) (h' := 102) (by omega) (by omega)).le)
  obtain ⟨denom, D, o3, h3, e3⟩ := hc.add h2 (by omega) (by omega) ict
  have r3 := Rd.of_ab hU0 e3
  have hD := denom_ne h0 r1 r2 e3
  have iD := ict.near hUh e3
  obtain ⟨br, s, o4, h4, e4⟩ := hb.mul h1 (by omega) (by omega) (ib.mul ir)
  have is := (ib.mul ir).near hUh e4
  have ias : In 355 103 (qa + s) := In.of_grid (((ha.grid ia).mono (by omega)).add ((h4.grid is).mono (by omega))) (ab_add_le (ia.mono (l' := 400) (h' := 102) (by omega) (by omega)).le (is.mono (l' := 400) (h' := 102) (by omega) (by omega)).le)
  obtain ⟨n1, N1, o5, h5, e5⟩ := ha.add h4 (by omega) (by omega) ias
  have in1 := ias.near hUh e5
  obtain ⟨e, E, o6, h6, e6⟩ := h5.div h3 hD in1 iD (by omega) (by omega)
  have iE := In.quo in1 iD hD hUh2 e6
  obtain ⟨ar, s2, o7, h7, e7⟩ := ha.mul h1 (by omega) (by omega) (ia.mul ir)
  have is2 := (ia.mul ir).near hUh e7
  have ibs : In 355 103 (qb - s2) := In.of_grid (((hb.grid ib).mono (by omega)).sub ((h7.grid is2).mono (by omega))) (ab_sub_le (ib.mono (l' := 400) (h' := 102) (by omega) (by omega)).le (is2.mono (l' := 400) (h' := 102) (by omega) (by omega)).le)
  obtain ⟨n2, N2, o8, h8, e8⟩ := hb.sub h7 (by omega) (by omega) ibs
  have in2 := ibs.near hUh e8
  obtain ⟨f, F, o9, h9, e9⟩ := h8.div h3 hD in2 iD (by omega) (by omega)
  have iF := In.quo in2 iD hD hUh2 e9
  refine ⟨ratio, rd, denom, br, n1, e, ar, n2, f, o1, o2, o3, o4, o5, o6, o7, o8, o9, E, F, h6, h9, iE.mono (by omega) (by omega), iF.mono (by omega) (by omega), ?_⟩
  exact near_norm (fun M hA hB => smith_ge (low_of h0 hge) hA hB r1 r2 r3 (Rd.of_ab hU0 e4) (Rd.of_ab hU0 e5) (Rd.of_ab hU2 e6) (Rd.of_ab hU0 e7) (Rd.of_ab hU0 e8) (Rd.of_ab hU2 e9))

/-- THE OTHER WAY: |c| < |d|. -/
theorem div_lt {a b c d : Nat} {qa qb qc qd : Rat} (ha : Has a qa) (hb : Has b qb) (hc : Has c qc) (hd : Has d qd)
    (ia : In 100 100 qa) (ib : In 100 100 qb) (ic : In 100 100 qc) (id : In 100 100 qd) (h0 : qd ≠ 0) (hge : ab qc ≤ ab qd) :
    ∃ ratio rc denom ar n1 e br n2 f, double.div c d = some ratio ∧ double.mul ratio c = some rc ∧ double.add d rc = some denom ∧
      double.mul a ratio = some ar ∧ double.add ar b = some n1 ∧ double.div n1 denom = some e ∧
      double.mul b ratio = some br ∧ double.sub br a = some n2 ∧ double.div n2 denom = some f ∧ Good qa qb qc qd e f := by
  obtain ⟨ratio, r, o1, h1, e1⟩ := hc.div hd h0 ic id (by omega) (by omega)
  have r1 := Rd.of_ab hU2 e1
  have ir : In 201 1 r := by
    rcases In.quo ic id h0 hUh2 e1 with h | ⟨h, _⟩
    · exact .inl h
    · exact .inr ⟨h, ratio_le h0 hge e1⟩
  obtain ⟨rc, t, o2, h2, e2⟩ := h1.mul hc (by omega) (by omega) (ir.mul ic)
  have r2 := Rd.of_ab hU0 e2
  have it := (ir.mul ic).near hUh e2
  have ict : In 355 103 (qd + t) := In.of_grid (((hd.grid id).mono (by omega)).add ((h2.grid it).mono (by omega))) (ab_add_le (id.mono (l' := 400) (h' := 102) (by omega) (by omega)).le (it.mono (l' := 400) (h' := 102) (by omega) (by omega)).le)
  obtain ⟨denom, D, o3, h3, e3⟩ := hd.add h2 (by omega) (by omega) ict
  have r3 := Rd.of_ab hU0 e3
  have hD := denom_ne h0 r1 r2 e3
  have iD := ict.near hUh e3
  obtain ⟨ar, s, o4, h4, e4⟩ := ha.mul h1 (by omega) (by omega) (ia.mul ir)
  have is := (ia.mul ir).near hUh e4
  have ias : In 355 103 (s + qb) := In.of_grid (((h4.grid is).mono (by omega)).add ((hb.grid ib).mono (by omega))) (ab_add_le (is.mono (l' := 400) (h' := 102) (by omega) (by omega)).le (ib.mono (l' := 400) (h' := 102) (by omega) (by omega)).le)
  obtain ⟨n1, N1, o5, h5, e5⟩ := h4.add hb (by omega) (by omega) ias
  have in1 := ias.near hUh e5
  obtain ⟨e, E, o6, h6, e6⟩ := h5.div h3 hD in1 iD (by omega) (by omega)
  have iE := In.quo in1 iD hD hUh2 e6
  obtain ⟨br, s2, o7, h7, e7⟩ := hb.mul h1 (by omega) (by omega) (ib.mul ir)
  have is2 := (ib.mul ir).near hUh e7
  have ibs : In 355 103 (s2 - qa) := In.of_grid (((h7.grid is2).mono (by omega)).sub ((ha.grid ia).mono (by omega))) (ab_sub_le (is2.mono (l' := 400) (h' := 102) (by omega) (by omega)).le (ia.mono (l' := 400) (h' := 102) (by omega) (by omega)).le)
  obtain ⟨n2, N2, o8, h8, e8⟩ := h7.sub ha (by omega) (by omega) ibs
  have in2 := ibs.near hUh e8
  obtain ⟨f, F, o9, h9, e9⟩ := h8.div h3 hD in2 iD (by omega) (by omega)
  have iF := In.quo in2 iD hD hUh2 e9
  refine ⟨ratio, rc, denom, ar, n1, e, br, n2, f, o1, o2, o3, o4, o5, o6, o7, o8, o9, E, F, h6, h9, iE.mono (by omega) (by omega), iF.mono (by omega) (by omega), ?_⟩
  exact near_norm (fun M hA hB => smith_lt (low_of h0 hge) hA hB r1 r2 r3 (Rd.of_ab hU0 e4) (Rd.of_ab hU0 e5) (Rd.of_ab hU2 e6) (Rd.of_ab hU0 e7) (Rd.of_ab hU0 e8) (Rd.of_ab hU2 e9))


end Go.Proofs.Ytbadlnbpoabdeaa.Qn
