/-
  PLAIN LAW, PART 5: what the printed functions Size, IsZero, Finite, Near, and the sign's bit, give of a word, in the words of Ieee's reading.
-/
import Derived.Test.YtbadlnbpoabdeaaNatp
import Derived.Test.YtbadlnbpoabdeaaFloat
namespace Go.Proofs.Ytbadlnbpoabdeaa.Dn
open Go.RowKit Go.Proofs.YtbadlnbpoabdeaaW.PrintWords Go.Proofs.YtbadlnbpoabdeaaW.PrintLast Go.Proofs.YtbadlnbpoabdeaaW.PrintMore
open Qn

theorem and_mask (x : Nat) (hx : x < 2^64) (k : Nat) (hk : k < 64) : Go.bits .and .u64 (x : Int) ((2^k - 1 : Nat) : Int) = ((x % 2^k : Nat) : Int) := by
  have hp : 2^k ≤ 2^63 := Nat.pow_le_pow_right (by decide) (by omega)
  rw [u64_and _ _ (by omega) (by omega) (by omega) (by omega), Int.toNat_natCast, Int.toNat_natCast, Nat.and_two_pow_sub_one_eq_mod]
theorem expF (x : Nat) (hx : x < 2^64) : PFnNearWhole.spec_Format_exp.f 53 52 (-1074) 2047 9223372036854775808 (x : Int) = some ((x / 2^52 % 2^11 : Nat) : Int) := by
  unfold PFnNearWhole.spec_Format_exp.f
  rw [if_pos (by decide)]
  have e : shr .u64 (x : Int) 52 = ((x / 2^52 : Nat) : Int) := by
    unfold shr
    rw [show min (52 : Int).toNat IntKind.u64.bits = 52 from rfl]
    rfl
  rw [e]
  have := and_mask (x / 2^52) (by omega) 11 (by decide)
  exact congrArg some this
theorem fracF (x : Nat) (hx : x < 2^64) : PFnNearWhole.spec_Format_frac.f 53 52 (-1074) 2047 9223372036854775808 (x : Int) = some ((x % 2^52 : Nat) : Int) := by
  unfold PFnNearWhole.spec_Format_frac.f
  rw [if_pos (by decide)]
  have e : IntKind.u64.wrap (shl .u64 1 52 - 1) = ((2^52 - 1 : Nat) : Int) := by decide
  rw [e]
  exact congrArg some (and_mask x hx 52 (by decide))
/-- what a finite word reads as -/
theorem read_finite {x : Nat} {s : Bool} {m : Nat} {p : Int} (h : Ieee.double.read x = .number s m p) :
    s = (x / 2^63 % 2 == 1) ∧ x / 2^52 % 2^11 ≠ 2047 ∧ ((x / 2^52 % 2^11 = 0 ∧ m = x % 2^52 ∧ p = -1074) ∨ (x / 2^52 % 2^11 ≠ 0 ∧ m = 2^52 + x % 2^52 ∧ p = -1074 + (x / 2^52 % 2^11 : Nat) - 1)) := by
  have e1 : x % 2^63 / 2^52 = x / 2^52 % 2^11 := by omega
  have e2 : x % 2^63 % 2^52 = x % 2^52 := by omega
  rw [read_eq] at h
  by_cases h1 : x % 2^63 < 2^52
  · rw [if_pos h1] at h
    cases h
    exact ⟨rfl, by omega, .inl ⟨by omega, by omega, rfl⟩⟩
  · rw [if_neg h1] at h
    by_cases h2 : x % 2^63 < 2047 * 2^52
    · rw [if_pos h2] at h
      cases h
      exact ⟨rfl, by omega, .inr ⟨by omega, by omega, by omega⟩⟩
    · rw [if_neg h2] at h
      by_cases h3 : x % 2^63 = 2047 * 2^52
      · rw [if_pos h3] at h; cases h
      · rw [if_neg h3] at h; cases h
theorem sizeF {x : Nat} (hx : x < 2^64) {s : Bool} {m : Nat} {p : Int} (h : Ieee.double.read x = .number s m p) :
    PFnNearWhole.spec_Format_Size.f 53 52 (-1074) 2047 9223372036854775808 (x : Int) = some ((m : Int), p) := by
  obtain ⟨_, _, hk⟩ := read_finite h
  unfold PFnNearWhole.spec_Format_Size.f
  rw [expF x hx, fracF x hx]
  simp only [Option.bind_some]
  rcases hk with ⟨h1, rfl, rfl⟩ | ⟨h1, rfl, rfl⟩
  · rw [if_pos (by omega)]
  · rw [if_neg (by omega), if_pos (by decide)]
    have e0 : shl .u64 1 52 = ((2^52 : Nat) : Int) := by decide
    have e1 : Go.bits .or .u64 (shl .u64 1 52) ((x % 2^52 : Nat) : Int) = ((2^52 + x % 2^52 : Nat) : Int) := by
      rw [e0, u64_or _ _ (by omega) (by omega) (by omega) (by omega), Int.toNat_natCast, Int.toNat_natCast]
      have := Nat.two_pow_add_eq_or_of_lt (i := 52) (b := x % 2^52) (Nat.mod_lt _ (by decide)) 1
      rw [Nat.mul_one] at this
      rw [this]
    have e2 : wrap64 ((x / 2^52 % 2^11 : Nat) : Int) = ((x / 2^52 % 2^11 : Nat) : Int) := w64 (by omega) (by omega)
    have e3 : wrap64 (-1074 + ((x / 2^52 % 2^11 : Nat) : Int)) = -1074 + ((x / 2^52 % 2^11 : Nat) : Int) := w64 (by omega) (by omega)
    have e4 : wrap64 (-1074 + ((x / 2^52 % 2^11 : Nat) : Int) - 1) = -1074 + ((x / 2^52 % 2^11 : Nat) : Int) - 1 := w64 (by omega) (by omega)
    rw [e1, e2, e3, e4]
theorem negF {x : Nat} (hx : x < 2^64) {s : Bool} {m : Nat} {p : Int} (h : Ieee.double.read x = .number s m p) :
    (Go.bits .and .u64 (x : Int) 9223372036854775808 != 0) = s := by
  obtain ⟨hs, _, _⟩ := read_finite h
  have e : Go.bits .and .u64 (x : Int) 9223372036854775808 = ((x &&& 2^63 : Nat) : Int) := by
    rw [u64_and _ _ (by omega) (by omega) (by omega) (by omega), Int.toNat_natCast]; rfl
  have e2 : x &&& 2^63 = 2^63 * (x / 2^63 % 2) := by
    have d1 : (x &&& 2^63) / 2^63 = x / 2^63 % 2 := by
      rw [Nat.and_div_two_pow, show 2^63 / 2^63 = 2^1 - 1 from rfl, Nat.and_two_pow_sub_one_eq_mod]
    have d2 : (x &&& 2^63) % 2^63 = 0 := by
      rw [Nat.and_mod_two_pow, Nat.mod_self, Nat.and_zero]
    omega
  rw [e, e2, hs]
  by_cases h1 : x / 2^63 % 2 = 1
  · rw [h1]; decide
  · have : x / 2^63 % 2 = 0 := by omega
    rw [this]; decide
theorem finiteF {x : Nat} (hx : x < 2^64) {s : Bool} {m : Nat} {p : Int} (h : Ieee.double.read x = .number s m p) :
    PFnNearWhole.spec_Format_Finite.f 53 52 (-1074) 2047 9223372036854775808 (x : Int) = some true := by
  obtain ⟨_, hk, _⟩ := read_finite h
  unfold PFnNearWhole.spec_Format_Finite.f
  rw [expF x hx]
  simp only [Option.bind_some]
  congr 1
  exact bne_iff_ne.2 (by omega)
/-- IsZero of a finite word: is its number 0? -/
theorem isZeroF {x : Nat} (hx : x < 2^64) {s : Bool} {m : Nat} {p : Int} (h : Ieee.double.read x = .number s m p) :
    PFnNearWhole.spec_Format_IsZero.f 53 52 (-1074) 2047 9223372036854775808 (x : Int) = some (decide (m = 0)) := by
  obtain ⟨_, _, hk⟩ := read_finite h
  unfold PFnNearWhole.spec_Format_IsZero.f
  rw [expF x hx, fracF x hx]
  simp only [Option.bind_some]
  rcases hk with ⟨h1, rfl, _⟩ | ⟨h1, rfl, _⟩
  · rw [if_pos (by omega)]
    congr 1
    by_cases h0 : x % 2^52 = 0
    · rw [h0]; rfl
    · rw [decide_eq_false h0]
      exact beq_eq_false_iff_ne.2 (by omega)
  · rw [if_neg (by omega), decide_eq_false (by omega)]

/-- Near: a word of a number that is 0 or of a size from 2^-100 to 2^100. -/
theorem nearF (x : Nat) (hx : x < 2^64) : ∃ y : Nat, PFnNearWhole.spec_Near.f (x : Int) = some (y : Int) ∧ y < 2^64 ∧ ∃ q, Has y q ∧ In 100 100 q := by
  unfold PFnNearWhole.spec_Near.f
  have et : Int.tmod (x : Int) 29 = ((x % 29 : Nat) : Int) := by rw [Int.tmod_eq_emod_of_nonneg (by omega)]; omega
  rw [et]
  by_cases h0 : x % 29 = 0
  · rw [if_pos (by omega)]
    have e : Go.bits .and .u64 (x : Int) 9223372036854775808 = ((x &&& 2^63 : Nat) : Int) := by
      rw [u64_and _ _ (by omega) (by omega) (by omega) (by omega), Int.toNat_natCast]; rfl
    have e2 : x &&& 2^63 = 2^63 * (x / 2^63 % 2) := by
      have d1 : (x &&& 2^63) / 2^63 = x / 2^63 % 2 := by
        rw [Nat.and_div_two_pow, show 2^63 / 2^63 = 2^1 - 1 from rfl, Nat.and_two_pow_sub_one_eq_mod]
      have d2 : (x &&& 2^63) % 2^63 = 0 := by
        rw [Nat.and_mod_two_pow, Nat.mod_self, Nat.and_zero]
      omega
    rw [e, e2]
    have ez : ∀ t : Bool, (0:Rat) = sg t * (((0:Nat):Rat) * 2^(-1074:Int)) := fun t => by
      rw [show ((0:Nat):Rat) = 0 from rfl, Rat.zero_mul, Rat.mul_zero]
    refine ⟨_, rfl, by omega, 0, ⟨x / 2^63 % 2 == 1, 0, -1074, ?_, ez _⟩, .inl rfl⟩
    rw [read_eq]
    have d3 : 2^63 * (x / 2^63 % 2) % 2^63 = 0 := by omega
    have d4 : 2^63 * (x / 2^63 % 2) / 2^63 % 2 = x / 2^63 % 2 := by omega
    rw [d3, d4, if_pos (by decide)]
  · rw [if_neg (by omega)]
    -- the exponent
    obtain ⟨E, hE⟩ : ∃ E : Nat, E = 923 + x / 2^52 % 2^11 % 200 := ⟨_, rfl⟩
    have hE1 : 923 ≤ E ∧ E ≤ 1122 := by omega
    have hc : 923 + ((x / 2^52 % 2^11 % 200 : Nat) : Int) = (E : Int) := by omega
    have b1 : (E : Int) < 18446744073709551616 := by omega
    have b2 : (E : Int) * 4503599627370496 < 18446744073709551616 := by omega
    have b3 : (0 : Int) ≤ (E : Int) * 4503599627370496 := by omega
    have b4 : (E : Int) * 4503599627370496 = ((E * 2^52 : Nat) : Int) := by omega
    have eT : Int.tmod ((x / 2^52 % 2^11 : Nat) : Int) 200 = ((x / 2^52 % 2^11 % 200 : Nat) : Int) := by rw [Int.tmod_eq_emod_of_nonneg (by omega)]; omega
    -- the sign and the fraction
    have eA : Go.bits .and .u64 (x : Int) 9227875636482146303 = ((2^63 * (x / 2^63 % 2) + x % 2^52 : Nat) : Int) := by
      rw [u64_and _ _ (by omega) (by omega) (by omega) (by omega), Int.toNat_natCast]
      have d1 : (x &&& (9227875636482146303 : Int).toNat) / 2^63 = x / 2^63 % 2 := by
        rw [Nat.and_div_two_pow, show (9227875636482146303 : Int).toNat / 2^63 = 2^1 - 1 from rfl, Nat.and_two_pow_sub_one_eq_mod]
      have d2 : (x &&& (9227875636482146303 : Int).toNat) % 2^63 = x % 2^52 := by
        rw [Nat.and_mod_two_pow, show (9227875636482146303 : Int).toNat % 2^63 = 2^52 - 1 from rfl, Nat.and_two_pow_sub_one_eq_mod]; omega
      omega
    have eS : Go.bits .and .u64 ((x : Int) / 4503599627370496) 2047 = ((x / 2^52 % 2^11 : Nat) : Int) := by
      have a1 : (x : Int) / 4503599627370496 = ((x / 2^52 : Nat) : Int) := by omega
      have a2 : x / 2^52 < 2^64 := by omega
      rw [a1, show (2047 : Int) = ((2^11 - 1 : Nat) : Int) from rfl]
      exact and_mask (x / 2^52) a2 11 (by decide)
    have eW : IntKind.u64.wrap (923 + ((x / 2^52 % 2^11 % 200 : Nat) : Int)) = (E : Int) := by rw [hc]; exact u64w (Int.natCast_nonneg E) b1
    have eX : IntKind.u64.wrap ((E : Int) * 4503599627370496) = ((E * 2^52 : Nat) : Int) := by rw [u64w b3 b2]; exact b4
    rw [eA, eS, eT, eW, eX]
    clear eA eS eT eW eX
    obtain ⟨t, ht⟩ : ∃ t : Nat, t = x / 2^63 % 2 := ⟨_, rfl⟩
    obtain ⟨f, hf⟩ : ∃ f : Nat, f = x % 2^52 := ⟨_, rfl⟩
    rw [← ht, ← hf]
    have ht1 : t < 2 := by omega
    have hf1 : f < 2^52 := by omega
    have eO : Go.bits .or .u64 ((2^63 * t + f : Nat) : Int) ((E * 2^52 : Nat) : Int) = ((2^63 * t + (E * 2^52 + f) : Nat) : Int) := by
      rw [u64_or _ _ (by omega) (by omega) (by omega) (by omega), Int.toNat_natCast, Int.toNat_natCast]
      have d1 : ((2^63 * t + f) ||| (E * 2^52)) / 2^63 = t := by
        rw [Nat.or_div_two_pow]
        have a1 : (2^63 * t + f) / 2^63 = t := by omega
        have a2 : E * 2^52 / 2^63 = 0 := by omega
        rw [a1, a2, Nat.or_zero]
      have d2 : ((2^63 * t + f) ||| (E * 2^52)) % 2^63 = E * 2^52 + f := by
        rw [Nat.or_mod_two_pow]
        have a1 : (2^63 * t + f) % 2^63 = f := by omega
        have a2 : E * 2^52 % 2^63 = E * 2^52 := by omega
        rw [a1, a2, Nat.or_comm, Nat.mul_comm E, ← Nat.two_pow_add_eq_or_of_lt hf1 E]
      omega
    rw [eO]
    refine ⟨_, rfl, by omega, _, ⟨t == 1, 2^52 + f, -1074 + (E : Nat) - 1, ?_, rfl⟩, .inr ?_⟩
    · rw [read_eq]
      have d3 : (2^63 * t + (E * 2^52 + f)) % 2^63 = E * 2^52 + f := by omega
      have d4 : (2^63 * t + (E * 2^52 + f)) / 2^63 % 2 = t := by omega
      have d5 : (E * 2^52 + f) / 2^52 = E := by omega
      have d6 : (E * 2^52 + f) % 2^52 = f := by omega
      rw [d3, d4, d5, d6, if_neg (by omega), if_pos (by omega), show -1074 + ((E - 1 : Nat) : Int) = -1074 + (E : Int) - 1 by omega]
    · rw [ab_sg, ab_of_pos (Rat.mul_nonneg Rat.natCast_nonneg (Rat.le_of_lt (pw_pos _)))]
      have hp := pw_pos (-1074 + (E : Int) - 1)
      have h1 : ((2^52 : Nat) : Rat) ≤ ((2^52 + f : Nat) : Rat) := Rat.natCast_le_natCast.2 (by omega)
      have h2 : ((2^52 + f : Nat) : Rat) ≤ ((2^53 : Nat) : Rat) := Rat.natCast_le_natCast.2 (by omega)
      rw [← pw_nat] at h1 h2
      have k1 := Rat.mul_le_mul_of_nonneg_right h1 (Rat.le_of_lt hp)
      have k2 := Rat.mul_le_mul_of_nonneg_right h2 (Rat.le_of_lt hp)
      rw [← pw_add] at k1 k2
      exact ⟨Rat.le_trans (pw_le (by omega)) k1, Rat.le_trans k2 (pw_le (by omega))⟩
end Go.Proofs.Ytbadlnbpoabdeaa.Dn
