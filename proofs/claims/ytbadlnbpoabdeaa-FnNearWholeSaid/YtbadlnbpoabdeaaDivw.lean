/-
  THE WALKS of the division: float64frombits, float64bits, abs, isNaN, complex128div (its main road), Div, impl.Div: what each call gives, as words.
-/
import Derived.Test.YtbadlnbpoabdeaaProg
import Derived.Test.YtbadlnbpoabdeaaFloat
import Derived.WalkKit
import Derived.WalkSpells
import Derived.WalkLawsBesides
namespace Go.Proofs.Ytbadlnbpoabdeaa
open Go.RowKit

theorem call8 (n : Int) (w : World) : (callFunc 8 #[.int .u64 n]).run Try.prog w = .ok (.value (.float .f64 n.toNat)) w := by
  rw [run_callFunc_extern Try.func8 (by kernel_rfl) (by kernel_rfl) (by kernel_rfl) (e := Extern.MathFloatBits.float64frombits) (by kernel_rfl)]
  rfl
theorem call10 (b : Nat) (w : World) : (callFunc 10 #[.float .f64 b]).run Try.prog w = .ok (.value (.int .u64 b)) w := by
  rw [run_callFunc_extern Try.func10 (by kernel_rfl) (by kernel_rfl) (by kernel_rfl) (e := Extern.MathFloatBits.float64bits) (by kernel_rfl)]
  rfl

theorem frombits_any (n : Int) (w : World) : Calls Try.prog 38 #[.int .u64 n] w fun e w' => e = .returned (.float .f64 n.toNat) ∧ w = w' := by
  have h8 := call8
  go_enter Try.func38, Try.ntmps38
  go_wp2
  go_ret
  exact ⟨rfl, rfl⟩
theorem bits_any (b : Nat) (w : World) : Calls Try.prog 39 #[.float .f64 b] w fun e w' => e = .returned (.int .u64 b) ∧ w = w' := by
  have h10 := call10
  go_enter Try.func39, Try.ntmps39
  go_wp2
  go_ret
  exact ⟨rfl, rfl⟩
theorem bits_abs (b : Nat) (hb : b < 18446744073709551616) : (bits .andNot .u64 (b : Int) 9223372036854775808).toNat = b % 2^63 := by
  rw [u64_andNot _ _ (by omega) (by omega) (by omega) (by omega)]
  rw [Int.toNat_natCast, Int.toNat_natCast]
  rw [show 18446744073709551615 - (9223372036854775808 : Int).toNat = 2^63 - 1 from rfl, Nat.and_two_pow_sub_one_eq_mod]
theorem ret_float {a b : Nat} (h : a = b) : Ending.returned (.float .f64 a) = .returned (.float .f64 b) := by rw [h]
theorem abs_any (b : Nat) (hb : b < 18446744073709551616) (w : World) : Calls Try.prog 31 #[.float .f64 b] w fun e w' => e = .returned (.float .f64 (b % 2^63)) ∧ w = w' := by
  go_enter Try.func31, Try.ntmps31
  go_wp2_with (first | (go_at_call 38; refine (frombits_any _ _).mono ?_; rintro e w' ⟨rfl, rfl⟩) | (go_at_call 39; refine (bits_any _ _).mono ?_; rintro e w' ⟨rfl, rfl⟩))
  go_ret
  exact ⟨ret_float (bits_abs b hb), rfl⟩
theorem isNaN_not (b : Nat) (hb : (FloatKind.f64.format.order b b != some .eq) = false) (w : World) : Calls Try.prog 32 #[.float .f64 b] w fun e w' => e = .returned (.bool false) ∧ w = w' := by
  go_enter Try.func32, Try.ntmps32
  go_wp2
  go_ret
  exact ⟨rfl, rfl⟩

set_option maxHeartbeats 1000000 in
set_option maxRecDepth 100000 in
theorem quo_ge (a b c d ratio rd denom br n1 e ar n2 f : Nat) (w : World) (hc : c < 18446744073709551616) (hd : d < 18446744073709551616)
    (hge : (FloatKind.f64.format.order (c % 2^63) (d % 2^63) == some .gt || FloatKind.f64.format.order (c % 2^63) (d % 2^63) == some .eq) = true)
    (h1 : floatBits .quo .f64 d c = some ratio) (h2 : floatBits .mul .f64 ratio d = some rd) (h3 : floatBits .add .f64 c rd = some denom)
    (h4 : floatBits .mul .f64 b ratio = some br) (h5 : floatBits .add .f64 a br = some n1) (h6 : floatBits .quo .f64 n1 denom = some e)
    (h7 : floatBits .mul .f64 a ratio = some ar) (h8 : floatBits .sub .f64 b ar = some n2) (h9 : floatBits .quo .f64 n2 denom = some f)
    (hn : (FloatKind.f64.format.order e e != some .eq) = false) :
    Calls Try.prog 22 #[.complex .f64 a b, .complex .f64 c d] w fun e' w' => e' = .returned (.complex .f64 e f) ∧ w = w' := by
  have r1 := fun w => run_float_arith (P := Try.prog) w .quo 28 .f64 _ _ _ h1
  have r2 := fun w => run_float_arith (P := Try.prog) w .mul 28 .f64 _ _ _ h2
  have r3 := fun w => run_float_arith (P := Try.prog) w .add 28 .f64 _ _ _ h3
  have r4 := fun w => run_float_arith (P := Try.prog) w .mul 28 .f64 _ _ _ h4
  have r5 := fun w => run_float_arith (P := Try.prog) w .add 28 .f64 _ _ _ h5
  have r6 := fun w => run_float_arith (P := Try.prog) w .quo 28 .f64 _ _ _ h6
  have r7 := fun w => run_float_arith (P := Try.prog) w .mul 28 .f64 _ _ _ h7
  have r8 := fun w => run_float_arith (P := Try.prog) w .sub 28 .f64 _ _ _ h8
  have r9 := fun w => run_float_arith (P := Try.prog) w .quo 28 .f64 _ _ _ h9
  clear h1 h2 h3 h4 h5 h6 h7 h8 h9
  go_enter Try.func22, Try.ntmps22
  go_wp2_with (first | (go_at_call 31; refine (abs_any _ (by assumption) _).mono ?_; rintro e w' ⟨rfl, rfl⟩) | (go_at_call 32; refine (isNaN_not _ (by assumption) _).mono ?_; rintro e w' ⟨rfl, rfl⟩))
  go_ret
  exact ⟨rfl, rfl⟩

set_option maxHeartbeats 1000000 in
set_option maxRecDepth 100000 in
theorem quo_lt (a b c d ratio rc denom ar n1 e br n2 f : Nat) (w : World) (hc : c < 18446744073709551616) (hd : d < 18446744073709551616)
    (hge : (FloatKind.f64.format.order (c % 2^63) (d % 2^63) == some .gt || FloatKind.f64.format.order (c % 2^63) (d % 2^63) == some .eq) = false)
    (h1 : floatBits .quo .f64 c d = some ratio) (h2 : floatBits .mul .f64 ratio c = some rc) (h3 : floatBits .add .f64 d rc = some denom)
    (h4 : floatBits .mul .f64 a ratio = some ar) (h5 : floatBits .add .f64 ar b = some n1) (h6 : floatBits .quo .f64 n1 denom = some e)
    (h7 : floatBits .mul .f64 b ratio = some br) (h8 : floatBits .sub .f64 br a = some n2) (h9 : floatBits .quo .f64 n2 denom = some f)
    (hn : (FloatKind.f64.format.order e e != some .eq) = false) :
    Calls Try.prog 22 #[.complex .f64 a b, .complex .f64 c d] w fun e' w' => e' = .returned (.complex .f64 e f) ∧ w = w' := by
  have r1 := fun w => run_float_arith (P := Try.prog) w .quo 28 .f64 _ _ _ h1
  have r2 := fun w => run_float_arith (P := Try.prog) w .mul 28 .f64 _ _ _ h2
  have r3 := fun w => run_float_arith (P := Try.prog) w .add 28 .f64 _ _ _ h3
  have r4 := fun w => run_float_arith (P := Try.prog) w .mul 28 .f64 _ _ _ h4
  have r5 := fun w => run_float_arith (P := Try.prog) w .add 28 .f64 _ _ _ h5
  have r6 := fun w => run_float_arith (P := Try.prog) w .quo 28 .f64 _ _ _ h6
  have r7 := fun w => run_float_arith (P := Try.prog) w .mul 28 .f64 _ _ _ h7
  have r8 := fun w => run_float_arith (P := Try.prog) w .sub 28 .f64 _ _ _ h8
  have r9 := fun w => run_float_arith (P := Try.prog) w .quo 28 .f64 _ _ _ h9
  clear h1 h2 h3 h4 h5 h6 h7 h8 h9
  go_enter Try.func22, Try.ntmps22
  go_wp2_with (first | (go_at_call 31; refine (abs_any _ (by assumption) _).mono ?_; rintro e w' ⟨rfl, rfl⟩) | (go_at_call 32; refine (isNaN_not _ (by assumption) _).mono ?_; rintro e w' ⟨rfl, rfl⟩))
  go_ret
  exact ⟨rfl, rfl⟩

/-- impl.Div, whatever the division of complex numbers gives there. -/
theorem implDiv_of (a b c d e f : Nat) (w : World)
    (h : ∀ w : World, Calls Try.prog 22 #[.complex .f64 a b, .complex .f64 c d] w fun e' w' => e' = .returned (.complex .f64 e f) ∧ w = w') :
    Calls Try.prog 7 #[.float .f64 a, .float .f64 b, .float .f64 c, .float .f64 d] w fun e' w' => e' = .returned (.tuple #[.float .f64 e, .float .f64 f]) ∧ w = w' := by
  have h13 : ∀ w : World, Calls Try.prog 13 #[.complex .f64 a b, .complex .f64 c d] w fun e' w' => e' = .returned (.complex .f64 e f) ∧ w = w' := by
    intro w
    have H : Hid (∀ w : World, Calls Try.prog 22 #[.complex .f64 a b, .complex .f64 c d] w fun e' w' => e' = .returned (.complex .f64 e f) ∧ w = w') := h
    clear h
    go_enter Try.func13, Try.ntmps13
    go_wp2_with (go_at_call 22; refine (H.out _).mono ?_; rintro e w' ⟨rfl, rfl⟩)
    go_ret
    exact ⟨rfl, rfl⟩
  clear h
  have H : Hid (∀ w : World, Calls Try.prog 13 #[.complex .f64 a b, .complex .f64 c d] w fun e' w' => e' = .returned (.complex .f64 e f) ∧ w = w') := h13
  clear h13
  go_enter Try.func7, Try.ntmps7
  go_wp2_with (go_at_call 13; refine (H.out _).mono ?_; rintro e w' ⟨rfl, rfl⟩)
  go_ret2
  exact ⟨rfl, rfl⟩

section
open Qn
theorem Has_abs {c : Nat} {q : Rat} (h : Has c q) : Has (c % 2^63) (ab q) := by
  obtain ⟨s, m, p, hr, rfl⟩ := h
  refine ⟨false, m, p, ?_, ?_⟩
  · rw [read_eq] at hr ⊢
    have e1 : c % 2^63 % 2^63 = c % 2^63 := by omega
    have e2 : (c % 2^63 / 2^63 % 2 == 1) = false := by
      have : c % 2^63 / 2^63 = 0 := Nat.div_eq_of_lt (Nat.mod_lt _ (by omega))
      rw [this]; rfl
    rw [e1, e2]
    by_cases h1 : c % 2^63 < 2^52
    · rw [if_pos h1] at hr ⊢
      cases hr; rfl
    · rw [if_neg h1] at hr ⊢
      by_cases h2 : c % 2^63 < 2047 * 2^52
      · rw [if_pos h2] at hr ⊢
        cases hr; rfl
      · rw [if_neg h2] at hr
        by_cases h3 : c % 2^63 = 2047 * 2^52
        · rw [if_pos h3] at hr; cases hr
        · rw [if_neg h3] at hr; cases hr
  · rw [ab_sg, ab_of_pos (Rat.mul_nonneg Rat.natCast_nonneg (Rat.le_of_lt (pw_pos _)))]
    exact (Rat.one_mul _).symm

/-- impl.Div at numbers of the range, the divisor not 0: it answers words that are near enough. -/
theorem implDiv_good {a b c d : Nat} {qa qb qc qd : Rat} (ha : Has a qa) (hb : Has b qb) (hc : Has c qc) (hd : Has d qd)
    (ia : In 100 100 qa) (ib : In 100 100 qb) (ic : In 100 100 qc) (id : In 100 100 qd) (h0 : qc ≠ 0 ∨ qd ≠ 0) (lc : c < 18446744073709551616) (ld : d < 18446744073709551616) :
    ∃ e f, Qn.Good qa qb qc qd e f ∧ e < 2^64 ∧ f < 2^64 ∧ ∀ w, Calls Try.prog 7 #[.float .f64 a, .float .f64 b, .float .f64 c, .float .f64 d] w fun e' w' => e' = .returned (.tuple #[.float .f64 e, .float .f64 f]) ∧ w = w' := by
  have hord := (Has_abs hc).order (Has_abs hd)
  have ord : FloatKind.f64.format.order (c % 2^63) (d % 2^63) = _ := hord
  have nan : ∀ (e f : Nat), Qn.Good qa qb qc qd e f → (FloatKind.f64.format.order e e != some .eq) = false := by
    rintro e f ⟨p, q, hp, _⟩
    have := hp.order hp
    have h : FloatKind.f64.format.order e e = _ := this
    rw [h, if_neg Rat.lt_irrefl, if_pos rfl]
    rfl
  by_cases hge : ab qd ≤ ab qc
  · have hc0 : qc ≠ 0 := by
      rintro rfl
      rw [ab_zero] at hge
      have hz := ab_nonneg qd
      have := ab_eq_zero (Rat.le_antisymm hge hz)
      rcases h0 with h | h
      · exact h rfl
      · exact h this
    obtain ⟨ratio, rd, denom, br, n1, e, ar, n2, f, o1, o2, o3, o4, o5, o6, o7, o8, o9, hg⟩ := div_ge ha hb hc hd ia ib ic id hc0 hge
    refine ⟨e, f, hg, Ieee.double.div_lt o6, Ieee.double.div_lt o9, fun w => implDiv_of a b c d e f w (fun w => quo_ge a b c d ratio rd denom br n1 e ar n2 f w lc ld ?_ o1 o2 o3 o4 o5 o6 o7 o8 o9 (nan e f hg))⟩
    rw [ord]
    rw [if_neg (Rat.not_lt.2 hge)]
    split <;> rfl
  · have hd0 : qd ≠ 0 := by
      rintro rfl
      rw [ab_zero] at hge
      exact hge (ab_nonneg qc)
    have hle : ab qc ≤ ab qd := Rat.le_of_lt (Rat.not_le.1 hge)
    obtain ⟨ratio, rc, denom, ar, n1, e, br, n2, f, o1, o2, o3, o4, o5, o6, o7, o8, o9, hg⟩ := div_lt ha hb hc hd ia ib ic id hd0 hle
    refine ⟨e, f, hg, Ieee.double.div_lt o6, Ieee.double.div_lt o9, fun w => implDiv_of a b c d e f w (fun w => quo_lt a b c d ratio rc denom ar n1 e br n2 f w lc ld ?_ o1 o2 o3 o4 o5 o6 o7 o8 o9 (nan e f hg))⟩
    rw [ord]
    rw [if_pos (Rat.not_le.1 hge)]
    rfl
end
end Go.Proofs.Ytbadlnbpoabdeaa
