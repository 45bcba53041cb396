/-
  THE WALK of the law FnNearWhole: for every input it answers true.
-/
import Derived.Test.YtbadlnbpoabdeaaClosew
import Derived.Test.YtbadlnbpoabdeaaDivw
namespace Go.Proofs.Ytbadlnbpoabdeaa
open Go.RowKit Go.Proofs.YtbadlnbpoabdeaaW.PrintWords Go.Proofs.YtbadlnbpoabdeaaW.PrintLast Go.Proofs.YtbadlnbpoabdeaaW.PrintMore
open Dn Qn

theorem near_any (a : Nat) (ha : a < 2^64) : ∃ y : Nat, y < 2^64 ∧ (∃ q, Has y q ∧ In 100 100 q) ∧ ∀ w, Calls Try.prog 4 #[.int .u64 (a : Int)] w fun e w' => e = .returned (.int .u64 (y : Int)) ∧ ∃ n, w' = w.drewN n := by
  obtain ⟨y, h1, h2, h3⟩ := nearF a ha
  refine ⟨y, h2, h3, fun w => (PFnNearWhole.spec_Near.calls (a : Int) (y : Int) w h1).mono ?_⟩
  rintro e w' ⟨rfl, ⟨h⟩⟩
  exact ⟨rfl, h⟩
theorem has_zero {s : Bool} {m : Nat} {p : Int} : sg s * ((m:Rat) * 2^p) = 0 ↔ m = 0 := by
  constructor
  · intro h
    have hab := ab_sg s ((m:Rat) * 2^p)
    rw [h, ab_zero] at hab
    have h2 := ab_eq_zero hab.symm
    rcases Rat.mul_eq_zero.1 h2 with h3 | h3
    · exact Rat.natCast_eq_zero_iff.1 h3
    · have := pw_pos p
      rw [h3] at this
      exact absurd this (by decide)
  · rintro rfl
    rw [show ((0:Nat):Rat) = 0 from rfl, Rat.zero_mul, Rat.mul_zero]
theorem isZero_any {x : Nat} (hx : x < 2^64) {q : Rat} (hq : Has x q) (b : Bool) (hb : b = true ↔ q = 0) (w : World) :
    Calls Try.prog 6 #[.agg #[.int .i64 53, .int .i64 52, .int .i64 (-1074), .int .u64 2047, .int .u64 9223372036854775808], .int .u64 (x : Int)] w fun e w' => e = .returned (.bool b) ∧ Below w.heap.size w w' := by
  obtain ⟨s, m, p, hr, rfl⟩ := hq
  have hz := isZeroF hx hr
  have e : decide (m = 0) = b := by
    rw [Bool.eq_iff_iff, decide_eq_true_iff, hb, has_zero]
  rw [e] at hz
  exact PFnNearWhole.spec_Format_IsZero.calls 53 52 (-1074) 2047 9223372036854775808 (x : Int) b w hz

/-- The bound, in whole numbers. -/
theorem good_ints {qa qb qc qd p q : Rat} (h : ((p*qc - q*qd - qa)*(p*qc - q*qd - qa) + (p*qd + q*qc - qb)*(p*qd + q*qc - qb)) * 79228162514264337593543950336 ≤ qa*qa + qb*qb)
    {P Q R S U V : Int} (hP : (P:Rat) = p * 2^(700:Int)) (hQ : (Q:Rat) = q * 2^(700:Int)) (hR : (R:Rat) = qc * 2^(200:Int)) (hS : (S:Rat) = qd * 2^(200:Int)) (hU : (U:Rat) = qa * 2^(900:Int)) (hV : (V:Rat) = qb * 2^(900:Int)) :
    ((P*R + -(Q*S) + -U)*(P*R + -(Q*S) + -U) + (P*S + Q*R + -V)*(P*S + Q*R + -V)) * 2^96 ≤ U*U + V*V := by
  have e9 : (2:Rat)^(900:Int) = 2^(700:Int) * 2^(200:Int) := by rw [← pw_add]; rfl
  have e96 : ((2^96 : Int) : Rat) = 79228162514264337593543950336 := rfl
  apply Rat.intCast_le_intCast.1
  simp only [Rat.intCast_mul, Rat.intCast_add, Rat.intCast_neg]
  rw [e96, hP, hQ, hR, hS, hU, hV, e9]
  have h7 := pw_pos 700
  have h2 := pw_pos 200
  generalize (2:Rat)^(700:Int) = s at *
  generalize (2:Rat)^(200:Int) = t at *
  have hst : 0 ≤ (s*t)*(s*t) := Rat.mul_nonneg (Rat.mul_nonneg (Rat.le_of_lt h7) (Rat.le_of_lt h2)) (Rat.mul_nonneg (Rat.le_of_lt h7) (Rat.le_of_lt h2))
  have k := Rat.mul_le_mul_of_nonneg_left h hst
  have l1 : (p * s * (qc * t) + -(q * s * (qd * t)) + -(qa * (s * t))) * (p * s * (qc * t) + -(q * s * (qd * t)) + -(qa * (s * t))) + (p * s * (qd * t) + q * s * (qc * t) + -(qb * (s * t))) * (p * s * (qd * t) + q * s * (qc * t) + -(qb * (s * t)))
      = (s*t)*(s*t) * ((p*qc - q*qd - qa)*(p*qc - q*qd - qa) + (p*qd + q*qc - qb)*(p*qd + q*qc - qb)) := by grind
  have l2 : qa * (s * t) * (qa * (s * t)) + qb * (s * t) * (qb * (s * t)) = (s*t)*(s*t) * (qa*qa + qb*qb) := by grind
  rw [l1, l2, Rat.mul_assoc]
  exact k

/-- Closely at a good quotient. -/
theorem closely_good {a b c d e f : Nat} {qa qb qc qd : Rat} (ha : Has a qa) (hb : Has b qb) (hc : Has c qc) (hd : Has d qd) (ia : In 100 100 qa) (ib : In 100 100 qb) (ic : In 100 100 qc) (id : In 100 100 qd)
    (la : a < 2^64) (lb : b < 2^64) (lc : c < 2^64) (ld : d < 2^64) (le : e < 2^64) (lf : f < 2^64) (hg : Qn.Good qa qb qc qd e f) (w : World) :
    Calls Try.prog 9 #[.int .u64 (a : Int), .int .u64 (b : Int), .int .u64 (c : Int), .int .u64 (d : Int), .int .u64 (e : Int), .int .u64 (f : Int)] w fun e w' => e = .returned (.bool true) ∧ Below w.heap.size w w' := by
  obtain ⟨p, q, hp, hq, ip, iq, hle⟩ := hg
  obtain ⟨P, eP, cP⟩ := intOf_any le hp ip 700 (by decide) (by decide)
  obtain ⟨Q, eQ, cQ⟩ := intOf_any lf hq iq 700 (by decide) (by decide)
  obtain ⟨R, eR, cR⟩ := intOf_any lc hc ic 200 (by decide) (by decide)
  obtain ⟨S, eS, cS⟩ := intOf_any ld hd id 200 (by decide) (by decide)
  obtain ⟨U, eU, cU⟩ := intOf_any la ha ia 900 (by decide) (by decide)
  obtain ⟨V, eV, cV⟩ := intOf_any lb hb ib 900 (by decide) (by decide)
  obtain ⟨s1, m1, p1, r1, _⟩ := hp
  obtain ⟨s2, m2, p2, r2, _⟩ := hq
  exact closely_walk a b c d e f P Q R S U V w (finite_any le r1) (finite_any lf r2) cP cQ cR cS cU cV (good_ints hle eP eQ eR eS eU eV)

set_option maxHeartbeats 1000000 in
set_option maxRecDepth 100000 in
/-- The divisor 0: it answers true at once. -/
theorem law_zero (a b c d ya yb yc yd : Nat) (w : World)
    (na : ∀ w, Calls Try.prog 4 #[.int .u64 (a : Int)] w fun e w' => e = .returned (.int .u64 (ya : Int)) ∧ ∃ n, w' = w.drewN n)
    (nb : ∀ w, Calls Try.prog 4 #[.int .u64 (b : Int)] w fun e w' => e = .returned (.int .u64 (yb : Int)) ∧ ∃ n, w' = w.drewN n)
    (nc : ∀ w, Calls Try.prog 4 #[.int .u64 (c : Int)] w fun e w' => e = .returned (.int .u64 (yc : Int)) ∧ ∃ n, w' = w.drewN n)
    (nd : ∀ w, Calls Try.prog 4 #[.int .u64 (d : Int)] w fun e w' => e = .returned (.int .u64 (yd : Int)) ∧ ∃ n, w' = w.drewN n)
    (zc : ∀ w, Calls Try.prog 6 #[.agg #[.int .i64 53, .int .i64 52, .int .i64 (-1074), .int .u64 2047, .int .u64 9223372036854775808], .int .u64 (yc : Int)] w fun e w' => e = .returned (.bool true) ∧ Below w.heap.size w w')
    (zd : ∀ w, Calls Try.prog 6 #[.agg #[.int .i64 53, .int .i64 52, .int .i64 (-1074), .int .u64 2047, .int .u64 9223372036854775808], .int .u64 (yd : Int)] w fun e w' => e = .returned (.bool true) ∧ Below w.heap.size w w') :
    Calls Try.prog 3 #[.int .u64 (a : Int), .int .u64 (b : Int), .int .u64 (c : Int), .int .u64 (d : Int)] w fun e w' => e = .returned (.bool true) ∧ Below w.heap.size w w' := by
  have C5 := Aside0.mk double_any
  have NA := Aside0.mk na
  have NB := Aside0.mk nb
  have NC := Aside0.mk nc
  have ND := Aside0.mk nd
  have ZC := Aside0.mk zc
  have ZD := Aside0.mk zd
  clear na nb nc nd zc zd
  go_enter Try.func3, Try.ntmps3
  go_wp2_with (first
    | (go_at_call 4; ((with_reducible refine (NA.out _).mono ?_); rintro e w1 ⟨rfl, n1, rfl⟩))
    | (go_at_call 4; ((with_reducible refine (NB.out _).mono ?_); rintro e w1 ⟨rfl, n2, rfl⟩))
    | (go_at_call 4; ((with_reducible refine (NC.out _).mono ?_); rintro e w1 ⟨rfl, n3, rfl⟩))
    | (go_at_call 4; ((with_reducible refine (ND.out _).mono ?_); rintro e w1 ⟨rfl, n4, rfl⟩))
    | (go_at_call 6; ((with_reducible refine (ZC.out _).mono ?_); rintro e x2 ⟨rfl, hb⟩; have HB2 := Aside0.mk (below_step HB1.out hb); clear HB1 hb))
    | (go_at_call 6; ((with_reducible refine (ZD.out _).mono ?_); rintro e x4 ⟨rfl, hb⟩; have HB4 := Aside0.mk (below_step HB3.out hb); clear HB3 hb))
    | (go_at_call 5; ((with_reducible refine (C5.out _).mono ?_); rintro e x3 ⟨rfl, hb⟩; have HB3 := Aside0.mk (below_step HB2.out hb); clear HB2 hb))
    | (go_at_call 5; ((with_reducible refine (C5.out _).mono ?_); rintro e x1 ⟨rfl, hb⟩; have HB1 : Aside0 (Below w.heap.size w x1) := ⟨below_step (pw_below_drewN (Below.refl _ _) _) hb⟩; clear hb)))
  go_ret
  exact ⟨rfl, HB4.out⟩

set_option maxHeartbeats 1000000 in
set_option maxRecDepth 100000 in
/-- The divisor's first part is not 0. -/
theorem law_first (a b c d ya yb yc yd e f : Nat) (w : World)
    (na : ∀ w, Calls Try.prog 4 #[.int .u64 (a : Int)] w fun e w' => e = .returned (.int .u64 (ya : Int)) ∧ ∃ n, w' = w.drewN n)
    (nb : ∀ w, Calls Try.prog 4 #[.int .u64 (b : Int)] w fun e w' => e = .returned (.int .u64 (yb : Int)) ∧ ∃ n, w' = w.drewN n)
    (nc : ∀ w, Calls Try.prog 4 #[.int .u64 (c : Int)] w fun e w' => e = .returned (.int .u64 (yc : Int)) ∧ ∃ n, w' = w.drewN n)
    (nd : ∀ w, Calls Try.prog 4 #[.int .u64 (d : Int)] w fun e w' => e = .returned (.int .u64 (yd : Int)) ∧ ∃ n, w' = w.drewN n)
    (zc : ∀ w, Calls Try.prog 6 #[.agg #[.int .i64 53, .int .i64 52, .int .i64 (-1074), .int .u64 2047, .int .u64 9223372036854775808], .int .u64 (yc : Int)] w fun e w' => e = .returned (.bool false) ∧ Below w.heap.size w w')
    (dv : ∀ w, Calls Try.prog 7 #[.float .f64 ya, .float .f64 yb, .float .f64 yc, .float .f64 yd] w fun e' w' => e' = .returned (.tuple #[.float .f64 e, .float .f64 f]) ∧ w = w')
    (cl : ∀ w, Calls Try.prog 9 #[.int .u64 (ya : Int), .int .u64 (yb : Int), .int .u64 (yc : Int), .int .u64 (yd : Int), .int .u64 (e : Int), .int .u64 (f : Int)] w fun e' w' => e' = .returned (.bool true) ∧ Below w.heap.size w w') :
    Calls Try.prog 3 #[.int .u64 (a : Int), .int .u64 (b : Int), .int .u64 (c : Int), .int .u64 (d : Int)] w fun e w' => e = .returned (.bool true) ∧ Below w.heap.size w w' := by
  have C5 := Aside0.mk double_any
  have NA := Aside0.mk na
  have NB := Aside0.mk nb
  have NC := Aside0.mk nc
  have ND := Aside0.mk nd
  have ZC := Aside0.mk zc
  have DV := Aside0.mk dv
  have CL := Aside0.mk cl
  have h8 := call8
  have h10 := call10
  clear na nb nc nd zc dv cl
  go_enter Try.func3, Try.ntmps3
  go_wp2_with (first
    | (go_at_call 4; ((with_reducible refine (NA.out _).mono ?_); rintro e w1 ⟨rfl, n1, rfl⟩))
    | (go_at_call 4; ((with_reducible refine (NB.out _).mono ?_); rintro e w1 ⟨rfl, n2, rfl⟩))
    | (go_at_call 4; ((with_reducible refine (NC.out _).mono ?_); rintro e w1 ⟨rfl, n3, rfl⟩))
    | (go_at_call 4; ((with_reducible refine (ND.out _).mono ?_); rintro e w1 ⟨rfl, n4, rfl⟩))
    | (go_at_call 6; ((with_reducible refine (ZC.out _).mono ?_); rintro e x2 ⟨rfl, hb⟩; have HB2 := Aside0.mk (below_step HB1.out hb); clear HB1 hb))
    | (go_at_call 5; ((with_reducible refine (C5.out _).mono ?_); rintro e x3 ⟨rfl, hb⟩; have HB3 := Aside0.mk (below_step HB2.out hb); clear HB2 hb))
    | (go_at_call 5; ((with_reducible refine (C5.out _).mono ?_); rintro e x1 ⟨rfl, hb⟩; have HB1 : Aside0 (Below w.heap.size w x1) := ⟨below_step (pw_below_drewN (Below.refl _ _) _) hb⟩; clear hb))
    | (go_at_call 7; ((with_reducible refine (DV.out _).mono ?_); rintro e x5 ⟨rfl, rfl⟩))
    | (go_at_call 9; ((with_reducible refine (CL.out _).mono ?_); rintro e x6 ⟨rfl, hb⟩; have HB6 := Aside0.mk (below_step HB2.out hb); clear hb)))
  go_ret
  exact ⟨rfl, HB6.out⟩

set_option maxHeartbeats 1000000 in
set_option maxRecDepth 100000 in
/-- The divisor's first part is 0, the second is not. -/
theorem law_second (a b c d ya yb yc yd e f : Nat) (w : World)
    (na : ∀ w, Calls Try.prog 4 #[.int .u64 (a : Int)] w fun e w' => e = .returned (.int .u64 (ya : Int)) ∧ ∃ n, w' = w.drewN n)
    (nb : ∀ w, Calls Try.prog 4 #[.int .u64 (b : Int)] w fun e w' => e = .returned (.int .u64 (yb : Int)) ∧ ∃ n, w' = w.drewN n)
    (nc : ∀ w, Calls Try.prog 4 #[.int .u64 (c : Int)] w fun e w' => e = .returned (.int .u64 (yc : Int)) ∧ ∃ n, w' = w.drewN n)
    (nd : ∀ w, Calls Try.prog 4 #[.int .u64 (d : Int)] w fun e w' => e = .returned (.int .u64 (yd : Int)) ∧ ∃ n, w' = w.drewN n)
    (zc : ∀ w, Calls Try.prog 6 #[.agg #[.int .i64 53, .int .i64 52, .int .i64 (-1074), .int .u64 2047, .int .u64 9223372036854775808], .int .u64 (yc : Int)] w fun e w' => e = .returned (.bool true) ∧ Below w.heap.size w w')
    (zd : ∀ w, Calls Try.prog 6 #[.agg #[.int .i64 53, .int .i64 52, .int .i64 (-1074), .int .u64 2047, .int .u64 9223372036854775808], .int .u64 (yd : Int)] w fun e w' => e = .returned (.bool false) ∧ Below w.heap.size w w')
    (dv : ∀ w, Calls Try.prog 7 #[.float .f64 ya, .float .f64 yb, .float .f64 yc, .float .f64 yd] w fun e' w' => e' = .returned (.tuple #[.float .f64 e, .float .f64 f]) ∧ w = w')
    (cl : ∀ w, Calls Try.prog 9 #[.int .u64 (ya : Int), .int .u64 (yb : Int), .int .u64 (yc : Int), .int .u64 (yd : Int), .int .u64 (e : Int), .int .u64 (f : Int)] w fun e' w' => e' = .returned (.bool true) ∧ Below w.heap.size w w') :
    Calls Try.prog 3 #[.int .u64 (a : Int), .int .u64 (b : Int), .int .u64 (c : Int), .int .u64 (d : Int)] w fun e w' => e = .returned (.bool true) ∧ Below w.heap.size w w' := by
  have C5 := Aside0.mk double_any
  have NA := Aside0.mk na
  have NB := Aside0.mk nb
  have NC := Aside0.mk nc
  have ND := Aside0.mk nd
  have ZC := Aside0.mk zc
  have ZD := Aside0.mk zd
  have DV := Aside0.mk dv
  have CL := Aside0.mk cl
  have h8 := call8
  have h10 := call10
  clear na nb nc nd zc zd dv cl
  go_enter Try.func3, Try.ntmps3
  go_wp2_with (first
    | (go_at_call 4; ((with_reducible refine (NA.out _).mono ?_); rintro e w1 ⟨rfl, n1, rfl⟩))
    | (go_at_call 4; ((with_reducible refine (NB.out _).mono ?_); rintro e w1 ⟨rfl, n2, rfl⟩))
    | (go_at_call 4; ((with_reducible refine (NC.out _).mono ?_); rintro e w1 ⟨rfl, n3, rfl⟩))
    | (go_at_call 4; ((with_reducible refine (ND.out _).mono ?_); rintro e w1 ⟨rfl, n4, rfl⟩))
    | (go_at_call 6; ((with_reducible refine (ZC.out _).mono ?_); rintro e x2 ⟨rfl, hb⟩; have HB2 := Aside0.mk (below_step HB1.out hb); clear HB1 hb))
    | (go_at_call 6; ((with_reducible refine (ZD.out _).mono ?_); rintro e x4 ⟨rfl, hb⟩; have HB4 := Aside0.mk (below_step HB3.out hb); clear HB3 hb))
    | (go_at_call 5; ((with_reducible refine (C5.out _).mono ?_); rintro e x3 ⟨rfl, hb⟩; have HB3 := Aside0.mk (below_step HB2.out hb); clear HB2 hb))
    | (go_at_call 5; ((with_reducible refine (C5.out _).mono ?_); rintro e x1 ⟨rfl, hb⟩; have HB1 : Aside0 (Below w.heap.size w x1) := ⟨below_step (pw_below_drewN (Below.refl _ _) _) hb⟩; clear hb))
    | (go_at_call 7; ((with_reducible refine (DV.out _).mono ?_); rintro e x5 ⟨rfl, rfl⟩))
    | (go_at_call 9; ((with_reducible refine (CL.out _).mono ?_); rintro e x6 ⟨rfl, hb⟩; have HB6 := Aside0.mk (below_step HB4.out hb); clear hb)))
  go_ret
  exact ⟨rfl, HB6.out⟩

/-- THE LAW, for every input. -/
theorem law_any (a b c d : Nat) (ha : a < 2^64) (hb : b < 2^64) (hc : c < 2^64) (hd : d < 2^64) (w : World) :
    Calls Try.prog 3 #[.int .u64 (a : Int), .int .u64 (b : Int), .int .u64 (c : Int), .int .u64 (d : Int)] w fun e w' => e = .returned (.bool true) ∧ Below w.heap.size w w' := by
  obtain ⟨ya, la, ⟨qa, wa, ia⟩, na⟩ := near_any a ha
  obtain ⟨yb, lb, ⟨qb, wb, ib⟩, nb⟩ := near_any b hb
  obtain ⟨yc, lc, ⟨qc, wc, ic⟩, nc⟩ := near_any c hc
  obtain ⟨yd, ld, ⟨qd, wd, id⟩, nd⟩ := near_any d hd
  by_cases h : qc ≠ 0 ∨ qd ≠ 0
  · obtain ⟨e, f, hg, le, lf, dv⟩ := implDiv_good wa wb wc wd ia ib ic id h lc ld
    have cl := closely_good wa wb wc wd ia ib ic id la lb lc ld le lf hg
    by_cases hz : qc = 0
    · have hz2 : qd ≠ 0 := by
        rcases h with h | h
        · exact absurd hz h
        · exact h
      exact law_second a b c d ya yb yc yd e f w na nb nc nd (isZero_any lc wc true (by simp [hz])) (isZero_any ld wd false (by simp [hz2])) dv cl
    · exact law_first a b c d ya yb yc yd e f w na nb nc nd (isZero_any lc wc false (by simp [hz])) dv cl
  · have h1 : qc = 0 := by
      by_cases hz : qc = 0
      · exact hz
      · exact absurd (.inl hz) h
    have h2 : qd = 0 := by
      by_cases hz : qd = 0
      · exact hz
      · exact absurd (.inr hz) h
    exact law_zero a b c d ya yb yc yd w na nb nc nd (isZero_any lc wc true (by simp [h1])) (isZero_any ld wd true (by simp [h2]))
end Go.Proofs.Ytbadlnbpoabdeaa
