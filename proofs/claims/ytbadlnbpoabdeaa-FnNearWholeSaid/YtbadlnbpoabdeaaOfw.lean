/-
  THE WALK of IntOf: of a finite word times a power of 2 that makes it whole, the whole number.
-/
import Derived.Test.YtbadlnbpoabdeaaNormw
import Derived.Test.YtbadlnbpoabdeaaSize
namespace Go.Proofs.Ytbadlnbpoabdeaa
open Go.RowKit Go.Proofs.YtbadlnbpoabdeaaW.PrintWords Go.Proofs.YtbadlnbpoabdeaaW.PrintLast Go.Proofs.YtbadlnbpoabdeaaW.PrintMore
open Dn

theorem double_any (w : World) : Calls Try.prog 5 #[] w fun e w' => e = .returned (.agg #[.int .i64 53, .int .i64 52, .int .i64 (-1074), .int .u64 2047, .int .u64 9223372036854775808]) ∧ Below w.heap.size w w' :=
  PFnNearWhole.spec_Double.calls 53 52 (-1074) 2047 9223372036854775808 w rfl
theorem size_any {x : Nat} (hx : x < 2^64) {s : Bool} {m : Nat} {p : Int} (h : Ieee.double.read x = .number s m p) (w : World) :
    Calls Try.prog 23 #[.agg #[.int .i64 53, .int .i64 52, .int .i64 (-1074), .int .u64 2047, .int .u64 9223372036854775808], .int .u64 (x : Int)] w fun e w' => e = .returned (.tuple #[.int .u64 (m : Int), .int .i64 p]) ∧ Below w.heap.size w w' :=
  PFnNearWhole.spec_Format_Size.calls 53 52 (-1074) 2047 9223372036854775808 (x : Int) m p w (sizeF hx h)
theorem ret_bool {a b : Bool} (h : a = b) : Ending.returned (.bool a) = .returned (.bool b) := by rw [h]
theorem neg_any {x : Nat} (hx : x < 2^64) {s : Bool} {m : Nat} {p : Int} (h : Ieee.double.read x = .number s m p) (w : World) :
    Calls Try.prog 24 #[.agg #[.int .i64 53, .int .i64 52, .int .i64 (-1074), .int .u64 2047, .int .u64 9223372036854775808], .int .u64 (x : Int)] w fun e w' => e = .returned (.bool s) ∧ Below w.heap.size w w' := by
  have HN := Aside0.mk (negF hx h)
  clear hx h
  go_enter Try.func24, Try.ntmps24
  go_wp2
  go_ret
  exact ⟨ret_bool HN.out, below_alloc (Below.refl _ _) _⟩

set_option maxHeartbeats 400000 in
theorem intOf_zero {x : Nat} (hx : x < 2^64) {s : Bool} {p : Int} (h : Ieee.double.read x = .number s 0 p) (k : Int) (w : World) :
    Calls Try.prog 15 #[.int .u64 (x : Int), .int .i64 k] w fun e w' => e = .returned (.tuple #[.agg #[.bool false, .slice none 0 0], .bool true]) ∧ Below w.heap.size w w' := by
  have C5 := Aside0.mk double_any
  have C23 := Aside0.mk (size_any hx h)
  clear hx h
  go_enter Try.func15, Try.ntmps15
  go_wp2_with (first
    | (go_at_call 5; ((with_reducible refine (C5.out _).mono ?_); rintro e w1 ⟨rfl, hb⟩; have J0 := Aside0.mk (blk_below (blk_new w (.cells #[.bool false, .slice none 0 0] 41)) hb); have HB1 := Aside0.mk (below_step (below_alloc (Below.refl _ _) _) hb); clear hb))
    | (go_at_call 23; ((with_reducible refine (C23.out _).mono ?_); rintro e w2 ⟨rfl, hb⟩; have K0 := Aside0.mk (blk_below (blk_alloc J0.out _) hb); have HB2 := Aside0.mk (below_step (below_alloc HB1.out _) hb); have c0 := (blk_cell K0.out 0).trans rfl; have c1 := (blk_cell K0.out 1).trans rfl; have f0 := blk_frozen K0.out 0; have f1 := blk_frozen K0.out 1; clear hb)))
  have N := blk_put (blk_put (cs' := #[.bool false, .slice none 0 0]) K0.out 0 (.bool false) rfl) 1 (.slice none 0 0) (cs' := #[.bool false, .slice none 0 0]) rfl
  exact bodyPost_ret (results_ct rfl _ _ w.heap.size 41 #[.bool false, .slice none 0 0] (0, 0) _ rfl N Try.underlying41 rfl (by kernel_rfl)) rfl
    ⟨rfl, below_set (below_set HB2.out (Nat.le_refl _)) (Nat.le_refl _)⟩

set_option maxHeartbeats 400000 in
theorem intOf_pos {x : Nat} (hx : x < 2^64) {s : Bool} {m : Nat} {p : Int} (h : Ieee.double.read x = .number s m p) (hm : m ≠ 0) (k : Int) (e : Nat) (hpk : p + k = (e : Int)) (he : e < 100000) (w : World) :
    Calls Try.prog 15 #[.int .u64 (x : Int), .int .i64 k] w fun e' w' => ∃ u, e' = .returned (.tuple #[.agg #[.bool s, u], .bool true]) ∧ IsNat w' u ((m : Int) * 2 ^ e) (e / 32 + 3) ∧ Below w.heap.size w w' := by
  have C5 := Aside0.mk double_any
  have C23 := Aside0.mk (size_any hx h)
  have C24 := Aside0.mk (neg_any hx h)
  have hmag := (Qn.read_mag h).1
  have C25 := Aside0.mk (fun w => natOf_any w (m : Int) (by omega) (by omega))
  have hm0 : ((m : Int) == 0) = false := by simpa using hm
  have hm1 : ((m : Int) = 0) = False := by simpa using hm
  clear hx h hm hmag
  go_enter Try.func15, Try.ntmps15
  go_wp2_with (first
    | (go_at_call 5; ((with_reducible refine (C5.out _).mono ?_); rintro e w1 ⟨rfl, hb⟩; have J0 := Aside0.mk (blk_below (blk_new w (.cells #[.bool false, .slice none 0 0] 41)) hb); have HB1 := Aside0.mk (below_step (below_alloc (Below.refl _ _) _) hb); clear hb))
    | (go_at_call 23; ((with_reducible refine (C23.out _).mono ?_); rintro e w2 ⟨rfl, hb⟩; have K0 := Aside0.mk (blk_below (blk_alloc J0.out _) hb); have K1 := Aside0.mk (blk_below (blk_new w1 _) hb); have HB2 := Aside0.mk (below_step (below_alloc HB1.out _) hb); have c0 := (blk_cell K1.out 0).trans rfl; have c1 := (blk_cell K1.out 1).trans rfl; have c2 := (blk_cell K1.out 2).trans rfl; have c3 := (blk_cell K1.out 3).trans rfl; have c4 := (blk_cell K1.out 4).trans rfl; clear hb))
    | (go_at_call 24; ((with_reducible refine (C24.out _).mono ?_); rintro e w3 ⟨rfl, hb⟩; have L0 := Aside0.mk (blk_below K0.out hb); have HB3 := Aside0.mk (below_step HB2.out hb); clear hb))
    | (go_at_call 25; ((with_reducible refine (C25.out _).mono ?_); rintro e w4 ⟨u4, rfl, hu, hb⟩; obtain ⟨A4, k4, d4, rfl⟩ := hu.slice; have HU4 := Aside0.mk hu; have M0 := Aside0.mk (blk_below L0.out hb); have HB4 := Aside0.mk (below_step HB3.out hb); clear hu hb))
    | (go_at_call 20; ((with_reducible refine (natShl_any e HU4.out (by decide) (by omega)).mono ?_); rintro e w5 ⟨u5, rfl, hu, hb⟩; obtain ⟨A5, k5, d5, rfl⟩ := hu.slice; have HU5 := Aside0.mk hu; have N0 := Aside0.mk (blk_below M0.out hb); have HB5 := Aside0.mk (below_step HB4.out hb); have c5 := (blk_cell N0.out 0).trans rfl; have c6 := (blk_cell N0.out 1).trans rfl; have f0 := blk_frozen N0.out 0; have f1 := blk_frozen N0.out 1; clear hu hb)))
  have N := blk_put (blk_put (cs' := #[.bool s, .slice none 0 0]) N0.out 0 (.bool s) rfl) 1 (.slice A5 k5 d5) (cs' := #[.bool s, .slice A5 k5 d5]) rfl
  exact bodyPost_ret (results_ct rfl _ _ w.heap.size 41 #[.bool s, .slice A5 k5 d5] (0, 0) _ rfl N Try.underlying41 rfl (by kernel_rfl)) rfl
    ⟨_, rfl, (HU5.out.fill N0.out _ _).mono (by omega), below_set (below_set HB5.out (Nat.le_refl _)) (Nat.le_refl _)⟩

theorem isNat_nil (w : World) (L : Nat) : IsNat w (.slice none 0 0) 0 L := ⟨none, 0, [], rfl, Nat.le_refl _, ⟨rfl, by decide, fun h => absurd h (by decide)⟩, Dg.nil, rfl, Nat.zero_le _⟩

open Qn in
/-- IntOf: of a number of the range, times a power of 2 that is great enough. -/
theorem intOf_any {x : Nat} (hx : x < 2^64) {q : Rat} (hq : Has x q) {l h : Int} (hi : In l h q) (k : Int) (h1 : l + 52 ≤ k) (h2 : h + k ≤ 3000) :
    ∃ z : Int, (z : Rat) = q * 2 ^ k ∧ ∀ w, Calls Try.prog 15 #[.int .u64 (x : Int), .int .i64 k] w fun e' w' => ∃ v, e' = .returned (.tuple #[v, .bool true]) ∧ IsInt w' v z 100 ∧ Below w.heap.size w w' := by
  obtain ⟨s, m, p, hr, rfl⟩ := hq
  by_cases hm : m = 0
  · subst hm
    refine ⟨0, ?_, fun w => ?_⟩
    · rw [show ((0:Nat):Rat) = 0 from rfl, Rat.zero_mul, Rat.mul_zero, Rat.zero_mul]; rfl
    · refine (intOf_zero hx hr k w).mono ?_
      rintro e w' ⟨rfl, hb⟩
      exact ⟨_, rfl, ⟨false, _, 0, rfl, isNat_nil w' 100, rfl⟩, hb⟩
  · have hmag := (read_mag hr).1
    have hp := pw_pos p
    have hpos : 0 < (m:Rat) * 2^p := Rat.mul_pos (Rat.natCast_pos.2 (by omega)) hp
    have hab : ab (sg s * ((m:Rat) * 2^p)) = (m:Rat) * 2^p := by rw [ab_sg, ab_of_pos (Rat.le_of_lt hpos)]
    have hin : (2:Rat)^(-l) ≤ (m:Rat) * 2^p ∧ (m:Rat) * 2^p ≤ 2^h := by
      rcases hi with h0 | h0
      · rw [h0, ab_zero] at hab
        grind
      · rw [hab] at h0; exact h0
    have b1 : -l < 53 + p := by
      apply pw_lt_of
      have : (m:Rat) * 2^p < 2^(53 + p : Int) := by
        rw [pw_add]
        refine Rat.mul_lt_mul_of_pos_right ?_ hp
        rw [show (53:Int) = ((53:Nat):Int) from rfl, pw_nat]
        exact Rat.natCast_lt_natCast.2 hmag
      grind
    have b2 : p < h + 1 := by
      apply pw_lt_of
      have h3 : (1:Rat) ≤ (m:Rat) := by
        have : ((1:Nat):Rat) ≤ (m:Rat) := Rat.natCast_le_natCast.2 (by omega)
        exact this
      have h4 := Rat.mul_le_mul_of_nonneg_right h3 (Rat.le_of_lt hp)
      have h5 := pw_succ h
      have h6 := pw_pos h
      grind
    obtain ⟨e, he⟩ : ∃ e : Nat, p + k = (e : Int) := ⟨(p + k).toNat, by omega⟩
    refine ⟨sgn s ((m : Int) * 2 ^ e), ?_, fun w => ?_⟩
    · have e1 : sg s * ((m:Rat) * 2^p) * 2^k = sg s * ((m:Rat) * 2^(e:Int)) := by
        rw [← he, pw_add]; grind
      rw [e1, ← natCast_two_pow_mul]
      have e2 : (m : Int) * 2 ^ e = ((m * 2 ^ e : Nat) : Int) := by rw [Int.natCast_mul, Int.natCast_pow]; rfl
      rw [e2]
      unfold sgn sg
      cases s
      · rw [if_neg (by decide), if_neg (by decide), Rat.one_mul]; rfl
      · rw [if_pos rfl, if_pos rfl, Rat.intCast_neg, Rat.neg_mul, Rat.one_mul]; rfl
    · refine (intOf_pos hx hr hm k e he (by omega) w).mono ?_
      rintro e' w' ⟨u, rfl, hu, hb⟩
      exact ⟨_, rfl, ⟨s, u, _, rfl, hu.mono (by omega), rfl⟩, hb⟩
end Go.Proofs.Ytbadlnbpoabdeaa
