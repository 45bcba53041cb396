/-
  THE WALKS of the natural numbers: what NatShl (by the printed contract), digit and NatCmp give, as values.
-/
import Derived.Test.YtbadlnbpoabdeaaNatp
namespace Go.Proofs.Ytbadlnbpoabdeaa
open Go.RowKit Go.Proofs.YtbadlnbpoabdeaaW.PrintWords Go.Proofs.YtbadlnbpoabdeaaW.PrintLast Go.Proofs.YtbadlnbpoabdeaaW.PrintMore
open Dn

/-- v is a slice of digits, at most L, of value n. -/
def IsNat (w : World) (v : Value) (n : Int) (L : Nat) : Prop := ∃ A c l, v = .slice A l.length c ∧ l.length ≤ c ∧ Kd.C (Kd.int .u32) w A l.length l ∧ Dg l ∧ nv l = n ∧ l.length ≤ L
theorem IsNat.below {w w' : World} {v : Value} {n : Int} {L : Nat} (h : IsNat w v n L) (hb : Below w.heap.size w w') : IsNat w' v n L := by
  obtain ⟨A, c, l, h1, h2, h3, h4⟩ := h
  exact ⟨A, c, l, h1, h2, Kd.C_below h3 hb, h4⟩
theorem IsNat.mono {w : World} {v : Value} {n : Int} {L L' : Nat} (h : IsNat w v n L) (hl : L ≤ L') : IsNat w v n L' := by
  obtain ⟨A, c, l, h1, h2, h3, h4, h5, h6⟩ := h
  exact ⟨A, c, l, h1, h2, h3, h4, h5, Nat.le_trans h6 hl⟩
theorem IsNat.of_V {w : World} {b : Nat} {ok : Nat → Prop} {v : Value} {r : List Int} {n : Int} {L : Nat} (h : Kd.V (Kd.int .u32) 54 w b ok v r) (hd : Dg r) (hn : nv r = n) (hl : r.length ≤ L) : IsNat w v n L := by
  obtain ⟨A, c, h1, h2, h3⟩ := h
  exact ⟨A, c, r, h1, h2, Kd.F_now h3, hd, hn, hl⟩
theorem IsNat.nonneg {w : World} {v : Value} {n : Int} {L : Nat} (h : IsNat w v n L) : 0 ≤ n := by
  obtain ⟨A, c, l, h1, h2, h3, h4, h5, h6⟩ := h
  have := nv_bound h4
  omega

theorem natShl_any {w : World} {v : Value} {n : Int} {L : Nat} (s : Nat) (hv : IsNat w v n L) (hL : L < 1048576) (hs : s < 1048576) :
    Calls Try.prog 20 #[v, .int .i64 (s : Int)] w fun e w' => ∃ u, e = .returned u ∧ IsNat w' u (n * 2 ^ s) (s / 32 + L + 1) ∧ Below w.heap.size w w' := by
  obtain ⟨A, c, l, rfl, h2, h3, h4, h5, h6⟩ := hv
  obtain ⟨k, r, a1, a2, a3, a4⟩ := natShl_law l h4 (by omega) s hs
  refine (PFnNearWhole.spec_NatShl.calls k A c l (s : Int) r w h3 h2 a1).mono ?_
  rintro e w' ⟨u, rfl, hu, hb⟩
  exact ⟨u, rfl, IsNat.of_V hu a4 (by rw [a2, h5]) (by omega), hb⟩
theorem digit_any {w : World} (A : Option Addr) (c : Nat) (l : List Int) (j : Nat) (h3 : Kd.C (Kd.int .u32) w A l.length l) (h4 : Dg l) :
    Calls Try.prog 29 #[.slice A l.length c, .int .i64 (j : Int)] w fun e w' => e = .returned (.int .u64 (dg l j)) ∧ ∃ n, w' = w.drewN n := by
  have hd := h4.dg j
  have hj0 : (0 : Int) ≤ (j : Int) := by omega
  by_cases hj : j < l.length
  · obtain ⟨ad, rfl, x⟩ := Kd.at_int h3 (j : Int) hj0 (by omega)
    rw [rd_dg, Int.toNat_natCast] at x
    clear h3 h4
    generalize dg l j = y at *
    go_enter Try.func29, Try.ntmps29
    go_wp2
    go_ret
    exact ⟨rfl, 0, rfl⟩
  · have e := dg_of_ge (l := l) (j := j) (by omega)
    rw [e]
    clear h3 h4 hd e
    go_enter Try.func29, Try.ntmps29
    go_wp2
    go_ret
    exact ⟨rfl, 0, rfl⟩

/-- what NatCmp answers -/
def cmpOf (x y : Int) : Int := if x < y then -1 else if y < x then 1 else 0

theorem cmpOf_lt {x y : Int} (h : x < y) : cmpOf x y = -1 := by unfold cmpOf; rw [if_pos h]
theorem cmpOf_gt {x y : Int} (h : y < x) : cmpOf x y = 1 := by unfold cmpOf; rw [if_neg (by omega), if_pos h]
theorem cmpOf_eq {x y : Int} (h : x = y) : cmpOf x y = 0 := by unfold cmpOf; rw [if_neg (by omega), if_neg (by omega)]
theorem ret_i64 {a b : Int} (h : a = b) : Ending.returned (.int .i64 a) = .returned (.int .i64 b) := by rw [h]

set_option maxHeartbeats 1000000 in
theorem natCmp_walk {w : World} (A0 : Option Addr) (c0 : Nat) (l0 : List Int) (A1 : Option Addr) (c1 : Nat) (l1 : List Int) (r0 : Kd.C (Kd.int .u32) w A0 l0.length l0) (d0 : Dg l0)
    (r1 : Kd.C (Kd.int .u32) w A1 l1.length l1) (d1 : Dg l1) (hl0 : l0.length < 1048576) (hl1 : l1.length < 1048576) :
    Calls Try.prog 19 #[.slice A0 l0.length c0, .slice A1 l1.length c1] w fun e w' => e = .returned (.int .i64 (cmpOf (nv l0) (nv l1))) ∧ Below w.heap.size w w' := by
  have R0 := Aside0.mk r0
  have R1 := Aside0.mk r1
  have D0 := Aside0.mk d0
  have D1 := Aside0.mk d1
  clear r0 r1 d0 d1
  have HB := Aside0.mk (Below.refl w.heap.size w)
  go_enter Try.func19, Try.ntmps19
  go_wp2
  all_goals
    go_loopw [5] (fun i wr => ∃ z : Int, i = .int .i64 z ∧ -1 ≤ z ∧ z < 1048576 ∧ Aside0 (nv (l0.drop (z + 1).toNat) = nv (l1.drop (z + 1).toNat)) ∧ Aside0 (Below w.heap.size w wr)) (fun i _ => (intOf i + 1).toNat)
    case atStart =>
      refine ⟨_, rfl, by omega, by omega, ⟨?_⟩, HB⟩
      rw [List.drop_eq_nil_of_le (by omega), List.drop_eq_nil_of_le (by omega)]
    case round =>
      obtain ⟨z, rfl, hz0, hz1, HE, HB⟩ := hrel
      by_cases hz : z = -1
      · subst hz
        go_wp2
        go_ret
        refine ⟨ret_i64 (cmpOf_eq ?_).symm, HB.out⟩
        exact HE.out
      · obtain ⟨j, rfl⟩ : ∃ j : Nat, z = j := ⟨z.toNat, by omega⟩
        have e1 : ((j : Int) + 1).toNat = j + 1 := by omega
        have HE' := Aside0.mk (e1 ▸ HE.out)
        clear e1 HE hz hz0
        have hj0 : 0 ≤ (j : Int) := by omega
        have hj1 : j < 1048576 := by omega
        have hB0 := Kd.C_below R0.out HB.out
        have hB1 := fun n => Kd.C_below R1.out (pw_below_drewN HB.out n)
        have RB0 := Aside0.mk hB0
        have RB1 := Aside0.mk hB1
        clear hB0 hB1
        have q0 := D0.out.dg j
        have q1 := D1.out.dg j
        have HD := Aside0.mk (nv_drop l0 j)
        have HD' := Aside0.mk (nv_drop l1 j)
        have HL := Aside0.mk (fun h => nv_lt_of D0.out D1.out (j := j) HE'.out h)
        have HL' := Aside0.mk (fun h => nv_lt_of D1.out D0.out (j := j) HE'.out.symm h)
        have A0c := Aside0.mk (digit_any (w := wr) A0 c0 l0 j RB0.out D0.out)
        have A1c := Aside0.mk (fun n => digit_any (w := wr.drewN n) A1 c1 l1 j (RB1.out n) D1.out)
        generalize dg l0 j = x at *
        generalize dg l1 j = y at *
        rcases Int.lt_trichotomy x y with hc | hc | hc
        · have t1 : decide (x < y) = true := decide_eq_true hc
          go_wp2_with (first | (go_at_call 29; ((with_reducible refine A0c.out.mono ?_); rintro e w' ⟨rfl, n1, rfl⟩)) | (go_at_call 29; ((with_reducible refine (A1c.out _).mono ?_); rintro e w' ⟨rfl, n1, rfl⟩)))
          go_ret
          exact ⟨ret_i64 (cmpOf_lt (HL.out hc)).symm, by repeat (first | exact HB.out | apply pw_below_drewN | apply below_drew)⟩
        · subst hc
          have t1 : decide (x < x) = false := decide_eq_false (Int.lt_irrefl x)
          go_wp2_with (first | (go_at_call 29; ((with_reducible refine A0c.out.mono ?_); rintro e w' ⟨rfl, n1, rfl⟩)) | (go_at_call 29; ((with_reducible refine (A1c.out _).mono ?_); rintro e w' ⟨rfl, n1, rfl⟩)))
          go_roundw
          case rel =>
            refine ⟨(j : Int) - 1, rfl, by omega, by omega, ⟨?_⟩, ⟨by repeat (first | exact HB.out | apply pw_below_drewN | apply below_drew)⟩⟩
            rw [show ((j : Int) - 1 + 1).toNat = j by omega, HD.out, HD'.out, HE'.out]
          case measure => simp [intOf]
        · have t1 : decide (x < y) = false := decide_eq_false (by omega)
          have t2 : decide (y < x) = true := decide_eq_true hc
          go_wp2_with (first | (go_at_call 29; ((with_reducible refine A0c.out.mono ?_); rintro e w' ⟨rfl, n1, rfl⟩)) | (go_at_call 29; ((with_reducible refine (A1c.out _).mono ?_); rintro e w' ⟨rfl, n1, rfl⟩)))
          go_ret
          exact ⟨ret_i64 (cmpOf_gt (HL'.out hc)).symm, by repeat (first | exact HB.out | apply pw_below_drewN | apply below_drew)⟩
theorem natCmp_any {w : World} {v v' : Value} {n m : Int} {L L' : Nat} (hv : IsNat w v n L) (hv' : IsNat w v' m L') (hL : L < 1048576) (hL' : L' < 1048576) :
    Calls Try.prog 19 #[v, v'] w fun e w' => e = .returned (.int .i64 (cmpOf n m)) ∧ Below w.heap.size w w' := by
  obtain ⟨A, c, l, rfl, h2, h3, h4, rfl, h6⟩ := hv
  obtain ⟨A', c', l', rfl, h2', h3', h4', rfl, h6'⟩ := hv'
  exact natCmp_walk A c l A' c' l' h3 h4 h3' h4' (by omega) (by omega)
end Go.Proofs.Ytbadlnbpoabdeaa
