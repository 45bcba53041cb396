/-
  PLAIN LAW, PART 4: what the printed functions trim and NatShl give, as values of digits; a round of NatSub. No memory here.
-/
import Derived.Test.YtbadlnbpoabdeaaNat
import Derived.Test.YtbadlnbpoabdeaaPFnNearWholex1
namespace Go.Proofs.Ytbadlnbpoabdeaa.Dn
open Go.RowKit Go.Proofs.YtbadlnbpoabdeaaW.PrintWords Go.Proofs.YtbadlnbpoabdeaaW.PrintLast Go.Proofs.YtbadlnbpoabdeaaW.PrintMore

theorem w64 {x : Int} (h0 : -9223372036854775808 ≤ x) (h1 : x ≤ 9223372036854775807) : wrap64 x = x := by unfold wrap64; omega
theorem u64w {x : Int} (h0 : 0 ≤ x) (h1 : x < 18446744073709551616) : IntKind.u64.wrap x = x := by
  simp [IntKind.wrap, IntKind.signed, IntKind.bits]; omega
theorem rd_dg (l : List Int) (j : Nat) : rd l (j : Int) = dg l j := rfl

theorem trim_law {t : Nat → List Int → Option (List Int)} (ht : ∀ k x0, t (k + 1) x0 = if (x0.length : Int) > 0 then (if 0 ≤ (wrap64 ((x0.length : Int) - 1)) then (if (wrap64 ((x0.length : Int) - 1)) < (x0.length : Int) then (if (rd x0 (wrap64 ((x0.length : Int) - 1))) = 0 then (if (wrap64 ((x0.length : Int) - 1)) ≤ (x0.length : Int) then (t k (x0.take ((wrap64 ((x0.length : Int) - 1)) : Int).toNat)) else (none)) else (some x0)) else (none)) else (none)) else (some x0)) :
    ∀ (n : Nat) (l : List Int), l.length = n → n < 4294967296 → ∀ k, n < k → ∃ r, t k l = some r ∧ nv r = nv l ∧ r.length ≤ n ∧ (Dg l → Dg r) := by
  intro n
  induction n with
  | zero =>
    intro l hl _ k hk
    obtain ⟨k, rfl⟩ : ∃ m, k = m + 1 := ⟨k - 1, by omega⟩
    refine ⟨l, ?_, rfl, by omega, id⟩
    rw [ht, if_neg (by omega)]
  | succ n ih =>
    intro l hl hn k hk
    obtain ⟨k, rfl⟩ : ∃ m, k = m + 1 := ⟨k - 1, by omega⟩
    have e : wrap64 ((l.length : Int) - 1) = (n : Int) := by rw [w64 (by omega) (by omega)]; omega
    rw [ht, if_pos (by omega), e, if_pos (by omega), if_pos (by omega), rd_dg]
    by_cases h0 : dg l n = 0
    · rw [if_pos h0, if_pos (by omega), Int.toNat_natCast]
      obtain ⟨r, h1, h2, h3, h4⟩ := ih (l.take n) (by rw [List.length_take]; omega) (by omega) k (by omega)
      exact ⟨r, h1, h2.trans (nv_take_last hl h0), by omega, fun h => h4 (h.take n)⟩
    · rw [if_neg h0]
      exact ⟨l, rfl, rfl, by omega, id⟩

theorem trimF_law (l : List Int) (h : l.length < 4294967296) (hd : Dg l) {k : Nat} (hk : l.length < k) : ∃ r, PFnNearWhole.spec_trim.f k l = some r ∧ nv r = nv l ∧ r.length ≤ l.length ∧ Dg r := by
  obtain ⟨r, h1, h2, h3, h4⟩ := trim_law (t := PFnNearWhole.spec_trim.l0) (fun _ _ => rfl) l.length l rfl h k hk
  exact ⟨r, h1, h2, h3, h4 hd⟩

/-- One round of NatSub: X is 2^32 + x - y - bo. -/
theorem sub_rel {l0 l1 out : List Int} {bo x y : Int} {k : Nat} (hb0 : 0 ≤ bo) (hb1 : bo ≤ 1) (hx : 0 ≤ x ∧ x < 4294967296) (hy : 0 ≤ y ∧ y < 4294967296)
    (T0 : nv (l0.take (k + 1)) = nv (l0.take k) + bp k * x) (T1 : nv (l1.take (k + 1)) = nv (l1.take k) + bp k * y) (HV : out.length = k ∧ Dg out ∧ nv out = nv (l0.take k) - nv (l1.take k) + bo * bp k) :
    0 ≤ 1 - (4294967296 + x - y - bo) / 4294967296 ∧ 1 - (4294967296 + x - y - bo) / 4294967296 ≤ 1 ∧
      ((out ++ [(4294967296 + x - y - bo) % 4294967296]).length = k + 1 ∧ Dg (out ++ [(4294967296 + x - y - bo) % 4294967296]) ∧ nv (out ++ [(4294967296 + x - y - bo) % 4294967296]) = nv (l0.take (k + 1)) - nv (l1.take (k + 1)) + (1 - (4294967296 + x - y - bo) / 4294967296) * bp (k + 1)) := by
  obtain ⟨h1, h2, h3⟩ := HV
  obtain ⟨X, hX⟩ : ∃ X, X = 4294967296 + x - y - bo := ⟨_, rfl⟩
  rw [← hX]
  have hX0 : 0 ≤ X ∧ X < 8589934592 := by omega
  refine ⟨by omega, by omega, by rw [List.length_append, h1, List.length_singleton], h2.append (Dg.one (by omega) (by omega)), ?_⟩
  rw [nv_append, nv_one, h1, T0, T1, bp_succ, h3]
  have e : X % 4294967296 = X - 4294967296 * (X / 4294967296) := by omega
  rw [e]
  generalize X / 4294967296 = q
  rw [hX]
  grind
/-- Behind the last round of NatSub of a number that is not greater. -/
theorem sub_end {a b out : List Int} {bo : Int} (ha : Dg a) (hb : Dg b) (hb0 : 0 ≤ bo) (hb1 : bo ≤ 1) (hle : nv b ≤ nv a) (HV : out.length = a.length ∧ Dg out ∧ nv out = nv (a.take a.length) - nv (b.take a.length) + bo * bp a.length) : nv out = nv a - nv b := by
  obtain ⟨h1, h2, h3⟩ := HV
  rw [nv_take_all (Nat.le_refl _)] at h3
  have hp := bp_pos a.length
  have h6 := nv_bound ha
  have ho := nv_bound h2
  rw [h1] at ho
  -- b has no digit but 0 behind a's end
  have e : nv (b.take a.length) = nv b := by
    have hs := nv_split b a.length
    have ht := nv_bound (hb.drop a.length)
    have hz : nv (b.drop a.length) = 0 := by
      by_cases h0 : nv (b.drop a.length) = 0
      · exact h0
      · exfalso
        have h5 := Int.mul_le_mul_of_nonneg_left (show (1:Int) ≤ nv (b.drop a.length) by omega) (Int.le_of_lt hp)
        have h7 := nv_take_bound hb a.length
        omega
    rw [hz] at hs
    omega
  have hbo : bo = 0 ∨ bo = 1 := by omega
  rw [e] at h3
  rcases hbo with rfl | rfl <;> omega

theorem or_add (c v : Int) (s : Nat) (hc0 : 0 ≤ c) (hc : c < 2 ^ s) (hv0 : 0 ≤ v) (hv : v < 4294967296) (hs : s < 32) : Go.bits .or .u64 c (v * 2 ^ s) = c + v * 2 ^ s := by
  obtain ⟨C, rfl⟩ := Int.eq_ofNat_of_zero_le hc0
  obtain ⟨V, rfl⟩ := Int.eq_ofNat_of_zero_le hv0
  have e : ((V : Int) * 2 ^ s) = ((V * 2 ^ s : Nat) : Int) := by rw [Int.natCast_mul, Int.natCast_pow]; rfl
  have hc' : C < 2 ^ s := by
    have : (C : Int) < ((2 ^ s : Nat) : Int) := by rw [Int.natCast_pow]; exact hc
    omega
  have hp : 2 ^ s ≤ 2 ^ 31 := Nat.pow_le_pow_right (by decide) (by omega)
  have hV : V * 2 ^ s ≤ 4294967295 * 2 ^ 31 := Nat.mul_le_mul (by omega) hp
  rw [e, u64_or _ _ (by omega) (by omega) (by omega) (by omega), Int.toNat_natCast, Int.toNat_natCast]
  rw [Nat.or_comm, Nat.mul_comm V, ← Nat.two_pow_add_eq_or_of_lt hc' V]
  omega
theorem shl_law (v : Int) (s : Nat) (hv0 : 0 ≤ v) (hv : v < 4294967296) (hs : s < 32) : shl .u64 v (s : Int) = v * 2 ^ s := by
  unfold shl
  rw [Int.toNat_natCast, Nat.min_eq_left (by show s ≤ 64; omega)]
  have hp : (2:Int) ^ s ≤ 2 ^ 31 := by
    have : 2 ^ s ≤ 2 ^ 31 := Nat.pow_le_pow_right (by decide) (by omega)
    have h : ((2 ^ s : Nat) : Int) ≤ ((2 ^ 31 : Nat) : Int) := by omega
    rw [Int.natCast_pow] at h
    exact h
  have hp0 : (0:Int) < 2 ^ s := Int.pow_pos (by decide)
  have h1 := Int.mul_le_mul (show v ≤ 4294967295 by omega) hp (Int.le_of_lt hp0) (by decide)
  have h0 := Int.mul_nonneg hv0 (Int.le_of_lt hp0)
  exact u64w h0 (by omega)

theorem natShl_loop (a : List Int) (ha : Dg a) (n : Int) (q s : Nat) (hs : s < 32) (hn : Int.tmod n 32 = s) (hla : a.length < 1048576) (hq : q < 1048576) (d : Nat) : ∀ (k i : Nat) (out : List Int) (c : Int), i + d = a.length → q + a.length + d + 3 ≤ k → out.length = q + i → Dg out → 0 ≤ c → c < 2 ^ s →
    nv out + c * bp (q + i) = nv (a.take i) * 2 ^ s * bp q →
    ∃ r, PFnNearWhole.spec_NatShl.l0 k a n out c (i : Int) = some r ∧ nv r = nv a * 2 ^ s * bp q ∧ r.length ≤ q + a.length + 1 ∧ Dg r := by
  have hp31 : (2:Int) ^ s ≤ 2147483648 := by
    have : 2 ^ s ≤ 2 ^ 31 := Nat.pow_le_pow_right (by decide) (by omega)
    have h : ((2 ^ s : Nat) : Int) ≤ ((2 ^ 31 : Nat) : Int) := by omega
    rw [Int.natCast_pow] at h
    exact h
  induction d with
  | zero =>
    intro k i out c hi hk hl ho hc0 hc hv
    obtain ⟨k, rfl⟩ : ∃ m, k = m + 1 := ⟨k - 1, by omega⟩
    have hi' : i = a.length := by omega
    subst hi'
    simp only [PFnNearWhole.spec_NatShl.l0]
    rw [if_neg (by omega), if_pos (by omega)]
    have hc' : c < 4294967296 := by omega
    have e1 : c % 4294967296 = c := Int.emod_eq_of_lt hc0 hc'
    rw [e1]
    have g : (out ++ [c]).length = q + a.length + 1 := by rw [List.length_append, hl, List.length_singleton]
    obtain ⟨r, h1, h2, h3, h4⟩ := trimF_law (out ++ [c]) (by omega) (ho.append (Dg.one hc0 hc')) (k := k) (by omega)
    refine ⟨r, by rw [h1]; rfl, ?_, by omega, h4⟩
    rw [h2, nv_append, nv_one, hl]
    rw [nv_take_all (Nat.le_refl _)] at hv
    rw [← hv, Int.mul_comm c]
  | succ d ih =>
    intro k i out c hi hk hl ho hc0 hc hv
    obtain ⟨k, rfl⟩ : ∃ m, k = m + 1 := ⟨k - 1, by omega⟩
    simp only [PFnNearWhole.spec_NatShl.l0]
    have da := ha.dg i
    have k1 : (i : Int) < (a.length : Int) := by omega
    have k2 : (0 : Int) ≤ (i : Int) := by omega
    have k3 : (0 : Int) ≤ (s : Int) := by omega
    have k4 : out.length < 35184372088832 := by omega
    have e5 : wrap64 ((i : Int) + 1) = ((i + 1 : Nat) : Int) := by rw [w64 (by omega) (by omega)]; rfl
    have e0 : IntKind.u64.wrap (dg a i) = dg a i := u64w da.1 (Int.lt_trans da.2 (by decide))
    rw [if_pos k1, if_pos k2, hn, if_pos k3, if_pos k4, rd_dg, e0, shl_law _ s da.1 da.2 hs, or_add _ _ s hc0 hc da.1 da.2 hs, e5]
    clear e0 e5
    have hta := nv_take_succ a i
    generalize dg a i = x at *
    have hp0 : (0:Int) < 2 ^ s := Int.pow_pos (by decide)
    have h0 := Int.mul_nonneg da.1 (Int.le_of_lt hp0)
    have h1 := Int.mul_le_mul_of_nonneg_right (show x ≤ 4294967295 by omega) (Int.le_of_lt hp0)
    obtain ⟨X, hX⟩ : ∃ X, X = c + x * 2 ^ s := ⟨_, rfl⟩
    rw [← hX]
    have hX0 : 0 ≤ X := by omega
    have hX1 : X < 4294967296 * 2 ^ s := by omega
    have e6 := Int.emod_add_mul_ediv X 4294967296
    have hm : 0 ≤ X % 4294967296 ∧ X % 4294967296 < 4294967296 := by omega
    have hq1 : X / 4294967296 < 2 ^ s := Int.ediv_lt_of_lt_mul (by decide) (by rw [Int.mul_comm]; exact hX1)
    have hq0 : 0 ≤ X / 4294967296 := by omega
    generalize X / 4294967296 = Q at *
    generalize X % 4294967296 = m at *
    have g1 : i + 1 + d = a.length := by omega
    have g2 : q + a.length + d + 3 ≤ k := by omega
    have g3 : (out ++ [m]).length = q + (i + 1) := by rw [List.length_append, hl, List.length_singleton]; omega
    have g5 : nv (out ++ [m]) + Q * bp (q + (i + 1)) = nv (a.take (i + 1)) * 2 ^ s * bp q := by
      have e8 : bp (q + (i + 1)) = 4294967296 * bp (q + i) := by rw [← Nat.add_assoc, bp_succ]
      have e9 : bp (q + i) = bp q * bp i := bp_add q i
      rw [nv_append, nv_one, hl, hta, e8]
      have e7 : m = X - 4294967296 * Q := by omega
      rw [e7, hX]
      rw [e9] at hv ⊢
      grind
    exact ih k (i + 1) (out ++ [m]) Q g1 g2 g3 (ho.append (Dg.one hm.1 hm.2)) hq0 hq1 g5
/-- NatShl -/
theorem natShl_law (a : List Int) (ha : Dg a) (hla : a.length < 1048576) (n : Nat) (hn : n < 1048576) : ∃ k r, PFnNearWhole.spec_NatShl.f k a (n : Int) = some r ∧ nv r = nv a * 2 ^ n ∧ r.length ≤ n / 32 + a.length + 1 ∧ Dg r := by
  have e1 : Int.tdiv (n : Int) 32 = ((n / 32 : Nat) : Int) := by rw [Int.tdiv_eq_ediv_of_nonneg (by omega)]; omega
  have e2 : Int.tmod (n : Int) 32 = ((n % 32 : Nat) : Int) := by rw [Int.tmod_eq_emod_of_nonneg (by omega)]; omega
  have e3 : wrap64 ((n / 32 : Nat) : Int) = ((n / 32 : Nat) : Int) := w64 (by omega) (by omega)
  have hp : (0:Int) < 2 ^ (n % 32) := Int.pow_pos (by decide)
  obtain ⟨r, h1, h2, h3, h4⟩ := natShl_loop a ha (n : Int) (n / 32) (n % 32) (by omega) e2 hla (by omega) a.length (n / 32 + a.length + a.length + 3) 0 (List.replicate (n / 32) 0) 0 (by omega) (by omega) (by rw [List.length_replicate]; rfl) (Dg.zeros _) (by decide) hp (by
    rw [nv_zeros, nv_take_zero]; simp)
  refine ⟨n / 32 + a.length + a.length + 3, r, ?_, ?_, h3, h4⟩
  · unfold PFnNearWhole.spec_NatShl.f
    rw [e1, e3, if_pos (by omega), Int.toNat_natCast, if_pos (by omega)]
    exact h1
  · rw [h2, Int.mul_assoc]
    congr 1
    unfold bp
    rw [show (4294967296 : Int) = 2 ^ 32 from rfl, ← Int.pow_mul, ← Int.pow_add]
    congr 1
    omega
end Go.Proofs.Ytbadlnbpoabdeaa.Dn
