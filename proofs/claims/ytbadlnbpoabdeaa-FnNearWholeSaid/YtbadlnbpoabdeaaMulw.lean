/-
  THE WALK of NatMul: its answer is the product.
-/
import Derived.Test.YtbadlnbpoabdeaaSubw
import Derived.WalkSpells
namespace Go.Proofs.Ytbadlnbpoabdeaa
open Go.RowKit Go.Proofs.YtbadlnbpoabdeaaW.PrintWords Go.Proofs.YtbadlnbpoabdeaaW.PrintLast Go.Proofs.YtbadlnbpoabdeaaW.PrintMore
open Dn

theorem mul_rel_inner {l0 l1 out o2 : List Int} {c : Int} {i k : Nat} (hc0 : 0 ≤ c) (hc1 : c < 4294967296) (hx : 0 ≤ dg l0 i ∧ dg l0 i < 4294967296) (hy : 0 ≤ dg l1 k ∧ dg l1 k < 4294967296) (hz : 0 ≤ dg o2 (i + k) ∧ dg o2 (i + k) < 4294967296) (hk : i + k < l0.length + l1.length)
    (HV : o2.length = l0.length + l1.length ∧ Dg o2 ∧ nv o2 + c * bp (i + k) = nv out + dg l0 i * nv (l1.take k) * bp i ∧ ∀ j, i + k ≤ j → dg o2 j = dg out j) :
    0 ≤ (c + (dg o2 (i + k) + dg l0 i * dg l1 k)) / 4294967296 ∧ (c + (dg o2 (i + k) + dg l0 i * dg l1 k)) / 4294967296 < 4294967296 ∧
    Aside0 ((o2.set (i + k) ((c + (dg o2 (i + k) + dg l0 i * dg l1 k)) % 4294967296)).length = l0.length + l1.length ∧ Dg (o2.set (i + k) ((c + (dg o2 (i + k) + dg l0 i * dg l1 k)) % 4294967296)) ∧
      nv (o2.set (i + k) ((c + (dg o2 (i + k) + dg l0 i * dg l1 k)) % 4294967296)) + (c + (dg o2 (i + k) + dg l0 i * dg l1 k)) / 4294967296 * bp (i + (k + 1)) = nv out + dg l0 i * nv (l1.take (k + 1)) * bp i ∧
      ∀ j, i + (k + 1) ≤ j → dg (o2.set (i + k) ((c + (dg o2 (i + k) + dg l0 i * dg l1 k)) % 4294967296)) j = dg out j) := by
  obtain ⟨h1, h2, h3, h4⟩ := HV
  have hs := fun X => nv_set (l := o2) (j := i + k) (by omega) X
  have ht := nv_take_succ l1 k
  have hb : bp (i + (k + 1)) = 4294967296 * bp (i + k) := by rw [← Nat.add_assoc, bp_succ]
  have hb2 : bp (i + k) = bp i * bp k := bp_add i k
  have b0 : 0 ≤ dg l0 i * dg l1 k ∧ dg l0 i * dg l1 k ≤ 18446744065119617025 := prod_bound _ _ hx.1 (by omega) hy.1 (by omega)
  generalize hX : c + (dg o2 (i + k) + dg l0 i * dg l1 k) = X
  have hX0 : 0 ≤ X ∧ X < 18446744073709551616 := by omega
  refine ⟨by omega, by omega, ⟨by rw [List.length_set]; exact h1, h2.set _ (by omega) (by omega), ?_, ?_⟩⟩
  · rw [hs, hb, ht]
    have e := Int.emod_add_mul_ediv X 4294967296
    have e2 : X % 4294967296 = X - 4294967296 * (X / 4294967296) := by omega
    rw [e2]
    rw [hb2] at h3 ⊢
    generalize X / 4294967296 = q
    rw [← hX]
    grind
  · intro j hj
    rw [dg_set_ne (by omega), h4 j (by omega)]

theorem mul_rel_outer {l0 l1 out o2 : List Int} {c : Int} {i : Nat} (hc0 : 0 ≤ c) (hc1 : c < 4294967296) (hi : i < l0.length)
    (HV : out.length = l0.length + l1.length ∧ Dg out ∧ nv out = nv (l0.take i) * nv l1 ∧ ∀ j, i + l1.length ≤ j → dg out j = 0)
    (HV2 : o2.length = l0.length + l1.length ∧ Dg o2 ∧ nv o2 + c * bp (i + l1.length) = nv out + dg l0 i * nv (l1.take l1.length) * bp i ∧ ∀ j, i + l1.length ≤ j → dg o2 j = dg out j) :
    Aside0 ((o2.set (i + l1.length) c).length = l0.length + l1.length ∧ Dg (o2.set (i + l1.length) c) ∧ nv (o2.set (i + l1.length) c) = nv (l0.take (i + 1)) * nv l1 ∧
      ∀ j, i + 1 + l1.length ≤ j → dg (o2.set (i + l1.length) c) j = 0) := by
  obtain ⟨a1, a2, a3, a4⟩ := HV
  obtain ⟨h1, h2, h3, h4⟩ := HV2
  have hz : dg o2 (i + l1.length) = 0 := (h4 _ (Nat.le_refl _)).trans (a4 _ (Nat.le_refl _))
  refine ⟨by rw [List.length_set]; exact h1, h2.set _ hc0 hc1, ?_, ?_⟩
  · rw [nv_set (by omega), hz, nv_take_succ]
    rw [nv_take_all (Nat.le_refl _)] at h3
    grind
  · intro j hj
    rw [dg_set_ne (by omega), h4 j (by omega), a4 j (by omega)]

set_option maxHeartbeats 400000 in
theorem natMul_walk {w : World} (A0 : Option Addr) (c0 : Nat) (l0 : List Int) (A1 : Option Addr) (c1 : Nat) (l1 : List Int) (r0 : Kd.C (Kd.int .u32) w A0 l0.length l0) (d0 : Dg l0)
    (r1 : Kd.C (Kd.int .u32) w A1 l1.length l1) (d1 : Dg l1) (hl0 : l0.length < 262144) (hl1 : l1.length < 262144) :
    Calls Try.prog 26 #[.slice A0 l0.length c0, .slice A1 l1.length c1] w fun e w' => ∃ u, e = .returned u ∧ IsNat w' u (nv l0 * nv l1) (l0.length + l1.length) ∧ Below w.heap.size w w' := by
  have R0 := Aside0.mk r0
  have R1 := Aside0.mk r1
  have D0 := Aside0.mk d0
  have D1 := Aside0.mk d1
  clear r0 r1 d0 d1
  have HB := Aside0.mk (Below.refl w.heap.size w)
  have en : ((l0.length : Int) + (l1.length : Int)).toNat = l0.length + l1.length := by omega
  have EN := Aside0.mk en
  clear en
  go_enter Try.func26, Try.ntmps26
  go_wp2_with ((with_reducible refine gate_dst (N := 14) rfl ?_); go_must (refine Kd.R_make (Kd.int .u32) (w0 := w) w.heap.size 54 rfl (N := 14) rfl 39 _ _ rfl ((l0.length : Int) + (l1.length : Int)) rfl rfl Try.underlying39 (.int .u32 0) 4 nfo54 rfl (by decide) (by decide) 0 (ok := fun k_ => w.heap.size ≤ k_) (okp := fun _ => False) rfl (fun _ hk => hk.elim) ?aF (by omega) (by omega) ?aB ?aS ?_; (case aF => exact Nat.le_refl _); (case aB => exact HB.out); (case aS => exact Nat.le_refl _); intro v14 w7 ho hb hg hat; rw [EN.out] at ho; have HO := Aside0.mk ho; have HB2 := Aside0.mk hb; clear ho hb hg hat))
  go_loopw [17] (fun v17 wr => ∃ (out : List Int) (i : Nat), v17 = .int .i64 i ∧ i ≤ l0.length ∧
      Aside0 (out.length = l0.length + l1.length ∧ Dg out ∧ nv out = nv (l0.take i) * nv l1 ∧ ∀ j, i + l1.length ≤ j → dg out j = 0) ∧ Aside0 (Kd.R (Kd.int .u32) 54 wr w.heap.size (fun k_ => w.heap.size ≤ k_) v14 out) ∧ Aside0 (Below w.heap.size w wr)) (fun i _ => l0.length - (intOf i).toNat)
  case atStart => exact ⟨_, 0, rfl, by omega, ⟨by rw [List.length_replicate], Dg.zeros _, by rw [nv_zeros, nv_take_zero, Int.zero_mul], fun j _ => dg_zeros _ _⟩, HO, HB2⟩
  case round =>
    obtain ⟨out, i, rfl, hi, HV, HR, HB⟩ := hrel
    have hi0 : (0:Int) ≤ (i : Int) := by omega
    by_cases hgo : i < l0.length
    · have hi9 : i < 262144 := by omega
      obtain ⟨g, cap, rfl, hg, _, _⟩ := Kd.R_form HR.out (by have := HV.out.1; omega)
      have e0 := HV.out.1
      go_wp2
      go_loopw [7, 22] (fun v7 v22 wq => ∃ (o2 : List Int) (c : Int) (k : Nat), v7 = .int .u64 c ∧ v22 = .int .i64 k ∧ 0 ≤ c ∧ c < 4294967296 ∧ k ≤ l1.length ∧
          Aside0 (o2.length = l0.length + l1.length ∧ Dg o2 ∧ nv o2 + c * bp (i + k) = nv out + dg l0 i * nv (l1.take k) * bp i ∧ ∀ j, i + k ≤ j → dg o2 j = dg out j) ∧
          Aside0 (Kd.R (Kd.int .u32) 54 wq w.heap.size (fun k_ => w.heap.size ≤ k_) (.slice (some ⟨g, 0, none⟩) out.length cap) o2) ∧ Aside0 (Below w.heap.size w wq)) (fun _ k _ => l1.length - (intOf k).toNat)
      case atStart => exact ⟨out, 0, 0, rfl, rfl, by omega, by omega, by omega, ⟨HV.out.1, HV.out.2.1, by rw [nv_take_zero]; simp, fun _ _ => rfl⟩, HR, HB⟩
      case round =>
        obtain ⟨o2, c, k, rfl, rfl, hc0, hc1, hk, HV2, HR2, HB2⟩ := hrel
        by_cases hgk : k < l1.length
        · have e2 := HV2.out.1
          have hk0 : (0:Int) ≤ (k : Int) := by omega
          have ek : ((i : Int) + (k : Int)).toNat = i + k := by omega
          obtain ⟨ad0, rfl, x0⟩ := Kd.at_int (Kd.C_below R0.out HB2.out) (i : Int) hi0 (by omega)
          obtain ⟨ad1, rfl, x1⟩ := Kd.at_int (Kd.C_below R1.out HB2.out) (k : Int) hk0 (by omega)
          obtain ⟨x2, f2⟩ := Kd.R_celln 0 HR2.out ((i : Int) + (k : Int)) (by omega) (by omega)
          rw [rd_dg, Int.toNat_natCast] at x0 x1
          rw [ek] at x2 f2
          have e3 : rdOf 0 o2 ((i : Int) + (k : Int)) = dg o2 (i + k) := by unfold rdOf dg; rw [ek]
          rw [e3] at x2
          have q0 := D0.out.dg i
          have q1 := D1.out.dg k
          have q2 := HV2.out.2.1.dg (i + k)
          have NX := Aside0.mk (mul_rel_inner (l0 := l0) (l1 := l1) (i := i) (k := k) hc0 hc1 q0 q1 q2 (by omega) HV2.out)
          generalize dg l0 i = x at *
          generalize dg l1 k = y at *
          generalize dg o2 (i + k) = z at *
          have b0 : 0 ≤ x * y ∧ x * y ≤ 18446744065119617025 := prod_bound x y q0.1 (by omega) q1.1 (by omega)
          have b1 : 0 ≤ z + x * y ∧ z + x * y ≤ 18446744069414584320 := by omega
          have b2 : 0 ≤ c + (z + x * y) ∧ c + (z + x * y) ≤ 18446744073709551615 := by omega
          have s1 : (0:Int) ≤ (i : Int) + (k : Int) := by omega
          have s2 : (i : Int) + (k : Int) < (out.length : Int) := by omega
          have s3 : (i : Int) < (l0.length : Int) := by omega
          have s4 : (k : Int) < (l1.length : Int) := by omega
          have w0 : IntKind.i64.wrap ((i : Int) + (k : Int)) = (i : Int) + (k : Int) := IntWalk.i64_in _ (by omega)
          have w1 : IntKind.u64.wrap x = x := IntWalk.u64_in _ (by omega)
          have w2 : IntKind.u64.wrap y = y := IntWalk.u64_in _ (by omega)
          have w3 : IntKind.u64.wrap z = z := IntWalk.u64_in _ (by omega)
          have w4 : IntKind.u64.wrap (x * y) = x * y := IntWalk.u64_in _ ⟨b0.1, by clear w0 w1 w2 w3; omega⟩
          have w5 : IntKind.u64.wrap (z + x * y) = z + x * y := IntWalk.u64_in _ ⟨b1.1, by clear w0 w1 w2 w3 w4; omega⟩
          have w6 : IntKind.u64.wrap (c + (z + x * y)) = c + (z + x * y) := IntWalk.u64_in _ b2
          clear e0 e2 e3
          go_wp2
          go_quiet (fail)
          go_wp2
          clear w0 w1 w2 w3 w4 w5 w6
          have HP := (Kd.R_putg (Kd.R_drewN HR2.out nq) ((i : Int) + (k : Int)) ((c + (z + x * y)) % 4294967296)).1
          rw [ek] at HP
          go_roundw
          case rel => exact ⟨_, _, k + 1, rfl, by go_num, NX.out.1, NX.out.2.1, by omega, NX.out.2.2, ⟨HP⟩, ⟨below_set (pw_below_drewN HB2.out nq) hg⟩⟩
          case measure => simp [intOf]; omega
        · have hkl : k = l1.length := by omega
          subst hkl
          have e2 := HV2.out.1
          have ek : ((i : Int) + (l1.length : Int)).toNat = i + l1.length := by omega
          obtain ⟨x2, f2⟩ := Kd.R_celln 0 HR2.out ((i : Int) + (l1.length : Int)) (by omega) (by omega)
          rw [ek] at x2 f2
          have NX := Aside0.mk (mul_rel_outer (l0 := l0) (l1 := l1) (i := i) hc0 hc1 hgo HV.out HV2.out)
          have s1 : (0:Int) ≤ (i : Int) + (l1.length : Int) := by omega
          have s2 : (i : Int) + (l1.length : Int) < (out.length : Int) := by omega
          clear e0 e2
          go_wp2
          have HP := (Kd.R_putg HR2.out ((i : Int) + (l1.length : Int)) c).1
          rw [ek] at HP
          go_roundw
          case rel => exact ⟨_, i + 1, by go_num, by omega, NX.out, ⟨HP⟩, ⟨below_set HB2.out hg⟩⟩
          case measure => simp [intOf]; omega
    · have hil : i = l0.length := by omega
      subst hil
      have HT := Aside0.mk (trim_own HR.out HV.out.2.1 (by have := HV.out.1; omega) HB.out)
      have e0 : nv out = nv l0 * nv l1 := by
        have := HV.out.2.2.1
        rwa [nv_take_all (Nat.le_refl _)] at this
      have hlen : out.length ≤ l0.length + l1.length := by have := HV.out.1; omega
      have E0 := Aside0.mk e0
      clear e0
      go_wp2_with (go_at_call 30; ((with_reducible refine HT.out.mono ?_); rintro e w' ⟨u, rfl, hu, hb⟩; have HU := Aside0.mk hu; have HB3 := Aside0.mk hb; clear hu hb))
      go_ret
      exact ⟨_, rfl, (E0.out ▸ HU.out).mono hlen, HB3.out⟩
theorem natMul_any {w : World} {v v' : Value} {n m : Int} {L L' : Nat} (hv : IsNat w v n L) (hv' : IsNat w v' m L') (hL : L < 262144) (hL' : L' < 262144) :
    Calls Try.prog 26 #[v, v'] w fun e w' => ∃ u, e = .returned u ∧ IsNat w' u (n * m) (L + L') ∧ Below w.heap.size w w' := by
  obtain ⟨A, c, l, rfl, h2, h3, h4, rfl, h6⟩ := hv
  obtain ⟨A', c', l', rfl, h2', h3', h4', rfl, h6'⟩ := hv'
  refine (natMul_walk A c l A' c' l' h3 h4 h3' h4' (by omega) (by omega)).mono ?_
  rintro e w' ⟨u, rfl, hu, hb⟩
  exact ⟨u, rfl, hu.mono (by omega), hb⟩
end Go.Proofs.Ytbadlnbpoabdeaa
