/-
  THE WALK of NatAdd: its answer is the sum.
-/
import Derived.Test.YtbadlnbpoabdeaaNatw
import Derived.WalkSpells
namespace Go.Proofs.Ytbadlnbpoabdeaa
open Go.RowKit Go.Proofs.YtbadlnbpoabdeaaW.PrintWords Go.Proofs.YtbadlnbpoabdeaaW.PrintLast Go.Proofs.YtbadlnbpoabdeaaW.PrintMore
open Dn

theorem nfo54 : (Try.prog.info? 54).map (fun i => (i.zero, i.size, i.bytes)) = some (some (.int .u32 0), 1, 4) := PFnNearWhole.info54

/-- what trim gives of a row of the call's own -/
theorem trim_own {w W : World} {v : Value} {l : List Int} (h : Kd.R (Kd.int .u32) 54 W w.heap.size (fun k_ => w.heap.size ≤ k_) v l) (hd : Dg l) (hl : l.length < 1048576) (hb : Below w.heap.size w W) :
    Calls Try.prog 30 #[v] W fun e w' => ∃ u, e = .returned u ∧ IsNat w' u (nv l) l.length ∧ Below w.heap.size w w' := by
  obtain ⟨A, c, rfl⟩ := Kd.R_slice h
  obtain ⟨r, a1, a2, a3, a4⟩ := trimF_law l (by omega) hd (k := l.length + 1) (by omega)
  refine (PFnNearWhole.spec_trim.calls (l.length + 1) (fun k_ => some k_ = (.slice A l.length c : Value).ownBlock) A c l r W (Kd.R_V (Kd.R_tight rfl h)) a1).mono ?_
  rintro e w' ⟨u, rfl, hu, hb'⟩
  exact ⟨u, rfl, IsNat.of_V hu a4 a2 a3, below_step hb hb'⟩

theorem add_rel {l0 l1 out : List Int} {c x y : Int} {k M : Nat} (hc0 : 0 ≤ c) (hc1 : c ≤ 1) (hx : 0 ≤ x ∧ x < 4294967296) (hy : 0 ≤ y ∧ y < 4294967296) (hlast : k + 1 ≤ M ∨ (c + (x + y)) / 4294967296 = 0)
    (T0 : nv (l0.take (k + 1)) = nv (l0.take k) + bp k * x) (T1 : nv (l1.take (k + 1)) = nv (l1.take k) + bp k * y) (HV : out.length = k ∧ Dg out ∧ nv out + c * bp k = nv (l0.take k) + nv (l1.take k)) :
    0 ≤ (c + (x + y)) / 4294967296 ∧ (c + (x + y)) / 4294967296 ≤ 1 ∧ Aside0 (k + 1 ≤ M ∨ (c + (x + y)) / 4294967296 = 0) ∧
      Aside0 ((out ++ [(c + (x + y)) % 4294967296]).length = k + 1 ∧ Dg (out ++ [(c + (x + y)) % 4294967296]) ∧ nv (out ++ [(c + (x + y)) % 4294967296]) + (c + (x + y)) / 4294967296 * bp (k + 1) = nv (l0.take (k + 1)) + nv (l1.take (k + 1))) := by
  obtain ⟨h1, h2, h3⟩ := HV
  refine ⟨by omega, by omega, ⟨hlast⟩, ⟨by rw [List.length_append, h1, List.length_singleton], h2.append (Dg.one (by omega) (by omega)), ?_⟩⟩
  rw [nv_append, nv_one, h1, T0, T1, bp_succ]
  have e := Int.emod_add_mul_ediv (c + (x + y)) 4294967296
  grind

set_option maxHeartbeats 400000 in
theorem natAdd_walk1 {w : World} (A0 : Option Addr) (c0 : Nat) (l0 : List Int) (A1 : Option Addr) (c1 : Nat) (l1 : List Int) (r0 : Kd.C (Kd.int .u32) w A0 l0.length l0) (d0 : Dg l0)
    (r1 : Kd.C (Kd.int .u32) w A1 l1.length l1) (d1 : Dg l1) (hl0 : l0.length < 524288) (hl1 : l1.length < 524288) (hlt : l0.length < l1.length) :
    Calls Try.prog 27 #[.slice A0 l0.length c0, .slice A1 l1.length c1] w fun e w' => ∃ u, e = .returned u ∧ IsNat w' u (nv l0 + nv l1) (l1.length + 1) ∧ Below w.heap.size w w' := by
  have R0 := Aside0.mk r0
  have R1 := Aside0.mk r1
  have D0 := Aside0.mk d0
  have D1 := Aside0.mk d1
  clear r0 r1 d0 d1
  have HB := Aside0.mk (Below.refl w.heap.size w)
  go_enter Try.func27, Try.ntmps27
  go_wp2
  go_loopw [5, 6, 7] (fun v5 v6 v7 wr => ∃ (out : List Int) (c : Int) (k : Nat), v6 = .int .u64 c ∧ v7 = .int .i64 k ∧ 0 ≤ c ∧ c ≤ 1 ∧ k ≤ l1.length + 1 ∧ Aside0 (k ≤ l1.length ∨ c = 0) ∧
      Aside0 (out.length = k ∧ Dg out ∧ nv out + c * bp k = nv (l0.take k) + nv (l1.take k)) ∧ Aside0 (Kd.R (Kd.int .u32) 54 wr w.heap.size (fun k_ => w.heap.size ≤ k_) v5 out) ∧ Aside0 (Below w.heap.size w wr)) (fun _ _ i _ => l1.length + 1 - (intOf i).toNat)
  case atStart => exact ⟨[], 0, 0, rfl, rfl, by omega, by omega, by omega, ⟨.inr rfl⟩, ⟨rfl, Dg.nil, by simp [nv]⟩, ⟨Kd.R_nil _ _ _ _ _⟩, HB⟩
  case round =>
    obtain ⟨out, c, k, rfl, rfl, hc0, hc1, hk, HK, HV, HR, HB⟩ := hrel
    have hk0 : (0:Int) ≤ (k : Int) := by omega
    by_cases hgo : k < l1.length ∨ c = 1
    · have H0 := Aside0.mk (digit_any (w := wr) A0 c0 l0 k (Kd.C_below R0.out HB.out) D0.out)
      have H1 := Aside0.mk (fun n => digit_any (w := wr.drewN n) A1 c1 l1 k (Kd.C_below R1.out (pw_below_drewN HB.out n)) D1.out)
      have q0 := D0.out.dg k
      have q1 := D1.out.dg k
      have T0 := Aside0.mk (nv_take_succ l0 k)
      have T1 := Aside0.mk (nv_take_succ l1 k)
      have hxy : l1.length ≤ k → dg l0 k = 0 ∧ dg l1 k = 0 := fun h => ⟨dg_of_ge (by omega), dg_of_ge (by omega)⟩
      generalize dg l0 k = x at *
      generalize dg l1 k = y at *
      have hlen : out.length < 1048576 := by have := HV.out.1; omega
      have hk2 : k ≤ l1.length := by rcases HK.out with h | h <;> omega
      have hx : 0 ≤ c + (x + y) ∧ c + (x + y) < 8589934592 := by omega
      have hlast : k + 1 ≤ l1.length ∨ (c + (x + y)) / 4294967296 = 0 := by
        by_cases h : k < l1.length
        · left; omega
        · right; have := hxy (by omega); omega
      have NX := Aside0.mk (add_rel hc0 hc1 q0 q1 hlast T0.out T1.out HV.out)
      clear HK hxy hlast
      by_cases hk1 : k < l1.length
      · go_wp2_with (first | (go_at_call 29; ((with_reducible refine H0.out.mono ?_); rintro e w' ⟨rfl, n1, rfl⟩)) | (go_at_call 29; ((with_reducible refine (H1.out _).mono ?_); rintro e w' ⟨rfl, n1, rfl⟩)) | ((with_reducible refine gate_builtin (b := .append) (xs := #[.tmp 30, .tmp 33]) rfl ?_); go_must (refine Kd.R_append (Kd.int .u32) (w0 := w) w.heap.size rfl (.tmp 30) (.tmp 33) 39 54 (.int .u32 0) 4 rfl Try.underlying39 nfo54 rfl (by decide) (by decide) u5 out ((c + (x + y)) % 4294967296) [.int .u32 ((c + (x + y)) % 4294967296)] (fun k_ => w.heap.size ≤ k_) (fun _ => False) rfl rfl rfl (fun _ hk => hk.elim) ?aF ?aO ?aB ?aS ?aL ?_; (case aB => exact pw_below_drewN HB.out _); (case aF => exact fun k_ hk => Nat.le_trans (below_size (pw_below_drewN HB.out _)) hk); (case aO => exact Kd.R_drewN HR.out _); (case aS => exact below_size (pw_below_drewN HB.out _)); (case aL => omega); intro v121 w7 ho hb hg hat; have HO := Aside0.mk ho; have HB2 := Aside0.mk hb; clear ho hb hg hat)))
        go_roundw
        case rel => exact ⟨_, _, k + 1, rfl, by go_num, NX.out.1, NX.out.2.1, by omega, NX.out.2.2.1, NX.out.2.2.2, HO, HB2⟩
        case measure => simp [intOf]; omega
      · have hc : c = 1 := by omega
        subst hc
        go_wp2_with (first | (go_at_call 29; ((with_reducible refine H0.out.mono ?_); rintro e w' ⟨rfl, n1, rfl⟩)) | (go_at_call 29; ((with_reducible refine (H1.out _).mono ?_); rintro e w' ⟨rfl, n1, rfl⟩)) | ((with_reducible refine gate_builtin (b := .append) (xs := #[.tmp 30, .tmp 33]) rfl ?_); go_must (refine Kd.R_append (Kd.int .u32) (w0 := w) w.heap.size rfl (.tmp 30) (.tmp 33) 39 54 (.int .u32 0) 4 rfl Try.underlying39 nfo54 rfl (by decide) (by decide) u5 out ((1 + (x + y)) % 4294967296) [.int .u32 ((1 + (x + y)) % 4294967296)] (fun k_ => w.heap.size ≤ k_) (fun _ => False) rfl rfl rfl (fun _ hk => hk.elim) ?aF ?aO ?aB ?aS ?aL ?_; (case aB => exact pw_below_drewN HB.out _); (case aF => exact fun k_ hk => Nat.le_trans (below_size (pw_below_drewN HB.out _)) hk); (case aO => exact Kd.R_drewN HR.out _); (case aS => exact below_size (pw_below_drewN HB.out _)); (case aL => omega); intro v121 w7 ho hb hg hat; have HO := Aside0.mk ho; have HB2 := Aside0.mk hb; clear ho hb hg hat)))
        go_roundw
        case rel => exact ⟨_, _, k + 1, rfl, by go_num, NX.out.1, NX.out.2.1, by omega, NX.out.2.2.1, NX.out.2.2.2, HO, HB2⟩
        case measure => simp [intOf]; omega
    · have hk1 : ¬ k < l1.length := by omega
      have hc : c = 0 := by omega
      subst hc
      have e0 : nv out = nv l0 + nv l1 := by
        have := HV.out.2.2
        rw [nv_take_all (by omega), nv_take_all (by omega)] at this
        omega
      have hlen : out.length ≤ l1.length + 1 := by have := HV.out.1; omega
      have HT := Aside0.mk (trim_own HR.out HV.out.2.1 (by omega) HB.out)
      have E0 := Aside0.mk e0
      clear e0 hgo
      go_wp2_with (go_at_call 30; ((with_reducible refine HT.out.mono ?_); rintro e w' ⟨u, rfl, hu, hb⟩; have HU := Aside0.mk hu; have HB3 := Aside0.mk hb; clear hu hb))
      go_ret
      exact ⟨_, rfl, (E0.out ▸ HU.out).mono hlen, HB3.out⟩
set_option maxHeartbeats 400000 in
theorem natAdd_walk2 {w : World} (A0 : Option Addr) (c0 : Nat) (l0 : List Int) (A1 : Option Addr) (c1 : Nat) (l1 : List Int) (r0 : Kd.C (Kd.int .u32) w A0 l0.length l0) (d0 : Dg l0)
    (r1 : Kd.C (Kd.int .u32) w A1 l1.length l1) (d1 : Dg l1) (hl0 : l0.length < 524288) (hlt : l1.length ≤ l0.length) :
    Calls Try.prog 27 #[.slice A0 l0.length c0, .slice A1 l1.length c1] w fun e w' => ∃ u, e = .returned u ∧ IsNat w' u (nv l0 + nv l1) (l0.length + 1) ∧ Below w.heap.size w w' := by
  have R0 := Aside0.mk r0
  have R1 := Aside0.mk r1
  have D0 := Aside0.mk d0
  have D1 := Aside0.mk d1
  clear r0 r1 d0 d1
  have HB := Aside0.mk (Below.refl w.heap.size w)
  go_enter Try.func27, Try.ntmps27
  go_wp2
  go_loopw [5, 6, 7] (fun v5 v6 v7 wr => ∃ (out : List Int) (c : Int) (k : Nat), v6 = .int .u64 c ∧ v7 = .int .i64 k ∧ 0 ≤ c ∧ c ≤ 1 ∧ k ≤ l0.length + 1 ∧ Aside0 (k ≤ l0.length ∨ c = 0) ∧
      Aside0 (out.length = k ∧ Dg out ∧ nv out + c * bp k = nv (l0.take k) + nv (l1.take k)) ∧ Aside0 (Kd.R (Kd.int .u32) 54 wr w.heap.size (fun k_ => w.heap.size ≤ k_) v5 out) ∧ Aside0 (Below w.heap.size w wr)) (fun _ _ i _ => l0.length + 1 - (intOf i).toNat)
  case atStart => exact ⟨[], 0, 0, rfl, rfl, by omega, by omega, by omega, ⟨.inr rfl⟩, ⟨rfl, Dg.nil, by simp [nv]⟩, ⟨Kd.R_nil _ _ _ _ _⟩, HB⟩
  case round =>
    obtain ⟨out, c, k, rfl, rfl, hc0, hc1, hk, HK, HV, HR, HB⟩ := hrel
    have hk0 : (0:Int) ≤ (k : Int) := by omega
    by_cases hgo : k < l0.length ∨ c = 1
    · have H0 := Aside0.mk (digit_any (w := wr) A0 c0 l0 k (Kd.C_below R0.out HB.out) D0.out)
      have H1 := Aside0.mk (fun n => digit_any (w := wr.drewN n) A1 c1 l1 k (Kd.C_below R1.out (pw_below_drewN HB.out n)) D1.out)
      have q0 := D0.out.dg k
      have q1 := D1.out.dg k
      have T0 := Aside0.mk (nv_take_succ l0 k)
      have T1 := Aside0.mk (nv_take_succ l1 k)
      have hxy : l0.length ≤ k → dg l0 k = 0 ∧ dg l1 k = 0 := fun h => ⟨dg_of_ge (by omega), dg_of_ge (by omega)⟩
      generalize dg l0 k = x at *
      generalize dg l1 k = y at *
      have hlen : out.length < 1048576 := by have := HV.out.1; omega
      have hk2 : k ≤ l0.length := by rcases HK.out with h | h <;> omega
      have hx : 0 ≤ c + (x + y) ∧ c + (x + y) < 8589934592 := by omega
      have hlast : k + 1 ≤ l0.length ∨ (c + (x + y)) / 4294967296 = 0 := by
        by_cases h : k < l0.length
        · left; omega
        · right; have := hxy (by omega); omega
      have NX := Aside0.mk (add_rel hc0 hc1 q0 q1 hlast T0.out T1.out HV.out)
      clear HK hxy hlast
      by_cases hk1 : k < l0.length
      · go_wp2_with (first | (go_at_call 29; ((with_reducible refine H0.out.mono ?_); rintro e w' ⟨rfl, n1, rfl⟩)) | (go_at_call 29; ((with_reducible refine (H1.out _).mono ?_); rintro e w' ⟨rfl, n1, rfl⟩)) | ((with_reducible refine gate_builtin (b := .append) (xs := #[.tmp 30, .tmp 33]) rfl ?_); go_must (refine Kd.R_append (Kd.int .u32) (w0 := w) w.heap.size rfl (.tmp 30) (.tmp 33) 39 54 (.int .u32 0) 4 rfl Try.underlying39 nfo54 rfl (by decide) (by decide) u5 out ((c + (x + y)) % 4294967296) [.int .u32 ((c + (x + y)) % 4294967296)] (fun k_ => w.heap.size ≤ k_) (fun _ => False) rfl rfl rfl (fun _ hk => hk.elim) ?aF ?aO ?aB ?aS ?aL ?_; (case aB => exact pw_below_drewN HB.out _); (case aF => exact fun k_ hk => Nat.le_trans (below_size (pw_below_drewN HB.out _)) hk); (case aO => exact Kd.R_drewN HR.out _); (case aS => exact below_size (pw_below_drewN HB.out _)); (case aL => omega); intro v121 w7 ho hb hg hat; have HO := Aside0.mk ho; have HB2 := Aside0.mk hb; clear ho hb hg hat)))
        go_roundw
        case rel => exact ⟨_, _, k + 1, rfl, by go_num, NX.out.1, NX.out.2.1, by omega, NX.out.2.2.1, NX.out.2.2.2, HO, HB2⟩
        case measure => simp [intOf]; omega
      · have hc : c = 1 := by omega
        subst hc
        go_wp2_with (first | (go_at_call 29; ((with_reducible refine H0.out.mono ?_); rintro e w' ⟨rfl, n1, rfl⟩)) | (go_at_call 29; ((with_reducible refine (H1.out _).mono ?_); rintro e w' ⟨rfl, n1, rfl⟩)) | ((with_reducible refine gate_builtin (b := .append) (xs := #[.tmp 30, .tmp 33]) rfl ?_); go_must (refine Kd.R_append (Kd.int .u32) (w0 := w) w.heap.size rfl (.tmp 30) (.tmp 33) 39 54 (.int .u32 0) 4 rfl Try.underlying39 nfo54 rfl (by decide) (by decide) u5 out ((1 + (x + y)) % 4294967296) [.int .u32 ((1 + (x + y)) % 4294967296)] (fun k_ => w.heap.size ≤ k_) (fun _ => False) rfl rfl rfl (fun _ hk => hk.elim) ?aF ?aO ?aB ?aS ?aL ?_; (case aB => exact pw_below_drewN HB.out _); (case aF => exact fun k_ hk => Nat.le_trans (below_size (pw_below_drewN HB.out _)) hk); (case aO => exact Kd.R_drewN HR.out _); (case aS => exact below_size (pw_below_drewN HB.out _)); (case aL => omega); intro v121 w7 ho hb hg hat; have HO := Aside0.mk ho; have HB2 := Aside0.mk hb; clear ho hb hg hat)))
        go_roundw
        case rel => exact ⟨_, _, k + 1, rfl, by go_num, NX.out.1, NX.out.2.1, by omega, NX.out.2.2.1, NX.out.2.2.2, HO, HB2⟩
        case measure => simp [intOf]; omega
    · have hk1 : ¬ k < l0.length := by omega
      have hc : c = 0 := by omega
      subst hc
      have e0 : nv out = nv l0 + nv l1 := by
        have := HV.out.2.2
        rw [nv_take_all (by omega), nv_take_all (by omega)] at this
        omega
      have hlen : out.length ≤ l0.length + 1 := by have := HV.out.1; omega
      have HT := Aside0.mk (trim_own HR.out HV.out.2.1 (by omega) HB.out)
      have E0 := Aside0.mk e0
      clear e0 hgo
      go_wp2_with (go_at_call 30; ((with_reducible refine HT.out.mono ?_); rintro e w' ⟨u, rfl, hu, hb⟩; have HU := Aside0.mk hu; have HB3 := Aside0.mk hb; clear hu hb))
      go_ret
      exact ⟨_, rfl, (E0.out ▸ HU.out).mono hlen, HB3.out⟩

theorem natAdd_any {w : World} {v v' : Value} {n m : Int} {L L' : Nat} (hv : IsNat w v n L) (hv' : IsNat w v' m L') (hL : L < 524288) (hL' : L' < 524288) :
    Calls Try.prog 27 #[v, v'] w fun e w' => ∃ u, e = .returned u ∧ IsNat w' u (n + m) (L + L' + 1) ∧ Below w.heap.size w w' := by
  obtain ⟨A, c, l, rfl, h2, h3, h4, rfl, h6⟩ := hv
  obtain ⟨A', c', l', rfl, h2', h3', h4', rfl, h6'⟩ := hv'
  by_cases h : l.length < l'.length
  · refine (natAdd_walk1 A c l A' c' l' h3 h4 h3' h4' (by omega) (by omega) h).mono ?_
    rintro e w' ⟨u, rfl, hu, hb⟩
    exact ⟨u, rfl, hu.mono (by omega), hb⟩
  · refine (natAdd_walk2 A c l A' c' l' h3 h4 h3' h4' (by omega) (by omega)).mono ?_
    rintro e w' ⟨u, rfl, hu, hb⟩
    exact ⟨u, rfl, hu.mono (by omega), hb⟩
end Go.Proofs.Ytbadlnbpoabdeaa
