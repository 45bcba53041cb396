/-
  THE WALKS of NatSub (of a number that is not greater: the difference) and NatOf (the digits of a number of 64 bits).
-/
import Derived.Test.YtbadlnbpoabdeaaAddw
namespace Go.Proofs.Ytbadlnbpoabdeaa
open Go.RowKit Go.Proofs.YtbadlnbpoabdeaaW.PrintWords Go.Proofs.YtbadlnbpoabdeaaW.PrintLast Go.Proofs.YtbadlnbpoabdeaaW.PrintMore
open Dn

set_option maxHeartbeats 400000 in
theorem natSub_walk {w : World} (A0 : Option Addr) (c0 : Nat) (l0 : List Int) (A1 : Option Addr) (c1 : Nat) (l1 : List Int) (r0 : Kd.C (Kd.int .u32) w A0 l0.length l0) (d0 : Dg l0)
    (r1 : Kd.C (Kd.int .u32) w A1 l1.length l1) (d1 : Dg l1) (hl0 : l0.length < 1048576) (hle : nv l1 ≤ nv l0) :
    Calls Try.prog 28 #[.slice A0 l0.length c0, .slice A1 l1.length c1] w fun e w' => ∃ u, e = .returned u ∧ IsNat w' u (nv l0 - nv l1) l0.length ∧ Below w.heap.size w w' := by
  have R0 := Aside0.mk r0
  have R1 := Aside0.mk r1
  have D0 := Aside0.mk d0
  have D1 := Aside0.mk d1
  have HLE := Aside0.mk hle
  clear r0 r1 d0 d1 hle
  have HB := Aside0.mk (Below.refl w.heap.size w)
  go_enter Try.func28, Try.ntmps28
  go_wp2
  go_loopw [5, 6, 7] (fun v5 v6 v7 wr => ∃ (out : List Int) (bo : Int) (k : Nat), v6 = .int .u64 bo ∧ v7 = .int .i64 k ∧ 0 ≤ bo ∧ bo ≤ 1 ∧ k ≤ l0.length ∧
      Aside0 (out.length = k ∧ Dg out ∧ nv out = nv (l0.take k) - nv (l1.take k) + bo * bp k) ∧ Aside0 (Kd.R (Kd.int .u32) 54 wr w.heap.size (fun k_ => w.heap.size ≤ k_) v5 out) ∧ Aside0 (Below w.heap.size w wr)) (fun _ _ i _ => l0.length - (intOf i).toNat)
  case atStart => exact ⟨[], 0, 0, rfl, rfl, by omega, by omega, by omega, ⟨rfl, Dg.nil, by simp [nv]⟩, ⟨Kd.R_nil _ _ _ _ _⟩, HB⟩
  case round =>
    obtain ⟨out, bo, k, rfl, rfl, hb0, hb1, hk, HV, HR, HB⟩ := hrel
    have hk0 : (0:Int) ≤ (k : Int) := by omega
    by_cases hk1 : k < l0.length
    · have H0 := Aside0.mk (digit_any (w := wr) A0 c0 l0 k (Kd.C_below R0.out HB.out) D0.out)
      have H1 := Aside0.mk (fun n => digit_any (w := wr.drewN n) A1 c1 l1 k (Kd.C_below R1.out (pw_below_drewN HB.out n)) D1.out)
      have q0 := D0.out.dg k
      have q1 := D1.out.dg k
      have T0 := Aside0.mk (nv_take_succ l0 k)
      have T1 := Aside0.mk (nv_take_succ l1 k)
      generalize dg l0 k = x at *
      generalize dg l1 k = y at *
      have hlen : out.length < 1048576 := by have := HV.out.1; omega
      have hx : 0 ≤ 4294967296 + x - y - bo ∧ 4294967296 + x - y - bo < 8589934592 := by omega
      have NX := Aside0.mk (sub_rel hb0 hb1 q0 q1 T0.out T1.out HV.out)
      have hq := NX.out.1
      have hq1 := NX.out.2.1
      go_wp2_with (first | (go_at_call 29; ((with_reducible refine H0.out.mono ?_); rintro e w' ⟨rfl, n1, rfl⟩)) | (go_at_call 29; ((with_reducible refine (H1.out _).mono ?_); rintro e w' ⟨rfl, n1, rfl⟩)) | ((with_reducible refine gate_builtin (b := .append) (xs := #[.tmp 25, .tmp 28]) rfl ?_); go_must (refine Kd.R_append (Kd.int .u32) (w0 := w) w.heap.size rfl (.tmp 25) (.tmp 28) 39 54 (.int .u32 0) 4 rfl Try.underlying39 nfo54 rfl (by decide) (by decide) u5 out ((4294967296 + x - y - bo) % 4294967296) [.int .u32 ((4294967296 + x - y - bo) % 4294967296)] (fun k_ => w.heap.size ≤ k_) (fun _ => False) rfl rfl rfl (fun _ hk => hk.elim) ?aF ?aO ?aB ?aS ?aL ?_; (case aB => exact pw_below_drewN HB.out _); (case aF => exact fun k_ hk => Nat.le_trans (below_size (pw_below_drewN HB.out _)) hk); (case aO => exact Kd.R_drewN HR.out _); (case aS => exact below_size (pw_below_drewN HB.out _)); (case aL => omega); intro v121 w7 ho hb hg hat; have HO := Aside0.mk ho; have HB2 := Aside0.mk hb; clear ho hb hg hat)))
      go_roundw
      case rel => exact ⟨_, _, k + 1, rfl, by go_num, hq, hq1, by omega, ⟨NX.out.2.2⟩, HO, HB2⟩
      case measure => simp [intOf]; omega
    · have hk2 : k = l0.length := by omega
      subst hk2
      have E0 := Aside0.mk (sub_end D0.out D1.out hb0 hb1 HLE.out HV.out)
      have HT := Aside0.mk (trim_own HR.out HV.out.2.1 (by have := HV.out.1; omega) HB.out)
      have hlen : out.length ≤ l0.length := by have := HV.out.1; omega
      go_wp2_with (go_at_call 30; ((with_reducible refine HT.out.mono ?_); rintro e w' ⟨u, rfl, hu, hb⟩; have HU := Aside0.mk hu; have HB3 := Aside0.mk hb; clear hu hb))
      go_ret
      exact ⟨_, rfl, (E0.out ▸ HU.out).mono hlen, HB3.out⟩
theorem natSub_any {w : World} {v v' : Value} {n m : Int} {L L' : Nat} (hv : IsNat w v n L) (hv' : IsNat w v' m L') (hL : L < 1048576) (hle : m ≤ n) :
    Calls Try.prog 28 #[v, v'] w fun e w' => ∃ u, e = .returned u ∧ IsNat w' u (n - m) L ∧ Below w.heap.size w w' := by
  obtain ⟨A, c, l, rfl, h2, h3, h4, rfl, h6⟩ := hv
  obtain ⟨A', c', l', rfl, h2', h3', h4', rfl, h6'⟩ := hv'
  refine (natSub_walk A c l A' c' l' h3 h4 h3' h4' (by omega) hle).mono ?_
  rintro e w' ⟨u, rfl, hu, hb⟩
  exact ⟨u, rfl, hu.mono h6, hb⟩

/-- Two digits in a block of their own, as a row that is read. -/
theorem pair_V {W : World} {g : Nat} {x y : Int} (h : W.heap[g]? = some (.cells #[.int .u32 x, .int .u32 y] 54 (0, 0))) : Kd.V (Kd.int .u32) 54 W W.heap.size (fun _ => True) (.slice (some ⟨g, 0, none⟩) ([x, y] : List Int).length 2) [x, y] := by
  refine ⟨_, _, rfl, Nat.le_refl _, fun W' hW => ?_⟩
  have h' : W'.heap[g]? = some (.cells #[.int .u32 x, .int .u32 y] 54 (0, 0)) := (hW g trivial (blk_lt h)).trans h
  refine Kd.C_of_reads (d := (0 : Int)) (h1 := fun _ => rfl) ⟨rfl, by simp, fun _ => ⟨_, rfl, fun j hj => ?_⟩⟩
  rw [add_plain]
  have hj2 : j = 0 ∨ j = 1 := by
    have : j < 2 := hj
    omega
  rcases hj2 with rfl | rfl
  · exact (blk_cell h' 0).trans rfl
  · exact (blk_cell h' 1).trans rfl

set_option maxHeartbeats 400000 in
theorem natOf_any (w : World) (n : Int) (h0 : 0 ≤ n) (h1 : n < 18446744073709551616) :
    Calls Try.prog 25 #[.int .u64 n] w fun e w' => ∃ u, e = .returned u ∧ IsNat w' u n 2 ∧ Below w.heap.size w w' := by
  have hd : Dg [n % 4294967296, n / 4294967296] := Dg.cons (by omega) (by omega) (Dg.one (by omega) (by omega))
  have hn : nv [n % 4294967296, n / 4294967296] = n := by simp only [nv]; omega
  obtain ⟨r, a1, a2, a3, a4⟩ := trimF_law [n % 4294967296, n / 4294967296] (by simp) hd (k := 3) (by simp)
  have HC := Aside0.mk (PFnNearWhole.spec_trim.calls 3 (fun _ => True) (some ⟨w.heap.size, 0, none⟩) 2 [n % 4294967296, n / 4294967296] r (w.alloc (.cells #[.int .u32 (n % 4294967296), .int .u32 (n / 4294967296)] 54)) (pair_V (blk_new w _)) a1)
  have HD := Aside0.mk a4
  have HN := Aside0.mk (a2.trans hn)
  have HL : r.length ≤ 2 := a3
  clear hd hn a1 a2 a3 a4
  go_enter Try.func25, Try.ntmps25
  go_wp2_with (go_at_call 30; (refine HC.out.mono ?_; rintro e w' ⟨u, rfl, hu, hb⟩; have HU := Aside0.mk (IsNat.of_V hu HD.out HN.out HL); have HB := Aside0.mk (below_step (below_alloc (Below.refl _ _) _) hb); clear hu hb))
  go_ret
  exact ⟨_, rfl, HU.out, HB.out⟩
end Go.Proofs.Ytbadlnbpoabdeaa
