/-
  THE WALK of norm: its answer is the sum of the squares.
-/
import Derived.Test.YtbadlnbpoabdeaaIntw
namespace Go.Proofs.Ytbadlnbpoabdeaa
open Go.RowKit Go.Proofs.YtbadlnbpoabdeaaW.PrintWords Go.Proofs.YtbadlnbpoabdeaaW.PrintLast Go.Proofs.YtbadlnbpoabdeaaW.PrintMore
open Dn

theorem two_new (w : World) (o0 o1 : Obj) : ((w.alloc o0).alloc o1).heap[w.heap.size]? = some o0 ∧ ((w.alloc o0).alloc o1).heap[w.heap.size + 1]? = some o1 ∧ Below w.heap.size w ((w.alloc o0).alloc o1) := by
  have e1 : (w.alloc o0).heap.size = w.heap.size + 1 := by simp
  refine ⟨blk_alloc (blk_new _ _) _, ?_, below_alloc (below_alloc (Below.refl _ _) _) _⟩
  rw [← e1]; exact blk_new _ _

set_option maxHeartbeats 400000 in
theorem norm_walk {w : World} (s s' : Bool) (A A' : Option Addr) (n n' c c' : Nat) {x y : Int} {L L' : Nat} (hx : IsNat w (.slice A n c) x L) (hy : IsNat w (.slice A' n' c') y L') (hL : L < 131072) (hL' : L' < 131072) :
    Calls Try.prog 21 #[.agg #[.bool s, .slice A n c], .agg #[.bool s', .slice A' n' c']] w fun e w' => ∃ u, e = .returned u ∧ IsNat w' u (x * x + y * y) (L + L + (L' + L') + 1) ∧ Below w.heap.size w w' := by
  obtain ⟨k0, k1, hb⟩ := two_new w (.cells #[.bool s, .slice A n c] 41) (.cells #[.bool s', .slice A' n' c'] 41)
  have HX := Aside0.mk hx
  have HY := Aside0.mk hy
  have K0 := Aside0.mk k0
  have K1 := Aside0.mk k1
  have HB := Aside0.mk hb
  clear hx hy k0 k1 hb
  go_enter Try.func21, Try.ntmps21
  go_wp2
  generalize ((w.alloc (Obj.cells #[Value.bool s, Value.slice A n c] 41)).alloc (Obj.cells #[Value.bool s', Value.slice A' n' c'] 41)) = W at *
  go_region_held3 (fun W' => W'.cell? ⟨w.heap.size, 1, none⟩ = some (.slice A n c) ∧ W'.cell? ⟨w.heap.size + 1, 1, none⟩ = some (.slice A' n' c'))
    (first
      | exact ⟨(blk_cell (blk_drew K0.out) 1).trans rfl, (blk_cell (blk_drew K1.out) 1).trans rfl⟩
      | exact ⟨(blk_cell R0.out 1).trans rfl, (blk_cell R1.out 1).trans rfl⟩
      | exact ⟨(blk_cell Q0.out 1).trans rfl, (blk_cell Q1.out 1).trans rfl⟩
      | exact ⟨(blk_cell M0.out 1).trans rfl, (blk_cell M1.out 1).trans rfl⟩)
    (first
      | (go_at_call 27
         refine (natAdd_any (HU1.out.below HB12.out) HU2.out (by omega) (by omega)).mono ?_
         rintro e w3 ⟨u3, rfl, hu, hb⟩
         have HU3 := Aside0.mk hu
         have R0 := Aside0.mk (blk_below Q0.out hb)
         have R1 := Aside0.mk (blk_below Q1.out hb)
         have HB3 := Aside0.mk (below_step HB2.out hb)
         clear hu hb)
      | (go_at_call 26
         ((with_reducible refine (natMul_any (HX.out.below (below_drew HB.out)) (HX.out.below (below_drew HB.out)) (by omega) (by omega)).mono ?_)
          rintro e w1 ⟨u1, rfl, hu, hb⟩
          obtain ⟨A1, k1, c1, rfl⟩ := hu.slice
          have HU1 := Aside0.mk hu
          have M0 := Aside0.mk (blk_below (blk_drew K0.out) hb)
          have M1 := Aside0.mk (blk_below (blk_drew K1.out) hb)
          have HB1 := Aside0.mk (below_step (below_drew HB.out) hb)
          clear hu hb))
      | (go_at_call 26
         ((with_reducible refine (natMul_any (HY.out.below HB1.out) (HY.out.below HB1.out) (by omega) (by omega)).mono ?_)
          rintro e w2 ⟨u2, rfl, hu, hb⟩
          obtain ⟨A2, k2, c2, rfl⟩ := hu.slice
          have HU2 := Aside0.mk hu
          have Q0 := Aside0.mk (blk_below M0.out hb)
          have Q1 := Aside0.mk (blk_below M1.out hb)
          have HB2 := Aside0.mk (below_step HB1.out hb)
          have HB12 := Aside0.mk hb
          clear hu hb)))
  go_wp2
  go_ret
  exact ⟨_, rfl, HU3.out, HB3.out⟩
theorem norm_any {w : World} {v v' : Value} {x y : Int} {L L' : Nat} (hv : IsInt w v x L) (hv' : IsInt w v' y L') (hL : L < 131072) (hL' : L' < 131072) :
    Calls Try.prog 21 #[v, v'] w fun e w' => ∃ u, e = .returned u ∧ IsNat w' u (x * x + y * y) (L + L + (L' + L') + 1) ∧ Below w.heap.size w w' := by
  obtain ⟨s, u, n, rfl, hu, rfl⟩ := hv
  obtain ⟨s', u', n', rfl, hu', rfl⟩ := hv'
  obtain ⟨A, k, c, rfl⟩ := hu.slice
  obtain ⟨A', k', c', rfl⟩ := hu'.slice
  have e : sgn s n * sgn s n + sgn s' n' * sgn s' n' = n * n + n' * n' := by
    cases s <;> cases s' <;> simp [sgn] <;> grind
  rw [e]
  exact norm_walk s s' A A' k k' c c' hu hu' hL hL'
end Go.Proofs.Ytbadlnbpoabdeaa
