/-
  THE WALKS of the whole numbers: Minus, Plus, Times, norm: what each call gives, as values.
-/
import Derived.Test.YtbadlnbpoabdeaaMulw
import Derived.WalkSpells
import Derived.StillTailTactics
import Derived.Deep.RegionHeld3
namespace Go.Proofs.Ytbadlnbpoabdeaa
open Go.RowKit Go.Proofs.YtbadlnbpoabdeaaW.PrintWords Go.Proofs.YtbadlnbpoabdeaaW.PrintLast Go.Proofs.YtbadlnbpoabdeaaW.PrintMore
open Dn

theorem IsNat.slice {w : World} {v : Value} {n : Int} {L : Nat} (h : IsNat w v n L) : ∃ A k c, v = .slice A k c := by
  obtain ⟨A, c, l, h1, _⟩ := h
  exact ⟨A, l.length, c, h1⟩
/-- a number by its sign and its size -/
def sgn (s : Bool) (n : Int) : Int := if s = true then -n else n
/-- v is a struct of a sign and digits, at most L, of value z. -/
def IsInt (w : World) (v : Value) (z : Int) (L : Nat) : Prop := ∃ s u n, v = .agg #[.bool s, u] ∧ IsNat w u n L ∧ z = sgn s n
theorem IsInt.below {w w' : World} {v : Value} {n : Int} {L : Nat} (h : IsInt w v n L) (hb : Below w.heap.size w w') : IsInt w' v n L := by
  obtain ⟨s, u, n, h1, h2, h3⟩ := h
  exact ⟨s, u, n, h1, h2.below hb, h3⟩
theorem IsInt.mono {w : World} {v : Value} {n : Int} {L L' : Nat} (h : IsInt w v n L) (hl : L ≤ L') : IsInt w v n L' := by
  obtain ⟨s, u, n, h1, h2, h3⟩ := h
  exact ⟨s, u, n, h1, h2.mono hl, h3⟩

set_option maxHeartbeats 400000 in
theorem minus_walk (w : World) (s : Bool) (A : Option Addr) (n c : Nat) :
    Calls Try.prog 18 #[.agg #[.bool s, .slice A n c]] w fun e w' => e = .returned (.agg #[.bool (!s), .slice A n c]) ∧ Below w.heap.size w w' := by
  go_enter Try.func18, Try.ntmps18
  go_wp2
  exact bodyPost_ret (v := .agg #[.bool (!s), .slice A n c]) (by simp [results, Try.results18, go_sem]) rfl ⟨rfl, below_alloc (below_alloc (Below.refl _ _) _) _⟩
theorem minus_any {w : World} {v : Value} {z : Int} {L : Nat} (h : IsInt w v z L) :
    Calls Try.prog 18 #[v] w fun e w' => ∃ u, e = .returned u ∧ IsInt w' u (-z) L ∧ Below w.heap.size w w' := by
  obtain ⟨s, u, n, rfl, hu, rfl⟩ := h
  obtain ⟨A, c, l, rfl, h2⟩ := hu
  refine (minus_walk w s A l.length c).mono ?_
  rintro e w' ⟨rfl, hb⟩
  refine ⟨_, rfl, ⟨!s, _, n, rfl, IsNat.below ⟨A, c, l, rfl, h2⟩ hb, ?_⟩, hb⟩
  cases s <;> simp [sgn]

/-- A store into a cell that holds no number leaves the digits alone. -/
theorem IsNat.put {w : World} {v x : Value} {n : Int} {L : Nat} {a : Addr} (h : IsNat w v n L) (hx : w.cell? a = some x) (hne : ∀ k z, x ≠ .int k z) (y : Value) : IsNat (w.setCell a y) v n L := by
  obtain ⟨A, c, l, rfl, h2, h3, h4⟩ := h
  refine ⟨A, c, l, rfl, h2, ⟨h3.1, h3.2.1, fun hn => ?_⟩, h4⟩
  obtain ⟨ad, e, hc⟩ := h3.2.2 hn
  refine ⟨ad, e, fun j p hp => ?_⟩
  obtain ⟨cs, hl, hK, hcell⟩ := hc j p hp
  refine ⟨cs, hl, hK, fun i u hu => ?_⟩
  have hk := hcell i u hu
  have hK' : cs = [Value.int .u32 p] := hK
  have hu' : u = .int .u32 p := by
    rw [hK'] at hu
    cases i with
    | zero => simpa using hu.symm
    | succ i => simp at hu
  rw [World.cell?_setCell_other]
  · exact hk
  · intro ea
    rw [ea, hk] at hx
    exact hne .u32 p (by rw [← hu']; injection hx with hx; exact hx.symm)
/-- A struct's two cells filled: the digits stay. -/
theorem IsNat.fill {w : World} {v : Value} {n : Int} {L g : Nat} {b : Bool} (h : IsNat w v n L) (k : w.heap[g]? = some (.cells #[.bool b, .slice none 0 0] 41 (0, 0))) (x y : Value) : IsNat ((w.setCell ⟨g, 0, none⟩ x).setCell ⟨g, 1, none⟩ y) v n L := by
  have c0 : w.cell? ⟨g, 0, none⟩ = some (.bool b) := (blk_cell k 0).trans rfl
  have c1 : w.cell? ⟨g, 1, none⟩ = some (.slice none 0 0) := (blk_cell k 1).trans rfl
  refine IsNat.put (x := .slice none 0 0) (h.put c0 (fun _ _ e => by cases e) x) ?_ (fun _ _ e => by cases e) y
  exact (World.cell?_setCell_other w ⟨g, 0, none⟩ ⟨g, 1, none⟩ x (by simp)).trans c1
theorem blk_off {w : World} {g g' j : Nat} {u : Value} {o : Obj} (h : w.heap[g]? = some o) (hne : g ≠ g') : (w.setCell ⟨g', j, none⟩ u).heap[g]? = some o := (Below.heap_setCell w ⟨g', j, none⟩ u g hne).trans h
theorem three_new (w : World) (o0 o1 o2 : Obj) : (((w.alloc o0).alloc o1).alloc o2).heap[w.heap.size]? = some o0 ∧ (((w.alloc o0).alloc o1).alloc o2).heap[w.heap.size + 1]? = some o1 ∧ (((w.alloc o0).alloc o1).alloc o2).heap[w.heap.size + 1 + 1]? = some o2 ∧
    Below w.heap.size w (((w.alloc o0).alloc o1).alloc o2) := by
  have e1 : (w.alloc o0).heap.size = w.heap.size + 1 := by simp
  have e2 : ((w.alloc o0).alloc o1).heap.size = w.heap.size + 1 + 1 := by simp
  refine ⟨blk_alloc (blk_alloc (blk_new _ _) _) _, ?_, ?_, below_alloc (below_alloc (below_alloc (Below.refl _ _) _) _) _⟩
  · rw [← e1]; exact blk_alloc (blk_new _ _) _
  · rw [← e2]; exact blk_new _ _

set_option maxHeartbeats 400000 in
theorem times_walk {w : World} (s s' : Bool) (A A' : Option Addr) (n n' c c' : Nat) {x y : Int} {L L' : Nat} (hx : IsNat w (.slice A n c) x L) (hy : IsNat w (.slice A' n' c') y L') (hL : L < 262144) (hL' : L' < 262144) :
    Calls Try.prog 16 #[.agg #[.bool s, .slice A n c], .agg #[.bool s', .slice A' n' c']] w fun e w' => ∃ u, e = .returned (.agg #[.bool (s != s'), u]) ∧ IsNat w' u (x * y) (L + L') ∧ Below w.heap.size w w' := by
  obtain ⟨k0, k1, k2, hb⟩ := three_new w (.cells #[.bool s, .slice A n c] 41) (.cells #[.bool s', .slice A' n' c'] 41) (.cells #[.bool false, .slice none 0 0] 41)
  have HX := Aside0.mk hx
  have HY := Aside0.mk hy
  have K0 := Aside0.mk k0
  have K1 := Aside0.mk k1
  have K2 := Aside0.mk k2
  have HB := Aside0.mk hb
  clear hx hy k0 k1 k2 hb
  go_enter Try.func16, Try.ntmps16
  go_wp2
  generalize (((w.alloc (Obj.cells #[Value.bool s, Value.slice A n c] 41)).alloc (Obj.cells #[Value.bool s', Value.slice A' n' c'] 41)).alloc (Obj.cells #[Value.bool false, Value.slice none 0 0] 41)) = W at *
  go_region_held3 (fun W' => W'.cell? ⟨w.heap.size, 0, none⟩ = some (.bool s) ∧ W'.cell? ⟨w.heap.size, 1, none⟩ = some (.slice A n c) ∧ W'.cell? ⟨w.heap.size + 1, 0, none⟩ = some (.bool s') ∧ W'.cell? ⟨w.heap.size + 1, 1, none⟩ = some (.slice A' n' c'))
    (first
      | exact ⟨(blk_cell (blk_drew K0.out) 0).trans rfl, (blk_cell (blk_drew K0.out) 1).trans rfl, (blk_cell (blk_drew K1.out) 0).trans rfl, (blk_cell (blk_drew K1.out) 1).trans rfl⟩
      | exact ⟨(blk_cell M0.out 0).trans rfl, (blk_cell M0.out 1).trans rfl, (blk_cell M1.out 0).trans rfl, (blk_cell M1.out 1).trans rfl⟩
      | exact ⟨(blk_cell (blk_off (blk_off M0.out (by omega)) (by omega)) 0).trans rfl, (blk_cell (blk_off (blk_off M0.out (by omega)) (by omega)) 1).trans rfl, (blk_cell (blk_off (blk_off M1.out (by omega)) (by omega)) 0).trans rfl, (blk_cell (blk_off (blk_off M1.out (by omega)) (by omega)) 1).trans rfl⟩)
    (first
      | (go_at_call 26
         refine (natMul_any (HX.out.below (below_drew HB.out)) (HY.out.below (below_drew HB.out)) hL hL').mono ?_
         rintro e w' ⟨u, rfl, hu, hb⟩
         obtain ⟨Au, ku, cu, rfl⟩ := hu.slice
         have HU := Aside0.mk hu
         have M0 := Aside0.mk (blk_below (blk_drew K0.out) hb)
         have M1 := Aside0.mk (blk_below (blk_drew K1.out) hb)
         have M2 := Aside0.mk (blk_below (blk_drew K2.out) hb)
         have HB2 := Aside0.mk (below_step (below_drew HB.out) hb)
         have c0 := (blk_cell M2.out 0).trans rfl
         have c1 := (blk_cell M2.out 1).trans rfl
         have f0 := blk_frozen M2.out 0
         have f1 := blk_frozen M2.out 1
         clear hu hb))
  go_wp2
  have N2 := blk_put (blk_put (cs' := #[.bool (s != s'), .slice none 0 0]) M2.out 0 (.bool (s != s')) rfl) 1 (.slice Au ku cu) (cs' := #[.bool (s != s'), .slice Au ku cu]) rfl
  exact bodyPost_ret (v := .agg #[.bool (s != s'), .slice Au ku cu]) (results_cell_row rfl _ _ (w.heap.size + 1 + 1) 41 #[.bool (s != s'), .slice Au ku cu] (0, 0) _ rfl N2 Try.underlying41 rfl (by kernel_rfl)) rfl
    ⟨_, rfl, HU.out.fill M2.out _ _, below_set (below_set HB2.out (by omega)) (by omega)⟩
theorem times_any {w : World} {v v' : Value} {x y : Int} {L L' : Nat} (hv : IsInt w v x L) (hv' : IsInt w v' y L') (hL : L < 262144) (hL' : L' < 262144) :
    Calls Try.prog 16 #[v, v'] w fun e w' => ∃ u, e = .returned u ∧ IsInt w' u (x * y) (L + L') ∧ Below w.heap.size w w' := by
  obtain ⟨s, u, n, rfl, hu, rfl⟩ := hv
  obtain ⟨s', u', n', rfl, hu', rfl⟩ := hv'
  obtain ⟨A, k, c, rfl⟩ := hu.slice
  obtain ⟨A', k', c', rfl⟩ := hu'.slice
  refine (times_walk s s' A A' k k' c c' hu hu' hL hL').mono ?_
  rintro e w' ⟨u, rfl, hn, hb⟩
  refine ⟨_, rfl, ⟨s != s', u, n * n', rfl, hn, ?_⟩, hb⟩
  cases s <;> cases s' <;> simp [sgn] <;> grind
set_option maxHeartbeats 400000 in
theorem plus_same {w : World} (s : Bool) (A A' : Option Addr) (n n' c c' : Nat) {x y : Int} {L L' : Nat} (hx : IsNat w (.slice A n c) x L) (hy : IsNat w (.slice A' n' c') y L') (hL : L < 262144) (hL' : L' < 262144) :
    Calls Try.prog 17 #[.agg #[.bool s, .slice A n c], .agg #[.bool s, .slice A' n' c']] w fun e w' => ∃ u, e = .returned (.agg #[.bool s, u]) ∧ IsNat w' u (x + y) (L + L' + 1) ∧ Below w.heap.size w w' := by
  obtain ⟨k0, k1, k2, hb⟩ := three_new w (.cells #[.bool s, .slice A n c] 41) (.cells #[.bool s, .slice A' n' c'] 41) (.cells #[.bool false, .slice none 0 0] 41)
  have HX := Aside0.mk hx
  have HY := Aside0.mk hy
  have K0 := Aside0.mk k0
  have K1 := Aside0.mk k1
  have K2 := Aside0.mk k2
  have HB := Aside0.mk hb
  clear hx hy k0 k1 k2 hb
  have hs : (s == s) = true := by simp
  go_enter Try.func17, Try.ntmps17
  go_wp2
  generalize (((w.alloc (Obj.cells #[Value.bool s, Value.slice A n c] 41)).alloc (Obj.cells #[Value.bool s, Value.slice A' n' c'] 41)).alloc (Obj.cells #[Value.bool false, Value.slice none 0 0] 41)) = W at *
  go_region_held3 (fun W' => W'.cell? ⟨w.heap.size, 0, none⟩ = some (.bool s) ∧ W'.cell? ⟨w.heap.size, 1, none⟩ = some (.slice A n c) ∧ W'.cell? ⟨w.heap.size + 1, 0, none⟩ = some (.bool s) ∧ W'.cell? ⟨w.heap.size + 1, 1, none⟩ = some (.slice A' n' c'))
    (first
      | exact ⟨(blk_cell (blk_drew K0.out) 0).trans rfl, (blk_cell (blk_drew K0.out) 1).trans rfl, (blk_cell (blk_drew K1.out) 0).trans rfl, (blk_cell (blk_drew K1.out) 1).trans rfl⟩
      | exact ⟨(blk_cell M0.out 0).trans rfl, (blk_cell M0.out 1).trans rfl, (blk_cell M1.out 0).trans rfl, (blk_cell M1.out 1).trans rfl⟩
      | exact ⟨(blk_cell (blk_off (blk_off M0.out (by omega)) (by omega)) 0).trans rfl, (blk_cell (blk_off (blk_off M0.out (by omega)) (by omega)) 1).trans rfl, (blk_cell (blk_off (blk_off M1.out (by omega)) (by omega)) 0).trans rfl, (blk_cell (blk_off (blk_off M1.out (by omega)) (by omega)) 1).trans rfl⟩)
    (first
      | (go_at_call 27
         refine (natAdd_any (HX.out.below (below_drew HB.out)) (HY.out.below (below_drew HB.out)) (by omega) (by omega)).mono ?_
         rintro e w' ⟨u, rfl, hu, hb⟩
         obtain ⟨Au, ku, cu, rfl⟩ := hu.slice
         have HU := Aside0.mk hu
         have M0 := Aside0.mk (blk_below (blk_drew K0.out) hb)
         have M1 := Aside0.mk (blk_below (blk_drew K1.out) hb)
         have M2 := Aside0.mk (blk_below (blk_drew K2.out) hb)
         have HB2 := Aside0.mk (below_step (below_drew HB.out) hb)
         have c0 := (blk_cell M2.out 0).trans rfl
         have c1 := (blk_cell M2.out 1).trans rfl
         have f0 := blk_frozen M2.out 0
         have f1 := blk_frozen M2.out 1
         clear hu hb))
  go_wp2
  have N2 := blk_put (blk_put (cs' := #[.bool s, .slice none 0 0]) M2.out 0 (.bool s) rfl) 1 (.slice Au ku cu) (cs' := #[.bool s, .slice Au ku cu]) rfl
  exact bodyPost_ret (v := .agg #[.bool s, .slice Au ku cu]) (results_cell_row rfl _ _ (w.heap.size + 1 + 1) 41 #[.bool s, .slice Au ku cu] (0, 0) _ rfl N2 Try.underlying41 rfl (by kernel_rfl)) rfl
    ⟨_, rfl, HU.out.fill M2.out _ _, below_set (below_set HB2.out (by omega)) (by omega)⟩

set_option maxHeartbeats 400000 in
theorem plus_ge {w : World} (s s' : Bool) (A A' : Option Addr) (n n' c c' : Nat) {x y : Int} {L L' : Nat} (hx : IsNat w (.slice A n c) x L) (hy : IsNat w (.slice A' n' c') y L') (hL : L < 262144) (hL' : L' < 262144) (hs : (s == s') = false) (hz : y ≤ x) :
    Calls Try.prog 17 #[.agg #[.bool s, .slice A n c], .agg #[.bool s', .slice A' n' c']] w fun e w' => ∃ u, e = .returned (.agg #[.bool s, u]) ∧ IsNat w' u (x - y) (L) ∧ Below w.heap.size w w' := by
  obtain ⟨k0, k1, k2, hb⟩ := three_new w (.cells #[.bool s, .slice A n c] 41) (.cells #[.bool s', .slice A' n' c'] 41) (.cells #[.bool false, .slice none 0 0] 41)
  have HX := Aside0.mk hx
  have HY := Aside0.mk hy
  have K0 := Aside0.mk k0
  have K1 := Aside0.mk k1
  have K2 := Aside0.mk k2
  have HB := Aside0.mk hb
  clear hx hy k0 k1 k2 hb
  have hr : 0 ≤ cmpOf x y := by unfold cmpOf; rw [if_neg (by omega)]; split <;> omega
  have HC := Aside0.mk (natCmp_any (HX.out.below HB.out) (HY.out.below HB.out) (by omega) (by omega))
  have HZ := Aside0.mk hz
  clear hz
  generalize cmpOf x y = r at *
  go_enter Try.func17, Try.ntmps17
  go_wp2_with (go_at_call 19; ((with_reducible refine HC.out.mono ?_); rintro e W ⟨rfl, hb⟩; have J0 := Aside0.mk (blk_below K0.out hb); have J1 := Aside0.mk (blk_below K1.out hb); have J2 := Aside0.mk (blk_below K2.out hb); have HB1 := Aside0.mk (below_step HB.out hb); clear hb))
  clear K0 K1 K2 HB
  go_region_held3 (fun W' => W'.cell? ⟨w.heap.size, 0, none⟩ = some (.bool s) ∧ W'.cell? ⟨w.heap.size, 1, none⟩ = some (.slice A n c) ∧ W'.cell? ⟨w.heap.size + 1, 0, none⟩ = some (.bool s') ∧ W'.cell? ⟨w.heap.size + 1, 1, none⟩ = some (.slice A' n' c'))
    (first
      | exact ⟨(blk_cell (blk_drew J0.out) 0).trans rfl, (blk_cell (blk_drew J0.out) 1).trans rfl, (blk_cell (blk_drew J1.out) 0).trans rfl, (blk_cell (blk_drew J1.out) 1).trans rfl⟩
      | exact ⟨(blk_cell M0.out 0).trans rfl, (blk_cell M0.out 1).trans rfl, (blk_cell M1.out 0).trans rfl, (blk_cell M1.out 1).trans rfl⟩
      | exact ⟨(blk_cell (blk_off (blk_off M0.out (by omega)) (by omega)) 0).trans rfl, (blk_cell (blk_off (blk_off M0.out (by omega)) (by omega)) 1).trans rfl, (blk_cell (blk_off (blk_off M1.out (by omega)) (by omega)) 0).trans rfl, (blk_cell (blk_off (blk_off M1.out (by omega)) (by omega)) 1).trans rfl⟩)
    (first
      | (go_at_call 28
         refine (natSub_any (HX.out.below (below_drew HB1.out)) (HY.out.below (below_drew HB1.out)) (by omega) HZ.out).mono ?_
         rintro e w' ⟨u, rfl, hu, hb⟩
         obtain ⟨Au, ku, cu, rfl⟩ := hu.slice
         have HU := Aside0.mk hu
         have M0 := Aside0.mk (blk_below (blk_drew J0.out) hb)
         have M1 := Aside0.mk (blk_below (blk_drew J1.out) hb)
         have M2 := Aside0.mk (blk_below (blk_drew J2.out) hb)
         have HB2 := Aside0.mk (below_step (below_drew HB1.out) hb)
         have c0 := (blk_cell M2.out 0).trans rfl
         have c1 := (blk_cell M2.out 1).trans rfl
         have f0 := blk_frozen M2.out 0
         have f1 := blk_frozen M2.out 1
         clear hu hb))
  go_wp2
  have N2 := blk_put (blk_put (cs' := #[.bool s, .slice none 0 0]) M2.out 0 (.bool s) rfl) 1 (.slice Au ku cu) (cs' := #[.bool s, .slice Au ku cu]) rfl
  exact bodyPost_ret (v := .agg #[.bool s, .slice Au ku cu]) (results_cell_row rfl _ _ (w.heap.size + 1 + 1) 41 #[.bool s, .slice Au ku cu] (0, 0) _ rfl N2 Try.underlying41 rfl (by kernel_rfl)) rfl
    ⟨_, rfl, HU.out.fill M2.out _ _, below_set (below_set HB2.out (by omega)) (by omega)⟩

set_option maxHeartbeats 400000 in
theorem plus_lt {w : World} (s s' : Bool) (A A' : Option Addr) (n n' c c' : Nat) {x y : Int} {L L' : Nat} (hx : IsNat w (.slice A n c) x L) (hy : IsNat w (.slice A' n' c') y L') (hL : L < 262144) (hL' : L' < 262144) (hs : (s == s') = false) (hz : x < y) :
    Calls Try.prog 17 #[.agg #[.bool s, .slice A n c], .agg #[.bool s', .slice A' n' c']] w fun e w' => ∃ u, e = .returned (.agg #[.bool s', u]) ∧ IsNat w' u (y - x) (L') ∧ Below w.heap.size w w' := by
  obtain ⟨k0, k1, k2, hb⟩ := three_new w (.cells #[.bool s, .slice A n c] 41) (.cells #[.bool s', .slice A' n' c'] 41) (.cells #[.bool false, .slice none 0 0] 41)
  have HX := Aside0.mk hx
  have HY := Aside0.mk hy
  have K0 := Aside0.mk k0
  have K1 := Aside0.mk k1
  have K2 := Aside0.mk k2
  have HB := Aside0.mk hb
  clear hx hy k0 k1 k2 hb
  have hr : cmpOf x y < 0 := by unfold cmpOf; rw [if_pos hz]; decide
  have HC := Aside0.mk (natCmp_any (HX.out.below HB.out) (HY.out.below HB.out) (by omega) (by omega))
  have HZ := Aside0.mk hz
  clear hz
  generalize cmpOf x y = r at *
  go_enter Try.func17, Try.ntmps17
  go_wp2_with (go_at_call 19; ((with_reducible refine HC.out.mono ?_); rintro e W ⟨rfl, hb⟩; have J0 := Aside0.mk (blk_below K0.out hb); have J1 := Aside0.mk (blk_below K1.out hb); have J2 := Aside0.mk (blk_below K2.out hb); have HB1 := Aside0.mk (below_step HB.out hb); clear hb))
  clear K0 K1 K2 HB
  go_region_held3 (fun W' => W'.cell? ⟨w.heap.size, 0, none⟩ = some (.bool s) ∧ W'.cell? ⟨w.heap.size, 1, none⟩ = some (.slice A n c) ∧ W'.cell? ⟨w.heap.size + 1, 0, none⟩ = some (.bool s') ∧ W'.cell? ⟨w.heap.size + 1, 1, none⟩ = some (.slice A' n' c'))
    (first
      | exact ⟨(blk_cell (blk_drew J0.out) 0).trans rfl, (blk_cell (blk_drew J0.out) 1).trans rfl, (blk_cell (blk_drew J1.out) 0).trans rfl, (blk_cell (blk_drew J1.out) 1).trans rfl⟩
      | exact ⟨(blk_cell M0.out 0).trans rfl, (blk_cell M0.out 1).trans rfl, (blk_cell M1.out 0).trans rfl, (blk_cell M1.out 1).trans rfl⟩
      | exact ⟨(blk_cell (blk_off (blk_off M0.out (by omega)) (by omega)) 0).trans rfl, (blk_cell (blk_off (blk_off M0.out (by omega)) (by omega)) 1).trans rfl, (blk_cell (blk_off (blk_off M1.out (by omega)) (by omega)) 0).trans rfl, (blk_cell (blk_off (blk_off M1.out (by omega)) (by omega)) 1).trans rfl⟩)
    (first
      | (go_at_call 28
         refine (natSub_any (HY.out.below (below_drew HB1.out)) (HX.out.below (below_drew HB1.out)) (by omega) (Int.le_of_lt HZ.out)).mono ?_
         rintro e w' ⟨u, rfl, hu, hb⟩
         obtain ⟨Au, ku, cu, rfl⟩ := hu.slice
         have HU := Aside0.mk hu
         have M0 := Aside0.mk (blk_below (blk_drew J0.out) hb)
         have M1 := Aside0.mk (blk_below (blk_drew J1.out) hb)
         have M2 := Aside0.mk (blk_below (blk_drew J2.out) hb)
         have HB2 := Aside0.mk (below_step (below_drew HB1.out) hb)
         have c0 := (blk_cell M2.out 0).trans rfl
         have c1 := (blk_cell M2.out 1).trans rfl
         have f0 := blk_frozen M2.out 0
         have f1 := blk_frozen M2.out 1
         clear hu hb))
  go_wp2
  have N2 := blk_put (blk_put (cs' := #[.bool s', .slice none 0 0]) M2.out 0 (.bool s') rfl) 1 (.slice Au ku cu) (cs' := #[.bool s', .slice Au ku cu]) rfl
  exact bodyPost_ret (v := .agg #[.bool s', .slice Au ku cu]) (results_cell_row rfl _ _ (w.heap.size + 1 + 1) 41 #[.bool s', .slice Au ku cu] (0, 0) _ rfl N2 Try.underlying41 rfl (by kernel_rfl)) rfl
    ⟨_, rfl, HU.out.fill M2.out _ _, below_set (below_set HB2.out (by omega)) (by omega)⟩
theorem plus_any {w : World} {v v' : Value} {x y : Int} {L L' : Nat} (hv : IsInt w v x L) (hv' : IsInt w v' y L') (hL : L < 262144) (hL' : L' < 262144) :
    Calls Try.prog 17 #[v, v'] w fun e w' => ∃ u, e = .returned u ∧ IsInt w' u (x + y) (L + L' + 1) ∧ Below w.heap.size w w' := by
  obtain ⟨s, u, n, rfl, hu, rfl⟩ := hv
  obtain ⟨s', u', n', rfl, hu', rfl⟩ := hv'
  obtain ⟨A, k, c, rfl⟩ := hu.slice
  obtain ⟨A', k', c', rfl⟩ := hu'.slice
  by_cases h : s = s'
  · subst h
    refine (plus_same s A A' k k' c c' hu hu' hL hL').mono ?_
    rintro e w' ⟨u, rfl, hn, hb⟩
    refine ⟨_, rfl, ⟨s, u, _, rfl, hn, ?_⟩, hb⟩
    cases s <;> simp [sgn] <;> omega
  · have hs : (s == s') = false := by simpa using h
    by_cases hz : n' ≤ n
    · refine (plus_ge s s' A A' k k' c c' hu hu' hL hL' hs hz).mono ?_
      rintro e w' ⟨u, rfl, hn, hb⟩
      refine ⟨_, rfl, ⟨s, u, _, rfl, hn.mono (by omega), ?_⟩, hb⟩
      cases s <;> cases s' <;> simp [sgn] at h ⊢ <;> omega
    · refine (plus_lt s s' A A' k k' c c' hu hu' hL hL' hs (by omega)).mono ?_
      rintro e w' ⟨u, rfl, hn, hb⟩
      refine ⟨_, rfl, ⟨s', u, _, rfl, hn.mono (by omega), ?_⟩, hb⟩
      cases s <;> cases s' <;> simp [sgn] at h ⊢ <;> omega
end Go.Proofs.Ytbadlnbpoabdeaa
