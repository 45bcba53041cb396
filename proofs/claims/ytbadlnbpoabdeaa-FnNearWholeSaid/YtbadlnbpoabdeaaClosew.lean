/-
  THE WALK of Closely: it answers true where 2^96 times the norm of the difference is at most the dividend's.
-/
import Derived.Test.YtbadlnbpoabdeaaOfw
namespace Go.Proofs.Ytbadlnbpoabdeaa
open Go.RowKit Go.Proofs.YtbadlnbpoabdeaaW.PrintWords Go.Proofs.YtbadlnbpoabdeaaW.PrintLast Go.Proofs.YtbadlnbpoabdeaaW.PrintMore
open Dn

theorem finite_any {x : Nat} (hx : x < 2^64) {s : Bool} {m : Nat} {p : Int} (h : Ieee.double.read x = .number s m p) (w : World) :
    Calls Try.prog 14 #[.agg #[.int .i64 53, .int .i64 52, .int .i64 (-1074), .int .u64 2047, .int .u64 9223372036854775808], .int .u64 (x : Int)] w fun e w' => e = .returned (.bool true) ∧ Below w.heap.size w w' :=
  PFnNearWhole.spec_Format_Finite.calls 53 52 (-1074) 2047 9223372036854775808 (x : Int) true w (finiteF hx h)
theorem natShl_96 {w : World} {v : Value} {n : Int} {L : Nat} (hv : IsNat w v n L) (hL : L < 1048576) :
    Calls Try.prog 20 #[v, .int .i64 96] w fun e w' => ∃ u, e = .returned u ∧ IsNat w' u (n * 2 ^ 96) (L + 4) ∧ Below w.heap.size w w' := by
  refine (natShl_any 96 hv hL (by decide)).mono ?_
  rintro e w' ⟨u, rfl, hu, hb⟩
  exact ⟨u, rfl, hu.mono (by omega), hb⟩
theorem natCmp_le {w : World} {v v' : Value} {n m : Int} {L L' : Nat} (hv : IsNat w v n L) (hv' : IsNat w v' m L') (hL : L < 1048576) (hL' : L' < 1048576) (hle : n ≤ m) :
    Calls Try.prog 19 #[v, v'] w fun e w' => ∃ r, e = .returned (.int .i64 r) ∧ r ≤ 0 ∧ Below w.heap.size w w' := by
  refine (natCmp_any hv hv' hL hL').mono ?_
  rintro e w' ⟨rfl, hb⟩
  refine ⟨_, rfl, ?_, hb⟩
  unfold cmpOf
  split
  · decide
  · rw [if_neg (by omega)]; decide
theorem IsInt.agg {w : World} {v : Value} {z : Int} {L : Nat} (h : IsInt w v z L) : ∃ s A k c, v = .agg #[.bool s, .slice A k c] := by
  obtain ⟨s, u, n, rfl, hu, _⟩ := h
  obtain ⟨A, k, c, rfl⟩ := hu.slice
  exact ⟨s, A, k, c, rfl⟩
theorem IsInt.fill {w : World} {v : Value} {z : Int} {L g : Nat} {b : Bool} (h : IsInt w v z L) (k : w.heap[g]? = some (.cells #[.bool b, .slice none 0 0] 41 (0, 0))) (x y : Value) : IsInt ((w.setCell ⟨g, 0, none⟩ x).setCell ⟨g, 1, none⟩ y) v z L := by
  obtain ⟨s, u, n, h1, h2, h3⟩ := h
  exact ⟨s, u, n, h1, h2.fill k x y, h3⟩

/-- a variable of the type Int: its block, its sign, its slice, its value, the bound of its digits -/
structure Var where
  g : Nat
  s : Bool
  A : Option Addr
  k : Nat
  c : Nat
  z : Int
  L : Nat
/-- Each variable in a block of its own. -/
def Vars (W : World) : List Var → Prop
  | [] => True
  | x :: r => (W.heap[x.g]? = some (.cells #[.bool x.s, .slice x.A x.k x.c] 41 (0, 0)) ∧ IsInt W (.agg #[.bool x.s, .slice x.A x.k x.c]) x.z x.L) ∧ Vars W r
/-- Their cells. -/
def Cells (W : World) : List Var → Prop
  | [] => True
  | x :: r => W.cell? ⟨x.g, 0, none⟩ = some (.bool x.s) ∧ W.cell? ⟨x.g, 1, none⟩ = some (.slice x.A x.k x.c) ∧ Cells W r
theorem Vars.cells {W : World} {l : List Var} (h : Vars W l) : Cells W l := by
  induction l with
  | nil => trivial
  | cons x l ih => exact ⟨(blk_cell h.1.1 0).trans rfl, (blk_cell h.1.1 1).trans rfl, ih h.2⟩
theorem Vars.below {W W' : World} {l : List Var} (h : Vars W l) (hb : Below W.heap.size W W') : Vars W' l := by
  induction l with
  | nil => trivial
  | cons x l ih => exact ⟨⟨blk_below h.1.1 hb, h.1.2.below hb⟩, ih h.2⟩
theorem Vars.new {W : World} {l : List Var} {s : Bool} {A : Option Addr} {k c : Nat} {z : Int} {L : Nat} (h : Vars W l) (hi : IsInt W (.agg #[.bool s, .slice A k c]) z L) : Vars (W.alloc (.cells #[.bool s, .slice A k c] 41 (0, 0))) (⟨W.heap.size, s, A, k, c, z, L⟩ :: l) :=
  ⟨⟨blk_new _ _, hi.below (below_alloc (Below.refl _ _) _)⟩, h.below (below_alloc (Below.refl _ _) _)⟩
theorem Vars.lt {W : World} {l : List Var} (h : Vars W l) : ∀ t ∈ l, t.g < W.heap.size := by
  induction l with
  | nil => intro t ht; cases ht
  | cons x l ih =>
    intro t ht
    rcases List.mem_cons.1 ht with rfl | ht
    · exact blk_lt h.1.1
    · exact ih h.2 t ht
/-- The place j. -/
theorem Vars.at {W : World} {l : List Var} (h : Vars W l) (j : Nat) {x : Var} (hj : l[j]? = some x) : IsInt W (.agg #[.bool x.s, .slice x.A x.k x.c]) x.z x.L := by
  induction l generalizing j with
  | nil => simp at hj
  | cons y l ih =>
    cases j with
    | zero => simp only [List.getElem?_cons_zero, Option.some.injEq] at hj; subst hj; exact h.1.2
    | succ j => exact ih h.2 j (by simpa using hj)
theorem Vars.int {W : World} {l : List Var} (h : Vars W l) (j : Nat) {g : Nat} {s : Bool} {A : Option Addr} {k c : Nat} {z : Int} {L : Nat} (hj : l[j]? = some ⟨g, s, A, k, c, z, L⟩) : IsInt W (.agg #[.bool s, .slice A k c]) z L := h.at j hj
theorem alloc_block {w wa : World} {o : Obj} (hb : Below (w.alloc o).heap.size (w.alloc o) wa) : wa.heap[w.heap.size]? = some o := blk_below (blk_new w o) hb
/-- The block that was made for a further variable is filled: the others stay. -/
theorem Vars.off {W : World} {l : List Var} {g : Nat} (h : Vars W l) (hz : W.heap[g]? = some (.cells #[.bool false, .slice none 0 0] 41 (0, 0))) (hne : ∀ t ∈ l, t.g ≠ g) (x y : Value) : Vars ((W.setCell ⟨g, 0, none⟩ x).setCell ⟨g, 1, none⟩ y) l := by
  induction l with
  | nil => trivial
  | cons t l ih => exact ⟨⟨blk_off (blk_off h.1.1 (hne t List.mem_cons_self)) (hne t List.mem_cons_self), h.1.2.fill hz _ _⟩, ih h.2 (fun t ht => hne t (List.mem_cons_of_mem _ ht))⟩
theorem Vars.put {W : World} {l : List Var} {g : Nat} {s : Bool} {A : Option Addr} {k c : Nat} {z : Int} {L : Nat} (h : Vars W l) (hz : W.heap[g]? = some (.cells #[.bool false, .slice none 0 0] 41 (0, 0))) (hne : ∀ t ∈ l, t.g ≠ g) (hi : IsInt W (.agg #[.bool s, .slice A k c]) z L) :
    Vars ((W.setCell ⟨g, 0, none⟩ (.bool s)).setCell ⟨g, 1, none⟩ (.slice A k c)) (⟨g, s, A, k, c, z, L⟩ :: l) :=
  ⟨⟨blk_put (blk_put (cs' := #[.bool s, .slice none 0 0]) hz 0 (.bool s) rfl) 1 (.slice A k c) rfl, hi.fill hz _ _⟩, h.off hz hne _ _⟩

set_option maxHeartbeats 2000000 in
set_option maxRecDepth 100000 in
theorem closely_walk (a b c d x y : Nat) (P Q R S U V : Int) (w : World)
    (F1 : ∀ w, Calls Try.prog 14 #[.agg #[.int .i64 53, .int .i64 52, .int .i64 (-1074), .int .u64 2047, .int .u64 9223372036854775808], .int .u64 (x : Int)] w fun e w' => e = .returned (.bool true) ∧ Below w.heap.size w w')
    (F2 : ∀ w, Calls Try.prog 14 #[.agg #[.int .i64 53, .int .i64 52, .int .i64 (-1074), .int .u64 2047, .int .u64 9223372036854775808], .int .u64 (y : Int)] w fun e w' => e = .returned (.bool true) ∧ Below w.heap.size w w')
    (IP : ∀ w, Calls Try.prog 15 #[.int .u64 (x : Int), .int .i64 700] w fun e' w' => ∃ v, e' = .returned (.tuple #[v, .bool true]) ∧ IsInt w' v P 100 ∧ Below w.heap.size w w')
    (IQ : ∀ w, Calls Try.prog 15 #[.int .u64 (y : Int), .int .i64 700] w fun e' w' => ∃ v, e' = .returned (.tuple #[v, .bool true]) ∧ IsInt w' v Q 100 ∧ Below w.heap.size w w')
    (IR : ∀ w, Calls Try.prog 15 #[.int .u64 (c : Int), .int .i64 200] w fun e' w' => ∃ v, e' = .returned (.tuple #[v, .bool true]) ∧ IsInt w' v R 100 ∧ Below w.heap.size w w')
    (IS : ∀ w, Calls Try.prog 15 #[.int .u64 (d : Int), .int .i64 200] w fun e' w' => ∃ v, e' = .returned (.tuple #[v, .bool true]) ∧ IsInt w' v S 100 ∧ Below w.heap.size w w')
    (IU : ∀ w, Calls Try.prog 15 #[.int .u64 (a : Int), .int .i64 900] w fun e' w' => ∃ v, e' = .returned (.tuple #[v, .bool true]) ∧ IsInt w' v U 100 ∧ Below w.heap.size w w')
    (IV : ∀ w, Calls Try.prog 15 #[.int .u64 (b : Int), .int .i64 900] w fun e' w' => ∃ v, e' = .returned (.tuple #[v, .bool true]) ∧ IsInt w' v V 100 ∧ Below w.heap.size w w')
    (hle : ((P*R + -(Q*S) + -U)*(P*R + -(Q*S) + -U) + (P*S + Q*R + -V)*(P*S + Q*R + -V)) * 2^96 ≤ U*U + V*V) :
    Calls Try.prog 9 #[.int .u64 (a : Int), .int .u64 (b : Int), .int .u64 (c : Int), .int .u64 (d : Int), .int .u64 (x : Int), .int .u64 (y : Int)] w fun e w' => e = .returned (.bool true) ∧ Below w.heap.size w w' := by
  have C5 := Aside0.mk double_any
  have CF1 := Aside0.mk F1
  have CF2 := Aside0.mk F2
  have CP := Aside0.mk IP
  have CQ := Aside0.mk IQ
  have CR := Aside0.mk IR
  have CS := Aside0.mk IS
  have CU := Aside0.mk IU
  have CV := Aside0.mk IV
  have HLE := Aside0.mk hle
  clear F1 F2 IP IQ IR IS IU IV hle
  go_enter Try.func9, Try.ntmps9
  go_upto_region 10 with (first
    | (go_at_call 5; ((with_reducible refine (C5.out _).mono ?_); rintro e w1 ⟨rfl, hb⟩; have HB1 := Aside0.mk hb; clear hb))
    | (go_at_call 14; ((with_reducible refine (CF1.out _).mono ?_); rintro e w2 ⟨rfl, hb⟩; have K1 := Aside0.mk (blk_below (blk_new w1 _) hb); have HB2 := Aside0.mk (below_step (below_alloc HB1.out _) hb); have c0 := (blk_cell K1.out 0).trans rfl; have c1 := (blk_cell K1.out 1).trans rfl; have c2 := (blk_cell K1.out 2).trans rfl; have c3 := (blk_cell K1.out 3).trans rfl; have c4 := (blk_cell K1.out 4).trans rfl; clear hb))
    | (go_at_call 14; ((with_reducible refine (CF2.out _).mono ?_); rintro e w3 ⟨rfl, hb⟩; have HB3 := Aside0.mk (below_step HB2.out hb); clear hb c0 c1 c2 c3 c4))
    | (go_at_call 15; ((with_reducible refine (CP.out _).mono ?_); rintro e w4 ⟨v4, rfl, hi, hb⟩; obtain ⟨sp, Ap, kp, cp, rfl⟩ := hi.agg; have V4 := Aside0.mk (Vars.new (W := w4) (l := []) trivial hi); have HB4 := Aside0.mk (below_step HB3.out hb); clear hb hi))
    | (go_at_call 15; ((with_reducible refine (CQ.out _).mono ?_); rintro e w5 ⟨v5, rfl, hi, hb⟩; obtain ⟨sq, Aq, kq, cq, rfl⟩ := hi.agg; have V5 := Aside0.mk (Vars.new (V4.out.below hb) hi); have HB5 := Aside0.mk (below_step (below_alloc HB4.out _) hb); clear hb hi))
    | (go_at_call 15; ((with_reducible refine (CR.out _).mono ?_); rintro e w6 ⟨v6, rfl, hi, hb⟩; obtain ⟨sr, Ar, kr, cr, rfl⟩ := hi.agg; have V6 := Aside0.mk (Vars.new (V5.out.below hb) hi); have HB6 := Aside0.mk (below_step (below_alloc HB5.out _) hb); clear hb hi))
    | (go_at_call 15; ((with_reducible refine (CS.out _).mono ?_); rintro e w7 ⟨v7, rfl, hi, hb⟩; obtain ⟨ss, As, ks, cs, rfl⟩ := hi.agg; have V7 := Aside0.mk (Vars.new (V6.out.below hb) hi); have HB7 := Aside0.mk (below_step (below_alloc HB6.out _) hb); clear hb hi))
    | (go_at_call 15; ((with_reducible refine (CU.out _).mono ?_); rintro e w8 ⟨v8, rfl, hi, hb⟩; obtain ⟨su, Au, ku, cu, rfl⟩ := hi.agg; have V8 := Aside0.mk (Vars.new (V7.out.below hb) hi); have HB8 := Aside0.mk (below_step (below_alloc HB7.out _) hb); clear hb hi))
    | (go_at_call 15; ((with_reducible refine (CV.out _).mono ?_); rintro e w9 ⟨v9, rfl, hi, hb⟩; obtain ⟨sv, Av, kv, cv, rfl⟩ := hi.agg; have V9 := Aside0.mk (Vars.new (V8.out.below hb) hi); have HB9 := Aside0.mk (below_alloc (below_step (below_alloc HB8.out _) hb) (.cells #[.bool sv, .slice Av kv cv] 41)); clear hb hi)))
  have VR := V9
  have HBR := HB9
  clear V4 V5 V6 V7 V8 V9 HB1 HB2 HB3 HB4 HB5 HB6 HB7 HB8 HB9 K1 C5 CF1 CF2 CP CQ CR CS CU CV
  generalize w9.alloc (Obj.cells #[Value.bool sv, Value.slice Av kv cv] 41) = W at *
  generalize w4.heap.size = gp at *
  generalize w5.heap.size = gq at *
  generalize w6.heap.size = gr at *
  generalize w7.heap.size = gs at *
  generalize w8.heap.size = gu at *
  generalize w9.heap.size = gv at *
  go_cut [74] from 28 to 73 (fun v wx => v = .bool false ∧ wx = W)
  case first =>
    go_wp2_with fail
    go_meet
    exact ⟨rfl, rfl⟩
  case rest =>
  obtain ⟨rfl, hcw⟩ := hcut
  subst hcw
  have lw := below_size HBR.out
  go_upto_region 12 with fail
  go_cut [26] (fun wm wx => ∃ (gm : Nat) (sm : Bool) (Am : Option Addr) (km cm : Nat), wm = .pointer (some ⟨gm, 0, none⟩) ∧ Aside0 (Vars wx (⟨gm, sm, Am, km, cm, P*R + -(Q*S) + -U, 502⟩ :: [⟨gv, sv, Av, kv, cv, V, 100⟩, ⟨gu, su, Au, ku, cu, U, 100⟩, ⟨gs, ss, As, ks, cs, S, 100⟩, ⟨gr, sr, Ar, kr, cr, R, 100⟩, ⟨gq, sq, Aq, kq, cq, Q, 100⟩, ⟨gp, sp, Ap, kp, cp, P, 100⟩])) ∧ Aside0 (Below w.heap.size w wx))
  case first =>
    go_region_held3 (fun W' => W'.cell? ⟨gv, 0, none⟩ = some (.bool sv) ∧ W'.cell? ⟨gv, 1, none⟩ = some (.slice Av kv cv) ∧ W'.cell? ⟨gu, 0, none⟩ = some (.bool su) ∧ W'.cell? ⟨gu, 1, none⟩ = some (.slice Au ku cu) ∧ W'.cell? ⟨gs, 0, none⟩ = some (.bool ss) ∧ W'.cell? ⟨gs, 1, none⟩ = some (.slice As ks cs) ∧ W'.cell? ⟨gr, 0, none⟩ = some (.bool sr) ∧ W'.cell? ⟨gr, 1, none⟩ = some (.slice Ar kr cr) ∧ W'.cell? ⟨gq, 0, none⟩ = some (.bool sq) ∧ W'.cell? ⟨gq, 1, none⟩ = some (.slice Aq kq cq) ∧ W'.cell? ⟨gp, 0, none⟩ = some (.bool sp) ∧ W'.cell? ⟨gp, 1, none⟩ = some (.slice Ap kp cp) ∧ True)
    (first | exact (VN.out.below (by solve | exact Below.refl _ _ | exact below_alloc (Below.refl _ _) _ | exact below_drew (Below.refl _ _) | exact below_drew (below_alloc (Below.refl _ _) _) | exact below_alloc (below_drew (Below.refl _ _)) _)).cells | exact (VR.out.below (by solve | exact Below.refl _ _ | exact below_alloc (Below.refl _ _) _ | exact below_drew (Below.refl _ _) | exact below_drew (below_alloc (Below.refl _ _) _) | exact below_alloc (below_drew (Below.refl _ _)) _)).cells | exact (VN.out.off ZB.out (fun t ht e => by have := VR.out.lt t ht; omega) _ _).cells)
    (first
      | (go_at_call 16; (with_reducible refine (times_any ((VR.out.int 5 rfl).below (by solve | exact Below.refl _ _ | exact below_alloc (Below.refl _ _) _ | exact below_drew (Below.refl _ _) | exact below_drew (below_alloc (Below.refl _ _) _) | exact below_alloc (below_drew (Below.refl _ _)) _)) ((VR.out.int 3 rfl).below (by solve | exact Below.refl _ _ | exact below_alloc (Below.refl _ _) _ | exact below_drew (Below.refl _ _) | exact below_drew (below_alloc (Below.refl _ _) _) | exact below_alloc (below_drew (Below.refl _ _)) _)) (by decide) (by decide)).mono ?_); rintro e wka ⟨va, rfl, hi, hb⟩; obtain ⟨sa, Aa, ka, ca, rfl⟩ := hi.agg; have Ta := Aside0.mk hi; have VN' := Aside0.mk (VR.out.below (below_step (by solve | exact Below.refl _ _ | exact below_alloc (Below.refl _ _) _ | exact below_drew (Below.refl _ _) | exact below_drew (below_alloc (Below.refl _ _) _) | exact below_alloc (below_drew (Below.refl _ _)) _) hb)); have VN := VN'; clear VN'; have HBW : Aside0 (Below wc.heap.size wc wka) := ⟨below_step (by solve | exact Below.refl _ _ | exact below_alloc (Below.refl _ _) _ | exact below_drew (Below.refl _ _) | exact below_drew (below_alloc (Below.refl _ _) _) | exact below_alloc (below_drew (Below.refl _ _)) _) hb⟩; have hsa : wc.heap.size ≤ wka.heap.size := below_size HBW.out; (first | (have ZB' := Aside0.mk (blk_below ZB.out hb); clear ZB z0 z1 y0 y1; have ZB := ZB'; clear ZB'; have z0 := (blk_cell ZB.out 0).trans rfl; have z1 := (blk_cell ZB.out 1).trans rfl; have y0 := blk_frozen ZB.out 0; have y1 := blk_frozen ZB.out 1) | (have ZB : Aside0 (wka.heap[wc.heap.size]? = some (.cells #[.bool false, .slice none 0 0] 41 (0, 0))) := ⟨alloc_block (w := wc.drew) hb⟩; have z0 := (blk_cell ZB.out 0).trans rfl; have z1 := (blk_cell ZB.out 1).trans rfl; have y0 := blk_frozen ZB.out 0; have y1 := blk_frozen ZB.out 1) | (with_reducible (have ZB := Aside0.mk (alloc_block hb)); have z0 := (blk_cell ZB.out 0).trans rfl; have z1 := (blk_cell ZB.out 1).trans rfl; have y0 := blk_frozen ZB.out 0; have y1 := blk_frozen ZB.out 1) | skip); clear hi hb)
      | (go_at_call 16; (with_reducible refine (times_any ((VN.out.int 4 rfl).below (by solve | exact Below.refl _ _ | exact below_alloc (Below.refl _ _) _ | exact below_drew (Below.refl _ _) | exact below_drew (below_alloc (Below.refl _ _) _) | exact below_alloc (below_drew (Below.refl _ _)) _)) ((VN.out.int 2 rfl).below (by solve | exact Below.refl _ _ | exact below_alloc (Below.refl _ _) _ | exact below_drew (Below.refl _ _) | exact below_drew (below_alloc (Below.refl _ _) _) | exact below_alloc (below_drew (Below.refl _ _)) _)) (by decide) (by decide)).mono ?_); rintro e wkb ⟨vb, rfl, hi, hb⟩; obtain ⟨sb, Ab, kb, cb, rfl⟩ := hi.agg; have Tb := Aside0.mk hi; have T' := Aside0.mk (Ta.out.below (below_step (by solve | exact Below.refl _ _ | exact below_alloc (Below.refl _ _) _ | exact below_drew (Below.refl _ _) | exact below_drew (below_alloc (Below.refl _ _) _) | exact below_alloc (below_drew (Below.refl _ _)) _) hb)); clear Ta; have Ta := T'; clear T'; have VN' := Aside0.mk (VN.out.below (below_step (by solve | exact Below.refl _ _ | exact below_alloc (Below.refl _ _) _ | exact below_drew (Below.refl _ _) | exact below_drew (below_alloc (Below.refl _ _) _) | exact below_alloc (below_drew (Below.refl _ _)) _) hb)); clear VN; have VN := VN'; clear VN'; have HBW' : Aside0 (Below wc.heap.size wc wkb) := ⟨below_step HBW.out (below_step (by solve | exact Below.refl _ _ | exact below_alloc (Below.refl _ _) _ | exact below_drew (Below.refl _ _) | exact below_drew (below_alloc (Below.refl _ _) _) | exact below_alloc (below_drew (Below.refl _ _)) _) hb)⟩; clear HBW; have HBW := HBW'; clear HBW'; have hsb : wc.heap.size ≤ wkb.heap.size := below_size HBW.out; (first | (have ZB' := Aside0.mk (blk_below ZB.out hb); clear ZB z0 z1 y0 y1; have ZB := ZB'; clear ZB'; have z0 := (blk_cell ZB.out 0).trans rfl; have z1 := (blk_cell ZB.out 1).trans rfl; have y0 := blk_frozen ZB.out 0; have y1 := blk_frozen ZB.out 1) | (with_reducible (have ZB := Aside0.mk (alloc_block hb)); have z0 := (blk_cell ZB.out 0).trans rfl; have z1 := (blk_cell ZB.out 1).trans rfl; have y0 := blk_frozen ZB.out 0; have y1 := blk_frozen ZB.out 1) | skip); clear hi hb)
      | (go_at_call 18; (with_reducible refine (minus_any (Tb.out.below (by solve | exact Below.refl _ _ | exact below_alloc (Below.refl _ _) _ | exact below_drew (Below.refl _ _) | exact below_drew (below_alloc (Below.refl _ _) _) | exact below_alloc (below_drew (Below.refl _ _)) _))).mono ?_); rintro e wkc ⟨vc, rfl, hi, hb⟩; obtain ⟨sc, Ac, kc, cc, rfl⟩ := hi.agg; have Tc := Aside0.mk hi; have T' := Aside0.mk (Ta.out.below (below_step (by solve | exact Below.refl _ _ | exact below_alloc (Below.refl _ _) _ | exact below_drew (Below.refl _ _) | exact below_drew (below_alloc (Below.refl _ _) _) | exact below_alloc (below_drew (Below.refl _ _)) _) hb)); clear Ta; have Ta := T'; clear T'; have VN' := Aside0.mk (VN.out.below (below_step (by solve | exact Below.refl _ _ | exact below_alloc (Below.refl _ _) _ | exact below_drew (Below.refl _ _) | exact below_drew (below_alloc (Below.refl _ _) _) | exact below_alloc (below_drew (Below.refl _ _)) _) hb)); clear VN; have VN := VN'; clear VN'; have HBW' : Aside0 (Below wc.heap.size wc wkc) := ⟨below_step HBW.out (below_step (by solve | exact Below.refl _ _ | exact below_alloc (Below.refl _ _) _ | exact below_drew (Below.refl _ _) | exact below_drew (below_alloc (Below.refl _ _) _) | exact below_alloc (below_drew (Below.refl _ _)) _) hb)⟩; clear HBW; have HBW := HBW'; clear HBW'; have hsc : wc.heap.size ≤ wkc.heap.size := below_size HBW.out; (first | (have ZB' := Aside0.mk (blk_below ZB.out hb); clear ZB z0 z1 y0 y1; have ZB := ZB'; clear ZB'; have z0 := (blk_cell ZB.out 0).trans rfl; have z1 := (blk_cell ZB.out 1).trans rfl; have y0 := blk_frozen ZB.out 0; have y1 := blk_frozen ZB.out 1) | (with_reducible (have ZB := Aside0.mk (alloc_block hb)); have z0 := (blk_cell ZB.out 0).trans rfl; have z1 := (blk_cell ZB.out 1).trans rfl; have y0 := blk_frozen ZB.out 0; have y1 := blk_frozen ZB.out 1) | skip); clear hi hb)
      | (go_at_call 17; (with_reducible refine (plus_any (Ta.out.below (by solve | exact Below.refl _ _ | exact below_alloc (Below.refl _ _) _ | exact below_drew (Below.refl _ _) | exact below_drew (below_alloc (Below.refl _ _) _) | exact below_alloc (below_drew (Below.refl _ _)) _)) (Tc.out.below (by solve | exact Below.refl _ _ | exact below_alloc (Below.refl _ _) _ | exact below_drew (Below.refl _ _) | exact below_drew (below_alloc (Below.refl _ _) _) | exact below_alloc (below_drew (Below.refl _ _)) _)) (by decide) (by decide)).mono ?_); rintro e wkd ⟨vd, rfl, hi, hb⟩; obtain ⟨sd, Ad, kd, cd, rfl⟩ := hi.agg; have Td := Aside0.mk hi; have VN' := Aside0.mk (VN.out.below (below_step (by solve | exact Below.refl _ _ | exact below_alloc (Below.refl _ _) _ | exact below_drew (Below.refl _ _) | exact below_drew (below_alloc (Below.refl _ _) _) | exact below_alloc (below_drew (Below.refl _ _)) _) hb)); clear VN; have VN := VN'; clear VN'; have HBW' : Aside0 (Below wc.heap.size wc wkd) := ⟨below_step HBW.out (below_step (by solve | exact Below.refl _ _ | exact below_alloc (Below.refl _ _) _ | exact below_drew (Below.refl _ _) | exact below_drew (below_alloc (Below.refl _ _) _) | exact below_alloc (below_drew (Below.refl _ _)) _) hb)⟩; clear HBW; have HBW := HBW'; clear HBW'; have hsd : wc.heap.size ≤ wkd.heap.size := below_size HBW.out; (first | (have ZB' := Aside0.mk (blk_below ZB.out hb); clear ZB z0 z1 y0 y1; have ZB := ZB'; clear ZB'; have z0 := (blk_cell ZB.out 0).trans rfl; have z1 := (blk_cell ZB.out 1).trans rfl; have y0 := blk_frozen ZB.out 0; have y1 := blk_frozen ZB.out 1) | (with_reducible (have ZB := Aside0.mk (alloc_block hb)); have z0 := (blk_cell ZB.out 0).trans rfl; have z1 := (blk_cell ZB.out 1).trans rfl; have y0 := blk_frozen ZB.out 0; have y1 := blk_frozen ZB.out 1) | skip); clear hi hb)
      | (go_at_call 18; (with_reducible refine (minus_any ((VN.out.int 1 rfl).below (by solve | exact Below.refl _ _ | exact below_alloc (Below.refl _ _) _ | exact below_drew (Below.refl _ _) | exact below_drew (below_alloc (Below.refl _ _) _) | exact below_alloc (below_drew (Below.refl _ _)) _))).mono ?_); rintro e wke ⟨ve, rfl, hi, hb⟩; obtain ⟨se, Ae, ke, ce, rfl⟩ := hi.agg; have Te := Aside0.mk hi; have T' := Aside0.mk (Td.out.below (below_step (by solve | exact Below.refl _ _ | exact below_alloc (Below.refl _ _) _ | exact below_drew (Below.refl _ _) | exact below_drew (below_alloc (Below.refl _ _) _) | exact below_alloc (below_drew (Below.refl _ _)) _) hb)); clear Td; have Td := T'; clear T'; have VN' := Aside0.mk (VN.out.below (below_step (by solve | exact Below.refl _ _ | exact below_alloc (Below.refl _ _) _ | exact below_drew (Below.refl _ _) | exact below_drew (below_alloc (Below.refl _ _) _) | exact below_alloc (below_drew (Below.refl _ _)) _) hb)); clear VN; have VN := VN'; clear VN'; have HBW' : Aside0 (Below wc.heap.size wc wke) := ⟨below_step HBW.out (below_step (by solve | exact Below.refl _ _ | exact below_alloc (Below.refl _ _) _ | exact below_drew (Below.refl _ _) | exact below_drew (below_alloc (Below.refl _ _) _) | exact below_alloc (below_drew (Below.refl _ _)) _) hb)⟩; clear HBW; have HBW := HBW'; clear HBW'; have hse : wc.heap.size ≤ wke.heap.size := below_size HBW.out; (first | (have ZB' := Aside0.mk (blk_below ZB.out hb); clear ZB z0 z1 y0 y1; have ZB := ZB'; clear ZB'; have z0 := (blk_cell ZB.out 0).trans rfl; have z1 := (blk_cell ZB.out 1).trans rfl; have y0 := blk_frozen ZB.out 0; have y1 := blk_frozen ZB.out 1) | (with_reducible (have ZB := Aside0.mk (alloc_block hb)); have z0 := (blk_cell ZB.out 0).trans rfl; have z1 := (blk_cell ZB.out 1).trans rfl; have y0 := blk_frozen ZB.out 0; have y1 := blk_frozen ZB.out 1) | skip); clear hi hb)
      | (go_at_call 17; (with_reducible refine (plus_any (Td.out.below (by solve | exact Below.refl _ _ | exact below_alloc (Below.refl _ _) _ | exact below_drew (Below.refl _ _) | exact below_drew (below_alloc (Below.refl _ _) _) | exact below_alloc (below_drew (Below.refl _ _)) _)) (Te.out.below (by solve | exact Below.refl _ _ | exact below_alloc (Below.refl _ _) _ | exact below_drew (Below.refl _ _) | exact below_drew (below_alloc (Below.refl _ _) _) | exact below_alloc (below_drew (Below.refl _ _)) _)) (by decide) (by decide)).mono ?_); rintro e wkf ⟨vf, rfl, hi, hb⟩; obtain ⟨sf, Af, kf, cf, rfl⟩ := hi.agg; have Tf := Aside0.mk hi; have VN' := Aside0.mk (VN.out.below (below_step (by solve | exact Below.refl _ _ | exact below_alloc (Below.refl _ _) _ | exact below_drew (Below.refl _ _) | exact below_drew (below_alloc (Below.refl _ _) _) | exact below_alloc (below_drew (Below.refl _ _)) _) hb)); clear VN; have VN := VN'; clear VN'; have HBW' : Aside0 (Below wc.heap.size wc wkf) := ⟨below_step HBW.out (below_step (by solve | exact Below.refl _ _ | exact below_alloc (Below.refl _ _) _ | exact below_drew (Below.refl _ _) | exact below_drew (below_alloc (Below.refl _ _) _) | exact below_alloc (below_drew (Below.refl _ _)) _) hb)⟩; clear HBW; have HBW := HBW'; clear HBW'; have hsf : wc.heap.size ≤ wkf.heap.size := below_size HBW.out; (first | (have ZB' := Aside0.mk (blk_below ZB.out hb); clear ZB z0 z1 y0 y1; have ZB := ZB'; clear ZB'; have z0 := (blk_cell ZB.out 0).trans rfl; have z1 := (blk_cell ZB.out 1).trans rfl; have y0 := blk_frozen ZB.out 0; have y1 := blk_frozen ZB.out 1) | (with_reducible (have ZB := Aside0.mk (alloc_block hb)); have z0 := (blk_cell ZB.out 0).trans rfl; have z1 := (blk_cell ZB.out 1).trans rfl; have y0 := blk_frozen ZB.out 0; have y1 := blk_frozen ZB.out 1) | skip); clear hi hb)
    )
    all_goals
      go_wp2_with fail
      go_meet
      first
        | exact ⟨_, _, _, _, _, rfl, ⟨Vars.new VN.out Tf.out⟩, ⟨below_alloc (below_step HBR.out HBW.out) _⟩⟩
        | exact ⟨_, _, _, _, _, rfl, ⟨Vars.put VN.out ZB.out (fun t ht e => by have := VR.out.lt t ht; omega) Tf.out⟩, ⟨below_set (below_set (below_step HBR.out HBW.out) (by omega)) (by omega)⟩⟩
  case rest =>
  obtain ⟨gm, sm, Am, km, cm, rfl, V', HB'⟩ := hcut
  clear VR HBR lw
  have VR := V'
  have HBR := HB'
  clear V' HB'
  have lw := below_size HBR.out
  go_upto_region 13 with fail
  go_cut [27] (fun wn wx => ∃ (gn : Nat) (sn : Bool) (An : Option Addr) (kn cn : Nat), wn = .pointer (some ⟨gn, 0, none⟩) ∧ Aside0 (Vars wx (⟨gn, sn, An, kn, cn, P*S + Q*R + -V, 502⟩ :: ⟨gm, sm, Am, km, cm, P*R + -(Q*S) + -U, 502⟩ :: [⟨gv, sv, Av, kv, cv, V, 100⟩, ⟨gu, su, Au, ku, cu, U, 100⟩, ⟨gs, ss, As, ks, cs, S, 100⟩, ⟨gr, sr, Ar, kr, cr, R, 100⟩, ⟨gq, sq, Aq, kq, cq, Q, 100⟩, ⟨gp, sp, Ap, kp, cp, P, 100⟩])) ∧ Aside0 (Below w.heap.size w wx))
  case first =>
    go_region_held3 (fun W' => W'.cell? ⟨gm, 0, none⟩ = some (.bool sm) ∧ W'.cell? ⟨gm, 1, none⟩ = some (.slice Am km cm) ∧ W'.cell? ⟨gv, 0, none⟩ = some (.bool sv) ∧ W'.cell? ⟨gv, 1, none⟩ = some (.slice Av kv cv) ∧ W'.cell? ⟨gu, 0, none⟩ = some (.bool su) ∧ W'.cell? ⟨gu, 1, none⟩ = some (.slice Au ku cu) ∧ W'.cell? ⟨gs, 0, none⟩ = some (.bool ss) ∧ W'.cell? ⟨gs, 1, none⟩ = some (.slice As ks cs) ∧ W'.cell? ⟨gr, 0, none⟩ = some (.bool sr) ∧ W'.cell? ⟨gr, 1, none⟩ = some (.slice Ar kr cr) ∧ W'.cell? ⟨gq, 0, none⟩ = some (.bool sq) ∧ W'.cell? ⟨gq, 1, none⟩ = some (.slice Aq kq cq) ∧ W'.cell? ⟨gp, 0, none⟩ = some (.bool sp) ∧ W'.cell? ⟨gp, 1, none⟩ = some (.slice Ap kp cp) ∧ True)
    (first | exact (VN.out.below (by solve | exact Below.refl _ _ | exact below_alloc (Below.refl _ _) _ | exact below_drew (Below.refl _ _) | exact below_drew (below_alloc (Below.refl _ _) _) | exact below_alloc (below_drew (Below.refl _ _)) _)).cells | exact (VR.out.below (by solve | exact Below.refl _ _ | exact below_alloc (Below.refl _ _) _ | exact below_drew (Below.refl _ _) | exact below_drew (below_alloc (Below.refl _ _) _) | exact below_alloc (below_drew (Below.refl _ _)) _)).cells | exact (VN.out.off ZB.out (fun t ht e => by have := VR.out.lt t ht; omega) _ _).cells)
    (first
      | (go_at_call 16; (with_reducible refine (times_any ((VR.out.int 6 rfl).below (by solve | exact Below.refl _ _ | exact below_alloc (Below.refl _ _) _ | exact below_drew (Below.refl _ _) | exact below_drew (below_alloc (Below.refl _ _) _) | exact below_alloc (below_drew (Below.refl _ _)) _)) ((VR.out.int 3 rfl).below (by solve | exact Below.refl _ _ | exact below_alloc (Below.refl _ _) _ | exact below_drew (Below.refl _ _) | exact below_drew (below_alloc (Below.refl _ _) _) | exact below_alloc (below_drew (Below.refl _ _)) _)) (by decide) (by decide)).mono ?_); rintro e wka ⟨va, rfl, hi, hb⟩; obtain ⟨sa, Aa, ka, ca, rfl⟩ := hi.agg; have Ta := Aside0.mk hi; have VN' := Aside0.mk (VR.out.below (below_step (by solve | exact Below.refl _ _ | exact below_alloc (Below.refl _ _) _ | exact below_drew (Below.refl _ _) | exact below_drew (below_alloc (Below.refl _ _) _) | exact below_alloc (below_drew (Below.refl _ _)) _) hb)); have VN := VN'; clear VN'; have HBW : Aside0 (Below wc.heap.size wc wka) := ⟨below_step (by solve | exact Below.refl _ _ | exact below_alloc (Below.refl _ _) _ | exact below_drew (Below.refl _ _) | exact below_drew (below_alloc (Below.refl _ _) _) | exact below_alloc (below_drew (Below.refl _ _)) _) hb⟩; have hsa : wc.heap.size ≤ wka.heap.size := below_size HBW.out; (first | (have ZB' := Aside0.mk (blk_below ZB.out hb); clear ZB z0 z1 y0 y1; have ZB := ZB'; clear ZB'; have z0 := (blk_cell ZB.out 0).trans rfl; have z1 := (blk_cell ZB.out 1).trans rfl; have y0 := blk_frozen ZB.out 0; have y1 := blk_frozen ZB.out 1) | (have ZB : Aside0 (wka.heap[wc.heap.size]? = some (.cells #[.bool false, .slice none 0 0] 41 (0, 0))) := ⟨alloc_block (w := wc.drew) hb⟩; have z0 := (blk_cell ZB.out 0).trans rfl; have z1 := (blk_cell ZB.out 1).trans rfl; have y0 := blk_frozen ZB.out 0; have y1 := blk_frozen ZB.out 1) | (with_reducible (have ZB := Aside0.mk (alloc_block hb)); have z0 := (blk_cell ZB.out 0).trans rfl; have z1 := (blk_cell ZB.out 1).trans rfl; have y0 := blk_frozen ZB.out 0; have y1 := blk_frozen ZB.out 1) | skip); clear hi hb)
      | (go_at_call 16; (with_reducible refine (times_any ((VN.out.int 5 rfl).below (by solve | exact Below.refl _ _ | exact below_alloc (Below.refl _ _) _ | exact below_drew (Below.refl _ _) | exact below_drew (below_alloc (Below.refl _ _) _) | exact below_alloc (below_drew (Below.refl _ _)) _)) ((VN.out.int 4 rfl).below (by solve | exact Below.refl _ _ | exact below_alloc (Below.refl _ _) _ | exact below_drew (Below.refl _ _) | exact below_drew (below_alloc (Below.refl _ _) _) | exact below_alloc (below_drew (Below.refl _ _)) _)) (by decide) (by decide)).mono ?_); rintro e wkb ⟨vb, rfl, hi, hb⟩; obtain ⟨sb, Ab, kb, cb, rfl⟩ := hi.agg; have Tb := Aside0.mk hi; have T' := Aside0.mk (Ta.out.below (below_step (by solve | exact Below.refl _ _ | exact below_alloc (Below.refl _ _) _ | exact below_drew (Below.refl _ _) | exact below_drew (below_alloc (Below.refl _ _) _) | exact below_alloc (below_drew (Below.refl _ _)) _) hb)); clear Ta; have Ta := T'; clear T'; have VN' := Aside0.mk (VN.out.below (below_step (by solve | exact Below.refl _ _ | exact below_alloc (Below.refl _ _) _ | exact below_drew (Below.refl _ _) | exact below_drew (below_alloc (Below.refl _ _) _) | exact below_alloc (below_drew (Below.refl _ _)) _) hb)); clear VN; have VN := VN'; clear VN'; have HBW' : Aside0 (Below wc.heap.size wc wkb) := ⟨below_step HBW.out (below_step (by solve | exact Below.refl _ _ | exact below_alloc (Below.refl _ _) _ | exact below_drew (Below.refl _ _) | exact below_drew (below_alloc (Below.refl _ _) _) | exact below_alloc (below_drew (Below.refl _ _)) _) hb)⟩; clear HBW; have HBW := HBW'; clear HBW'; have hsb : wc.heap.size ≤ wkb.heap.size := below_size HBW.out; (first | (have ZB' := Aside0.mk (blk_below ZB.out hb); clear ZB z0 z1 y0 y1; have ZB := ZB'; clear ZB'; have z0 := (blk_cell ZB.out 0).trans rfl; have z1 := (blk_cell ZB.out 1).trans rfl; have y0 := blk_frozen ZB.out 0; have y1 := blk_frozen ZB.out 1) | (with_reducible (have ZB := Aside0.mk (alloc_block hb)); have z0 := (blk_cell ZB.out 0).trans rfl; have z1 := (blk_cell ZB.out 1).trans rfl; have y0 := blk_frozen ZB.out 0; have y1 := blk_frozen ZB.out 1) | skip); clear hi hb)
      | (go_at_call 17; (with_reducible refine (plus_any (Ta.out.below (by solve | exact Below.refl _ _ | exact below_alloc (Below.refl _ _) _ | exact below_drew (Below.refl _ _) | exact below_drew (below_alloc (Below.refl _ _) _) | exact below_alloc (below_drew (Below.refl _ _)) _)) (Tb.out.below (by solve | exact Below.refl _ _ | exact below_alloc (Below.refl _ _) _ | exact below_drew (Below.refl _ _) | exact below_drew (below_alloc (Below.refl _ _) _) | exact below_alloc (below_drew (Below.refl _ _)) _)) (by decide) (by decide)).mono ?_); rintro e wkc ⟨vc, rfl, hi, hb⟩; obtain ⟨sc, Ac, kc, cc, rfl⟩ := hi.agg; have Tc := Aside0.mk hi; have VN' := Aside0.mk (VN.out.below (below_step (by solve | exact Below.refl _ _ | exact below_alloc (Below.refl _ _) _ | exact below_drew (Below.refl _ _) | exact below_drew (below_alloc (Below.refl _ _) _) | exact below_alloc (below_drew (Below.refl _ _)) _) hb)); clear VN; have VN := VN'; clear VN'; have HBW' : Aside0 (Below wc.heap.size wc wkc) := ⟨below_step HBW.out (below_step (by solve | exact Below.refl _ _ | exact below_alloc (Below.refl _ _) _ | exact below_drew (Below.refl _ _) | exact below_drew (below_alloc (Below.refl _ _) _) | exact below_alloc (below_drew (Below.refl _ _)) _) hb)⟩; clear HBW; have HBW := HBW'; clear HBW'; have hsc : wc.heap.size ≤ wkc.heap.size := below_size HBW.out; (first | (have ZB' := Aside0.mk (blk_below ZB.out hb); clear ZB z0 z1 y0 y1; have ZB := ZB'; clear ZB'; have z0 := (blk_cell ZB.out 0).trans rfl; have z1 := (blk_cell ZB.out 1).trans rfl; have y0 := blk_frozen ZB.out 0; have y1 := blk_frozen ZB.out 1) | (with_reducible (have ZB := Aside0.mk (alloc_block hb)); have z0 := (blk_cell ZB.out 0).trans rfl; have z1 := (blk_cell ZB.out 1).trans rfl; have y0 := blk_frozen ZB.out 0; have y1 := blk_frozen ZB.out 1) | skip); clear hi hb)
      | (go_at_call 18; (with_reducible refine (minus_any ((VN.out.int 1 rfl).below (by solve | exact Below.refl _ _ | exact below_alloc (Below.refl _ _) _ | exact below_drew (Below.refl _ _) | exact below_drew (below_alloc (Below.refl _ _) _) | exact below_alloc (below_drew (Below.refl _ _)) _))).mono ?_); rintro e wkd ⟨vd, rfl, hi, hb⟩; obtain ⟨sd, Ad, kd, cd, rfl⟩ := hi.agg; have Td := Aside0.mk hi; have T' := Aside0.mk (Tc.out.below (below_step (by solve | exact Below.refl _ _ | exact below_alloc (Below.refl _ _) _ | exact below_drew (Below.refl _ _) | exact below_drew (below_alloc (Below.refl _ _) _) | exact below_alloc (below_drew (Below.refl _ _)) _) hb)); clear Tc; have Tc := T'; clear T'; have VN' := Aside0.mk (VN.out.below (below_step (by solve | exact Below.refl _ _ | exact below_alloc (Below.refl _ _) _ | exact below_drew (Below.refl _ _) | exact below_drew (below_alloc (Below.refl _ _) _) | exact below_alloc (below_drew (Below.refl _ _)) _) hb)); clear VN; have VN := VN'; clear VN'; have HBW' : Aside0 (Below wc.heap.size wc wkd) := ⟨below_step HBW.out (below_step (by solve | exact Below.refl _ _ | exact below_alloc (Below.refl _ _) _ | exact below_drew (Below.refl _ _) | exact below_drew (below_alloc (Below.refl _ _) _) | exact below_alloc (below_drew (Below.refl _ _)) _) hb)⟩; clear HBW; have HBW := HBW'; clear HBW'; have hsd : wc.heap.size ≤ wkd.heap.size := below_size HBW.out; (first | (have ZB' := Aside0.mk (blk_below ZB.out hb); clear ZB z0 z1 y0 y1; have ZB := ZB'; clear ZB'; have z0 := (blk_cell ZB.out 0).trans rfl; have z1 := (blk_cell ZB.out 1).trans rfl; have y0 := blk_frozen ZB.out 0; have y1 := blk_frozen ZB.out 1) | (with_reducible (have ZB := Aside0.mk (alloc_block hb)); have z0 := (blk_cell ZB.out 0).trans rfl; have z1 := (blk_cell ZB.out 1).trans rfl; have y0 := blk_frozen ZB.out 0; have y1 := blk_frozen ZB.out 1) | skip); clear hi hb)
      | (go_at_call 17; (with_reducible refine (plus_any (Tc.out.below (by solve | exact Below.refl _ _ | exact below_alloc (Below.refl _ _) _ | exact below_drew (Below.refl _ _) | exact below_drew (below_alloc (Below.refl _ _) _) | exact below_alloc (below_drew (Below.refl _ _)) _)) (Td.out.below (by solve | exact Below.refl _ _ | exact below_alloc (Below.refl _ _) _ | exact below_drew (Below.refl _ _) | exact below_drew (below_alloc (Below.refl _ _) _) | exact below_alloc (below_drew (Below.refl _ _)) _)) (by decide) (by decide)).mono ?_); rintro e wke ⟨ve, rfl, hi, hb⟩; obtain ⟨se, Ae, ke, ce, rfl⟩ := hi.agg; have Te := Aside0.mk hi; have VN' := Aside0.mk (VN.out.below (below_step (by solve | exact Below.refl _ _ | exact below_alloc (Below.refl _ _) _ | exact below_drew (Below.refl _ _) | exact below_drew (below_alloc (Below.refl _ _) _) | exact below_alloc (below_drew (Below.refl _ _)) _) hb)); clear VN; have VN := VN'; clear VN'; have HBW' : Aside0 (Below wc.heap.size wc wke) := ⟨below_step HBW.out (below_step (by solve | exact Below.refl _ _ | exact below_alloc (Below.refl _ _) _ | exact below_drew (Below.refl _ _) | exact below_drew (below_alloc (Below.refl _ _) _) | exact below_alloc (below_drew (Below.refl _ _)) _) hb)⟩; clear HBW; have HBW := HBW'; clear HBW'; have hse : wc.heap.size ≤ wke.heap.size := below_size HBW.out; (first | (have ZB' := Aside0.mk (blk_below ZB.out hb); clear ZB z0 z1 y0 y1; have ZB := ZB'; clear ZB'; have z0 := (blk_cell ZB.out 0).trans rfl; have z1 := (blk_cell ZB.out 1).trans rfl; have y0 := blk_frozen ZB.out 0; have y1 := blk_frozen ZB.out 1) | (with_reducible (have ZB := Aside0.mk (alloc_block hb)); have z0 := (blk_cell ZB.out 0).trans rfl; have z1 := (blk_cell ZB.out 1).trans rfl; have y0 := blk_frozen ZB.out 0; have y1 := blk_frozen ZB.out 1) | skip); clear hi hb)
    )
    all_goals
      go_wp2_with fail
      go_meet
      first
        | exact ⟨_, _, _, _, _, rfl, ⟨Vars.new VN.out Te.out⟩, ⟨below_alloc (below_step HBR.out HBW.out) _⟩⟩
        | exact ⟨_, _, _, _, _, rfl, ⟨Vars.put VN.out ZB.out (fun t ht e => by have := VR.out.lt t ht; omega) Te.out⟩, ⟨below_set (below_set (below_step HBR.out HBW.out) (by omega)) (by omega)⟩⟩
  case rest =>
  obtain ⟨gn, sn, An, kn, cn, rfl, V', HB'⟩ := hcut
  clear VR HBR lw
  have VR := V'
  have HBR := HB'
  clear V' HB'
  go_upto_region 14 with fail
  go_region_held3 (fun W' => W'.cell? ⟨gn, 0, none⟩ = some (.bool sn) ∧ W'.cell? ⟨gn, 1, none⟩ = some (.slice An kn cn) ∧ W'.cell? ⟨gm, 0, none⟩ = some (.bool sm) ∧ W'.cell? ⟨gm, 1, none⟩ = some (.slice Am km cm) ∧ W'.cell? ⟨gv, 0, none⟩ = some (.bool sv) ∧ W'.cell? ⟨gv, 1, none⟩ = some (.slice Av kv cv) ∧ W'.cell? ⟨gu, 0, none⟩ = some (.bool su) ∧ W'.cell? ⟨gu, 1, none⟩ = some (.slice Au ku cu) ∧ W'.cell? ⟨gs, 0, none⟩ = some (.bool ss) ∧ W'.cell? ⟨gs, 1, none⟩ = some (.slice As ks cs) ∧ W'.cell? ⟨gr, 0, none⟩ = some (.bool sr) ∧ W'.cell? ⟨gr, 1, none⟩ = some (.slice Ar kr cr) ∧ W'.cell? ⟨gq, 0, none⟩ = some (.bool sq) ∧ W'.cell? ⟨gq, 1, none⟩ = some (.slice Aq kq cq) ∧ W'.cell? ⟨gp, 0, none⟩ = some (.bool sp) ∧ W'.cell? ⟨gp, 1, none⟩ = some (.slice Ap kp cp) ∧ True)
    (first | exact V4.out.cells | exact V3.out.cells | exact V2.out.cells | exact V1.out.cells | exact (VR.out.below (below_drew (Below.refl _ _))).cells)
    (first
      | (go_at_call 21; (with_reducible refine (norm_any ((VR.out.int 1 rfl).below (below_drew (Below.refl _ _))) ((VR.out.int 0 rfl).below (below_drew (Below.refl _ _))) (by decide) (by decide)).mono ?_); rintro e x1 ⟨u1, rfl, hu, hb⟩; obtain ⟨A1, k1, d1, rfl⟩ := hu.slice; have N1 := Aside0.mk hu; have V1 := Aside0.mk (VR.out.below (below_step (below_drew (Below.refl _ _)) hb)); have B1 := Aside0.mk (below_step (below_drew HBR.out) hb); clear hu hb)
      | (go_at_call 20; (with_reducible refine (natShl_96 N1.out (by decide)).mono ?_); rintro e x2 ⟨u2, rfl, hu, hb⟩; obtain ⟨A2, k2, d2, rfl⟩ := hu.slice; have N2 := Aside0.mk hu; have V2 := Aside0.mk (V1.out.below hb); have B2 := Aside0.mk (below_step B1.out hb); clear hu hb)
      | (go_at_call 21; (with_reducible refine (norm_any (V2.out.int 3 rfl) (V2.out.int 2 rfl) (by decide) (by decide)).mono ?_); rintro e x3 ⟨u3, rfl, hu, hb⟩; obtain ⟨A3, k3, d3, rfl⟩ := hu.slice; have N3 := Aside0.mk hu; have V3 := Aside0.mk (V2.out.below hb); have N2' := Aside0.mk (N2.out.below hb); have B3 := Aside0.mk (below_step B2.out hb); clear hu hb)
      | (go_at_call 19; (with_reducible refine (natCmp_le N2'.out N3.out (by decide) (by decide) HLE.out).mono ?_); rintro e x4 ⟨r, rfl, hr, hb⟩; have V4 := Aside0.mk (V3.out.below hb); have B4 := Aside0.mk (below_step B3.out hb); clear hb))
  go_wp2
  go_ret
  exact ⟨rfl, B4.out⟩
end Go.Proofs.Ytbadlnbpoabdeaa
