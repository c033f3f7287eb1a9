-- Written by a program of the session (wip/tools) out of the translation. Not trusted: Lean checks it.
import Derived.Test.YtffdebhaclkhjaaSq
import Derived.Test.YtffdebhaclkhjaaSx0
import Derived.Test.YtffdebhaclkhjaaSx5
import Derived.Test.YtffdebhaclkhjaaSx6
import Derived.Test.YtffdebhaclkhjaaSx8
import Derived.Test.YtffdebhaclkhjaaSx9
namespace Go.Proofs.Ytffdebhaclkhjaa.PFnPrWholeDefault
open Go.RowKit Go.Proofs.YtffdebhaclkhjaaW.PrintWords Go.Proofs.YtffdebhaclkhjaaW.PrintLast Go.Proofs.YtffdebhaclkhjaaW.PrintMore
attribute [local go_sem] max2_int min2_int max_two min_two max_three min_three max_four min_four   -- for this text's walks alone
set_option linter.unusedVariables false
set_option linter.unusedSimpArgs false

/-! ### pretty_appendPrettyAny: function 19 -/
set_option maxHeartbeats 8000000 in
set_option maxRecDepth 100000 in
theorem pretty_appendPrettyAny.step (k : Nat) (ih_34_ : ∀ k_ : Nat, k_ < k → ∀ (P0_ : Nat → Prop) (u9000_ : Value) (l0 : List Int) (P1_ : Nat → Prop) (A1 : Option Addr) (c1 : Nat) (l1 : List Int) (a2 : Int) (a3 : Int) (a4 : Int) (a5 : Bool) (a6 : Int) (a7 : ByteArray) (a8 : ByteArray)  (a10 : Int) (a11 : Int) (a12 : Int) (r1 : List Int) (r2 : Int) (r3 : Int) (r4 : Bool) (w0 w : World) (hB : Below w0.heap.size w0 w) (ho0 : Kd.R (Kd.int .u8) 5 w w0.heap.size P0_ u9000_ l0) (hs1 : Kd.V (Kd.int .u8) 5 w w0.heap.size (fun k_ => P1_ k_ ∧ some k_ ≠ (u9000_ : Value).ownBlock) (.slice A1 l1.length c1) l1) (h : pretty_appendPrettyObject.f k_ l0 l1 a2 a3 a4 a5 a6 a7 a8 a10 a11 a12 = some (r1, r2, r3, r4)),
  Calls Try.prog 34 #[u9000_, .slice A1 l1.length c1, .int .i64 a2, .int .u8 a3, .int .u8 a4, .bool a5, .int .i64 a6, .string a7, .string a8, .bool false, .int .i64 a10, .int .i64 a11, .int .i64 a12] w fun e w' => ∃ v0_ : Value, e = .returned (.tuple #[v0_, .int .i64 r2, .int .i64 r3, .bool r4]) ∧ Kd.R (Kd.int .u8) 5 w' w0.heap.size (fun k_ => (P0_ k_ ∨ w.heap.size ≤ k_)) v0_ r1 ∧ Below w0.heap.size w0 w' ∧ Kept w w' (fun k_ => P0_ k_)) (ih_19_ : ∀ k_ : Nat, k_ < k → ∀ (P0_ : Nat → Prop) (u9000_ : Value) (l0 : List Int) (P1_ : Nat → Prop) (A1 : Option Addr) (c1 : Nat) (l1 : List Int) (a2 : Int) (a3 : Bool) (a4 : Int) (a5 : ByteArray) (a6 : ByteArray)  (a8 : Int) (a9 : Int) (a10 : Int) (r1 : List Int) (r2 : Int) (r3 : Int) (r4 : Bool) (w0 w : World) (hB : Below w0.heap.size w0 w) (ho0 : Kd.R (Kd.int .u8) 5 w w0.heap.size P0_ u9000_ l0) (hs1 : Kd.V (Kd.int .u8) 5 w w0.heap.size (fun k_ => P1_ k_ ∧ some k_ ≠ (u9000_ : Value).ownBlock) (.slice A1 l1.length c1) l1) (h : pretty_appendPrettyAny.f k_ l0 l1 a2 a3 a4 a5 a6 a8 a9 a10 = some (r1, r2, r3, r4)),
  Calls Try.prog 19 #[u9000_, .slice A1 l1.length c1, .int .i64 a2, .bool a3, .int .i64 a4, .string a5, .string a6, .bool false, .int .i64 a8, .int .i64 a9, .int .i64 a10] w fun e w' => ∃ v0_ : Value, e = .returned (.tuple #[v0_, .int .i64 r2, .int .i64 r3, .bool r4]) ∧ Kd.R (Kd.int .u8) 5 w' w0.heap.size (fun k_ => (P0_ k_ ∨ w.heap.size ≤ k_)) v0_ r1 ∧ Below w0.heap.size w0 w' ∧ Kept w w' (fun k_ => P0_ k_)) : ∀ (P0_ : Nat → Prop) (u9000_ : Value) (l0 : List Int) (P1_ : Nat → Prop) (A1 : Option Addr) (c1 : Nat) (l1 : List Int) (a2 : Int) (a3 : Bool) (a4 : Int) (a5 : ByteArray) (a6 : ByteArray)  (a8 : Int) (a9 : Int) (a10 : Int) (r1 : List Int) (r2 : Int) (r3 : Int) (r4 : Bool) (w0 w : World) (hB : Below w0.heap.size w0 w) (ho0 : Kd.R (Kd.int .u8) 5 w w0.heap.size P0_ u9000_ l0) (hs1 : Kd.V (Kd.int .u8) 5 w w0.heap.size (fun k_ => P1_ k_ ∧ some k_ ≠ (u9000_ : Value).ownBlock) (.slice A1 l1.length c1) l1) (h : pretty_appendPrettyAny.f k l0 l1 a2 a3 a4 a5 a6 a8 a9 a10 = some (r1, r2, r3, r4)),
  Calls Try.prog 19 #[u9000_, .slice A1 l1.length c1, .int .i64 a2, .bool a3, .int .i64 a4, .string a5, .string a6, .bool false, .int .i64 a8, .int .i64 a9, .int .i64 a10] w fun e w' => ∃ v0_ : Value, e = .returned (.tuple #[v0_, .int .i64 r2, .int .i64 r3, .bool r4]) ∧ Kd.R (Kd.int .u8) 5 w' w0.heap.size (fun k_ => (P0_ k_ ∨ w.heap.size ≤ k_)) v0_ r1 ∧ Below w0.heap.size w0 w' ∧ Kept w w' (fun k_ => P0_ k_) := by
 intro P0_ u9000_ l0 P1_ A1 c1 l1 a2 a3 a4 a5 a6 a8 a9 a10 r1 r2 r3 r4 w0 w hB ho0 hs1 h
 cases k with
 | zero => exact absurd h (by simp [pretty_appendPrettyAny.f])
 | succ k =>
 simp only [pretty_appendPrettyAny.f] at h
 have HO0 := Aside0.mk (show Kd.R (Kd.int .u8) 5 w w0.heap.size (fun k_ => (P0_ k_ ∨ w.heap.size ≤ k_)) u9000_ l0 from Kd.R_mono ho0 (fun k_ hk => (.inl hk)))
 have HO1 := Aside0.mk (show Kd.V (Kd.int .u8) 5 w w0.heap.size (fun k_ => ((P0_ k_ ∨ P1_ k_) ∨ w.heap.size ≤ k_) ∧ some k_ ≠ (u9000_ : Value).ownBlock) (.slice A1 l1.length c1) l1 from Kd.V_mono hs1 (fun k_ hk => ⟨.inl (.inr hk.1), hk.2⟩))
 have HK := Aside0.mk (Kept.refl w (fun k_ => P0_ k_))
 have HW0 := Aside0.mk hB.size
 have HB := Aside0.mk hB
 clear hB
 have H : (pretty_appendPrettyAny.l0 k l0 l1 a2 a3 a4 a5 a6 false a8 a9 a10) = some (r1, r2, r3, r4) := h
 clear h
 have H' := Aside0.mk H
 clear H
 go_enter Try.func19, Try.ntmps19
 go_wp2
 (try simp only [Act.put, List.setIfInBounds_toArray, List.set_cons_succ, List.set_cons_zero])
 go_loopg [2] k (fun kq v2 w' => ∃ (x2_1 : Int), v2 = .int .i64 x2_1 ∧ Aside0 (pretty_appendPrettyAny.l0 kq l0 l1 x2_1 a3 a4 a5 a6 false a8 a9 a10 = some (r1, r2, r3, r4)) ∧ Aside0 (kq ≤ k) ∧ Aside0 (Kd.R (Kd.int .u8) 5 w' w0.heap.size (fun k_ => (P0_ k_ ∨ w.heap.size ≤ k_)) u9000_ l0) ∧ Aside0 (Kd.V (Kd.int .u8) 5 w' w0.heap.size (fun k_ => ((P0_ k_ ∨ P1_ k_) ∨ w.heap.size ≤ k_) ∧ some k_ ≠ (u9000_ : Value).ownBlock) (.slice A1 l1.length c1) l1) ∧ Aside0 (Kept w w' (fun k_ => P0_ k_)) ∧ Aside0 (Below w0.heap.size w0 w'))
 case atStart => exact ⟨(a2), Z8, H', ⟨Nat.le_refl _⟩, ⟨pR HO0.out⟩, ⟨pV HO1.out⟩, ⟨Z7⟩, ⟨Z6⟩⟩
 clear H'
 try clear c1; try clear p2
 obtain ⟨x2_1, rfl, HA, HK1, HO_0, HO_1, HK, HB⟩ := hrel
 cases gk with
 | zero => exact absurd HA.out (by simp [pretty_appendPrettyAny.l0])
 | succ k1 =>
 have H := HA.out
 clear HA
 simp only [pretty_appendPrettyAny.l0] at H
 rw [if_neg (show ¬ (false = true) from Z2)] at H
 by_cases c13 : x2_1 < (l1.length : Int)
 rotate_left
 ·
  rw [if_neg c13] at H
  have c13b0 := decide_eq_false c13
  clear c13
  simp only [Option.some.injEq, Prod.mk.injEq] at H
  obtain ⟨rfl, rfl, rfl, rfl⟩ := H
  go_wp2
  refine bodyPost_ret (results_list (rs := [.tmp 22, .tmp 23, .tmp 24, .tmp 25]) rfl Z4 (.tmp (.tmp (.tmp (.tmp .nil))))) rfl ?_
  exact ⟨_, Z12, pR HO_0.out, Z6, Z7⟩
 rw [if_pos c13] at H
 have c13b0 := decide_eq_true c13
 clear c13
 by_cases c14 : 0 ≤ x2_1
 rotate_left
 ·
  rw [if_neg c14] at H
  exact absurd H Z4
 rw [if_pos c14] at H
 have c14b0 := decide_eq_true c14
 clear c14
 by_cases c15 : (rd l1 x2_1) ≤ 32
 ·
  rw [if_pos c15] at H
  have c15b0 := decide_eq_true c15
  clear c15
  have H' := Aside0.mk H
  clear H
  have p484 : 0 ≤ (x2_1 : Int) := of_decide_eq_true Z0
  have q484 : x2_1 < (l1.length : Int) := of_decide_eq_true Z0
  obtain ⟨ad484, e484, hx484_0⟩ := Kd.at_int (Kd.V_reads' HO_1.out).2.2 x2_1 p484 q484
  cases e484
  replace p484 := eq_true p484
  replace q484 := eq_true q484
  go_wp2
  go_roundg k1
  case measure => have := HK1.out; omega
  case rel => exact ⟨(wrap64 (x2_1 + 1)), Z8, H', ⟨Z27⟩, ⟨pR HO_0.out⟩, ⟨pV HO_1.out⟩, ⟨Z7⟩, ⟨Z6⟩⟩
 rw [if_neg c15] at H
 have c15b0 := decide_eq_false c15
 clear c15
 by_cases c16 : (rd l1 x2_1) = 34
 ·
  rw [if_pos c16] at H
  have c16b0 := beq_iff_eq.mpr c16
  have c16b1 := bne_eq_false_iff_eq.mpr c16
  clear c16
  replace H := Option.bind_eq_some_iff.mp H
  obtain ⟨⟨t486, t489, t490, t491⟩, A170, H⟩ := H
  dsimp only at H
  have A17 := Aside0.mk A170
  clear A170
  simp only [Option.some.injEq, Prod.mk.injEq] at H
  obtain ⟨rfl, rfl, rfl, rfl⟩ := H
  have p484 : 0 ≤ (x2_1 : Int) := of_decide_eq_true Z0
  have q484 : x2_1 < (l1.length : Int) := of_decide_eq_true Z0
  obtain ⟨ad484, e484, hx484_0⟩ := Kd.at_int (Kd.V_reads' HO_1.out).2.2 x2_1 p484 q484
  cases e484
  replace p484 := eq_true p484
  replace q484 := eq_true q484
  have p485 : 0 ≤ (x2_1 : Int) := of_decide_eq_true Z0
  have q485 : x2_1 < (l1.length : Int) := of_decide_eq_true Z0
  obtain ⟨ad485, e485, hx485_0⟩ := Kd.at_int (Kd.V_reads' HO_1.out).2.2 x2_1 p485 q485
  obtain rfl : ad484 = ad485 := (by injection e485)
  replace p485 := eq_true p485
  replace q485 := eq_true q485
  obtain ⟨Ao18, co18, eo18⟩ := Kd.R_slice HO_0.out
  subst eo18
  go_wp2_with (first | ((with_reducible refine gate_callee (f := 31) rfl ?_); refine goesL_ (some 46) rfl rfl Try.func31 Z1 rfl #[.slice Ao18 l0.length co18, .slice (some ad484) l1.length c1, .int .i64 x2_1, .int .i64 a9] rfl Z13 ?_; (with_reducible refine (pretty_appendPrettyString.calls k1 (fun k_ => some k_ = (.slice Ao18 l0.length co18 : Value).ownBlock) (.slice Ao18 l0.length co18) l0 _ _ l1 x2_1 a9 t486 t489 t490 t491 w0 _ ?side1 ?side2 ?side3 ?side4 A17.out).mono ?_); (case side1 => exact Z6); (case side2 => exact Z36); (case side3 => exact Kd.C_kept_ownV (HO_1.out) (fun k_ hk_ hs_ => (hk_.2) hs_)); (case side4 => exact (Kd.V_reads' HO_1.out).2.1); rintro e w19 ⟨v487, rfl, ho0, hb, hkp⟩; refine ⟨_, rfl, ?_⟩; have n0_ := Aside0.mk (Kd.V_mono (ok' := fun k_ => ((P0_ k_ ∨ P1_ k_) ∨ w.heap.size ≤ k_) ∧ some k_ ≠ (v487 : Value).ownBlock) (Kd.V_keptB (HO_1.out) hkp (fun k_ hk_ hs_ => (hk_.2) hs_)) (fun k_ hk_ => ⟨hk_.1.1, fun e_ => Or.elim (ho0.1 k_ e_.symm) (fun hs_ => hk_.2.1 hs_) (fun hn_ => Nat.not_le.2 hk_.2.2 hn_)⟩)); have n1_ := Aside0.mk (Kd.R_mono (ok' := fun k_ => (P0_ k_ ∨ w.heap.size ≤ k_)) ho0 (fun k_ hk_ => Or.elim hk_ (fun hs_ => (HO_0.out.1 k_ (hs_).symm)) (fun hn_ => (.inr (Nat.le_trans Z119 hn_))))); have n2_ := Aside0.mk (Kept.then_ (S := (fun k_ => P0_ k_)) Z7 hkp (fun k_ hs_ => (fun e_ => (HO_0.out.1 k_ e_.symm)) hs_)); have n3_ := Aside0.mk (hb); clear HO_1; clear HK; clear HB; clear HO_0; have HO_1 := n0_; have HO488 := n1_; have HK := n2_; have HB := n3_; clear n0_ n1_ n2_ n3_; (try clear hb); (try clear hkp); (try clear ho0)))
  refine bodyPost_ret (results_list (rs := [.tmp 22, .tmp 23, .tmp 24, .tmp 25]) rfl Z4 (.tmp (.tmp (.tmp (.tmp .nil))))) rfl ?_
  exact ⟨_, Z12, pR HO488.out, Z6, Z7⟩
 rw [if_neg c16] at H
 have c16b0 := beq_eq_false_iff_ne.mpr c16
 have c16b1 := bne_iff_ne.mpr c16
 have HC20 := Aside0.mk H
 clear H
 have p484 : 0 ≤ (x2_1 : Int) := of_decide_eq_true Z0
 have q484 : x2_1 < (l1.length : Int) := of_decide_eq_true Z0
 obtain ⟨ad484, e484, hx484_0⟩ := Kd.at_int (Kd.V_reads' HO_1.out).2.2 x2_1 p484 q484
 cases e484
 replace p484 := eq_true p484
 replace q484 := eq_true q484
 have p485 : 0 ≤ (x2_1 : Int) := of_decide_eq_true Z0
 have q485 : x2_1 < (l1.length : Int) := of_decide_eq_true Z0
 obtain ⟨ad485, e485, hx485_0⟩ := Kd.at_int (Kd.V_reads' HO_1.out).2.2 x2_1 p485 q485
 obtain rfl : ad484 = ad485 := (by injection e485)
 replace p485 := eq_true p485
 replace q485 := eq_true q485
 go_upto_region 6 with (fail)
 go_cut [75] (fun v75 wc => ∃ (kq : Nat) (x75_19 : Bool), v75 = .bool x75_19 ∧ Aside0 (pretty_appendPrettyAny.j1 kq l0 l1 x2_1 a3 a4 a5 a6 false a8 a9 a10 x75_19 = some (r1, r2, r3, r4)) ∧ Aside0 (kq ≤ k1) ∧ Aside0 (Kd.R (Kd.int .u8) 5 wc w0.heap.size (fun k_ => (P0_ k_ ∨ w.heap.size ≤ k_)) u9000_ l0) ∧ Aside0 (Kd.V (Kd.int .u8) 5 wc w0.heap.size (fun k_ => ((P0_ k_ ∨ P1_ k_) ∨ w.heap.size ≤ k_) ∧ some k_ ≠ (u9000_ : Value).ownBlock) (.slice (some ad484) l1.length c1) l1) ∧ Aside0 (Kept w wc (fun k_ => P0_ k_)) ∧ Aside0 (Below w0.heap.size w0 wc))
 case first =>
  have H := HC20.out
  clear HC20
  by_cases c21 : (rd l1 x2_1) ≥ 48
  rotate_left
  ·
   rw [if_neg c21] at H
   have c21b0 := decide_eq_false c21
   clear c21
   (first | rw [c21b0] | (simp only [i64_w, i32_w]; rw [c21b0]) | skip)
   by_cases c28 : (rd l1 x2_1) = 45
   ·
    rw [if_pos c28] at H
    have c28b0 := beq_iff_eq.mpr c28
    have c28b1 := bne_eq_false_iff_eq.mpr c28
    clear c28
    have H' := Aside0.mk H
    clear H
    have p492 : 0 ≤ (x2_1 : Int) := of_decide_eq_true Z0
    have q492 : x2_1 < (l1.length : Int) := of_decide_eq_true Z0
    obtain ⟨ad492, e492, hx492_0⟩ := Kd.at_int (Kd.V_reads' HO_1.out).2.2 x2_1 p492 q492
    obtain rfl : ad484 = ad492 := (by injection e492)
    replace p492 := eq_true p492
    replace q492 := eq_true q492
    have p501 : 0 ≤ (x2_1 : Int) := of_decide_eq_true Z0
    have q501 : x2_1 < (l1.length : Int) := of_decide_eq_true Z0
    obtain ⟨ad501, e501, hx501_0⟩ := Kd.at_int (Kd.V_reads' HO_1.out).2.2 x2_1 p501 q501
    obtain rfl : ad484 = ad501 := (by injection e501)
    replace p501 := eq_true p501
    replace q501 := eq_true q501
    go_wp2
    go_meet
    case rel => exact ⟨_, (true), Z8, H', ⟨Z47⟩, ⟨pR HO_0.out⟩, ⟨pV HO_1.out⟩, ⟨Z7⟩, ⟨Z6⟩⟩
   rw [if_neg c28] at H
   have c28b0 := beq_eq_false_iff_ne.mpr c28
   have c28b1 := bne_iff_ne.mpr c28
   have c29b0 := eq_true (of_decide_eq_true Z0 : 0 ≤ x2_1)
   by_cases c30 : x2_1 ≤ (l1.length : Int)
   rotate_left
   ·
    rw [if_neg c30] at H
    exact absurd H Z4
   rw [if_pos c30] at H
   have c30b0 := eq_true c30
   have c30b1 := decide_eq_true c30
   clear c30
   obtain ⟨y502, hy502⟩ : ∃ y_ : List Int, y_ = (l1.drop (x2_1 : Int).toNat) := ⟨_, rfl⟩
   first | replace H := bind_y hy502 H | rw [← hy502] at H
   have Ny502 := Aside0.mk hy502
   clear hy502
   replace H := Option.bind_eq_some_iff.mp H
   obtain ⟨t507, A310, H⟩ := H
   have A31 := Aside0.mk A310
   clear A310
   have H' := Aside0.mk H
   clear H
   have p492 : 0 ≤ (x2_1 : Int) := of_decide_eq_true Z0
   have q492 : x2_1 < (l1.length : Int) := of_decide_eq_true Z0
   obtain ⟨ad492, e492, hx492_0⟩ := Kd.at_int (Kd.V_reads' HO_1.out).2.2 x2_1 p492 q492
   obtain rfl : ad484 = ad492 := (by injection e492)
   replace p492 := eq_true p492
   replace q492 := eq_true q492
   have p501 : 0 ≤ (x2_1 : Int) := of_decide_eq_true Z0
   have q501 : x2_1 < (l1.length : Int) := of_decide_eq_true Z0
   obtain ⟨ad501, e501, hx501_0⟩ := Kd.at_int (Kd.V_reads' HO_1.out).2.2 x2_1 p501 q501
   obtain rfl : ad484 = ad501 := (by injection e501)
   replace p501 := eq_true p501
   replace q501 := eq_true q501
   have q32 : (x2_1 : Int) ≤ ((l1.length : Int) : Int) := of_decide_eq_true Z0
   obtain ⟨i032, hi032, _, hsz32, _⟩ := info_parts info5
   have hroom32 : l1.length ≤ c1 := (Kd.V_reads' HO_1.out).2.1
   have hC32 : Kd.F (Kd.int .u8) _ _ (some ad484) l1.length l1 := (Kd.V_at (base := w0.heap.size) HO_1.out).2.2
   have q032 : (0 : Int) ≤ (x2_1 : Int) := of_decide_eq_true Z0
   have hcut32 := cut_from (P := Try.prog) 40 5 .i64 Try.underlying40 hi032 1 hsz32 (some ad484) l1.length c1 x2_1 q032 q32
   have hr32 := Kd.F_cut (m := (x2_1 : Int).toNat) (c := c1) hC32 Z5 hroom32
   obtain ⟨A32, hA32⟩ : ∃ A1_, A1_ = (if c1 = (x2_1 : Int).toNat then (some ad484) else ((some ad484) : Option Addr).map (·.add ((x2_1 : Int).toNat * 1))) := ⟨_, rfl⟩
   obtain ⟨c32, hc32⟩ : ∃ c1_, c1_ = c1 - (x2_1 : Int).toNat := ⟨_, rfl⟩
   have hy32 : y502.length = l1.length - (x2_1 : Int).toNat := (by rw [Ny502.out, List.length_drop] <;> omega)
   rw [show (l1).drop (x2_1 : Int).toNat = y502 from Ny502.out.symm] at hr32
   replace hr32 : Kd.F (Kd.int .u8) _ _ A32 y502.length y502 := (by rw [hA32]; exact hr32)
   rw [← hy32, ← hA32, ← hc32] at hcut32
   have HO506 := Aside0.mk (show Kd.V (Kd.int .u8) 5 _ w0.heap.size _ (.slice A32 y502.length c32) y502 from Kd.V_mk (by rw [hy32, hc32]; exact Nat.sub_le_sub_right hroom32 _) hr32)
   have HC506 := Aside0.mk (show y502.length ≤ c32 from by rw [hy32, hc32]; exact Nat.sub_le_sub_right hroom32 _)
   clear hr32 hC32 hroom32 hi032 hsz32 hc32
   have KY32 := Aside0.mk hy32
   have KA32 := Aside0.mk hA32
   clear hy32 hA32
   replace q32 := eq_true q32
   go_wp2_with (first | (go_at_call 32; (with_reducible refine (pretty_isNaNOrInf.calls _ _ y502 t507 _ ?side1 ?side2 A31.out).mono ?_); (case side1 => repeat (first | exact (Kd.V_reads' HO506.out).2.2 | (with_reducible refine Kd.C_alloc ?_ _) | (with_reducible refine Kd.C_drewN ?_ _) | (with_reducible refine Kd.C_drew ?_))); (case side2 => exact (Kd.V_reads' HO506.out).2.1); rintro e w' ⟨rfl, ⟨nd, rfl⟩⟩))
   go_meet
   case rel => exact ⟨_, (t507), Z8, H', ⟨Z47⟩, ⟨pR HO_0.out⟩, ⟨pV HO_1.out⟩, ⟨Z7⟩, ⟨Z6⟩⟩
  rw [if_pos c21] at H
  have c21b0 := decide_eq_true c21
  clear c21
  (first | rw [c21b0] | (simp only [i64_w, i32_w]; rw [c21b0]) | skip)
  by_cases c22 : (rd l1 x2_1) ≤ 57
  ·
   rw [if_pos c22] at H
   have c22b0 := decide_eq_true c22
   clear c22
   have H' := Aside0.mk H
   clear H
   have p492 : 0 ≤ (x2_1 : Int) := of_decide_eq_true Z0
   have q492 : x2_1 < (l1.length : Int) := of_decide_eq_true Z0
   obtain ⟨ad492, e492, hx492_0⟩ := Kd.at_int (Kd.V_reads' HO_1.out).2.2 x2_1 p492 q492
   obtain rfl : ad484 = ad492 := (by injection e492)
   replace p492 := eq_true p492
   replace q492 := eq_true q492
   have p493 : 0 ≤ (x2_1 : Int) := of_decide_eq_true Z0
   have q493 : x2_1 < (l1.length : Int) := of_decide_eq_true Z0
   obtain ⟨ad493, e493, hx493_0⟩ := Kd.at_int (Kd.V_reads' HO_1.out).2.2 x2_1 p493 q493
   obtain rfl : ad484 = ad493 := (by injection e493)
   replace p493 := eq_true p493
   replace q493 := eq_true q493
   go_wp2
   go_meet
   case rel => exact ⟨_, (true), Z8, H', ⟨Z47⟩, ⟨pR HO_0.out⟩, ⟨pV HO_1.out⟩, ⟨Z7⟩, ⟨Z6⟩⟩
  rw [if_neg c22] at H
  have c22b0 := decide_eq_false c22
  clear c22
  by_cases c23 : (rd l1 x2_1) = 45
  ·
   rw [if_pos c23] at H
   have c23b0 := beq_iff_eq.mpr c23
   have c23b1 := bne_eq_false_iff_eq.mpr c23
   clear c23
   have H' := Aside0.mk H
   clear H
   have p492 : 0 ≤ (x2_1 : Int) := of_decide_eq_true Z0
   have q492 : x2_1 < (l1.length : Int) := of_decide_eq_true Z0
   obtain ⟨ad492, e492, hx492_0⟩ := Kd.at_int (Kd.V_reads' HO_1.out).2.2 x2_1 p492 q492
   obtain rfl : ad484 = ad492 := (by injection e492)
   replace p492 := eq_true p492
   replace q492 := eq_true q492
   have p493 : 0 ≤ (x2_1 : Int) := of_decide_eq_true Z0
   have q493 : x2_1 < (l1.length : Int) := of_decide_eq_true Z0
   obtain ⟨ad493, e493, hx493_0⟩ := Kd.at_int (Kd.V_reads' HO_1.out).2.2 x2_1 p493 q493
   obtain rfl : ad484 = ad493 := (by injection e493)
   replace p493 := eq_true p493
   replace q493 := eq_true q493
   have p494 : 0 ≤ (x2_1 : Int) := of_decide_eq_true Z0
   have q494 : x2_1 < (l1.length : Int) := of_decide_eq_true Z0
   obtain ⟨ad494, e494, hx494_0⟩ := Kd.at_int (Kd.V_reads' HO_1.out).2.2 x2_1 p494 q494
   obtain rfl : ad484 = ad494 := (by injection e494)
   replace p494 := eq_true p494
   replace q494 := eq_true q494
   go_wp2
   go_meet
   case rel => exact ⟨_, (true), Z8, H', ⟨Z47⟩, ⟨pR HO_0.out⟩, ⟨pV HO_1.out⟩, ⟨Z7⟩, ⟨Z6⟩⟩
  rw [if_neg c23] at H
  have c23b0 := beq_eq_false_iff_ne.mpr c23
  have c23b1 := bne_iff_ne.mpr c23
  have c24b0 := eq_true (of_decide_eq_true Z0 : 0 ≤ x2_1)
  by_cases c25 : x2_1 ≤ (l1.length : Int)
  rotate_left
  ·
   rw [if_neg c25] at H
   exact absurd H Z4
  rw [if_pos c25] at H
  have c25b0 := eq_true c25
  have c25b1 := decide_eq_true c25
  clear c25
  obtain ⟨y495, hy495⟩ : ∃ y_ : List Int, y_ = (l1.drop (x2_1 : Int).toNat) := ⟨_, rfl⟩
  first | replace H := bind_y hy495 H | rw [← hy495] at H
  have Ny495 := Aside0.mk hy495
  clear hy495
  replace H := Option.bind_eq_some_iff.mp H
  obtain ⟨t500, A260, H⟩ := H
  have A26 := Aside0.mk A260
  clear A260
  have H' := Aside0.mk H
  clear H
  have p492 : 0 ≤ (x2_1 : Int) := of_decide_eq_true Z0
  have q492 : x2_1 < (l1.length : Int) := of_decide_eq_true Z0
  obtain ⟨ad492, e492, hx492_0⟩ := Kd.at_int (Kd.V_reads' HO_1.out).2.2 x2_1 p492 q492
  obtain rfl : ad484 = ad492 := (by injection e492)
  replace p492 := eq_true p492
  replace q492 := eq_true q492
  have p493 : 0 ≤ (x2_1 : Int) := of_decide_eq_true Z0
  have q493 : x2_1 < (l1.length : Int) := of_decide_eq_true Z0
  obtain ⟨ad493, e493, hx493_0⟩ := Kd.at_int (Kd.V_reads' HO_1.out).2.2 x2_1 p493 q493
  obtain rfl : ad484 = ad493 := (by injection e493)
  replace p493 := eq_true p493
  replace q493 := eq_true q493
  have p494 : 0 ≤ (x2_1 : Int) := of_decide_eq_true Z0
  have q494 : x2_1 < (l1.length : Int) := of_decide_eq_true Z0
  obtain ⟨ad494, e494, hx494_0⟩ := Kd.at_int (Kd.V_reads' HO_1.out).2.2 x2_1 p494 q494
  obtain rfl : ad484 = ad494 := (by injection e494)
  replace p494 := eq_true p494
  replace q494 := eq_true q494
  have q27 : (x2_1 : Int) ≤ ((l1.length : Int) : Int) := of_decide_eq_true Z0
  obtain ⟨i027, hi027, _, hsz27, _⟩ := info_parts info5
  have hroom27 : l1.length ≤ c1 := (Kd.V_reads' HO_1.out).2.1
  have hC27 : Kd.F (Kd.int .u8) _ _ (some ad484) l1.length l1 := (Kd.V_at (base := w0.heap.size) HO_1.out).2.2
  have q027 : (0 : Int) ≤ (x2_1 : Int) := of_decide_eq_true Z0
  have hcut27 := cut_from (P := Try.prog) 40 5 .i64 Try.underlying40 hi027 1 hsz27 (some ad484) l1.length c1 x2_1 q027 q27
  have hr27 := Kd.F_cut (m := (x2_1 : Int).toNat) (c := c1) hC27 Z5 hroom27
  obtain ⟨A27, hA27⟩ : ∃ A1_, A1_ = (if c1 = (x2_1 : Int).toNat then (some ad484) else ((some ad484) : Option Addr).map (·.add ((x2_1 : Int).toNat * 1))) := ⟨_, rfl⟩
  obtain ⟨c27, hc27⟩ : ∃ c1_, c1_ = c1 - (x2_1 : Int).toNat := ⟨_, rfl⟩
  have hy27 : y495.length = l1.length - (x2_1 : Int).toNat := (by rw [Ny495.out, List.length_drop] <;> omega)
  rw [show (l1).drop (x2_1 : Int).toNat = y495 from Ny495.out.symm] at hr27
  replace hr27 : Kd.F (Kd.int .u8) _ _ A27 y495.length y495 := (by rw [hA27]; exact hr27)
  rw [← hy27, ← hA27, ← hc27] at hcut27
  have HO499 := Aside0.mk (show Kd.V (Kd.int .u8) 5 _ w0.heap.size _ (.slice A27 y495.length c27) y495 from Kd.V_mk (by rw [hy27, hc27]; exact Nat.sub_le_sub_right hroom27 _) hr27)
  have HC499 := Aside0.mk (show y495.length ≤ c27 from by rw [hy27, hc27]; exact Nat.sub_le_sub_right hroom27 _)
  clear hr27 hC27 hroom27 hi027 hsz27 hc27
  have KY27 := Aside0.mk hy27
  have KA27 := Aside0.mk hA27
  clear hy27 hA27
  replace q27 := eq_true q27
  go_wp2_with (first | (go_at_call 32; (with_reducible refine (pretty_isNaNOrInf.calls _ _ y495 t500 _ ?side1 ?side2 A26.out).mono ?_); (case side1 => repeat (first | exact (Kd.V_reads' HO499.out).2.2 | (with_reducible refine Kd.C_alloc ?_ _) | (with_reducible refine Kd.C_drewN ?_ _) | (with_reducible refine Kd.C_drew ?_))); (case side2 => exact (Kd.V_reads' HO499.out).2.1); rintro e w' ⟨rfl, ⟨nd, rfl⟩⟩))
  go_meet
  case rel => exact ⟨_, (t500), Z8, H', ⟨Z47⟩, ⟨pR HO_0.out⟩, ⟨pV HO_1.out⟩, ⟨Z7⟩, ⟨Z6⟩⟩
 clear HC20; try clear c1; try clear c2; try clear p2; try clear q2; try clear c3; try clear q3; try clear p4; try clear q4; try clear hx4; try clear p5; try clear q5; try clear hx5; try clear p6; try clear c13; try clear c13b0; try clear c14; try clear c14b0; try clear c15; try clear c15b0; try clear c16; try clear c16b0; try clear c16b1; try clear c19; try clear c21; try clear c21b0; try clear c22; try clear c22b0; try clear c23; try clear c23b0; try clear c23b1; try clear c24; try clear c24b0; try clear c25; try clear c25b0; try clear c25b1; try clear c27; try clear q27; try clear c28; try clear c28b0; try clear c28b1; try clear c29; try clear c29b0; try clear c30; try clear c30b0; try clear c30b1; try clear c31; try clear c32; try clear q32; try clear hx484_0; try clear hx485_0; try clear hx492_0; try clear hx493_0; try clear hx494_0; try clear hx501_0; try clear p2; try clear p484; try clear p485; try clear p492; try clear p493; try clear p494; try clear p501; try clear q027; try clear q032; try clear q27; try clear q32; try clear q484; try clear q485; try clear q492; try clear q493; try clear q494; try clear q501
 obtain ⟨kq, x75_19, rfl, HA, HJ19, HO_0, HO_1, HK, HB⟩ := hcut
 cases kq with
 | zero => exact absurd HA.out (by simp [pretty_appendPrettyAny.j1])
 | succ kj19 =>
 have H := HA.out
 clear HA
 simp only [pretty_appendPrettyAny.j1] at H
 rw [if_neg (show ¬ (false = true) from Z2)] at H
 by_cases c34 : x75_19 = true
 ·
  subst c34
  rw [if_pos rfl] at H
  replace H := Option.bind_eq_some_iff.mp H
  obtain ⟨⟨t508, t511, t512, t513⟩, A350, H⟩ := H
  dsimp only at H
  have A35 := Aside0.mk A350
  clear A350
  simp only [Option.some.injEq, Prod.mk.injEq] at H
  obtain ⟨rfl, rfl, rfl, rfl⟩ := H
  obtain ⟨Ao36, co36, eo36⟩ := Kd.R_slice HO_0.out
  subst eo36
  go_wp2_with (first | ((with_reducible refine gate_callee (f := 33) rfl ?_); refine goesL_ (some 80) rfl rfl Try.func33 Z1 rfl #[.slice Ao36 l0.length co36, .slice (some ad484) l1.length c1, .int .i64 x2_1, .int .i64 a9] rfl Z13 ?_; (with_reducible refine (pretty_appendPrettyNumber.calls kj19 (fun k_ => some k_ = (.slice Ao36 l0.length co36 : Value).ownBlock) (.slice Ao36 l0.length co36) l0 _ _ l1 x2_1 a9 t508 t511 t512 t513 w0 _ ?side1 ?side2 ?side3 ?side4 A35.out).mono ?_); (case side1 => exact Z6); (case side2 => exact Z36); (case side3 => exact Kd.C_kept_ownV (HO_1.out) (fun k_ hk_ hs_ => (hk_.2) hs_)); (case side4 => exact (Kd.V_reads' HO_1.out).2.1); rintro e w37 ⟨v509, rfl, ho0, hb, hkp⟩; refine ⟨_, rfl, ?_⟩; have n0_ := Aside0.mk (Kd.V_mono (ok' := fun k_ => ((P0_ k_ ∨ P1_ k_) ∨ w.heap.size ≤ k_) ∧ some k_ ≠ (v509 : Value).ownBlock) (Kd.V_keptB (HO_1.out) hkp (fun k_ hk_ hs_ => (hk_.2) hs_)) (fun k_ hk_ => ⟨hk_.1.1, fun e_ => Or.elim (ho0.1 k_ e_.symm) (fun hs_ => hk_.2.1 hs_) (fun hn_ => Nat.not_le.2 hk_.2.2 hn_)⟩)); have n1_ := Aside0.mk (Kd.R_mono (ok' := fun k_ => (P0_ k_ ∨ w.heap.size ≤ k_)) ho0 (fun k_ hk_ => Or.elim hk_ (fun hs_ => (HO_0.out.1 k_ (hs_).symm)) (fun hn_ => (.inr (Nat.le_trans Z119 hn_))))); have n2_ := Aside0.mk (Kept.then_ (S := (fun k_ => P0_ k_)) Z7 hkp (fun k_ hs_ => (fun e_ => (HO_0.out.1 k_ e_.symm)) hs_)); have n3_ := Aside0.mk (hb); clear HO_1; clear HK; clear HB; clear HO_0; have HO_1 := n0_; have HO510 := n1_; have HK := n2_; have HB := n3_; clear n0_ n1_ n2_ n3_; (try clear hb); (try clear hkp); (try clear ho0)))
  refine bodyPost_ret (results_list (rs := [.tmp 22, .tmp 23, .tmp 24, .tmp 25]) rfl Z4 (.tmp (.tmp (.tmp (.tmp .nil))))) rfl ?_
  exact ⟨_, Z12, pR HO510.out, Z6, Z7⟩
 replace c34 := Bool.eq_false_iff.mpr c34
 subst c34
 rw [if_neg (show ¬ (false = true) from Z2)] at H
 by_cases c38 : 0 ≤ x2_1
 rotate_left
 ·
  rw [if_neg c38] at H
  exact absurd H Z4
 rw [if_pos c38] at H
 have c38b0 := decide_eq_true c38
 clear c38
 by_cases c39 : x2_1 < (l1.length : Int)
 rotate_left
 ·
  rw [if_neg c39] at H
  exact absurd H Z4
 rw [if_pos c39] at H
 have c39b0 := decide_eq_true c39
 clear c39
 by_cases c40 : (rd l1 x2_1) = 123
 ·
  rw [if_pos c40] at H
  have c40b0 := beq_iff_eq.mpr c40
  have c40b1 := bne_eq_false_iff_eq.mpr c40
  clear c40
  replace H := Option.bind_eq_some_iff.mp H
  obtain ⟨⟨t515, t518, t519, t520⟩, A410, H⟩ := H
  dsimp only at H
  have A41 := Aside0.mk A410
  clear A410
  simp only [Option.some.injEq, Prod.mk.injEq] at H
  obtain ⟨rfl, rfl, rfl, rfl⟩ := H
  have p514 : 0 ≤ (x2_1 : Int) := of_decide_eq_true Z0
  have q514 : x2_1 < (l1.length : Int) := of_decide_eq_true Z0
  obtain ⟨ad514, e514, hx514_0⟩ := Kd.at_int (Kd.V_reads' HO_1.out).2.2 x2_1 p514 q514
  obtain rfl : ad484 = ad514 := Z53
  replace p514 := eq_true p514
  replace q514 := eq_true q514
  obtain ⟨Ao42, co42, eo42⟩ := Kd.R_slice HO_0.out
  subst eo42
  go_wp2_with (first | ((with_reducible refine gate_callee (f := 34) rfl ?_); refine goesL_ (some 101) rfl rfl Try.func34 Z1 rfl #[.slice Ao42 l0.length co42, .slice (some ad484) l1.length c1, .int .i64 x2_1, .int .u8 123, .int .u8 125, .bool a3, .int .i64 a4, .string a5, .string a6, .bool false, .int .i64 a8, .int .i64 a9, .int .i64 a10] rfl Z13 ?_; (with_reducible refine (ih_34_ kj19 Z86 (fun k_ => some k_ = (.slice Ao42 l0.length co42 : Value).ownBlock) (.slice Ao42 l0.length co42) l0 (fun k_ => (((P0_ k_ ∨ P1_ k_) ∨ w.heap.size ≤ k_) ∧ some k_ ≠ (.slice Ao42 l0.length co42 : Value).ownBlock)) _ _ l1 x2_1 123 125 a3 a4 a5 a6  a8 a9 a10 t515 t518 t519 t520 w0 _ ?side1 ?side2 ?side3 A41.out).mono ?_); (case side1 => exact Z6); (case side2 => exact Z36); (case side3 => exact Z68); rintro e w43 ⟨v516, rfl, ho0, hb, hkp⟩; refine ⟨_, rfl, ?_⟩; have n0_ := Aside0.mk (Kd.V_mono (ok' := fun k_ => ((P0_ k_ ∨ P1_ k_) ∨ w.heap.size ≤ k_) ∧ some k_ ≠ (v516 : Value).ownBlock) (Kd.V_keptB (HO_1.out) hkp (fun k_ hk_ hs_ => (hk_.2) hs_)) (fun k_ hk_ => ⟨hk_.1.1, fun e_ => Or.elim (ho0.1 k_ e_.symm) (fun hs_ => hk_.2.1 hs_) (fun hn_ => Nat.not_le.2 hk_.2.2 hn_)⟩)); have n1_ := Aside0.mk (Kd.R_mono (ok' := fun k_ => (P0_ k_ ∨ w.heap.size ≤ k_)) ho0 (fun k_ hk_ => Or.elim hk_ (fun hs_ => (HO_0.out.1 k_ (hs_).symm)) (fun hn_ => (.inr (Nat.le_trans Z119 hn_))))); have n2_ := Aside0.mk (Kept.then_ (S := (fun k_ => P0_ k_)) Z7 hkp (fun k_ hs_ => (fun e_ => (HO_0.out.1 k_ e_.symm)) hs_)); have n3_ := Aside0.mk (hb); clear HO_1; clear HK; clear HB; clear HO_0; have HO_1 := n0_; have HO517 := n1_; have HK := n2_; have HB := n3_; clear n0_ n1_ n2_ n3_; (try clear hb); (try clear hkp); (try clear ho0)))
  refine bodyPost_ret (results_list (rs := [.tmp 22, .tmp 23, .tmp 24, .tmp 25]) rfl Z4 (.tmp (.tmp (.tmp (.tmp .nil))))) rfl ?_
  exact ⟨_, Z12, pR HO517.out, Z6, Z7⟩
 rw [if_neg c40] at H
 have c40b0 := beq_eq_false_iff_ne.mpr c40
 have c40b1 := bne_iff_ne.mpr c40
 by_cases c44 : (rd l1 x2_1) = 91
 ·
  rw [if_pos c44] at H
  have c44b0 := beq_iff_eq.mpr c44
  have c44b1 := bne_eq_false_iff_eq.mpr c44
  clear c44
  replace H := Option.bind_eq_some_iff.mp H
  obtain ⟨⟨t522, t525, t526, t527⟩, A450, H⟩ := H
  dsimp only at H
  have A45 := Aside0.mk A450
  clear A450
  simp only [Option.some.injEq, Prod.mk.injEq] at H
  obtain ⟨rfl, rfl, rfl, rfl⟩ := H
  have p514 : 0 ≤ (x2_1 : Int) := of_decide_eq_true Z0
  have q514 : x2_1 < (l1.length : Int) := of_decide_eq_true Z0
  obtain ⟨ad514, e514, hx514_0⟩ := Kd.at_int (Kd.V_reads' HO_1.out).2.2 x2_1 p514 q514
  obtain rfl : ad484 = ad514 := Z53
  replace p514 := eq_true p514
  replace q514 := eq_true q514
  have p521 : 0 ≤ (x2_1 : Int) := of_decide_eq_true Z0
  have q521 : x2_1 < (l1.length : Int) := of_decide_eq_true Z0
  obtain ⟨ad521, e521, hx521_0⟩ := Kd.at_int (Kd.V_reads' HO_1.out).2.2 x2_1 p521 q521
  obtain rfl : ad484 = ad521 := (by injection e521)
  replace p521 := eq_true p521
  replace q521 := eq_true q521
  obtain ⟨Ao46, co46, eo46⟩ := Kd.R_slice HO_0.out
  subst eo46
  go_wp2_with (first | ((with_reducible refine gate_callee (f := 34) rfl ?_); refine goesL_ (some 122) rfl rfl Try.func34 Z1 rfl #[.slice Ao46 l0.length co46, .slice (some ad484) l1.length c1, .int .i64 x2_1, .int .u8 91, .int .u8 93, .bool a3, .int .i64 a4, .string a5, .string a6, .bool false, .int .i64 a8, .int .i64 a9, .int .i64 a10] rfl Z13 ?_; (with_reducible refine (ih_34_ kj19 Z86 (fun k_ => some k_ = (.slice Ao46 l0.length co46 : Value).ownBlock) (.slice Ao46 l0.length co46) l0 (fun k_ => (((P0_ k_ ∨ P1_ k_) ∨ w.heap.size ≤ k_) ∧ some k_ ≠ (.slice Ao46 l0.length co46 : Value).ownBlock)) _ _ l1 x2_1 91 93 a3 a4 a5 a6  a8 a9 a10 t522 t525 t526 t527 w0 _ ?side1 ?side2 ?side3 A45.out).mono ?_); (case side1 => exact Z6); (case side2 => exact Z36); (case side3 => exact Z68); rintro e w47 ⟨v523, rfl, ho0, hb, hkp⟩; refine ⟨_, rfl, ?_⟩; have n0_ := Aside0.mk (Kd.V_mono (ok' := fun k_ => ((P0_ k_ ∨ P1_ k_) ∨ w.heap.size ≤ k_) ∧ some k_ ≠ (v523 : Value).ownBlock) (Kd.V_keptB (HO_1.out) hkp (fun k_ hk_ hs_ => (hk_.2) hs_)) (fun k_ hk_ => ⟨hk_.1.1, fun e_ => Or.elim (ho0.1 k_ e_.symm) (fun hs_ => hk_.2.1 hs_) (fun hn_ => Nat.not_le.2 hk_.2.2 hn_)⟩)); have n1_ := Aside0.mk (Kd.R_mono (ok' := fun k_ => (P0_ k_ ∨ w.heap.size ≤ k_)) ho0 (fun k_ hk_ => Or.elim hk_ (fun hs_ => (HO_0.out.1 k_ (hs_).symm)) (fun hn_ => (.inr (Nat.le_trans Z119 hn_))))); have n2_ := Aside0.mk (Kept.then_ (S := (fun k_ => P0_ k_)) Z7 hkp (fun k_ hs_ => (fun e_ => (HO_0.out.1 k_ e_.symm)) hs_)); have n3_ := Aside0.mk (hb); clear HO_1; clear HK; clear HB; clear HO_0; have HO_1 := n0_; have HO524 := n1_; have HK := n2_; have HB := n3_; clear n0_ n1_ n2_ n3_; (try clear hb); (try clear hkp); (try clear ho0)))
  refine bodyPost_ret (results_list (rs := [.tmp 22, .tmp 23, .tmp 24, .tmp 25]) rfl Z4 (.tmp (.tmp (.tmp (.tmp .nil))))) rfl ?_
  exact ⟨_, Z12, pR HO524.out, Z6, Z7⟩
 rw [if_neg c44] at H
 have c44b0 := beq_eq_false_iff_ne.mpr c44
 have c44b1 := bne_iff_ne.mpr c44
 by_cases c48 : (rd l1 x2_1) = 116
 ·
  rw [if_pos c48] at H
  have c48b0 := beq_iff_eq.mpr c48
  have c48b1 := bne_eq_false_iff_eq.mpr c48
  clear c48
  obtain ⟨y529, hy529⟩ : ∃ y_ : List Int, y_ = (([116, 114, 117, 101] : List Int)) := ⟨_, rfl⟩
  first | replace H := bind_y hy529 H | rw [← hy529] at H
  have Ny529 := Aside0.mk hy529
  clear hy529
  by_cases c49 : l0.length + y529.length < 140737488355328
  rotate_left
  ·
   rw [if_neg c49] at H
   exact absurd H Z4
  rw [if_pos c49] at H
  have LMc49 := Aside0.mk c49
  clear c49
  obtain ⟨y532, hy532⟩ : ∃ y_ : List Int, y_ = (l0 ++ y529) := ⟨_, rfl⟩
  first | replace H := bind_y hy532 H | rw [← hy532] at H
  have Ny532 := Aside0.mk hy532
  clear hy532
  simp only [Option.some.injEq, Prod.mk.injEq] at H
  obtain ⟨rfl, rfl, rfl, rfl⟩ := H
  have p514 : 0 ≤ (x2_1 : Int) := of_decide_eq_true Z0
  have q514 : x2_1 < (l1.length : Int) := of_decide_eq_true Z0
  obtain ⟨ad514, e514, hx514_0⟩ := Kd.at_int (Kd.V_reads' HO_1.out).2.2 x2_1 p514 q514
  obtain rfl : ad484 = ad514 := Z53
  replace p514 := eq_true p514
  replace q514 := eq_true q514
  have p521 : 0 ≤ (x2_1 : Int) := of_decide_eq_true Z0
  have q521 : x2_1 < (l1.length : Int) := of_decide_eq_true Z0
  obtain ⟨ad521, e521, hx521_0⟩ := Kd.at_int (Kd.V_reads' HO_1.out).2.2 x2_1 p521 q521
  obtain rfl : ad484 = ad521 := (by injection e521)
  replace p521 := eq_true p521
  replace q521 := eq_true q521
  have p528 : 0 ≤ (x2_1 : Int) := of_decide_eq_true Z0
  have q528 : x2_1 < (l1.length : Int) := of_decide_eq_true Z0
  obtain ⟨ad528, e528, hx528_0⟩ := Kd.at_int (Kd.V_reads' HO_1.out).2.2 x2_1 p528 q528
  obtain rfl : ad484 = ad528 := (by injection e528)
  replace p528 := eq_true p528
  replace q528 := eq_true q528
  go_wp2_with (first | ((with_reducible refine gate_dst (N := 134) rfl ?_); refine Kd.R_lit (Kd.int .u8) _ 5 ?hg (N := 134) ?hd (xs := ([116, 114, 117, 101] : List Int)) (inner := [.int .u8 116, .int .u8 114, .int .u8 117, .int .u8 101]) (ok := fun _ => True) (okp := fun _ => True) ?hr ?hp (fun _ hk => hk) trivial (Below.refl _ _) (Nat.le_refl _) Z4 ?_; (case hd => exact Z3); (case hg => exact Z3); (case hr => exact Z19); (case hp => exact (Reps.one (show Kd.M (Kd.int .u8) _ _ _ 116 [.int .u8 116] from rfl) (Reps.one (show Kd.M (Kd.int .u8) _ _ _ 114 [.int .u8 114] from rfl) (Reps.one (show Kd.M (Kd.int .u8) _ _ _ 117 [.int .u8 117] from rfl) (Reps.one (show Kd.M (Kd.int .u8) _ _ _ 101 [.int .u8 101] from rfl) (Reps.none _ _)))))); intro v530 w50 ho51 hb hg_ hnew_; clear hg_ hnew_; (first | rw [← Ny529.out] at ho51 | (simp only [Int.reduceToNat] at ho51; rw [← Ny529.out] at ho51)); have n0_ := Aside0.mk (Kd.R_elder' (pR HO_0.out) (Kd.R_base ho51) hb); have n1_ := Aside0.mk (Kd.V_elder' (pV HO_1.out) (Kd.R_base ho51) hb); have n2_ := Aside0.mk (Kd.R_lower (Kd.R_new' (Kd.R_newM (M := fun k_ => (P0_ k_ ∨ w.heap.size ≤ k_)) ho51 Z119 (fun k_ h_ => .inr h_)) (Kd.R_lt (pR HO_0.out))) (below_size Z6)); have n3_ := Aside0.mk (Kept.below (S := (fun k_ => P0_ k_)) Z7 hb); have n4_ := Aside0.mk (below_step Z6 hb); clear HO_0; clear HO_1; clear HK; clear HB; have HO_0 := n0_; have HO_1 := n1_; have HO531 := n2_; have HK := n3_; have HB := n4_; clear n0_ n1_ n2_ n3_ n4_; clear hb ho51; obtain ⟨Ao53, co53, eo53⟩ := Kd.R_slice HO531.out; subst eo53) | ((with_reducible refine gate_builtin (b := .append) (xs := #[.tmp 133, .tmp 134]) rfl ?_); at_builtin; refine Kd.R_append_rows (Kd.int .u8) (w0 := w0) w0.heap.size rfl (.tmp 133) (.tmp 134) 40 5 (.int .u8 0) 1 rfl Try.underlying40 info5 rfl Z2 Z5 u9000_ l0 y529 _ _ _ (fun k_ => (P0_ k_ ∨ w.heap.size ≤ k_) ∧ some k_ ≠ (.slice Ao53 y529.length co53 : Value).ownBlock) (fun _ => False) rfl rfl ?aO ?aR (fun _ _ h => h) (fun _ h => h.elim) ?aF ?aB ?aS ?aL ?_; (case aR => repeat (first | exact (Kd.R_reads' HO531.out).2.2 | (with_reducible refine Kd.C_alloc ?_ _) | (with_reducible refine Kd.C_drewN ?_ _) | (with_reducible refine Kd.C_drew ?_))); (case aB => exact Z6); (case aF => exact (fun k_ hk => ⟨(.inr (Nat.le_trans Z119 hk)), Kd.fresh' (Kd.R_lt (pR HO531.out)) k_ hk⟩)); (case aO => exact (pR HO_0.out)); (case aS => exact (below_size Z6)); (case aL => have := LMc49.out; omega); intro v533 w52 ho hb hg hat; rw [← Ny532.out] at ho; have n0_ := Aside0.mk (Kd.V_afterv (ok := (fun k_ => ((P0_ k_ ∨ P1_ k_) ∨ w.heap.size ≤ k_) ∧ some k_ ≠ (.slice Ao53 y529.length co53 : Value).ownBlock)) Z49 hg hat); have n1_ := Aside0.mk (Kd.R_after (ok := (fun k_ => (P0_ k_ ∨ w.heap.size ≤ k_))) (by (with_reducible repeat (first | apply Kd.R_alloc | apply Kd.R_drewN | apply Kd.R_drew)); exact Kd.R_mono HO531.out (fun _ hk => ⟨hk.1.1, hk.2⟩)) hg hat); have n2_ := Aside0.mk (hb); have n3_ := Aside0.mk (Kept.of_grown (S := (fun k_ => P0_ k_)) hg Z7 (fun k_ e_ => (HO_0.out.1 k_ e_).1)); have n4_ := Aside0.mk (ho); clear HO_1; clear HO531; clear HB; clear HK; clear HO_0; have HO_1 := n0_; have HO531 := n1_; have HB := n2_; have HK := n3_; have HO534 := n4_; clear n0_ n1_ n2_ n3_ n4_; clear ho hb hg hat))
  refine bodyPost_ret (results_list (rs := [.tmp 22, .tmp 23, .tmp 24, .tmp 25]) rfl Z4 (.tmp (.tmp (.tmp (.tmp .nil))))) rfl ?_
  exact ⟨_, Z12, by (with_reducible repeat (first | apply Kd.R_alloc | apply Kd.R_drewN | apply Kd.R_drew)); exact Kd.R_mono HO534.out (fun _ hk => hk.1), Z6, Z7⟩
 rw [if_neg c48] at H
 have c48b0 := beq_eq_false_iff_ne.mpr c48
 have c48b1 := bne_iff_ne.mpr c48
 by_cases c54 : (rd l1 x2_1) = 102
 ·
  rw [if_pos c54] at H
  have c54b0 := beq_iff_eq.mpr c54
  have c54b1 := bne_eq_false_iff_eq.mpr c54
  clear c54
  obtain ⟨y535, hy535⟩ : ∃ y_ : List Int, y_ = (([102, 97, 108, 115, 101] : List Int)) := ⟨_, rfl⟩
  first | replace H := bind_y hy535 H | rw [← hy535] at H
  have Ny535 := Aside0.mk hy535
  clear hy535
  by_cases c55 : l0.length + y535.length < 140737488355328
  rotate_left
  ·
   rw [if_neg c55] at H
   exact absurd H Z4
  rw [if_pos c55] at H
  have LMc55 := Aside0.mk c55
  clear c55
  obtain ⟨y538, hy538⟩ : ∃ y_ : List Int, y_ = (l0 ++ y535) := ⟨_, rfl⟩
  first | replace H := bind_y hy538 H | rw [← hy538] at H
  have Ny538 := Aside0.mk hy538
  clear hy538
  simp only [Option.some.injEq, Prod.mk.injEq] at H
  obtain ⟨rfl, rfl, rfl, rfl⟩ := H
  have p514 : 0 ≤ (x2_1 : Int) := of_decide_eq_true Z0
  have q514 : x2_1 < (l1.length : Int) := of_decide_eq_true Z0
  obtain ⟨ad514, e514, hx514_0⟩ := Kd.at_int (Kd.V_reads' HO_1.out).2.2 x2_1 p514 q514
  obtain rfl : ad484 = ad514 := Z53
  replace p514 := eq_true p514
  replace q514 := eq_true q514
  have p521 : 0 ≤ (x2_1 : Int) := of_decide_eq_true Z0
  have q521 : x2_1 < (l1.length : Int) := of_decide_eq_true Z0
  obtain ⟨ad521, e521, hx521_0⟩ := Kd.at_int (Kd.V_reads' HO_1.out).2.2 x2_1 p521 q521
  obtain rfl : ad484 = ad521 := (by injection e521)
  replace p521 := eq_true p521
  replace q521 := eq_true q521
  have p528 : 0 ≤ (x2_1 : Int) := of_decide_eq_true Z0
  have q528 : x2_1 < (l1.length : Int) := of_decide_eq_true Z0
  obtain ⟨ad528, e528, hx528_0⟩ := Kd.at_int (Kd.V_reads' HO_1.out).2.2 x2_1 p528 q528
  obtain rfl : ad484 = ad528 := (by injection e528)
  replace p528 := eq_true p528
  replace q528 := eq_true q528
  go_wp2_with (first | ((with_reducible refine gate_dst (N := 142) rfl ?_); refine Kd.R_lit (Kd.int .u8) _ 5 ?hg (N := 142) ?hd (xs := ([102, 97, 108, 115, 101] : List Int)) (inner := [.int .u8 102, .int .u8 97, .int .u8 108, .int .u8 115, .int .u8 101]) (ok := fun _ => True) (okp := fun _ => True) ?hr ?hp (fun _ hk => hk) trivial (Below.refl _ _) (Nat.le_refl _) Z4 ?_; (case hd => exact Z3); (case hg => exact Z3); (case hr => exact Z19); (case hp => exact (Reps.one (show Kd.M (Kd.int .u8) _ _ _ 102 [.int .u8 102] from rfl) (Reps.one (show Kd.M (Kd.int .u8) _ _ _ 97 [.int .u8 97] from rfl) (Reps.one (show Kd.M (Kd.int .u8) _ _ _ 108 [.int .u8 108] from rfl) (Reps.one (show Kd.M (Kd.int .u8) _ _ _ 115 [.int .u8 115] from rfl) (Reps.one (show Kd.M (Kd.int .u8) _ _ _ 101 [.int .u8 101] from rfl) (Reps.none _ _))))))); intro v536 w56 ho57 hb hg_ hnew_; clear hg_ hnew_; (first | rw [← Ny535.out] at ho57 | (simp only [Int.reduceToNat] at ho57; rw [← Ny535.out] at ho57)); have n0_ := Aside0.mk (Kd.R_elder' (pR HO_0.out) (Kd.R_base ho57) hb); have n1_ := Aside0.mk (Kd.V_elder' (pV HO_1.out) (Kd.R_base ho57) hb); have n2_ := Aside0.mk (Kd.R_lower (Kd.R_new' (Kd.R_newM (M := fun k_ => (P0_ k_ ∨ w.heap.size ≤ k_)) ho57 Z119 (fun k_ h_ => .inr h_)) (Kd.R_lt (pR HO_0.out))) (below_size Z6)); have n3_ := Aside0.mk (Kept.below (S := (fun k_ => P0_ k_)) Z7 hb); have n4_ := Aside0.mk (below_step Z6 hb); clear HO_0; clear HO_1; clear HK; clear HB; have HO_0 := n0_; have HO_1 := n1_; have HO537 := n2_; have HK := n3_; have HB := n4_; clear n0_ n1_ n2_ n3_ n4_; clear hb ho57; obtain ⟨Ao59, co59, eo59⟩ := Kd.R_slice HO537.out; subst eo59) | ((with_reducible refine gate_builtin (b := .append) (xs := #[.tmp 141, .tmp 142]) rfl ?_); at_builtin; refine Kd.R_append_rows (Kd.int .u8) (w0 := w0) w0.heap.size rfl (.tmp 141) (.tmp 142) 40 5 (.int .u8 0) 1 rfl Try.underlying40 info5 rfl Z2 Z5 u9000_ l0 y535 _ _ _ (fun k_ => (P0_ k_ ∨ w.heap.size ≤ k_) ∧ some k_ ≠ (.slice Ao59 y535.length co59 : Value).ownBlock) (fun _ => False) rfl rfl ?aO ?aR (fun _ _ h => h) (fun _ h => h.elim) ?aF ?aB ?aS ?aL ?_; (case aR => repeat (first | exact (Kd.R_reads' HO537.out).2.2 | (with_reducible refine Kd.C_alloc ?_ _) | (with_reducible refine Kd.C_drewN ?_ _) | (with_reducible refine Kd.C_drew ?_))); (case aB => exact Z6); (case aF => exact (fun k_ hk => ⟨(.inr (Nat.le_trans Z119 hk)), Kd.fresh' (Kd.R_lt (pR HO537.out)) k_ hk⟩)); (case aO => exact (pR HO_0.out)); (case aS => exact (below_size Z6)); (case aL => have := LMc55.out; omega); intro v539 w58 ho hb hg hat; rw [← Ny538.out] at ho; have n0_ := Aside0.mk (Kd.V_afterv (ok := (fun k_ => ((P0_ k_ ∨ P1_ k_) ∨ w.heap.size ≤ k_) ∧ some k_ ≠ (.slice Ao59 y535.length co59 : Value).ownBlock)) Z49 hg hat); have n1_ := Aside0.mk (Kd.R_after (ok := (fun k_ => (P0_ k_ ∨ w.heap.size ≤ k_))) (by (with_reducible repeat (first | apply Kd.R_alloc | apply Kd.R_drewN | apply Kd.R_drew)); exact Kd.R_mono HO537.out (fun _ hk => ⟨hk.1.1, hk.2⟩)) hg hat); have n2_ := Aside0.mk (hb); have n3_ := Aside0.mk (Kept.of_grown (S := (fun k_ => P0_ k_)) hg Z7 (fun k_ e_ => (HO_0.out.1 k_ e_).1)); have n4_ := Aside0.mk (ho); clear HO_1; clear HO537; clear HB; clear HK; clear HO_0; have HO_1 := n0_; have HO537 := n1_; have HB := n2_; have HK := n3_; have HO540 := n4_; clear n0_ n1_ n2_ n3_ n4_; clear ho hb hg hat))
  refine bodyPost_ret (results_list (rs := [.tmp 22, .tmp 23, .tmp 24, .tmp 25]) rfl Z4 (.tmp (.tmp (.tmp (.tmp .nil))))) rfl ?_
  exact ⟨_, Z12, by (with_reducible repeat (first | apply Kd.R_alloc | apply Kd.R_drewN | apply Kd.R_drew)); exact Kd.R_mono HO540.out (fun _ hk => hk.1), Z6, Z7⟩
 rw [if_neg c54] at H
 have c54b0 := beq_eq_false_iff_ne.mpr c54
 have c54b1 := bne_iff_ne.mpr c54
 by_cases c60 : (rd l1 x2_1) = 110
 rotate_left
 ·
  rw [if_neg c60] at H
  have c60b0 := beq_eq_false_iff_ne.mpr c60
  have c60b1 := bne_iff_ne.mpr c60
  have H' := Aside0.mk H
  clear H
  have p514 : 0 ≤ (x2_1 : Int) := of_decide_eq_true Z0
  have q514 : x2_1 < (l1.length : Int) := of_decide_eq_true Z0
  obtain ⟨ad514, e514, hx514_0⟩ := Kd.at_int (Kd.V_reads' HO_1.out).2.2 x2_1 p514 q514
  obtain rfl : ad484 = ad514 := Z53
  replace p514 := eq_true p514
  replace q514 := eq_true q514
  have p521 : 0 ≤ (x2_1 : Int) := of_decide_eq_true Z0
  have q521 : x2_1 < (l1.length : Int) := of_decide_eq_true Z0
  obtain ⟨ad521, e521, hx521_0⟩ := Kd.at_int (Kd.V_reads' HO_1.out).2.2 x2_1 p521 q521
  obtain rfl : ad484 = ad521 := (by injection e521)
  replace p521 := eq_true p521
  replace q521 := eq_true q521
  have p528 : 0 ≤ (x2_1 : Int) := of_decide_eq_true Z0
  have q528 : x2_1 < (l1.length : Int) := of_decide_eq_true Z0
  obtain ⟨ad528, e528, hx528_0⟩ := Kd.at_int (Kd.V_reads' HO_1.out).2.2 x2_1 p528 q528
  obtain rfl : ad484 = ad528 := (by injection e528)
  replace p528 := eq_true p528
  replace q528 := eq_true q528
  go_wp2
  go_roundg kj19
  case measure => have := HK1.out; have := HJ19.out; omega
  case rel => exact ⟨(wrap64 (x2_1 + 1)), Z8, H', ⟨Z86⟩, ⟨pR HO_0.out⟩, ⟨pV HO_1.out⟩, ⟨Z7⟩, ⟨Z6⟩⟩
 rw [if_pos c60] at H
 have c60b0 := beq_iff_eq.mpr c60
 have c60b1 := bne_eq_false_iff_eq.mpr c60
 clear c60
 obtain ⟨y541, hy541⟩ : ∃ y_ : List Int, y_ = (([110, 117, 108, 108] : List Int)) := ⟨_, rfl⟩
 first | replace H := bind_y hy541 H | rw [← hy541] at H
 have Ny541 := Aside0.mk hy541
 clear hy541
 by_cases c61 : l0.length + y541.length < 140737488355328
 rotate_left
 ·
  rw [if_neg c61] at H
  exact absurd H Z4
 rw [if_pos c61] at H
 have LMc61 := Aside0.mk c61
 clear c61
 obtain ⟨y544, hy544⟩ : ∃ y_ : List Int, y_ = (l0 ++ y541) := ⟨_, rfl⟩
 first | replace H := bind_y hy544 H | rw [← hy544] at H
 have Ny544 := Aside0.mk hy544
 clear hy544
 simp only [Option.some.injEq, Prod.mk.injEq] at H
 obtain ⟨rfl, rfl, rfl, rfl⟩ := H
 have p514 : 0 ≤ (x2_1 : Int) := of_decide_eq_true Z0
 have q514 : x2_1 < (l1.length : Int) := of_decide_eq_true Z0
 obtain ⟨ad514, e514, hx514_0⟩ := Kd.at_int (Kd.V_reads' HO_1.out).2.2 x2_1 p514 q514
 obtain rfl : ad484 = ad514 := Z53
 replace p514 := eq_true p514
 replace q514 := eq_true q514
 have p521 : 0 ≤ (x2_1 : Int) := of_decide_eq_true Z0
 have q521 : x2_1 < (l1.length : Int) := of_decide_eq_true Z0
 obtain ⟨ad521, e521, hx521_0⟩ := Kd.at_int (Kd.V_reads' HO_1.out).2.2 x2_1 p521 q521
 obtain rfl : ad484 = ad521 := (by injection e521)
 replace p521 := eq_true p521
 replace q521 := eq_true q521
 have p528 : 0 ≤ (x2_1 : Int) := of_decide_eq_true Z0
 have q528 : x2_1 < (l1.length : Int) := of_decide_eq_true Z0
 obtain ⟨ad528, e528, hx528_0⟩ := Kd.at_int (Kd.V_reads' HO_1.out).2.2 x2_1 p528 q528
 obtain rfl : ad484 = ad528 := (by injection e528)
 replace p528 := eq_true p528
 replace q528 := eq_true q528
 go_wp2_with (first | ((with_reducible refine gate_dst (N := 150) rfl ?_); refine Kd.R_lit (Kd.int .u8) _ 5 ?hg (N := 150) ?hd (xs := ([110, 117, 108, 108] : List Int)) (inner := [.int .u8 110, .int .u8 117, .int .u8 108, .int .u8 108]) (ok := fun _ => True) (okp := fun _ => True) ?hr ?hp (fun _ hk => hk) trivial (Below.refl _ _) (Nat.le_refl _) Z4 ?_; (case hd => exact Z3); (case hg => exact Z3); (case hr => exact Z19); (case hp => exact (Reps.one (show Kd.M (Kd.int .u8) _ _ _ 110 [.int .u8 110] from rfl) (Reps.one (show Kd.M (Kd.int .u8) _ _ _ 117 [.int .u8 117] from rfl) (Reps.one (show Kd.M (Kd.int .u8) _ _ _ 108 [.int .u8 108] from rfl) (Reps.one (show Kd.M (Kd.int .u8) _ _ _ 108 [.int .u8 108] from rfl) (Reps.none _ _)))))); intro v542 w62 ho63 hb hg_ hnew_; clear hg_ hnew_; (first | rw [← Ny541.out] at ho63 | (simp only [Int.reduceToNat] at ho63; rw [← Ny541.out] at ho63)); have n0_ := Aside0.mk (Kd.R_elder' (pR HO_0.out) (Kd.R_base ho63) hb); have n1_ := Aside0.mk (Kd.V_elder' (pV HO_1.out) (Kd.R_base ho63) hb); have n2_ := Aside0.mk (Kd.R_lower (Kd.R_new' (Kd.R_newM (M := fun k_ => (P0_ k_ ∨ w.heap.size ≤ k_)) ho63 Z119 (fun k_ h_ => .inr h_)) (Kd.R_lt (pR HO_0.out))) (below_size Z6)); have n3_ := Aside0.mk (Kept.below (S := (fun k_ => P0_ k_)) Z7 hb); have n4_ := Aside0.mk (below_step Z6 hb); clear HO_0; clear HO_1; clear HK; clear HB; have HO_0 := n0_; have HO_1 := n1_; have HO543 := n2_; have HK := n3_; have HB := n4_; clear n0_ n1_ n2_ n3_ n4_; clear hb ho63; obtain ⟨Ao65, co65, eo65⟩ := Kd.R_slice HO543.out; subst eo65) | ((with_reducible refine gate_builtin (b := .append) (xs := #[.tmp 149, .tmp 150]) rfl ?_); at_builtin; refine Kd.R_append_rows (Kd.int .u8) (w0 := w0) w0.heap.size rfl (.tmp 149) (.tmp 150) 40 5 (.int .u8 0) 1 rfl Try.underlying40 info5 rfl Z2 Z5 u9000_ l0 y541 _ _ _ (fun k_ => (P0_ k_ ∨ w.heap.size ≤ k_) ∧ some k_ ≠ (.slice Ao65 y541.length co65 : Value).ownBlock) (fun _ => False) rfl rfl ?aO ?aR (fun _ _ h => h) (fun _ h => h.elim) ?aF ?aB ?aS ?aL ?_; (case aR => repeat (first | exact (Kd.R_reads' HO543.out).2.2 | (with_reducible refine Kd.C_alloc ?_ _) | (with_reducible refine Kd.C_drewN ?_ _) | (with_reducible refine Kd.C_drew ?_))); (case aB => exact Z6); (case aF => exact (fun k_ hk => ⟨(.inr (Nat.le_trans Z119 hk)), Kd.fresh' (Kd.R_lt (pR HO543.out)) k_ hk⟩)); (case aO => exact (pR HO_0.out)); (case aS => exact (below_size Z6)); (case aL => have := LMc61.out; omega); intro v545 w64 ho hb hg hat; rw [← Ny544.out] at ho; have n0_ := Aside0.mk (Kd.V_afterv (ok := (fun k_ => ((P0_ k_ ∨ P1_ k_) ∨ w.heap.size ≤ k_) ∧ some k_ ≠ (.slice Ao65 y541.length co65 : Value).ownBlock)) Z49 hg hat); have n1_ := Aside0.mk (Kd.R_after (ok := (fun k_ => (P0_ k_ ∨ w.heap.size ≤ k_))) (by (with_reducible repeat (first | apply Kd.R_alloc | apply Kd.R_drewN | apply Kd.R_drew)); exact Kd.R_mono HO543.out (fun _ hk => ⟨hk.1.1, hk.2⟩)) hg hat); have n2_ := Aside0.mk (hb); have n3_ := Aside0.mk (Kept.of_grown (S := (fun k_ => P0_ k_)) hg Z7 (fun k_ e_ => (HO_0.out.1 k_ e_).1)); have n4_ := Aside0.mk (ho); clear HO_1; clear HO543; clear HB; clear HK; clear HO_0; have HO_1 := n0_; have HO543 := n1_; have HB := n2_; have HK := n3_; have HO546 := n4_; clear n0_ n1_ n2_ n3_ n4_; clear ho hb hg hat))
 refine bodyPost_ret (results_list (rs := [.tmp 22, .tmp 23, .tmp 24, .tmp 25]) rfl Z4 (.tmp (.tmp (.tmp (.tmp .nil))))) rfl ?_
 exact ⟨_, Z12, by (with_reducible repeat (first | apply Kd.R_alloc | apply Kd.R_drewN | apply Kd.R_drew)); exact Kd.R_mono HO546.out (fun _ hk => hk.1), Z6, Z7⟩

/-! ### the ring closed -/
theorem pretty_appendPrettyAny.ring (k : Nat) : (∀ (P0_ : Nat → Prop) (u9000_ : Value) (l0 : List Int) (P1_ : Nat → Prop) (A1 : Option Addr) (c1 : Nat) (l1 : List Int) (a2 : Int) (a3 : Int) (a4 : Int) (a5 : Bool) (a6 : Int) (a7 : ByteArray) (a8 : ByteArray)  (a10 : Int) (a11 : Int) (a12 : Int) (r1 : List Int) (r2 : Int) (r3 : Int) (r4 : Bool) (w0 w : World) (hB : Below w0.heap.size w0 w) (ho0 : Kd.R (Kd.int .u8) 5 w w0.heap.size P0_ u9000_ l0) (hs1 : Kd.V (Kd.int .u8) 5 w w0.heap.size (fun k_ => P1_ k_ ∧ some k_ ≠ (u9000_ : Value).ownBlock) (.slice A1 l1.length c1) l1) (h : pretty_appendPrettyObject.f k l0 l1 a2 a3 a4 a5 a6 a7 a8 a10 a11 a12 = some (r1, r2, r3, r4)),
  Calls Try.prog 34 #[u9000_, .slice A1 l1.length c1, .int .i64 a2, .int .u8 a3, .int .u8 a4, .bool a5, .int .i64 a6, .string a7, .string a8, .bool false, .int .i64 a10, .int .i64 a11, .int .i64 a12] w fun e w' => ∃ v0_ : Value, e = .returned (.tuple #[v0_, .int .i64 r2, .int .i64 r3, .bool r4]) ∧ Kd.R (Kd.int .u8) 5 w' w0.heap.size (fun k_ => (P0_ k_ ∨ w.heap.size ≤ k_)) v0_ r1 ∧ Below w0.heap.size w0 w' ∧ Kept w w' (fun k_ => P0_ k_)) ∧
 (∀ (P0_ : Nat → Prop) (u9000_ : Value) (l0 : List Int) (P1_ : Nat → Prop) (A1 : Option Addr) (c1 : Nat) (l1 : List Int) (a2 : Int) (a3 : Bool) (a4 : Int) (a5 : ByteArray) (a6 : ByteArray)  (a8 : Int) (a9 : Int) (a10 : Int) (r1 : List Int) (r2 : Int) (r3 : Int) (r4 : Bool) (w0 w : World) (hB : Below w0.heap.size w0 w) (ho0 : Kd.R (Kd.int .u8) 5 w w0.heap.size P0_ u9000_ l0) (hs1 : Kd.V (Kd.int .u8) 5 w w0.heap.size (fun k_ => P1_ k_ ∧ some k_ ≠ (u9000_ : Value).ownBlock) (.slice A1 l1.length c1) l1) (h : pretty_appendPrettyAny.f k l0 l1 a2 a3 a4 a5 a6 a8 a9 a10 = some (r1, r2, r3, r4)),
  Calls Try.prog 19 #[u9000_, .slice A1 l1.length c1, .int .i64 a2, .bool a3, .int .i64 a4, .string a5, .string a6, .bool false, .int .i64 a8, .int .i64 a9, .int .i64 a10] w fun e w' => ∃ v0_ : Value, e = .returned (.tuple #[v0_, .int .i64 r2, .int .i64 r3, .bool r4]) ∧ Kd.R (Kd.int .u8) 5 w' w0.heap.size (fun k_ => (P0_ k_ ∨ w.heap.size ≤ k_)) v0_ r1 ∧ Below w0.heap.size w0 w' ∧ Kept w w' (fun k_ => P0_ k_)) := by
 induction k using Nat.strongRecOn with
 | _ k ih =>
 exact ⟨pretty_appendPrettyObject.step k (fun j_ hj_ => (ih j_ hj_).1) (fun j_ hj_ => (ih j_ hj_).2), pretty_appendPrettyAny.step k (fun j_ hj_ => (ih j_ hj_).1) (fun j_ hj_ => (ih j_ hj_).2)⟩
theorem pretty_appendPrettyObject.calls (k : Nat) : ∀ (P0_ : Nat → Prop) (u9000_ : Value) (l0 : List Int) (P1_ : Nat → Prop) (A1 : Option Addr) (c1 : Nat) (l1 : List Int) (a2 : Int) (a3 : Int) (a4 : Int) (a5 : Bool) (a6 : Int) (a7 : ByteArray) (a8 : ByteArray)  (a10 : Int) (a11 : Int) (a12 : Int) (r1 : List Int) (r2 : Int) (r3 : Int) (r4 : Bool) (w0 w : World) (hB : Below w0.heap.size w0 w) (ho0 : Kd.R (Kd.int .u8) 5 w w0.heap.size P0_ u9000_ l0) (hs1 : Kd.V (Kd.int .u8) 5 w w0.heap.size (fun k_ => P1_ k_ ∧ some k_ ≠ (u9000_ : Value).ownBlock) (.slice A1 l1.length c1) l1) (h : pretty_appendPrettyObject.f k l0 l1 a2 a3 a4 a5 a6 a7 a8 a10 a11 a12 = some (r1, r2, r3, r4)),
  Calls Try.prog 34 #[u9000_, .slice A1 l1.length c1, .int .i64 a2, .int .u8 a3, .int .u8 a4, .bool a5, .int .i64 a6, .string a7, .string a8, .bool false, .int .i64 a10, .int .i64 a11, .int .i64 a12] w fun e w' => ∃ v0_ : Value, e = .returned (.tuple #[v0_, .int .i64 r2, .int .i64 r3, .bool r4]) ∧ Kd.R (Kd.int .u8) 5 w' w0.heap.size (fun k_ => (P0_ k_ ∨ w.heap.size ≤ k_)) v0_ r1 ∧ Below w0.heap.size w0 w' ∧ Kept w w' (fun k_ => P0_ k_) := (pretty_appendPrettyAny.ring k).1
theorem pretty_appendPrettyAny.calls (k : Nat) : ∀ (P0_ : Nat → Prop) (u9000_ : Value) (l0 : List Int) (P1_ : Nat → Prop) (A1 : Option Addr) (c1 : Nat) (l1 : List Int) (a2 : Int) (a3 : Bool) (a4 : Int) (a5 : ByteArray) (a6 : ByteArray)  (a8 : Int) (a9 : Int) (a10 : Int) (r1 : List Int) (r2 : Int) (r3 : Int) (r4 : Bool) (w0 w : World) (hB : Below w0.heap.size w0 w) (ho0 : Kd.R (Kd.int .u8) 5 w w0.heap.size P0_ u9000_ l0) (hs1 : Kd.V (Kd.int .u8) 5 w w0.heap.size (fun k_ => P1_ k_ ∧ some k_ ≠ (u9000_ : Value).ownBlock) (.slice A1 l1.length c1) l1) (h : pretty_appendPrettyAny.f k l0 l1 a2 a3 a4 a5 a6 a8 a9 a10 = some (r1, r2, r3, r4)),
  Calls Try.prog 19 #[u9000_, .slice A1 l1.length c1, .int .i64 a2, .bool a3, .int .i64 a4, .string a5, .string a6, .bool false, .int .i64 a8, .int .i64 a9, .int .i64 a10] w fun e w' => ∃ v0_ : Value, e = .returned (.tuple #[v0_, .int .i64 r2, .int .i64 r3, .bool r4]) ∧ Kd.R (Kd.int .u8) 5 w' w0.heap.size (fun k_ => (P0_ k_ ∨ w.heap.size ≤ k_)) v0_ r1 ∧ Below w0.heap.size w0 w' ∧ Kept w w' (fun k_ => P0_ k_) := (pretty_appendPrettyAny.ring k).2

end Go.Proofs.Ytffdebhaclkhjaa.PFnPrWholeDefault
