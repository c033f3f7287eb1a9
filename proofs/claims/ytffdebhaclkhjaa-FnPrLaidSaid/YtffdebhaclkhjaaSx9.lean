-- Written by a program of the session (wip/tools) out of the translation. Not trusted: Lean checks it.
import Derived.Test.YtffdebhaclkhjaaSq
import Derived.Test.YtffdebhaclkhjaaSx0
import Derived.Test.YtffdebhaclkhjaaSx5
import Derived.Test.YtffdebhaclkhjaaSx7
import Derived.Test.YtffdebhaclkhjaaSx8
namespace Go.Proofs.Ytffdebhaclkhjaa.PFnPrWholeDefault
open Go.RowKit Go.Proofs.YtffdebhaclkhjaaW.PrintWords Go.Proofs.YtffdebhaclkhjaaW.PrintLast Go.Proofs.YtffdebhaclkhjaaW.PrintMore
attribute [local go_sem] max2_int min2_int max_two min_two max_three min_three max_four min_four   -- for this text's walks alone
set_option linter.unusedVariables false
set_option linter.unusedSimpArgs false

/-! ### pretty_appendPrettyObject: function 34 -/
set_option maxHeartbeats 8000000 in
set_option maxRecDepth 100000 in
theorem pretty_appendPrettyObject.step (k : Nat) (ih_34_ : ∀ k_ : Nat, k_ < k → ∀ (P0_ : Nat → Prop) (u9000_ : Value) (l0 : List Int) (P1_ : Nat → Prop) (A1 : Option Addr) (c1 : Nat) (l1 : List Int) (a2 : Int) (a3 : Int) (a4 : Int) (a5 : Bool) (a6 : Int) (a7 : ByteArray) (a8 : ByteArray)  (a10 : Int) (a11 : Int) (a12 : Int) (r1 : List Int) (r2 : Int) (r3 : Int) (r4 : Bool) (w0 w : World) (hB : Below w0.heap.size w0 w) (ho0 : Kd.R (Kd.int .u8) 5 w w0.heap.size P0_ u9000_ l0) (hs1 : Kd.V (Kd.int .u8) 5 w w0.heap.size (fun k_ => P1_ k_ ∧ some k_ ≠ (u9000_ : Value).ownBlock) (.slice A1 l1.length c1) l1) (h : pretty_appendPrettyObject.f k_ l0 l1 a2 a3 a4 a5 a6 a7 a8 a10 a11 a12 = some (r1, r2, r3, r4)),
  Calls Try.prog 34 #[u9000_, .slice A1 l1.length c1, .int .i64 a2, .int .u8 a3, .int .u8 a4, .bool a5, .int .i64 a6, .string a7, .string a8, .bool false, .int .i64 a10, .int .i64 a11, .int .i64 a12] w fun e w' => ∃ v0_ : Value, e = .returned (.tuple #[v0_, .int .i64 r2, .int .i64 r3, .bool r4]) ∧ Kd.R (Kd.int .u8) 5 w' w0.heap.size (fun k_ => (P0_ k_ ∨ w.heap.size ≤ k_)) v0_ r1 ∧ Below w0.heap.size w0 w' ∧ Kept w w' (fun k_ => P0_ k_)) (ih_19_ : ∀ k_ : Nat, k_ < k → ∀ (P0_ : Nat → Prop) (u9000_ : Value) (l0 : List Int) (P1_ : Nat → Prop) (A1 : Option Addr) (c1 : Nat) (l1 : List Int) (a2 : Int) (a3 : Bool) (a4 : Int) (a5 : ByteArray) (a6 : ByteArray)  (a8 : Int) (a9 : Int) (a10 : Int) (r1 : List Int) (r2 : Int) (r3 : Int) (r4 : Bool) (w0 w : World) (hB : Below w0.heap.size w0 w) (ho0 : Kd.R (Kd.int .u8) 5 w w0.heap.size P0_ u9000_ l0) (hs1 : Kd.V (Kd.int .u8) 5 w w0.heap.size (fun k_ => P1_ k_ ∧ some k_ ≠ (u9000_ : Value).ownBlock) (.slice A1 l1.length c1) l1) (h : pretty_appendPrettyAny.f k_ l0 l1 a2 a3 a4 a5 a6 a8 a9 a10 = some (r1, r2, r3, r4)),
  Calls Try.prog 19 #[u9000_, .slice A1 l1.length c1, .int .i64 a2, .bool a3, .int .i64 a4, .string a5, .string a6, .bool false, .int .i64 a8, .int .i64 a9, .int .i64 a10] w fun e w' => ∃ v0_ : Value, e = .returned (.tuple #[v0_, .int .i64 r2, .int .i64 r3, .bool r4]) ∧ Kd.R (Kd.int .u8) 5 w' w0.heap.size (fun k_ => (P0_ k_ ∨ w.heap.size ≤ k_)) v0_ r1 ∧ Below w0.heap.size w0 w' ∧ Kept w w' (fun k_ => P0_ k_)) : ∀ (P0_ : Nat → Prop) (u9000_ : Value) (l0 : List Int) (P1_ : Nat → Prop) (A1 : Option Addr) (c1 : Nat) (l1 : List Int) (a2 : Int) (a3 : Int) (a4 : Int) (a5 : Bool) (a6 : Int) (a7 : ByteArray) (a8 : ByteArray)  (a10 : Int) (a11 : Int) (a12 : Int) (r1 : List Int) (r2 : Int) (r3 : Int) (r4 : Bool) (w0 w : World) (hB : Below w0.heap.size w0 w) (ho0 : Kd.R (Kd.int .u8) 5 w w0.heap.size P0_ u9000_ l0) (hs1 : Kd.V (Kd.int .u8) 5 w w0.heap.size (fun k_ => P1_ k_ ∧ some k_ ≠ (u9000_ : Value).ownBlock) (.slice A1 l1.length c1) l1) (h : pretty_appendPrettyObject.f k l0 l1 a2 a3 a4 a5 a6 a7 a8 a10 a11 a12 = some (r1, r2, r3, r4)),
  Calls Try.prog 34 #[u9000_, .slice A1 l1.length c1, .int .i64 a2, .int .u8 a3, .int .u8 a4, .bool a5, .int .i64 a6, .string a7, .string a8, .bool false, .int .i64 a10, .int .i64 a11, .int .i64 a12] w fun e w' => ∃ v0_ : Value, e = .returned (.tuple #[v0_, .int .i64 r2, .int .i64 r3, .bool r4]) ∧ Kd.R (Kd.int .u8) 5 w' w0.heap.size (fun k_ => (P0_ k_ ∨ w.heap.size ≤ k_)) v0_ r1 ∧ Below w0.heap.size w0 w' ∧ Kept w w' (fun k_ => P0_ k_) := by
 intro P0_ u9000_ l0 P1_ A1 c1 l1 a2 a3 a4 a5 a6 a7 a8 a10 a11 a12 r1 r2 r3 r4 w0 w hB ho0 hs1 h
 cases k with
 | zero => exact absurd h (by simp [pretty_appendPrettyObject.f])
 | succ k =>
 simp only [pretty_appendPrettyObject.f] at h
 have hu72 := Try.underlying72
 have HO0 := Aside0.mk (show Kd.R (Kd.int .u8) 5 w w0.heap.size (fun k_ => (P0_ k_ ∨ w.heap.size ≤ k_)) u9000_ l0 from Kd.R_mono ho0 (fun k_ hk => (.inl hk)))
 have HO1 := Aside0.mk (show Kd.V (Kd.int .u8) 5 w w0.heap.size (fun k_ => ((P0_ k_ ∨ P1_ k_) ∨ w.heap.size ≤ k_) ∧ some k_ ≠ (u9000_ : Value).ownBlock) (.slice A1 l1.length c1) l1 from Kd.V_mono hs1 (fun k_ hk => ⟨.inl (.inr hk.1), hk.2⟩))
 have HK := Aside0.mk (Kept.refl w (fun k_ => P0_ k_))
 have HW0 := Aside0.mk hB.size
 have HB := Aside0.mk hB
 clear hB
 have H : (if a6 > 0 then (if a5 = true then (if a3 = 91 then (pretty_appendPrettyObject.j0 k l0 l1 a2 a3 a4 a5 a6 a7 a8 false a10 a11 a12 (a12 == (-1))) else (pretty_appendPrettyObject.j0 k l0 l1 a2 a3 a4 a5 a6 a7 a8 false a10 a11 a12 false)) else (pretty_appendPrettyObject.j0 k l0 l1 a2 a3 a4 a5 a6 a7 a8 false a10 a11 a12 false)) else (pretty_appendPrettyObject.j1 k l0 l1 a2 a3 a4 a5 a6 a7 a8 false a10 a11 a12)) = some (r1, r2, r3, r4) := h
 clear h
 have HC14 := Aside0.mk H
 clear H
 go_enter Try.func34, Try.ntmps34
 go_upto_if 38 with (fail)
 go_cut [0, 2] (fun v0 v2 wc => ∃ (kq : Nat) (x0_13 : List Int) (x2_13 : Int), v2 = .int .i64 x2_13 ∧ Aside0 (pretty_appendPrettyObject.j1 kq x0_13 l1 x2_13 a3 a4 a5 a6 a7 a8 false a10 a11 a12 = some (r1, r2, r3, r4)) ∧ Aside0 (kq ≤ k) ∧ Aside0 (Kd.R (Kd.int .u8) 5 wc w0.heap.size (fun k_ => (P0_ k_ ∨ w.heap.size ≤ k_)) v0 x0_13) ∧ Aside0 (Kd.V (Kd.int .u8) 5 wc w0.heap.size (fun k_ => ((P0_ k_ ∨ P1_ k_) ∨ w.heap.size ≤ k_) ∧ some k_ ≠ (v0 : Value).ownBlock) (.slice A1 l1.length c1) l1) ∧ Aside0 (Kept w wc (fun k_ => P0_ k_)) ∧ Aside0 (Below w0.heap.size w0 wc))
 case first =>
  as_aux_lemma =>
  have H := HC14.out
  clear HC14
  by_cases c15 : a6 > 0
  ·
   as_aux_lemma =>
   rw [if_pos c15] at H
   have c15b0 := decide_eq_true c15
   clear c15
   (first | rw [c15b0] | (simp only [i64_w, i32_w]; rw [c15b0]) | skip)
   have HC16 := Aside0.mk H
   clear H
   go_upto_region 3 with (fail)
   go_cut [47] (fun v47 wc => ∃ (kq : Nat) (x47_15 : Bool), v47 = .bool x47_15 ∧ Aside0 (pretty_appendPrettyObject.j0 kq l0 l1 a2 a3 a4 a5 a6 a7 a8 false a10 a11 a12 x47_15 = some (r1, r2, r3, r4)) ∧ Aside0 (kq ≤ k) ∧ Aside0 (Kd.R (Kd.int .u8) 5 wc w0.heap.size (fun k_ => (P0_ k_ ∨ w.heap.size ≤ k_)) u9000_ l0) ∧ Aside0 (Kd.V (Kd.int .u8) 5 wc w0.heap.size (fun k_ => ((P0_ k_ ∨ P1_ k_) ∨ w.heap.size ≤ k_) ∧ some k_ ≠ (u9000_ : Value).ownBlock) (.slice A1 l1.length c1) l1) ∧ Aside0 (Kept w wc (fun k_ => P0_ k_)) ∧ Aside0 (Below w0.heap.size w0 wc))
   case first =>
    have H := HC16.out
    clear HC16
    by_cases c17 : a5 = true
    ·
     subst c17
     rw [if_pos rfl] at H
     by_cases c18 : a3 = 91
     ·
      rw [if_pos c18] at H
      have c18b0 := beq_iff_eq.mpr c18
      have c18b1 := bne_eq_false_iff_eq.mpr c18
      clear c18
      (first | rw [c18b0] | (simp only [i64_w, i32_w]; rw [c18b0]) | skip)
      have H' := Aside0.mk H
      clear H
      go_wp2
      go_meet
      case rel => exact ⟨_, ((a12 == (-1))), Z8, H', ⟨Z22⟩, ⟨pR HO0.out⟩, ⟨pV HO1.out⟩, ⟨Z7⟩, ⟨Z6⟩⟩
     ·
      rw [if_neg c18] at H
      have c18b0 := beq_eq_false_iff_ne.mpr c18
      have c18b1 := bne_iff_ne.mpr c18
      (first | rw [c18b0] | (simp only [i64_w, i32_w]; rw [c18b0]) | skip)
      have H' := Aside0.mk H
      clear H
      go_wp2
      go_meet
      case rel => exact ⟨_, (false), Z8, H', ⟨Z22⟩, ⟨pR HO0.out⟩, ⟨pV HO1.out⟩, ⟨Z7⟩, ⟨Z6⟩⟩
    ·
     replace c17 := Bool.eq_false_iff.mpr c17
     subst c17
     rw [if_neg (show ¬ (false = true) from Z2)] at H
     have H' := Aside0.mk H
     clear H
     go_wp2
     go_meet
     case rel => exact ⟨_, (false), Z8, H', ⟨Z22⟩, ⟨pR HO0.out⟩, ⟨pV HO1.out⟩, ⟨Z7⟩, ⟨Z6⟩⟩
   case rest =>
    as_aux_lemma =>
    clear HC16; try clear c1; try clear p2; try clear c3; try clear c15; try clear c15b0; try clear c17; try clear c18; try clear c18b0; try clear c18b1
    obtain ⟨kq, x47_15, rfl, HA, HJ15, HO_0, HO_1, HK, HB⟩ := hcut
    cases kq with
    | zero => exact absurd HA.out (by simp [pretty_appendPrettyObject.j0])
    | succ kj15 =>
     have H := HA.out
     clear HA
     simp only [pretty_appendPrettyObject.j0] at H
     rw [if_neg (show ¬ (false = true) from Z2)] at H
     by_cases c20 : x47_15 = true
     ·
      as_aux_lemma =>
      subst c20
      rw [if_pos rfl] at H
      by_cases c21 : (wrap64 (a6 - (wrap64 ((l0.length : Int) - a11)))) > 3
      ·
       as_aux_lemma =>
       rw [if_pos c21] at H
       have c21b0 := decide_eq_true c21
       clear c21
       replace H := Option.bind_eq_some_iff.mp H
       obtain ⟨⟨t386, t389, t390, t391⟩, A220, H⟩ := H
       dsimp only at H
       have A22 := Aside0.mk A220
       clear A220
       by_cases c23 : t391 = true
       ·
        as_aux_lemma =>
        subst c23
        rw [if_pos rfl] at H
        have HC24 := Aside0.mk H
        clear H
        obtain ⟨Ao25, co25, eo25⟩ := Kd.R_slice HO_0.out
        subst eo25
        go_upto_if 80 with (first | ((with_reducible refine gate_callee (f := 34) rfl ?_); refine goesL_ (some 67) rfl rfl Try.func34 Z1 rfl #[.slice Ao25 l0.length co25, .slice A1 l1.length c1, .int .i64 a2, .int .u8 91, .int .u8 93, .bool false, .int .i64 a6, .string a7, .string (⟨#[]⟩ : ByteArray), .bool false, .int .i64 0, .int .i64 0, .int .i64 (wrap64 (a6 - (wrap64 ((l0.length : Int) - a11))))] rfl Z13 ?_; (with_reducible refine (ih_34_ kj15 (by have := HJ15.out; omega) (fun k_ => some k_ = (.slice Ao25 l0.length co25 : Value).ownBlock) (.slice Ao25 l0.length co25) l0 (fun k_ => (((P0_ k_ ∨ P1_ k_) ∨ w.heap.size ≤ k_) ∧ some k_ ≠ (.slice Ao25 l0.length co25 : Value).ownBlock)) _ _ l1 a2 91 93 false a6 a7 (⟨#[]⟩ : ByteArray)  0 0 (wrap64 (a6 - (wrap64 ((l0.length : Int) - a11)))) t386 t389 t390 true w0 _ ?side1 ?side2 ?side3 A22.out).mono ?_); (case side1 => exact Z6); (case side2 => exact Z36); (case side3 => exact Z68); rintro e w26 ⟨v387, rfl, ho0, hb, hkp⟩; refine ⟨_, rfl, ?_⟩; have n0_ := Aside0.mk (Kd.V_mono (ok' := fun k_ => ((P0_ k_ ∨ P1_ k_) ∨ w.heap.size ≤ k_) ∧ some k_ ≠ (v387 : Value).ownBlock) (Kd.V_keptB (HO_1.out) hkp (fun k_ hk_ hs_ => (hk_.2) hs_)) (fun k_ hk_ => ⟨hk_.1.1, fun e_ => Or.elim (ho0.1 k_ e_.symm) (fun hs_ => hk_.2.1 hs_) (fun hn_ => Nat.not_le.2 hk_.2.2 hn_)⟩)); have n1_ := Aside0.mk (Kd.R_mono (ok' := fun k_ => (P0_ k_ ∨ w.heap.size ≤ k_)) ho0 (fun k_ hk_ => Or.elim hk_ (fun hs_ => (HO_0.out.1 k_ (hs_).symm)) (fun hn_ => (.inr (Nat.le_trans Z119 hn_))))); have n2_ := Aside0.mk (Kept.then_ (S := (fun k_ => P0_ k_)) Z7 hkp (fun k_ hs_ => (fun e_ => (HO_0.out.1 k_ e_.symm)) hs_)); have n3_ := Aside0.mk (hb); clear HO_1; clear HK; clear HB; clear HO_0; have HO_1 := n0_; have HO388 := n1_; have HK := n2_; have HB := n3_; clear n0_ n1_ n2_ n3_; (try clear hb); (try clear hkp); (try clear ho0); obtain ⟨Ao27, co27, eo27⟩ := Kd.R_slice HO388.out; subst eo27))
        (try simp only [Act.put, List.setIfInBounds_toArray, List.set_cons_zero, List.set_cons_succ])
        have H := HC24.out
        clear HC24
        by_cases c28 : (wrap64 ((t386.length : Int) - (l0.length : Int))) ≤ (wrap64 (a6 - (wrap64 ((l0.length : Int) - a11))))
        ·
         rw [if_pos c28] at H
         have c28b0 := decide_eq_true c28
         clear c28
         (first | rw [c28b0] | (simp only [i64_w, i32_w]; rw [c28b0]) | skip)
         simp only [Option.some.injEq, Prod.mk.injEq] at H
         obtain ⟨rfl, rfl, rfl, rfl⟩ := H
         go_wp2
         refine bodyPost_ret (results_list (rs := [.tmp 26, .tmp 27, .tmp 28, .tmp 29]) rfl Z4 (.tmp (.tmp (.tmp (.tmp .nil))))) rfl ?_
         exact ⟨_, Z12, pR HO388.out, Z6, Z7⟩
        ·
         rw [if_neg c28] at H
         have c28b0 := decide_eq_false c28
         clear c28
         (first | rw [c28b0] | (simp only [i64_w, i32_w]; rw [c28b0]) | skip)
         by_cases c29 : 0 ≤ (l0.length : Int)
         ·
          rw [if_pos c29] at H
          have c29b0 := eq_true c29
          have c29b1 := decide_eq_true c29
          clear c29
          by_cases c30 : (l0.length : Int) ≤ (t386.length : Int)
          ·
           rw [if_pos c30] at H
           have c30b0 := eq_true c30
           have c30b1 := decide_eq_true c30
           clear c30
           obtain ⟨y392, hy392⟩ : ∃ y_ : List Int, y_ = (t386.take ((l0.length : Int) : Int).toNat) := ⟨_, rfl⟩
           first | replace H := bind_y hy392 H | rw [← hy392] at H
           have Ny392 := Aside0.mk hy392
           clear hy392
           have H' := Aside0.mk H
           clear H
           have q31 : ((l0.length : Int) : Int) ≤ ((t386.length : Int) : Int) := of_decide_eq_true Z0
           obtain ⟨i031, hi031, _, hsz31, _⟩ := info_parts info5
           have hcut31 := cut_to (P := Try.prog) 40 5 .i64 Try.underlying40 hi031 Ao27 t386.length co27 (l0.length : Int) (of_decide_eq_true Z0) q31 (Kd.R_reads' HO388.out).2.1
           have hr31 := Kd.R_take (m := ((l0.length : Int) : Int).toNat) HO388.out Z5
           have hy31 : y392.length = ((l0.length : Int) : Int).toNat := (by rw [Ny392.out, List.length_take]; omega)
           rw [← Ny392.out] at hr31
           rw [← hy31] at hr31 hcut31
           clear hy31 hi031 hsz31 HO388
           have HO394 := Aside0.mk hr31
           clear hr31
           replace q31 := eq_true q31
           go_wp2
           go_meet
           case rel => exact ⟨_, (y392), (a2), Z8, H', ⟨Z60⟩, ⟨pR HO394.out⟩, ⟨pV HO_1.out⟩, ⟨Z7⟩, ⟨Z6⟩⟩
          ·
           rw [if_neg c30] at H
           exact absurd H Z4
         ·
          rw [if_neg c29] at H
          exact absurd H Z4
       ·
        as_aux_lemma =>
        replace c23 := Bool.eq_false_iff.mpr c23
        subst c23
        rw [if_neg (show ¬ (false = true) from Z2)] at H
        have HC32 := Aside0.mk H
        clear H
        obtain ⟨Ao33, co33, eo33⟩ := Kd.R_slice HO_0.out
        subst eo33
        go_upto_if 80 with (first | ((with_reducible refine gate_callee (f := 34) rfl ?_); refine goesL_ (some 67) rfl rfl Try.func34 Z1 rfl #[.slice Ao33 l0.length co33, .slice A1 l1.length c1, .int .i64 a2, .int .u8 91, .int .u8 93, .bool false, .int .i64 a6, .string a7, .string (⟨#[]⟩ : ByteArray), .bool false, .int .i64 0, .int .i64 0, .int .i64 (wrap64 (a6 - (wrap64 ((l0.length : Int) - a11))))] rfl Z13 ?_; (with_reducible refine (ih_34_ kj15 (by have := HJ15.out; omega) (fun k_ => some k_ = (.slice Ao33 l0.length co33 : Value).ownBlock) (.slice Ao33 l0.length co33) l0 (fun k_ => (((P0_ k_ ∨ P1_ k_) ∨ w.heap.size ≤ k_) ∧ some k_ ≠ (.slice Ao33 l0.length co33 : Value).ownBlock)) _ _ l1 a2 91 93 false a6 a7 (⟨#[]⟩ : ByteArray)  0 0 (wrap64 (a6 - (wrap64 ((l0.length : Int) - a11)))) t386 t389 t390 false w0 _ ?side1 ?side2 ?side3 A22.out).mono ?_); (case side1 => exact Z6); (case side2 => exact Z36); (case side3 => exact Z68); rintro e w34 ⟨v387, rfl, ho0, hb, hkp⟩; refine ⟨_, rfl, ?_⟩; have n0_ := Aside0.mk (Kd.V_mono (ok' := fun k_ => ((P0_ k_ ∨ P1_ k_) ∨ w.heap.size ≤ k_) ∧ some k_ ≠ (v387 : Value).ownBlock) (Kd.V_keptB (HO_1.out) hkp (fun k_ hk_ hs_ => (hk_.2) hs_)) (fun k_ hk_ => ⟨hk_.1.1, fun e_ => Or.elim (ho0.1 k_ e_.symm) (fun hs_ => hk_.2.1 hs_) (fun hn_ => Nat.not_le.2 hk_.2.2 hn_)⟩)); have n1_ := Aside0.mk (Kd.R_mono (ok' := fun k_ => (P0_ k_ ∨ w.heap.size ≤ k_)) ho0 (fun k_ hk_ => Or.elim hk_ (fun hs_ => (HO_0.out.1 k_ (hs_).symm)) (fun hn_ => (.inr (Nat.le_trans Z119 hn_))))); have n2_ := Aside0.mk (Kept.then_ (S := (fun k_ => P0_ k_)) Z7 hkp (fun k_ hs_ => (fun e_ => (HO_0.out.1 k_ e_.symm)) hs_)); have n3_ := Aside0.mk (hb); clear HO_1; clear HK; clear HB; clear HO_0; have HO_1 := n0_; have HO388 := n1_; have HK := n2_; have HB := n3_; clear n0_ n1_ n2_ n3_; (try clear hb); (try clear hkp); (try clear ho0)))
        (try simp only [Act.put, List.setIfInBounds_toArray, List.set_cons_zero, List.set_cons_succ])
        have H := HC32.out
        clear HC32
        by_cases c35 : 0 ≤ (l0.length : Int)
        ·
         rw [if_pos c35] at H
         have c35b0 := eq_true c35
         have c35b1 := decide_eq_true c35
         clear c35
         by_cases c36 : (l0.length : Int) ≤ (t386.length : Int)
         ·
          rw [if_pos c36] at H
          have c36b0 := eq_true c36
          have c36b1 := decide_eq_true c36
          clear c36
          obtain ⟨y395, hy395⟩ : ∃ y_ : List Int, y_ = (t386.take ((l0.length : Int) : Int).toNat) := ⟨_, rfl⟩
          first | replace H := bind_y hy395 H | rw [← hy395] at H
          have Ny395 := Aside0.mk hy395
          clear hy395
          have H' := Aside0.mk H
          clear H
          obtain ⟨Ao37, co37, eo37⟩ := Kd.R_slice HO388.out
          subst eo37
          have q38 : ((l0.length : Int) : Int) ≤ ((t386.length : Int) : Int) := of_decide_eq_true Z0
          obtain ⟨i038, hi038, _, hsz38, _⟩ := info_parts info5
          have hcut38 := cut_to (P := Try.prog) 40 5 .i64 Try.underlying40 hi038 Ao37 t386.length co37 (l0.length : Int) (of_decide_eq_true Z0) q38 (Kd.R_reads' HO388.out).2.1
          have hr38 := Kd.R_take (m := ((l0.length : Int) : Int).toNat) HO388.out Z5
          have hy38 : y395.length = ((l0.length : Int) : Int).toNat := (by rw [Ny395.out, List.length_take]; omega)
          rw [← Ny395.out] at hr38
          rw [← hy38] at hr38 hcut38
          clear hy38 hi038 hsz38 HO388
          have HO397 := Aside0.mk hr38
          clear hr38
          replace q38 := eq_true q38
          go_wp2
          go_meet
          case rel => exact ⟨_, (y395), (a2), Z8, H', ⟨Z60⟩, ⟨pR HO397.out⟩, ⟨pV HO_1.out⟩, ⟨Z7⟩, ⟨Z6⟩⟩
         ·
          rw [if_neg c36] at H
          exact absurd H Z4
        ·
         rw [if_neg c35] at H
         exact absurd H Z4
      ·
       rw [if_neg c21] at H
       have c21b0 := decide_eq_false c21
       clear c21
       have H' := Aside0.mk H
       clear H
       obtain ⟨Ao39, co39, eo39⟩ := Kd.R_slice HO_0.out
       subst eo39
       go_wp2
       go_meet
       case rel => exact ⟨_, (l0), (a2), Z8, H', ⟨Z60⟩, ⟨pR HO_0.out⟩, ⟨pV HO_1.out⟩, ⟨Z7⟩, ⟨Z6⟩⟩
     ·
      replace c20 := Bool.eq_false_iff.mpr c20
      subst c20
      rw [if_neg (show ¬ (false = true) from Z2)] at H
      by_cases c40 : a12 = (-1)
      ·
       rw [if_pos c40] at H
       have c40b0 := beq_iff_eq.mpr c40
       have c40b1 := bne_eq_false_iff_eq.mpr c40
       clear c40
       have H' := Aside0.mk H
       clear H
       go_wp2
       go_meet
       case rel => exact ⟨_, (l0), (a2), Z8, H', ⟨Z60⟩, ⟨pR HO_0.out⟩, ⟨pV HO_1.out⟩, ⟨Z7⟩, ⟨Z6⟩⟩
      ·
       rw [if_neg c40] at H
       have c40b0 := beq_eq_false_iff_ne.mpr c40
       have c40b1 := bne_iff_ne.mpr c40
       by_cases c41 : a3 = 123
       ·
        rw [if_pos c41] at H
        have c41b0 := beq_iff_eq.mpr c41
        have c41b1 := bne_eq_false_iff_eq.mpr c41
        clear c41
        simp only [Option.some.injEq, Prod.mk.injEq] at H
        obtain ⟨rfl, rfl, rfl, rfl⟩ := H
        go_wp2
        refine bodyPost_ret (results_list (rs := [.tmp 26, .tmp 27, .tmp 28, .tmp 29]) rfl Z4 (.tmp (.tmp (.tmp (.tmp .nil))))) rfl ?_
        exact ⟨_, Z12, pR HO_0.out, Z6, Z7⟩
       ·
        rw [if_neg c41] at H
        have c41b0 := beq_eq_false_iff_ne.mpr c41
        have c41b1 := bne_iff_ne.mpr c41
        have H' := Aside0.mk H
        clear H
        go_wp2
        go_meet
        case rel => exact ⟨_, (l0), (a2), Z8, H', ⟨Z60⟩, ⟨pR HO_0.out⟩, ⟨pV HO_1.out⟩, ⟨Z7⟩, ⟨Z6⟩⟩
  ·
   rw [if_neg c15] at H
   have c15b0 := decide_eq_false c15
   clear c15
   (first | rw [c15b0] | (simp only [i64_w, i32_w]; rw [c15b0]) | skip)
   have H' := Aside0.mk H
   clear H
   go_wp2
   go_meet
   case rel => exact ⟨_, (l0), (a2), Z8, H', ⟨Z22⟩, ⟨pR HO0.out⟩, ⟨pV HO1.out⟩, ⟨Z7⟩, ⟨Z6⟩⟩
 case rest =>
  as_aux_lemma =>
  clear HC14; try clear c1; try clear c2; try clear p2; try clear c3; try clear q3; try clear c4; try clear p6; try clear c15; try clear c15b0; try clear c17; try clear c18; try clear c18b0; try clear c18b1; try clear c20; try clear c21; try clear c21b0; try clear c23; try clear c28; try clear c28b0; try clear c29; try clear c29b0; try clear c29b1; try clear c30; try clear c30b0; try clear c30b1; try clear q31; try clear c34; try clear c35; try clear c35b0; try clear c35b1; try clear c36; try clear c36b0; try clear c36b1; try clear q38; try clear c40; try clear c40b0; try clear c40b1; try clear c41; try clear c41b0; try clear c41b1; try clear p2; try clear q31; try clear q38
  obtain ⟨kq, x0_13, x2_13, rfl, HA, HJ13, HO_0, HO_1, HK, HB⟩ := hcut
  cases kq with
  | zero => exact absurd HA.out (by simp [pretty_appendPrettyObject.j1])
  | succ kj13 =>
   have H := HA.out
   clear HA
   simp only [pretty_appendPrettyObject.j1] at H
   rw [if_neg (show ¬ (false = true) from Z2)] at H
   by_cases c43 : x0_13.length < 140737488355328
   ·
    as_aux_lemma =>
    rw [if_pos c43] at H
    have LMc43 := Aside0.mk c43
    clear c43
    obtain ⟨y398, hy398⟩ : ∃ y_ : List Int, y_ = (x0_13 ++ [a3]) := ⟨_, rfl⟩
    first | replace H := bind_y hy398 H | rw [← hy398] at H
    have Ny398 := Aside0.mk hy398
    clear hy398
    have HC44 := Aside0.mk H
    clear H
    go_upto_region 17 with (first | ((with_reducible refine gate_builtin (b := .append) (xs := #[.tmp 97, .tmp 99]) rfl ?_); (try (refine gate_guard Z3 ?_; dsimp only)); at_builtin; refine Kd.R_append (Kd.int .u8) (w0 := w0) w0.heap.size rfl (.tmp 97) (.tmp 99) 40 5 (.int .u8 0) 1 rfl Try.underlying40 info5 rfl Z2 Z5 u0 x0_13 a3 [.int .u8 a3] (fun k_ => (P0_ k_ ∨ w.heap.size ≤ k_)) (fun _ => False) rfl rfl ?aP (fun _ hk => hk.elim) ?aF ?aO ?aB ?aS ?aL ?_; (case aP => exact rfl); (case aB => exact Z6); (case aF => exact (fun k_ hk => (.inr (Nat.le_trans Z119 hk)))); (case aO => exact (pR HO_0.out)); (case aS => exact (below_size Z6)); (case aL => have := LMc43.out; omega); intro v399 w45 ho hb hg hat; rw [← Ny398.out] at ho; have n0_ := Aside0.mk (Kd.V_afterv (ok := (fun k_ => ((P0_ k_ ∨ P1_ k_) ∨ w.heap.size ≤ k_))) (pV HO_1.out) hg hat); have n1_ := Aside0.mk (hb); have n2_ := Aside0.mk (Kept.of_grown (S := (fun k_ => P0_ k_)) hg Z7 (fun k_ e_ => (HO_0.out.1 k_ e_))); have n3_ := Aside0.mk (ho); clear HO_1; clear HB; clear HK; clear HO_0; have HO_1 := n0_; have HB := n1_; have HK := n2_; have HO400 := n3_; clear n0_ n1_ n2_ n3_; clear ho hb hg hat))
    (try simp only [Act.put, List.setIfInBounds_toArray, List.set_cons_zero, List.set_cons_succ])
    go_cut [107] (fun v107 wc => ∃ (kq : Nat) (x107_43 : Bool), v107 = .bool x107_43 ∧ Aside0 (pretty_appendPrettyObject.j2 kq y398 l1 (wrap64 (x2_13 + 1)) a3 a4 a5 a6 a7 a8 false a10 a11 a12 x107_43 = some (r1, r2, r3, r4)) ∧ Aside0 (kq ≤ kj13) ∧ Aside0 (Kd.R (Kd.int .u8) 5 wc w0.heap.size (fun k_ => (P0_ k_ ∨ w.heap.size ≤ k_)) v399 y398) ∧ Aside0 (Kd.V (Kd.int .u8) 5 wc w0.heap.size (fun k_ => ((P0_ k_ ∨ P1_ k_) ∨ w.heap.size ≤ k_) ∧ some k_ ≠ (v399 : Value).ownBlock) (.slice A1 l1.length c1) l1) ∧ Aside0 (Kept w wc (fun k_ => P0_ k_)) ∧ Aside0 (Below w0.heap.size w0 wc))
    case first =>
     have H := HC44.out
     clear HC44
     by_cases c46 : a3 = 123
     ·
      rw [if_pos c46] at H
      have c46b0 := beq_iff_eq.mpr c46
      have c46b1 := bne_eq_false_iff_eq.mpr c46
      clear c46
      (first | rw [c46b0] | (simp only [i64_w, i32_w]; rw [c46b0]) | skip)
      have H' := Aside0.mk H
      clear H
      go_wp2
      go_meet
      case rel => exact ⟨_, (false), Z8, H', ⟨by have := HJ13.out; first | omega | exact Nat.le_refl _⟩, ⟨pR HO400.out⟩, ⟨pV HO_1.out⟩, ⟨Z7⟩, ⟨Z6⟩⟩
     ·
      rw [if_neg c46] at H
      have c46b0 := beq_eq_false_iff_ne.mpr c46
      have c46b1 := bne_iff_ne.mpr c46
      (first | rw [c46b0] | (simp only [i64_w, i32_w]; rw [c46b0]) | skip)
      have H' := Aside0.mk H
      clear H
      go_wp2
      go_meet
      case rel => exact ⟨_, (false), Z8, H', ⟨by have := HJ13.out; first | omega | exact Nat.le_refl _⟩, ⟨pR HO400.out⟩, ⟨pV HO_1.out⟩, ⟨Z7⟩, ⟨Z6⟩⟩
    case rest =>
     as_aux_lemma =>
     clear HC44; try clear c1; try clear c2; try clear p2; try clear c3; try clear q3; try clear c4; try clear p6; try clear c15; try clear c15b0; try clear c17; try clear c18; try clear c18b0; try clear c18b1; try clear c20; try clear c21; try clear c21b0; try clear c23; try clear c28; try clear c28b0; try clear c29; try clear c29b0; try clear c29b1; try clear c30; try clear c30b0; try clear c30b1; try clear q31; try clear c34; try clear c35; try clear c35b0; try clear c35b1; try clear c36; try clear c36b0; try clear c36b1; try clear q38; try clear c40; try clear c40b0; try clear c40b1; try clear c41; try clear c41b0; try clear c41b1; try clear c43; try clear c46; try clear c46b0; try clear c46b1; try clear p2; try clear p6; try clear q3; try clear q31; try clear q38
     obtain ⟨kq, x107_43, rfl, HA, HJ43, HO_0, HO_1, HK, HB⟩ := hcut
     cases kq with
     | zero => exact absurd HA.out (by simp [pretty_appendPrettyObject.j2])
     | succ kj43 =>
      have H := HA.out
      clear HA
      simp only [pretty_appendPrettyObject.j2] at H
      rw [if_neg (show ¬ (false = true) from Z2)] at H
      by_cases c48 : x107_43 = true
      ·
       subst c48
       rw [if_pos rfl] at H
       exact absurd H Z4
      ·
       as_aux_lemma =>
       replace c48 := Bool.eq_false_iff.mpr c48
       subst c48
       rw [if_neg (show ¬ (false = true) from Z2)] at H
       have H' := Aside0.mk H
       clear H
       go_wp2
       (try simp only [Act.put, List.setIfInBounds_toArray, List.set_cons_succ, List.set_cons_zero])
       go_loopg [0, 2, 9, 11, 35] kj43 (fun kq v0 v2 v9 v11 v35 w' => ∃ (x0_3 : List Int) (x1_3 : List Int) (x2_3 : Int) (x9_3 : Bool) (x11_3 : Int) (x35_3 : Int), v2 = .int .i64 x2_3 ∧ v9 = .bool x9_3 ∧ v11 = .int .i64 x11_3 ∧ v35 = .int .i64 x35_3 ∧ Aside0 (pretty_appendPrettyObject.l0 kq x0_3 x1_3 x2_3 a3 a4 a5 a6 a7 a8 x9_3 a10 x11_3 a12 x35_3 false = some (r1, r2, r3, r4)) ∧ Aside0 (kq ≤ kj43) ∧ Aside0 (Kd.R (Kd.int .u8) 5 w' w0.heap.size (fun k_ => (P0_ k_ ∨ w.heap.size ≤ k_)) v0 x0_3) ∧ Aside0 (Kd.V (Kd.int .u8) 5 w' w0.heap.size (fun k_ => ((P0_ k_ ∨ P1_ k_) ∨ w.heap.size ≤ k_) ∧ some k_ ≠ (v0 : Value).ownBlock) (.slice A1 l1.length c1) x1_3) ∧ Aside0 (Kept w w' (fun k_ => P0_ k_)) ∧ Aside0 (Below w0.heap.size w0 w'))
       case atStart => exact ⟨(y398), (l1), ((wrap64 (x2_13 + 1))), (false), (a11), (0), Z8, Z8, Z8, Z8, H', ⟨Nat.le_refl _⟩, ⟨pR HO_0.out⟩, ⟨pV HO_1.out⟩, ⟨Z7⟩, ⟨Z6⟩⟩
       case round =>
        as_aux_lemma =>
        clear H'
        try clear c1; try clear c2; try clear p2; try clear c3; try clear q3; try clear c4; try clear p6; try clear c15; try clear c15b0; try clear c17; try clear c18; try clear c18b0; try clear c18b1; try clear c20; try clear c21; try clear c21b0; try clear c23; try clear c28; try clear c28b0; try clear c29; try clear c29b0; try clear c29b1; try clear c30; try clear c30b0; try clear c30b1; try clear q31; try clear c34; try clear c35; try clear c35b0; try clear c35b1; try clear c36; try clear c36b0; try clear c36b1; try clear q38; try clear c40; try clear c40b0; try clear c40b1; try clear c41; try clear c41b0; try clear c41b1; try clear c43; try clear c46; try clear c46b0; try clear c46b1; try clear c48; try clear p2; try clear p6; try clear q3; try clear q31; try clear q38
        obtain ⟨x0_3, x1_3, x2_3, x9_3, x11_3, x35_3, rfl, rfl, rfl, rfl, HA, HK3, HO_0, HO_1, HK, HB⟩ := hrel
        have hl1_3 := (Kd.V_reads' HO_1.out).1
        rw [hl1_3] at HO_1
        (try simp only [hl1_3])
        (try simp only [hl1_3] at HO_0)
        cases gk with
        | zero => exact absurd HA.out (by simp [pretty_appendPrettyObject.l0])
        | succ k3 =>
         have H := HA.out
         clear HA
         simp only [pretty_appendPrettyObject.l0] at H
         by_cases c49 : x9_3 = true
         ·
          subst c49
          rw [if_pos rfl] at H
          exact absurd H Z4
         ·
          as_aux_lemma =>
          replace c49 := Bool.eq_false_iff.mpr c49
          subst c49
          rw [if_neg (show ¬ (false = true) from Z2)] at H
          rw [if_neg (show ¬ (false = true) from Z2)] at H
          by_cases c51 : x2_3 < (x1_3.length : Int)
          ·
           as_aux_lemma =>
           rw [if_pos c51] at H
           have c51b0 := decide_eq_true c51
           clear c51
           by_cases c52 : 0 ≤ x2_3
           ·
            as_aux_lemma =>
            rw [if_pos c52] at H
            have c52b0 := decide_eq_true c52
            clear c52
            by_cases c53 : (rd x1_3 x2_3) ≤ 32
            ·
             rw [if_pos c53] at H
             have c53b0 := decide_eq_true c53
             clear c53
             have H' := Aside0.mk H
             clear H
             have p401 : 0 ≤ (x2_3 : Int) := of_decide_eq_true Z0
             have q401 : x2_3 < (x1_3.length : Int) := of_decide_eq_true Z0
             obtain ⟨ad401, e401, hx401_0⟩ := Kd.at_int (Kd.V_reads' HO_1.out).2.2 x2_3 p401 q401
             cases e401
             replace p401 := eq_true p401
             replace q401 := eq_true q401
             go_wp2
             (try simp only [← hl1_3])
             go_roundg k3
             case measure => have := HJ13.out; have := HJ43.out; have := HK3.out; omega
             case rel => exact ⟨(x0_3), (x1_3), (wrap64 (x2_3 + 1)), (false), (x11_3), (x35_3), Z8, Z8, Z8, Z8, H', ⟨by have := HJ13.out; have := HJ43.out; have := HK3.out; omega⟩, ⟨Z42⟩, ⟨Z43⟩, ⟨Z7⟩, ⟨Z6⟩⟩
            ·
             as_aux_lemma =>
             rw [if_neg c53] at H
             have c53b0 := decide_eq_false c53
             clear c53
             by_cases c54 : (rd x1_3 x2_3) = a4
             ·
              as_aux_lemma =>
              rw [if_pos c54] at H
              have c54b0 := beq_iff_eq.mpr c54
              have c54b1 := bne_eq_false_iff_eq.mpr c54
              clear c54
              by_cases c55 : a5 = true
              ·
               as_aux_lemma =>
               subst c55
               rw [if_pos rfl] at H
               have HC56 := Aside0.mk H
               clear H
               have p401 : 0 ≤ (x2_3 : Int) := of_decide_eq_true Z0
               have q401 : x2_3 < (x1_3.length : Int) := of_decide_eq_true Z0
               obtain ⟨ad401, e401, hx401_0⟩ := Kd.at_int (Kd.V_reads' HO_1.out).2.2 x2_3 p401 q401
               cases e401
               replace p401 := eq_true p401
               replace q401 := eq_true q401
               have p402 : 0 ≤ (x2_3 : Int) := of_decide_eq_true Z0
               have q402 : x2_3 < (x1_3.length : Int) := of_decide_eq_true Z0
               obtain ⟨ad402, e402, hx402_0⟩ := Kd.at_int (Kd.V_reads' HO_1.out).2.2 x2_3 p402 q402
               obtain rfl : ad401 = ad402 := (by injection e402)
               replace p402 := eq_true p402
               replace q402 := eq_true q402
               go_upto_region 25 with (fail)
               go_cut [131] (fun v131 wc => ∃ (kq : Nat) (x131_55 : Bool), v131 = .bool x131_55 ∧ Aside0 (pretty_appendPrettyObject.j4 kq x0_3 x2_3 a3 a4 a7 a8 false a10 x11_3 x35_3 false x131_55 = some (r1, r2, r3, r4)) ∧ Aside0 (kq ≤ k3) ∧ Aside0 (Kd.R (Kd.int .u8) 5 wc w0.heap.size (fun k_ => (P0_ k_ ∨ w.heap.size ≤ k_)) u0 x0_3) ∧ Aside0 (Kept w wc (fun k_ => P0_ k_)) ∧ Aside0 (Below w0.heap.size w0 wc))
               case first =>
                have H := HC56.out
                clear HC56
                by_cases c57 : a3 = 123
                ·
                 rw [if_pos c57] at H
                 have c57b0 := beq_iff_eq.mpr c57
                 have c57b1 := bne_eq_false_iff_eq.mpr c57
                 clear c57
                 (first | rw [c57b0] | (simp only [i64_w, i32_w]; rw [c57b0]) | skip)
                 have H' := Aside0.mk H
                 clear H
                 go_wp2
                 go_meet
                 case rel => exact ⟨_, (false), Z8, H', ⟨Z69⟩, ⟨Z42⟩, ⟨Z7⟩, ⟨Z6⟩⟩
                ·
                 rw [if_neg c57] at H
                 have c57b0 := beq_eq_false_iff_ne.mpr c57
                 have c57b1 := bne_iff_ne.mpr c57
                 (first | rw [c57b0] | (simp only [i64_w, i32_w]; rw [c57b0]) | skip)
                 have H' := Aside0.mk H
                 clear H
                 go_wp2
                 go_meet
                 case rel => exact ⟨_, (false), Z8, H', ⟨Z69⟩, ⟨Z42⟩, ⟨Z7⟩, ⟨Z6⟩⟩
               case rest =>
                as_aux_lemma =>
                clear HC56; try clear c1; try clear c2; try clear p2; try clear c3; try clear q3; try clear c4; try clear p4; try clear q4; try clear hx4; try clear c5; try clear p6; try clear c15; try clear c15b0; try clear c17; try clear c18; try clear c18b0; try clear c18b1; try clear c20; try clear c21; try clear c21b0; try clear c23; try clear c28; try clear c28b0; try clear c29; try clear c29b0; try clear c29b1; try clear c30; try clear c30b0; try clear c30b1; try clear q31; try clear c34; try clear c35; try clear c35b0; try clear c35b1; try clear c36; try clear c36b0; try clear c36b1; try clear q38; try clear c40; try clear c40b0; try clear c40b1; try clear p40; try clear q40; try clear hx40; try clear c41; try clear c41b0; try clear c41b1; try clear c43; try clear c46; try clear c46b0; try clear c46b1; try clear c48; try clear c49; try clear c51; try clear c51b0; try clear c52; try clear c52b0; try clear c53; try clear c53b0; try clear c54; try clear c54b0; try clear c54b1; try clear c55; try clear c57; try clear c57b0; try clear c57b1; try clear hx401_0; try clear hx402_0; try clear p2; try clear p401; try clear p402; try clear p6; try clear q3; try clear q31; try clear q38; try clear q401; try clear q402
                obtain ⟨kq, x131_55, rfl, HA, HJ55, HO_0, HK, HB⟩ := hcut
                cases kq with
                | zero => exact absurd HA.out (by simp [pretty_appendPrettyObject.j4])
                | succ kj55 =>
                 have H := HA.out
                 clear HA
                 simp only [pretty_appendPrettyObject.j4] at H
                 rw [if_neg (show ¬ (false = true) from Z2)] at H
                 rw [if_neg (show ¬ (false = true) from Z2)] at H
                 by_cases c60 : x131_55 = true
                 ·
                  subst c60
                  rw [if_pos rfl] at H
                  exact absurd H Z4
                 ·
                  as_aux_lemma =>
                  replace c60 := Bool.eq_false_iff.mpr c60
                  subst c60
                  rw [if_neg (show ¬ (false = true) from Z2)] at H
                  by_cases c61 : x35_3 > 0
                  ·
                   as_aux_lemma =>
                   rw [if_pos c61] at H
                   have c61b0 := decide_eq_true c61
                   clear c61
                   obtain ⟨ji62, hji62⟩ : ∃ j_ : Int, (wrap64 ((x0_3.length : Int) - 1)) = j_ := ⟨_, rfl⟩
                   replace H : (if 0 ≤ (ji62) then (if (ji62) < (x0_3.length : Int) then (if (rd x0_3 (ji62)) = 32 then ((some (x0_3.set ((ji62) : Int).toNat 10 : List Int)).bind fun y404 => (if (rd y404 (ji62)) = a3 then (if y404.length < 140737488355328 then (some ((y404 ++ [a4]), wrap64 (x2_3 + 1), (x0_3.length : Int), (a3 != 123))) else (none)) else ((pretty_appendTabs.f kj55 y404 a7 a8 a10).bind fun t409 => (if t409.length < 140737488355328 then (some ((t409 ++ [a4]), wrap64 (x2_3 + 1), (x0_3.length : Int), (a3 != 123))) else (none))))) else (if x0_3.length < 140737488355328 then ((some (x0_3 ++ [10] : List Int)).bind fun y415 => (if 0 ≤ (wrap64 ((y415.length : Int) - 1)) then (if (wrap64 ((y415.length : Int) - 1)) < (y415.length : Int) then (if (rd y415 (wrap64 ((y415.length : Int) - 1))) = a3 then (if y415.length < 140737488355328 then (some ((y415 ++ [a4]), wrap64 (x2_3 + 1), (x0_3.length : Int), (a3 != 123))) else (none)) else ((pretty_appendTabs.f kj55 y415 a7 a8 a10).bind fun t422 => (if t422.length < 140737488355328 then (some ((t422 ++ [a4]), wrap64 (x2_3 + 1), (x0_3.length : Int), (a3 != 123))) else (none)))) else (none)) else (none))) else (none))) else (none)) else (none)) = some (r1, r2, r3, r4) := by first | (rw [hji62] at H; exact H) | (simp only [hji62] at H ⊢; exact H)
                   have hji62w : (IntKind.i64.wrap ((x0_3.length : Int) - 1)) = ji62 := (i64_w _).trans hji62
                   by_cases c63 : 0 ≤ (ji62)
                   ·
                    as_aux_lemma =>
                    rw [if_pos c63] at H
                    have c63b0 := decide_eq_true c63
                    clear c63
                    by_cases c64 : (ji62) < (x0_3.length : Int)
                    ·
                     as_aux_lemma =>
                     rw [if_pos c64] at H
                     have c64b0 := decide_eq_true c64
                     clear c64
                     by_cases c65 : (rd x0_3 (ji62)) = 32
                     ·
                      as_aux_lemma =>
                      rw [if_pos c65] at H
                      have c65b0 := beq_iff_eq.mpr c65
                      have c65b1 := bne_eq_false_iff_eq.mpr c65
                      clear c65
                      obtain ⟨y404, hy404⟩ : ∃ y_ : List Int, y_ = (x0_3.set ((ji62) : Int).toNat 10) := ⟨_, rfl⟩
                      first | replace H := bind_y hy404 H | rw [← hy404] at H
                      have Ny404 := Aside0.mk hy404
                      clear hy404
                      have HC67 := Aside0.mk H
                      clear H
                      obtain ⟨Ao68, co68, eo68⟩ := Kd.R_slice HO_0.out
                      subst eo68
                      have p403 : 0 ≤ ((ji62) : Int) := of_decide_eq_true Z0
                      have q403 : (ji62) < (x0_3.length : Int) := of_decide_eq_true Z0
                      obtain ⟨ad403, e403, hx403_0⟩ := Kd.at_int (Kd.R_reads' HO_0.out).2.2 (ji62) p403 q403
                      cases e403
                      replace p403 := eq_true p403
                      replace q403 := eq_true q403
                      have p66 : 0 ≤ ((ji62) : Int) := of_decide_eq_true Z0
                      have q66 : ((ji62) : Int) < ((x0_3.length : Int) : Int) := of_decide_eq_true Z0
                      obtain ⟨go66, co66, eo66, gb66, gl66, cl66, HG66⟩ := Kd.R_form HO_0.out Z5
                      (first | cases eo66 | (injection eo66 with ea_ en_ ec_; (first | subst ea_ | (injection ea_ with ea_; subst ea_)); subst ec_; clear en_))
                      have GB66 := Aside0.mk gb66
                      have GG66 := Aside0.mk HG66
                      clear gb66 gl66 HG66
                      have HMgo66 := Aside0.mk (show (P0_ go66 ∨ w.heap.size ≤ go66) from (HO_0.out.1 _ rfl))
                      (first | simp only [add_plain] at hx403_0 | skip)
                      obtain ⟨hx66_0, hf66_0⟩ := Kd.R_celln 0 HO_0.out ((ji62) : Int) p66 q66
                      replace p66 := eq_true p66
                      replace q66 := eq_true q66
                      have HP69 := Kd.R_putg HO_0.out ((ji62) : Int) 10
                      go_upto_if 160 with (first | ((with_reducible refine gate_store (t := 5) (p := 149) rfl ?_); refine store_event (t := 5) (p := 149) (v := ?vo_w70) (w1 := (wc.setCell ⟨go66, ((ji62) : Int).toNat, none⟩ (.int .u8 10))) ?hg ?ho ?hn ?hr ?_; (case ho => rfl); (case hg => exact Z3); (case hn => rfl); (case hr => exact Z19); intro w70 hw; have hg : wc.grownBy w70 (some go66) := (by rw [hw]; exact HP69.2); have hp_ : Kd.R (Kd.int .u8) 5 w70 w0.heap.size (fun k_ => (P0_ k_ ∨ w.heap.size ≤ k_)) (.slice (some ⟨go66, 0, none⟩) x0_3.length co68) y404 := (by rw [hw, Ny404.out]; exact HP69.1); clear HP69; have n0_ := Aside0.mk (hp_); have n1_ := Aside0.mk ((by rw [hw]; exact below_set (HB.out) GB66.out : Below w0.heap.size w0 w70)); have n2_ := Aside0.mk (Kept.of_grown (S := (fun k_ => P0_ k_)) hg Z7 (fun k_ e_ => (HO_0.out.1 k_ e_))); clear HO_0; clear HB; clear HK; have HO_0 := n0_; have HB := n1_; have HK := n2_; clear n0_ n1_ n2_; clear hg hw hp_; have p405 : 0 ≤ ((ji62) : Int) := of_decide_eq_true Z0; have q405 : (ji62) < (y404.length : Int) := (by have h_ : ((ji62) : Int) < ((x0_3.length : Int) : Int) := of_decide_eq_true Z0; first | (have e_ := (Kd.R_reads' HO_0.out).1; omega) | simpa only [Ny404.out, List.length_set] using h_); have ql405 : (((ji62) : Int) < ((x0_3.length : Int) : Int)) = True := eq_true (of_decide_eq_true Z0); obtain ⟨ad405, e405, hx405_0⟩ := Kd.at_int (Kd.R_reads' HO_0.out).2.2 (ji62) p405 q405; obtain rfl : (⟨go66, 0, none⟩ : Addr) = ad405 := (by injection e405); (first | simp only [add_plain] at hx405_0 | simp only [add_at] at hx405_0 | simp only [Addr.add, Nat.zero_add] at hx405_0 | skip); replace p405 := eq_true p405; replace q405 := eq_true q405))
                      (try simp only [Act.put, List.setIfInBounds_toArray, List.set_cons_zero, List.set_cons_succ])
                      have H := HC67.out
                      clear HC67
                      by_cases c71 : (rd y404 (ji62)) = a3
                      ·
                       rw [if_pos c71] at H
                       have c71b0 := beq_iff_eq.mpr c71
                       have c71b1 := bne_eq_false_iff_eq.mpr c71
                       clear c71
                       (first | rw [c71b0] | (simp only [i64_w, i32_w]; rw [c71b0]) | skip)
                       by_cases c72 : y404.length < 140737488355328
                       ·
                        rw [if_pos c72] at H
                        have LMc72 := Aside0.mk c72
                        clear c72
                        obtain ⟨y406, hy406⟩ : ∃ y_ : List Int, y_ = (y404 ++ [a4]) := ⟨_, rfl⟩
                        first | replace H := bind_y hy406 H | rw [← hy406] at H
                        have Ny406 := Aside0.mk hy406
                        clear hy406
                        simp only [Option.some.injEq, Prod.mk.injEq] at H
                        obtain ⟨rfl, rfl, rfl, rfl⟩ := H
                        go_wp2_with (first | ((with_reducible refine gate_builtin (b := .append) (xs := #[.tmp 166, .tmp 168]) rfl ?_); (try (refine gate_guard Z3 ?_; dsimp only)); at_builtin; refine Kd.R_append (Kd.int .u8) (w0 := w0) w0.heap.size rfl (.tmp 166) (.tmp 168) 40 5 (.int .u8 0) 1 rfl Try.underlying40 info5 rfl Z2 Z5 (.slice (some ⟨go66, 0, none⟩) x0_3.length co68) y404 a4 [.int .u8 a4] (fun k_ => (P0_ k_ ∨ w.heap.size ≤ k_)) (fun _ => False) rfl rfl ?aP (fun _ hk => hk.elim) ?aF ?aO ?aB ?aS ?aL ?_; (case aP => exact rfl); (case aB => exact Z6); (case aF => exact (fun k_ hk => (.inr (Nat.le_trans Z119 hk)))); (case aO => exact (pR HO_0.out)); (case aS => exact (below_size Z6)); (case aL => have := LMc72.out; omega); intro v407 w73 ho hb hg hat; rw [← Ny406.out] at ho; have n0_ := Aside0.mk (hb); have n1_ := Aside0.mk (Kept.of_grown (S := (fun k_ => P0_ k_)) hg Z7 (fun k_ e_ => (HO_0.out.1 k_ e_))); have n2_ := Aside0.mk (ho); clear HB; clear HK; clear HO_0; have HB := n0_; have HK := n1_; have HO408 := n2_; clear n0_ n1_ n2_; clear ho hb hg hat))
                        refine bodyPost_ret (results_list (rs := [.tmp 26, .tmp 27, .tmp 28, .tmp 29]) rfl Z4 (.tmp (.tmp (.tmp (.tmp .nil))))) rfl ?_
                        exact ⟨_, Z100, pR HO408.out, Z6, Z7⟩
                       ·
                        rw [if_neg c72] at H
                        exact absurd H Z4
                      ·
                       rw [if_neg c71] at H
                       have c71b0 := beq_eq_false_iff_ne.mpr c71
                       have c71b1 := bne_iff_ne.mpr c71
                       (first | rw [c71b0] | (simp only [i64_w, i32_w]; rw [c71b0]) | skip)
                       replace H := Option.bind_eq_some_iff.mp H
                       obtain ⟨t409, A740, H⟩ := H
                       have A74 := Aside0.mk A740
                       clear A740
                       by_cases c75 : t409.length < 140737488355328
                       ·
                        rw [if_pos c75] at H
                        have LMc75 := Aside0.mk c75
                        clear c75
                        obtain ⟨y412, hy412⟩ : ∃ y_ : List Int, y_ = (t409 ++ [a4]) := ⟨_, rfl⟩
                        first | replace H := bind_y hy412 H | rw [← hy412] at H
                        have Ny412 := Aside0.mk hy412
                        clear hy412
                        simp only [Option.some.injEq, Prod.mk.injEq] at H
                        obtain ⟨rfl, rfl, rfl, rfl⟩ := H
                        go_wp2_with (first | ((with_reducible refine gate_callee (f := 39) rfl ?_); refine goesL_ (some 165) rfl rfl Try.func39 Z1 rfl #[.slice (some ⟨go66, 0, none⟩) x0_3.length co68, .string a7, .string a8, .int .i64 a10] rfl Z13 ?_; (with_reducible refine (pretty_appendTabs.calls kj55 (fun k_ => some k_ = (.slice (some ⟨go66, 0, none⟩) x0_3.length co68 : Value).ownBlock) (.slice (some ⟨go66, 0, none⟩) x0_3.length co68) y404 a7 a8 a10 t409 w0 _ ?side1 ?side2 A74.out).mono ?_); (case side1 => exact Z6); (case side2 => exact Z36); rintro e w76 ⟨v410, rfl, ho0, hb, hkp⟩; refine ⟨_, rfl, ?_⟩; have n0_ := Aside0.mk (Kd.R_mono (ok' := fun k_ => (P0_ k_ ∨ w.heap.size ≤ k_)) ho0 (fun k_ hk_ => Or.elim hk_ (fun hs_ => (HO_0.out.1 k_ (hs_).symm)) (fun hn_ => (.inr (Nat.le_trans Z119 hn_))))); have n1_ := Aside0.mk (Kept.then_ (S := (fun k_ => P0_ k_)) Z7 hkp (fun k_ hs_ => (fun e_ => (HO_0.out.1 k_ e_.symm)) hs_)); have n2_ := Aside0.mk (hb); clear HK; clear HB; clear HO_0; have HO411 := n0_; have HK := n1_; have HB := n2_; clear n0_ n1_ n2_; (try clear hb); (try clear hkp); (try clear ho0)) | ((with_reducible refine gate_builtin (b := .append) (xs := #[.tmp 166, .tmp 168]) rfl ?_); (try (refine gate_guard Z3 ?_; dsimp only)); at_builtin; refine Kd.R_append (Kd.int .u8) (w0 := w0) w0.heap.size rfl (.tmp 166) (.tmp 168) 40 5 (.int .u8 0) 1 rfl Try.underlying40 info5 rfl Z2 Z5 v410 t409 a4 [.int .u8 a4] (fun k_ => (P0_ k_ ∨ w.heap.size ≤ k_)) (fun _ => False) rfl rfl ?aP (fun _ hk => hk.elim) ?aF ?aO ?aB ?aS ?aL ?_; (case aP => exact rfl); (case aB => exact Z6); (case aF => exact (fun k_ hk => (.inr (Nat.le_trans Z119 hk)))); (case aO => exact (pR HO411.out)); (case aS => exact (below_size Z6)); (case aL => have := LMc75.out; omega); intro v413 w77 ho hb hg hat; rw [← Ny412.out] at ho; have n0_ := Aside0.mk (hb); have n1_ := Aside0.mk (Kept.of_grown (S := (fun k_ => P0_ k_)) hg Z7 (fun k_ e_ => (HO411.out.1 k_ e_))); have n2_ := Aside0.mk (ho); clear HB; clear HK; clear HO411; have HB := n0_; have HK := n1_; have HO414 := n2_; clear n0_ n1_ n2_; clear ho hb hg hat))
                        refine bodyPost_ret (results_list (rs := [.tmp 26, .tmp 27, .tmp 28, .tmp 29]) rfl Z4 (.tmp (.tmp (.tmp (.tmp .nil))))) rfl ?_
                        exact ⟨_, Z100, pR HO414.out, Z6, Z7⟩
                       ·
                        rw [if_neg c75] at H
                        exact absurd H Z4
                     ·
                      as_aux_lemma =>
                      rw [if_neg c65] at H
                      have c65b0 := beq_eq_false_iff_ne.mpr c65
                      have c65b1 := bne_iff_ne.mpr c65
                      by_cases c78 : x0_3.length < 140737488355328
                      ·
                       as_aux_lemma =>
                       rw [if_pos c78] at H
                       have LMc78 := Aside0.mk c78
                       clear c78
                       obtain ⟨y415, hy415⟩ : ∃ y_ : List Int, y_ = (x0_3 ++ [10]) := ⟨_, rfl⟩
                       first | replace H := bind_y hy415 H | rw [← hy415] at H
                       have Ny415 := Aside0.mk hy415
                       clear hy415
                       obtain ⟨ji79, hji79⟩ : ∃ j_ : Int, (wrap64 ((y415.length : Int) - 1)) = j_ := ⟨_, rfl⟩
                       replace H : (if 0 ≤ (ji79) then (if (ji79) < (y415.length : Int) then (if (rd y415 (ji79)) = a3 then (if y415.length < 140737488355328 then (some ((y415 ++ [a4]), wrap64 (x2_3 + 1), (x0_3.length : Int), (a3 != 123))) else (none)) else ((pretty_appendTabs.f kj55 y415 a7 a8 a10).bind fun t422 => (if t422.length < 140737488355328 then (some ((t422 ++ [a4]), wrap64 (x2_3 + 1), (x0_3.length : Int), (a3 != 123))) else (none)))) else (none)) else (none)) = some (r1, r2, r3, r4) := by first | (rw [hji79] at H; exact H) | (simp only [hji79] at H ⊢; exact H)
                       have hji79w : (IntKind.i64.wrap ((y415.length : Int) - 1)) = ji79 := (i64_w _).trans hji79
                       by_cases c80 : 0 ≤ (ji79)
                       ·
                        as_aux_lemma =>
                        rw [if_pos c80] at H
                        have c80b0 := decide_eq_true c80
                        clear c80
                        by_cases c81 : (ji79) < (y415.length : Int)
                        ·
                         as_aux_lemma =>
                         rw [if_pos c81] at H
                         have c81b0 := decide_eq_true c81
                         clear c81
                         have HC82 := Aside0.mk H
                         clear H
                         obtain ⟨Ao83, co83, eo83⟩ := Kd.R_slice HO_0.out
                         subst eo83
                         have p403 : 0 ≤ ((ji62) : Int) := of_decide_eq_true Z0
                         have q403 : (ji62) < (x0_3.length : Int) := of_decide_eq_true Z0
                         obtain ⟨ad403, e403, hx403_0⟩ := Kd.at_int (Kd.R_reads' HO_0.out).2.2 (ji62) p403 q403
                         cases e403
                         replace p403 := eq_true p403
                         replace q403 := eq_true q403
                         go_upto_if 160 with (first | ((with_reducible refine gate_builtin (b := .append) (xs := #[.tmp 150, .tmp 151]) rfl ?_); (try (refine gate_guard Z3 ?_; dsimp only)); at_builtin; refine Kd.R_append (Kd.int .u8) (w0 := w0) w0.heap.size rfl (.tmp 150) (.tmp 151) 40 5 (.int .u8 0) 1 rfl Try.underlying40 info5 rfl Z2 Z5 (.slice (some ad403) x0_3.length co83) x0_3 10 [.int .u8 10] (fun k_ => (P0_ k_ ∨ w.heap.size ≤ k_)) (fun _ => False) rfl rfl ?aP (fun _ hk => hk.elim) ?aF ?aO ?aB ?aS ?aL ?_; (case aP => exact rfl); (case aB => exact Z6); (case aF => exact (fun k_ hk => (.inr (Nat.le_trans Z119 hk)))); (case aO => exact (pR HO_0.out)); (case aS => exact (below_size Z6)); (case aL => have := LMc78.out; omega); intro v416 w84 ho hb hg hat; rw [← Ny415.out] at ho; have n0_ := Aside0.mk (hb); have n1_ := Aside0.mk (Kept.of_grown (S := (fun k_ => P0_ k_)) hg Z7 (fun k_ e_ => (HO_0.out.1 k_ e_))); have n2_ := Aside0.mk (ho); clear HB; clear HK; clear HO_0; have HB := n0_; have HK := n1_; have HO417 := n2_; clear n0_ n1_ n2_; clear ho hb hg hat; obtain ⟨Ao85, co85, eo85⟩ := Kd.R_slice HO417.out; subst eo85; have p418 : 0 ≤ ((ji79) : Int) := of_decide_eq_true Z0; have q418 : (ji79) < (y415.length : Int) := of_decide_eq_true Z0; obtain ⟨ad418, e418, hx418_0⟩ := Kd.at_int (Kd.R_reads' HO417.out).2.2 (ji79) p418 q418; cases e418; replace p418 := eq_true p418; replace q418 := eq_true q418))
                         (try simp only [Act.put, List.setIfInBounds_toArray, List.set_cons_zero, List.set_cons_succ])
                         have H := HC82.out
                         clear HC82
                         by_cases c86 : (rd y415 (ji79)) = a3
                         ·
                          rw [if_pos c86] at H
                          have c86b0 := beq_iff_eq.mpr c86
                          have c86b1 := bne_eq_false_iff_eq.mpr c86
                          clear c86
                          (first | rw [c86b0] | (simp only [i64_w, i32_w]; rw [c86b0]) | skip)
                          by_cases c87 : y415.length < 140737488355328
                          ·
                           rw [if_pos c87] at H
                           have LMc87 := Aside0.mk c87
                           clear c87
                           obtain ⟨y419, hy419⟩ : ∃ y_ : List Int, y_ = (y415 ++ [a4]) := ⟨_, rfl⟩
                           first | replace H := bind_y hy419 H | rw [← hy419] at H
                           have Ny419 := Aside0.mk hy419
                           clear hy419
                           simp only [Option.some.injEq, Prod.mk.injEq] at H
                           obtain ⟨rfl, rfl, rfl, rfl⟩ := H
                           go_wp2_with (first | ((with_reducible refine gate_builtin (b := .append) (xs := #[.tmp 166, .tmp 168]) rfl ?_); (try (refine gate_guard Z3 ?_; dsimp only)); at_builtin; refine Kd.R_append (Kd.int .u8) (w0 := w0) w0.heap.size rfl (.tmp 166) (.tmp 168) 40 5 (.int .u8 0) 1 rfl Try.underlying40 info5 rfl Z2 Z5 (.slice (some ad418) y415.length co85) y415 a4 [.int .u8 a4] (fun k_ => (P0_ k_ ∨ w.heap.size ≤ k_)) (fun _ => False) rfl rfl ?aP (fun _ hk => hk.elim) ?aF ?aO ?aB ?aS ?aL ?_; (case aP => exact rfl); (case aB => exact Z6); (case aF => exact (fun k_ hk => (.inr (Nat.le_trans Z119 hk)))); (case aO => exact (pR HO417.out)); (case aS => exact (below_size Z6)); (case aL => have := LMc87.out; omega); intro v420 w88 ho hb hg hat; rw [← Ny419.out] at ho; have n0_ := Aside0.mk (hb); have n1_ := Aside0.mk (Kept.of_grown (S := (fun k_ => P0_ k_)) hg Z7 (fun k_ e_ => (HO417.out.1 k_ e_))); have n2_ := Aside0.mk (ho); clear HB; clear HK; clear HO417; have HB := n0_; have HK := n1_; have HO421 := n2_; clear n0_ n1_ n2_; clear ho hb hg hat))
                           refine bodyPost_ret (results_list (rs := [.tmp 26, .tmp 27, .tmp 28, .tmp 29]) rfl Z4 (.tmp (.tmp (.tmp (.tmp .nil))))) rfl ?_
                           exact ⟨_, Z101, pR HO421.out, Z6, Z7⟩
                          ·
                           rw [if_neg c87] at H
                           exact absurd H Z4
                         ·
                          rw [if_neg c86] at H
                          have c86b0 := beq_eq_false_iff_ne.mpr c86
                          have c86b1 := bne_iff_ne.mpr c86
                          (first | rw [c86b0] | (simp only [i64_w, i32_w]; rw [c86b0]) | skip)
                          replace H := Option.bind_eq_some_iff.mp H
                          obtain ⟨t422, A890, H⟩ := H
                          have A89 := Aside0.mk A890
                          clear A890
                          by_cases c90 : t422.length < 140737488355328
                          ·
                           rw [if_pos c90] at H
                           have LMc90 := Aside0.mk c90
                           clear c90
                           obtain ⟨y425, hy425⟩ : ∃ y_ : List Int, y_ = (t422 ++ [a4]) := ⟨_, rfl⟩
                           first | replace H := bind_y hy425 H | rw [← hy425] at H
                           have Ny425 := Aside0.mk hy425
                           clear hy425
                           simp only [Option.some.injEq, Prod.mk.injEq] at H
                           obtain ⟨rfl, rfl, rfl, rfl⟩ := H
                           go_wp2_with (first | ((with_reducible refine gate_callee (f := 39) rfl ?_); refine goesL_ (some 165) rfl rfl Try.func39 Z1 rfl #[.slice (some ad418) y415.length co85, .string a7, .string a8, .int .i64 a10] rfl Z13 ?_; (with_reducible refine (pretty_appendTabs.calls kj55 (fun k_ => some k_ = (.slice (some ad418) y415.length co85 : Value).ownBlock) (.slice (some ad418) y415.length co85) y415 a7 a8 a10 t422 w0 _ ?side1 ?side2 A89.out).mono ?_); (case side1 => exact Z6); (case side2 => exact Kd.R_tight rfl HO417.out); rintro e w91 ⟨v423, rfl, ho0, hb, hkp⟩; refine ⟨_, rfl, ?_⟩; have n0_ := Aside0.mk (Kd.R_mono (ok' := fun k_ => (P0_ k_ ∨ w.heap.size ≤ k_)) ho0 (fun k_ hk_ => Or.elim hk_ (fun hs_ => (HO417.out.1 k_ (hs_).symm)) (fun hn_ => (.inr (Nat.le_trans Z119 hn_))))); have n1_ := Aside0.mk (Kept.then_ (S := (fun k_ => P0_ k_)) Z7 hkp (fun k_ hs_ => (fun e_ => (HO417.out.1 k_ e_.symm)) hs_)); have n2_ := Aside0.mk (hb); clear HK; clear HB; clear HO417; have HO424 := n0_; have HK := n1_; have HB := n2_; clear n0_ n1_ n2_; (try clear hb); (try clear hkp); (try clear ho0)) | ((with_reducible refine gate_builtin (b := .append) (xs := #[.tmp 166, .tmp 168]) rfl ?_); (try (refine gate_guard Z3 ?_; dsimp only)); at_builtin; refine Kd.R_append (Kd.int .u8) (w0 := w0) w0.heap.size rfl (.tmp 166) (.tmp 168) 40 5 (.int .u8 0) 1 rfl Try.underlying40 info5 rfl Z2 Z5 v423 t422 a4 [.int .u8 a4] (fun k_ => (P0_ k_ ∨ w.heap.size ≤ k_)) (fun _ => False) rfl rfl ?aP (fun _ hk => hk.elim) ?aF ?aO ?aB ?aS ?aL ?_; (case aP => exact rfl); (case aB => exact Z6); (case aF => exact (fun k_ hk => (.inr (Nat.le_trans Z119 hk)))); (case aO => exact (pR HO424.out)); (case aS => exact (below_size Z6)); (case aL => have := LMc90.out; omega); intro v426 w92 ho hb hg hat; rw [← Ny425.out] at ho; have n0_ := Aside0.mk (hb); have n1_ := Aside0.mk (Kept.of_grown (S := (fun k_ => P0_ k_)) hg Z7 (fun k_ e_ => (HO424.out.1 k_ e_))); have n2_ := Aside0.mk (ho); clear HB; clear HK; clear HO424; have HB := n0_; have HK := n1_; have HO427 := n2_; clear n0_ n1_ n2_; clear ho hb hg hat))
                           refine bodyPost_ret (results_list (rs := [.tmp 26, .tmp 27, .tmp 28, .tmp 29]) rfl Z4 (.tmp (.tmp (.tmp (.tmp .nil))))) rfl ?_
                           exact ⟨_, Z101, pR HO427.out, Z6, Z7⟩
                          ·
                           rw [if_neg c90] at H
                           exact absurd H Z4
                        ·
                         rw [if_neg c81] at H
                         exact absurd H Z4
                       ·
                        rw [if_neg c80] at H
                        exact absurd H Z4
                      ·
                       rw [if_neg c78] at H
                       exact absurd H Z4
                    ·
                     rw [if_neg c64] at H
                     exact absurd H Z4
                   ·
                    rw [if_neg c63] at H
                    exact absurd H Z4
                  ·
                   as_aux_lemma =>
                   rw [if_neg c61] at H
                   have c61b0 := decide_eq_false c61
                   clear c61
                   obtain ⟨ji93, hji93⟩ : ∃ j_ : Int, (wrap64 ((x0_3.length : Int) - 1)) = j_ := ⟨_, rfl⟩
                   replace H : (if 0 ≤ (ji93) then (if (ji93) < (x0_3.length : Int) then (if (rd x0_3 (ji93)) = a3 then (if x0_3.length < 140737488355328 then (some ((x0_3 ++ [a4]), wrap64 (x2_3 + 1), x11_3, (a3 != 123))) else (none)) else ((pretty_appendTabs.f kj55 x0_3 a7 a8 a10).bind fun t432 => (if t432.length < 140737488355328 then (some ((t432 ++ [a4]), wrap64 (x2_3 + 1), x11_3, (a3 != 123))) else (none)))) else (none)) else (none)) = some (r1, r2, r3, r4) := by first | (rw [hji93] at H; exact H) | (simp only [hji93] at H ⊢; exact H)
                   have hji93w : (IntKind.i64.wrap ((x0_3.length : Int) - 1)) = ji93 := (i64_w _).trans hji93
                   by_cases c94 : 0 ≤ (ji93)
                   ·
                    as_aux_lemma =>
                    rw [if_pos c94] at H
                    have c94b0 := decide_eq_true c94
                    clear c94
                    by_cases c95 : (ji93) < (x0_3.length : Int)
                    ·
                     as_aux_lemma =>
                     rw [if_pos c95] at H
                     have c95b0 := decide_eq_true c95
                     clear c95
                     by_cases c96 : (rd x0_3 (ji93)) = a3
                     ·
                      rw [if_pos c96] at H
                      have c96b0 := beq_iff_eq.mpr c96
                      have c96b1 := bne_eq_false_iff_eq.mpr c96
                      clear c96
                      by_cases c97 : x0_3.length < 140737488355328
                      ·
                       rw [if_pos c97] at H
                       have LMc97 := Aside0.mk c97
                       clear c97
                       obtain ⟨y429, hy429⟩ : ∃ y_ : List Int, y_ = (x0_3 ++ [a4]) := ⟨_, rfl⟩
                       first | replace H := bind_y hy429 H | rw [← hy429] at H
                       have Ny429 := Aside0.mk hy429
                       clear hy429
                       simp only [Option.some.injEq, Prod.mk.injEq] at H
                       obtain ⟨rfl, rfl, rfl, rfl⟩ := H
                       obtain ⟨Ao98, co98, eo98⟩ := Kd.R_slice HO_0.out
                       subst eo98
                       have p428 : 0 ≤ ((ji93) : Int) := of_decide_eq_true Z0
                       have q428 : (ji93) < (x0_3.length : Int) := of_decide_eq_true Z0
                       obtain ⟨ad428, e428, hx428_0⟩ := Kd.at_int (Kd.R_reads' HO_0.out).2.2 (ji93) p428 q428
                       cases e428
                       replace p428 := eq_true p428
                       replace q428 := eq_true q428
                       go_wp2_with (first | ((with_reducible refine gate_builtin (b := .append) (xs := #[.tmp 166, .tmp 168]) rfl ?_); (try (refine gate_guard Z3 ?_; dsimp only)); at_builtin; refine Kd.R_append (Kd.int .u8) (w0 := w0) w0.heap.size rfl (.tmp 166) (.tmp 168) 40 5 (.int .u8 0) 1 rfl Try.underlying40 info5 rfl Z2 Z5 (.slice (some ad428) x0_3.length co98) x0_3 a4 [.int .u8 a4] (fun k_ => (P0_ k_ ∨ w.heap.size ≤ k_)) (fun _ => False) rfl rfl ?aP (fun _ hk => hk.elim) ?aF ?aO ?aB ?aS ?aL ?_; (case aP => exact rfl); (case aB => exact Z6); (case aF => exact (fun k_ hk => (.inr (Nat.le_trans Z119 hk)))); (case aO => exact (pR HO_0.out)); (case aS => exact (below_size Z6)); (case aL => have := LMc97.out; omega); intro v430 w99 ho hb hg hat; rw [← Ny429.out] at ho; have n0_ := Aside0.mk (hb); have n1_ := Aside0.mk (Kept.of_grown (S := (fun k_ => P0_ k_)) hg Z7 (fun k_ e_ => (HO_0.out.1 k_ e_))); have n2_ := Aside0.mk (ho); clear HB; clear HK; clear HO_0; have HB := n0_; have HK := n1_; have HO431 := n2_; clear n0_ n1_ n2_; clear ho hb hg hat))
                       refine bodyPost_ret (results_list (rs := [.tmp 26, .tmp 27, .tmp 28, .tmp 29]) rfl Z4 (.tmp (.tmp (.tmp (.tmp .nil))))) rfl ?_
                       exact ⟨_, Z102, pR HO431.out, Z6, Z7⟩
                      ·
                       rw [if_neg c97] at H
                       exact absurd H Z4
                     ·
                      rw [if_neg c96] at H
                      have c96b0 := beq_eq_false_iff_ne.mpr c96
                      have c96b1 := bne_iff_ne.mpr c96
                      replace H := Option.bind_eq_some_iff.mp H
                      obtain ⟨t432, A1000, H⟩ := H
                      have A100 := Aside0.mk A1000
                      clear A1000
                      by_cases c101 : t432.length < 140737488355328
                      ·
                       rw [if_pos c101] at H
                       have LMc101 := Aside0.mk c101
                       clear c101
                       obtain ⟨y435, hy435⟩ : ∃ y_ : List Int, y_ = (t432 ++ [a4]) := ⟨_, rfl⟩
                       first | replace H := bind_y hy435 H | rw [← hy435] at H
                       have Ny435 := Aside0.mk hy435
                       clear hy435
                       simp only [Option.some.injEq, Prod.mk.injEq] at H
                       obtain ⟨rfl, rfl, rfl, rfl⟩ := H
                       obtain ⟨Ao102, co102, eo102⟩ := Kd.R_slice HO_0.out
                       subst eo102
                       have p428 : 0 ≤ ((ji93) : Int) := of_decide_eq_true Z0
                       have q428 : (ji93) < (x0_3.length : Int) := of_decide_eq_true Z0
                       obtain ⟨ad428, e428, hx428_0⟩ := Kd.at_int (Kd.R_reads' HO_0.out).2.2 (ji93) p428 q428
                       cases e428
                       replace p428 := eq_true p428
                       replace q428 := eq_true q428
                       go_wp2_with (first | ((with_reducible refine gate_callee (f := 39) rfl ?_); refine goesL_ (some 165) rfl rfl Try.func39 Z1 rfl #[.slice (some ad428) x0_3.length co102, .string a7, .string a8, .int .i64 a10] rfl Z13 ?_; (with_reducible refine (pretty_appendTabs.calls kj55 (fun k_ => some k_ = (.slice (some ad428) x0_3.length co102 : Value).ownBlock) (.slice (some ad428) x0_3.length co102) x0_3 a7 a8 a10 t432 w0 _ ?side1 ?side2 A100.out).mono ?_); (case side1 => exact Z6); (case side2 => exact Z36); rintro e w103 ⟨v433, rfl, ho0, hb, hkp⟩; refine ⟨_, rfl, ?_⟩; have n0_ := Aside0.mk (Kd.R_mono (ok' := fun k_ => (P0_ k_ ∨ w.heap.size ≤ k_)) ho0 (fun k_ hk_ => Or.elim hk_ (fun hs_ => (HO_0.out.1 k_ (hs_).symm)) (fun hn_ => (.inr (Nat.le_trans Z119 hn_))))); have n1_ := Aside0.mk (Kept.then_ (S := (fun k_ => P0_ k_)) Z7 hkp (fun k_ hs_ => (fun e_ => (HO_0.out.1 k_ e_.symm)) hs_)); have n2_ := Aside0.mk (hb); clear HK; clear HB; clear HO_0; have HO434 := n0_; have HK := n1_; have HB := n2_; clear n0_ n1_ n2_; (try clear hb); (try clear hkp); (try clear ho0)) | ((with_reducible refine gate_builtin (b := .append) (xs := #[.tmp 166, .tmp 168]) rfl ?_); (try (refine gate_guard Z3 ?_; dsimp only)); at_builtin; refine Kd.R_append (Kd.int .u8) (w0 := w0) w0.heap.size rfl (.tmp 166) (.tmp 168) 40 5 (.int .u8 0) 1 rfl Try.underlying40 info5 rfl Z2 Z5 v433 t432 a4 [.int .u8 a4] (fun k_ => (P0_ k_ ∨ w.heap.size ≤ k_)) (fun _ => False) rfl rfl ?aP (fun _ hk => hk.elim) ?aF ?aO ?aB ?aS ?aL ?_; (case aP => exact rfl); (case aB => exact Z6); (case aF => exact (fun k_ hk => (.inr (Nat.le_trans Z119 hk)))); (case aO => exact (pR HO434.out)); (case aS => exact (below_size Z6)); (case aL => have := LMc101.out; omega); intro v436 w104 ho hb hg hat; rw [← Ny435.out] at ho; have n0_ := Aside0.mk (hb); have n1_ := Aside0.mk (Kept.of_grown (S := (fun k_ => P0_ k_)) hg Z7 (fun k_ e_ => (HO434.out.1 k_ e_))); have n2_ := Aside0.mk (ho); clear HB; clear HK; clear HO434; have HB := n0_; have HK := n1_; have HO437 := n2_; clear n0_ n1_ n2_; clear ho hb hg hat))
                       refine bodyPost_ret (results_list (rs := [.tmp 26, .tmp 27, .tmp 28, .tmp 29]) rfl Z4 (.tmp (.tmp (.tmp (.tmp .nil))))) rfl ?_
                       exact ⟨_, Z102, pR HO437.out, Z6, Z7⟩
                      ·
                       rw [if_neg c101] at H
                       exact absurd H Z4
                    ·
                     rw [if_neg c95] at H
                     exact absurd H Z4
                   ·
                    rw [if_neg c94] at H
                    exact absurd H Z4
              ·
               replace c55 := Bool.eq_false_iff.mpr c55
               subst c55
               rw [if_neg (show ¬ (false = true) from Z2)] at H
               by_cases c105 : x0_3.length < 140737488355328
               ·
                rw [if_pos c105] at H
                have LMc105 := Aside0.mk c105
                clear c105
                obtain ⟨y438, hy438⟩ : ∃ y_ : List Int, y_ = (x0_3 ++ [a4]) := ⟨_, rfl⟩
                first | replace H := bind_y hy438 H | rw [← hy438] at H
                have Ny438 := Aside0.mk hy438
                clear hy438
                simp only [Option.some.injEq, Prod.mk.injEq] at H
                obtain ⟨rfl, rfl, rfl, rfl⟩ := H
                have p401 : 0 ≤ (x2_3 : Int) := of_decide_eq_true Z0
                have q401 : x2_3 < (x1_3.length : Int) := of_decide_eq_true Z0
                obtain ⟨ad401, e401, hx401_0⟩ := Kd.at_int (Kd.V_reads' HO_1.out).2.2 x2_3 p401 q401
                cases e401
                replace p401 := eq_true p401
                replace q401 := eq_true q401
                have p402 : 0 ≤ (x2_3 : Int) := of_decide_eq_true Z0
                have q402 : x2_3 < (x1_3.length : Int) := of_decide_eq_true Z0
                obtain ⟨ad402, e402, hx402_0⟩ := Kd.at_int (Kd.V_reads' HO_1.out).2.2 x2_3 p402 q402
                obtain rfl : ad401 = ad402 := (by injection e402)
                replace p402 := eq_true p402
                replace q402 := eq_true q402
                go_wp2_with (first | ((with_reducible refine gate_builtin (b := .append) (xs := #[.tmp 166, .tmp 168]) rfl ?_); (try (refine gate_guard Z3 ?_; dsimp only)); at_builtin; refine Kd.R_append (Kd.int .u8) (w0 := w0) w0.heap.size rfl (.tmp 166) (.tmp 168) 40 5 (.int .u8 0) 1 rfl Try.underlying40 info5 rfl Z2 Z5 u0 x0_3 a4 [.int .u8 a4] (fun k_ => (P0_ k_ ∨ w.heap.size ≤ k_)) (fun _ => False) rfl rfl ?aP (fun _ hk => hk.elim) ?aF ?aO ?aB ?aS ?aL ?_; (case aP => exact rfl); (case aB => exact Z6); (case aF => exact (fun k_ hk => (.inr (Nat.le_trans Z119 hk)))); (case aO => exact (pR HO_0.out)); (case aS => exact (below_size Z6)); (case aL => have := LMc105.out; omega); intro v439 w106 ho hb hg hat; rw [← Ny438.out] at ho; have n0_ := Aside0.mk (Kd.V_afterv (ok := (fun k_ => ((P0_ k_ ∨ P1_ k_) ∨ w.heap.size ≤ k_))) (pV HO_1.out) hg hat); have n1_ := Aside0.mk (hb); have n2_ := Aside0.mk (Kept.of_grown (S := (fun k_ => P0_ k_)) hg Z7 (fun k_ e_ => (HO_0.out.1 k_ e_))); have n3_ := Aside0.mk (ho); clear HO_1; clear HB; clear HK; clear HO_0; have HO_1 := n0_; have HB := n1_; have HK := n2_; have HO440 := n3_; clear n0_ n1_ n2_ n3_; clear ho hb hg hat))
                refine bodyPost_ret (results_list (rs := [.tmp 26, .tmp 27, .tmp 28, .tmp 29]) rfl Z4 (.tmp (.tmp (.tmp (.tmp .nil))))) rfl ?_
                exact ⟨_, Z12, pR HO440.out, Z6, Z7⟩
               ·
                rw [if_neg c105] at H
                exact absurd H Z4
             ·
              as_aux_lemma =>
              rw [if_neg c54] at H
              have c54b0 := beq_eq_false_iff_ne.mpr c54
              have c54b1 := bne_iff_ne.mpr c54
              have HC107 := Aside0.mk H
              clear H
              have p401 : 0 ≤ (x2_3 : Int) := of_decide_eq_true Z0
              have q401 : x2_3 < (x1_3.length : Int) := of_decide_eq_true Z0
              obtain ⟨ad401, e401, hx401_0⟩ := Kd.at_int (Kd.V_reads' HO_1.out).2.2 x2_3 p401 q401
              cases e401
              replace p401 := eq_true p401
              replace q401 := eq_true q401
              have p402 : 0 ≤ (x2_3 : Int) := of_decide_eq_true Z0
              have q402 : x2_3 < (x1_3.length : Int) := of_decide_eq_true Z0
              obtain ⟨ad402, e402, hx402_0⟩ := Kd.at_int (Kd.V_reads' HO_1.out).2.2 x2_3 p402 q402
              obtain rfl : ad401 = ad402 := (by injection e402)
              replace p402 := eq_true p402
              replace q402 := eq_true q402
              go_upto_region 36 with (fail)
              go_cut [184] (fun v184 wc => ∃ (kq : Nat) (x184_106 : Bool), v184 = .bool x184_106 ∧ Aside0 (pretty_appendPrettyObject.j5 kq x0_3 x1_3 x2_3 a3 a4 a5 a6 a7 a8 false a10 x11_3 a12 x35_3 false x184_106 = some (r1, r2, r3, r4)) ∧ Aside0 (kq ≤ k3) ∧ Aside0 (Kd.R (Kd.int .u8) 5 wc w0.heap.size (fun k_ => (P0_ k_ ∨ w.heap.size ≤ k_)) u0 x0_3) ∧ Aside0 (Kd.V (Kd.int .u8) 5 wc w0.heap.size (fun k_ => ((P0_ k_ ∨ P1_ k_) ∨ w.heap.size ≤ k_) ∧ some k_ ≠ (u0 : Value).ownBlock) (.slice (some ad401) x1_3.length c1) x1_3) ∧ Aside0 (Kept w wc (fun k_ => P0_ k_)) ∧ Aside0 (Below w0.heap.size w0 wc))
              case first =>
               have H := HC107.out
               clear HC107
               by_cases c108 : a3 = 91
               ·
                rw [if_pos c108] at H
                have c108b0 := beq_iff_eq.mpr c108
                have c108b1 := bne_eq_false_iff_eq.mpr c108
                clear c108
                (first | rw [c108b0] | (simp only [i64_w, i32_w]; rw [c108b0]) | skip)
                have H' := Aside0.mk H
                clear H
                go_wp2
                go_meet
                case rel => exact ⟨_, (true), Z8, H', ⟨Z69⟩, ⟨Z42⟩, ⟨Z43⟩, ⟨Z7⟩, ⟨Z6⟩⟩
               ·
                rw [if_neg c108] at H
                have c108b0 := beq_eq_false_iff_ne.mpr c108
                have c108b1 := bne_iff_ne.mpr c108
                (first | rw [c108b0] | (simp only [i64_w, i32_w]; rw [c108b0]) | skip)
                have H' := Aside0.mk H
                clear H
                have p441 : 0 ≤ (x2_3 : Int) := of_decide_eq_true Z0
                have q441 : x2_3 < (x1_3.length : Int) := of_decide_eq_true Z0
                obtain ⟨ad441, e441, hx441_0⟩ := Kd.at_int (Kd.V_reads' HO_1.out).2.2 x2_3 p441 q441
                obtain rfl : ad401 = ad441 := (by injection e441)
                replace p441 := eq_true p441
                replace q441 := eq_true q441
                go_wp2
                go_meet
                case rel => exact ⟨_, (((rd x1_3 x2_3) == 34)), Z8, H', ⟨Z69⟩, ⟨Z42⟩, ⟨Z43⟩, ⟨Z7⟩, ⟨Z6⟩⟩
              case rest =>
               as_aux_lemma =>
               clear HC107; try clear c1; try clear c2; try clear p2; try clear c3; try clear q3; try clear c4; try clear p4; try clear q4; try clear hx4; try clear c5; try clear c6; try clear p6; try clear q6; try clear hx6; try clear c7; try clear c8; try clear c9; try clear c10; try clear c15; try clear c15b0; try clear c17; try clear c18; try clear c18b0; try clear c18b1; try clear c20; try clear c21; try clear c21b0; try clear c23; try clear c28; try clear c28b0; try clear c29; try clear c29b0; try clear c29b1; try clear c30; try clear c30b0; try clear c30b1; try clear q31; try clear c34; try clear c35; try clear c35b0; try clear c35b1; try clear c36; try clear c36b0; try clear c36b1; try clear q38; try clear c39; try clear c40; try clear c40b0; try clear c40b1; try clear p40; try clear q40; try clear hx40; try clear c41; try clear c41b0; try clear c41b1; try clear p41; try clear q41; try clear hx41; try clear p42; try clear q42; try clear hx42; try clear c43; try clear p44; try clear q44; try clear hx44; try clear c46; try clear c46b0; try clear c46b1; try clear c48; try clear c49; try clear c51; try clear c51b0; try clear c52; try clear c52b0; try clear c53; try clear c53b0; try clear c54; try clear c54b0; try clear c54b1; try clear c55; try clear c57; try clear c57b0; try clear c57b1; try clear c60; try clear c61; try clear c61b0; try clear c63; try clear c63b0; try clear c64; try clear c64b0; try clear p64; try clear c65; try clear c65b0; try clear c65b1; try clear p66; try clear q66; try clear hx66; try clear hf66; try clear c71; try clear c71b0; try clear c71b1; try clear c72; try clear c75; try clear c78; try clear c80; try clear c80b0; try clear c81; try clear c81b0; try clear c86; try clear c86b0; try clear c86b1; try clear c87; try clear c90; try clear c94; try clear c94b0; try clear c95; try clear c95b0; try clear c96; try clear c96b0; try clear c96b1; try clear c97; try clear c101; try clear c105; try clear c108; try clear c108b0; try clear c108b1; try clear hx401_0; try clear hx402_0; try clear hx403_0; try clear hx405_0; try clear hx418_0; try clear hx428_0; try clear hx441_0; try clear hx66_0; try clear p2; try clear p4; try clear p40; try clear p401; try clear p402; try clear p403; try clear p405; try clear p418; try clear p428; try clear p441; try clear p6; try clear p66; try clear q3; try clear q31; try clear q38; try clear q4; try clear q40; try clear q401; try clear q402; try clear q403; try clear q405; try clear q418; try clear q428; try clear q441; try clear q66
               obtain ⟨kq, x184_106, rfl, HA, HJ106, HO_0, HO_1, HK, HB⟩ := hcut
               cases kq with
               | zero => exact absurd HA.out (by simp [pretty_appendPrettyObject.j5])
               | succ kj106 =>
                have H := HA.out
                clear HA
                simp only [pretty_appendPrettyObject.j5] at H
                rw [if_neg (show ¬ (false = true) from Z2)] at H
                rw [if_neg (show ¬ (false = true) from Z2)] at H
                by_cases c111 : x184_106 = true
                ·
                 as_aux_lemma =>
                 subst c111
                 rw [if_pos rfl] at H
                 have HC112 := Aside0.mk H
                 clear H
                 go_upto_if 186 with (fail)
                 go_cut [0] (fun v0 wc => ∃ (kq : Nat) (x0_111 : List Int), Aside0 (pretty_appendPrettyObject.j6 kq x0_111 x1_3 x2_3 a3 a4 a5 a6 a7 a8 false a10 x11_3 a12 x35_3 false = some (r1, r2, r3, r4)) ∧ Aside0 (kq ≤ kj106) ∧ Aside0 (Kd.R (Kd.int .u8) 5 wc w0.heap.size (fun k_ => (P0_ k_ ∨ w.heap.size ≤ k_)) v0 x0_111) ∧ Aside0 (Kd.V (Kd.int .u8) 5 wc w0.heap.size (fun k_ => ((P0_ k_ ∨ P1_ k_) ∨ w.heap.size ≤ k_) ∧ some k_ ≠ (v0 : Value).ownBlock) (.slice (some ad401) x1_3.length c1) x1_3) ∧ Aside0 (Kept w wc (fun k_ => P0_ k_)) ∧ Aside0 (Below w0.heap.size w0 wc))
                 case first =>
                  as_aux_lemma =>
                  have H := HC112.out
                  clear HC112
                  by_cases c113 : x35_3 > 0
                  ·
                   as_aux_lemma =>
                   rw [if_pos c113] at H
                   have c113b0 := decide_eq_true c113
                   clear c113
                   (first | rw [c113b0] | (simp only [i64_w, i32_w]; rw [c113b0]) | skip)
                   by_cases c114 : x0_3.length < 140737488355328
                   ·
                    as_aux_lemma =>
                    rw [if_pos c114] at H
                    have LMc114 := Aside0.mk c114
                    clear c114
                    obtain ⟨y442, hy442⟩ : ∃ y_ : List Int, y_ = (x0_3 ++ [44]) := ⟨_, rfl⟩
                    first | replace H := bind_y hy442 H | rw [← hy442] at H
                    have Ny442 := Aside0.mk hy442
                    clear hy442
                    by_cases c115 : a6 = (-1)
                    ·
                     rw [if_pos c115] at H
                     have c115b0 := beq_iff_eq.mpr c115
                     have c115b1 := bne_eq_false_iff_eq.mpr c115
                     clear c115
                     have H' := Aside0.mk H
                     clear H
                     go_wp2_with (first | ((with_reducible refine gate_builtin (b := .append) (xs := #[.tmp 187, .tmp 188]) rfl ?_); (try (refine gate_guard Z3 ?_; dsimp only)); at_builtin; refine Kd.R_append (Kd.int .u8) (w0 := w0) w0.heap.size rfl (.tmp 187) (.tmp 188) 40 5 (.int .u8 0) 1 rfl Try.underlying40 info5 rfl Z2 Z5 u0 x0_3 44 [.int .u8 44] (fun k_ => (P0_ k_ ∨ w.heap.size ≤ k_)) (fun _ => False) rfl rfl ?aP (fun _ hk => hk.elim) ?aF ?aO ?aB ?aS ?aL ?_; (case aP => exact rfl); (case aB => exact Z6); (case aF => exact (fun k_ hk => (.inr (Nat.le_trans Z119 hk)))); (case aO => exact (pR HO_0.out)); (case aS => exact (below_size Z6)); (case aL => have := LMc114.out; omega); intro v443 w116 ho hb hg hat; rw [← Ny442.out] at ho; have n0_ := Aside0.mk (Kd.V_afterv (ok := (fun k_ => ((P0_ k_ ∨ P1_ k_) ∨ w.heap.size ≤ k_))) (pV HO_1.out) hg hat); have n1_ := Aside0.mk (hb); have n2_ := Aside0.mk (Kept.of_grown (S := (fun k_ => P0_ k_)) hg Z7 (fun k_ e_ => (HO_0.out.1 k_ e_))); have n3_ := Aside0.mk (ho); clear HO_1; clear HB; clear HK; clear HO_0; have HO_1 := n0_; have HB := n1_; have HK := n2_; have HO444 := n3_; clear n0_ n1_ n2_ n3_; clear ho hb hg hat))
                     go_meet
                     case rel => exact ⟨_, (y442), H', ⟨Z70⟩, ⟨Z103⟩, ⟨Z43⟩, ⟨Z7⟩, ⟨Z6⟩⟩
                    ·
                     rw [if_neg c115] at H
                     have c115b0 := beq_eq_false_iff_ne.mpr c115
                     have c115b1 := bne_iff_ne.mpr c115
                     have HC117 := Aside0.mk H
                     clear H
                     go_upto_if 195 with (first | ((with_reducible refine gate_builtin (b := .append) (xs := #[.tmp 187, .tmp 188]) rfl ?_); (try (refine gate_guard Z3 ?_; dsimp only)); at_builtin; refine Kd.R_append (Kd.int .u8) (w0 := w0) w0.heap.size rfl (.tmp 187) (.tmp 188) 40 5 (.int .u8 0) 1 rfl Try.underlying40 info5 rfl Z2 Z5 u0 x0_3 44 [.int .u8 44] (fun k_ => (P0_ k_ ∨ w.heap.size ≤ k_)) (fun _ => False) rfl rfl ?aP (fun _ hk => hk.elim) ?aF ?aO ?aB ?aS ?aL ?_; (case aP => exact rfl); (case aB => exact Z6); (case aF => exact (fun k_ hk => (.inr (Nat.le_trans Z119 hk)))); (case aO => exact (pR HO_0.out)); (case aS => exact (below_size Z6)); (case aL => have := LMc114.out; omega); intro v443 w118 ho hb hg hat; rw [← Ny442.out] at ho; have n0_ := Aside0.mk (Kd.V_afterv (ok := (fun k_ => ((P0_ k_ ∨ P1_ k_) ∨ w.heap.size ≤ k_))) (pV HO_1.out) hg hat); have n1_ := Aside0.mk (hb); have n2_ := Aside0.mk (Kept.of_grown (S := (fun k_ => P0_ k_)) hg Z7 (fun k_ e_ => (HO_0.out.1 k_ e_))); have n3_ := Aside0.mk (ho); clear HO_1; clear HB; clear HK; clear HO_0; have HO_1 := n0_; have HB := n1_; have HK := n2_; have HO444 := n3_; clear n0_ n1_ n2_ n3_; clear ho hb hg hat))
                     (try simp only [Act.put, List.setIfInBounds_toArray, List.set_cons_zero, List.set_cons_succ])
                     have H := HC117.out
                     clear HC117
                     by_cases c119 : a3 = 91
                     ·
                      rw [if_pos c119] at H
                      have c119b0 := beq_iff_eq.mpr c119
                      have c119b1 := bne_eq_false_iff_eq.mpr c119
                      clear c119
                      (first | rw [c119b0] | (simp only [i64_w, i32_w]; rw [c119b0]) | skip)
                      by_cases c120 : y442.length < 140737488355328
                      ·
                       rw [if_pos c120] at H
                       have LMc120 := Aside0.mk c120
                       clear c120
                       obtain ⟨y445, hy445⟩ : ∃ y_ : List Int, y_ = (y442 ++ [32]) := ⟨_, rfl⟩
                       first | replace H := bind_y hy445 H | rw [← hy445] at H
                       have Ny445 := Aside0.mk hy445
                       clear hy445
                       have H' := Aside0.mk H
                       clear H
                       go_wp2_with (first | ((with_reducible refine gate_builtin (b := .append) (xs := #[.tmp 196, .tmp 197]) rfl ?_); (try (refine gate_guard Z3 ?_; dsimp only)); at_builtin; refine Kd.R_append (Kd.int .u8) (w0 := w0) w0.heap.size rfl (.tmp 196) (.tmp 197) 40 5 (.int .u8 0) 1 rfl Try.underlying40 info5 rfl Z2 Z5 v443 y442 32 [.int .u8 32] (fun k_ => (P0_ k_ ∨ w.heap.size ≤ k_)) (fun _ => False) rfl rfl ?aP (fun _ hk => hk.elim) ?aF ?aO ?aB ?aS ?aL ?_; (case aP => exact rfl); (case aB => exact Z6); (case aF => exact (fun k_ hk => (.inr (Nat.le_trans Z119 hk)))); (case aO => exact (pR HO444.out)); (case aS => exact (below_size Z6)); (case aL => have := LMc120.out; omega); intro v446 w121 ho hb hg hat; rw [← Ny445.out] at ho; have n0_ := Aside0.mk (Kd.V_afterv (ok := (fun k_ => ((P0_ k_ ∨ P1_ k_) ∨ w.heap.size ≤ k_))) (pV HO_1.out) hg hat); have n1_ := Aside0.mk (hb); have n2_ := Aside0.mk (Kept.of_grown (S := (fun k_ => P0_ k_)) hg Z7 (fun k_ e_ => (HO444.out.1 k_ e_))); have n3_ := Aside0.mk (ho); clear HO_1; clear HB; clear HK; clear HO444; have HO_1 := n0_; have HB := n1_; have HK := n2_; have HO447 := n3_; clear n0_ n1_ n2_ n3_; clear ho hb hg hat))
                       go_meet
                       case rel => exact ⟨_, (y445), H', ⟨Z70⟩, ⟨by (try simp only [hl1_3]); (with_reducible repeat (first | apply Kd.R_alloc | apply Kd.R_drewN | apply Kd.R_drew)); first | exact HO447.out | exact own_to HO447.out⟩, ⟨Z43⟩, ⟨Z7⟩, ⟨Z6⟩⟩
                      ·
                       rw [if_neg c120] at H
                       exact absurd H Z4
                     ·
                      rw [if_neg c119] at H
                      have c119b0 := beq_eq_false_iff_ne.mpr c119
                      have c119b1 := bne_iff_ne.mpr c119
                      (first | rw [c119b0] | (simp only [i64_w, i32_w]; rw [c119b0]) | skip)
                      have H' := Aside0.mk H
                      clear H
                      go_wp2
                      go_meet
                      case rel => exact ⟨_, (y442), H', ⟨Z70⟩, ⟨Z103⟩, ⟨Z43⟩, ⟨Z7⟩, ⟨Z6⟩⟩
                   ·
                    rw [if_neg c114] at H
                    exact absurd H Z4
                  ·
                   rw [if_neg c113] at H
                   have c113b0 := decide_eq_false c113
                   clear c113
                   (first | rw [c113b0] | (simp only [i64_w, i32_w]; rw [c113b0]) | skip)
                   have H' := Aside0.mk H
                   clear H
                   go_wp2
                   go_meet
                   case rel => exact ⟨_, (x0_3), H', ⟨Z70⟩, ⟨Z42⟩, ⟨Z43⟩, ⟨Z7⟩, ⟨Z6⟩⟩
                 case rest =>
                  as_aux_lemma =>
                  clear HC112; try clear c1; try clear c2; try clear p2; try clear c3; try clear q3; try clear c4; try clear p4; try clear q4; try clear hx4; try clear c5; try clear c6; try clear p6; try clear q6; try clear hx6; try clear c7; try clear c8; try clear c9; try clear c10; try clear c11; try clear c12; try clear c15; try clear c15b0; try clear c17; try clear c18; try clear c18b0; try clear c18b1; try clear c20; try clear c21; try clear c21b0; try clear c23; try clear c28; try clear c28b0; try clear c29; try clear c29b0; try clear c29b1; try clear c30; try clear c30b0; try clear c30b1; try clear q31; try clear c34; try clear c35; try clear c35b0; try clear c35b1; try clear c36; try clear c36b0; try clear c36b1; try clear q38; try clear c39; try clear c40; try clear c40b0; try clear c40b1; try clear p40; try clear q40; try clear hx40; try clear c41; try clear c41b0; try clear c41b1; try clear p41; try clear q41; try clear hx41; try clear p42; try clear q42; try clear hx42; try clear c43; try clear p44; try clear q44; try clear hx44; try clear c46; try clear c46b0; try clear c46b1; try clear c48; try clear c49; try clear c51; try clear c51b0; try clear c52; try clear c52b0; try clear c53; try clear c53b0; try clear c54; try clear c54b0; try clear c54b1; try clear c55; try clear c57; try clear c57b0; try clear c57b1; try clear c60; try clear c61; try clear c61b0; try clear c63; try clear c63b0; try clear c64; try clear c64b0; try clear p64; try clear c65; try clear c65b0; try clear c65b1; try clear p66; try clear q66; try clear hx66; try clear hf66; try clear c71; try clear c71b0; try clear c71b1; try clear c72; try clear c75; try clear c78; try clear c80; try clear c80b0; try clear c81; try clear c81b0; try clear c86; try clear c86b0; try clear c86b1; try clear c87; try clear c90; try clear c94; try clear c94b0; try clear c95; try clear c95b0; try clear c96; try clear c96b0; try clear c96b1; try clear c97; try clear c101; try clear c105; try clear c108; try clear c108b0; try clear c108b1; try clear c111; try clear c113; try clear c113b0; try clear c114; try clear c115; try clear c115b0; try clear c115b1; try clear c119; try clear c119b0; try clear c119b1; try clear c120; try clear hx401_0; try clear hx402_0; try clear hx403_0; try clear hx405_0; try clear hx418_0; try clear hx428_0; try clear hx441_0; try clear hx66_0; try clear p2; try clear p4; try clear p40; try clear p401; try clear p402; try clear p403; try clear p405; try clear p41; try clear p418; try clear p42; try clear p428; try clear p44; try clear p441; try clear p6; try clear p64; try clear p66; try clear q3; try clear q31; try clear q38; try clear q4; try clear q40; try clear q401; try clear q402; try clear q403; try clear q405; try clear q41; try clear q418; try clear q42; try clear q428; try clear q44; try clear q441; try clear q6; try clear q66
                  obtain ⟨kq, x0_111, HA, HJ111, HO_0, HO_1, HK, HB⟩ := hcut
                  cases kq with
                  | zero => exact absurd HA.out (by simp [pretty_appendPrettyObject.j6])
                  | succ kj111 =>
                   have H := HA.out
                   clear HA
                   simp only [pretty_appendPrettyObject.j6] at H
                   rw [if_neg (show ¬ (false = true) from Z2)] at H
                   rw [if_neg (show ¬ (false = true) from Z2)] at H
                   have HC124 := Aside0.mk H
                   clear H
                   go_upto_if 199 with (first | ((with_reducible refine gate_dst (N := 36) rfl ?_); (try (refine gate_guard Z3 ?_; dsimp only)); refine box_event ?hg (N := 36) ?hd (cs := #[.int .i64 0, .int .i64 0, .int .i64 0, .int .i64 0]) (t := 72) ?hr ?_; (case hd => exact Z3); (case hg => exact Z3); (case hr => exact Z19); intro gb448 hg w125 hbox hb; have n0_ := Aside0.mk (Kd.R_below (pR HO_0.out) hb); have n1_ := Aside0.mk (Kd.V_below (Kd.V_elderB (pV HO_1.out) gb448 (Nat.le_of_eq hg.symm)) hb); have n2_ := Aside0.mk (Kept.below (S := (fun k_ => P0_ k_)) Z7 hb); have n3_ := Aside0.mk (below_step Z6 hb); have n4_ := Aside0.mk (hbox); have n5_ := Aside0.mk ((by rw [hg]; exact Z119 : w.heap.size ≤ gb448)); have n6_ := Aside0.mk ((Z121 : w0.heap.size ≤ gb448)); clear HO_0; clear HO_1; clear HK; clear HB; have HO_0 := n0_; have HO_1 := n1_; have HK := n2_; have HB := n3_; have BK448 := n4_; have GW448 := n5_; have GE448 := n6_; clear n0_ n1_ n2_ n3_ n4_ n5_ n6_; clear hb hbox hg))
                   (try simp only [Act.put, List.setIfInBounds_toArray, List.set_cons_zero, List.set_cons_succ])
                   go_cut [0, 11] (fun v0 v11 wc => ∃ (kq : Nat) (x0_123 : List Int) (x1_123 : List Int) (x11_123 : Int) (x449000_123 : Int) (x449002_123 : Int), v11 = .int .i64 x11_123 ∧ Aside0 (pretty_appendPrettyObject.j7 kq x0_123 x1_123 x2_3 a3 a4 a5 a6 a7 a8 false a10 x11_123 a12 x35_3 false = some (r1, r2, r3, r4)) ∧ Aside0 (kq ≤ kj111) ∧ Aside0 (Kd.R (Kd.int .u8) 5 wc w0.heap.size (fun k_ => (P0_ k_ ∨ w.heap.size ≤ k_)) v0 x0_123) ∧ Aside0 (Kd.V (Kd.int .u8) 5 wc w0.heap.size (fun k_ => ((P0_ k_ ∨ P1_ k_) ∨ w.heap.size ≤ k_) ∧ some k_ ≠ (v0 : Value).ownBlock ∧ k_ ≠ gb448) (.slice (some ad401) x1_3.length c1) x1_123) ∧ Aside0 (wc.heap[gb448]? = some (.cells #[.int .i64 x449000_123, .int .i64 0, .int .i64 x449002_123, .int .i64 0] 72 (0, 0))) ∧ Aside0 (Kept w wc (fun k_ => P0_ k_)) ∧ Aside0 (Below w0.heap.size w0 wc))
                   case first =>
                    as_aux_lemma =>
                    have H := HC124.out
                    clear HC124
                    by_cases c126 : a5 = true
                    ·
                     as_aux_lemma =>
                     subst c126
                     rw [if_pos rfl] at H
                     obtain ⟨ji127, hji127⟩ : ∃ j_ : Int, (wrap64 ((x0_111.length : Int) - 1)) = j_ := ⟨_, rfl⟩
                     replace H : (if 0 ≤ (ji127) then (if (ji127) < (x0_111.length : Int) then (if (rd x0_111 (ji127)) = 32 then ((some (x0_111.set ((ji127) : Int).toNat 10 : List Int)).bind fun y450 => (if a3 = 123 then ((pretty_appendTabs.f kj111 y450 a7 a8 (wrap64 (a10 + 1))).bind fun t451 => (pretty_appendPrettyObject.j7 kj111 t451 x1_3 x2_3 a3 a4 true a6 a7 a8 false a10 (x0_111.length : Int) a12 x35_3 false)) else ((pretty_appendTabs.f kj111 y450 a7 a8 (wrap64 (a10 + 1))).bind fun t454 => (pretty_appendPrettyObject.j7 kj111 t454 x1_3 x2_3 a3 a4 true a6 a7 a8 false a10 (x0_111.length : Int) a12 x35_3 false)))) else (if x0_111.length < 140737488355328 then ((some (x0_111 ++ [10] : List Int)).bind fun y457 => (if a3 = 123 then ((pretty_appendTabs.f kj111 y457 a7 a8 (wrap64 (a10 + 1))).bind fun t460 => (pretty_appendPrettyObject.j7 kj111 t460 x1_3 x2_3 a3 a4 true a6 a7 a8 false a10 (x0_111.length : Int) a12 x35_3 false)) else ((pretty_appendTabs.f kj111 y457 a7 a8 (wrap64 (a10 + 1))).bind fun t463 => (pretty_appendPrettyObject.j7 kj111 t463 x1_3 x2_3 a3 a4 true a6 a7 a8 false a10 (x0_111.length : Int) a12 x35_3 false)))) else (none))) else (none)) else (none)) = some (r1, r2, r3, r4) := by first | (rw [hji127] at H; exact H) | (simp only [hji127] at H ⊢; exact H)
                     have hji127w : (IntKind.i64.wrap ((x0_111.length : Int) - 1)) = ji127 := (i64_w _).trans hji127
                     by_cases c128 : 0 ≤ (ji127)
                     ·
                      as_aux_lemma =>
                      rw [if_pos c128] at H
                      have c128b0 := decide_eq_true c128
                      clear c128
                      (first | rw [c128b0] | (simp only [i64_w, i32_w]; rw [c128b0]) | skip)
                      by_cases c129 : (ji127) < (x0_111.length : Int)
                      ·
                       as_aux_lemma =>
                       rw [if_pos c129] at H
                       have c129b0 := decide_eq_true c129
                       clear c129
                       by_cases c130 : (rd x0_111 (ji127)) = 32
                       ·
                        as_aux_lemma =>
                        rw [if_pos c130] at H
                        have c130b0 := beq_iff_eq.mpr c130
                        have c130b1 := bne_eq_false_iff_eq.mpr c130
                        clear c130
                        obtain ⟨y450, hy450⟩ : ∃ y_ : List Int, y_ = (x0_111.set ((ji127) : Int).toNat 10) := ⟨_, rfl⟩
                        first | replace H := bind_y hy450 H | rw [← hy450] at H
                        have Ny450 := Aside0.mk hy450
                        clear hy450
                        by_cases c132 : a3 = 123
                        ·
                         rw [if_pos c132] at H
                         have c132b0 := beq_iff_eq.mpr c132
                         have c132b1 := bne_eq_false_iff_eq.mpr c132
                         clear c132
                         replace H := Option.bind_eq_some_iff.mp H
                         obtain ⟨t451, A1330, H⟩ := H
                         have A133 := Aside0.mk A1330
                         clear A1330
                         have H' := Aside0.mk H
                         clear H
                         obtain ⟨Ao134, co134, eo134⟩ := Kd.R_slice HO_0.out
                         subst eo134
                         have p449 : 0 ≤ ((ji127) : Int) := of_decide_eq_true Z0
                         have q449 : (ji127) < (x0_111.length : Int) := of_decide_eq_true Z0
                         obtain ⟨ad449, e449, hx449_0⟩ := Kd.at_int (Kd.R_reads' HO_0.out).2.2 (ji127) p449 q449
                         cases e449
                         replace p449 := eq_true p449
                         replace q449 := eq_true q449
                         have p131 : 0 ≤ ((ji127) : Int) := of_decide_eq_true Z0
                         have q131 : ((ji127) : Int) < ((x0_111.length : Int) : Int) := of_decide_eq_true Z0
                         obtain ⟨go131, co131, eo131, gb131, gl131, cl131, HG131⟩ := Kd.R_form HO_0.out Z5
                         (first | cases eo131 | (injection eo131 with ea_ en_ ec_; (first | subst ea_ | (injection ea_ with ea_; subst ea_)); subst ec_; clear en_))
                         have GB131 := Aside0.mk gb131
                         have GG131 := Aside0.mk HG131
                         clear gb131 gl131 HG131
                         have HMgo131 := Aside0.mk (show (P0_ go131 ∨ w.heap.size ≤ go131) from (HO_0.out.1 _ rfl))
                         (first | simp only [add_plain] at hx449_0 | skip)
                         obtain ⟨hx131_0, hf131_0⟩ := Kd.R_celln 0 HO_0.out ((ji127) : Int) p131 q131
                         replace p131 := eq_true p131
                         replace q131 := eq_true q131
                         have HP135 := Kd.R_putg HO_0.out ((ji127) : Int) 10
                         go_wp2_with (first | ((with_reducible refine gate_store (t := 5) (p := 211) rfl ?_); refine store_event (t := 5) (p := 211) (v := ?vo_w136) (w1 := (w125.setCell ⟨go131, ((ji127) : Int).toNat, none⟩ (.int .u8 10))) ?hg ?ho ?hn ?hr ?_; (case ho => rfl); (case hg => exact Z3); (case hn => rfl); (case hr => exact Z19); intro w136 hw; have hg : w125.grownBy w136 (some go131) := (by rw [hw]; exact HP135.2); have hp_ : Kd.R (Kd.int .u8) 5 w136 w0.heap.size (fun k_ => (P0_ k_ ∨ w.heap.size ≤ k_)) (.slice (some ⟨go131, 0, none⟩) x0_111.length co134) y450 := (by rw [hw, Ny450.out]; exact HP135.1); clear HP135; have n0_ := Aside0.mk (hp_); have n1_ := Aside0.mk (Kd.V_afterv (v := (.slice (some ⟨go131, 0, none⟩) x0_111.length co134)) (v1 := (.slice (some ⟨go131, 0, none⟩) x0_111.length co134)) (ok := (fun k_ => ((P0_ k_ ∨ P1_ k_) ∨ w.heap.size ≤ k_) ∧ k_ ≠ gb448)) Z49 hg (.inl rfl)); have n2_ := Aside0.mk (blk_grown (g := gb448) (o := .cells #[.int .i64 0, .int .i64 0, .int .i64 0, .int .i64 0] 72 (0, 0)) (pB BK448.out) hg (Kd.R_ne HO_0.out BK448.out Z2)); have n3_ := Aside0.mk ((by rw [hw]; exact below_set (HB.out) GB131.out : Below w0.heap.size w0 w136)); have n4_ := Aside0.mk (Kept.of_grown (S := (fun k_ => P0_ k_)) hg Z16 (fun k_ e_ => (HO_0.out.1 k_ e_))); clear HO_0; clear HO_1; clear BK448; clear HB; clear HK; have HO_0 := n0_; have HO_1 := n1_; have BK448 := n2_; have HB := n3_; have HK := n4_; clear n0_ n1_ n2_ n3_ n4_; clear hg hw hp_) | ((with_reducible refine gate_callee (f := 39) rfl ?_); refine goesL_ (some 230) rfl rfl Try.func39 Z1 rfl #[.slice (some ⟨go131, 0, none⟩) x0_111.length co134, .string a7, .string a8, .int .i64 (wrap64 (a10 + 1))] rfl Z13 ?_; (with_reducible refine (pretty_appendTabs.calls kj111 (fun k_ => some k_ = (.slice (some ⟨go131, 0, none⟩) x0_111.length co134 : Value).ownBlock) (.slice (some ⟨go131, 0, none⟩) x0_111.length co134) y450 a7 a8 (wrap64 (a10 + 1)) t451 w0 _ ?side1 ?side2 A133.out).mono ?_); (case side1 => exact Z21); (case side2 => exact Z36); rintro e w137 ⟨v452, rfl, ho0, hb, hkp⟩; refine ⟨_, rfl, ?_⟩; have n0_ := Aside0.mk (Kd.V_mono (ok' := fun k_ => ((P0_ k_ ∨ P1_ k_) ∨ w.heap.size ≤ k_) ∧ k_ ≠ gb448 ∧ some k_ ≠ (v452 : Value).ownBlock) (Kd.V_keptB (HO_1.out) hkp (fun k_ hk_ hs_ => (hk_.2) hs_)) (fun k_ hk_ => ⟨hk_.1.1.1, hk_.1.1.2, fun e_ => Or.elim (ho0.1 k_ e_.symm) (fun hs_ => hk_.2.1 hs_) (fun hn_ => Nat.not_le.2 hk_.2.2 hn_)⟩)); have n1_ := Aside0.mk (blk_kept (pB BK448.out) hkp (fun hs_ => (fun e_ => (Kd.R_ne HO_0.out BK448.out Z2) e_) hs_)); have n2_ := Aside0.mk (Kd.R_mono (ok' := fun k_ => (P0_ k_ ∨ w.heap.size ≤ k_)) ho0 (fun k_ hk_ => Or.elim hk_ (fun hs_ => (HO_0.out.1 k_ (hs_).symm)) (fun hn_ => (.inr (Nat.le_trans Z132 hn_))))); have n3_ := Aside0.mk (Kept.then_ (S := (fun k_ => P0_ k_)) Z16 hkp (fun k_ hs_ => (fun e_ => (HO_0.out.1 k_ e_.symm)) hs_)); have n4_ := Aside0.mk (hb); clear HO_1; clear BK448; clear HK; clear HB; clear HO_0; have HO_1 := n0_; have BK448 := n1_; have HO453 := n2_; have HK := n3_; have HB := n4_; clear n0_ n1_ n2_ n3_ n4_; (try clear hb); (try clear hkp); (try clear ho0)))
                         go_meet
                         case rel => exact ⟨_, (t451), (x1_3), ((x0_111.length : Int)), (0), (0), Z8, H', ⟨Z61⟩, ⟨by (try simp only [hl1_3]); (with_reducible repeat (first | apply Kd.R_alloc | apply Kd.R_drewN | apply Kd.R_drew)); first | exact HO453.out | exact own_to HO453.out⟩, ⟨Z71⟩, ⟨Z62⟩, ⟨Z16⟩, ⟨Z21⟩⟩
                        ·
                         rw [if_neg c132] at H
                         have c132b0 := beq_eq_false_iff_ne.mpr c132
                         have c132b1 := bne_iff_ne.mpr c132
                         replace H := Option.bind_eq_some_iff.mp H
                         obtain ⟨t454, A1380, H⟩ := H
                         have A138 := Aside0.mk A1380
                         clear A1380
                         have H' := Aside0.mk H
                         clear H
                         obtain ⟨Ao139, co139, eo139⟩ := Kd.R_slice HO_0.out
                         subst eo139
                         have p449 : 0 ≤ ((ji127) : Int) := of_decide_eq_true Z0
                         have q449 : (ji127) < (x0_111.length : Int) := of_decide_eq_true Z0
                         obtain ⟨ad449, e449, hx449_0⟩ := Kd.at_int (Kd.R_reads' HO_0.out).2.2 (ji127) p449 q449
                         cases e449
                         replace p449 := eq_true p449
                         replace q449 := eq_true q449
                         have p131 : 0 ≤ ((ji127) : Int) := of_decide_eq_true Z0
                         have q131 : ((ji127) : Int) < ((x0_111.length : Int) : Int) := of_decide_eq_true Z0
                         obtain ⟨go131, co131, eo131, gb131, gl131, cl131, HG131⟩ := Kd.R_form HO_0.out Z5
                         (first | cases eo131 | (injection eo131 with ea_ en_ ec_; (first | subst ea_ | (injection ea_ with ea_; subst ea_)); subst ec_; clear en_))
                         have GB131 := Aside0.mk gb131
                         have GG131 := Aside0.mk HG131
                         clear gb131 gl131 HG131
                         have HMgo131 := Aside0.mk (show (P0_ go131 ∨ w.heap.size ≤ go131) from (HO_0.out.1 _ rfl))
                         (first | simp only [add_plain] at hx449_0 | skip)
                         obtain ⟨hx131_0, hf131_0⟩ := Kd.R_celln 0 HO_0.out ((ji127) : Int) p131 q131
                         replace p131 := eq_true p131
                         replace q131 := eq_true q131
                         have HP140 := Kd.R_putg HO_0.out ((ji127) : Int) 10
                         go_wp2_with (first | ((with_reducible refine gate_store (t := 5) (p := 211) rfl ?_); refine store_event (t := 5) (p := 211) (v := ?vo_w141) (w1 := (w125.setCell ⟨go131, ((ji127) : Int).toNat, none⟩ (.int .u8 10))) ?hg ?ho ?hn ?hr ?_; (case ho => rfl); (case hg => exact Z3); (case hn => rfl); (case hr => exact Z19); intro w141 hw; have hg : w125.grownBy w141 (some go131) := (by rw [hw]; exact HP140.2); have hp_ : Kd.R (Kd.int .u8) 5 w141 w0.heap.size (fun k_ => (P0_ k_ ∨ w.heap.size ≤ k_)) (.slice (some ⟨go131, 0, none⟩) x0_111.length co139) y450 := (by rw [hw, Ny450.out]; exact HP140.1); clear HP140; have n0_ := Aside0.mk (hp_); have n1_ := Aside0.mk (Kd.V_afterv (v := (.slice (some ⟨go131, 0, none⟩) x0_111.length co139)) (v1 := (.slice (some ⟨go131, 0, none⟩) x0_111.length co139)) (ok := (fun k_ => ((P0_ k_ ∨ P1_ k_) ∨ w.heap.size ≤ k_) ∧ k_ ≠ gb448)) Z49 hg (.inl rfl)); have n2_ := Aside0.mk (blk_grown (g := gb448) (o := .cells #[.int .i64 0, .int .i64 0, .int .i64 0, .int .i64 0] 72 (0, 0)) (pB BK448.out) hg (Kd.R_ne HO_0.out BK448.out Z2)); have n3_ := Aside0.mk ((by rw [hw]; exact below_set (HB.out) GB131.out : Below w0.heap.size w0 w141)); have n4_ := Aside0.mk (Kept.of_grown (S := (fun k_ => P0_ k_)) hg Z16 (fun k_ e_ => (HO_0.out.1 k_ e_))); clear HO_0; clear HO_1; clear BK448; clear HB; clear HK; have HO_0 := n0_; have HO_1 := n1_; have BK448 := n2_; have HB := n3_; have HK := n4_; clear n0_ n1_ n2_ n3_ n4_; clear hg hw hp_) | ((with_reducible refine gate_callee (f := 39) rfl ?_); refine goesL_ (some 230) rfl rfl Try.func39 Z1 rfl #[.slice (some ⟨go131, 0, none⟩) x0_111.length co139, .string a7, .string a8, .int .i64 (wrap64 (a10 + 1))] rfl Z13 ?_; (with_reducible refine (pretty_appendTabs.calls kj111 (fun k_ => some k_ = (.slice (some ⟨go131, 0, none⟩) x0_111.length co139 : Value).ownBlock) (.slice (some ⟨go131, 0, none⟩) x0_111.length co139) y450 a7 a8 (wrap64 (a10 + 1)) t454 w0 _ ?side1 ?side2 A138.out).mono ?_); (case side1 => exact Z21); (case side2 => exact Z36); rintro e w142 ⟨v455, rfl, ho0, hb, hkp⟩; refine ⟨_, rfl, ?_⟩; have n0_ := Aside0.mk (Kd.V_mono (ok' := fun k_ => ((P0_ k_ ∨ P1_ k_) ∨ w.heap.size ≤ k_) ∧ k_ ≠ gb448 ∧ some k_ ≠ (v455 : Value).ownBlock) (Kd.V_keptB (HO_1.out) hkp (fun k_ hk_ hs_ => (hk_.2) hs_)) (fun k_ hk_ => ⟨hk_.1.1.1, hk_.1.1.2, fun e_ => Or.elim (ho0.1 k_ e_.symm) (fun hs_ => hk_.2.1 hs_) (fun hn_ => Nat.not_le.2 hk_.2.2 hn_)⟩)); have n1_ := Aside0.mk (blk_kept (pB BK448.out) hkp (fun hs_ => (fun e_ => (Kd.R_ne HO_0.out BK448.out Z2) e_) hs_)); have n2_ := Aside0.mk (Kd.R_mono (ok' := fun k_ => (P0_ k_ ∨ w.heap.size ≤ k_)) ho0 (fun k_ hk_ => Or.elim hk_ (fun hs_ => (HO_0.out.1 k_ (hs_).symm)) (fun hn_ => (.inr (Nat.le_trans Z132 hn_))))); have n3_ := Aside0.mk (Kept.then_ (S := (fun k_ => P0_ k_)) Z16 hkp (fun k_ hs_ => (fun e_ => (HO_0.out.1 k_ e_.symm)) hs_)); have n4_ := Aside0.mk (hb); clear HO_1; clear BK448; clear HK; clear HB; clear HO_0; have HO_1 := n0_; have BK448 := n1_; have HO456 := n2_; have HK := n3_; have HB := n4_; clear n0_ n1_ n2_ n3_ n4_; (try clear hb); (try clear hkp); (try clear ho0)))
                         go_meet
                         case rel => exact ⟨_, (t454), (x1_3), ((x0_111.length : Int)), (0), (0), Z8, H', ⟨Z61⟩, ⟨by (try simp only [hl1_3]); (with_reducible repeat (first | apply Kd.R_alloc | apply Kd.R_drewN | apply Kd.R_drew)); first | exact HO456.out | exact own_to HO456.out⟩, ⟨Z71⟩, ⟨Z62⟩, ⟨Z16⟩, ⟨Z21⟩⟩
                       ·
                        as_aux_lemma =>
                        rw [if_neg c130] at H
                        have c130b0 := beq_eq_false_iff_ne.mpr c130
                        have c130b1 := bne_iff_ne.mpr c130
                        by_cases c143 : x0_111.length < 140737488355328
                        ·
                         as_aux_lemma =>
                         rw [if_pos c143] at H
                         have LMc143 := Aside0.mk c143
                         clear c143
                         obtain ⟨y457, hy457⟩ : ∃ y_ : List Int, y_ = (x0_111 ++ [10]) := ⟨_, rfl⟩
                         first | replace H := bind_y hy457 H | rw [← hy457] at H
                         have Ny457 := Aside0.mk hy457
                         clear hy457
                         by_cases c144 : a3 = 123
                         ·
                          rw [if_pos c144] at H
                          have c144b0 := beq_iff_eq.mpr c144
                          have c144b1 := bne_eq_false_iff_eq.mpr c144
                          clear c144
                          replace H := Option.bind_eq_some_iff.mp H
                          obtain ⟨t460, A1450, H⟩ := H
                          have A145 := Aside0.mk A1450
                          clear A1450
                          have H' := Aside0.mk H
                          clear H
                          obtain ⟨Ao146, co146, eo146⟩ := Kd.R_slice HO_0.out
                          subst eo146
                          have p449 : 0 ≤ ((ji127) : Int) := of_decide_eq_true Z0
                          have q449 : (ji127) < (x0_111.length : Int) := of_decide_eq_true Z0
                          obtain ⟨ad449, e449, hx449_0⟩ := Kd.at_int (Kd.R_reads' HO_0.out).2.2 (ji127) p449 q449
                          cases e449
                          replace p449 := eq_true p449
                          replace q449 := eq_true q449
                          go_wp2_with (first | ((with_reducible refine gate_builtin (b := .append) (xs := #[.tmp 212, .tmp 213]) rfl ?_); (try (refine gate_guard Z3 ?_; dsimp only)); at_builtin; refine Kd.R_append (Kd.int .u8) (w0 := w0) w0.heap.size rfl (.tmp 212) (.tmp 213) 40 5 (.int .u8 0) 1 rfl Try.underlying40 info5 rfl Z2 Z5 (.slice (some ad449) x0_111.length co146) x0_111 10 [.int .u8 10] (fun k_ => (P0_ k_ ∨ w.heap.size ≤ k_)) (fun _ => False) rfl rfl ?aP (fun _ hk => hk.elim) ?aF ?aO ?aB ?aS ?aL ?_; (case aP => exact rfl); (case aB => exact Z21); (case aF => exact (fun k_ hk => (.inr (Nat.le_trans Z132 hk)))); (case aO => exact (pR HO_0.out)); (case aS => exact (below_size Z21)); (case aL => have := LMc143.out; omega); intro v458 w147 ho hb hg hat; rw [← Ny457.out] at ho; have n0_ := Aside0.mk (Kd.V_afterv (ok := (fun k_ => ((P0_ k_ ∨ P1_ k_) ∨ w.heap.size ≤ k_) ∧ k_ ≠ gb448)) Z49 hg hat); have n1_ := Aside0.mk (blk_grown (g := gb448) (o := .cells #[.int .i64 0, .int .i64 0, .int .i64 0, .int .i64 0] 72 (0, 0)) (pB BK448.out) hg (Kd.R_ne HO_0.out BK448.out Z2)); have n2_ := Aside0.mk (hb); have n3_ := Aside0.mk (Kept.of_grown (S := (fun k_ => P0_ k_)) hg Z16 (fun k_ e_ => (HO_0.out.1 k_ e_))); have n4_ := Aside0.mk (ho); clear HO_1; clear BK448; clear HB; clear HK; clear HO_0; have HO_1 := n0_; have BK448 := n1_; have HB := n2_; have HK := n3_; have HO459 := n4_; clear n0_ n1_ n2_ n3_ n4_; clear ho hb hg hat; obtain ⟨Ao148, co148, eo148⟩ := Kd.R_slice HO459.out; subst eo148) | ((with_reducible refine gate_callee (f := 39) rfl ?_); refine goesL_ (some 230) rfl rfl Try.func39 Z1 rfl #[.slice Ao148 y457.length co148, .string a7, .string a8, .int .i64 (wrap64 (a10 + 1))] rfl Z13 ?_; (with_reducible refine (pretty_appendTabs.calls kj111 (fun k_ => some k_ = (.slice Ao148 y457.length co148 : Value).ownBlock) (.slice Ao148 y457.length co148) y457 a7 a8 (wrap64 (a10 + 1)) t460 w0 _ ?side1 ?side2 A145.out).mono ?_); (case side1 => exact Z21); (case side2 => exact Kd.R_tight rfl HO459.out); rintro e w149 ⟨v461, rfl, ho0, hb, hkp⟩; refine ⟨_, rfl, ?_⟩; have n0_ := Aside0.mk (Kd.V_mono (ok' := fun k_ => ((P0_ k_ ∨ P1_ k_) ∨ w.heap.size ≤ k_) ∧ k_ ≠ gb448 ∧ some k_ ≠ (v461 : Value).ownBlock) (Kd.V_keptB (HO_1.out) hkp (fun k_ hk_ hs_ => (hk_.2) hs_)) (fun k_ hk_ => ⟨hk_.1.1.1, hk_.1.1.2, fun e_ => Or.elim (ho0.1 k_ e_.symm) (fun hs_ => hk_.2.1 hs_) (fun hn_ => Nat.not_le.2 hk_.2.2 hn_)⟩)); have n1_ := Aside0.mk (blk_kept (pB BK448.out) hkp (fun hs_ => (fun e_ => (Kd.R_ne HO459.out BK448.out Z2) e_) hs_)); have n2_ := Aside0.mk (Kd.R_mono (ok' := fun k_ => (P0_ k_ ∨ w.heap.size ≤ k_)) ho0 (fun k_ hk_ => Or.elim hk_ (fun hs_ => (HO459.out.1 k_ (hs_).symm)) (fun hn_ => (.inr (Nat.le_trans Z132 hn_))))); have n3_ := Aside0.mk (Kept.then_ (S := (fun k_ => P0_ k_)) Z16 hkp (fun k_ hs_ => (fun e_ => (HO459.out.1 k_ e_.symm)) hs_)); have n4_ := Aside0.mk (hb); clear HO_1; clear BK448; clear HK; clear HB; clear HO459; have HO_1 := n0_; have BK448 := n1_; have HO462 := n2_; have HK := n3_; have HB := n4_; clear n0_ n1_ n2_ n3_ n4_; (try clear hb); (try clear hkp); (try clear ho0)))
                          go_meet
                          case rel => exact ⟨_, (t460), (x1_3), ((x0_111.length : Int)), (0), (0), Z8, H', ⟨Z61⟩, ⟨by (try simp only [hl1_3]); (with_reducible repeat (first | apply Kd.R_alloc | apply Kd.R_drewN | apply Kd.R_drew)); first | exact HO462.out | exact own_to HO462.out⟩, ⟨Z71⟩, ⟨Z62⟩, ⟨Z16⟩, ⟨Z21⟩⟩
                         ·
                          rw [if_neg c144] at H
                          have c144b0 := beq_eq_false_iff_ne.mpr c144
                          have c144b1 := bne_iff_ne.mpr c144
                          replace H := Option.bind_eq_some_iff.mp H
                          obtain ⟨t463, A1500, H⟩ := H
                          have A150 := Aside0.mk A1500
                          clear A1500
                          have H' := Aside0.mk H
                          clear H
                          obtain ⟨Ao151, co151, eo151⟩ := Kd.R_slice HO_0.out
                          subst eo151
                          have p449 : 0 ≤ ((ji127) : Int) := of_decide_eq_true Z0
                          have q449 : (ji127) < (x0_111.length : Int) := of_decide_eq_true Z0
                          obtain ⟨ad449, e449, hx449_0⟩ := Kd.at_int (Kd.R_reads' HO_0.out).2.2 (ji127) p449 q449
                          cases e449
                          replace p449 := eq_true p449
                          replace q449 := eq_true q449
                          go_wp2_with (first | ((with_reducible refine gate_builtin (b := .append) (xs := #[.tmp 212, .tmp 213]) rfl ?_); (try (refine gate_guard Z3 ?_; dsimp only)); at_builtin; refine Kd.R_append (Kd.int .u8) (w0 := w0) w0.heap.size rfl (.tmp 212) (.tmp 213) 40 5 (.int .u8 0) 1 rfl Try.underlying40 info5 rfl Z2 Z5 (.slice (some ad449) x0_111.length co151) x0_111 10 [.int .u8 10] (fun k_ => (P0_ k_ ∨ w.heap.size ≤ k_)) (fun _ => False) rfl rfl ?aP (fun _ hk => hk.elim) ?aF ?aO ?aB ?aS ?aL ?_; (case aP => exact rfl); (case aB => exact Z21); (case aF => exact (fun k_ hk => (.inr (Nat.le_trans Z132 hk)))); (case aO => exact (pR HO_0.out)); (case aS => exact (below_size Z21)); (case aL => have := LMc143.out; omega); intro v458 w152 ho hb hg hat; rw [← Ny457.out] at ho; have n0_ := Aside0.mk (Kd.V_afterv (ok := (fun k_ => ((P0_ k_ ∨ P1_ k_) ∨ w.heap.size ≤ k_) ∧ k_ ≠ gb448)) Z49 hg hat); have n1_ := Aside0.mk (blk_grown (g := gb448) (o := .cells #[.int .i64 0, .int .i64 0, .int .i64 0, .int .i64 0] 72 (0, 0)) (pB BK448.out) hg (Kd.R_ne HO_0.out BK448.out Z2)); have n2_ := Aside0.mk (hb); have n3_ := Aside0.mk (Kept.of_grown (S := (fun k_ => P0_ k_)) hg Z16 (fun k_ e_ => (HO_0.out.1 k_ e_))); have n4_ := Aside0.mk (ho); clear HO_1; clear BK448; clear HB; clear HK; clear HO_0; have HO_1 := n0_; have BK448 := n1_; have HB := n2_; have HK := n3_; have HO459 := n4_; clear n0_ n1_ n2_ n3_ n4_; clear ho hb hg hat; obtain ⟨Ao153, co153, eo153⟩ := Kd.R_slice HO459.out; subst eo153) | ((with_reducible refine gate_callee (f := 39) rfl ?_); refine goesL_ (some 230) rfl rfl Try.func39 Z1 rfl #[.slice Ao153 y457.length co153, .string a7, .string a8, .int .i64 (wrap64 (a10 + 1))] rfl Z13 ?_; (with_reducible refine (pretty_appendTabs.calls kj111 (fun k_ => some k_ = (.slice Ao153 y457.length co153 : Value).ownBlock) (.slice Ao153 y457.length co153) y457 a7 a8 (wrap64 (a10 + 1)) t463 w0 _ ?side1 ?side2 A150.out).mono ?_); (case side1 => exact Z21); (case side2 => exact Kd.R_tight rfl HO459.out); rintro e w154 ⟨v464, rfl, ho0, hb, hkp⟩; refine ⟨_, rfl, ?_⟩; have n0_ := Aside0.mk (Kd.V_mono (ok' := fun k_ => ((P0_ k_ ∨ P1_ k_) ∨ w.heap.size ≤ k_) ∧ k_ ≠ gb448 ∧ some k_ ≠ (v464 : Value).ownBlock) (Kd.V_keptB (HO_1.out) hkp (fun k_ hk_ hs_ => (hk_.2) hs_)) (fun k_ hk_ => ⟨hk_.1.1.1, hk_.1.1.2, fun e_ => Or.elim (ho0.1 k_ e_.symm) (fun hs_ => hk_.2.1 hs_) (fun hn_ => Nat.not_le.2 hk_.2.2 hn_)⟩)); have n1_ := Aside0.mk (blk_kept (pB BK448.out) hkp (fun hs_ => (fun e_ => (Kd.R_ne HO459.out BK448.out Z2) e_) hs_)); have n2_ := Aside0.mk (Kd.R_mono (ok' := fun k_ => (P0_ k_ ∨ w.heap.size ≤ k_)) ho0 (fun k_ hk_ => Or.elim hk_ (fun hs_ => (HO459.out.1 k_ (hs_).symm)) (fun hn_ => (.inr (Nat.le_trans Z132 hn_))))); have n3_ := Aside0.mk (Kept.then_ (S := (fun k_ => P0_ k_)) Z16 hkp (fun k_ hs_ => (fun e_ => (HO459.out.1 k_ e_.symm)) hs_)); have n4_ := Aside0.mk (hb); clear HO_1; clear BK448; clear HK; clear HB; clear HO459; have HO_1 := n0_; have BK448 := n1_; have HO465 := n2_; have HK := n3_; have HB := n4_; clear n0_ n1_ n2_ n3_ n4_; (try clear hb); (try clear hkp); (try clear ho0)))
                          go_meet
                          case rel => exact ⟨_, (t463), (x1_3), ((x0_111.length : Int)), (0), (0), Z8, H', ⟨Z61⟩, ⟨by (try simp only [hl1_3]); (with_reducible repeat (first | apply Kd.R_alloc | apply Kd.R_drewN | apply Kd.R_drew)); first | exact HO465.out | exact own_to HO465.out⟩, ⟨Z71⟩, ⟨Z62⟩, ⟨Z16⟩, ⟨Z21⟩⟩
                        ·
                         rw [if_neg c143] at H
                         exact absurd H Z4
                      ·
                       rw [if_neg c129] at H
                       exact absurd H Z4
                     ·
                      rw [if_neg c128] at H
                      exact absurd H Z4
                    ·
                     replace c126 := Bool.eq_false_iff.mpr c126
                     subst c126
                     rw [if_neg (show ¬ (false = true) from Z2)] at H
                     have H' := Aside0.mk H
                     clear H
                     go_wp2
                     go_meet
                     case rel => exact ⟨_, (x0_111), (x1_3), (x11_3), (0), (0), Z8, H', ⟨Z61⟩, ⟨Z42⟩, ⟨by (try simp only [hl1_3]); (with_reducible repeat (first | apply Kd.V_alloc | apply Kd.V_drewN | apply Kd.V_drew)); exact Kd.V_mono HO_1.out (fun _ hk => ⟨hk.1.1, ⟨hk.1.2, hk.2⟩⟩)⟩, ⟨Z62⟩, ⟨Z16⟩, ⟨Z21⟩⟩
                   case rest =>
                    as_aux_lemma =>
                    clear HC124; try clear c1; try clear p1; try clear q1; try clear hx1; try clear c2; try clear p2; try clear c3; try clear q3; try clear c4; try clear p4; try clear q4; try clear hx4; try clear c5; try clear c6; try clear p6; try clear q6; try clear hx6; try clear c7; try clear c8; try clear c9; try clear c10; try clear c11; try clear c12; try clear c13; try clear p13; try clear q13; try clear hx13; try clear hf13; try clear c14; try clear c15; try clear c15b0; try clear c17; try clear c18; try clear c18b0; try clear c18b1; try clear c20; try clear c21; try clear c21b0; try clear c23; try clear c28; try clear c28b0; try clear c29; try clear c29b0; try clear c29b1; try clear c30; try clear c30b0; try clear c30b1; try clear q31; try clear c34; try clear c35; try clear c35b0; try clear c35b1; try clear c36; try clear c36b0; try clear c36b1; try clear q38; try clear c39; try clear c40; try clear c40b0; try clear c40b1; try clear p40; try clear q40; try clear hx40; try clear c41; try clear c41b0; try clear c41b1; try clear p41; try clear q41; try clear hx41; try clear p42; try clear q42; try clear hx42; try clear c43; try clear p44; try clear q44; try clear hx44; try clear c46; try clear c46b0; try clear c46b1; try clear c48; try clear c49; try clear c51; try clear c51b0; try clear c52; try clear c52b0; try clear c53; try clear c53b0; try clear c54; try clear c54b0; try clear c54b1; try clear c55; try clear c57; try clear c57b0; try clear c57b1; try clear c60; try clear c61; try clear c61b0; try clear c63; try clear c63b0; try clear c64; try clear c64b0; try clear p64; try clear c65; try clear c65b0; try clear c65b1; try clear p66; try clear q66; try clear hx66; try clear hf66; try clear c71; try clear c71b0; try clear c71b1; try clear c72; try clear c75; try clear c78; try clear c80; try clear c80b0; try clear c81; try clear c81b0; try clear c86; try clear c86b0; try clear c86b1; try clear c87; try clear c90; try clear c94; try clear c94b0; try clear c95; try clear c95b0; try clear c96; try clear c96b0; try clear c96b1; try clear c97; try clear c101; try clear c105; try clear c108; try clear c108b0; try clear c108b1; try clear c111; try clear c113; try clear c113b0; try clear c114; try clear c115; try clear c115b0; try clear c115b1; try clear c119; try clear c119b0; try clear c119b1; try clear c120; try clear c126; try clear c128; try clear c128b0; try clear c129; try clear c129b0; try clear c130; try clear c130b0; try clear c130b1; try clear p131; try clear q131; try clear hx131; try clear hf131; try clear c132; try clear c132b0; try clear c132b1; try clear c143; try clear c144; try clear c144b0; try clear c144b1; try clear hx131_0; try clear hx401_0; try clear hx402_0; try clear hx403_0; try clear hx405_0; try clear hx418_0; try clear hx428_0; try clear hx441_0; try clear hx449_0; try clear hx66_0; try clear p131; try clear p2; try clear p4; try clear p40; try clear p401; try clear p402; try clear p403; try clear p405; try clear p41; try clear p418; try clear p42; try clear p428; try clear p44; try clear p441; try clear p449; try clear p6; try clear p64; try clear p66; try clear q131; try clear q3; try clear q31; try clear q38; try clear q4; try clear q40; try clear q401; try clear q402; try clear q403; try clear q405; try clear q41; try clear q418; try clear q42; try clear q428; try clear q44; try clear q441; try clear q449; try clear q6; try clear q66
                    obtain ⟨kq, x0_123, x1_123, x11_123, x449000_123, x449002_123, rfl, HA, HJ123, HO_0, HO_1, BK448, HK, HB⟩ := hcut
                    have hl1_123 := (Kd.V_reads' HO_1.out).1
                    rw [hl1_123] at HO_1
                    (try simp only [hl1_123])
                    (try simp only [hl1_123] at BK448)
                    (try simp only [hl1_123] at HO_0)
                    cases kq with
                    | zero => exact absurd HA.out (by simp [pretty_appendPrettyObject.j7])
                    | succ kj123 =>
                     have H := HA.out
                     clear HA
                     simp only [pretty_appendPrettyObject.j7] at H
                     rw [if_neg (show ¬ (false = true) from Z2)] at H
                     rw [if_neg (show ¬ (false = true) from Z2)] at H
                     have HC157 := Aside0.mk H
                     clear H
                     go_upto_if 232 with (fail)
                     go_cut [0, 2, 11] (fun v0 v2 v11 wc => ∃ (kq : Nat) (x0_156 : List Int) (x2_156 : Int) (x11_156 : Int) (x449001_156 : Int), v2 = .int .i64 x2_156 ∧ v11 = .int .i64 x11_156 ∧ Aside0 (pretty_appendPrettyObject.j8 kq x0_156 x1_123 x2_156 a3 a4 a5 a6 a7 a8 false a10 x11_156 a12 x35_3 false = some (r1, r2, r3, r4)) ∧ Aside0 (kq ≤ kj123) ∧ Aside0 (Kd.R (Kd.int .u8) 5 wc w0.heap.size (fun k_ => (P0_ k_ ∨ w.heap.size ≤ k_)) v0 x0_156) ∧ Aside0 (Kd.V (Kd.int .u8) 5 wc w0.heap.size (fun k_ => ((P0_ k_ ∨ P1_ k_) ∨ w.heap.size ≤ k_) ∧ some k_ ≠ (v0 : Value).ownBlock ∧ k_ ≠ gb448) (.slice (some ad401) x1_123.length c1) x1_123) ∧ Aside0 (wc.heap[gb448]? = some (.cells #[.int .i64 x449000_123, .int .i64 x449001_156, .int .i64 x449002_123, .int .i64 0] 72 (0, 0))) ∧ Aside0 (Kept w wc (fun k_ => P0_ k_)) ∧ Aside0 (Below w0.heap.size w0 wc))
                     case first =>
                      as_aux_lemma =>
                      have H := HC157.out
                      clear HC157
                      by_cases c158 : a3 = 123
                      ·
                       as_aux_lemma =>
                       rw [if_pos c158] at H
                       have c158b0 := beq_iff_eq.mpr c158
                       have c158b1 := bne_eq_false_iff_eq.mpr c158
                       clear c158
                       (first | rw [c158b0] | (simp only [i64_w, i32_w]; rw [c158b0]) | skip)
                       replace H := Option.bind_eq_some_iff.mp H
                       obtain ⟨⟨t466, t469, t470, t471⟩, A1590, H⟩ := H
                       dsimp only at H
                       have A159 := Aside0.mk A1590
                       clear A1590
                       have HC160 := Aside0.mk H
                       clear H
                       obtain ⟨Ao161, co161, eo161⟩ := Kd.R_slice HO_0.out
                       subst eo161
                       go_upto_if 243 with (first | ((with_reducible refine gate_callee (f := 31) rfl ?_); refine goesL_ (some 238) rfl rfl Try.func31 Z1 rfl #[.slice Ao161 x0_123.length co161, .slice (some ad401) x1_123.length c1, .int .i64 x2_3, .int .i64 x11_123] rfl Z13 ?_; (with_reducible refine (pretty_appendPrettyString.calls kj123 (fun k_ => some k_ = (.slice Ao161 x0_123.length co161 : Value).ownBlock) (.slice Ao161 x0_123.length co161) x0_123 _ _ x1_123 x2_3 x11_123 t466 t469 t470 t471 w0 _ ?side1 ?side2 ?side3 ?side4 A159.out).mono ?_); (case side1 => exact Z21); (case side2 => exact Z36); (case side3 => exact Kd.C_kept_ownV (HO_1.out) (fun k_ hk_ hs_ => (hk_.2.1) hs_)); (case side4 => exact (Kd.V_reads' HO_1.out).2.1); rintro e w162 ⟨v467, rfl, ho0, hb, hkp⟩; refine ⟨_, rfl, ?_⟩; have n0_ := Aside0.mk (Kd.V_mono (ok' := fun k_ => ((P0_ k_ ∨ P1_ k_) ∨ w.heap.size ≤ k_) ∧ k_ ≠ gb448 ∧ some k_ ≠ (v467 : Value).ownBlock) (Kd.V_keptB (HO_1.out) hkp (fun k_ hk_ hs_ => (hk_.2.1) hs_)) (fun k_ hk_ => ⟨hk_.1.1, hk_.1.2.2, fun e_ => Or.elim (ho0.1 k_ e_.symm) (fun hs_ => hk_.2.1 hs_) (fun hn_ => Nat.not_le.2 hk_.2.2 hn_)⟩)); have n1_ := Aside0.mk (blk_kept (pB BK448.out) hkp (fun hs_ => (fun e_ => (Kd.R_ne HO_0.out BK448.out Z2) e_) hs_)); have n2_ := Aside0.mk (Kd.R_mono (ok' := fun k_ => (P0_ k_ ∨ w.heap.size ≤ k_)) ho0 (fun k_ hk_ => Or.elim hk_ (fun hs_ => (HO_0.out.1 k_ (hs_).symm)) (fun hn_ => (.inr (Nat.le_trans Z132 hn_))))); have n3_ := Aside0.mk (Kept.then_ (S := (fun k_ => P0_ k_)) Z16 hkp (fun k_ hs_ => (fun e_ => (HO_0.out.1 k_ e_.symm)) hs_)); have n4_ := Aside0.mk (hb); clear HO_1; clear BK448; clear HK; clear HB; clear HO_0; have HO_1 := n0_; have BK448 := n1_; have HO468 := n2_; have HK := n3_; have HB := n4_; clear n0_ n1_ n2_ n3_ n4_; (try clear hb); (try clear hkp); (try clear ho0)))
                       (try simp only [Act.put, List.setIfInBounds_toArray, List.set_cons_zero, List.set_cons_succ])
                       have H := HC160.out
                       clear HC160
                       by_cases c163 : t466.length < 140737488355328
                       ·
                        rw [if_pos c163] at H
                        have LMc163 := Aside0.mk c163
                        clear c163
                        obtain ⟨y472, hy472⟩ : ∃ y_ : List Int, y_ = (t466 ++ [58]) := ⟨_, rfl⟩
                        first | replace H := bind_y hy472 H | rw [← hy472] at H
                        have Ny472 := Aside0.mk hy472
                        clear hy472
                        have HC164 := Aside0.mk H
                        clear H
                        go_upto_if 249 with (first | ((with_reducible refine gate_builtin (b := .append) (xs := #[.tmp 246, .tmp 247]) rfl ?_); (try (refine gate_guard Z3 ?_; dsimp only)); at_builtin; refine Kd.R_append (Kd.int .u8) (w0 := w0) w0.heap.size rfl (.tmp 246) (.tmp 247) 40 5 (.int .u8 0) 1 rfl Try.underlying40 info5 rfl Z2 Z5 v467 t466 58 [.int .u8 58] (fun k_ => (P0_ k_ ∨ w.heap.size ≤ k_)) (fun _ => False) rfl rfl ?aP (fun _ hk => hk.elim) ?aF ?aO ?aB ?aS ?aL ?_; (case aP => exact rfl); (case aB => exact Z21); (case aF => exact (fun k_ hk => (.inr (Nat.le_trans Z132 hk)))); (case aO => exact (pR HO468.out)); (case aS => exact (below_size Z21)); (case aL => have := LMc163.out; omega); intro v473 w165 ho hb hg hat; rw [← Ny472.out] at ho; have n0_ := Aside0.mk (Kd.V_afterv (ok := (fun k_ => ((P0_ k_ ∨ P1_ k_) ∨ w.heap.size ≤ k_) ∧ k_ ≠ gb448)) (by (with_reducible repeat (first | apply Kd.V_alloc | apply Kd.V_drewN | apply Kd.V_drew)); exact Kd.V_mono HO_1.out (fun _ hk => ⟨⟨hk.1, hk.2.1⟩, hk.2.2⟩)) hg hat); have n1_ := Aside0.mk (blk_grown (g := gb448) (o := .cells #[.int .i64 x449000_123, .int .i64 0, .int .i64 x449002_123, .int .i64 0] 72 (0, 0)) (pB BK448.out) hg (Kd.R_ne HO468.out BK448.out Z2)); have n2_ := Aside0.mk (hb); have n3_ := Aside0.mk (Kept.of_grown (S := (fun k_ => P0_ k_)) hg Z16 (fun k_ e_ => (HO468.out.1 k_ e_))); have n4_ := Aside0.mk (ho); clear HO_1; clear BK448; clear HB; clear HK; clear HO468; have HO_1 := n0_; have BK448 := n1_; have HB := n2_; have HK := n3_; have HO474 := n4_; clear n0_ n1_ n2_ n3_ n4_; clear ho hb hg hat))
                        (try simp only [Act.put, List.setIfInBounds_toArray, List.set_cons_zero, List.set_cons_succ])
                        have H := HC164.out
                        clear HC164
                        by_cases c166 : a5 = true
                        ·
                         subst c166
                         rw [if_pos rfl] at H
                         by_cases c167 : y472.length < 140737488355328
                         ·
                          rw [if_pos c167] at H
                          have LMc167 := Aside0.mk c167
                          clear c167
                          obtain ⟨y475, hy475⟩ : ∃ y_ : List Int, y_ = (y472 ++ [32]) := ⟨_, rfl⟩
                          first | replace H := bind_y hy475 H | rw [← hy475] at H
                          have Ny475 := Aside0.mk hy475
                          clear hy475
                          have H' := Aside0.mk H
                          clear H
                          go_wp2_with (first | ((with_reducible refine gate_builtin (b := .append) (xs := #[.tmp 250, .tmp 251]) rfl ?_); (try (refine gate_guard Z3 ?_; dsimp only)); at_builtin; refine Kd.R_append (Kd.int .u8) (w0 := w0) w0.heap.size rfl (.tmp 250) (.tmp 251) 40 5 (.int .u8 0) 1 rfl Try.underlying40 info5 rfl Z2 Z5 v473 y472 32 [.int .u8 32] (fun k_ => (P0_ k_ ∨ w.heap.size ≤ k_)) (fun _ => False) rfl rfl ?aP (fun _ hk => hk.elim) ?aF ?aO ?aB ?aS ?aL ?_; (case aP => exact rfl); (case aB => exact Z21); (case aF => exact (fun k_ hk => (.inr (Nat.le_trans Z132 hk)))); (case aO => exact (pR HO474.out)); (case aS => exact (below_size Z21)); (case aL => have := LMc167.out; omega); intro v476 w168 ho hb hg hat; rw [← Ny475.out] at ho; have n0_ := Aside0.mk (Kd.V_afterv (ok := (fun k_ => ((P0_ k_ ∨ P1_ k_) ∨ w.heap.size ≤ k_) ∧ k_ ≠ gb448)) (pV HO_1.out) hg hat); have n1_ := Aside0.mk (blk_grown (g := gb448) (o := .cells #[.int .i64 x449000_123, .int .i64 0, .int .i64 x449002_123, .int .i64 0] 72 (0, 0)) (pB BK448.out) hg (Kd.R_ne HO474.out BK448.out Z2)); have n2_ := Aside0.mk (hb); have n3_ := Aside0.mk (Kept.of_grown (S := (fun k_ => P0_ k_)) hg Z16 (fun k_ e_ => (HO474.out.1 k_ e_))); have n4_ := Aside0.mk (ho); clear HO_1; clear BK448; clear HB; clear HK; clear HO474; have HO_1 := n0_; have BK448 := n1_; have HB := n2_; have HK := n3_; have HO477 := n4_; clear n0_ n1_ n2_ n3_ n4_; clear ho hb hg hat))
                          go_meet
                          case rel => exact ⟨_, (y475), (t469), (t470), (0), Z8, Z8, H', ⟨Z84⟩, ⟨by (try simp only [hl1_3]); (try simp only [hl1_123]); (with_reducible repeat (first | apply Kd.R_alloc | apply Kd.R_drewN | apply Kd.R_drew)); first | exact HO477.out | exact own_to HO477.out⟩, ⟨Z104⟩, ⟨Z44⟩, ⟨Z16⟩, ⟨Z21⟩⟩
                         ·
                          rw [if_neg c167] at H
                          exact absurd H Z4
                        ·
                         replace c166 := Bool.eq_false_iff.mpr c166
                         subst c166
                         rw [if_neg (show ¬ (false = true) from Z2)] at H
                         have H' := Aside0.mk H
                         clear H
                         go_wp2
                         go_meet
                         case rel => exact ⟨_, (y472), (t469), (t470), (0), Z8, Z8, H', ⟨Z84⟩, ⟨by (try simp only [hl1_3]); (try simp only [hl1_123]); (with_reducible repeat (first | apply Kd.R_alloc | apply Kd.R_drewN | apply Kd.R_drew)); first | exact HO474.out | exact own_to HO474.out⟩, ⟨Z104⟩, ⟨Z44⟩, ⟨Z16⟩, ⟨Z21⟩⟩
                       ·
                        rw [if_neg c163] at H
                        exact absurd H Z4
                      ·
                       rw [if_neg c158] at H
                       have c158b0 := beq_eq_false_iff_ne.mpr c158
                       have c158b1 := bne_iff_ne.mpr c158
                       (first | rw [c158b0] | (simp only [i64_w, i32_w]; rw [c158b0]) | skip)
                       have H' := Aside0.mk H
                       clear H
                       go_wp2
                       go_meet
                       case rel => exact ⟨_, (x0_123), (x2_3), (x11_123), (0), Z8, Z8, H', ⟨Z84⟩, ⟨Z63⟩, ⟨Z72⟩, ⟨Z44⟩, ⟨Z16⟩, ⟨Z21⟩⟩
                     case rest =>
                      as_aux_lemma =>
                      clear HC157; try clear c1; try clear p1; try clear q1; try clear hx1; try clear c2; try clear p2; try clear c3; try clear q3; try clear c4; try clear p4; try clear q4; try clear hx4; try clear c5; try clear c6; try clear p6; try clear q6; try clear hx6; try clear c7; try clear c8; try clear c9; try clear c10; try clear c11; try clear c12; try clear c13; try clear p13; try clear q13; try clear hx13; try clear hf13; try clear c14; try clear c15; try clear c15b0; try clear c16; try clear c17; try clear c18; try clear c18b0; try clear c18b1; try clear c20; try clear c21; try clear c21b0; try clear c23; try clear c28; try clear c28b0; try clear c29; try clear c29b0; try clear c29b1; try clear c30; try clear c30b0; try clear c30b1; try clear c31; try clear q31; try clear c34; try clear c35; try clear c35b0; try clear c35b1; try clear c36; try clear c36b0; try clear c36b1; try clear q38; try clear c39; try clear c40; try clear c40b0; try clear c40b1; try clear p40; try clear q40; try clear hx40; try clear c41; try clear c41b0; try clear c41b1; try clear p41; try clear q41; try clear hx41; try clear p42; try clear q42; try clear hx42; try clear c43; try clear p44; try clear q44; try clear hx44; try clear c46; try clear c46b0; try clear c46b1; try clear c48; try clear c49; try clear c51; try clear c51b0; try clear c52; try clear c52b0; try clear c53; try clear c53b0; try clear c54; try clear c54b0; try clear c54b1; try clear c55; try clear c57; try clear c57b0; try clear c57b1; try clear c60; try clear c61; try clear c61b0; try clear c63; try clear c63b0; try clear c64; try clear c64b0; try clear p64; try clear c65; try clear c65b0; try clear c65b1; try clear p66; try clear q66; try clear hx66; try clear hf66; try clear c71; try clear c71b0; try clear c71b1; try clear c72; try clear c75; try clear c78; try clear c80; try clear c80b0; try clear c81; try clear c81b0; try clear c86; try clear c86b0; try clear c86b1; try clear c87; try clear c90; try clear c94; try clear c94b0; try clear c95; try clear c95b0; try clear c96; try clear c96b0; try clear c96b1; try clear c97; try clear c101; try clear c105; try clear c108; try clear c108b0; try clear c108b1; try clear c111; try clear c113; try clear c113b0; try clear c114; try clear c115; try clear c115b0; try clear c115b1; try clear c119; try clear c119b0; try clear c119b1; try clear c120; try clear c126; try clear c128; try clear c128b0; try clear c129; try clear c129b0; try clear c130; try clear c130b0; try clear c130b1; try clear p131; try clear q131; try clear hx131; try clear hf131; try clear c132; try clear c132b0; try clear c132b1; try clear c143; try clear c144; try clear c144b0; try clear c144b1; try clear c158; try clear c158b0; try clear c158b1; try clear c163; try clear c166; try clear c167; try clear hx131_0; try clear hx401_0; try clear hx402_0; try clear hx403_0; try clear hx405_0; try clear hx418_0; try clear hx428_0; try clear hx441_0; try clear hx449_0; try clear hx66_0; try clear p1; try clear p13; try clear p131; try clear p2; try clear p4; try clear p40; try clear p401; try clear p402; try clear p403; try clear p405; try clear p41; try clear p418; try clear p42; try clear p428; try clear p44; try clear p441; try clear p449; try clear p6; try clear p64; try clear p66; try clear q1; try clear q13; try clear q131; try clear q3; try clear q31; try clear q38; try clear q4; try clear q40; try clear q401; try clear q402; try clear q403; try clear q405; try clear q41; try clear q418; try clear q42; try clear q428; try clear q44; try clear q441; try clear q449; try clear q6; try clear q66
                      obtain ⟨kq, x0_156, x2_156, x11_156, x449001_156, rfl, rfl, HA, HJ156, HO_0, HO_1, BK448, HK, HB⟩ := hcut
                      cases kq with
                      | zero => exact absurd HA.out (by simp [pretty_appendPrettyObject.j8])
                      | succ kj156 =>
                       have H := HA.out
                       clear HA
                       simp only [pretty_appendPrettyObject.j8] at H
                       rw [if_neg (show ¬ (false = true) from Z2)] at H
                       rw [if_neg (show ¬ (false = true) from Z2)] at H
                       replace H := Option.bind_eq_some_iff.mp H
                       obtain ⟨⟨t478, t481, t482, t483⟩, A1710, H⟩ := H
                       dsimp only at H
                       have A171 := Aside0.mk A1710
                       clear A1710
                       have HC172 := Aside0.mk H
                       clear H
                       obtain ⟨Ao173, co173, eo173⟩ := Kd.R_slice HO_0.out
                       subst eo173
                       go_upto_region 59 with (first | ((with_reducible refine gate_callee (f := 19) rfl ?_); refine goesL_ (some 266) rfl rfl Try.func19 Z1 rfl #[.slice Ao173 x0_156.length co173, .slice (some ad401) x1_123.length c1, .int .i64 x2_156, .bool a5, .int .i64 a6, .string a7, .string a8, .bool false, .int .i64 (wrap64 (a10 + 1)), .int .i64 x11_156, .int .i64 a12] rfl Z13 ?_; (with_reducible refine (ih_19_ kj156 (by have := HJ13.out; have := HJ43.out; have := HK3.out; have := HJ106.out; have := HJ111.out; have := HJ123.out; have := HJ156.out; omega) (fun k_ => some k_ = (.slice Ao173 x0_156.length co173 : Value).ownBlock) (.slice Ao173 x0_156.length co173) x0_156 (fun k_ => (((P0_ k_ ∨ P1_ k_) ∨ w.heap.size ≤ k_) ∧ (some k_ ≠ (.slice Ao173 x0_156.length co173 : Value).ownBlock ∧ k_ ≠ gb448))) _ _ x1_123 x2_156 a5 a6 a7 a8  (wrap64 (a10 + 1)) x11_156 a12 t478 t481 t482 t483 w0 _ ?side1 ?side2 ?side3 A171.out).mono ?_); (case side1 => exact Z21); (case side2 => exact Z36); (case side3 => exact Kd.V_mono (HO_1.out) (fun k_ hk_ => ⟨hk_, hk_.2.1⟩)); rintro e w174 ⟨v479, rfl, ho0, hb, hkp⟩; refine ⟨_, rfl, ?_⟩; have n0_ := Aside0.mk (Kd.V_mono (ok' := fun k_ => ((P0_ k_ ∨ P1_ k_) ∨ w.heap.size ≤ k_) ∧ k_ ≠ gb448 ∧ some k_ ≠ (v479 : Value).ownBlock) (Kd.V_keptB (HO_1.out) hkp (fun k_ hk_ hs_ => (hk_.2.1) hs_)) (fun k_ hk_ => ⟨hk_.1.1, hk_.1.2.2, fun e_ => Or.elim (ho0.1 k_ e_.symm) (fun hs_ => hk_.2.1 hs_) (fun hn_ => Nat.not_le.2 hk_.2.2 hn_)⟩)); have n1_ := Aside0.mk (blk_kept (pB BK448.out) hkp (fun hs_ => (fun e_ => (Kd.R_ne HO_0.out BK448.out Z2) e_) hs_)); have n2_ := Aside0.mk (Kd.R_mono (ok' := fun k_ => (P0_ k_ ∨ w.heap.size ≤ k_)) ho0 (fun k_ hk_ => Or.elim hk_ (fun hs_ => (HO_0.out.1 k_ (hs_).symm)) (fun hn_ => (.inr (Nat.le_trans Z132 hn_))))); have n3_ := Aside0.mk (Kept.then_ (S := (fun k_ => P0_ k_)) Z16 hkp (fun k_ hs_ => (fun e_ => (HO_0.out.1 k_ e_.symm)) hs_)); have n4_ := Aside0.mk (hb); clear HO_1; clear BK448; clear HK; clear HB; clear HO_0; have HO_1 := n0_; have BK448 := n1_; have HO480 := n2_; have HK := n3_; have HB := n4_; clear n0_ n1_ n2_ n3_ n4_; (try clear hb); (try clear hkp); (try clear ho0)))
                       (try simp only [Act.put, List.setIfInBounds_toArray, List.set_cons_zero, List.set_cons_succ])
                       go_cut [276] (fun v276 wc => ∃ (kq : Nat) (x276_171 : Bool), v276 = .bool x276_171 ∧ Aside0 (pretty_appendPrettyObject.j9 kq t478 x1_123 t481 a3 a4 a5 a6 a7 a8 false a10 t482 a12 x35_3 false x276_171 = some (r1, r2, r3, r4)) ∧ Aside0 (kq ≤ kj156) ∧ Aside0 (Kd.R (Kd.int .u8) 5 wc w0.heap.size (fun k_ => (P0_ k_ ∨ w.heap.size ≤ k_)) v479 t478) ∧ Aside0 (Kd.V (Kd.int .u8) 5 wc w0.heap.size (fun k_ => ((P0_ k_ ∨ P1_ k_) ∨ w.heap.size ≤ k_) ∧ some k_ ≠ (v479 : Value).ownBlock ∧ k_ ≠ gb448) (.slice (some ad401) x1_123.length c1) x1_123) ∧ Aside0 (wc.heap[gb448]? = some (.cells #[.int .i64 x449000_123, .int .i64 x449001_156, .int .i64 x449002_123, .int .i64 0] 72 (0, 0))) ∧ Aside0 (Kept w wc (fun k_ => P0_ k_)) ∧ Aside0 (Below w0.heap.size w0 wc))
                       case first =>
                        have H := HC172.out
                        clear HC172
                        by_cases c175 : a12 = (-1)
                        ·
                         rw [if_pos c175] at H
                         have c175b0 := beq_iff_eq.mpr c175
                         have c175b1 := bne_eq_false_iff_eq.mpr c175
                         clear c175
                         (first | rw [c175b0] | (simp only [i64_w, i32_w]; rw [c175b0]) | skip)
                         have H' := Aside0.mk H
                         clear H
                         go_wp2
                         go_meet
                         case rel => exact ⟨_, (false), Z8, H', ⟨Z105⟩, ⟨Z106⟩, ⟨Z107⟩, ⟨Z44⟩, ⟨Z16⟩, ⟨Z21⟩⟩
                        ·
                         rw [if_neg c175] at H
                         have c175b0 := beq_eq_false_iff_ne.mpr c175
                         have c175b1 := bne_iff_ne.mpr c175
                         (first | rw [c175b0] | (simp only [i64_w, i32_w]; rw [c175b0]) | skip)
                         have H' := Aside0.mk H
                         clear H
                         go_wp2
                         go_meet
                         case rel => exact ⟨_, (!t483), Z8, H', ⟨Z105⟩, ⟨Z106⟩, ⟨Z107⟩, ⟨Z44⟩, ⟨Z16⟩, ⟨Z21⟩⟩
                       case rest =>
                        as_aux_lemma =>
                        clear HC172; try clear c1; try clear p1; try clear q1; try clear hx1; try clear c2; try clear p2; try clear c3; try clear q3; try clear c4; try clear p4; try clear q4; try clear hx4; try clear c5; try clear c6; try clear p6; try clear q6; try clear hx6; try clear c7; try clear c8; try clear c9; try clear c10; try clear c11; try clear c12; try clear c13; try clear p13; try clear q13; try clear hx13; try clear hf13; try clear c14; try clear c15; try clear c15b0; try clear c16; try clear c17; try clear c18; try clear c18b0; try clear c18b1; try clear c19; try clear c20; try clear c21; try clear c21b0; try clear c23; try clear c28; try clear c28b0; try clear c29; try clear c29b0; try clear c29b1; try clear c30; try clear c30b0; try clear c30b1; try clear c31; try clear q31; try clear c34; try clear c35; try clear c35b0; try clear c35b1; try clear c36; try clear c36b0; try clear c36b1; try clear q38; try clear c39; try clear c40; try clear c40b0; try clear c40b1; try clear p40; try clear q40; try clear hx40; try clear c41; try clear c41b0; try clear c41b1; try clear p41; try clear q41; try clear hx41; try clear p42; try clear q42; try clear hx42; try clear c43; try clear p44; try clear q44; try clear hx44; try clear c46; try clear c46b0; try clear c46b1; try clear c48; try clear c49; try clear c51; try clear c51b0; try clear c52; try clear c52b0; try clear c53; try clear c53b0; try clear c54; try clear c54b0; try clear c54b1; try clear c55; try clear c57; try clear c57b0; try clear c57b1; try clear c60; try clear c61; try clear c61b0; try clear c63; try clear c63b0; try clear c64; try clear c64b0; try clear p64; try clear c65; try clear c65b0; try clear c65b1; try clear p66; try clear q66; try clear hx66; try clear hf66; try clear c71; try clear c71b0; try clear c71b1; try clear c72; try clear c75; try clear c78; try clear c80; try clear c80b0; try clear c81; try clear c81b0; try clear c86; try clear c86b0; try clear c86b1; try clear c87; try clear c90; try clear c94; try clear c94b0; try clear c95; try clear c95b0; try clear c96; try clear c96b0; try clear c96b1; try clear c97; try clear c101; try clear c105; try clear c108; try clear c108b0; try clear c108b1; try clear c111; try clear c113; try clear c113b0; try clear c114; try clear c115; try clear c115b0; try clear c115b1; try clear c119; try clear c119b0; try clear c119b1; try clear c120; try clear c126; try clear c128; try clear c128b0; try clear c129; try clear c129b0; try clear c130; try clear c130b0; try clear c130b1; try clear p131; try clear q131; try clear hx131; try clear hf131; try clear c132; try clear c132b0; try clear c132b1; try clear c143; try clear c144; try clear c144b0; try clear c144b1; try clear c158; try clear c158b0; try clear c158b1; try clear c163; try clear c166; try clear c167; try clear c175; try clear c175b0; try clear c175b1; try clear hx131_0; try clear hx401_0; try clear hx402_0; try clear hx403_0; try clear hx405_0; try clear hx418_0; try clear hx428_0; try clear hx441_0; try clear hx449_0; try clear hx66_0; try clear p1; try clear p13; try clear p131; try clear p2; try clear p4; try clear p40; try clear p401; try clear p402; try clear p403; try clear p405; try clear p41; try clear p418; try clear p42; try clear p428; try clear p44; try clear p441; try clear p449; try clear p6; try clear p64; try clear p66; try clear q1; try clear q13; try clear q131; try clear q3; try clear q31; try clear q38; try clear q4; try clear q40; try clear q401; try clear q402; try clear q403; try clear q405; try clear q41; try clear q418; try clear q42; try clear q428; try clear q44; try clear q441; try clear q449; try clear q6; try clear q66
                        obtain ⟨kq, x276_171, rfl, HA, HJ171, HO_0, HO_1, BK448, HK, HB⟩ := hcut
                        cases kq with
                        | zero => exact absurd HA.out (by simp [pretty_appendPrettyObject.j9])
                        | succ kj171 =>
                         have H := HA.out
                         clear HA
                         simp only [pretty_appendPrettyObject.j9] at H
                         rw [if_neg (show ¬ (false = true) from Z2)] at H
                         rw [if_neg (show ¬ (false = true) from Z2)] at H
                         by_cases c178 : x276_171 = true
                         ·
                          subst c178
                          rw [if_pos rfl] at H
                          simp only [Option.some.injEq, Prod.mk.injEq] at H
                          obtain ⟨rfl, rfl, rfl, rfl⟩ := H
                          go_wp2
                          refine bodyPost_ret (results_list (rs := [.tmp 26, .tmp 27, .tmp 28, .tmp 29]) rfl Z4 (.tmp (.tmp (.tmp (.tmp .nil))))) rfl ?_
                          exact ⟨_, Z12, pR HO_0.out, Z21, Z16⟩
                         ·
                          as_aux_lemma =>
                          replace c178 := Bool.eq_false_iff.mpr c178
                          subst c178
                          rw [if_neg (show ¬ (false = true) from Z2)] at H
                          have HC179 := Aside0.mk H
                          clear H
                          go_upto_region 61 with (fail)
                          go_cut [287] (fun v287 wc => ∃ (kq : Nat) (x287_178 : Bool), v287 = .bool x287_178 ∧ Aside0 (pretty_appendPrettyObject.j10 kq t478 x1_123 t481 a3 a4 a5 a6 a7 a8 false a10 t482 a12 x35_3 false x287_178 = some (r1, r2, r3, r4)) ∧ Aside0 (kq ≤ kj171) ∧ Aside0 (Kd.R (Kd.int .u8) 5 wc w0.heap.size (fun k_ => (P0_ k_ ∨ w.heap.size ≤ k_)) v479 t478) ∧ Aside0 (Kd.V (Kd.int .u8) 5 wc w0.heap.size (fun k_ => ((P0_ k_ ∨ P1_ k_) ∨ w.heap.size ≤ k_) ∧ some k_ ≠ (v479 : Value).ownBlock ∧ k_ ≠ gb448) (.slice (some ad401) x1_123.length c1) x1_123) ∧ Aside0 (wc.heap[gb448]? = some (.cells #[.int .i64 x449000_123, .int .i64 x449001_156, .int .i64 x449002_123, .int .i64 0] 72 (0, 0))) ∧ Aside0 (Kept w wc (fun k_ => P0_ k_)) ∧ Aside0 (Below w0.heap.size w0 wc))
                          case first =>
                           have H := HC179.out
                           clear HC179
                           by_cases c180 : a5 = true
                           ·
                            subst c180
                            rw [if_pos rfl] at H
                            by_cases c181 : a3 = 123
                            ·
                             rw [if_pos c181] at H
                             have c181b0 := beq_iff_eq.mpr c181
                             have c181b1 := bne_eq_false_iff_eq.mpr c181
                             clear c181
                             (first | rw [c181b0] | (simp only [i64_w, i32_w]; rw [c181b0]) | skip)
                             have H' := Aside0.mk H
                             clear H
                             go_wp2
                             go_meet
                             case rel => exact ⟨_, (false), Z8, H', ⟨Z85⟩, ⟨Z63⟩, ⟨Z72⟩, ⟨Z44⟩, ⟨Z16⟩, ⟨Z21⟩⟩
                            ·
                             rw [if_neg c181] at H
                             have c181b0 := beq_eq_false_iff_ne.mpr c181
                             have c181b1 := bne_iff_ne.mpr c181
                             (first | rw [c181b0] | (simp only [i64_w, i32_w]; rw [c181b0]) | skip)
                             have H' := Aside0.mk H
                             clear H
                             go_wp2
                             go_meet
                             case rel => exact ⟨_, (false), Z8, H', ⟨Z85⟩, ⟨Z63⟩, ⟨Z72⟩, ⟨Z44⟩, ⟨Z16⟩, ⟨Z21⟩⟩
                           ·
                            replace c180 := Bool.eq_false_iff.mpr c180
                            subst c180
                            rw [if_neg (show ¬ (false = true) from Z2)] at H
                            have H' := Aside0.mk H
                            clear H
                            go_wp2
                            go_meet
                            case rel => exact ⟨_, (false), Z8, H', ⟨Z85⟩, ⟨Z63⟩, ⟨Z72⟩, ⟨Z44⟩, ⟨Z16⟩, ⟨Z21⟩⟩
                          case rest =>
                           as_aux_lemma =>
                           clear HC179; try clear c1; try clear p1; try clear q1; try clear hx1; try clear c2; try clear p2; try clear c3; try clear q3; try clear c4; try clear p4; try clear q4; try clear hx4; try clear c5; try clear c6; try clear p6; try clear q6; try clear hx6; try clear c7; try clear c8; try clear c9; try clear c10; try clear c11; try clear c12; try clear c13; try clear p13; try clear q13; try clear hx13; try clear hf13; try clear c14; try clear c15; try clear c15b0; try clear c16; try clear c17; try clear c18; try clear c18b0; try clear c18b1; try clear c19; try clear c20; try clear c21; try clear c21b0; try clear c23; try clear c28; try clear c28b0; try clear c29; try clear c29b0; try clear c29b1; try clear c30; try clear c30b0; try clear c30b1; try clear c31; try clear q31; try clear c34; try clear c35; try clear c35b0; try clear c35b1; try clear c36; try clear c36b0; try clear c36b1; try clear q38; try clear c39; try clear c40; try clear c40b0; try clear c40b1; try clear p40; try clear q40; try clear hx40; try clear c41; try clear c41b0; try clear c41b1; try clear p41; try clear q41; try clear hx41; try clear p42; try clear q42; try clear hx42; try clear c43; try clear p44; try clear q44; try clear hx44; try clear c46; try clear c46b0; try clear c46b1; try clear c48; try clear c49; try clear c51; try clear c51b0; try clear c52; try clear c52b0; try clear c53; try clear c53b0; try clear c54; try clear c54b0; try clear c54b1; try clear c55; try clear c57; try clear c57b0; try clear c57b1; try clear c60; try clear c61; try clear c61b0; try clear c63; try clear c63b0; try clear c64; try clear c64b0; try clear p64; try clear c65; try clear c65b0; try clear c65b1; try clear p66; try clear q66; try clear hx66; try clear hf66; try clear c71; try clear c71b0; try clear c71b1; try clear c72; try clear c75; try clear c78; try clear c80; try clear c80b0; try clear c81; try clear c81b0; try clear c86; try clear c86b0; try clear c86b1; try clear c87; try clear c90; try clear c94; try clear c94b0; try clear c95; try clear c95b0; try clear c96; try clear c96b0; try clear c96b1; try clear c97; try clear c101; try clear c105; try clear c108; try clear c108b0; try clear c108b1; try clear c111; try clear c113; try clear c113b0; try clear c114; try clear c115; try clear c115b0; try clear c115b1; try clear c119; try clear c119b0; try clear c119b1; try clear c120; try clear c126; try clear c128; try clear c128b0; try clear c129; try clear c129b0; try clear c130; try clear c130b0; try clear c130b1; try clear p131; try clear q131; try clear hx131; try clear hf131; try clear c132; try clear c132b0; try clear c132b1; try clear c143; try clear c144; try clear c144b0; try clear c144b1; try clear c158; try clear c158b0; try clear c158b1; try clear c163; try clear c166; try clear c167; try clear c175; try clear c175b0; try clear c175b1; try clear c178; try clear c180; try clear c181; try clear c181b0; try clear c181b1; try clear hx131_0; try clear hx401_0; try clear hx402_0; try clear hx403_0; try clear hx405_0; try clear hx418_0; try clear hx428_0; try clear hx441_0; try clear hx449_0; try clear hx66_0; try clear p1; try clear p13; try clear p131; try clear p2; try clear p4; try clear p40; try clear p401; try clear p402; try clear p403; try clear p405; try clear p41; try clear p418; try clear p42; try clear p428; try clear p44; try clear p441; try clear p449; try clear p6; try clear p64; try clear p66; try clear q1; try clear q13; try clear q131; try clear q3; try clear q31; try clear q38; try clear q4; try clear q40; try clear q401; try clear q402; try clear q403; try clear q405; try clear q41; try clear q418; try clear q42; try clear q428; try clear q44; try clear q441; try clear q449; try clear q6; try clear q66
                           obtain ⟨kq, x287_178, rfl, HA, HJ178, HO_0, HO_1, BK448, HK, HB⟩ := hcut
                           cases kq with
                           | zero => exact absurd HA.out (by simp [pretty_appendPrettyObject.j10])
                           | succ kj178 =>
                            have H := HA.out
                            clear HA
                            simp only [pretty_appendPrettyObject.j10] at H
                            rw [if_neg (show ¬ (false = true) from Z2)] at H
                            rw [if_neg (show ¬ (false = true) from Z2)] at H
                            by_cases c184 : x287_178 = true
                            ·
                             subst c184
                             rw [if_pos rfl] at H
                             exact absurd H Z4
                            ·
                             replace c184 := Bool.eq_false_iff.mpr c184
                             subst c184
                             rw [if_neg (show ¬ (false = true) from Z2)] at H
                             have H' := Aside0.mk H
                             clear H
                             go_wp2
                             (try simp only [← hl1_3, ← hl1_123])
                             go_roundg kj178
                             case measure => have := HJ13.out; have := HJ43.out; have := HK3.out; have := HJ106.out; have := HJ111.out; have := HJ123.out; have := HJ156.out; have := HJ171.out; have := HJ178.out; omega
                             case rel => exact ⟨(t478), (x1_123), (wrap64 ((wrap64 (t481 - 1)) + 1)), (false), (t482), (wrap64 (x35_3 + 1)), Z8, Z8, Z8, Z8, H', ⟨by have := HJ13.out; have := HJ43.out; have := HK3.out; have := HJ106.out; have := HJ111.out; have := HJ123.out; have := HJ156.out; have := HJ171.out; have := HJ178.out; omega⟩, ⟨Z63⟩, ⟨by (try simp only [hl1_3]); (try simp only [hl1_123]); (with_reducible repeat (first | apply Kd.V_alloc | apply Kd.V_drewN | apply Kd.V_drew)); exact Kd.V_mono HO_1.out (fun _ hk => ⟨hk.1, hk.2.1⟩)⟩, ⟨Z16⟩, ⟨Z21⟩⟩
                ·
                 replace c111 := Bool.eq_false_iff.mpr c111
                 subst c111
                 rw [if_neg (show ¬ (false = true) from Z2)] at H
                 have H' := Aside0.mk H
                 clear H
                 go_wp2
                 (try simp only [← hl1_3])
                 go_roundg kj106
                 case measure => have := HJ13.out; have := HJ43.out; have := HK3.out; have := HJ106.out; omega
                 case rel => exact ⟨(x0_3), (x1_3), (wrap64 (x2_3 + 1)), (false), (x11_3), (x35_3), Z8, Z8, Z8, Z8, H', ⟨by have := HJ13.out; have := HJ43.out; have := HK3.out; have := HJ106.out; omega⟩, ⟨Z42⟩, ⟨Z43⟩, ⟨Z7⟩, ⟨Z6⟩⟩
           ·
            rw [if_neg c52] at H
            exact absurd H Z4
          ·
           rw [if_neg c51] at H
           have c51b0 := decide_eq_false c51
           clear c51
           simp only [Option.some.injEq, Prod.mk.injEq] at H
           obtain ⟨rfl, rfl, rfl, rfl⟩ := H
           go_wp2
           refine bodyPost_ret (results_list (rs := [.tmp 26, .tmp 27, .tmp 28, .tmp 29]) rfl Z4 (.tmp (.tmp (.tmp (.tmp .nil))))) rfl ?_
           exact ⟨_, Z12, pR HO_0.out, Z6, Z7⟩
   ·
    rw [if_neg c43] at H
    exact absurd H Z4

end Go.Proofs.Ytffdebhaclkhjaa.PFnPrWholeDefault
