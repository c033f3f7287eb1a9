-- Written by a program of the session (wip/tools) out of the translation. Not trusted: Lean checks it.
import Derived.Test.YtffdebhaclkhjaaSq
import Derived.Test.YtffdebhaclkhjaaSx0
import Derived.Test.YtffdebhaclkhjaaSx12
import Derived.Test.YtffdebhaclkhjaaSx13
namespace Go.Proofs.Ytffdebhaclkhjaa.PFnPrWholeDefault
open Go.RowKit Go.Proofs.YtffdebhaclkhjaaW.PrintWords Go.Proofs.YtffdebhaclkhjaaW.PrintLast Go.Proofs.YtffdebhaclkhjaaW.PrintMore
attribute [local go_sem] max2_int min2_int max_two min_two max_three min_three max_four min_four   -- for this text's walks alone
set_option linter.unusedVariables false
set_option linter.unusedSimpArgs false

/-! ### spec_Layout_value: function 16 -/
def spec_Layout_value.T17 : Bool × List (List Nat × List Nat) := (true, [([], []), ([], []), ([1], [1]), ([], []), ([2, 3], [2, 3]), ([4], [4]), ([5], [5]), ([], []), ([7], [7]), ([], []), ([8, 9], [8, 9]), ([10], [10]), ([11], [11]), ([0, 6, 12], [0, 6, 12]), ([13, 0, 1, 2, 3, 4, 5, 6, 7, 8, 9, 10, 11, 12, 13], [13])])
def spec_Layout_value.B17 : List Nat := [0, 0, 2, 0, 14, 30, 62, 0, 128, 0, 896, 1920, 3968, 8191, 16383]
theorem spec_Layout_value.tab17 : rtab .any (opsOf Try.f16 17) = spec_Layout_value.T17 := Z1
theorem spec_Layout_value.bits17 : waitsOk spec_Layout_value.T17.2 spec_Layout_value.B17 = true := Z1
def spec_Layout_value.T22 : Bool × List (List Nat × List Nat) := (true, [([], []), ([], []), ([], []), ([], []), ([3], [3]), ([], []), ([4, 5], [4, 5]), ([6], [6]), ([], []), ([], []), ([9], [9]), ([], []), ([11], [11]), ([10, 12], [10, 12]), ([13], [13]), ([0, 1, 2, 7, 8, 14], [0, 1, 2, 7, 8, 14]), ([15, 15, 0, 1, 2, 3, 4, 5, 6, 7, 8, 9, 10, 11, 12, 13, 14, 15], [1, 15])])
def spec_Layout_value.B22 : List Nat := [0, 0, 0, 0, 8, 0, 56, 120, 0, 0, 512, 0, 2048, 7680, 15872, 32767, 65535]
theorem spec_Layout_value.tab22 : rtab .any (opsOf Try.f16 22) = spec_Layout_value.T22 := Z1
theorem spec_Layout_value.bits22 : waitsOk spec_Layout_value.T22.2 spec_Layout_value.B22 = true := Z1
set_option maxHeartbeats 8000000 in
set_option maxRecDepth 100000 in
theorem spec_Layout_value.step (k : Nat) (ih_23_ : ∀ k_ : Nat, k_ < k → ∀ (a0_0 : ByteArray) (a0_1 : ByteArray) (a0_2 : Int) (P1_ : Nat → Prop) (u9000_ : Value) (l1 : List Int) (a2 : ByteArray) (a3_0 : Int) (a3_1 : Int) (a3_2 : Int) (A3_3 : Option Addr) (c3_3 : Nat) (l3_3 : List (S55)) (P3_4_ : Nat → Prop) (A3_4 : Option Addr) (c3_4 : Nat) (l3_4 : List (S28)) (a4 : ByteArray) (r : List Int) (w0 w : World) (hB : Below w0.heap.size w0 w) (ho1 : Kd.R (Kd.int .u8) 5 w w0.heap.size P1_ u9000_ l1) (hr3_3 : ∀ W_, Kept w W_ (fun k_ => P1_ k_) → Kd.C k55 W_ A3_3 l3_3.length l3_3) (hc3_3 : l3_3.length ≤ c3_3) (hs3_4 : Kd.V k28 28 w w0.heap.size (fun k_ => P3_4_ k_ ∧ some k_ ≠ (u9000_ : Value).ownBlock) (.slice A3_4 l3_4.length c3_4) l3_4) (h : spec_Layout_elements.f k_ a0_0 a0_1 a0_2 l1 a2 a3_0 a3_1 a3_2 l3_3 l3_4 a4 = some r),
  Calls Try.prog 23 #[.agg #[.string a0_0, .string a0_1, .int .i64 a0_2], u9000_, .string a2, .agg #[.int .i64 a3_0, .int .i64 a3_1, .int .i64 a3_2, .slice A3_3 l3_3.length c3_3, .slice A3_4 l3_4.length c3_4], .string a4] w fun e w' => ∃ v0_ : Value, e = .returned (v0_) ∧ Kd.R (Kd.int .u8) 5 w' w0.heap.size (fun k_ => (P1_ k_ ∨ w.heap.size ≤ k_)) v0_ r ∧ Below w0.heap.size w0 w' ∧ Kept w w' (fun k_ => P1_ k_)) (ih_16_ : ∀ k_ : Nat, k_ < k → ∀ (a0_0 : ByteArray) (a0_1 : ByteArray) (a0_2 : Int) (P1_ : Nat → Prop) (u9000_ : Value) (l1 : List Int) (a2 : ByteArray) (a3_0 : Int) (a3_1 : Int) (a3_2 : Int) (A3_3 : Option Addr) (c3_3 : Nat) (l3_3 : List (S55)) (P3_4_ : Nat → Prop) (A3_4 : Option Addr) (c3_4 : Nat) (l3_4 : List (S28)) (a4 : ByteArray) (a5 : Int) (r : List Int) (w0 w : World) (hB : Below w0.heap.size w0 w) (ho1 : Kd.R (Kd.int .u8) 5 w w0.heap.size P1_ u9000_ l1) (hr3_3 : ∀ W_, Kept w W_ (fun k_ => P1_ k_) → Kd.C k55 W_ A3_3 l3_3.length l3_3) (hc3_3 : l3_3.length ≤ c3_3) (hs3_4 : Kd.V k28 28 w w0.heap.size (fun k_ => P3_4_ k_ ∧ some k_ ≠ (u9000_ : Value).ownBlock) (.slice A3_4 l3_4.length c3_4) l3_4) (h : spec_Layout_value.f k_ a0_0 a0_1 a0_2 l1 a2 a3_0 a3_1 a3_2 l3_3 l3_4 a4 a5 = some r),
  Calls Try.prog 16 #[.agg #[.string a0_0, .string a0_1, .int .i64 a0_2], u9000_, .string a2, .agg #[.int .i64 a3_0, .int .i64 a3_1, .int .i64 a3_2, .slice A3_3 l3_3.length c3_3, .slice A3_4 l3_4.length c3_4], .string a4, .int .i64 a5] w fun e w' => ∃ v0_ : Value, e = .returned (v0_) ∧ Kd.R (Kd.int .u8) 5 w' w0.heap.size (fun k_ => (P1_ k_ ∨ w.heap.size ≤ k_)) v0_ r ∧ Below w0.heap.size w0 w' ∧ Kept w w' (fun k_ => P1_ k_)) : ∀ (a0_0 : ByteArray) (a0_1 : ByteArray) (a0_2 : Int) (P1_ : Nat → Prop) (u9000_ : Value) (l1 : List Int) (a2 : ByteArray) (a3_0 : Int) (a3_1 : Int) (a3_2 : Int) (A3_3 : Option Addr) (c3_3 : Nat) (l3_3 : List (S55)) (P3_4_ : Nat → Prop) (A3_4 : Option Addr) (c3_4 : Nat) (l3_4 : List (S28)) (a4 : ByteArray) (a5 : Int) (r : List Int) (w0 w : World) (hB : Below w0.heap.size w0 w) (ho1 : Kd.R (Kd.int .u8) 5 w w0.heap.size P1_ u9000_ l1) (hr3_3 : ∀ W_, Kept w W_ (fun k_ => P1_ k_) → Kd.C k55 W_ A3_3 l3_3.length l3_3) (hc3_3 : l3_3.length ≤ c3_3) (hs3_4 : Kd.V k28 28 w w0.heap.size (fun k_ => P3_4_ k_ ∧ some k_ ≠ (u9000_ : Value).ownBlock) (.slice A3_4 l3_4.length c3_4) l3_4) (h : spec_Layout_value.f k a0_0 a0_1 a0_2 l1 a2 a3_0 a3_1 a3_2 l3_3 l3_4 a4 a5 = some r),
  Calls Try.prog 16 #[.agg #[.string a0_0, .string a0_1, .int .i64 a0_2], u9000_, .string a2, .agg #[.int .i64 a3_0, .int .i64 a3_1, .int .i64 a3_2, .slice A3_3 l3_3.length c3_3, .slice A3_4 l3_4.length c3_4], .string a4, .int .i64 a5] w fun e w' => ∃ v0_ : Value, e = .returned (v0_) ∧ Kd.R (Kd.int .u8) 5 w' w0.heap.size (fun k_ => (P1_ k_ ∨ w.heap.size ≤ k_)) v0_ r ∧ Below w0.heap.size w0 w' ∧ Kept w w' (fun k_ => P1_ k_) := by
 intro a0_0 a0_1 a0_2 P1_ u9000_ l1 a2 a3_0 a3_1 a3_2 A3_3 c3_3 l3_3 P3_4_ A3_4 c3_4 l3_4 a4 a5 r w0 w hB ho1 hr3_3 hc3_3 hs3_4 h
 cases k with
 | zero => exact absurd h (by simp [spec_Layout_value.f])
 | succ k =>
 simp only [spec_Layout_value.f] at h
 have hu36 := Try.underlying36
 have hu28 := Try.underlying28
 have HO1 := Aside0.mk (show Kd.R (Kd.int .u8) 5 w w0.heap.size (fun k_ => (P1_ k_ ∨ w.heap.size ≤ k_)) u9000_ l1 from Kd.R_mono ho1 (fun k_ hk => (.inl hk)))
 have HR3_3 := Aside0.mk hr3_3
 have HC3_3 := Aside0.mk hc3_3
 clear hr3_3 hc3_3
 have HO3_4 := Aside0.mk (show Kd.V k28 28 w w0.heap.size (fun k_ => ((P1_ k_ ∨ P3_4_ k_) ∨ w.heap.size ≤ k_) ∧ some k_ ≠ (u9000_ : Value).ownBlock) (.slice A3_4 l3_4.length c3_4) l3_4 from Kd.V_mono hs3_4 (fun k_ hk => ⟨.inl (.inr hk.1), hk.2⟩))
 have HK := Aside0.mk (Kept.refl w (fun k_ => P1_ k_))
 have HW0 := Aside0.mk hB.size
 have HB := Aside0.mk hB
 clear hB
 have H : (if (l3_4.length : Int) = 0 then ((spec_bareTo.f k l1 a2 a3_0 a3_1 a3_2 l3_3 l3_4).bind fun t692 => (some t692)) else (if a0_2 > 0 then (if (wrap64 (a0_2 - a5)) > 3 then ((spec_objects.f k a3_0 a3_1 a3_2 l3_3 l3_4).bind fun t695 => (spec_Layout_value.j0 k l1 a2 a4 (wrap64 (a0_2 - a5)) (!t695) a0_0 a0_1 a0_2 a3_0 a3_1 a3_2 l3_3 l3_4)) else (spec_Layout_value.j0 k l1 a2 a4 (wrap64 (a0_2 - a5)) false a0_0 a0_1 a0_2 a3_0 a3_1 a3_2 l3_3 l3_4)) else (spec_Layout_value.j0 k l1 a2 a4 (wrap64 (a0_2 - a5)) false a0_0 a0_1 a0_2 a3_0 a3_1 a3_2 l3_3 l3_4))) = some r := h
 clear h
 have HC7 := Aside0.mk H
 clear H
 go_enter Try.func16, Try.ntmps16
 go_upto_if 21 with (first | ((with_reducible refine gate_dst (N := 6) rfl ?_); refine box_event ?hg (N := 6) ?hd (cs := #[.string a0_0, .string a0_1, .int .i64 a0_2]) (t := 36) ?hr ?_; (case hd => exact Z3); (case hg => exact Z3); (case hr => exact Z19); intro gb690 hg w8 hbox hb; have n0_ := Aside0.mk (Kd.R_below (pR HO1.out) hb); have n1_ := Aside0.mk (Kd.V_below (Kd.V_elderB (pV HO3_4.out) gb690 (Nat.le_of_eq hg.symm)) hb); have n2_ := Aside0.mk (Kept.below (S := (fun k_ => P1_ k_)) Z7 hb); have n3_ := Aside0.mk (below_step Z6 hb); have n4_ := Aside0.mk (hbox); have n5_ := Aside0.mk ((by rw [hg]; exact Z136 : w.heap.size ≤ gb690)); have n6_ := Aside0.mk ((Z121 : w0.heap.size ≤ gb690)); clear HO1; clear HO3_4; clear HK; clear HB; have HO1 := n0_; have HO3_4 := n1_; have HK := n2_; have HB := n3_; have BK690 := n4_; have GW690 := n5_; have GE690 := n6_; clear n0_ n1_ n2_ n3_ n4_ n5_ n6_; clear hb hbox hg) | ((with_reducible refine gate_dst (N := 9) rfl ?_); refine box_event ?hg (N := 9) ?hd (cs := #[.int .i64 a3_0, .int .i64 a3_1, .int .i64 a3_2, .slice A3_3 l3_3.length c3_3, .slice A3_4 l3_4.length c3_4]) (t := 28) ?hr ?_; (case hd => exact Z3); (case hg => exact Z3); (case hr => exact Z19); intro gb691 hg w9 hbox hb; have n0_ := Aside0.mk (Kd.R_below (pR HO1.out) hb); have n1_ := Aside0.mk (Kd.V_below (Kd.V_elderB (pV HO3_4.out) gb691 (Nat.le_of_eq hg.symm)) hb); have n2_ := Aside0.mk (blk_below (g := gb690) (o := .cells #[.string a0_0, .string a0_1, .int .i64 a0_2] 36 (0, 0)) (pB BK690.out) hb); have n3_ := Aside0.mk (Kept.below (S := (fun k_ => P1_ k_)) Z115 hb); have n4_ := Aside0.mk (below_step Z116 hb); have n5_ := Aside0.mk (hbox); have n6_ := Aside0.mk ((by rw [hg]; exact (by first | exact HK.out.1 | exact (show Kept w _ (fun k_ => P1_ k_) from Z115).1) : w.heap.size ≤ gb691)); have n7_ := Aside0.mk ((by rw [hg]; exact (below_size Z116) : w0.heap.size ≤ gb691)); have n8_ := Aside0.mk ((by rw [hg]; exact Nat.ne_of_lt (blk_lt (g := gb690) (o := .cells #[.string a0_0, .string a0_1, .int .i64 a0_2] 36 (0, 0)) (pB BK690.out)) : gb690 ≠ gb691)); have n9_ := Aside0.mk ((by rw [hg]; exact Nat.ne_of_gt (blk_lt (g := gb690) (o := .cells #[.string a0_0, .string a0_1, .int .i64 a0_2] 36 (0, 0)) (pB BK690.out)) : gb691 ≠ gb690)); clear HO1; clear HO3_4; clear BK690; clear HK; clear HB; have HO1 := n0_; have HO3_4 := n1_; have BK690 := n2_; have HK := n3_; have HB := n4_; have BK691 := n5_; have GW691 := n6_; have GE691 := n7_; have NB690_691 := n8_; have NB691_690 := n9_; clear n0_ n1_ n2_ n3_ n4_ n5_ n6_ n7_ n8_ n9_; clear hb hbox hg; have hnb10 := NB691_690.out; have hnc10 := NB690_691.out; have hcz11_0 : w9.cell? ⟨gb691, 0, none⟩ = some (.int .i64 a3_0) := (blk_cell BK691.out 0).trans rfl; have hcz11_1 : w9.cell? ⟨gb691, 1, none⟩ = some (.int .i64 a3_1) := (blk_cell BK691.out 1).trans rfl; have hcz11_2 : w9.cell? ⟨gb691, 2, none⟩ = some (.int .i64 a3_2) := (blk_cell BK691.out 2).trans rfl; have hcz11_3 : w9.cell? ⟨gb691, 3, none⟩ = some (.slice A3_3 l3_3.length c3_3) := (blk_cell BK691.out 3).trans rfl; have hcz11_4 : w9.cell? ⟨gb691, 4, none⟩ = some (.slice A3_4 l3_4.length c3_4) := (blk_cell BK691.out 4).trans rfl; have hfz11_0 := blk_frozen BK691.out 0; have hfz11_1 := blk_frozen BK691.out 1; have hfz11_2 := blk_frozen BK691.out 2; have hfz11_3 := blk_frozen BK691.out 3; have hfz11_4 := blk_frozen BK691.out 4))
 (try simp only [Act.put, List.setIfInBounds_toArray, List.set_cons_zero, List.set_cons_succ])
 have H := HC7.out
 clear HC7
 by_cases c12 : (l3_4.length : Int) = 0
 ·
  rw [if_pos c12] at H
  have c12b0 := beq_iff_eq.mpr c12
  have c12b1 := bne_eq_false_iff_eq.mpr c12
  clear c12
  (first | rw [c12b0] | (simp only [i64_w, i32_w]; rw [c12b0]) | skip)
  replace H := Option.bind_eq_some_iff.mp H
  obtain ⟨t692, A130, H⟩ := H
  have A13 := Aside0.mk A130
  clear A130
  obtain rfl := Option.some.inj H
  have hnb14 := NB691_690.out
  have hnc14 := NB690_691.out
  have hcz15_0 : w9.cell? ⟨gb691, 0, none⟩ = some (.int .i64 a3_0) := (blk_cell BK691.out 0).trans rfl
  have hcz15_1 : w9.cell? ⟨gb691, 1, none⟩ = some (.int .i64 a3_1) := (blk_cell BK691.out 1).trans rfl
  have hcz15_2 : w9.cell? ⟨gb691, 2, none⟩ = some (.int .i64 a3_2) := (blk_cell BK691.out 2).trans rfl
  have hcz15_3 : w9.cell? ⟨gb691, 3, none⟩ = some (.slice A3_3 l3_3.length c3_3) := (blk_cell BK691.out 3).trans rfl
  have hcz15_4 : w9.cell? ⟨gb691, 4, none⟩ = some (.slice A3_4 l3_4.length c3_4) := (blk_cell BK691.out 4).trans rfl
  have hfz15_0 := blk_frozen BK691.out 0
  have hfz15_1 := blk_frozen BK691.out 1
  have hfz15_2 := blk_frozen BK691.out 2
  have hfz15_3 := blk_frozen BK691.out 3
  have hfz15_4 := blk_frozen BK691.out 4
  obtain ⟨Ao16, co16, eo16⟩ := Kd.R_slice HO1.out
  subst eo16
  go_wp2_with (first | ((with_reducible refine gate_callee (f := 20) rfl ?_); refine goesL_ (some 25) rfl rfl Try.func20 Z1 rfl #[.slice Ao16 l1.length co16, .string a2, .agg #[.int .i64 a3_0, .int .i64 a3_1, .int .i64 a3_2, .slice A3_3 l3_3.length c3_3, .slice A3_4 l3_4.length c3_4]] rfl Z13 ?_; (with_reducible refine (spec_bareTo.calls k (fun k_ => some k_ = (.slice Ao16 l1.length co16 : Value).ownBlock) (.slice Ao16 l1.length co16) l1 a2 a3_0 a3_1 a3_2 _ _ l3_3 (fun k_ => (((((P1_ k_ ∨ P3_4_ k_) ∨ w.heap.size ≤ k_) ∧ some k_ ≠ (.slice Ao16 l1.length co16 : Value).ownBlock) ∧ k_ ≠ gb690) ∧ k_ ≠ gb691)) _ _ l3_4 t692 w0 _ ?side1 ?side2 ?side3 ?side4 ?side5 A13.out).mono ?_); (case side1 => exact Z15); (case side2 => exact Kd.R_tight rfl HO1.out); (case side3 => exact Kd.C_kept_call HR3_3.out Z14 (fun k_ hs_ => (fun e_ => (HO1.out.1 k_ e_.symm)) hs_)); (case side4 => exact HC3_3.out); (case side5 => exact Kd.V_mono (HO3_4.out) (fun k_ hk_ => ⟨hk_, hk_.1.1.2⟩)); rintro e w17 ⟨v693, rfl, ho0, hb, hkp⟩; refine ⟨_, rfl, ?_⟩; have n0_ := Aside0.mk (Kd.V_mono (ok' := fun k_ => ((P1_ k_ ∨ P3_4_ k_) ∨ w.heap.size ≤ k_) ∧ k_ ≠ gb690 ∧ k_ ≠ gb691 ∧ some k_ ≠ (v693 : Value).ownBlock) (Kd.V_keptB (HO3_4.out) hkp (fun k_ hk_ hs_ => (hk_.1.1.2) hs_)) (fun k_ hk_ => ⟨hk_.1.1.1.1, hk_.1.1.2, hk_.1.2, fun e_ => Or.elim (ho0.1 k_ e_.symm) (fun hs_ => hk_.2.1 hs_) (fun hn_ => Nat.not_le.2 hk_.2.2 hn_)⟩)); have n1_ := Aside0.mk (blk_kept (pB BK690.out) hkp (fun hs_ => (fun e_ => (Kd.R_ne HO1.out BK690.out Z2) e_) hs_)); have n2_ := Aside0.mk (blk_kept (pB BK691.out) hkp (fun hs_ => (fun e_ => (Kd.R_ne HO1.out BK691.out Z2) e_) hs_)); have n3_ := Aside0.mk (Kd.R_mono (ok' := fun k_ => (P1_ k_ ∨ w.heap.size ≤ k_)) ho0 (fun k_ hk_ => Or.elim hk_ (fun hs_ => (HO1.out.1 k_ (hs_).symm)) (fun hn_ => (.inr (Nat.le_trans Z120 hn_))))); have n4_ := Aside0.mk (Kept.then_ (S := (fun k_ => P1_ k_)) Z14 hkp (fun k_ hs_ => (fun e_ => (HO1.out.1 k_ e_.symm)) hs_)); have n5_ := Aside0.mk (hb); clear HO3_4; clear BK690; clear BK691; clear HK; clear HB; clear HO1; have HO3_4 := n0_; have BK690 := n1_; have BK691 := n2_; have HO694 := n3_; have HK := n4_; have HB := n5_; clear n0_ n1_ n2_ n3_ n4_ n5_; (try clear hb); (try clear hkp); (try clear ho0)))
  go_ret
  exact ⟨_, Z12, pR HO694.out, Z15, Z14⟩
 rw [if_neg c12] at H
 have c12b0 := beq_eq_false_iff_ne.mpr c12
 have c12b1 := bne_iff_ne.mpr c12
 have c12b2 : ¬ (l3_4 = []) := fun h_ => c12 (by rw [h_]; rfl)
 (first | rw [c12b0] | (simp only [i64_w, i32_w]; rw [c12b0]) | skip)
 have HC18 := Aside0.mk H
 clear H
 have hnb19 := NB690_691.out
 have hnc19 := NB691_690.out
 have hcz20_0 : w9.cell? ⟨gb690, 0, none⟩ = some (.string a0_0) := (blk_cell BK690.out 0).trans rfl
 have hcz20_1 : w9.cell? ⟨gb690, 1, none⟩ = some (.string a0_1) := (blk_cell BK690.out 1).trans rfl
 have hcz20_2 : w9.cell? ⟨gb690, 2, none⟩ = some (.int .i64 a0_2) := (blk_cell BK690.out 2).trans rfl
 have hfz20_0 := blk_frozen BK690.out 0
 have hfz20_1 := blk_frozen BK690.out 1
 have hfz20_2 := blk_frozen BK690.out 2
 go_upto_region 4 with (fail)
 go_cut [41] (fun v41 wc => ∃ (kq : Nat) (x41_17 : Bool), v41 = .bool x41_17 ∧ Aside0 (spec_Layout_value.j0 kq l1 a2 a4 (wrap64 (a0_2 - a5)) x41_17 a0_0 a0_1 a0_2 a3_0 a3_1 a3_2 l3_3 l3_4 = some r) ∧ Aside0 (kq ≤ k) ∧ Aside0 (Kd.R (Kd.int .u8) 5 wc w0.heap.size (fun k_ => (P1_ k_ ∨ w.heap.size ≤ k_)) u9000_ l1) ∧ Aside0 (Kd.V k28 28 wc w0.heap.size (fun k_ => ((P1_ k_ ∨ P3_4_ k_) ∨ w.heap.size ≤ k_) ∧ some k_ ≠ (u9000_ : Value).ownBlock ∧ k_ ≠ gb690 ∧ k_ ≠ gb691) (.slice A3_4 l3_4.length c3_4) l3_4) ∧ Aside0 (wc.heap[gb690]? = some (.cells #[.string a0_0, .string a0_1, .int .i64 a0_2] 36 (0, 0))) ∧ Aside0 (wc.heap[gb691]? = some (.cells #[.int .i64 a3_0, .int .i64 a3_1, .int .i64 a3_2, (.slice A3_3 l3_3.length c3_3), (.slice A3_4 l3_4.length c3_4)] 28 (0, 0))) ∧ Aside0 (Kept w wc (fun k_ => P1_ k_)) ∧ Aside0 (Below w0.heap.size w0 wc))
 case first =>
  have H := HC18.out
  clear HC18
  by_cases c21 : a0_2 > 0
  rotate_left
  ·
   rw [if_neg c21] at H
   have c21b0 := decide_eq_false c21
   clear c21
   (first | rw [c21b0] | (simp only [i64_w, i32_w]; rw [c21b0]) | skip)
   have H' := Aside0.mk H
   clear H
   have hnb30 := NB690_691.out
   have hnc30 := NB691_690.out
   have hcz31_0 : w9.cell? ⟨gb690, 0, none⟩ = some (.string a0_0) := (blk_cell BK690.out 0).trans rfl
   have hcz31_1 : w9.cell? ⟨gb690, 1, none⟩ = some (.string a0_1) := (blk_cell BK690.out 1).trans rfl
   have hcz31_2 : w9.cell? ⟨gb690, 2, none⟩ = some (.int .i64 a0_2) := (blk_cell BK690.out 2).trans rfl
   have hfz31_0 := blk_frozen BK690.out 0
   have hfz31_1 := blk_frozen BK690.out 1
   have hfz31_2 := blk_frozen BK690.out 2
   go_wp2
   go_meet
   case rel => exact ⟨_, (false), Z8, H', ⟨Z22⟩, ⟨pR HO1.out⟩, ⟨Z88⟩, ⟨pB BK690.out⟩, ⟨pB BK691.out⟩, ⟨Z14⟩, ⟨Z15⟩⟩
  rw [if_pos c21] at H
  have c21b0 := decide_eq_true c21
  clear c21
  (first | rw [c21b0] | (simp only [i64_w, i32_w]; rw [c21b0]) | skip)
  by_cases c22 : (wrap64 (a0_2 - a5)) > 3
  rotate_left
  ·
   rw [if_neg c22] at H
   have c22b0 := decide_eq_false c22
   clear c22
   have H' := Aside0.mk H
   clear H
   have hnb28 := NB690_691.out
   have hnc28 := NB691_690.out
   have hcz29_0 : w9.cell? ⟨gb690, 0, none⟩ = some (.string a0_0) := (blk_cell BK690.out 0).trans rfl
   have hcz29_1 : w9.cell? ⟨gb690, 1, none⟩ = some (.string a0_1) := (blk_cell BK690.out 1).trans rfl
   have hcz29_2 : w9.cell? ⟨gb690, 2, none⟩ = some (.int .i64 a0_2) := (blk_cell BK690.out 2).trans rfl
   have hfz29_0 := blk_frozen BK690.out 0
   have hfz29_1 := blk_frozen BK690.out 1
   have hfz29_2 := blk_frozen BK690.out 2
   go_wp2
   go_meet
   case rel => exact ⟨_, (false), Z8, H', ⟨Z22⟩, ⟨pR HO1.out⟩, ⟨Z88⟩, ⟨pB BK690.out⟩, ⟨pB BK691.out⟩, ⟨Z14⟩, ⟨Z15⟩⟩
  rw [if_pos c22] at H
  have c22b0 := decide_eq_true c22
  clear c22
  replace H := Option.bind_eq_some_iff.mp H
  obtain ⟨t695, A230, H⟩ := H
  have A23 := Aside0.mk A230
  clear A230
  have H' := Aside0.mk H
  clear H
  have hnb24 := NB690_691.out
  have hnc24 := NB691_690.out
  have hcz25_0 : w9.cell? ⟨gb690, 0, none⟩ = some (.string a0_0) := (blk_cell BK690.out 0).trans rfl
  have hcz25_1 : w9.cell? ⟨gb690, 1, none⟩ = some (.string a0_1) := (blk_cell BK690.out 1).trans rfl
  have hcz25_2 : w9.cell? ⟨gb690, 2, none⟩ = some (.int .i64 a0_2) := (blk_cell BK690.out 2).trans rfl
  have hfz25_0 := blk_frozen BK690.out 0
  have hfz25_1 := blk_frozen BK690.out 1
  have hfz25_2 := blk_frozen BK690.out 2
  have hcz26_0 : w9.cell? ⟨gb691, 0, none⟩ = some (.int .i64 a3_0) := (blk_cell BK691.out 0).trans rfl
  have hcz26_1 : w9.cell? ⟨gb691, 1, none⟩ = some (.int .i64 a3_1) := (blk_cell BK691.out 1).trans rfl
  have hcz26_2 : w9.cell? ⟨gb691, 2, none⟩ = some (.int .i64 a3_2) := (blk_cell BK691.out 2).trans rfl
  have hcz26_3 : w9.cell? ⟨gb691, 3, none⟩ = some (.slice A3_3 l3_3.length c3_3) := (blk_cell BK691.out 3).trans rfl
  have hcz26_4 : w9.cell? ⟨gb691, 4, none⟩ = some (.slice A3_4 l3_4.length c3_4) := (blk_cell BK691.out 4).trans rfl
  have hfz26_0 := blk_frozen BK691.out 0
  have hfz26_1 := blk_frozen BK691.out 1
  have hfz26_2 := blk_frozen BK691.out 2
  have hfz26_3 := blk_frozen BK691.out 3
  have hfz26_4 := blk_frozen BK691.out 4
  go_wp2_with (first | (go_at_call 21; (with_reducible refine (spec_objects.calls k a3_0 a3_1 a3_2 _ _ l3_3 _ _ l3_4 t695 _ ?side1 ?side2 ?side3 ?side4 A23.out).mono ?_); (case side1 => exact Kd.C_kept_now HR3_3.out Z14); (case side2 => exact HC3_3.out); (case side3 => repeat (first | exact (Kd.V_reads' HO3_4.out).2.2 | (with_reducible refine Kd.C_alloc ?_ _) | (with_reducible refine Kd.C_drewN ?_ _) | (with_reducible refine Kd.C_drew ?_))); (case side4 => exact (Kd.V_reads' HO3_4.out).2.1); rintro e w27 ⟨rfl, hb⟩; have n0_ := Aside0.mk (Kd.R_below (pR HO1.out) hb); have n1_ := Aside0.mk (Kd.V_below (pV HO3_4.out) hb); have n2_ := Aside0.mk (blk_below (g := gb690) (o := .cells #[.string a0_0, .string a0_1, .int .i64 a0_2] 36 (0, 0)) (pB BK690.out) hb); have n3_ := Aside0.mk (blk_below (g := gb691) (o := .cells #[.int .i64 a3_0, .int .i64 a3_1, .int .i64 a3_2, .slice A3_3 l3_3.length c3_3, .slice A3_4 l3_4.length c3_4] 28 (0, 0)) (pB BK691.out) hb); have n4_ := Aside0.mk (Kept.below (S := (fun k_ => P1_ k_)) Z14 hb); have n5_ := Aside0.mk (below_step Z15 hb); clear HO1; clear HO3_4; clear BK690; clear BK691; clear HK; clear HB; have HO1 := n0_; have HO3_4 := n1_; have BK690 := n2_; have BK691 := n3_; have HK := n4_; have HB := n5_; clear n0_ n1_ n2_ n3_ n4_ n5_; (try clear hb); (try clear hb2); (try clear hk); (try clear hi)))
  go_meet
  case rel => exact ⟨_, (!t695), Z8, H', ⟨Z22⟩, ⟨pR HO1.out⟩, ⟨Z88⟩, ⟨pB BK690.out⟩, ⟨pB BK691.out⟩, ⟨Z14⟩, ⟨Z15⟩⟩
 clear HC18; try clear c1; try clear c2; try clear p2; try clear c3; try clear p6; try clear c10; try clear c12; try clear c12b0; try clear c12b1; try clear c12b2; try clear c14; try clear c16; try clear c19; try clear c20; try clear c21; try clear c21b0; try clear c22; try clear c22b0; try clear c24; try clear c28; try clear c30; try clear hcz11_0; try clear hcz11_1; try clear hcz11_2; try clear hcz11_3; try clear hcz11_4; try clear hcz15_0; try clear hcz15_1; try clear hcz15_2; try clear hcz15_3; try clear hcz15_4; try clear hcz20_0; try clear hcz20_1; try clear hcz20_2; try clear hcz25_0; try clear hcz25_1; try clear hcz25_2; try clear hcz26_0; try clear hcz26_1; try clear hcz26_2; try clear hcz26_3; try clear hcz26_4; try clear hcz29_0; try clear hcz29_1; try clear hcz29_2; try clear hcz31_0; try clear hcz31_1; try clear hcz31_2; try clear hfz11_0; try clear hfz11_1; try clear hfz11_2; try clear hfz11_3; try clear hfz11_4; try clear hfz15_0; try clear hfz15_1; try clear hfz15_2; try clear hfz15_3; try clear hfz15_4; try clear hfz20_0; try clear hfz20_1; try clear hfz20_2; try clear hfz25_0; try clear hfz25_1; try clear hfz25_2; try clear hfz26_0; try clear hfz26_1; try clear hfz26_2; try clear hfz26_3; try clear hfz26_4; try clear hfz29_0; try clear hfz29_1; try clear hfz29_2; try clear hfz31_0; try clear hfz31_1; try clear hfz31_2
 obtain ⟨kq, x41_17, rfl, HA, HJ17, HO_1, HO_692004, BK690, BK691, HK, HB⟩ := hcut
 cases kq with
 | zero => exact absurd HA.out (by simp [spec_Layout_value.j0])
 | succ kj17 =>
 have H := HA.out
 clear HA
 simp only [spec_Layout_value.j0] at H
 have HC32 := Aside0.mk H
 clear H
 go_upto_if 41 with (fail)
 go_cut [] (fun wc => ∃ (kq : Nat), Aside0 (spec_Layout_value.j1 kq l1 a2 a4 a0_0 a0_1 a0_2 a3_0 a3_1 a3_2 l3_3 l3_4 = some r) ∧ Aside0 (kq ≤ kj17) ∧ Aside0 (Kd.R (Kd.int .u8) 5 wc w0.heap.size (fun k_ => (P1_ k_ ∨ w.heap.size ≤ k_)) u9000_ l1) ∧ Aside0 (Kd.V k28 28 wc w0.heap.size (fun k_ => ((P1_ k_ ∨ P3_4_ k_) ∨ w.heap.size ≤ k_) ∧ some k_ ≠ (u9000_ : Value).ownBlock ∧ k_ ≠ gb690 ∧ k_ ≠ gb691) (.slice A3_4 l3_4.length c3_4) l3_4) ∧ Aside0 (wc.heap[gb690]? = some (.cells #[.string a0_0, .string a0_1, .int .i64 a0_2] 36 (0, 0))) ∧ Aside0 (wc.heap[gb691]? = some (.cells #[.int .i64 a3_0, .int .i64 a3_1, .int .i64 a3_2, (.slice A3_3 l3_3.length c3_3), (.slice A3_4 l3_4.length c3_4)] 28 (0, 0))) ∧ Aside0 (Kept w wc (fun k_ => P1_ k_)) ∧ Aside0 (Below w0.heap.size w0 wc))
 case first =>
  have H := HC32.out
  clear HC32
  by_cases c33 : x41_17 = true
  rotate_left
  ·
   replace c33 := Bool.eq_false_iff.mpr c33
   subst c33
   rw [if_neg (show ¬ (false = true) from Z2)] at H
   have H' := Aside0.mk H
   clear H
   go_wp2
   go_meet
   case rel => exact ⟨_, H', ⟨by have := HJ17.out; first | omega | exact Nat.le_refl _⟩, ⟨pR HO_1.out⟩, ⟨pV HO_692004.out⟩, ⟨pB BK690.out⟩, ⟨pB BK691.out⟩, ⟨Z14⟩, ⟨Z15⟩⟩
  subst c33
  rw [if_pos rfl] at H
  replace H := Option.bind_eq_some_iff.mp H
  obtain ⟨t696, A340, H⟩ := H
  have A34 := Aside0.mk A340
  clear A340
  have HC35 := Aside0.mk H
  clear H
  have hnb36 := NB691_690.out
  have hnc36 := NB690_691.out
  have hcz37_0 : wc.cell? ⟨gb691, 0, none⟩ = some (.int .i64 a3_0) := (blk_cell BK691.out 0).trans rfl
  have hcz37_1 : wc.cell? ⟨gb691, 1, none⟩ = some (.int .i64 a3_1) := (blk_cell BK691.out 1).trans rfl
  have hcz37_2 : wc.cell? ⟨gb691, 2, none⟩ = some (.int .i64 a3_2) := (blk_cell BK691.out 2).trans rfl
  have hcz37_3 : wc.cell? ⟨gb691, 3, none⟩ = some (.slice A3_3 l3_3.length c3_3) := (blk_cell BK691.out 3).trans rfl
  have hcz37_4 : wc.cell? ⟨gb691, 4, none⟩ = some (.slice A3_4 l3_4.length c3_4) := (blk_cell BK691.out 4).trans rfl
  have hfz37_0 := blk_frozen BK691.out 0
  have hfz37_1 := blk_frozen BK691.out 1
  have hfz37_2 := blk_frozen BK691.out 2
  have hfz37_3 := blk_frozen BK691.out 3
  have hfz37_4 := blk_frozen BK691.out 4
  go_upto_if 48 with (first | ((with_reducible refine gate_callee (f := 22) rfl ?_); refine goesL_ (some 44) rfl rfl Try.func22 Z1 rfl #[.slice none 0 0, .string a2, .agg #[.int .i64 a3_0, .int .i64 a3_1, .int .i64 a3_2, .slice A3_3 l3_3.length c3_3, .slice A3_4 l3_4.length c3_4]] rfl Z13 ?_; (refine (spec_lineTo.calls kj17 (fun k_ => some k_ = (.slice none 0 0 : Value).ownBlock) (.slice none 0 0) ([] : List Int) a2 a3_0 a3_1 a3_2 _ _ l3_3 (fun k_ => (((P1_ k_ ∨ P3_4_ k_) ∨ w.heap.size ≤ k_) ∧ (some k_ ≠ (u9000_ : Value).ownBlock ∧ (k_ ≠ gb690 ∧ k_ ≠ gb691)))) _ _ l3_4 t696 w0 _ ?side1 ?side2 ?side3 ?side4 ?side5 A34.out).mono ?_); (case side1 => exact Z15); (case side2 => exact Kd.R_nil _ _ _ _ _); (case side3 => exact Kd.C_kept_call HR3_3.out Z14 (fun k_ hs_ => (fun e_ => Z41) hs_)); (case side4 => exact HC3_3.out); (case side5 => exact Kd.V_mono (HO_692004.out) (fun k_ hk_ => ⟨hk_, Z56⟩)); rintro e w38 ⟨v697, rfl, ho0, hb, hkp⟩; refine ⟨_, rfl, ?_⟩; have n0_ := Aside0.mk (Kd.R_mono (ok' := fun k_ => (P1_ k_ ∨ w.heap.size ≤ k_) ∧ some k_ ≠ (v697 : Value).ownBlock) (Kd.R_keptB (HO_1.out) hkp (fun k_ hk_ hs_ => (fun e_ => Z41) hs_)) (fun k_ hk_ => ⟨hk_.1, fun e_ => Or.elim (ho0.1 k_ e_.symm) (fun hs_ => hk_.2.1 hs_) (fun hn_ => Nat.not_le.2 hk_.2.2 hn_)⟩)); have n1_ := Aside0.mk (Kd.V_mono (ok' := fun k_ => ((P1_ k_ ∨ P3_4_ k_) ∨ w.heap.size ≤ k_) ∧ some k_ ≠ (u9000_ : Value).ownBlock ∧ k_ ≠ gb690 ∧ k_ ≠ gb691 ∧ some k_ ≠ (v697 : Value).ownBlock) (Kd.V_keptB (HO_692004.out) hkp (fun k_ hk_ hs_ => (fun e_ => Z41) hs_)) (fun k_ hk_ => ⟨hk_.1.1, hk_.1.2.1, hk_.1.2.2.1, hk_.1.2.2.2, fun e_ => Or.elim (ho0.1 k_ e_.symm) (fun hs_ => hk_.2.1 hs_) (fun hn_ => Nat.not_le.2 hk_.2.2 hn_)⟩)); have n2_ := Aside0.mk (blk_kept (pB BK690.out) hkp (fun hs_ => (fun e_ => Z41) hs_)); have n3_ := Aside0.mk (blk_kept (pB BK691.out) hkp (fun hs_ => (fun e_ => Z41) hs_)); have n4_ := Aside0.mk (Kd.R_mono (ok' := fun k_ => (P1_ k_ ∨ w.heap.size ≤ k_) ∧ some k_ ≠ (u9000_ : Value).ownBlock) ho0 (fun k_ hk_ => ⟨Or.elim hk_ (fun hs_ => absurd hs_ Z56) (fun hn_ => (.inr (Nat.le_trans Z120 hn_))), Or.elim hk_ (fun hs_ => absurd hs_ Z56) (fun hn_ => (Kd.fresh' (Kd.R_lt (pR HO_1.out)) k_ hn_))⟩)); have n5_ := Aside0.mk (Kept.then_ (S := (fun k_ => P1_ k_)) Z14 hkp (fun k_ hs_ => (fun e_ => Z41) hs_)); have n6_ := Aside0.mk (hb); clear HO_1; clear HO_692004; clear BK690; clear BK691; clear HK; clear HB; have HO_1 := n0_; have HO_692004 := n1_; have BK690 := n2_; have BK691 := n3_; have HO698 := n4_; have HK := n5_; have HB := n6_; clear n0_ n1_ n2_ n3_ n4_ n5_ n6_; (try clear hb); (try clear hkp); (try clear ho0); obtain ⟨Ao39, co39, eo39⟩ := Kd.R_slice HO698.out; subst eo39))
  (try simp only [Act.put, List.setIfInBounds_toArray, List.set_cons_zero, List.set_cons_succ])
  have H := HC35.out
  clear HC35
  by_cases c40 : (t696.length : Int) ≤ (wrap64 (a0_2 - a5))
  rotate_left
  ·
   rw [if_neg c40] at H
   have c40b0 := decide_eq_false c40
   clear c40
   (first | rw [c40b0] | (simp only [i64_w, i32_w]; rw [c40b0]) | skip)
   have H' := Aside0.mk H
   clear H
   go_wp2
   go_meet
   case rel => exact ⟨_, H', ⟨by have := HJ17.out; first | omega | exact Nat.le_refl _⟩, ⟨by (with_reducible repeat (first | apply Kd.R_alloc | apply Kd.R_drewN | apply Kd.R_drew)); exact Kd.R_mono HO_1.out (fun _ hk => hk.1)⟩, ⟨by (with_reducible repeat (first | apply Kd.V_alloc | apply Kd.V_drewN | apply Kd.V_drew)); exact Kd.V_mono HO_692004.out (fun _ hk => ⟨hk.1, ⟨hk.2.1, ⟨hk.2.2.1, hk.2.2.2.1⟩⟩⟩)⟩, ⟨pB BK690.out⟩, ⟨pB BK691.out⟩, ⟨Z14⟩, ⟨Z15⟩⟩
  rw [if_pos c40] at H
  have c40b0 := decide_eq_true c40
  clear c40
  (first | rw [c40b0] | (simp only [i64_w, i32_w]; rw [c40b0]) | skip)
  by_cases c41 : l1.length + t696.length < 140737488355328
  rotate_left
  ·
   rw [if_neg c41] at H
   exact absurd H Z4
  rw [if_pos c41] at H
  have LMc41 := Aside0.mk c41
  clear c41
  obtain ⟨y699, hy699⟩ : ∃ y_ : List Int, y_ = (l1 ++ t696) := ⟨_, rfl⟩
  first | replace H := bind_y hy699 H | rw [← hy699] at H
  have Ny699 := Aside0.mk hy699
  clear hy699
  obtain rfl := Option.some.inj H
  go_wp2_with (first | ((with_reducible refine gate_builtin (b := .append) (xs := #[.tmp 49, .tmp 50]) rfl ?_); at_builtin; refine Kd.R_append_rows (Kd.int .u8) (w0 := w0) w0.heap.size rfl (.tmp 49) (.tmp 50) 40 5 (.int .u8 0) 1 rfl Try.underlying40 info5 rfl Z2 Z5 u9000_ l1 t696 _ _ _ (fun k_ => (P1_ k_ ∨ w.heap.size ≤ k_) ∧ some k_ ≠ (.slice Ao39 t696.length co39 : Value).ownBlock) (fun _ => False) rfl rfl ?aO ?aR (fun _ _ h => h) (fun _ h => h.elim) ?aF ?aB ?aS ?aL ?_; (case aR => repeat (first | exact (Kd.R_reads' HO698.out).2.2 | (with_reducible refine Kd.C_alloc ?_ _) | (with_reducible refine Kd.C_drewN ?_ _) | (with_reducible refine Kd.C_drew ?_))); (case aB => exact Z15); (case aF => exact (fun k_ hk => ⟨(.inr (Nat.le_trans Z120 hk)), Kd.fresh' (Kd.R_lt (pR HO698.out)) k_ hk⟩)); (case aO => exact (pR HO_1.out)); (case aS => exact (below_size Z15)); (case aL => have := LMc41.out; omega); intro v700 w42 ho hb hg hat; rw [← Ny699.out] at ho; have n0_ := Aside0.mk (Kd.V_afterv (ok := (fun k_ => ((P1_ k_ ∨ P3_4_ k_) ∨ w.heap.size ≤ k_) ∧ some k_ ≠ (.slice Ao39 t696.length co39 : Value).ownBlock ∧ k_ ≠ gb690 ∧ k_ ≠ gb691)) (by (with_reducible repeat (first | apply Kd.V_alloc | apply Kd.V_drewN | apply Kd.V_drew)); exact Kd.V_mono HO_692004.out (fun _ hk => ⟨⟨hk.1, ⟨hk.2.2.2.2, ⟨hk.2.2.1, hk.2.2.2.1⟩⟩⟩, hk.2.1⟩)) hg hat); have n1_ := Aside0.mk (blk_grown (g := gb690) (o := .cells #[.string a0_0, .string a0_1, .int .i64 a0_2] 36 (0, 0)) (pB BK690.out) hg (Kd.R_ne HO_1.out BK690.out Z2)); have n2_ := Aside0.mk (blk_grown (g := gb691) (o := .cells #[.int .i64 a3_0, .int .i64 a3_1, .int .i64 a3_2, .slice A3_3 l3_3.length c3_3, .slice A3_4 l3_4.length c3_4] 28 (0, 0)) (pB BK691.out) hg (Kd.R_ne HO_1.out BK691.out Z2)); have n3_ := Aside0.mk (Kd.R_after (ok := (fun k_ => (P1_ k_ ∨ w.heap.size ≤ k_))) (pR HO698.out) hg hat); have n4_ := Aside0.mk (hb); have n5_ := Aside0.mk (Kept.of_grown (S := (fun k_ => P1_ k_)) hg Z14 (fun k_ e_ => (HO_1.out.1 k_ e_).1)); have n6_ := Aside0.mk (ho); clear HO_692004; clear BK690; clear BK691; clear HO698; clear HB; clear HK; clear HO_1; have HO_692004 := n0_; have BK690 := n1_; have BK691 := n2_; have HO698 := n3_; have HB := n4_; have HK := n5_; have HO701 := n6_; clear n0_ n1_ n2_ n3_ n4_ n5_ n6_; clear ho hb hg hat))
  go_ret
  exact ⟨_, Z12, by (with_reducible repeat (first | apply Kd.R_alloc | apply Kd.R_drewN | apply Kd.R_drew)); exact Kd.R_mono HO701.out (fun _ hk => hk.1), Z15, Z14⟩
 clear HC32; try clear c1; try clear c2; try clear p2; try clear c3; try clear c4; try clear p6; try clear c10; try clear c12; try clear c12b0; try clear c12b1; try clear c12b2; try clear c14; try clear c16; try clear c19; try clear c20; try clear c21; try clear c21b0; try clear c22; try clear c22b0; try clear c24; try clear c28; try clear c30; try clear c33; try clear c36; try clear c40; try clear c40b0; try clear c41; try clear hcz11_0; try clear hcz11_1; try clear hcz11_2; try clear hcz11_3; try clear hcz11_4; try clear hcz15_0; try clear hcz15_1; try clear hcz15_2; try clear hcz15_3; try clear hcz15_4; try clear hcz20_0; try clear hcz20_1; try clear hcz20_2; try clear hcz25_0; try clear hcz25_1; try clear hcz25_2; try clear hcz26_0; try clear hcz26_1; try clear hcz26_2; try clear hcz26_3; try clear hcz26_4; try clear hcz29_0; try clear hcz29_1; try clear hcz29_2; try clear hcz31_0; try clear hcz31_1; try clear hcz31_2; try clear hcz37_0; try clear hcz37_1; try clear hcz37_2; try clear hcz37_3; try clear hcz37_4; try clear hfz11_0; try clear hfz11_1; try clear hfz11_2; try clear hfz11_3; try clear hfz11_4; try clear hfz15_0; try clear hfz15_1; try clear hfz15_2; try clear hfz15_3; try clear hfz15_4; try clear hfz20_0; try clear hfz20_1; try clear hfz20_2; try clear hfz25_0; try clear hfz25_1; try clear hfz25_2; try clear hfz26_0; try clear hfz26_1; try clear hfz26_2; try clear hfz26_3; try clear hfz26_4; try clear hfz29_0; try clear hfz29_1; try clear hfz29_2; try clear hfz31_0; try clear hfz31_1; try clear hfz31_2; try clear hfz37_0; try clear hfz37_1; try clear hfz37_2; try clear hfz37_3; try clear hfz37_4; try clear p2; try clear p6
 obtain ⟨kq, HA, HJ31, HO_1, HO_692004, BK690, BK691, HK, HB⟩ := hcut
 cases kq with
 | zero => exact absurd HA.out (by simp [spec_Layout_value.j1])
 | succ kj31 =>
 have H := HA.out
 clear HA
 simp only [spec_Layout_value.j1] at H
 by_cases c43 : a3_0 = 5
 ·
  rw [if_pos c43] at H
  have c43b0 := beq_iff_eq.mpr c43
  have c43b1 := bne_eq_false_iff_eq.mpr c43
  clear c43
  replace H := Option.bind_eq_some_iff.mp H
  obtain ⟨t702, A440, H⟩ := H
  have A44 := Aside0.mk A440
  clear A440
  obtain rfl := Option.some.inj H
  have hnb45 := NB691_690.out
  have hnc45 := NB690_691.out
  have hcz46_0 : wc.cell? ⟨gb691, 0, none⟩ = some (.int .i64 a3_0) := (blk_cell BK691.out 0).trans rfl
  have hcz46_1 : wc.cell? ⟨gb691, 1, none⟩ = some (.int .i64 a3_1) := (blk_cell BK691.out 1).trans rfl
  have hcz46_2 : wc.cell? ⟨gb691, 2, none⟩ = some (.int .i64 a3_2) := (blk_cell BK691.out 2).trans rfl
  have hcz46_3 : wc.cell? ⟨gb691, 3, none⟩ = some (.slice A3_3 l3_3.length c3_3) := (blk_cell BK691.out 3).trans rfl
  have hcz46_4 : wc.cell? ⟨gb691, 4, none⟩ = some (.slice A3_4 l3_4.length c3_4) := (blk_cell BK691.out 4).trans rfl
  have hfz46_0 := blk_frozen BK691.out 0
  have hfz46_1 := blk_frozen BK691.out 1
  have hfz46_2 := blk_frozen BK691.out 2
  have hfz46_3 := blk_frozen BK691.out 3
  have hfz46_4 := blk_frozen BK691.out 4
  have hcz47_0 : wc.cell? ⟨gb690, 0, none⟩ = some (.string a0_0) := (blk_cell BK690.out 0).trans rfl
  have hcz47_1 : wc.cell? ⟨gb690, 1, none⟩ = some (.string a0_1) := (blk_cell BK690.out 1).trans rfl
  have hcz47_2 : wc.cell? ⟨gb690, 2, none⟩ = some (.int .i64 a0_2) := (blk_cell BK690.out 2).trans rfl
  have hfz47_0 := blk_frozen BK690.out 0
  have hfz47_1 := blk_frozen BK690.out 1
  have hfz47_2 := blk_frozen BK690.out 2
  obtain ⟨Ao48, co48, eo48⟩ := Kd.R_slice HO_1.out
  subst eo48
  go_wp2_with (first | ((with_reducible refine gate_callee (f := 23) rfl ?_); refine goesL_ (some 60) rfl rfl Try.func23 Z1 rfl #[.agg #[.string a0_0, .string a0_1, .int .i64 a0_2], .slice Ao48 l1.length co48, .string a2, .agg #[.int .i64 a3_0, .int .i64 a3_1, .int .i64 a3_2, .slice A3_3 l3_3.length c3_3, .slice A3_4 l3_4.length c3_4], .string a4] rfl Z13 ?_; (with_reducible refine (ih_23_ kj31 (by have := HJ17.out; have := HJ31.out; omega) a0_0 a0_1 a0_2 (fun k_ => some k_ = (.slice Ao48 l1.length co48 : Value).ownBlock) (.slice Ao48 l1.length co48) l1 a2 a3_0 a3_1 a3_2 _ _ l3_3 (fun k_ => (((P1_ k_ ∨ P3_4_ k_) ∨ w.heap.size ≤ k_) ∧ (some k_ ≠ (.slice Ao48 l1.length co48 : Value).ownBlock ∧ (k_ ≠ gb690 ∧ k_ ≠ gb691)))) _ _ l3_4 a4 t702 w0 _ ?side1 ?side2 ?side3 ?side4 ?side5 A44.out).mono ?_); (case side1 => exact Z15); (case side2 => exact Kd.R_tight rfl HO_1.out); (case side3 => exact Kd.C_kept_call HR3_3.out Z14 (fun k_ hs_ => (fun e_ => (HO_1.out.1 k_ e_.symm)) hs_)); (case side4 => exact HC3_3.out); (case side5 => exact Kd.V_mono (HO_692004.out) (fun k_ hk_ => ⟨hk_, hk_.2.1⟩)); rintro e w49 ⟨v703, rfl, ho0, hb, hkp⟩; refine ⟨_, rfl, ?_⟩; have n0_ := Aside0.mk (Kd.V_mono (ok' := fun k_ => ((P1_ k_ ∨ P3_4_ k_) ∨ w.heap.size ≤ k_) ∧ k_ ≠ gb690 ∧ k_ ≠ gb691 ∧ some k_ ≠ (v703 : Value).ownBlock) (Kd.V_keptB (HO_692004.out) hkp (fun k_ hk_ hs_ => (hk_.2.1) hs_)) (fun k_ hk_ => ⟨hk_.1.1, hk_.1.2.2.1, hk_.1.2.2.2, fun e_ => Or.elim (ho0.1 k_ e_.symm) (fun hs_ => hk_.2.1 hs_) (fun hn_ => Nat.not_le.2 hk_.2.2 hn_)⟩)); have n1_ := Aside0.mk (blk_kept (pB BK690.out) hkp (fun hs_ => (fun e_ => (Kd.R_ne HO_1.out BK690.out Z2) e_) hs_)); have n2_ := Aside0.mk (blk_kept (pB BK691.out) hkp (fun hs_ => (fun e_ => (Kd.R_ne HO_1.out BK691.out Z2) e_) hs_)); have n3_ := Aside0.mk (Kd.R_mono (ok' := fun k_ => (P1_ k_ ∨ w.heap.size ≤ k_)) ho0 (fun k_ hk_ => Or.elim hk_ (fun hs_ => (HO_1.out.1 k_ (hs_).symm)) (fun hn_ => (.inr (Nat.le_trans Z120 hn_))))); have n4_ := Aside0.mk (Kept.then_ (S := (fun k_ => P1_ k_)) Z14 hkp (fun k_ hs_ => (fun e_ => (HO_1.out.1 k_ e_.symm)) hs_)); have n5_ := Aside0.mk (hb); clear HO_692004; clear BK690; clear BK691; clear HK; clear HB; clear HO_1; have HO_692004 := n0_; have BK690 := n1_; have BK691 := n2_; have HO704 := n3_; have HK := n4_; have HB := n5_; clear n0_ n1_ n2_ n3_ n4_ n5_; (try clear hb); (try clear hkp); (try clear ho0)))
  go_ret
  exact ⟨_, Z12, pR HO704.out, Z15, Z14⟩
 rw [if_neg c43] at H
 have c43b0 := beq_eq_false_iff_ne.mpr c43
 have c43b1 := bne_iff_ne.mpr c43
 by_cases c50 : a4.size + a0_1.size ≤ 9223372036854775807
 rotate_left
 ·
  rw [if_neg c50] at H
  exact absurd H Z4
 rw [if_pos c50] at H
 have c50b0 := eq_true c50
 have c50b1 := decide_eq_true c50
 try have c50b2 : (9223372036854775807 < a4.size + a0_1.size) = False := eq_false (Nat.not_lt.2 c50)
 by_cases c51 : l1.length < 140737488355328
 rotate_left
 ·
  rw [if_neg c51] at H
  exact absurd H Z4
 rw [if_pos c51] at H
 have LMc51 := Aside0.mk c51
 clear c51
 obtain ⟨y705, hy705⟩ : ∃ y_ : List Int, y_ = (l1 ++ [123]) := ⟨_, rfl⟩
 first | replace H := bind_y hy705 H | rw [← hy705] at H
 have Ny705 := Aside0.mk hy705
 clear hy705
 have H' := Aside0.mk H
 clear H
 have hnb52 := NB691_690.out
 have hnc52 := NB690_691.out
 have hcz53_0 : wc.cell? ⟨gb691, 0, none⟩ = some (.int .i64 a3_0) := (blk_cell BK691.out 0).trans rfl
 have hcz53_1 : wc.cell? ⟨gb691, 1, none⟩ = some (.int .i64 a3_1) := (blk_cell BK691.out 1).trans rfl
 have hcz53_2 : wc.cell? ⟨gb691, 2, none⟩ = some (.int .i64 a3_2) := (blk_cell BK691.out 2).trans rfl
 have hcz53_3 : wc.cell? ⟨gb691, 3, none⟩ = some (.slice A3_3 l3_3.length c3_3) := (blk_cell BK691.out 3).trans rfl
 have hcz53_4 : wc.cell? ⟨gb691, 4, none⟩ = some (.slice A3_4 l3_4.length c3_4) := (blk_cell BK691.out 4).trans rfl
 have hfz53_0 := blk_frozen BK691.out 0
 have hfz53_1 := blk_frozen BK691.out 1
 have hfz53_2 := blk_frozen BK691.out 2
 have hfz53_3 := blk_frozen BK691.out 3
 have hfz53_4 := blk_frozen BK691.out 4
 have hcz54_0 : wc.cell? ⟨gb690, 0, none⟩ = some (.string a0_0) := (blk_cell BK690.out 0).trans rfl
 have hcz54_1 : wc.cell? ⟨gb690, 1, none⟩ = some (.string a0_1) := (blk_cell BK690.out 1).trans rfl
 have hcz54_2 : wc.cell? ⟨gb690, 2, none⟩ = some (.int .i64 a0_2) := (blk_cell BK690.out 2).trans rfl
 have hfz54_0 := blk_frozen BK690.out 0
 have hfz54_1 := blk_frozen BK690.out 1
 have hfz54_2 := blk_frozen BK690.out 2
 go_wp2_with (first | ((with_reducible refine gate_builtin (b := .append) (xs := #[.tmp 65, .tmp 66]) rfl ?_); at_builtin; refine Kd.R_append (Kd.int .u8) (w0 := w0) w0.heap.size rfl (.tmp 65) (.tmp 66) 40 5 (.int .u8 0) 1 rfl Try.underlying40 info5 rfl Z2 Z5 u9000_ l1 123 [.int .u8 123] (fun k_ => (P1_ k_ ∨ w.heap.size ≤ k_)) (fun _ => False) rfl rfl ?aP (fun _ hk => hk.elim) ?aF ?aO ?aB ?aS ?aL ?_; (case aP => exact rfl); (case aB => exact Z15); (case aF => exact (fun k_ hk => (.inr (Nat.le_trans Z120 hk)))); (case aO => exact (pR HO_1.out)); (case aS => exact (below_size Z15)); (case aL => have := LMc51.out; omega); intro v706 w55 ho hb hg hat; rw [← Ny705.out] at ho; have n0_ := Aside0.mk (Kd.V_afterv (ok := (fun k_ => ((P1_ k_ ∨ P3_4_ k_) ∨ w.heap.size ≤ k_) ∧ k_ ≠ gb690 ∧ k_ ≠ gb691)) Z75 hg hat); have n1_ := Aside0.mk (blk_grown (g := gb690) (o := .cells #[.string a0_0, .string a0_1, .int .i64 a0_2] 36 (0, 0)) (pB BK690.out) hg (Kd.R_ne HO_1.out BK690.out Z2)); have n2_ := Aside0.mk (blk_grown (g := gb691) (o := .cells #[.int .i64 a3_0, .int .i64 a3_1, .int .i64 a3_2, .slice A3_3 l3_3.length c3_3, .slice A3_4 l3_4.length c3_4] 28 (0, 0)) (pB BK691.out) hg (Kd.R_ne HO_1.out BK691.out Z2)); have n3_ := Aside0.mk (hb); have n4_ := Aside0.mk (Kept.of_grown (S := (fun k_ => P1_ k_)) hg Z14 (fun k_ e_ => (HO_1.out.1 k_ e_))); have n5_ := Aside0.mk (ho); clear HO_692004; clear BK690; clear BK691; clear HB; clear HK; clear HO_1; have HO_692004 := n0_; have BK690 := n1_; have BK691 := n2_; have HB := n3_; have HK := n4_; have HO707 := n5_; clear n0_ n1_ n2_ n3_ n4_ n5_; clear ho hb hg hat; have hcz56_0 : w55.cell? ⟨gb691, 0, none⟩ = some (.int .i64 a3_0) := (blk_cell BK691.out 0).trans rfl; have hcz56_1 : w55.cell? ⟨gb691, 1, none⟩ = some (.int .i64 a3_1) := (blk_cell BK691.out 1).trans rfl; have hcz56_2 : w55.cell? ⟨gb691, 2, none⟩ = some (.int .i64 a3_2) := (blk_cell BK691.out 2).trans rfl; have hcz56_3 : w55.cell? ⟨gb691, 3, none⟩ = some (.slice A3_3 l3_3.length c3_3) := (blk_cell BK691.out 3).trans rfl; have hcz56_4 : w55.cell? ⟨gb691, 4, none⟩ = some (.slice A3_4 l3_4.length c3_4) := (blk_cell BK691.out 4).trans rfl; have hfz56_0 := blk_frozen BK691.out 0; have hfz56_1 := blk_frozen BK691.out 1; have hfz56_2 := blk_frozen BK691.out 2; have hfz56_3 := blk_frozen BK691.out 3; have hfz56_4 := blk_frozen BK691.out 4))
 (try simp only [Act.put, List.setIfInBounds_toArray, List.set_cons_succ, List.set_cons_zero])
 go_loopg [1, 71] kj31 (fun kq v1 v71 w' => ∃ (x1_3 : List Int) (x71_3 : Int), v71 = .int .i64 x71_3 ∧ Aside0 (spec_Layout_value.l0 kq x1_3 a2 a4 (a4 ++ a0_1) (l3_4.length : Int) x71_3 a0_0 a0_1 a0_2 a3_0 a3_1 a3_2 l3_3 l3_4 = some r) ∧ Aside0 (kq ≤ kj31) ∧ Aside0 (Kd.R (Kd.int .u8) 5 w' w0.heap.size (fun k_ => (P1_ k_ ∨ w.heap.size ≤ k_)) v1 x1_3) ∧ Aside0 (Kd.V k28 28 w' w0.heap.size (fun k_ => ((P1_ k_ ∨ P3_4_ k_) ∨ w.heap.size ≤ k_) ∧ some k_ ≠ (v1 : Value).ownBlock ∧ k_ ≠ gb690 ∧ k_ ≠ gb691) (.slice A3_4 l3_4.length c3_4) l3_4) ∧ Aside0 (w'.heap[gb690]? = some (.cells #[.string a0_0, .string a0_1, .int .i64 a0_2] 36 (0, 0))) ∧ Aside0 (w'.heap[gb691]? = some (.cells #[.int .i64 a3_0, .int .i64 a3_1, .int .i64 a3_2, (.slice A3_3 l3_3.length c3_3), (.slice A3_4 l3_4.length c3_4)] 28 (0, 0))) ∧ Aside0 (Kept w w' (fun k_ => P1_ k_)) ∧ Aside0 (Below w0.heap.size w0 w'))
 case atStart => exact ⟨(y705), (0), Z8, H', ⟨Nat.le_refl _⟩, ⟨pR HO707.out⟩, ⟨by (with_reducible repeat (first | apply Kd.V_alloc | apply Kd.V_drewN | apply Kd.V_drew)); exact Kd.V_mono HO_692004.out (fun _ hk => ⟨hk.1.1, ⟨hk.2, ⟨hk.1.2.1, hk.1.2.2⟩⟩⟩)⟩, ⟨pB BK690.out⟩, ⟨pB BK691.out⟩, ⟨Z14⟩, ⟨Z15⟩⟩
 clear H'
 try clear c1; try clear c2; try clear p2; try clear c3; try clear c4; try clear c5; try clear p6; try clear c10; try clear c12; try clear c12b0; try clear c12b1; try clear c12b2; try clear c14; try clear c16; try clear c19; try clear c20; try clear c21; try clear c21b0; try clear c22; try clear c22b0; try clear c23; try clear c24; try clear c28; try clear c30; try clear c33; try clear c36; try clear c40; try clear c40b0; try clear c41; try clear c43; try clear c43b0; try clear c43b1; try clear c45; try clear c50; try clear c50b0; try clear c50b1; try clear c50b2; try clear c51; try clear c52; try clear hcz11_0; try clear hcz11_1; try clear hcz11_2; try clear hcz11_3; try clear hcz11_4; try clear hcz15_0; try clear hcz15_1; try clear hcz15_2; try clear hcz15_3; try clear hcz15_4; try clear hcz20_0; try clear hcz20_1; try clear hcz20_2; try clear hcz25_0; try clear hcz25_1; try clear hcz25_2; try clear hcz26_0; try clear hcz26_1; try clear hcz26_2; try clear hcz26_3; try clear hcz26_4; try clear hcz29_0; try clear hcz29_1; try clear hcz29_2; try clear hcz31_0; try clear hcz31_1; try clear hcz31_2; try clear hcz37_0; try clear hcz37_1; try clear hcz37_2; try clear hcz37_3; try clear hcz37_4; try clear hcz46_0; try clear hcz46_1; try clear hcz46_2; try clear hcz46_3; try clear hcz46_4; try clear hcz47_0; try clear hcz47_1; try clear hcz47_2; try clear hcz53_0; try clear hcz53_1; try clear hcz53_2; try clear hcz53_3; try clear hcz53_4; try clear hcz54_0; try clear hcz54_1; try clear hcz54_2; try clear hcz56_0; try clear hcz56_1; try clear hcz56_2; try clear hcz56_3; try clear hcz56_4; try clear hfz11_0; try clear hfz11_1; try clear hfz11_2; try clear hfz11_3; try clear hfz11_4; try clear hfz15_0; try clear hfz15_1; try clear hfz15_2; try clear hfz15_3; try clear hfz15_4; try clear hfz20_0; try clear hfz20_1; try clear hfz20_2; try clear hfz25_0; try clear hfz25_1; try clear hfz25_2; try clear hfz26_0; try clear hfz26_1; try clear hfz26_2; try clear hfz26_3; try clear hfz26_4; try clear hfz29_0; try clear hfz29_1; try clear hfz29_2; try clear hfz31_0; try clear hfz31_1; try clear hfz31_2; try clear hfz37_0; try clear hfz37_1; try clear hfz37_2; try clear hfz37_3; try clear hfz37_4; try clear hfz46_0; try clear hfz46_1; try clear hfz46_2; try clear hfz46_3; try clear hfz46_4; try clear hfz47_0; try clear hfz47_1; try clear hfz47_2; try clear hfz53_0; try clear hfz53_1; try clear hfz53_2; try clear hfz53_3; try clear hfz53_4; try clear hfz54_0; try clear hfz54_1; try clear hfz54_2; try clear hfz56_0; try clear hfz56_1; try clear hfz56_2; try clear hfz56_3; try clear hfz56_4; try clear p2; try clear p6
 obtain ⟨x1_3, x71_3, rfl, HA, HK3, HO_1, HO_692004, BK690, BK691, HK, HB⟩ := hrel
 cases gk with
 | zero => exact absurd HA.out (by simp [spec_Layout_value.l0])
 | succ k3 =>
 have H := HA.out
 clear HA
 simp only [spec_Layout_value.l0] at H
 by_cases c57 : x71_3 < (l3_4.length : Int)
 rotate_left
 ·
  rw [if_neg c57] at H
  have c57b0 := decide_eq_false c57
  clear c57
  by_cases c105 : x1_3.length < 140737488355328
  rotate_left
  ·
   rw [if_neg c105] at H
   exact absurd H Z4
  rw [if_pos c105] at H
  have LMc105 := Aside0.mk c105
  clear c105
  obtain ⟨y753, hy753⟩ : ∃ y_ : List Int, y_ = (x1_3 ++ [10]) := ⟨_, rfl⟩
  first | replace H := bind_y hy753 H | rw [← hy753] at H
  have Ny753 := Aside0.mk hy753
  clear hy753
  by_cases c106 : y753.length + a4.size < 140737488355328
  rotate_left
  ·
   rw [if_neg c106] at H
   exact absurd H Z4
  rw [if_pos c106] at H
  have LMc106 := Aside0.mk c106
  clear c106
  obtain ⟨y756, hy756⟩ : ∃ y_ : List Int, y_ = (y753 ++ bytesOf a4) := ⟨_, rfl⟩
  first | replace H := bind_y hy756 H | rw [← hy756] at H
  have Ny756 := Aside0.mk hy756
  clear hy756
  by_cases c107 : y756.length < 140737488355328
  rotate_left
  ·
   rw [if_neg c107] at H
   exact absurd H Z4
  rw [if_pos c107] at H
  have LMc107 := Aside0.mk c107
  clear c107
  obtain ⟨y759, hy759⟩ : ∃ y_ : List Int, y_ = (y756 ++ [125]) := ⟨_, rfl⟩
  first | replace H := bind_y hy759 H | rw [← hy759] at H
  have Ny759 := Aside0.mk hy759
  clear hy759
  obtain rfl := Option.some.inj H
  go_wp2_with (first | ((with_reducible refine gate_builtin (b := .append) (xs := #[.tmp 122, .tmp 123]) rfl ?_); at_builtin; refine Kd.R_append (Kd.int .u8) (w0 := w0) w0.heap.size rfl (.tmp 122) (.tmp 123) 40 5 (.int .u8 0) 1 rfl Try.underlying40 info5 rfl Z2 Z5 u1 x1_3 10 [.int .u8 10] (fun k_ => (P1_ k_ ∨ w.heap.size ≤ k_)) (fun _ => False) rfl rfl ?aP (fun _ hk => hk.elim) ?aF ?aO ?aB ?aS ?aL ?_; (case aP => exact rfl); (case aB => exact Z15); (case aF => exact (fun k_ hk => (.inr (Nat.le_trans Z120 hk)))); (case aO => exact (pR HO_1.out)); (case aS => exact (below_size Z15)); (case aL => have := LMc105.out; omega); intro v754 w108 ho hb hg hat; rw [← Ny753.out] at ho; have n0_ := Aside0.mk (Kd.V_afterv (ok := (fun k_ => ((P1_ k_ ∨ P3_4_ k_) ∨ w.heap.size ≤ k_) ∧ k_ ≠ gb690 ∧ k_ ≠ gb691)) Z75 hg hat); have n1_ := Aside0.mk (blk_grown (g := gb690) (o := .cells #[.string a0_0, .string a0_1, .int .i64 a0_2] 36 (0, 0)) (pB BK690.out) hg (Kd.R_ne HO_1.out BK690.out Z2)); have n2_ := Aside0.mk (blk_grown (g := gb691) (o := .cells #[.int .i64 a3_0, .int .i64 a3_1, .int .i64 a3_2, .slice A3_3 l3_3.length c3_3, .slice A3_4 l3_4.length c3_4] 28 (0, 0)) (pB BK691.out) hg (Kd.R_ne HO_1.out BK691.out Z2)); have n3_ := Aside0.mk (hb); have n4_ := Aside0.mk (Kept.of_grown (S := (fun k_ => P1_ k_)) hg Z14 (fun k_ e_ => (HO_1.out.1 k_ e_))); have n5_ := Aside0.mk (ho); clear HO_692004; clear BK690; clear BK691; clear HB; clear HK; clear HO_1; have HO_692004 := n0_; have BK690 := n1_; have BK691 := n2_; have HB := n3_; have HK := n4_; have HO755 := n5_; clear n0_ n1_ n2_ n3_ n4_ n5_; clear ho hb hg hat) | (at_builtin; refine Kd.R_append_str (w0 := w0) w0.heap.size rfl (.tmp 125) _ 40 9 5 rfl Try.underlying40 Try.underlying9 info5 v754 y753 a4 (fun k_ => (P1_ k_ ∨ w.heap.size ≤ k_)) rfl rfl ?aF ?aO ?aB ?aS ?aL ?_; (case aB => exact Z15); (case aF => exact (fun k_ hk => (.inr (Nat.le_trans Z120 hk)))); (case aO => exact (pR HO755.out)); (case aS => exact (below_size Z15)); (case aL => have := LMc106.out; omega); intro v757 w109 ho hb hg hat; rw [← Ny756.out] at ho; have n0_ := Aside0.mk (Kd.V_afterv (ok := (fun k_ => ((P1_ k_ ∨ P3_4_ k_) ∨ w.heap.size ≤ k_) ∧ k_ ≠ gb690 ∧ k_ ≠ gb691)) (pV HO_692004.out) hg hat); have n1_ := Aside0.mk (blk_grown (g := gb690) (o := .cells #[.string a0_0, .string a0_1, .int .i64 a0_2] 36 (0, 0)) (pB BK690.out) hg (Kd.R_ne HO755.out BK690.out Z2)); have n2_ := Aside0.mk (blk_grown (g := gb691) (o := .cells #[.int .i64 a3_0, .int .i64 a3_1, .int .i64 a3_2, .slice A3_3 l3_3.length c3_3, .slice A3_4 l3_4.length c3_4] 28 (0, 0)) (pB BK691.out) hg (Kd.R_ne HO755.out BK691.out Z2)); have n3_ := Aside0.mk (hb); have n4_ := Aside0.mk (Kept.of_grown (S := (fun k_ => P1_ k_)) hg Z14 (fun k_ e_ => (HO755.out.1 k_ e_))); have n5_ := Aside0.mk (ho); clear HO_692004; clear BK690; clear BK691; clear HB; clear HK; clear HO755; have HO_692004 := n0_; have BK690 := n1_; have BK691 := n2_; have HB := n3_; have HK := n4_; have HO758 := n5_; clear n0_ n1_ n2_ n3_ n4_ n5_; clear ho hb hg hat) | ((with_reducible refine gate_builtin (b := .append) (xs := #[.tmp 128, .tmp 129]) rfl ?_); at_builtin; refine Kd.R_append (Kd.int .u8) (w0 := w0) w0.heap.size rfl (.tmp 128) (.tmp 129) 40 5 (.int .u8 0) 1 rfl Try.underlying40 info5 rfl Z2 Z5 v757 y756 125 [.int .u8 125] (fun k_ => (P1_ k_ ∨ w.heap.size ≤ k_)) (fun _ => False) rfl rfl ?aP (fun _ hk => hk.elim) ?aF ?aO ?aB ?aS ?aL ?_; (case aP => exact rfl); (case aB => exact Z15); (case aF => exact (fun k_ hk => (.inr (Nat.le_trans Z120 hk)))); (case aO => exact (pR HO758.out)); (case aS => exact (below_size Z15)); (case aL => have := LMc107.out; omega); intro v760 w110 ho hb hg hat; rw [← Ny759.out] at ho; have n0_ := Aside0.mk (Kd.V_afterv (ok := (fun k_ => ((P1_ k_ ∨ P3_4_ k_) ∨ w.heap.size ≤ k_) ∧ k_ ≠ gb690 ∧ k_ ≠ gb691)) (pV HO_692004.out) hg hat); have n1_ := Aside0.mk (blk_grown (g := gb690) (o := .cells #[.string a0_0, .string a0_1, .int .i64 a0_2] 36 (0, 0)) (pB BK690.out) hg (Kd.R_ne HO758.out BK690.out Z2)); have n2_ := Aside0.mk (blk_grown (g := gb691) (o := .cells #[.int .i64 a3_0, .int .i64 a3_1, .int .i64 a3_2, .slice A3_3 l3_3.length c3_3, .slice A3_4 l3_4.length c3_4] 28 (0, 0)) (pB BK691.out) hg (Kd.R_ne HO758.out BK691.out Z2)); have n3_ := Aside0.mk (hb); have n4_ := Aside0.mk (Kept.of_grown (S := (fun k_ => P1_ k_)) hg Z14 (fun k_ e_ => (HO758.out.1 k_ e_))); have n5_ := Aside0.mk (ho); clear HO_692004; clear BK690; clear BK691; clear HB; clear HK; clear HO758; have HO_692004 := n0_; have BK690 := n1_; have BK691 := n2_; have HB := n3_; have HK := n4_; have HO761 := n5_; clear n0_ n1_ n2_ n3_ n4_ n5_; clear ho hb hg hat))
  go_ret
  exact ⟨_, Z12, pR HO761.out, Z15, Z14⟩
 rw [if_pos c57] at H
 have c57b0 := decide_eq_true c57
 clear c57
 by_cases c58 : x71_3 > 0
 rotate_left
 ·
  rw [if_neg c58] at H
  have c58b0 := decide_eq_false c58
  clear c58
  by_cases c83 : 0 ≤ x71_3
  rotate_left
  ·
   rw [if_neg c83] at H
   exact absurd H Z4
  rw [if_pos c83] at H
  have c83b0 := decide_eq_true c83
  clear c83
  by_cases c84 : x71_3 < (l3_3.length : Int)
  rotate_left
  ·
   rw [if_neg c84] at H
   exact absurd H Z4
  rw [if_pos c84] at H
  have c84b0 := decide_eq_true c84
  clear c84
  by_cases c85 : 0 ≤ ((rd_T55 l3_3 x71_3).f0)
  rotate_left
  ·
   rw [if_neg c85] at H
   exact absurd H Z4
  rw [if_pos c85] at H
  have c85b0 := eq_true c85
  have c85b1 := decide_eq_true c85
  clear c85
  by_cases c86 : ((rd_T55 l3_3 x71_3).f0) ≤ ((rd_T55 l3_3 x71_3).f1)
  rotate_left
  ·
   rw [if_neg c86] at H
   exact absurd H Z4
  rw [if_pos c86] at H
  have c86b0 := eq_true c86
  have c86b1 := decide_eq_true c86
  clear c86
  by_cases c87 : ((rd_T55 l3_3 x71_3).f1) ≤ (a2.size : Int)
  rotate_left
  ·
   rw [if_neg c87] at H
   exact absurd H Z4
  rw [if_pos c87] at H
  have c87b0 := eq_true c87
  have c87b1 := decide_eq_true c87
  clear c87
  by_cases c88 : x1_3.length < 140737488355328
  rotate_left
  ·
   rw [if_neg c88] at H
   exact absurd H Z4
  rw [if_pos c88] at H
  have LMc88 := Aside0.mk c88
  clear c88
  obtain ⟨y734, hy734⟩ : ∃ y_ : List Int, y_ = (x1_3 ++ [10]) := ⟨_, rfl⟩
  first | replace H := bind_y hy734 H | rw [← hy734] at H
  have Ny734 := Aside0.mk hy734
  clear hy734
  by_cases c89 : y734.length + (a4 ++ a0_1).size < 140737488355328
  rotate_left
  ·
   rw [if_neg c89] at H
   exact absurd H Z4
  rw [if_pos c89] at H
  have LMc89 := Aside0.mk c89
  clear c89
  obtain ⟨y737, hy737⟩ : ∃ y_ : List Int, y_ = (y734 ++ bytesOf (a4 ++ a0_1)) := ⟨_, rfl⟩
  first | replace H := bind_y hy737 H | rw [← hy737] at H
  have Ny737 := Aside0.mk hy737
  clear hy737
  by_cases c90 : y737.length + (a2.extract (((rd_T55 l3_3 x71_3).f0) : Int).toNat (((rd_T55 l3_3 x71_3).f1) : Int).toNat).size < 140737488355328
  rotate_left
  ·
   rw [if_neg c90] at H
   exact absurd H Z4
  rw [if_pos c90] at H
  have LMc90 := Aside0.mk c90
  clear c90
  obtain ⟨y740, hy740⟩ : ∃ y_ : List Int, y_ = (y737 ++ bytesOf (a2.extract (((rd_T55 l3_3 x71_3).f0) : Int).toNat (((rd_T55 l3_3 x71_3).f1) : Int).toNat)) := ⟨_, rfl⟩
  first | replace H := bind_y hy740 H | rw [← hy740] at H
  have Ny740 := Aside0.mk hy740
  clear hy740
  obtain ⟨y743, hy743⟩ : ∃ y_ : List Int, y_ = (([58, 32] : List Int)) := ⟨_, rfl⟩
  first | replace H := bind_y hy743 H | rw [← hy743] at H
  have Ny743 := Aside0.mk hy743
  clear hy743
  by_cases c91 : y740.length + y743.length < 140737488355328
  rotate_left
  ·
   rw [if_neg c91] at H
   exact absurd H Z4
  rw [if_pos c91] at H
  have LMc91 := Aside0.mk c91
  clear c91
  obtain ⟨y746, hy746⟩ : ∃ y_ : List Int, y_ = (y740 ++ y743) := ⟨_, rfl⟩
  first | replace H := bind_y hy746 H | rw [← hy746] at H
  have Ny746 := Aside0.mk hy746
  clear hy746
  by_cases c92 : x71_3 < (l3_4.length : Int)
  rotate_left
  ·
   rw [if_neg c92] at H
   exact absurd H Z4
  rw [if_pos c92] at H
  have c92b0 := decide_eq_true c92
  clear c92
  replace H := Option.bind_eq_some_iff.mp H
  obtain ⟨t750, A930, H⟩ := H
  have A93 := Aside0.mk A930
  clear A930
  have H' := Aside0.mk H
  clear H
  try go_wp2
  have n0_ := Aside0.mk (Kd.R_drew HO_1.out)
  have n1_ := Aside0.mk (Kd.V_drew HO_692004.out)
  have n2_ := Aside0.mk (blk_drew BK690.out)
  have n3_ := Aside0.mk (blk_drew BK691.out)
  have n4_ := Aside0.mk (Kept.drew HK.out)
  have n5_ := Aside0.mk (below_drew1 HB.out)
  clear HO_1; clear HO_692004; clear BK690; clear BK691; clear HK; clear HB
  have HO_1 := n0_
  have HO_692004 := n1_
  have BK690 := n2_
  have BK691 := n3_
  have HK := n4_
  have HB := n5_
  clear n0_ n1_ n2_ n3_ n4_ n5_
  have p732 : 0 ≤ (x71_3 : Int) := of_decide_eq_true Z0
  have q732 : x71_3 < (l3_3.length : Int) := of_decide_eq_true Z0
  obtain ⟨ad732, e732, hx732_0, hx732_1⟩ := at_T55 (Kd.C_kept_now HR3_3.out HK.out) x71_3 p732 q732
  have hw732_1 := hx732_1
  have hw732_0 := hx732_0
  cases e732
  replace p732 := eq_true p732
  replace q732 := eq_true q732
  have p733 : 0 ≤ (x71_3 : Int) := of_decide_eq_true Z0
  have q733 : x71_3 < (l3_3.length : Int) := of_decide_eq_true Z0
  obtain ⟨ad733, e733, hx733_0, hx733_1⟩ := at_T55 (Kd.C_kept_now HR3_3.out HK.out) x71_3 p733 q733
  have hw733_1 := hx733_1
  have hw733_0 := hx733_0
  obtain rfl : ad732 = ad733 := (by injection e733)
  replace p733 := eq_true p733
  replace q733 := eq_true q733
  refine start_ (n := 15) (S := fun w' => w'.cell? ⟨gb691, 0, none⟩ = some (.int .i64 a3_0) ∧ w'.cell? ⟨gb691, 1, none⟩ = some (.int .i64 a3_1) ∧ w'.cell? ⟨gb691, 2, none⟩ = some (.int .i64 a3_2) ∧ w'.cell? ⟨gb691, 3, none⟩ = some (.slice (some ad732) l3_3.length c3_3) ∧ w'.cell? ⟨gb691, 4, none⟩ = some (.slice A3_4 l3_4.length c3_4) ∧ w'.cell? (ad732.add ((x71_3).toNat * 2)) = some (.int .i64 ((rd_T55 l3_3 x71_3).f0)) ∧ w'.cell? ⟨(ad732.add ((x71_3).toNat * 2)).block, (ad732.add ((x71_3).toNat * 2)).off + 1, none⟩ = some (.int .i64 ((rd_T55 l3_3 x71_3).f1)) ∧ w'.cell? (ad732.add ((x71_3).toNat * 2)) = some (.int .i64 ((rd_T55 l3_3 x71_3).f0)) ∧ w'.cell? ⟨(ad732.add ((x71_3).toNat * 2)).block, (ad732.add ((x71_3).toNat * 2)).off + 1, none⟩ = some (.int .i64 ((rd_T55 l3_3 x71_3).f1))) (ds := []) #[false, false, false, false, false, false, false, false, false, false, false, false, false, false, false] Z1 rfl rfl ⟨(blk_cell BK691.out 0).trans rfl, (blk_cell BK691.out 1).trans rfl, (blk_cell BK691.out 2).trans rfl, (blk_cell BK691.out 3).trans rfl, (blk_cell BK691.out 4).trans rfl, hx732_0, hx732_1, hx733_0, hx733_1⟩ (fun hHeld => ?_); refine with_tabW spec_Layout_value.tab17 spec_Layout_value.bits17 (fun HT_ HW_ => ?_)
  generalize wr.drew = w94 at HO_1 HO_692004 BK690 BK691 HK HB hx732_0 hx732_1 hx733_0 hx733_1 hHeld ⊢
  refine pure_ (i := 0) (N := some 79) (v := ?_) (a' := ?_) #[true, false, false, false, false, false, false, false, false, false, false, false, false, false, false] rfl rfl (any_of HT_.out Z1) (fun _ _ _ h => h) (Or.inl ⟨Z3, ?_⟩) ?_ ?_
  rotate_left
  ·
   intro w'
   go_simp
   with_reducible rfl
  rotate_left
  ·
   simp only [Act.put, List.setIfInBounds_toArray, List.set_cons_zero, List.set_cons_succ, i64_w, i32_w]
   rfl
  refine pure_ (i := 1) (N := some 80) (v := ?_) (a' := ?_) #[true, true, false, false, false, false, false, false, false, false, false, false, false, false, false] rfl rfl (any_of HT_.out Z1) (fun _ _ _ h => h) (Or.inl ⟨Z3, ?_⟩) ?_ ?_
  rotate_left
  ·
   intro w'
   go_simp
   with_reducible rfl
  rotate_left
  ·
   simp only [Act.put, List.setIfInBounds_toArray, List.set_cons_zero, List.set_cons_succ, i64_w, i32_w]
   rfl
  refine pure_ (i := 3) (N := some 82) (v := ?_) (a' := ?_) #[true, true, false, true, false, false, false, false, false, false, false, false, false, false, false] rfl rfl (any_of HT_.out Z1) (fun _ _ _ h => h) (Or.inl ⟨Z3, ?_⟩) ?_ ?_
  rotate_left
  ·
   intro w'
   go_simp
   with_reducible rfl
  rotate_left
  ·
   simp only [Act.put, List.setIfInBounds_toArray, List.set_cons_zero, List.set_cons_succ, i64_w, i32_w]
   rfl
  refine pure_ (i := 7) (N := some 86) (v := ?_) (a' := ?_) #[true, true, false, true, false, false, false, true, false, false, false, false, false, false, false] rfl rfl (any_of HT_.out Z1) (fun _ _ _ h => h) (Or.inl ⟨Z3, ?_⟩) ?_ ?_
  rotate_left
  ·
   intro w'
   go_simp
   with_reducible rfl
  rotate_left
  ·
   simp only [Act.put, List.setIfInBounds_toArray, List.set_cons_zero, List.set_cons_succ, i64_w, i32_w]
   rfl
  refine pure_ (i := 9) (N := some 88) (v := ?_) (a' := ?_) #[true, true, false, true, false, false, false, true, false, true, false, false, false, false, false] rfl rfl (any_of HT_.out Z1) (fun _ _ _ h => h) (Or.inl ⟨Z3, ?_⟩) ?_ ?_
  rotate_left
  ·
   intro w'
   go_simp
   with_reducible rfl
  rotate_left
  ·
   simp only [Act.put, List.setIfInBounds_toArray, List.set_cons_zero, List.set_cons_succ, i64_w, i32_w]
   rfl
  refine take_ (i := 2) (N := some 81) (v := ?_) (a' := ?_) #[true, true, true, true, false, false, false, true, false, true, false, false, false, false, false] rfl rfl (take_ofW HT_.out HW_.out Z1) (fun _ _ _ h => h) (Or.inl ⟨Z3, ?_⟩) hHeld ?_ ?_
  rotate_left
  ·
   rintro w' ⟨s0, s1, s2, s3, s4, s5, s6, s7, s8⟩
   go_simp
   with_reducible rfl
  rotate_left
  ·
   simp only [Act.put, List.setIfInBounds_toArray, List.set_cons_zero, List.set_cons_succ, i64_w, i32_w]
   rfl
  refine pure_ (i := 4) (N := some 83) (v := ?_) (a' := ?_) #[true, true, true, true, true, false, false, true, false, true, false, false, false, false, false] rfl rfl (any_of HT_.out Z1) (fun _ _ _ h => h) (Or.inl ⟨Z3, ?_⟩) ?_ ?_
  rotate_left
  ·
   intro w'
   go_simp
   with_reducible rfl
  rotate_left
  ·
   simp only [Act.put, List.setIfInBounds_toArray, List.set_cons_zero, List.set_cons_succ, i64_w, i32_w]
   rfl
  refine pure_ (i := 5) (N := some 84) (v := ?_) (a' := ?_) #[true, true, true, true, true, true, false, true, false, true, false, false, false, false, false] rfl rfl (any_of HT_.out Z1) (fun _ _ _ h => h) (Or.inl ⟨Z3, ?_⟩) ?_ ?_
  rotate_left
  ·
   intro w'
   go_simp
   with_reducible rfl
  rotate_left
  ·
   simp only [Act.put, List.setIfInBounds_toArray, List.set_cons_zero, List.set_cons_succ, i64_w, i32_w]
   rfl
  refine take_ (i := 6) (N := some 85) (v := ?_) (a' := ?_) #[true, true, true, true, true, true, true, true, false, true, false, false, false, false, false] rfl rfl (take_ofW HT_.out HW_.out Z1) (fun _ _ _ h => h) (Or.inl ⟨Z3, ?_⟩) hHeld ?_ ?_
  rotate_left
  ·
   rintro w' ⟨s0, s1, s2, s3, s4, s5, s6, s7, s8⟩
   go_simp
   with_reducible rfl
  rotate_left
  ·
   simp only [Act.put, List.setIfInBounds_toArray, List.set_cons_zero, List.set_cons_succ, i64_w, i32_w]
   rfl
  refine take_ (i := 8) (N := some 87) (v := ?_) (a' := ?_) #[true, true, true, true, true, true, true, true, true, true, false, false, false, false, false] rfl rfl (take_ofW HT_.out HW_.out Z1) (fun _ _ _ h => h) (Or.inl ⟨Z3, ?_⟩) hHeld ?_ ?_
  rotate_left
  ·
   rintro w' ⟨s0, s1, s2, s3, s4, s5, s6, s7, s8⟩
   go_simp
   with_reducible rfl
  rotate_left
  ·
   simp only [Act.put, List.setIfInBounds_toArray, List.set_cons_zero, List.set_cons_succ, i64_w, i32_w]
   rfl
  refine pure_ (i := 10) (N := some 89) (v := ?_) (a' := ?_) #[true, true, true, true, true, true, true, true, true, true, true, false, false, false, false] rfl rfl (any_of HT_.out Z1) (fun _ _ _ h => h) (Or.inl ⟨Z3, ?_⟩) ?_ ?_
  rotate_left
  ·
   intro w'
   go_simp
   with_reducible rfl
  rotate_left
  ·
   simp only [Act.put, List.setIfInBounds_toArray, List.set_cons_zero, List.set_cons_succ, i64_w, i32_w]
   rfl
  refine pure_ (i := 11) (N := some 90) (v := ?_) (a' := ?_) #[true, true, true, true, true, true, true, true, true, true, true, true, false, false, false] rfl rfl (any_of HT_.out Z1) (fun _ _ _ h => h) (Or.inl ⟨Z3, ?_⟩) ?_ ?_
  rotate_left
  ·
   intro w'
   go_simp
   with_reducible rfl
  rotate_left
  ·
   simp only [Act.put, List.setIfInBounds_toArray, List.set_cons_zero, List.set_cons_succ, i64_w, i32_w]
   rfl
  refine take_ (i := 12) (N := some 91) (v := ?_) (a' := ?_) #[true, true, true, true, true, true, true, true, true, true, true, true, true, false, false] rfl rfl (take_ofW HT_.out HW_.out Z1) (fun _ _ _ h => h) (Or.inl ⟨Z3, ?_⟩) hHeld ?_ ?_
  rotate_left
  ·
   rintro w' ⟨s0, s1, s2, s3, s4, s5, s6, s7, s8⟩
   go_simp
   with_reducible rfl
  rotate_left
  ·
   simp only [Act.put, List.setIfInBounds_toArray, List.set_cons_zero, List.set_cons_succ, i64_w, i32_w]
   rfl
  refine pure_ (i := 13) (N := some 92) (v := ?_) (a' := ?_) #[true, true, true, true, true, true, true, true, true, true, true, true, true, true, false] rfl rfl (any_of HT_.out Z1) (fun _ _ _ h => h) (Or.inl ⟨Z3, ?_⟩) ?_ ?_
  rotate_left
  ·
   intro w'
   go_simp
   with_reducible rfl
  rotate_left
  ·
   simp only [Act.put, List.setIfInBounds_toArray, List.set_cons_zero, List.set_cons_succ, i64_w, i32_w]
   rfl
  refine pure_ (i := 14) (N := some 17) (v := ?_) (a' := ?_) #[true, true, true, true, true, true, true, true, true, true, true, true, true, true, true] rfl rfl (any_of HT_.out Z1) (fun _ _ _ h => h) (Or.inl ⟨Z3, ?_⟩) ?_ ?_
  rotate_left
  ·
   intro w'
   go_simp
   with_reducible rfl
  rotate_left
  ·
   simp only [Act.put, List.setIfInBounds_toArray, List.set_cons_zero, List.set_cons_succ, i64_w, i32_w]
   rfl
  refine done_ (done_of HT_.out Z1) ?_
  try go_wp2_with (first | ((with_reducible refine gate_builtin (b := .append) (xs := #[.tmp 93, .tmp 94]) rfl ?_); at_builtin; refine Kd.R_append (Kd.int .u8) (w0 := w0) w0.heap.size rfl (.tmp 93) (.tmp 94) 40 5 (.int .u8 0) 1 rfl Try.underlying40 info5 rfl Z2 Z5 u1 x1_3 10 [.int .u8 10] (fun k_ => (P1_ k_ ∨ w.heap.size ≤ k_)) (fun _ => False) rfl rfl ?aP (fun _ hk => hk.elim) ?aF ?aO ?aB ?aS ?aL ?_; (case aP => exact rfl); (case aB => exact Z15); (case aF => exact (fun k_ hk => (.inr (Nat.le_trans Z120 hk)))); (case aO => exact (pR HO_1.out)); (case aS => exact (below_size Z15)); (case aL => have := LMc88.out; omega); intro v735 w95 ho hb hg hat; rw [← Ny734.out] at ho; have n0_ := Aside0.mk (Kd.V_afterv (ok := (fun k_ => ((P1_ k_ ∨ P3_4_ k_) ∨ w.heap.size ≤ k_) ∧ k_ ≠ gb690 ∧ k_ ≠ gb691)) Z75 hg hat); have n1_ := Aside0.mk (blk_grown (g := gb690) (o := .cells #[.string a0_0, .string a0_1, .int .i64 a0_2] 36 (0, 0)) (pB BK690.out) hg (Kd.R_ne HO_1.out BK690.out Z2)); have n2_ := Aside0.mk (blk_grown (g := gb691) (o := .cells #[.int .i64 a3_0, .int .i64 a3_1, .int .i64 a3_2, .slice (some ad732) l3_3.length c3_3, .slice A3_4 l3_4.length c3_4] 28 (0, 0)) (pB BK691.out) hg (Kd.R_ne HO_1.out BK691.out Z2)); have n3_ := Aside0.mk (hb); have n4_ := Aside0.mk (Kept.of_grown (S := (fun k_ => P1_ k_)) hg Z14 (fun k_ e_ => (HO_1.out.1 k_ e_))); have n5_ := Aside0.mk (ho); clear HO_692004; clear BK690; clear BK691; clear HB; clear HK; clear HO_1; have HO_692004 := n0_; have BK690 := n1_; have BK691 := n2_; have HB := n3_; have HK := n4_; have HO736 := n5_; clear n0_ n1_ n2_ n3_ n4_ n5_; clear ho hb hg hat) | (at_builtin; refine Kd.R_append_str (w0 := w0) w0.heap.size rfl (.tmp 96) _ 40 9 5 rfl Try.underlying40 Try.underlying9 info5 v735 y734 (a4 ++ a0_1) (fun k_ => (P1_ k_ ∨ w.heap.size ≤ k_)) rfl rfl ?aF ?aO ?aB ?aS ?aL ?_; (case aB => exact Z15); (case aF => exact (fun k_ hk => (.inr (Nat.le_trans Z120 hk)))); (case aO => exact (pR HO736.out)); (case aS => exact (below_size Z15)); (case aL => have := LMc89.out; omega); intro v738 w96 ho hb hg hat; rw [← Ny737.out] at ho; have n0_ := Aside0.mk (Kd.V_afterv (ok := (fun k_ => ((P1_ k_ ∨ P3_4_ k_) ∨ w.heap.size ≤ k_) ∧ k_ ≠ gb690 ∧ k_ ≠ gb691)) (pV HO_692004.out) hg hat); have n1_ := Aside0.mk (blk_grown (g := gb690) (o := .cells #[.string a0_0, .string a0_1, .int .i64 a0_2] 36 (0, 0)) (pB BK690.out) hg (Kd.R_ne HO736.out BK690.out Z2)); have n2_ := Aside0.mk (blk_grown (g := gb691) (o := .cells #[.int .i64 a3_0, .int .i64 a3_1, .int .i64 a3_2, .slice (some ad732) l3_3.length c3_3, .slice A3_4 l3_4.length c3_4] 28 (0, 0)) (pB BK691.out) hg (Kd.R_ne HO736.out BK691.out Z2)); have n3_ := Aside0.mk (hb); have n4_ := Aside0.mk (Kept.of_grown (S := (fun k_ => P1_ k_)) hg Z14 (fun k_ e_ => (HO736.out.1 k_ e_))); have n5_ := Aside0.mk (ho); clear HO_692004; clear BK690; clear BK691; clear HB; clear HK; clear HO736; have HO_692004 := n0_; have BK690 := n1_; have BK691 := n2_; have HB := n3_; have HK := n4_; have HO739 := n5_; clear n0_ n1_ n2_ n3_ n4_ n5_; clear ho hb hg hat) | (at_builtin; refine Kd.R_append_str (w0 := w0) w0.heap.size rfl (.tmp 99) _ 40 9 5 rfl Try.underlying40 Try.underlying9 info5 v738 y737 (a2.extract (((rd_T55 l3_3 x71_3).f0) : Int).toNat (((rd_T55 l3_3 x71_3).f1) : Int).toNat) (fun k_ => (P1_ k_ ∨ w.heap.size ≤ k_)) rfl rfl ?aF ?aO ?aB ?aS ?aL ?_; (case aB => exact Z15); (case aF => exact (fun k_ hk => (.inr (Nat.le_trans Z120 hk)))); (case aO => exact (pR HO739.out)); (case aS => exact (below_size Z15)); (case aL => have := LMc90.out; omega); intro v741 w97 ho hb hg hat; rw [← Ny740.out] at ho; have n0_ := Aside0.mk (Kd.V_afterv (ok := (fun k_ => ((P1_ k_ ∨ P3_4_ k_) ∨ w.heap.size ≤ k_) ∧ k_ ≠ gb690 ∧ k_ ≠ gb691)) (pV HO_692004.out) hg hat); have n1_ := Aside0.mk (blk_grown (g := gb690) (o := .cells #[.string a0_0, .string a0_1, .int .i64 a0_2] 36 (0, 0)) (pB BK690.out) hg (Kd.R_ne HO739.out BK690.out Z2)); have n2_ := Aside0.mk (blk_grown (g := gb691) (o := .cells #[.int .i64 a3_0, .int .i64 a3_1, .int .i64 a3_2, .slice (some ad732) l3_3.length c3_3, .slice A3_4 l3_4.length c3_4] 28 (0, 0)) (pB BK691.out) hg (Kd.R_ne HO739.out BK691.out Z2)); have n3_ := Aside0.mk (hb); have n4_ := Aside0.mk (Kept.of_grown (S := (fun k_ => P1_ k_)) hg Z14 (fun k_ e_ => (HO739.out.1 k_ e_))); have n5_ := Aside0.mk (ho); clear HO_692004; clear BK690; clear BK691; clear HB; clear HK; clear HO739; have HO_692004 := n0_; have BK690 := n1_; have BK691 := n2_; have HB := n3_; have HK := n4_; have HO742 := n5_; clear n0_ n1_ n2_ n3_ n4_ n5_; clear ho hb hg hat) | ((with_reducible refine gate_dst (N := 103) rfl ?_); refine Kd.R_lit (Kd.int .u8) _ 5 ?hg (N := 103) ?hd (xs := ([58, 32] : List Int)) (inner := [.int .u8 58, .int .u8 32]) (ok := fun _ => True) (okp := fun _ => True) ?hr ?hp (fun _ hk => hk) trivial (Below.refl _ _) (Nat.le_refl _) Z4 ?_; (case hd => exact Z3); (case hg => exact Z3); (case hr => exact Z19); (case hp => exact (Reps.one (show Kd.M (Kd.int .u8) _ _ _ 58 [.int .u8 58] from rfl) (Reps.one (show Kd.M (Kd.int .u8) _ _ _ 32 [.int .u8 32] from rfl) (Reps.none _ _)))); intro v744 w98 ho99 hb hg_ hnew_; clear hg_ hnew_; (first | rw [← Ny743.out] at ho99 | (simp only [Int.reduceToNat] at ho99; rw [← Ny743.out] at ho99)); have n0_ := Aside0.mk (Kd.V_elder' (pV HO_692004.out) (Kd.R_base ho99) hb); have n1_ := Aside0.mk (Kd.R_elder' (pR HO742.out) (Kd.R_base ho99) hb); have n2_ := Aside0.mk (Kd.R_lower (Kd.R_new' (Kd.R_newM (M := fun k_ => (P1_ k_ ∨ w.heap.size ≤ k_)) ho99 Z120 (fun k_ h_ => .inr h_)) (Kd.R_lt (pR HO742.out))) (below_size Z15)); have n3_ := Aside0.mk (blk_below (g := gb690) (o := .cells #[.string a0_0, .string a0_1, .int .i64 a0_2] 36 (0, 0)) (pB BK690.out) hb); have n4_ := Aside0.mk (blk_below (g := gb691) (o := .cells #[.int .i64 a3_0, .int .i64 a3_1, .int .i64 a3_2, .slice (some ad732) l3_3.length c3_3, .slice A3_4 l3_4.length c3_4] 28 (0, 0)) (pB BK691.out) hb); have n5_ := Aside0.mk (Kept.below (S := (fun k_ => P1_ k_)) Z14 hb); have n6_ := Aside0.mk (below_step Z15 hb); clear HO_692004; clear HO742; clear BK690; clear BK691; clear HK; clear HB; have HO_692004 := n0_; have HO742 := n1_; have HO745 := n2_; have BK690 := n3_; have BK691 := n4_; have HK := n5_; have HB := n6_; clear n0_ n1_ n2_ n3_ n4_ n5_ n6_; clear hb ho99; obtain ⟨Ao101, co101, eo101⟩ := Kd.R_slice HO745.out; subst eo101) | ((with_reducible refine gate_builtin (b := .append) (xs := #[.tmp 102, .tmp 103]) rfl ?_); at_builtin; refine Kd.R_append_rows (Kd.int .u8) (w0 := w0) w0.heap.size rfl (.tmp 102) (.tmp 103) 40 5 (.int .u8 0) 1 rfl Try.underlying40 info5 rfl Z2 Z5 v741 y740 y743 _ _ _ (fun k_ => (P1_ k_ ∨ w.heap.size ≤ k_) ∧ some k_ ≠ (.slice Ao101 y743.length co101 : Value).ownBlock) (fun _ => False) rfl rfl ?aO ?aR (fun _ _ h => h) (fun _ h => h.elim) ?aF ?aB ?aS ?aL ?_; (case aR => repeat (first | exact (Kd.R_reads' HO745.out).2.2 | (with_reducible refine Kd.C_alloc ?_ _) | (with_reducible refine Kd.C_drewN ?_ _) | (with_reducible refine Kd.C_drew ?_))); (case aB => exact Z15); (case aF => exact (fun k_ hk => ⟨(.inr (Nat.le_trans Z120 hk)), Kd.fresh' (Kd.R_lt (pR HO745.out)) k_ hk⟩)); (case aO => exact (pR HO742.out)); (case aS => exact (below_size Z15)); (case aL => have := LMc91.out; omega); intro v747 w100 ho hb hg hat; rw [← Ny746.out] at ho; have n0_ := Aside0.mk (Kd.V_afterv (ok := (fun k_ => ((P1_ k_ ∨ P3_4_ k_) ∨ w.heap.size ≤ k_) ∧ some k_ ≠ (.slice Ao101 y743.length co101 : Value).ownBlock ∧ k_ ≠ gb690 ∧ k_ ≠ gb691)) Z117 hg hat); have n1_ := Aside0.mk (blk_grown (g := gb690) (o := .cells #[.string a0_0, .string a0_1, .int .i64 a0_2] 36 (0, 0)) (pB BK690.out) hg (Kd.R_ne HO742.out BK690.out Z2)); have n2_ := Aside0.mk (blk_grown (g := gb691) (o := .cells #[.int .i64 a3_0, .int .i64 a3_1, .int .i64 a3_2, .slice (some ad732) l3_3.length c3_3, .slice A3_4 l3_4.length c3_4] 28 (0, 0)) (pB BK691.out) hg (Kd.R_ne HO742.out BK691.out Z2)); have n3_ := Aside0.mk (Kd.R_after (ok := (fun k_ => (P1_ k_ ∨ w.heap.size ≤ k_))) (by (with_reducible repeat (first | apply Kd.R_alloc | apply Kd.R_drewN | apply Kd.R_drew)); exact Kd.R_mono HO745.out (fun _ hk => ⟨hk.1.1, hk.2⟩)) hg hat); have n4_ := Aside0.mk (hb); have n5_ := Aside0.mk (Kept.of_grown (S := (fun k_ => P1_ k_)) hg Z14 (fun k_ e_ => (HO742.out.1 k_ e_).1)); have n6_ := Aside0.mk (ho); clear HO_692004; clear BK690; clear BK691; clear HO745; clear HB; clear HK; clear HO742; have HO_692004 := n0_; have BK690 := n1_; have BK691 := n2_; have HO745 := n3_; have HB := n4_; have HK := n5_; have HO748 := n6_; clear n0_ n1_ n2_ n3_ n4_ n5_ n6_; clear ho hb hg hat))
  have n0_ := Aside0.mk (Kd.V_drew HO_692004.out)
  have n1_ := Aside0.mk (Kd.R_drew HO745.out)
  have n2_ := Aside0.mk (Kd.R_drew HO748.out)
  have n3_ := Aside0.mk (blk_drew BK690.out)
  have n4_ := Aside0.mk (blk_drew BK691.out)
  have n5_ := Aside0.mk (Kept.drew HK.out)
  have n6_ := Aside0.mk (below_drew1 HB.out)
  clear HO_692004; clear HO745; clear HO748; clear BK690; clear BK691; clear HK; clear HB
  have HO_692004 := n0_
  have HO745 := n1_
  have HO748 := n2_
  have BK690 := n3_
  have BK691 := n4_
  have HK := n5_
  have HB := n6_
  clear n0_ n1_ n2_ n3_ n4_ n5_ n6_
  have p749 : 0 ≤ (x71_3 : Int) := of_decide_eq_true Z0
  have q749 : x71_3 < (l3_4.length : Int) := of_decide_eq_true Z0
  obtain ⟨ad749, A749_3, c749_3, A749_4, c749_4, e749, hx749_0, hx749_1, hx749_2, hx749_3, hx749_4, hl749_3, hi749_3, hl749_4, hi749_4⟩ := at_T28 (Kd.V_reads' HO_692004.out).2.2 x71_3 p749 q749
  cases e749
  obtain ⟨ce749, hce749, hMe749, hcc749⟩ := Kd.V_get HO_692004.out z28 x71_3 p749 (by first | exact q749 | exact of_decide_eq_true Z0 | (have e_ := (Kd.V_reads' HO_692004.out).1; omega))
  obtain ⟨ua749_3, uc749_3, ua749_4, uc749_4, rfl, ul749_3, ge749_3, ul749_4, ge749_4⟩ := k28_openF hMe749
  have hv749_3 := hcc749 3 _ rfl
  rw [add_field _ _ 3 Z5] at hv749_3
  replace hv749_3 := Option.some.inj (hv749_3.symm.trans hx749_3)
  injection hv749_3 with hva_ hvn_ hvc_
  rw [hva_] at ge749_3
  rw [hvc_] at ul749_3
  have HL749_3 := Aside0.mk (show Kd.V k55 55 _ w0.heap.size _ _ ((rd_T28 l3_4 x71_3).f3) from Kd.V_mk ul749_3 ge749_3)
  clear hva_ hvn_ hvc_ ge749_3 ul749_3
  have hv749_4 := hcc749 4 _ rfl
  rw [add_field _ _ 4 Z5] at hv749_4
  replace hv749_4 := Option.some.inj (hv749_4.symm.trans hx749_4)
  injection hv749_4 with hva_ hvn_ hvc_
  rw [hva_] at ge749_4
  rw [hvc_] at ul749_4
  have HL749_4 := Aside0.mk (show Kd.V k28 28 _ w0.heap.size _ _ ((rd_T28 l3_4 x71_3).f4) from Kd.V_mk ul749_4 ge749_4)
  clear hva_ hvn_ hvc_ ge749_4 ul749_4; clear hcc749 hce749
  have HR749_3 := Aside0.mk hi749_3
  have HC749_3 := Aside0.mk hl749_3
  clear hi749_3 hl749_3
  have HR749_4 := Aside0.mk hi749_4
  have HC749_4 := Aside0.mk hl749_4
  clear hi749_4 hl749_4
  replace p749 := eq_true p749
  replace q749 := eq_true q749
  obtain ⟨Ao103, co103, eo103⟩ := Kd.R_slice HO748.out
  (first | subst eo103 | (injection eo103 with f1_ f2_ f3_; have f4_ := f1_.symm; have f5_ := f3_.symm; clear f1_ f2_ f3_; subst f4_; subst f5_))
  refine start_ (n := 17) (S := fun w' => w'.cell? ⟨gb690, 0, none⟩ = some (.string a0_0) ∧ w'.cell? ⟨gb690, 1, none⟩ = some (.string a0_1) ∧ w'.cell? ⟨gb690, 2, none⟩ = some (.int .i64 a0_2) ∧ w'.cell? ⟨gb691, 0, none⟩ = some (.int .i64 a3_0) ∧ w'.cell? ⟨gb691, 1, none⟩ = some (.int .i64 a3_1) ∧ w'.cell? ⟨gb691, 2, none⟩ = some (.int .i64 a3_2) ∧ w'.cell? ⟨gb691, 3, none⟩ = some (.slice (some ad732) l3_3.length c3_3) ∧ w'.cell? ⟨gb691, 4, none⟩ = some (.slice (some ad749) l3_4.length c3_4) ∧ w'.cell? (ad749.add ((x71_3).toNat * 5)) = some (.int .i64 ((rd_T28 l3_4 x71_3).f0)) ∧ w'.cell? ⟨(ad749.add ((x71_3).toNat * 5)).block, (ad749.add ((x71_3).toNat * 5)).off + 1, none⟩ = some (.int .i64 ((rd_T28 l3_4 x71_3).f1)) ∧ w'.cell? ⟨(ad749.add ((x71_3).toNat * 5)).block, (ad749.add ((x71_3).toNat * 5)).off + 2, none⟩ = some (.int .i64 ((rd_T28 l3_4 x71_3).f2)) ∧ w'.cell? ⟨(ad749.add ((x71_3).toNat * 5)).block, (ad749.add ((x71_3).toNat * 5)).off + 3, none⟩ = some (.slice A749_3 ((rd_T28 l3_4 x71_3).f3).length c749_3) ∧ w'.cell? ⟨(ad749.add ((x71_3).toNat * 5)).block, (ad749.add ((x71_3).toNat * 5)).off + 4, none⟩ = some (.slice A749_4 ((rd_T28 l3_4 x71_3).f4).length c749_4)) (ds := []) #[false, false, false, false, false, false, false, false, false, false, false, false, false, false, false, false, false] Z1 rfl rfl ⟨(blk_cell BK690.out 0).trans rfl, (blk_cell BK690.out 1).trans rfl, (blk_cell BK690.out 2).trans rfl, (blk_cell BK691.out 0).trans rfl, (blk_cell BK691.out 1).trans rfl, (blk_cell BK691.out 2).trans rfl, (blk_cell BK691.out 3).trans rfl, (blk_cell BK691.out 4).trans rfl, hx749_0, hx749_1, hx749_2, hx749_3, hx749_4⟩ (fun hHeld => ?_); refine with_tabW spec_Layout_value.tab22 spec_Layout_value.bits22 (fun HT_ HW_ => ?_)
  generalize w100.drew = w102 at HO_692004 HO745 HO748 BK690 BK691 HK HB HL749_3 HL749_4 HR749_3 HR749_4 hx749_0 hx749_1 hx749_2 hx749_3 hx749_4 hHeld ⊢
  refine pure_ (i := 1) (N := some 106) (v := ?_) (a' := ?_) #[false, true, false, false, false, false, false, false, false, false, false, false, false, false, false, false, false] rfl rfl (any_of HT_.out Z1) (fun _ _ _ h => h) (Or.inl ⟨Z3, ?_⟩) ?_ ?_
  rotate_left
  ·
   intro w'
   go_simp
   with_reducible rfl
  rotate_left
  ·
   simp only [Act.put, List.setIfInBounds_toArray, List.set_cons_zero, List.set_cons_succ, i64_w, i32_w]
   rfl
  refine pure_ (i := 2) (N := some 107) (v := ?_) (a' := ?_) #[false, true, true, false, false, false, false, false, false, false, false, false, false, false, false, false, false] rfl rfl (any_of HT_.out Z1) (fun _ _ _ h => h) (Or.inl ⟨Z3, ?_⟩) ?_ ?_
  rotate_left
  ·
   intro w'
   go_simp
   with_reducible rfl
  rotate_left
  ·
   simp only [Act.put, List.setIfInBounds_toArray, List.set_cons_zero, List.set_cons_succ, i64_w, i32_w]
   rfl
  refine pure_ (i := 3) (N := some 108) (v := ?_) (a' := ?_) #[false, true, true, true, false, false, false, false, false, false, false, false, false, false, false, false, false] rfl rfl (any_of HT_.out Z1) (fun _ _ _ h => h) (Or.inl ⟨Z3, ?_⟩) ?_ ?_
  rotate_left
  ·
   intro w'
   go_simp
   with_reducible rfl
  rotate_left
  ·
   simp only [Act.put, List.setIfInBounds_toArray, List.set_cons_zero, List.set_cons_succ, i64_w, i32_w]
   rfl
  refine pure_ (i := 5) (N := some 110) (v := ?_) (a' := ?_) #[false, true, true, true, false, true, false, false, false, false, false, false, false, false, false, false, false] rfl rfl (any_of HT_.out Z1) (fun _ _ _ h => h) (Or.inl ⟨Z3, ?_⟩) ?_ ?_
  rotate_left
  ·
   intro w'
   go_simp
   with_reducible rfl
  rotate_left
  ·
   simp only [Act.put, List.setIfInBounds_toArray, List.set_cons_zero, List.set_cons_succ, i64_w, i32_w]
   rfl
  refine pure_ (i := 8) (N := some 113) (v := ?_) (a' := ?_) #[false, true, true, true, false, true, false, false, true, false, false, false, false, false, false, false, false] rfl rfl (any_of HT_.out Z1) (fun _ _ _ h => h) (Or.inl ⟨Z3, ?_⟩) ?_ ?_
  rotate_left
  ·
   intro w'
   go_simp
   with_reducible rfl
  rotate_left
  ·
   simp only [Act.put, List.setIfInBounds_toArray, List.set_cons_zero, List.set_cons_succ, i64_w, i32_w]
   rfl
  refine pure_ (i := 9) (N := some 114) (v := ?_) (a' := ?_) #[false, true, true, true, false, true, false, false, true, true, false, false, false, false, false, false, false] rfl rfl (any_of HT_.out Z1) (fun _ _ _ h => h) (Or.inl ⟨Z3, ?_⟩) ?_ ?_
  rotate_left
  ·
   intro w'
   go_simp
   with_reducible rfl
  rotate_left
  ·
   simp only [Act.put, List.setIfInBounds_toArray, List.set_cons_zero, List.set_cons_succ, i64_w, i32_w]
   rfl
  refine pure_ (i := 10) (N := some 115) (v := ?_) (a' := ?_) #[false, true, true, true, false, true, false, false, true, true, true, false, false, false, false, false, false] rfl rfl (any_of HT_.out Z1) (fun _ _ _ h => h) (Or.inl ⟨Z3, ?_⟩) ?_ ?_
  rotate_left
  ·
   intro w'
   go_simp
   with_reducible rfl
  rotate_left
  ·
   simp only [Act.put, List.setIfInBounds_toArray, List.set_cons_zero, List.set_cons_succ, i64_w, i32_w]
   rfl
  refine pure_ (i := 11) (N := some 116) (v := ?_) (a' := ?_) #[false, true, true, true, false, true, false, false, true, true, true, true, false, false, false, false, false] rfl rfl (any_of HT_.out Z1) (fun _ _ _ h => h) (Or.inl ⟨Z3, ?_⟩) ?_ ?_
  rotate_left
  ·
   intro w'
   go_simp
   with_reducible rfl
  rotate_left
  ·
   simp only [Act.put, List.setIfInBounds_toArray, List.set_cons_zero, List.set_cons_succ, i64_w, i32_w]
   rfl
  refine pure_ (i := 12) (N := some 117) (v := ?_) (a' := ?_) #[false, true, true, true, false, true, false, false, true, true, true, true, true, false, false, false, false] rfl rfl (any_of HT_.out Z1) (fun _ _ _ h => h) (Or.inl ⟨Z3, ?_⟩) ?_ ?_
  rotate_left
  ·
   intro w'
   go_simp
   with_reducible rfl
  rotate_left
  ·
   simp only [Act.put, List.setIfInBounds_toArray, List.set_cons_zero, List.set_cons_succ, i64_w, i32_w]
   rfl
  refine pure_ (i := 13) (N := some 118) (v := ?_) (a' := ?_) #[false, true, true, true, false, true, false, false, true, true, true, true, true, true, false, false, false] rfl rfl (any_of HT_.out Z1) (fun _ _ _ h => h) (Or.inl ⟨Z3, ?_⟩) ?_ ?_
  rotate_left
  ·
   intro w'
   go_simp
   with_reducible rfl
  rotate_left
  ·
   simp only [Act.put, List.setIfInBounds_toArray, List.set_cons_zero, List.set_cons_succ, i64_w, i32_w]
   rfl
  refine pure_ (i := 14) (N := some 119) (v := ?_) (a' := ?_) #[false, true, true, true, false, true, false, false, true, true, true, true, true, true, true, false, false] rfl rfl (any_of HT_.out Z1) (fun _ _ _ h => h) (Or.inl ⟨Z3, ?_⟩) ?_ ?_
  rotate_left
  ·
   intro w'
   go_simp
   with_reducible rfl
  rotate_left
  ·
   simp only [Act.put, List.setIfInBounds_toArray, List.set_cons_zero, List.set_cons_succ, i64_w, i32_w]
   rfl
  refine take_ (i := 0) (N := some 105) (v := ?_) (a' := ?_) #[true, true, true, true, false, true, false, false, true, true, true, true, true, true, true, false, false] rfl rfl (take_ofW HT_.out HW_.out Z1) (fun _ _ _ h => h) (Or.inl ⟨Z3, ?_⟩) hHeld ?_ ?_
  rotate_left
  ·
   rintro w' ⟨s0, s1, s2, s3, s4, s5, s6, s7, s8, s9, s10, s11, s12⟩
   go_simp
   with_reducible rfl
  rotate_left
  ·
   simp only [Act.put, List.setIfInBounds_toArray, List.set_cons_zero, List.set_cons_succ, i64_w, i32_w]
   rfl
  refine take_ (i := 4) (N := some 109) (v := ?_) (a' := ?_) #[true, true, true, true, true, true, false, false, true, true, true, true, true, true, true, false, false] rfl rfl (take_ofW HT_.out HW_.out Z1) (fun _ _ _ h => h) (Or.inl ⟨Z3, ?_⟩) hHeld ?_ ?_
  rotate_left
  ·
   rintro w' ⟨s0, s1, s2, s3, s4, s5, s6, s7, s8, s9, s10, s11, s12⟩
   go_simp
   with_reducible rfl
  rotate_left
  ·
   simp only [Act.put, List.setIfInBounds_toArray, List.set_cons_zero, List.set_cons_succ, i64_w, i32_w]
   rfl
  refine pure_ (i := 6) (N := some 111) (v := ?_) (a' := ?_) #[true, true, true, true, true, true, true, false, true, true, true, true, true, true, true, false, false] rfl rfl (any_of HT_.out Z1) (fun _ _ _ h => h) (Or.inl ⟨Z3, ?_⟩) ?_ ?_
  rotate_left
  ·
   intro w'
   go_simp
   with_reducible rfl
  rotate_left
  ·
   simp only [Act.put, List.setIfInBounds_toArray, List.set_cons_zero, List.set_cons_succ, i64_w, i32_w]
   rfl
  refine take_ (i := 7) (N := some 112) (v := ?_) (a' := ?_) #[true, true, true, true, true, true, true, true, true, true, true, true, true, true, true, false, false] rfl rfl (take_ofW HT_.out HW_.out Z1) (fun _ _ _ h => h) (Or.inl ⟨Z3, ?_⟩) hHeld ?_ ?_
  rotate_left
  ·
   rintro w' ⟨s0, s1, s2, s3, s4, s5, s6, s7, s8, s9, s10, s11, s12⟩
   go_simp
   with_reducible rfl
  rotate_left
  ·
   simp only [Act.put, List.setIfInBounds_toArray, List.set_cons_zero, List.set_cons_succ, i64_w, i32_w]
   rfl
  refine one_ (i := 15) (N := some 120) #[true, true, true, true, true, true, true, true, true, true, true, true, true, true, true, true, false] rfl rfl (one_of HT_.out Z1) Z2 (fun K hK => ?_)
  refine goes_ Try.func16 Z1 rfl #[.agg #[.string a0_0, .string a0_1, .int .i64 a0_2], .slice Ao103 y746.length co103, .string a2, .agg #[.int .i64 ((rd_T28 l3_4 x71_3).f0), .int .i64 ((rd_T28 l3_4 x71_3).f1), .int .i64 ((rd_T28 l3_4 x71_3).f2), .slice A749_3 ((rd_T28 l3_4 x71_3).f3).length c749_3, .slice A749_4 ((rd_T28 l3_4 x71_3).f4).length c749_4], .string (a4 ++ a0_1), .int .i64 (wrap64 ((wrap64 (((a4 ++ a0_1).size : Int) + ((a2.extract (((rd_T55 l3_3 x71_3).f0) : Int).toNat (((rd_T55 l3_3 x71_3).f1) : Int).toNat).size : Int))) + 3))] Z3 rfl rfl Z13 ?_
  with_reducible refine (ih_16_ k3 Z76 a0_0 a0_1 a0_2 (fun k_ => some k_ = (.slice Ao103 y746.length co103 : Value).ownBlock) (.slice Ao103 y746.length co103) y746 a2 ((rd_T28 l3_4 x71_3).f0) ((rd_T28 l3_4 x71_3).f1) ((rd_T28 l3_4 x71_3).f2) _ _ ((rd_T28 l3_4 x71_3).f3) (fun k_ => ((((P1_ k_ ∨ P3_4_ k_) ∨ w.heap.size ≤ k_) ∧ (some k_ ≠ (.slice Ao101 y743.length co101 : Value).ownBlock ∧ (k_ ≠ gb690 ∧ k_ ≠ gb691))) ∧ some k_ ≠ (.slice Ao103 y746.length co103 : Value).ownBlock)) _ _ ((rd_T28 l3_4 x71_3).f4) (a4 ++ a0_1) (wrap64 ((wrap64 (((a4 ++ a0_1).size : Int) + ((a2.extract (((rd_T55 l3_3 x71_3).f0) : Int).toNat (((rd_T55 l3_3 x71_3).f1) : Int).toNat).size : Int))) + 3)) t750 w0 _ ?side1 ?side2 ?side3 ?side4 ?side5 A93.out).mono ?_
  (case side1 => exact Z15)
  (case side2 => exact Kd.R_tight rfl HO748.out)
  (case side3 => exact Kd.C_kept_ownV (HL749_3.out) (fun k_ hk_ hs_ => (hk_.2) hs_))
  (case side4 => exact HC749_3.out)
  (case side5 => exact Kd.V_mono (HL749_4.out) (fun k_ hk_ => ⟨hk_, hk_.2⟩))
  rintro e w104 ⟨v751, rfl, ho0, hb, hkp⟩
  have HS8_ := cell_kept (hHeld.2.2.2.2.2.2.2.2.1) hkp Z140
  have HS9_ := cell_kept (hHeld.2.2.2.2.2.2.2.2.2.1) hkp Z140
  have HS10_ := cell_kept (hHeld.2.2.2.2.2.2.2.2.2.2.1) hkp Z140
  have HS11_ := cell_kept (hHeld.2.2.2.2.2.2.2.2.2.2.2.1) hkp Z140
  have HS12_ := cell_kept (hHeld.2.2.2.2.2.2.2.2.2.2.2.2) hkp Z140
  refine ⟨_, rfl, ?_⟩
  have n0_ := Aside0.mk (Kd.V_mono (ok' := fun k_ => ((P1_ k_ ∨ P3_4_ k_) ∨ w.heap.size ≤ k_) ∧ some k_ ≠ (.slice Ao101 y743.length co101 : Value).ownBlock ∧ k_ ≠ gb690 ∧ k_ ≠ gb691 ∧ some k_ ≠ (v751 : Value).ownBlock) (Kd.V_keptB (HO_692004.out) hkp (fun k_ hk_ hs_ => (hk_.2) hs_)) (fun k_ hk_ => ⟨hk_.1.1.1, hk_.1.1.2.1, hk_.1.1.2.2.1, hk_.1.1.2.2.2, fun e_ => Or.elim (ho0.1 k_ e_.symm) (fun hs_ => hk_.2.1 hs_) (fun hn_ => Nat.not_le.2 hk_.2.2 hn_)⟩))
  have n1_ := Aside0.mk (blk_kept (pB BK690.out) hkp (fun hs_ => (fun e_ => (Kd.R_ne HO748.out BK690.out Z2) e_) hs_))
  have n2_ := Aside0.mk (blk_kept (pB BK691.out) hkp (fun hs_ => (fun e_ => (Kd.R_ne HO748.out BK691.out Z2) e_) hs_))
  have n3_ := Aside0.mk (Kd.R_mono (ok' := fun k_ => (P1_ k_ ∨ w.heap.size ≤ k_) ∧ some k_ ≠ (v751 : Value).ownBlock) (Kd.R_keptB (HO745.out) hkp (fun k_ hk_ hs_ => (hk_.2) hs_)) (fun k_ hk_ => ⟨hk_.1.1, fun e_ => Or.elim (ho0.1 k_ e_.symm) (fun hs_ => hk_.2.1 hs_) (fun hn_ => Nat.not_le.2 hk_.2.2 hn_)⟩))
  have n4_ := Aside0.mk (Kd.R_mono (ok' := fun k_ => (P1_ k_ ∨ w.heap.size ≤ k_) ∧ some k_ ≠ (.slice Ao101 y743.length co101 : Value).ownBlock) ho0 (fun k_ hk_ => ⟨Or.elim hk_ (fun hs_ => (HO748.out.1 k_ (hs_).symm).1) (fun hn_ => (.inr (Nat.le_trans Z120 hn_))), Or.elim hk_ (fun hs_ => fun e_ => (((HO745.out).1 k_ e_.symm).2) hs_) (fun hn_ => (Kd.fresh' (Kd.R_lt (pR HO745.out)) k_ hn_))⟩))
  have n5_ := Aside0.mk (Kept.then_ (S := (fun k_ => P1_ k_)) Z14 hkp (fun k_ hs_ => (fun e_ => (HO748.out.1 k_ e_.symm).1) hs_))
  have n6_ := Aside0.mk (hb)
  clear HO_692004; clear BK690; clear BK691; clear HO745; clear HK; clear HB; clear HO748; clear HL749_3; clear HL749_4
  have HO_692004 := n0_
  have BK690 := n1_
  have BK691 := n2_
  have HO745 := n3_
  have HO752 := n4_
  have HK := n5_
  have HB := n6_
  clear n0_ n1_ n2_ n3_ n4_ n5_ n6_
  (try clear hb)
  (try clear hkp)
  (try clear ho0)
  refine hK.out _ _ ⟨(blk_cell BK690.out 0).trans rfl, (blk_cell BK690.out 1).trans rfl, (blk_cell BK690.out 2).trans rfl, (blk_cell BK691.out 0).trans rfl, (blk_cell BK691.out 1).trans rfl, (blk_cell BK691.out 2).trans rfl, (blk_cell BK691.out 3).trans rfl, (blk_cell BK691.out 4).trans rfl, HS8_, HS9_, HS10_, HS11_, HS12_⟩ (fun hHeld => ?_)
  clear hK K
  refine norm_ (a' := ?_) ?_ ?_
  rotate_left
  ·
   show Act.put _ (some 120) _ = _
   simp only [Act.put, List.setIfInBounds_toArray, List.set_cons_zero, List.set_cons_succ, i64_w, i32_w]
   rfl
  refine pure_ (i := 16) (N := some 1) (v := ?_) (a' := ?_) #[true, true, true, true, true, true, true, true, true, true, true, true, true, true, true, true, true] rfl rfl (any_of HT_.out Z1) (fun _ _ _ h => h) (Or.inl ⟨Z3, ?_⟩) ?_ ?_
  rotate_left
  ·
   intro w'
   go_simp
   with_reducible rfl
  rotate_left
  ·
   simp only [Act.put, List.setIfInBounds_toArray, List.set_cons_zero, List.set_cons_succ, i64_w, i32_w]
   rfl
  refine done_ (done_of HT_.out Z1) ?_
  try go_wp2
  go_roundg k3
  case measure => have := HJ17.out; have := HJ31.out; have := HK3.out; omega
  case rel => exact ⟨(t750), (wrap64 (x71_3 + 1)), Z8, H', ⟨Z76⟩, ⟨by (with_reducible repeat (first | apply Kd.R_alloc | apply Kd.R_drewN | apply Kd.R_drew)); exact Kd.R_mono HO752.out (fun _ hk => hk.1)⟩, ⟨Z118⟩, ⟨pB BK690.out⟩, ⟨pB BK691.out⟩, ⟨Z14⟩, ⟨Z15⟩⟩
 rw [if_pos c58] at H
 have c58b0 := decide_eq_true c58
 clear c58
 by_cases c59 : x1_3.length < 140737488355328
 rotate_left
 ·
  rw [if_neg c59] at H
  exact absurd H Z4
 rw [if_pos c59] at H
 have LMc59 := Aside0.mk c59
 clear c59
 obtain ⟨y708, hy708⟩ : ∃ y_ : List Int, y_ = (x1_3 ++ [44]) := ⟨_, rfl⟩
 first | replace H := bind_y hy708 H | rw [← hy708] at H
 have Ny708 := Aside0.mk hy708
 clear hy708
 by_cases c60 : 0 ≤ x71_3
 rotate_left
 ·
  rw [if_neg c60] at H
  exact absurd H Z4
 rw [if_pos c60] at H
 have c60b0 := decide_eq_true c60
 clear c60
 by_cases c61 : x71_3 < (l3_3.length : Int)
 rotate_left
 ·
  rw [if_neg c61] at H
  exact absurd H Z4
 rw [if_pos c61] at H
 have c61b0 := decide_eq_true c61
 clear c61
 by_cases c62 : 0 ≤ ((rd_T55 l3_3 x71_3).f0)
 rotate_left
 ·
  rw [if_neg c62] at H
  exact absurd H Z4
 rw [if_pos c62] at H
 have c62b0 := eq_true c62
 have c62b1 := decide_eq_true c62
 clear c62
 by_cases c63 : ((rd_T55 l3_3 x71_3).f0) ≤ ((rd_T55 l3_3 x71_3).f1)
 rotate_left
 ·
  rw [if_neg c63] at H
  exact absurd H Z4
 rw [if_pos c63] at H
 have c63b0 := eq_true c63
 have c63b1 := decide_eq_true c63
 clear c63
 by_cases c64 : ((rd_T55 l3_3 x71_3).f1) ≤ (a2.size : Int)
 rotate_left
 ·
  rw [if_neg c64] at H
  exact absurd H Z4
 rw [if_pos c64] at H
 have c64b0 := eq_true c64
 have c64b1 := decide_eq_true c64
 clear c64
 by_cases c65 : y708.length < 140737488355328
 rotate_left
 ·
  rw [if_neg c65] at H
  exact absurd H Z4
 rw [if_pos c65] at H
 have LMc65 := Aside0.mk c65
 clear c65
 obtain ⟨y713, hy713⟩ : ∃ y_ : List Int, y_ = (y708 ++ [10]) := ⟨_, rfl⟩
 first | replace H := bind_y hy713 H | rw [← hy713] at H
 have Ny713 := Aside0.mk hy713
 clear hy713
 by_cases c66 : y713.length + (a4 ++ a0_1).size < 140737488355328
 rotate_left
 ·
  rw [if_neg c66] at H
  exact absurd H Z4
 rw [if_pos c66] at H
 have LMc66 := Aside0.mk c66
 clear c66
 obtain ⟨y716, hy716⟩ : ∃ y_ : List Int, y_ = (y713 ++ bytesOf (a4 ++ a0_1)) := ⟨_, rfl⟩
 first | replace H := bind_y hy716 H | rw [← hy716] at H
 have Ny716 := Aside0.mk hy716
 clear hy716
 by_cases c67 : y716.length + (a2.extract (((rd_T55 l3_3 x71_3).f0) : Int).toNat (((rd_T55 l3_3 x71_3).f1) : Int).toNat).size < 140737488355328
 rotate_left
 ·
  rw [if_neg c67] at H
  exact absurd H Z4
 rw [if_pos c67] at H
 have LMc67 := Aside0.mk c67
 clear c67
 obtain ⟨y719, hy719⟩ : ∃ y_ : List Int, y_ = (y716 ++ bytesOf (a2.extract (((rd_T55 l3_3 x71_3).f0) : Int).toNat (((rd_T55 l3_3 x71_3).f1) : Int).toNat)) := ⟨_, rfl⟩
 first | replace H := bind_y hy719 H | rw [← hy719] at H
 have Ny719 := Aside0.mk hy719
 clear hy719
 obtain ⟨y722, hy722⟩ : ∃ y_ : List Int, y_ = (([58, 32] : List Int)) := ⟨_, rfl⟩
 first | replace H := bind_y hy722 H | rw [← hy722] at H
 have Ny722 := Aside0.mk hy722
 clear hy722
 by_cases c68 : y719.length + y722.length < 140737488355328
 rotate_left
 ·
  rw [if_neg c68] at H
  exact absurd H Z4
 rw [if_pos c68] at H
 have LMc68 := Aside0.mk c68
 clear c68
 obtain ⟨y725, hy725⟩ : ∃ y_ : List Int, y_ = (y719 ++ y722) := ⟨_, rfl⟩
 first | replace H := bind_y hy725 H | rw [← hy725] at H
 have Ny725 := Aside0.mk hy725
 clear hy725
 by_cases c69 : x71_3 < (l3_4.length : Int)
 rotate_left
 ·
  rw [if_neg c69] at H
  exact absurd H Z4
 rw [if_pos c69] at H
 have c69b0 := decide_eq_true c69
 clear c69
 replace H := Option.bind_eq_some_iff.mp H
 obtain ⟨t729, A700, H⟩ := H
 have A70 := Aside0.mk A700
 clear A700
 have H' := Aside0.mk H
 clear H
 try go_wp2_with (first | ((with_reducible refine gate_builtin (b := .append) (xs := #[.tmp 76, .tmp 77]) rfl ?_); at_builtin; refine Kd.R_append (Kd.int .u8) (w0 := w0) w0.heap.size rfl (.tmp 76) (.tmp 77) 40 5 (.int .u8 0) 1 rfl Try.underlying40 info5 rfl Z2 Z5 u1 x1_3 44 [.int .u8 44] (fun k_ => (P1_ k_ ∨ w.heap.size ≤ k_)) (fun _ => False) rfl rfl ?aP (fun _ hk => hk.elim) ?aF ?aO ?aB ?aS ?aL ?_; (case aP => exact rfl); (case aB => exact Z15); (case aF => exact (fun k_ hk => (.inr (Nat.le_trans Z120 hk)))); (case aO => exact (pR HO_1.out)); (case aS => exact (below_size Z15)); (case aL => have := LMc59.out; omega); intro v709 w71 ho hb hg hat; rw [← Ny708.out] at ho; have n0_ := Aside0.mk (Kd.V_afterv (ok := (fun k_ => ((P1_ k_ ∨ P3_4_ k_) ∨ w.heap.size ≤ k_) ∧ k_ ≠ gb690 ∧ k_ ≠ gb691)) Z75 hg hat); have n1_ := Aside0.mk (blk_grown (g := gb690) (o := .cells #[.string a0_0, .string a0_1, .int .i64 a0_2] 36 (0, 0)) (pB BK690.out) hg (Kd.R_ne HO_1.out BK690.out Z2)); have n2_ := Aside0.mk (blk_grown (g := gb691) (o := .cells #[.int .i64 a3_0, .int .i64 a3_1, .int .i64 a3_2, .slice A3_3 l3_3.length c3_3, .slice A3_4 l3_4.length c3_4] 28 (0, 0)) (pB BK691.out) hg (Kd.R_ne HO_1.out BK691.out Z2)); have n3_ := Aside0.mk (hb); have n4_ := Aside0.mk (Kept.of_grown (S := (fun k_ => P1_ k_)) hg Z14 (fun k_ e_ => (HO_1.out.1 k_ e_))); have n5_ := Aside0.mk (ho); clear HO_692004; clear BK690; clear BK691; clear HB; clear HK; clear HO_1; have HO_692004 := n0_; have BK690 := n1_; have BK691 := n2_; have HB := n3_; have HK := n4_; have HO710 := n5_; clear n0_ n1_ n2_ n3_ n4_ n5_; clear ho hb hg hat))
 have n0_ := Aside0.mk (Kd.V_drew HO_692004.out)
 have n1_ := Aside0.mk (Kd.R_drew HO710.out)
 have n2_ := Aside0.mk (blk_drew BK690.out)
 have n3_ := Aside0.mk (blk_drew BK691.out)
 have n4_ := Aside0.mk (Kept.drew HK.out)
 have n5_ := Aside0.mk (below_drew1 HB.out)
 clear HO_692004; clear HO710; clear BK690; clear BK691; clear HK; clear HB
 have HO_692004 := n0_
 have HO710 := n1_
 have BK690 := n2_
 have BK691 := n3_
 have HK := n4_
 have HB := n5_
 clear n0_ n1_ n2_ n3_ n4_ n5_
 have p711 : 0 ≤ (x71_3 : Int) := of_decide_eq_true Z0
 have q711 : x71_3 < (l3_3.length : Int) := of_decide_eq_true Z0
 obtain ⟨ad711, e711, hx711_0, hx711_1⟩ := at_T55 (Kd.C_kept_now HR3_3.out HK.out) x71_3 p711 q711
 have hw711_1 := hx711_1
 have hw711_0 := hx711_0
 cases e711
 replace p711 := eq_true p711
 replace q711 := eq_true q711
 have p712 : 0 ≤ (x71_3 : Int) := of_decide_eq_true Z0
 have q712 : x71_3 < (l3_3.length : Int) := of_decide_eq_true Z0
 obtain ⟨ad712, e712, hx712_0, hx712_1⟩ := at_T55 (Kd.C_kept_now HR3_3.out HK.out) x71_3 p712 q712
 have hw712_1 := hx712_1
 have hw712_0 := hx712_0
 obtain rfl : ad711 = ad712 := (by injection e712)
 replace p712 := eq_true p712
 replace q712 := eq_true q712
 refine start_ (n := 15) (S := fun w' => w'.cell? ⟨gb691, 0, none⟩ = some (.int .i64 a3_0) ∧ w'.cell? ⟨gb691, 1, none⟩ = some (.int .i64 a3_1) ∧ w'.cell? ⟨gb691, 2, none⟩ = some (.int .i64 a3_2) ∧ w'.cell? ⟨gb691, 3, none⟩ = some (.slice (some ad711) l3_3.length c3_3) ∧ w'.cell? ⟨gb691, 4, none⟩ = some (.slice A3_4 l3_4.length c3_4) ∧ w'.cell? (ad711.add ((x71_3).toNat * 2)) = some (.int .i64 ((rd_T55 l3_3 x71_3).f0)) ∧ w'.cell? ⟨(ad711.add ((x71_3).toNat * 2)).block, (ad711.add ((x71_3).toNat * 2)).off + 1, none⟩ = some (.int .i64 ((rd_T55 l3_3 x71_3).f1)) ∧ w'.cell? (ad711.add ((x71_3).toNat * 2)) = some (.int .i64 ((rd_T55 l3_3 x71_3).f0)) ∧ w'.cell? ⟨(ad711.add ((x71_3).toNat * 2)).block, (ad711.add ((x71_3).toNat * 2)).off + 1, none⟩ = some (.int .i64 ((rd_T55 l3_3 x71_3).f1))) (ds := []) #[false, false, false, false, false, false, false, false, false, false, false, false, false, false, false] Z1 rfl rfl ⟨(blk_cell BK691.out 0).trans rfl, (blk_cell BK691.out 1).trans rfl, (blk_cell BK691.out 2).trans rfl, (blk_cell BK691.out 3).trans rfl, (blk_cell BK691.out 4).trans rfl, hx711_0, hx711_1, hx712_0, hx712_1⟩ (fun hHeld => ?_); refine with_tabW spec_Layout_value.tab17 spec_Layout_value.bits17 (fun HT_ HW_ => ?_)
 generalize w71.drew = w72 at HO_692004 HO710 BK690 BK691 HK HB hx711_0 hx711_1 hx712_0 hx712_1 hHeld ⊢
 refine pure_ (i := 0) (N := some 79) (v := ?_) (a' := ?_) #[true, false, false, false, false, false, false, false, false, false, false, false, false, false, false] rfl rfl (any_of HT_.out Z1) (fun _ _ _ h => h) (Or.inl ⟨Z3, ?_⟩) ?_ ?_
 rotate_left
 ·
  intro w'
  go_simp
  with_reducible rfl
 rotate_left
 ·
  simp only [Act.put, List.setIfInBounds_toArray, List.set_cons_zero, List.set_cons_succ, i64_w, i32_w]
  rfl
 refine pure_ (i := 1) (N := some 80) (v := ?_) (a' := ?_) #[true, true, false, false, false, false, false, false, false, false, false, false, false, false, false] rfl rfl (any_of HT_.out Z1) (fun _ _ _ h => h) (Or.inl ⟨Z3, ?_⟩) ?_ ?_
 rotate_left
 ·
  intro w'
  go_simp
  with_reducible rfl
 rotate_left
 ·
  simp only [Act.put, List.setIfInBounds_toArray, List.set_cons_zero, List.set_cons_succ, i64_w, i32_w]
  rfl
 refine pure_ (i := 3) (N := some 82) (v := ?_) (a' := ?_) #[true, true, false, true, false, false, false, false, false, false, false, false, false, false, false] rfl rfl (any_of HT_.out Z1) (fun _ _ _ h => h) (Or.inl ⟨Z3, ?_⟩) ?_ ?_
 rotate_left
 ·
  intro w'
  go_simp
  with_reducible rfl
 rotate_left
 ·
  simp only [Act.put, List.setIfInBounds_toArray, List.set_cons_zero, List.set_cons_succ, i64_w, i32_w]
  rfl
 refine pure_ (i := 7) (N := some 86) (v := ?_) (a' := ?_) #[true, true, false, true, false, false, false, true, false, false, false, false, false, false, false] rfl rfl (any_of HT_.out Z1) (fun _ _ _ h => h) (Or.inl ⟨Z3, ?_⟩) ?_ ?_
 rotate_left
 ·
  intro w'
  go_simp
  with_reducible rfl
 rotate_left
 ·
  simp only [Act.put, List.setIfInBounds_toArray, List.set_cons_zero, List.set_cons_succ, i64_w, i32_w]
  rfl
 refine pure_ (i := 9) (N := some 88) (v := ?_) (a' := ?_) #[true, true, false, true, false, false, false, true, false, true, false, false, false, false, false] rfl rfl (any_of HT_.out Z1) (fun _ _ _ h => h) (Or.inl ⟨Z3, ?_⟩) ?_ ?_
 rotate_left
 ·
  intro w'
  go_simp
  with_reducible rfl
 rotate_left
 ·
  simp only [Act.put, List.setIfInBounds_toArray, List.set_cons_zero, List.set_cons_succ, i64_w, i32_w]
  rfl
 refine take_ (i := 2) (N := some 81) (v := ?_) (a' := ?_) #[true, true, true, true, false, false, false, true, false, true, false, false, false, false, false] rfl rfl (take_ofW HT_.out HW_.out Z1) (fun _ _ _ h => h) (Or.inl ⟨Z3, ?_⟩) hHeld ?_ ?_
 rotate_left
 ·
  rintro w' ⟨s0, s1, s2, s3, s4, s5, s6, s7, s8⟩
  go_simp
  with_reducible rfl
 rotate_left
 ·
  simp only [Act.put, List.setIfInBounds_toArray, List.set_cons_zero, List.set_cons_succ, i64_w, i32_w]
  rfl
 refine pure_ (i := 4) (N := some 83) (v := ?_) (a' := ?_) #[true, true, true, true, true, false, false, true, false, true, false, false, false, false, false] rfl rfl (any_of HT_.out Z1) (fun _ _ _ h => h) (Or.inl ⟨Z3, ?_⟩) ?_ ?_
 rotate_left
 ·
  intro w'
  go_simp
  with_reducible rfl
 rotate_left
 ·
  simp only [Act.put, List.setIfInBounds_toArray, List.set_cons_zero, List.set_cons_succ, i64_w, i32_w]
  rfl
 refine pure_ (i := 5) (N := some 84) (v := ?_) (a' := ?_) #[true, true, true, true, true, true, false, true, false, true, false, false, false, false, false] rfl rfl (any_of HT_.out Z1) (fun _ _ _ h => h) (Or.inl ⟨Z3, ?_⟩) ?_ ?_
 rotate_left
 ·
  intro w'
  go_simp
  with_reducible rfl
 rotate_left
 ·
  simp only [Act.put, List.setIfInBounds_toArray, List.set_cons_zero, List.set_cons_succ, i64_w, i32_w]
  rfl
 refine take_ (i := 6) (N := some 85) (v := ?_) (a' := ?_) #[true, true, true, true, true, true, true, true, false, true, false, false, false, false, false] rfl rfl (take_ofW HT_.out HW_.out Z1) (fun _ _ _ h => h) (Or.inl ⟨Z3, ?_⟩) hHeld ?_ ?_
 rotate_left
 ·
  rintro w' ⟨s0, s1, s2, s3, s4, s5, s6, s7, s8⟩
  go_simp
  with_reducible rfl
 rotate_left
 ·
  simp only [Act.put, List.setIfInBounds_toArray, List.set_cons_zero, List.set_cons_succ, i64_w, i32_w]
  rfl
 refine take_ (i := 8) (N := some 87) (v := ?_) (a' := ?_) #[true, true, true, true, true, true, true, true, true, true, false, false, false, false, false] rfl rfl (take_ofW HT_.out HW_.out Z1) (fun _ _ _ h => h) (Or.inl ⟨Z3, ?_⟩) hHeld ?_ ?_
 rotate_left
 ·
  rintro w' ⟨s0, s1, s2, s3, s4, s5, s6, s7, s8⟩
  go_simp
  with_reducible rfl
 rotate_left
 ·
  simp only [Act.put, List.setIfInBounds_toArray, List.set_cons_zero, List.set_cons_succ, i64_w, i32_w]
  rfl
 refine pure_ (i := 10) (N := some 89) (v := ?_) (a' := ?_) #[true, true, true, true, true, true, true, true, true, true, true, false, false, false, false] rfl rfl (any_of HT_.out Z1) (fun _ _ _ h => h) (Or.inl ⟨Z3, ?_⟩) ?_ ?_
 rotate_left
 ·
  intro w'
  go_simp
  with_reducible rfl
 rotate_left
 ·
  simp only [Act.put, List.setIfInBounds_toArray, List.set_cons_zero, List.set_cons_succ, i64_w, i32_w]
  rfl
 refine pure_ (i := 11) (N := some 90) (v := ?_) (a' := ?_) #[true, true, true, true, true, true, true, true, true, true, true, true, false, false, false] rfl rfl (any_of HT_.out Z1) (fun _ _ _ h => h) (Or.inl ⟨Z3, ?_⟩) ?_ ?_
 rotate_left
 ·
  intro w'
  go_simp
  with_reducible rfl
 rotate_left
 ·
  simp only [Act.put, List.setIfInBounds_toArray, List.set_cons_zero, List.set_cons_succ, i64_w, i32_w]
  rfl
 refine take_ (i := 12) (N := some 91) (v := ?_) (a' := ?_) #[true, true, true, true, true, true, true, true, true, true, true, true, true, false, false] rfl rfl (take_ofW HT_.out HW_.out Z1) (fun _ _ _ h => h) (Or.inl ⟨Z3, ?_⟩) hHeld ?_ ?_
 rotate_left
 ·
  rintro w' ⟨s0, s1, s2, s3, s4, s5, s6, s7, s8⟩
  go_simp
  with_reducible rfl
 rotate_left
 ·
  simp only [Act.put, List.setIfInBounds_toArray, List.set_cons_zero, List.set_cons_succ, i64_w, i32_w]
  rfl
 refine pure_ (i := 13) (N := some 92) (v := ?_) (a' := ?_) #[true, true, true, true, true, true, true, true, true, true, true, true, true, true, false] rfl rfl (any_of HT_.out Z1) (fun _ _ _ h => h) (Or.inl ⟨Z3, ?_⟩) ?_ ?_
 rotate_left
 ·
  intro w'
  go_simp
  with_reducible rfl
 rotate_left
 ·
  simp only [Act.put, List.setIfInBounds_toArray, List.set_cons_zero, List.set_cons_succ, i64_w, i32_w]
  rfl
 refine pure_ (i := 14) (N := some 17) (v := ?_) (a' := ?_) #[true, true, true, true, true, true, true, true, true, true, true, true, true, true, true] rfl rfl (any_of HT_.out Z1) (fun _ _ _ h => h) (Or.inl ⟨Z3, ?_⟩) ?_ ?_
 rotate_left
 ·
  intro w'
  go_simp
  with_reducible rfl
 rotate_left
 ·
  simp only [Act.put, List.setIfInBounds_toArray, List.set_cons_zero, List.set_cons_succ, i64_w, i32_w]
  rfl
 refine done_ (done_of HT_.out Z1) ?_
 try go_wp2_with (first | ((with_reducible refine gate_builtin (b := .append) (xs := #[.tmp 93, .tmp 94]) rfl ?_); at_builtin; refine Kd.R_append (Kd.int .u8) (w0 := w0) w0.heap.size rfl (.tmp 93) (.tmp 94) 40 5 (.int .u8 0) 1 rfl Try.underlying40 info5 rfl Z2 Z5 v709 y708 10 [.int .u8 10] (fun k_ => (P1_ k_ ∨ w.heap.size ≤ k_)) (fun _ => False) rfl rfl ?aP (fun _ hk => hk.elim) ?aF ?aO ?aB ?aS ?aL ?_; (case aP => exact rfl); (case aB => exact Z15); (case aF => exact (fun k_ hk => (.inr (Nat.le_trans Z120 hk)))); (case aO => exact (pR HO710.out)); (case aS => exact (below_size Z15)); (case aL => have := LMc65.out; omega); intro v714 w73 ho hb hg hat; rw [← Ny713.out] at ho; have n0_ := Aside0.mk (Kd.V_afterv (ok := (fun k_ => ((P1_ k_ ∨ P3_4_ k_) ∨ w.heap.size ≤ k_) ∧ k_ ≠ gb690 ∧ k_ ≠ gb691)) (pV HO_692004.out) hg hat); have n1_ := Aside0.mk (blk_grown (g := gb690) (o := .cells #[.string a0_0, .string a0_1, .int .i64 a0_2] 36 (0, 0)) (pB BK690.out) hg (Kd.R_ne HO710.out BK690.out Z2)); have n2_ := Aside0.mk (blk_grown (g := gb691) (o := .cells #[.int .i64 a3_0, .int .i64 a3_1, .int .i64 a3_2, .slice (some ad711) l3_3.length c3_3, .slice A3_4 l3_4.length c3_4] 28 (0, 0)) (pB BK691.out) hg (Kd.R_ne HO710.out BK691.out Z2)); have n3_ := Aside0.mk (hb); have n4_ := Aside0.mk (Kept.of_grown (S := (fun k_ => P1_ k_)) hg Z14 (fun k_ e_ => (HO710.out.1 k_ e_))); have n5_ := Aside0.mk (ho); clear HO_692004; clear BK690; clear BK691; clear HB; clear HK; clear HO710; have HO_692004 := n0_; have BK690 := n1_; have BK691 := n2_; have HB := n3_; have HK := n4_; have HO715 := n5_; clear n0_ n1_ n2_ n3_ n4_ n5_; clear ho hb hg hat) | (at_builtin; refine Kd.R_append_str (w0 := w0) w0.heap.size rfl (.tmp 96) _ 40 9 5 rfl Try.underlying40 Try.underlying9 info5 v714 y713 (a4 ++ a0_1) (fun k_ => (P1_ k_ ∨ w.heap.size ≤ k_)) rfl rfl ?aF ?aO ?aB ?aS ?aL ?_; (case aB => exact Z15); (case aF => exact (fun k_ hk => (.inr (Nat.le_trans Z120 hk)))); (case aO => exact (pR HO715.out)); (case aS => exact (below_size Z15)); (case aL => have := LMc66.out; omega); intro v717 w74 ho hb hg hat; rw [← Ny716.out] at ho; have n0_ := Aside0.mk (Kd.V_afterv (ok := (fun k_ => ((P1_ k_ ∨ P3_4_ k_) ∨ w.heap.size ≤ k_) ∧ k_ ≠ gb690 ∧ k_ ≠ gb691)) (pV HO_692004.out) hg hat); have n1_ := Aside0.mk (blk_grown (g := gb690) (o := .cells #[.string a0_0, .string a0_1, .int .i64 a0_2] 36 (0, 0)) (pB BK690.out) hg (Kd.R_ne HO715.out BK690.out Z2)); have n2_ := Aside0.mk (blk_grown (g := gb691) (o := .cells #[.int .i64 a3_0, .int .i64 a3_1, .int .i64 a3_2, .slice (some ad711) l3_3.length c3_3, .slice A3_4 l3_4.length c3_4] 28 (0, 0)) (pB BK691.out) hg (Kd.R_ne HO715.out BK691.out Z2)); have n3_ := Aside0.mk (hb); have n4_ := Aside0.mk (Kept.of_grown (S := (fun k_ => P1_ k_)) hg Z14 (fun k_ e_ => (HO715.out.1 k_ e_))); have n5_ := Aside0.mk (ho); clear HO_692004; clear BK690; clear BK691; clear HB; clear HK; clear HO715; have HO_692004 := n0_; have BK690 := n1_; have BK691 := n2_; have HB := n3_; have HK := n4_; have HO718 := n5_; clear n0_ n1_ n2_ n3_ n4_ n5_; clear ho hb hg hat) | (at_builtin; refine Kd.R_append_str (w0 := w0) w0.heap.size rfl (.tmp 99) _ 40 9 5 rfl Try.underlying40 Try.underlying9 info5 v717 y716 (a2.extract (((rd_T55 l3_3 x71_3).f0) : Int).toNat (((rd_T55 l3_3 x71_3).f1) : Int).toNat) (fun k_ => (P1_ k_ ∨ w.heap.size ≤ k_)) rfl rfl ?aF ?aO ?aB ?aS ?aL ?_; (case aB => exact Z15); (case aF => exact (fun k_ hk => (.inr (Nat.le_trans Z120 hk)))); (case aO => exact (pR HO718.out)); (case aS => exact (below_size Z15)); (case aL => have := LMc67.out; omega); intro v720 w75 ho hb hg hat; rw [← Ny719.out] at ho; have n0_ := Aside0.mk (Kd.V_afterv (ok := (fun k_ => ((P1_ k_ ∨ P3_4_ k_) ∨ w.heap.size ≤ k_) ∧ k_ ≠ gb690 ∧ k_ ≠ gb691)) (pV HO_692004.out) hg hat); have n1_ := Aside0.mk (blk_grown (g := gb690) (o := .cells #[.string a0_0, .string a0_1, .int .i64 a0_2] 36 (0, 0)) (pB BK690.out) hg (Kd.R_ne HO718.out BK690.out Z2)); have n2_ := Aside0.mk (blk_grown (g := gb691) (o := .cells #[.int .i64 a3_0, .int .i64 a3_1, .int .i64 a3_2, .slice (some ad711) l3_3.length c3_3, .slice A3_4 l3_4.length c3_4] 28 (0, 0)) (pB BK691.out) hg (Kd.R_ne HO718.out BK691.out Z2)); have n3_ := Aside0.mk (hb); have n4_ := Aside0.mk (Kept.of_grown (S := (fun k_ => P1_ k_)) hg Z14 (fun k_ e_ => (HO718.out.1 k_ e_))); have n5_ := Aside0.mk (ho); clear HO_692004; clear BK690; clear BK691; clear HB; clear HK; clear HO718; have HO_692004 := n0_; have BK690 := n1_; have BK691 := n2_; have HB := n3_; have HK := n4_; have HO721 := n5_; clear n0_ n1_ n2_ n3_ n4_ n5_; clear ho hb hg hat) | ((with_reducible refine gate_dst (N := 103) rfl ?_); refine Kd.R_lit (Kd.int .u8) _ 5 ?hg (N := 103) ?hd (xs := ([58, 32] : List Int)) (inner := [.int .u8 58, .int .u8 32]) (ok := fun _ => True) (okp := fun _ => True) ?hr ?hp (fun _ hk => hk) trivial (Below.refl _ _) (Nat.le_refl _) Z4 ?_; (case hd => exact Z3); (case hg => exact Z3); (case hr => exact Z19); (case hp => exact (Reps.one (show Kd.M (Kd.int .u8) _ _ _ 58 [.int .u8 58] from rfl) (Reps.one (show Kd.M (Kd.int .u8) _ _ _ 32 [.int .u8 32] from rfl) (Reps.none _ _)))); intro v723 w76 ho77 hb hg_ hnew_; clear hg_ hnew_; (first | rw [← Ny722.out] at ho77 | (simp only [Int.reduceToNat] at ho77; rw [← Ny722.out] at ho77)); have n0_ := Aside0.mk (Kd.V_elder' (pV HO_692004.out) (Kd.R_base ho77) hb); have n1_ := Aside0.mk (Kd.R_elder' (pR HO721.out) (Kd.R_base ho77) hb); have n2_ := Aside0.mk (Kd.R_lower (Kd.R_new' (Kd.R_newM (M := fun k_ => (P1_ k_ ∨ w.heap.size ≤ k_)) ho77 Z120 (fun k_ h_ => .inr h_)) (Kd.R_lt (pR HO721.out))) (below_size Z15)); have n3_ := Aside0.mk (blk_below (g := gb690) (o := .cells #[.string a0_0, .string a0_1, .int .i64 a0_2] 36 (0, 0)) (pB BK690.out) hb); have n4_ := Aside0.mk (blk_below (g := gb691) (o := .cells #[.int .i64 a3_0, .int .i64 a3_1, .int .i64 a3_2, .slice (some ad711) l3_3.length c3_3, .slice A3_4 l3_4.length c3_4] 28 (0, 0)) (pB BK691.out) hb); have n5_ := Aside0.mk (Kept.below (S := (fun k_ => P1_ k_)) Z14 hb); have n6_ := Aside0.mk (below_step Z15 hb); clear HO_692004; clear HO721; clear BK690; clear BK691; clear HK; clear HB; have HO_692004 := n0_; have HO721 := n1_; have HO724 := n2_; have BK690 := n3_; have BK691 := n4_; have HK := n5_; have HB := n6_; clear n0_ n1_ n2_ n3_ n4_ n5_ n6_; clear hb ho77; obtain ⟨Ao79, co79, eo79⟩ := Kd.R_slice HO724.out; subst eo79) | ((with_reducible refine gate_builtin (b := .append) (xs := #[.tmp 102, .tmp 103]) rfl ?_); at_builtin; refine Kd.R_append_rows (Kd.int .u8) (w0 := w0) w0.heap.size rfl (.tmp 102) (.tmp 103) 40 5 (.int .u8 0) 1 rfl Try.underlying40 info5 rfl Z2 Z5 v720 y719 y722 _ _ _ (fun k_ => (P1_ k_ ∨ w.heap.size ≤ k_) ∧ some k_ ≠ (.slice Ao79 y722.length co79 : Value).ownBlock) (fun _ => False) rfl rfl ?aO ?aR (fun _ _ h => h) (fun _ h => h.elim) ?aF ?aB ?aS ?aL ?_; (case aR => repeat (first | exact (Kd.R_reads' HO724.out).2.2 | (with_reducible refine Kd.C_alloc ?_ _) | (with_reducible refine Kd.C_drewN ?_ _) | (with_reducible refine Kd.C_drew ?_))); (case aB => exact Z15); (case aF => exact (fun k_ hk => ⟨(.inr (Nat.le_trans Z120 hk)), Kd.fresh' (Kd.R_lt (pR HO724.out)) k_ hk⟩)); (case aO => exact (pR HO721.out)); (case aS => exact (below_size Z15)); (case aL => have := LMc68.out; omega); intro v726 w78 ho hb hg hat; rw [← Ny725.out] at ho; have n0_ := Aside0.mk (Kd.V_afterv (ok := (fun k_ => ((P1_ k_ ∨ P3_4_ k_) ∨ w.heap.size ≤ k_) ∧ some k_ ≠ (.slice Ao79 y722.length co79 : Value).ownBlock ∧ k_ ≠ gb690 ∧ k_ ≠ gb691)) Z117 hg hat); have n1_ := Aside0.mk (blk_grown (g := gb690) (o := .cells #[.string a0_0, .string a0_1, .int .i64 a0_2] 36 (0, 0)) (pB BK690.out) hg (Kd.R_ne HO721.out BK690.out Z2)); have n2_ := Aside0.mk (blk_grown (g := gb691) (o := .cells #[.int .i64 a3_0, .int .i64 a3_1, .int .i64 a3_2, .slice (some ad711) l3_3.length c3_3, .slice A3_4 l3_4.length c3_4] 28 (0, 0)) (pB BK691.out) hg (Kd.R_ne HO721.out BK691.out Z2)); have n3_ := Aside0.mk (Kd.R_after (ok := (fun k_ => (P1_ k_ ∨ w.heap.size ≤ k_))) (by (with_reducible repeat (first | apply Kd.R_alloc | apply Kd.R_drewN | apply Kd.R_drew)); exact Kd.R_mono HO724.out (fun _ hk => ⟨hk.1.1, hk.2⟩)) hg hat); have n4_ := Aside0.mk (hb); have n5_ := Aside0.mk (Kept.of_grown (S := (fun k_ => P1_ k_)) hg Z14 (fun k_ e_ => (HO721.out.1 k_ e_).1)); have n6_ := Aside0.mk (ho); clear HO_692004; clear BK690; clear BK691; clear HO724; clear HB; clear HK; clear HO721; have HO_692004 := n0_; have BK690 := n1_; have BK691 := n2_; have HO724 := n3_; have HB := n4_; have HK := n5_; have HO727 := n6_; clear n0_ n1_ n2_ n3_ n4_ n5_ n6_; clear ho hb hg hat))
 have n0_ := Aside0.mk (Kd.V_drew HO_692004.out)
 have n1_ := Aside0.mk (Kd.R_drew HO724.out)
 have n2_ := Aside0.mk (Kd.R_drew HO727.out)
 have n3_ := Aside0.mk (blk_drew BK690.out)
 have n4_ := Aside0.mk (blk_drew BK691.out)
 have n5_ := Aside0.mk (Kept.drew HK.out)
 have n6_ := Aside0.mk (below_drew1 HB.out)
 clear HO_692004; clear HO724; clear HO727; clear BK690; clear BK691; clear HK; clear HB
 have HO_692004 := n0_
 have HO724 := n1_
 have HO727 := n2_
 have BK690 := n3_
 have BK691 := n4_
 have HK := n5_
 have HB := n6_
 clear n0_ n1_ n2_ n3_ n4_ n5_ n6_
 have p728 : 0 ≤ (x71_3 : Int) := of_decide_eq_true Z0
 have q728 : x71_3 < (l3_4.length : Int) := of_decide_eq_true Z0
 obtain ⟨ad728, A728_3, c728_3, A728_4, c728_4, e728, hx728_0, hx728_1, hx728_2, hx728_3, hx728_4, hl728_3, hi728_3, hl728_4, hi728_4⟩ := at_T28 (Kd.V_reads' HO_692004.out).2.2 x71_3 p728 q728
 cases e728
 obtain ⟨ce728, hce728, hMe728, hcc728⟩ := Kd.V_get HO_692004.out z28 x71_3 p728 (by first | exact q728 | exact of_decide_eq_true Z0 | (have e_ := (Kd.V_reads' HO_692004.out).1; omega))
 obtain ⟨ua728_3, uc728_3, ua728_4, uc728_4, rfl, ul728_3, ge728_3, ul728_4, ge728_4⟩ := k28_openF hMe728
 have hv728_3 := hcc728 3 _ rfl
 rw [add_field _ _ 3 Z5] at hv728_3
 replace hv728_3 := Option.some.inj (hv728_3.symm.trans hx728_3)
 injection hv728_3 with hva_ hvn_ hvc_
 rw [hva_] at ge728_3
 rw [hvc_] at ul728_3
 have HL728_3 := Aside0.mk (show Kd.V k55 55 _ w0.heap.size _ _ ((rd_T28 l3_4 x71_3).f3) from Kd.V_mk ul728_3 ge728_3)
 clear hva_ hvn_ hvc_ ge728_3 ul728_3
 have hv728_4 := hcc728 4 _ rfl
 rw [add_field _ _ 4 Z5] at hv728_4
 replace hv728_4 := Option.some.inj (hv728_4.symm.trans hx728_4)
 injection hv728_4 with hva_ hvn_ hvc_
 rw [hva_] at ge728_4
 rw [hvc_] at ul728_4
 have HL728_4 := Aside0.mk (show Kd.V k28 28 _ w0.heap.size _ _ ((rd_T28 l3_4 x71_3).f4) from Kd.V_mk ul728_4 ge728_4)
 clear hva_ hvn_ hvc_ ge728_4 ul728_4; clear hcc728 hce728
 have HR728_3 := Aside0.mk hi728_3
 have HC728_3 := Aside0.mk hl728_3
 clear hi728_3 hl728_3
 have HR728_4 := Aside0.mk hi728_4
 have HC728_4 := Aside0.mk hl728_4
 clear hi728_4 hl728_4
 replace p728 := eq_true p728
 replace q728 := eq_true q728
 obtain ⟨Ao81, co81, eo81⟩ := Kd.R_slice HO727.out
 (first | subst eo81 | (injection eo81 with f1_ f2_ f3_; have f4_ := f1_.symm; have f5_ := f3_.symm; clear f1_ f2_ f3_; subst f4_; subst f5_))
 refine start_ (n := 17) (S := fun w' => w'.cell? ⟨gb690, 0, none⟩ = some (.string a0_0) ∧ w'.cell? ⟨gb690, 1, none⟩ = some (.string a0_1) ∧ w'.cell? ⟨gb690, 2, none⟩ = some (.int .i64 a0_2) ∧ w'.cell? ⟨gb691, 0, none⟩ = some (.int .i64 a3_0) ∧ w'.cell? ⟨gb691, 1, none⟩ = some (.int .i64 a3_1) ∧ w'.cell? ⟨gb691, 2, none⟩ = some (.int .i64 a3_2) ∧ w'.cell? ⟨gb691, 3, none⟩ = some (.slice (some ad711) l3_3.length c3_3) ∧ w'.cell? ⟨gb691, 4, none⟩ = some (.slice (some ad728) l3_4.length c3_4) ∧ w'.cell? (ad728.add ((x71_3).toNat * 5)) = some (.int .i64 ((rd_T28 l3_4 x71_3).f0)) ∧ w'.cell? ⟨(ad728.add ((x71_3).toNat * 5)).block, (ad728.add ((x71_3).toNat * 5)).off + 1, none⟩ = some (.int .i64 ((rd_T28 l3_4 x71_3).f1)) ∧ w'.cell? ⟨(ad728.add ((x71_3).toNat * 5)).block, (ad728.add ((x71_3).toNat * 5)).off + 2, none⟩ = some (.int .i64 ((rd_T28 l3_4 x71_3).f2)) ∧ w'.cell? ⟨(ad728.add ((x71_3).toNat * 5)).block, (ad728.add ((x71_3).toNat * 5)).off + 3, none⟩ = some (.slice A728_3 ((rd_T28 l3_4 x71_3).f3).length c728_3) ∧ w'.cell? ⟨(ad728.add ((x71_3).toNat * 5)).block, (ad728.add ((x71_3).toNat * 5)).off + 4, none⟩ = some (.slice A728_4 ((rd_T28 l3_4 x71_3).f4).length c728_4)) (ds := []) #[false, false, false, false, false, false, false, false, false, false, false, false, false, false, false, false, false] Z1 rfl rfl ⟨(blk_cell BK690.out 0).trans rfl, (blk_cell BK690.out 1).trans rfl, (blk_cell BK690.out 2).trans rfl, (blk_cell BK691.out 0).trans rfl, (blk_cell BK691.out 1).trans rfl, (blk_cell BK691.out 2).trans rfl, (blk_cell BK691.out 3).trans rfl, (blk_cell BK691.out 4).trans rfl, hx728_0, hx728_1, hx728_2, hx728_3, hx728_4⟩ (fun hHeld => ?_); refine with_tabW spec_Layout_value.tab22 spec_Layout_value.bits22 (fun HT_ HW_ => ?_)
 generalize w78.drew = w80 at HO_692004 HO724 HO727 BK690 BK691 HK HB HL728_3 HL728_4 HR728_3 HR728_4 hx728_0 hx728_1 hx728_2 hx728_3 hx728_4 hHeld ⊢
 refine pure_ (i := 1) (N := some 106) (v := ?_) (a' := ?_) #[false, true, false, false, false, false, false, false, false, false, false, false, false, false, false, false, false] rfl rfl (any_of HT_.out Z1) (fun _ _ _ h => h) (Or.inl ⟨Z3, ?_⟩) ?_ ?_
 rotate_left
 ·
  intro w'
  go_simp
  with_reducible rfl
 rotate_left
 ·
  simp only [Act.put, List.setIfInBounds_toArray, List.set_cons_zero, List.set_cons_succ, i64_w, i32_w]
  rfl
 refine pure_ (i := 2) (N := some 107) (v := ?_) (a' := ?_) #[false, true, true, false, false, false, false, false, false, false, false, false, false, false, false, false, false] rfl rfl (any_of HT_.out Z1) (fun _ _ _ h => h) (Or.inl ⟨Z3, ?_⟩) ?_ ?_
 rotate_left
 ·
  intro w'
  go_simp
  with_reducible rfl
 rotate_left
 ·
  simp only [Act.put, List.setIfInBounds_toArray, List.set_cons_zero, List.set_cons_succ, i64_w, i32_w]
  rfl
 refine pure_ (i := 3) (N := some 108) (v := ?_) (a' := ?_) #[false, true, true, true, false, false, false, false, false, false, false, false, false, false, false, false, false] rfl rfl (any_of HT_.out Z1) (fun _ _ _ h => h) (Or.inl ⟨Z3, ?_⟩) ?_ ?_
 rotate_left
 ·
  intro w'
  go_simp
  with_reducible rfl
 rotate_left
 ·
  simp only [Act.put, List.setIfInBounds_toArray, List.set_cons_zero, List.set_cons_succ, i64_w, i32_w]
  rfl
 refine pure_ (i := 5) (N := some 110) (v := ?_) (a' := ?_) #[false, true, true, true, false, true, false, false, false, false, false, false, false, false, false, false, false] rfl rfl (any_of HT_.out Z1) (fun _ _ _ h => h) (Or.inl ⟨Z3, ?_⟩) ?_ ?_
 rotate_left
 ·
  intro w'
  go_simp
  with_reducible rfl
 rotate_left
 ·
  simp only [Act.put, List.setIfInBounds_toArray, List.set_cons_zero, List.set_cons_succ, i64_w, i32_w]
  rfl
 refine pure_ (i := 8) (N := some 113) (v := ?_) (a' := ?_) #[false, true, true, true, false, true, false, false, true, false, false, false, false, false, false, false, false] rfl rfl (any_of HT_.out Z1) (fun _ _ _ h => h) (Or.inl ⟨Z3, ?_⟩) ?_ ?_
 rotate_left
 ·
  intro w'
  go_simp
  with_reducible rfl
 rotate_left
 ·
  simp only [Act.put, List.setIfInBounds_toArray, List.set_cons_zero, List.set_cons_succ, i64_w, i32_w]
  rfl
 refine pure_ (i := 9) (N := some 114) (v := ?_) (a' := ?_) #[false, true, true, true, false, true, false, false, true, true, false, false, false, false, false, false, false] rfl rfl (any_of HT_.out Z1) (fun _ _ _ h => h) (Or.inl ⟨Z3, ?_⟩) ?_ ?_
 rotate_left
 ·
  intro w'
  go_simp
  with_reducible rfl
 rotate_left
 ·
  simp only [Act.put, List.setIfInBounds_toArray, List.set_cons_zero, List.set_cons_succ, i64_w, i32_w]
  rfl
 refine pure_ (i := 10) (N := some 115) (v := ?_) (a' := ?_) #[false, true, true, true, false, true, false, false, true, true, true, false, false, false, false, false, false] rfl rfl (any_of HT_.out Z1) (fun _ _ _ h => h) (Or.inl ⟨Z3, ?_⟩) ?_ ?_
 rotate_left
 ·
  intro w'
  go_simp
  with_reducible rfl
 rotate_left
 ·
  simp only [Act.put, List.setIfInBounds_toArray, List.set_cons_zero, List.set_cons_succ, i64_w, i32_w]
  rfl
 refine pure_ (i := 11) (N := some 116) (v := ?_) (a' := ?_) #[false, true, true, true, false, true, false, false, true, true, true, true, false, false, false, false, false] rfl rfl (any_of HT_.out Z1) (fun _ _ _ h => h) (Or.inl ⟨Z3, ?_⟩) ?_ ?_
 rotate_left
 ·
  intro w'
  go_simp
  with_reducible rfl
 rotate_left
 ·
  simp only [Act.put, List.setIfInBounds_toArray, List.set_cons_zero, List.set_cons_succ, i64_w, i32_w]
  rfl
 refine pure_ (i := 12) (N := some 117) (v := ?_) (a' := ?_) #[false, true, true, true, false, true, false, false, true, true, true, true, true, false, false, false, false] rfl rfl (any_of HT_.out Z1) (fun _ _ _ h => h) (Or.inl ⟨Z3, ?_⟩) ?_ ?_
 rotate_left
 ·
  intro w'
  go_simp
  with_reducible rfl
 rotate_left
 ·
  simp only [Act.put, List.setIfInBounds_toArray, List.set_cons_zero, List.set_cons_succ, i64_w, i32_w]
  rfl
 refine pure_ (i := 13) (N := some 118) (v := ?_) (a' := ?_) #[false, true, true, true, false, true, false, false, true, true, true, true, true, true, false, false, false] rfl rfl (any_of HT_.out Z1) (fun _ _ _ h => h) (Or.inl ⟨Z3, ?_⟩) ?_ ?_
 rotate_left
 ·
  intro w'
  go_simp
  with_reducible rfl
 rotate_left
 ·
  simp only [Act.put, List.setIfInBounds_toArray, List.set_cons_zero, List.set_cons_succ, i64_w, i32_w]
  rfl
 refine pure_ (i := 14) (N := some 119) (v := ?_) (a' := ?_) #[false, true, true, true, false, true, false, false, true, true, true, true, true, true, true, false, false] rfl rfl (any_of HT_.out Z1) (fun _ _ _ h => h) (Or.inl ⟨Z3, ?_⟩) ?_ ?_
 rotate_left
 ·
  intro w'
  go_simp
  with_reducible rfl
 rotate_left
 ·
  simp only [Act.put, List.setIfInBounds_toArray, List.set_cons_zero, List.set_cons_succ, i64_w, i32_w]
  rfl
 refine take_ (i := 0) (N := some 105) (v := ?_) (a' := ?_) #[true, true, true, true, false, true, false, false, true, true, true, true, true, true, true, false, false] rfl rfl (take_ofW HT_.out HW_.out Z1) (fun _ _ _ h => h) (Or.inl ⟨Z3, ?_⟩) hHeld ?_ ?_
 rotate_left
 ·
  rintro w' ⟨s0, s1, s2, s3, s4, s5, s6, s7, s8, s9, s10, s11, s12⟩
  go_simp
  with_reducible rfl
 rotate_left
 ·
  simp only [Act.put, List.setIfInBounds_toArray, List.set_cons_zero, List.set_cons_succ, i64_w, i32_w]
  rfl
 refine take_ (i := 4) (N := some 109) (v := ?_) (a' := ?_) #[true, true, true, true, true, true, false, false, true, true, true, true, true, true, true, false, false] rfl rfl (take_ofW HT_.out HW_.out Z1) (fun _ _ _ h => h) (Or.inl ⟨Z3, ?_⟩) hHeld ?_ ?_
 rotate_left
 ·
  rintro w' ⟨s0, s1, s2, s3, s4, s5, s6, s7, s8, s9, s10, s11, s12⟩
  go_simp
  with_reducible rfl
 rotate_left
 ·
  simp only [Act.put, List.setIfInBounds_toArray, List.set_cons_zero, List.set_cons_succ, i64_w, i32_w]
  rfl
 refine pure_ (i := 6) (N := some 111) (v := ?_) (a' := ?_) #[true, true, true, true, true, true, true, false, true, true, true, true, true, true, true, false, false] rfl rfl (any_of HT_.out Z1) (fun _ _ _ h => h) (Or.inl ⟨Z3, ?_⟩) ?_ ?_
 rotate_left
 ·
  intro w'
  go_simp
  with_reducible rfl
 rotate_left
 ·
  simp only [Act.put, List.setIfInBounds_toArray, List.set_cons_zero, List.set_cons_succ, i64_w, i32_w]
  rfl
 refine take_ (i := 7) (N := some 112) (v := ?_) (a' := ?_) #[true, true, true, true, true, true, true, true, true, true, true, true, true, true, true, false, false] rfl rfl (take_ofW HT_.out HW_.out Z1) (fun _ _ _ h => h) (Or.inl ⟨Z3, ?_⟩) hHeld ?_ ?_
 rotate_left
 ·
  rintro w' ⟨s0, s1, s2, s3, s4, s5, s6, s7, s8, s9, s10, s11, s12⟩
  go_simp
  with_reducible rfl
 rotate_left
 ·
  simp only [Act.put, List.setIfInBounds_toArray, List.set_cons_zero, List.set_cons_succ, i64_w, i32_w]
  rfl
 refine one_ (i := 15) (N := some 120) #[true, true, true, true, true, true, true, true, true, true, true, true, true, true, true, true, false] rfl rfl (one_of HT_.out Z1) Z2 (fun K hK => ?_)
 refine goes_ Try.func16 Z1 rfl #[.agg #[.string a0_0, .string a0_1, .int .i64 a0_2], .slice Ao81 y725.length co81, .string a2, .agg #[.int .i64 ((rd_T28 l3_4 x71_3).f0), .int .i64 ((rd_T28 l3_4 x71_3).f1), .int .i64 ((rd_T28 l3_4 x71_3).f2), .slice A728_3 ((rd_T28 l3_4 x71_3).f3).length c728_3, .slice A728_4 ((rd_T28 l3_4 x71_3).f4).length c728_4], .string (a4 ++ a0_1), .int .i64 (wrap64 ((wrap64 (((a4 ++ a0_1).size : Int) + ((a2.extract (((rd_T55 l3_3 x71_3).f0) : Int).toNat (((rd_T55 l3_3 x71_3).f1) : Int).toNat).size : Int))) + 3))] Z3 rfl rfl Z13 ?_
 with_reducible refine (ih_16_ k3 Z76 a0_0 a0_1 a0_2 (fun k_ => some k_ = (.slice Ao81 y725.length co81 : Value).ownBlock) (.slice Ao81 y725.length co81) y725 a2 ((rd_T28 l3_4 x71_3).f0) ((rd_T28 l3_4 x71_3).f1) ((rd_T28 l3_4 x71_3).f2) _ _ ((rd_T28 l3_4 x71_3).f3) (fun k_ => ((((P1_ k_ ∨ P3_4_ k_) ∨ w.heap.size ≤ k_) ∧ (some k_ ≠ (.slice Ao79 y722.length co79 : Value).ownBlock ∧ (k_ ≠ gb690 ∧ k_ ≠ gb691))) ∧ some k_ ≠ (.slice Ao81 y725.length co81 : Value).ownBlock)) _ _ ((rd_T28 l3_4 x71_3).f4) (a4 ++ a0_1) (wrap64 ((wrap64 (((a4 ++ a0_1).size : Int) + ((a2.extract (((rd_T55 l3_3 x71_3).f0) : Int).toNat (((rd_T55 l3_3 x71_3).f1) : Int).toNat).size : Int))) + 3)) t729 w0 _ ?side1 ?side2 ?side3 ?side4 ?side5 A70.out).mono ?_
 (case side1 => exact Z15)
 (case side2 => exact Kd.R_tight rfl HO727.out)
 (case side3 => exact Kd.C_kept_ownV (HL728_3.out) (fun k_ hk_ hs_ => (hk_.2) hs_))
 (case side4 => exact HC728_3.out)
 (case side5 => exact Kd.V_mono (HL728_4.out) (fun k_ hk_ => ⟨hk_, hk_.2⟩))
 rintro e w82 ⟨v730, rfl, ho0, hb, hkp⟩
 have HS8_ := cell_kept (hHeld.2.2.2.2.2.2.2.2.1) hkp Z139
 have HS9_ := cell_kept (hHeld.2.2.2.2.2.2.2.2.2.1) hkp Z139
 have HS10_ := cell_kept (hHeld.2.2.2.2.2.2.2.2.2.2.1) hkp Z139
 have HS11_ := cell_kept (hHeld.2.2.2.2.2.2.2.2.2.2.2.1) hkp Z139
 have HS12_ := cell_kept (hHeld.2.2.2.2.2.2.2.2.2.2.2.2) hkp Z139
 refine ⟨_, rfl, ?_⟩
 have n0_ := Aside0.mk (Kd.V_mono (ok' := fun k_ => ((P1_ k_ ∨ P3_4_ k_) ∨ w.heap.size ≤ k_) ∧ some k_ ≠ (.slice Ao79 y722.length co79 : Value).ownBlock ∧ k_ ≠ gb690 ∧ k_ ≠ gb691 ∧ some k_ ≠ (v730 : Value).ownBlock) (Kd.V_keptB (HO_692004.out) hkp (fun k_ hk_ hs_ => (hk_.2) hs_)) (fun k_ hk_ => ⟨hk_.1.1.1, hk_.1.1.2.1, hk_.1.1.2.2.1, hk_.1.1.2.2.2, fun e_ => Or.elim (ho0.1 k_ e_.symm) (fun hs_ => hk_.2.1 hs_) (fun hn_ => Nat.not_le.2 hk_.2.2 hn_)⟩))
 have n1_ := Aside0.mk (blk_kept (pB BK690.out) hkp (fun hs_ => (fun e_ => (Kd.R_ne HO727.out BK690.out Z2) e_) hs_))
 have n2_ := Aside0.mk (blk_kept (pB BK691.out) hkp (fun hs_ => (fun e_ => (Kd.R_ne HO727.out BK691.out Z2) e_) hs_))
 have n3_ := Aside0.mk (Kd.R_mono (ok' := fun k_ => (P1_ k_ ∨ w.heap.size ≤ k_) ∧ some k_ ≠ (v730 : Value).ownBlock) (Kd.R_keptB (HO724.out) hkp (fun k_ hk_ hs_ => (hk_.2) hs_)) (fun k_ hk_ => ⟨hk_.1.1, fun e_ => Or.elim (ho0.1 k_ e_.symm) (fun hs_ => hk_.2.1 hs_) (fun hn_ => Nat.not_le.2 hk_.2.2 hn_)⟩))
 have n4_ := Aside0.mk (Kd.R_mono (ok' := fun k_ => (P1_ k_ ∨ w.heap.size ≤ k_) ∧ some k_ ≠ (.slice Ao79 y722.length co79 : Value).ownBlock) ho0 (fun k_ hk_ => ⟨Or.elim hk_ (fun hs_ => (HO727.out.1 k_ (hs_).symm).1) (fun hn_ => (.inr (Nat.le_trans Z120 hn_))), Or.elim hk_ (fun hs_ => fun e_ => (((HO724.out).1 k_ e_.symm).2) hs_) (fun hn_ => (Kd.fresh' (Kd.R_lt (pR HO724.out)) k_ hn_))⟩))
 have n5_ := Aside0.mk (Kept.then_ (S := (fun k_ => P1_ k_)) Z14 hkp (fun k_ hs_ => (fun e_ => (HO727.out.1 k_ e_.symm).1) hs_))
 have n6_ := Aside0.mk (hb)
 clear HO_692004; clear BK690; clear BK691; clear HO724; clear HK; clear HB; clear HO727; clear HL728_3; clear HL728_4
 have HO_692004 := n0_
 have BK690 := n1_
 have BK691 := n2_
 have HO724 := n3_
 have HO731 := n4_
 have HK := n5_
 have HB := n6_
 clear n0_ n1_ n2_ n3_ n4_ n5_ n6_
 (try clear hb)
 (try clear hkp)
 (try clear ho0)
 refine hK.out _ _ ⟨(blk_cell BK690.out 0).trans rfl, (blk_cell BK690.out 1).trans rfl, (blk_cell BK690.out 2).trans rfl, (blk_cell BK691.out 0).trans rfl, (blk_cell BK691.out 1).trans rfl, (blk_cell BK691.out 2).trans rfl, (blk_cell BK691.out 3).trans rfl, (blk_cell BK691.out 4).trans rfl, HS8_, HS9_, HS10_, HS11_, HS12_⟩ (fun hHeld => ?_)
 clear hK K
 refine norm_ (a' := ?_) ?_ ?_
 rotate_left
 ·
  show Act.put _ (some 120) _ = _
  simp only [Act.put, List.setIfInBounds_toArray, List.set_cons_zero, List.set_cons_succ, i64_w, i32_w]
  rfl
 refine pure_ (i := 16) (N := some 1) (v := ?_) (a' := ?_) #[true, true, true, true, true, true, true, true, true, true, true, true, true, true, true, true, true] rfl rfl (any_of HT_.out Z1) (fun _ _ _ h => h) (Or.inl ⟨Z3, ?_⟩) ?_ ?_
 rotate_left
 ·
  intro w'
  go_simp
  with_reducible rfl
 rotate_left
 ·
  simp only [Act.put, List.setIfInBounds_toArray, List.set_cons_zero, List.set_cons_succ, i64_w, i32_w]
  rfl
 refine done_ (done_of HT_.out Z1) ?_
 try go_wp2
 go_roundg k3
 case measure => have := HJ17.out; have := HJ31.out; have := HK3.out; omega
 case rel => exact ⟨(t729), (wrap64 (x71_3 + 1)), Z8, H', ⟨Z76⟩, ⟨by (with_reducible repeat (first | apply Kd.R_alloc | apply Kd.R_drewN | apply Kd.R_drew)); exact Kd.R_mono HO731.out (fun _ hk => hk.1)⟩, ⟨Z118⟩, ⟨pB BK690.out⟩, ⟨pB BK691.out⟩, ⟨Z14⟩, ⟨Z15⟩⟩

end Go.Proofs.Ytffdebhaclkhjaa.PFnPrWholeDefault
