-- Written by a program of the session (wip/tools) out of the translation. Not trusted: Lean checks it.
import Derived.Test.YtffdebhaclkhjaaSq
import Derived.Test.YtffdebhaclkhjaaSx0
import Derived.Test.YtffdebhaclkhjaaSx13
namespace Go.Proofs.Ytffdebhaclkhjaa.PFnPrWholeDefault
open Go.RowKit Go.Proofs.YtffdebhaclkhjaaW.PrintWords Go.Proofs.YtffdebhaclkhjaaW.PrintLast Go.Proofs.YtffdebhaclkhjaaW.PrintMore
attribute [local go_sem] max2_int min2_int max_two min_two max_three min_three max_four min_four   -- for this text's walks alone
set_option linter.unusedVariables false
set_option linter.unusedSimpArgs false

/-! ### spec_Layout_elements: function 23 -/
def spec_Layout_elements.T12 : Bool × List (List Nat × List Nat) := (true, [([], []), ([], []), ([], []), ([], []), ([3], [3]), ([], []), ([4, 5], [4, 5]), ([6], [6]), ([], []), ([], []), ([0, 1, 2, 7, 8, 9], [0, 1, 2, 7, 8, 9]), ([10, 10, 0, 1, 2, 3, 4, 5, 6, 7, 8, 9, 10], [1, 10])])
def spec_Layout_elements.B12 : List Nat := [0, 0, 0, 0, 8, 0, 56, 120, 0, 0, 1023, 2047]
theorem spec_Layout_elements.tab12 : rtab .any (opsOf Try.f23 12) = spec_Layout_elements.T12 := Z1
theorem spec_Layout_elements.bits12 : waitsOk spec_Layout_elements.T12.2 spec_Layout_elements.B12 = true := Z1
set_option maxHeartbeats 8000000 in
set_option maxRecDepth 100000 in
theorem spec_Layout_elements.step (k : Nat) (ih_23_ : ∀ k_ : Nat, k_ < k → ∀ (a0_0 : ByteArray) (a0_1 : ByteArray) (a0_2 : Int) (P1_ : Nat → Prop) (u9000_ : Value) (l1 : List Int) (a2 : ByteArray) (a3_0 : Int) (a3_1 : Int) (a3_2 : Int) (A3_3 : Option Addr) (c3_3 : Nat) (l3_3 : List (S55)) (P3_4_ : Nat → Prop) (A3_4 : Option Addr) (c3_4 : Nat) (l3_4 : List (S28)) (a4 : ByteArray) (r : List Int) (w0 w : World) (hB : Below w0.heap.size w0 w) (ho1 : Kd.R (Kd.int .u8) 5 w w0.heap.size P1_ u9000_ l1) (hr3_3 : ∀ W_, Kept w W_ (fun k_ => P1_ k_) → Kd.C k55 W_ A3_3 l3_3.length l3_3) (hc3_3 : l3_3.length ≤ c3_3) (hs3_4 : Kd.V k28 28 w w0.heap.size (fun k_ => P3_4_ k_ ∧ some k_ ≠ (u9000_ : Value).ownBlock) (.slice A3_4 l3_4.length c3_4) l3_4) (h : spec_Layout_elements.f k_ a0_0 a0_1 a0_2 l1 a2 a3_0 a3_1 a3_2 l3_3 l3_4 a4 = some r),
  Calls Try.prog 23 #[.agg #[.string a0_0, .string a0_1, .int .i64 a0_2], u9000_, .string a2, .agg #[.int .i64 a3_0, .int .i64 a3_1, .int .i64 a3_2, .slice A3_3 l3_3.length c3_3, .slice A3_4 l3_4.length c3_4], .string a4] w fun e w' => ∃ v0_ : Value, e = .returned (v0_) ∧ Kd.R (Kd.int .u8) 5 w' w0.heap.size (fun k_ => (P1_ k_ ∨ w.heap.size ≤ k_)) v0_ r ∧ Below w0.heap.size w0 w' ∧ Kept w w' (fun k_ => P1_ k_)) (ih_16_ : ∀ k_ : Nat, k_ < k → ∀ (a0_0 : ByteArray) (a0_1 : ByteArray) (a0_2 : Int) (P1_ : Nat → Prop) (u9000_ : Value) (l1 : List Int) (a2 : ByteArray) (a3_0 : Int) (a3_1 : Int) (a3_2 : Int) (A3_3 : Option Addr) (c3_3 : Nat) (l3_3 : List (S55)) (P3_4_ : Nat → Prop) (A3_4 : Option Addr) (c3_4 : Nat) (l3_4 : List (S28)) (a4 : ByteArray) (a5 : Int) (r : List Int) (w0 w : World) (hB : Below w0.heap.size w0 w) (ho1 : Kd.R (Kd.int .u8) 5 w w0.heap.size P1_ u9000_ l1) (hr3_3 : ∀ W_, Kept w W_ (fun k_ => P1_ k_) → Kd.C k55 W_ A3_3 l3_3.length l3_3) (hc3_3 : l3_3.length ≤ c3_3) (hs3_4 : Kd.V k28 28 w w0.heap.size (fun k_ => P3_4_ k_ ∧ some k_ ≠ (u9000_ : Value).ownBlock) (.slice A3_4 l3_4.length c3_4) l3_4) (h : spec_Layout_value.f k_ a0_0 a0_1 a0_2 l1 a2 a3_0 a3_1 a3_2 l3_3 l3_4 a4 a5 = some r),
  Calls Try.prog 16 #[.agg #[.string a0_0, .string a0_1, .int .i64 a0_2], u9000_, .string a2, .agg #[.int .i64 a3_0, .int .i64 a3_1, .int .i64 a3_2, .slice A3_3 l3_3.length c3_3, .slice A3_4 l3_4.length c3_4], .string a4, .int .i64 a5] w fun e w' => ∃ v0_ : Value, e = .returned (v0_) ∧ Kd.R (Kd.int .u8) 5 w' w0.heap.size (fun k_ => (P1_ k_ ∨ w.heap.size ≤ k_)) v0_ r ∧ Below w0.heap.size w0 w' ∧ Kept w w' (fun k_ => P1_ k_)) : ∀ (a0_0 : ByteArray) (a0_1 : ByteArray) (a0_2 : Int) (P1_ : Nat → Prop) (u9000_ : Value) (l1 : List Int) (a2 : ByteArray) (a3_0 : Int) (a3_1 : Int) (a3_2 : Int) (A3_3 : Option Addr) (c3_3 : Nat) (l3_3 : List (S55)) (P3_4_ : Nat → Prop) (A3_4 : Option Addr) (c3_4 : Nat) (l3_4 : List (S28)) (a4 : ByteArray) (r : List Int) (w0 w : World) (hB : Below w0.heap.size w0 w) (ho1 : Kd.R (Kd.int .u8) 5 w w0.heap.size P1_ u9000_ l1) (hr3_3 : ∀ W_, Kept w W_ (fun k_ => P1_ k_) → Kd.C k55 W_ A3_3 l3_3.length l3_3) (hc3_3 : l3_3.length ≤ c3_3) (hs3_4 : Kd.V k28 28 w w0.heap.size (fun k_ => P3_4_ k_ ∧ some k_ ≠ (u9000_ : Value).ownBlock) (.slice A3_4 l3_4.length c3_4) l3_4) (h : spec_Layout_elements.f k a0_0 a0_1 a0_2 l1 a2 a3_0 a3_1 a3_2 l3_3 l3_4 a4 = some r),
  Calls Try.prog 23 #[.agg #[.string a0_0, .string a0_1, .int .i64 a0_2], u9000_, .string a2, .agg #[.int .i64 a3_0, .int .i64 a3_1, .int .i64 a3_2, .slice A3_3 l3_3.length c3_3, .slice A3_4 l3_4.length c3_4], .string a4] w fun e w' => ∃ v0_ : Value, e = .returned (v0_) ∧ Kd.R (Kd.int .u8) 5 w' w0.heap.size (fun k_ => (P1_ k_ ∨ w.heap.size ≤ k_)) v0_ r ∧ Below w0.heap.size w0 w' ∧ Kept w w' (fun k_ => P1_ k_) := by
 intro a0_0 a0_1 a0_2 P1_ u9000_ l1 a2 a3_0 a3_1 a3_2 A3_3 c3_3 l3_3 P3_4_ A3_4 c3_4 l3_4 a4 r w0 w hB ho1 hr3_3 hc3_3 hs3_4 h
 cases k with
 | zero => exact absurd h (by simp [spec_Layout_elements.f])
 | succ k =>
 simp only [spec_Layout_elements.f] at h
 have hu36 := Try.underlying36
 have hu28 := Try.underlying28
 have HO1 := Aside0.mk (show Kd.R (Kd.int .u8) 5 w w0.heap.size (fun k_ => (P1_ k_ ∨ w.heap.size ≤ k_)) u9000_ l1 from Kd.R_mono ho1 (fun k_ hk => (.inl hk)))
 have HR3_3 := Aside0.mk hr3_3
 have HC3_3 := Aside0.mk hc3_3
 clear hr3_3 hc3_3
 have HO3_4 := Aside0.mk (show Kd.V k28 28 w w0.heap.size (fun k_ => ((P1_ k_ ∨ P3_4_ k_) ∨ w.heap.size ≤ k_) ∧ some k_ ≠ (u9000_ : Value).ownBlock) (.slice A3_4 l3_4.length c3_4) l3_4 from Kd.V_mono hs3_4 (fun k_ hk => ⟨.inl (.inr hk.1), hk.2⟩))
 have HK := Aside0.mk (Kept.refl w (fun k_ => P1_ k_))
 have HW0 := Aside0.mk hB.size
 have HB := Aside0.mk hB
 clear hB
 have H : (if a4.size + a0_1.size ≤ 9223372036854775807 then (if l1.length < 140737488355328 then (spec_Layout_elements.l0 k (l1 ++ [91]) a2 a4 (a4 ++ a0_1) (wrap64 (((a4 ++ a0_1).size : Int) + 1)) (l3_4.length : Int) 0 a0_0 a0_1 a0_2 a3_0 a3_1 a3_2 l3_3 l3_4) else (none)) else (none)) = some r := h
 clear h
 by_cases c6 : a4.size + a0_1.size ≤ 9223372036854775807
 rotate_left
 ·
  rw [if_neg c6] at H
  exact absurd H Z4
 rw [if_pos c6] at H
 have c6b0 := eq_true c6
 have c6b1 := decide_eq_true c6
 try have c6b2 : (9223372036854775807 < a4.size + a0_1.size) = False := eq_false (Nat.not_lt.2 c6)
 by_cases c7 : l1.length < 140737488355328
 rotate_left
 ·
  rw [if_neg c7] at H
  exact absurd H Z4
 rw [if_pos c7] at H
 have LMc7 := Aside0.mk c7
 clear c7
 obtain ⟨y655, hy655⟩ : ∃ y_ : List Int, y_ = (l1 ++ [91]) := ⟨_, rfl⟩
 first | replace H := bind_y hy655 H | rw [← hy655] at H
 have Ny655 := Aside0.mk hy655
 clear hy655
 have H' := Aside0.mk H
 clear H
 go_enter Try.func23, Try.ntmps23
 go_wp2_with (first | ((with_reducible refine gate_dst (N := 5) rfl ?_); refine box_event ?hg (N := 5) ?hd (cs := #[.string a0_0, .string a0_1, .int .i64 a0_2]) (t := 36) ?hr ?_; (case hd => exact Z3); (case hg => exact Z3); (case hr => exact Z19); intro gb653 hg w8 hbox hb; have n0_ := Aside0.mk (Kd.R_below (pR HO1.out) hb); have n1_ := Aside0.mk (Kd.V_below (Kd.V_elderB (pV HO3_4.out) gb653 (Nat.le_of_eq hg.symm)) hb); have n2_ := Aside0.mk (Kept.below (S := (fun k_ => P1_ k_)) Z7 hb); have n3_ := Aside0.mk (below_step Z6 hb); have n4_ := Aside0.mk (hbox); have n5_ := Aside0.mk ((by rw [hg]; exact Z136 : w.heap.size ≤ gb653)); have n6_ := Aside0.mk ((Z121 : w0.heap.size ≤ gb653)); clear HO1; clear HO3_4; clear HK; clear HB; have HO1 := n0_; have HO3_4 := n1_; have HK := n2_; have HB := n3_; have BK653 := n4_; have GW653 := n5_; have GE653 := n6_; clear n0_ n1_ n2_ n3_ n4_ n5_ n6_; clear hb hbox hg) | ((with_reducible refine gate_dst (N := 8) rfl ?_); refine box_event ?hg (N := 8) ?hd (cs := #[.int .i64 a3_0, .int .i64 a3_1, .int .i64 a3_2, .slice A3_3 l3_3.length c3_3, .slice A3_4 l3_4.length c3_4]) (t := 28) ?hr ?_; (case hd => exact Z3); (case hg => exact Z3); (case hr => exact Z19); intro gb654 hg w9 hbox hb; have n0_ := Aside0.mk (Kd.R_below (pR HO1.out) hb); have n1_ := Aside0.mk (Kd.V_below (Kd.V_elderB (pV HO3_4.out) gb654 (Nat.le_of_eq hg.symm)) hb); have n2_ := Aside0.mk (blk_below (g := gb653) (o := .cells #[.string a0_0, .string a0_1, .int .i64 a0_2] 36 (0, 0)) (pB BK653.out) hb); have n3_ := Aside0.mk (Kept.below (S := (fun k_ => P1_ k_)) Z112 hb); have n4_ := Aside0.mk (below_step Z113 hb); have n5_ := Aside0.mk (hbox); have n6_ := Aside0.mk ((by rw [hg]; exact (by first | exact HK.out.1 | exact (show Kept w _ (fun k_ => P1_ k_) from Z112).1) : w.heap.size ≤ gb654)); have n7_ := Aside0.mk ((by rw [hg]; exact (below_size Z113) : w0.heap.size ≤ gb654)); have n8_ := Aside0.mk ((by rw [hg]; exact Nat.ne_of_lt (blk_lt (g := gb653) (o := .cells #[.string a0_0, .string a0_1, .int .i64 a0_2] 36 (0, 0)) (pB BK653.out)) : gb653 ≠ gb654)); have n9_ := Aside0.mk ((by rw [hg]; exact Nat.ne_of_gt (blk_lt (g := gb653) (o := .cells #[.string a0_0, .string a0_1, .int .i64 a0_2] 36 (0, 0)) (pB BK653.out)) : gb654 ≠ gb653)); clear HO1; clear HO3_4; clear BK653; clear HK; clear HB; have HO1 := n0_; have HO3_4 := n1_; have BK653 := n2_; have HK := n3_; have HB := n4_; have BK654 := n5_; have GW654 := n6_; have GE654 := n7_; have NB653_654 := n8_; have NB654_653 := n9_; clear n0_ n1_ n2_ n3_ n4_ n5_ n6_ n7_ n8_ n9_; clear hb hbox hg; have hnb10 := NB653_654.out; have hnc10 := NB654_653.out; have hcz11_0 : w9.cell? ⟨gb653, 0, none⟩ = some (.string a0_0) := (blk_cell BK653.out 0).trans rfl; have hcz11_1 : w9.cell? ⟨gb653, 1, none⟩ = some (.string a0_1) := (blk_cell BK653.out 1).trans rfl; have hcz11_2 : w9.cell? ⟨gb653, 2, none⟩ = some (.int .i64 a0_2) := (blk_cell BK653.out 2).trans rfl; have hfz11_0 := blk_frozen BK653.out 0; have hfz11_1 := blk_frozen BK653.out 1; have hfz11_2 := blk_frozen BK653.out 2) | ((with_reducible refine gate_builtin (b := .append) (xs := #[.tmp 18, .tmp 19]) rfl ?_); at_builtin; refine Kd.R_append (Kd.int .u8) (w0 := w0) w0.heap.size rfl (.tmp 18) (.tmp 19) 40 5 (.int .u8 0) 1 rfl Try.underlying40 info5 rfl Z2 Z5 u9000_ l1 91 [.int .u8 91] (fun k_ => (P1_ k_ ∨ w.heap.size ≤ k_)) (fun _ => False) rfl rfl ?aP (fun _ hk => hk.elim) ?aF ?aO ?aB ?aS ?aL ?_; (case aP => exact rfl); (case aB => exact Z24); (case aF => exact (fun k_ hk => (.inr (Nat.le_trans Z131 hk)))); (case aO => exact (pR HO1.out)); (case aS => exact (below_size Z24)); (case aL => have := LMc7.out; omega); intro v656 w12 ho hb hg hat; rw [← Ny655.out] at ho; have n0_ := Aside0.mk (Kd.V_afterv (ok := (fun k_ => ((P1_ k_ ∨ P3_4_ k_) ∨ w.heap.size ≤ k_) ∧ k_ ≠ gb653 ∧ k_ ≠ gb654)) (by (with_reducible repeat (first | apply Kd.V_alloc | apply Kd.V_drewN | apply Kd.V_drew)); exact Kd.V_mono HO3_4.out (fun _ hk => ⟨⟨hk.1.1.1, ⟨hk.1.2, hk.2⟩⟩, hk.1.1.2⟩)) hg hat); have n1_ := Aside0.mk (blk_grown (g := gb653) (o := .cells #[.string a0_0, .string a0_1, .int .i64 a0_2] 36 (0, 0)) (pB BK653.out) hg (Kd.R_ne HO1.out BK653.out Z2)); have n2_ := Aside0.mk (blk_grown (g := gb654) (o := .cells #[.int .i64 a3_0, .int .i64 a3_1, .int .i64 a3_2, .slice A3_3 l3_3.length c3_3, .slice A3_4 l3_4.length c3_4] 28 (0, 0)) (pB BK654.out) hg (Kd.R_ne HO1.out BK654.out Z2)); have n3_ := Aside0.mk (hb); have n4_ := Aside0.mk (Kept.of_grown (S := (fun k_ => P1_ k_)) hg Z23 (fun k_ e_ => (HO1.out.1 k_ e_))); have n5_ := Aside0.mk (ho); clear HO3_4; clear BK653; clear BK654; clear HB; clear HK; clear HO1; have HO3_4 := n0_; have BK653 := n1_; have BK654 := n2_; have HB := n3_; have HK := n4_; have HO657 := n5_; clear n0_ n1_ n2_ n3_ n4_ n5_; clear ho hb hg hat; have hcz13_0 : w12.cell? ⟨gb654, 0, none⟩ = some (.int .i64 a3_0) := (blk_cell BK654.out 0).trans rfl; have hcz13_1 : w12.cell? ⟨gb654, 1, none⟩ = some (.int .i64 a3_1) := (blk_cell BK654.out 1).trans rfl; have hcz13_2 : w12.cell? ⟨gb654, 2, none⟩ = some (.int .i64 a3_2) := (blk_cell BK654.out 2).trans rfl; have hcz13_3 : w12.cell? ⟨gb654, 3, none⟩ = some (.slice A3_3 l3_3.length c3_3) := (blk_cell BK654.out 3).trans rfl; have hcz13_4 : w12.cell? ⟨gb654, 4, none⟩ = some (.slice A3_4 l3_4.length c3_4) := (blk_cell BK654.out 4).trans rfl; have hfz13_0 := blk_frozen BK654.out 0; have hfz13_1 := blk_frozen BK654.out 1; have hfz13_2 := blk_frozen BK654.out 2; have hfz13_3 := blk_frozen BK654.out 3; have hfz13_4 := blk_frozen BK654.out 4))
 (try simp only [Act.put, List.setIfInBounds_toArray, List.set_cons_succ, List.set_cons_zero])
 go_loopg [1, 12, 27] k (fun kq v1 v12 v27 w' => ∃ (x1_1 : List Int) (x12_1 : Int) (x27_1 : Int), v12 = .int .i64 x12_1 ∧ v27 = .int .i64 x27_1 ∧ Aside0 (spec_Layout_elements.l0 kq x1_1 a2 a4 (a4 ++ a0_1) x12_1 (l3_4.length : Int) x27_1 a0_0 a0_1 a0_2 a3_0 a3_1 a3_2 l3_3 l3_4 = some r) ∧ Aside0 (kq ≤ k) ∧ Aside0 (Kd.R (Kd.int .u8) 5 w' w0.heap.size (fun k_ => (P1_ k_ ∨ w.heap.size ≤ k_)) v1 x1_1) ∧ Aside0 (Kd.V k28 28 w' w0.heap.size (fun k_ => ((P1_ k_ ∨ P3_4_ k_) ∨ w.heap.size ≤ k_) ∧ some k_ ≠ (v1 : Value).ownBlock ∧ k_ ≠ gb653 ∧ k_ ≠ gb654) (.slice A3_4 l3_4.length c3_4) l3_4) ∧ Aside0 (w'.heap[gb653]? = some (.cells #[.string a0_0, .string a0_1, .int .i64 a0_2] 36 (0, 0))) ∧ Aside0 (w'.heap[gb654]? = some (.cells #[.int .i64 a3_0, .int .i64 a3_1, .int .i64 a3_2, (.slice A3_3 l3_3.length c3_3), (.slice A3_4 l3_4.length c3_4)] 28 (0, 0))) ∧ Aside0 (Kept w w' (fun k_ => P1_ k_)) ∧ Aside0 (Below w0.heap.size w0 w'))
 case atStart => exact ⟨(y655), (wrap64 (((a4 ++ a0_1).size : Int) + 1)), (0), Z8, Z8, H', ⟨Nat.le_refl _⟩, ⟨pR HO657.out⟩, ⟨by (with_reducible repeat (first | apply Kd.V_alloc | apply Kd.V_drewN | apply Kd.V_drew)); exact Kd.V_mono HO3_4.out (fun _ hk => ⟨hk.1.1, ⟨hk.2, ⟨hk.1.2.1, hk.1.2.2⟩⟩⟩)⟩, ⟨pB BK653.out⟩, ⟨pB BK654.out⟩, ⟨Z23⟩, ⟨Z24⟩⟩
 clear H'
 try clear c1; try clear c2; try clear p2; try clear c3; try clear c6; try clear c6b0; try clear c6b1; try clear c6b2; try clear p6; try clear c7; try clear c10; try clear hcz11_0; try clear hcz11_1; try clear hcz11_2; try clear hcz13_0; try clear hcz13_1; try clear hcz13_2; try clear hcz13_3; try clear hcz13_4; try clear hfz11_0; try clear hfz11_1; try clear hfz11_2; try clear hfz13_0; try clear hfz13_1; try clear hfz13_2; try clear hfz13_3; try clear hfz13_4
 obtain ⟨x1_1, x12_1, x27_1, rfl, rfl, HA, HK1, HO_1, HO_655004, BK653, BK654, HK, HB⟩ := hrel
 cases gk with
 | zero => exact absurd HA.out (by simp [spec_Layout_elements.l0])
 | succ k1 =>
 have H := HA.out
 clear HA
 simp only [spec_Layout_elements.l0] at H
 by_cases c14 : x27_1 < (l3_4.length : Int)
 rotate_left
 ·
  rw [if_neg c14] at H
  have c14b0 := decide_eq_false c14
  clear c14
  by_cases c38 : x1_1.length < 140737488355328
  rotate_left
  ·
   rw [if_neg c38] at H
   exact absurd H Z4
  rw [if_pos c38] at H
  have LMc38 := Aside0.mk c38
  clear c38
  obtain ⟨y681, hy681⟩ : ∃ y_ : List Int, y_ = (x1_1 ++ [10]) := ⟨_, rfl⟩
  first | replace H := bind_y hy681 H | rw [← hy681] at H
  have Ny681 := Aside0.mk hy681
  clear hy681
  by_cases c39 : y681.length + a4.size < 140737488355328
  rotate_left
  ·
   rw [if_neg c39] at H
   exact absurd H Z4
  rw [if_pos c39] at H
  have LMc39 := Aside0.mk c39
  clear c39
  obtain ⟨y684, hy684⟩ : ∃ y_ : List Int, y_ = (y681 ++ bytesOf a4) := ⟨_, rfl⟩
  first | replace H := bind_y hy684 H | rw [← hy684] at H
  have Ny684 := Aside0.mk hy684
  clear hy684
  by_cases c40 : y684.length < 140737488355328
  rotate_left
  ·
   rw [if_neg c40] at H
   exact absurd H Z4
  rw [if_pos c40] at H
  have LMc40 := Aside0.mk c40
  clear c40
  obtain ⟨y687, hy687⟩ : ∃ y_ : List Int, y_ = (y684 ++ [93]) := ⟨_, rfl⟩
  first | replace H := bind_y hy687 H | rw [← hy687] at H
  have Ny687 := Aside0.mk hy687
  clear hy687
  obtain rfl := Option.some.inj H
  go_wp2_with (first | ((with_reducible refine gate_builtin (b := .append) (xs := #[.tmp 55, .tmp 56]) rfl ?_); at_builtin; refine Kd.R_append (Kd.int .u8) (w0 := w0) w0.heap.size rfl (.tmp 55) (.tmp 56) 40 5 (.int .u8 0) 1 rfl Try.underlying40 info5 rfl Z2 Z5 u1 x1_1 10 [.int .u8 10] (fun k_ => (P1_ k_ ∨ w.heap.size ≤ k_)) (fun _ => False) rfl rfl ?aP (fun _ hk => hk.elim) ?aF ?aO ?aB ?aS ?aL ?_; (case aP => exact rfl); (case aB => exact Z24); (case aF => exact (fun k_ hk => (.inr (Nat.le_trans Z131 hk)))); (case aO => exact (pR HO_1.out)); (case aS => exact (below_size Z24)); (case aL => have := LMc38.out; omega); intro v682 w41 ho hb hg hat; rw [← Ny681.out] at ho; have n0_ := Aside0.mk (Kd.V_afterv (ok := (fun k_ => ((P1_ k_ ∨ P3_4_ k_) ∨ w.heap.size ≤ k_) ∧ k_ ≠ gb653 ∧ k_ ≠ gb654)) Z87 hg hat); have n1_ := Aside0.mk (blk_grown (g := gb653) (o := .cells #[.string a0_0, .string a0_1, .int .i64 a0_2] 36 (0, 0)) (pB BK653.out) hg (Kd.R_ne HO_1.out BK653.out Z2)); have n2_ := Aside0.mk (blk_grown (g := gb654) (o := .cells #[.int .i64 a3_0, .int .i64 a3_1, .int .i64 a3_2, .slice A3_3 l3_3.length c3_3, .slice A3_4 l3_4.length c3_4] 28 (0, 0)) (pB BK654.out) hg (Kd.R_ne HO_1.out BK654.out Z2)); have n3_ := Aside0.mk (hb); have n4_ := Aside0.mk (Kept.of_grown (S := (fun k_ => P1_ k_)) hg Z23 (fun k_ e_ => (HO_1.out.1 k_ e_))); have n5_ := Aside0.mk (ho); clear HO_655004; clear BK653; clear BK654; clear HB; clear HK; clear HO_1; have HO_655004 := n0_; have BK653 := n1_; have BK654 := n2_; have HB := n3_; have HK := n4_; have HO683 := n5_; clear n0_ n1_ n2_ n3_ n4_ n5_; clear ho hb hg hat) | (at_builtin; refine Kd.R_append_str (w0 := w0) w0.heap.size rfl (.tmp 58) _ 40 9 5 rfl Try.underlying40 Try.underlying9 info5 v682 y681 a4 (fun k_ => (P1_ k_ ∨ w.heap.size ≤ k_)) rfl rfl ?aF ?aO ?aB ?aS ?aL ?_; (case aB => exact Z24); (case aF => exact (fun k_ hk => (.inr (Nat.le_trans Z131 hk)))); (case aO => exact (pR HO683.out)); (case aS => exact (below_size Z24)); (case aL => have := LMc39.out; omega); intro v685 w42 ho hb hg hat; rw [← Ny684.out] at ho; have n0_ := Aside0.mk (Kd.V_afterv (ok := (fun k_ => ((P1_ k_ ∨ P3_4_ k_) ∨ w.heap.size ≤ k_) ∧ k_ ≠ gb653 ∧ k_ ≠ gb654)) (pV HO_655004.out) hg hat); have n1_ := Aside0.mk (blk_grown (g := gb653) (o := .cells #[.string a0_0, .string a0_1, .int .i64 a0_2] 36 (0, 0)) (pB BK653.out) hg (Kd.R_ne HO683.out BK653.out Z2)); have n2_ := Aside0.mk (blk_grown (g := gb654) (o := .cells #[.int .i64 a3_0, .int .i64 a3_1, .int .i64 a3_2, .slice A3_3 l3_3.length c3_3, .slice A3_4 l3_4.length c3_4] 28 (0, 0)) (pB BK654.out) hg (Kd.R_ne HO683.out BK654.out Z2)); have n3_ := Aside0.mk (hb); have n4_ := Aside0.mk (Kept.of_grown (S := (fun k_ => P1_ k_)) hg Z23 (fun k_ e_ => (HO683.out.1 k_ e_))); have n5_ := Aside0.mk (ho); clear HO_655004; clear BK653; clear BK654; clear HB; clear HK; clear HO683; have HO_655004 := n0_; have BK653 := n1_; have BK654 := n2_; have HB := n3_; have HK := n4_; have HO686 := n5_; clear n0_ n1_ n2_ n3_ n4_ n5_; clear ho hb hg hat) | ((with_reducible refine gate_builtin (b := .append) (xs := #[.tmp 61, .tmp 62]) rfl ?_); at_builtin; refine Kd.R_append (Kd.int .u8) (w0 := w0) w0.heap.size rfl (.tmp 61) (.tmp 62) 40 5 (.int .u8 0) 1 rfl Try.underlying40 info5 rfl Z2 Z5 v685 y684 93 [.int .u8 93] (fun k_ => (P1_ k_ ∨ w.heap.size ≤ k_)) (fun _ => False) rfl rfl ?aP (fun _ hk => hk.elim) ?aF ?aO ?aB ?aS ?aL ?_; (case aP => exact rfl); (case aB => exact Z24); (case aF => exact (fun k_ hk => (.inr (Nat.le_trans Z131 hk)))); (case aO => exact (pR HO686.out)); (case aS => exact (below_size Z24)); (case aL => have := LMc40.out; omega); intro v688 w43 ho hb hg hat; rw [← Ny687.out] at ho; have n0_ := Aside0.mk (Kd.V_afterv (ok := (fun k_ => ((P1_ k_ ∨ P3_4_ k_) ∨ w.heap.size ≤ k_) ∧ k_ ≠ gb653 ∧ k_ ≠ gb654)) (pV HO_655004.out) hg hat); have n1_ := Aside0.mk (blk_grown (g := gb653) (o := .cells #[.string a0_0, .string a0_1, .int .i64 a0_2] 36 (0, 0)) (pB BK653.out) hg (Kd.R_ne HO686.out BK653.out Z2)); have n2_ := Aside0.mk (blk_grown (g := gb654) (o := .cells #[.int .i64 a3_0, .int .i64 a3_1, .int .i64 a3_2, .slice A3_3 l3_3.length c3_3, .slice A3_4 l3_4.length c3_4] 28 (0, 0)) (pB BK654.out) hg (Kd.R_ne HO686.out BK654.out Z2)); have n3_ := Aside0.mk (hb); have n4_ := Aside0.mk (Kept.of_grown (S := (fun k_ => P1_ k_)) hg Z23 (fun k_ e_ => (HO686.out.1 k_ e_))); have n5_ := Aside0.mk (ho); clear HO_655004; clear BK653; clear BK654; clear HB; clear HK; clear HO686; have HO_655004 := n0_; have BK653 := n1_; have BK654 := n2_; have HB := n3_; have HK := n4_; have HO689 := n5_; clear n0_ n1_ n2_ n3_ n4_ n5_; clear ho hb hg hat))
  go_ret
  exact ⟨_, Z12, pR HO689.out, Z24, Z23⟩
 rw [if_pos c14] at H
 have c14b0 := decide_eq_true c14
 clear c14
 by_cases c15 : x27_1 > 0
 rotate_left
 ·
  rw [if_neg c15] at H
  have c15b0 := decide_eq_false c15
  clear c15
  by_cases c28 : x1_1.length < 140737488355328
  rotate_left
  ·
   rw [if_neg c28] at H
   exact absurd H Z4
  rw [if_pos c28] at H
  have LMc28 := Aside0.mk c28
  clear c28
  obtain ⟨y671, hy671⟩ : ∃ y_ : List Int, y_ = (x1_1 ++ [10]) := ⟨_, rfl⟩
  first | replace H := bind_y hy671 H | rw [← hy671] at H
  have Ny671 := Aside0.mk hy671
  clear hy671
  by_cases c29 : y671.length + (a4 ++ a0_1).size < 140737488355328
  rotate_left
  ·
   rw [if_neg c29] at H
   exact absurd H Z4
  rw [if_pos c29] at H
  have LMc29 := Aside0.mk c29
  clear c29
  obtain ⟨y674, hy674⟩ : ∃ y_ : List Int, y_ = (y671 ++ bytesOf (a4 ++ a0_1)) := ⟨_, rfl⟩
  first | replace H := bind_y hy674 H | rw [← hy674] at H
  have Ny674 := Aside0.mk hy674
  clear hy674
  by_cases c30 : 0 ≤ x27_1
  rotate_left
  ·
   rw [if_neg c30] at H
   exact absurd H Z4
  rw [if_pos c30] at H
  have c30b0 := decide_eq_true c30
  clear c30
  by_cases c31 : x27_1 < (l3_4.length : Int)
  rotate_left
  ·
   rw [if_neg c31] at H
   exact absurd H Z4
  rw [if_pos c31] at H
  have c31b0 := decide_eq_true c31
  clear c31
  replace H := Option.bind_eq_some_iff.mp H
  obtain ⟨t678, A320, H⟩ := H
  have A32 := Aside0.mk A320
  clear A320
  have H' := Aside0.mk H
  clear H
  try go_wp2_with (first | ((with_reducible refine gate_builtin (b := .append) (xs := #[.tmp 37, .tmp 38]) rfl ?_); at_builtin; refine Kd.R_append (Kd.int .u8) (w0 := w0) w0.heap.size rfl (.tmp 37) (.tmp 38) 40 5 (.int .u8 0) 1 rfl Try.underlying40 info5 rfl Z2 Z5 u1 x1_1 10 [.int .u8 10] (fun k_ => (P1_ k_ ∨ w.heap.size ≤ k_)) (fun _ => False) rfl rfl ?aP (fun _ hk => hk.elim) ?aF ?aO ?aB ?aS ?aL ?_; (case aP => exact rfl); (case aB => exact Z24); (case aF => exact (fun k_ hk => (.inr (Nat.le_trans Z131 hk)))); (case aO => exact (pR HO_1.out)); (case aS => exact (below_size Z24)); (case aL => have := LMc28.out; omega); intro v672 w33 ho hb hg hat; rw [← Ny671.out] at ho; have n0_ := Aside0.mk (Kd.V_afterv (ok := (fun k_ => ((P1_ k_ ∨ P3_4_ k_) ∨ w.heap.size ≤ k_) ∧ k_ ≠ gb653 ∧ k_ ≠ gb654)) Z87 hg hat); have n1_ := Aside0.mk (blk_grown (g := gb653) (o := .cells #[.string a0_0, .string a0_1, .int .i64 a0_2] 36 (0, 0)) (pB BK653.out) hg (Kd.R_ne HO_1.out BK653.out Z2)); have n2_ := Aside0.mk (blk_grown (g := gb654) (o := .cells #[.int .i64 a3_0, .int .i64 a3_1, .int .i64 a3_2, .slice A3_3 l3_3.length c3_3, .slice A3_4 l3_4.length c3_4] 28 (0, 0)) (pB BK654.out) hg (Kd.R_ne HO_1.out BK654.out Z2)); have n3_ := Aside0.mk (hb); have n4_ := Aside0.mk (Kept.of_grown (S := (fun k_ => P1_ k_)) hg Z23 (fun k_ e_ => (HO_1.out.1 k_ e_))); have n5_ := Aside0.mk (ho); clear HO_655004; clear BK653; clear BK654; clear HB; clear HK; clear HO_1; have HO_655004 := n0_; have BK653 := n1_; have BK654 := n2_; have HB := n3_; have HK := n4_; have HO673 := n5_; clear n0_ n1_ n2_ n3_ n4_ n5_; clear ho hb hg hat) | (at_builtin; refine Kd.R_append_str (w0 := w0) w0.heap.size rfl (.tmp 40) _ 40 9 5 rfl Try.underlying40 Try.underlying9 info5 v672 y671 (a4 ++ a0_1) (fun k_ => (P1_ k_ ∨ w.heap.size ≤ k_)) rfl rfl ?aF ?aO ?aB ?aS ?aL ?_; (case aB => exact Z24); (case aF => exact (fun k_ hk => (.inr (Nat.le_trans Z131 hk)))); (case aO => exact (pR HO673.out)); (case aS => exact (below_size Z24)); (case aL => have := LMc29.out; omega); intro v675 w34 ho hb hg hat; rw [← Ny674.out] at ho; have n0_ := Aside0.mk (Kd.V_afterv (ok := (fun k_ => ((P1_ k_ ∨ P3_4_ k_) ∨ w.heap.size ≤ k_) ∧ k_ ≠ gb653 ∧ k_ ≠ gb654)) (pV HO_655004.out) hg hat); have n1_ := Aside0.mk (blk_grown (g := gb653) (o := .cells #[.string a0_0, .string a0_1, .int .i64 a0_2] 36 (0, 0)) (pB BK653.out) hg (Kd.R_ne HO673.out BK653.out Z2)); have n2_ := Aside0.mk (blk_grown (g := gb654) (o := .cells #[.int .i64 a3_0, .int .i64 a3_1, .int .i64 a3_2, .slice A3_3 l3_3.length c3_3, .slice A3_4 l3_4.length c3_4] 28 (0, 0)) (pB BK654.out) hg (Kd.R_ne HO673.out BK654.out Z2)); have n3_ := Aside0.mk (hb); have n4_ := Aside0.mk (Kept.of_grown (S := (fun k_ => P1_ k_)) hg Z23 (fun k_ e_ => (HO673.out.1 k_ e_))); have n5_ := Aside0.mk (ho); clear HO_655004; clear BK653; clear BK654; clear HB; clear HK; clear HO673; have HO_655004 := n0_; have BK653 := n1_; have BK654 := n2_; have HB := n3_; have HK := n4_; have HO676 := n5_; clear n0_ n1_ n2_ n3_ n4_ n5_; clear ho hb hg hat))
  have n0_ := Aside0.mk (Kd.V_drew HO_655004.out)
  have n1_ := Aside0.mk (Kd.R_drew HO676.out)
  have n2_ := Aside0.mk (blk_drew BK653.out)
  have n3_ := Aside0.mk (blk_drew BK654.out)
  have n4_ := Aside0.mk (Kept.drew HK.out)
  have n5_ := Aside0.mk (below_drew1 HB.out)
  clear HO_655004; clear HO676; clear BK653; clear BK654; clear HK; clear HB
  have HO_655004 := n0_
  have HO676 := n1_
  have BK653 := n2_
  have BK654 := n3_
  have HK := n4_
  have HB := n5_
  clear n0_ n1_ n2_ n3_ n4_ n5_
  have p677 : 0 ≤ (x27_1 : Int) := of_decide_eq_true Z0
  have q677 : x27_1 < (l3_4.length : Int) := of_decide_eq_true Z0
  obtain ⟨ad677, A677_3, c677_3, A677_4, c677_4, e677, hx677_0, hx677_1, hx677_2, hx677_3, hx677_4, hl677_3, hi677_3, hl677_4, hi677_4⟩ := at_T28 (Kd.V_reads' HO_655004.out).2.2 x27_1 p677 q677
  cases e677
  obtain ⟨ce677, hce677, hMe677, hcc677⟩ := Kd.V_get HO_655004.out z28 x27_1 p677 (by first | exact q677 | exact of_decide_eq_true Z0 | (have e_ := (Kd.V_reads' HO_655004.out).1; omega))
  obtain ⟨ua677_3, uc677_3, ua677_4, uc677_4, rfl, ul677_3, ge677_3, ul677_4, ge677_4⟩ := k28_openF hMe677
  have hv677_3 := hcc677 3 _ rfl
  rw [add_field _ _ 3 Z5] at hv677_3
  replace hv677_3 := Option.some.inj (hv677_3.symm.trans hx677_3)
  injection hv677_3 with hva_ hvn_ hvc_
  rw [hva_] at ge677_3
  rw [hvc_] at ul677_3
  have HL677_3 := Aside0.mk (show Kd.V k55 55 _ w0.heap.size _ _ ((rd_T28 l3_4 x27_1).f3) from Kd.V_mk ul677_3 ge677_3)
  clear hva_ hvn_ hvc_ ge677_3 ul677_3
  have hv677_4 := hcc677 4 _ rfl
  rw [add_field _ _ 4 Z5] at hv677_4
  replace hv677_4 := Option.some.inj (hv677_4.symm.trans hx677_4)
  injection hv677_4 with hva_ hvn_ hvc_
  rw [hva_] at ge677_4
  rw [hvc_] at ul677_4
  have HL677_4 := Aside0.mk (show Kd.V k28 28 _ w0.heap.size _ _ ((rd_T28 l3_4 x27_1).f4) from Kd.V_mk ul677_4 ge677_4)
  clear hva_ hvn_ hvc_ ge677_4 ul677_4; clear hcc677 hce677
  have HR677_3 := Aside0.mk hi677_3
  have HC677_3 := Aside0.mk hl677_3
  clear hi677_3 hl677_3
  have HR677_4 := Aside0.mk hi677_4
  have HC677_4 := Aside0.mk hl677_4
  clear hi677_4 hl677_4
  replace p677 := eq_true p677
  replace q677 := eq_true q677
  obtain ⟨Ao36, co36, eo36⟩ := Kd.R_slice HO676.out
  (first | subst eo36 | (injection eo36 with f1_ f2_ f3_; have f4_ := f1_.symm; have f5_ := f3_.symm; clear f1_ f2_ f3_; subst f4_; subst f5_))
  refine start_ (n := 12) (S := fun w' => w'.cell? ⟨gb653, 0, none⟩ = some (.string a0_0) ∧ w'.cell? ⟨gb653, 1, none⟩ = some (.string a0_1) ∧ w'.cell? ⟨gb653, 2, none⟩ = some (.int .i64 a0_2) ∧ w'.cell? ⟨gb654, 0, none⟩ = some (.int .i64 a3_0) ∧ w'.cell? ⟨gb654, 1, none⟩ = some (.int .i64 a3_1) ∧ w'.cell? ⟨gb654, 2, none⟩ = some (.int .i64 a3_2) ∧ w'.cell? ⟨gb654, 3, none⟩ = some (.slice A3_3 l3_3.length c3_3) ∧ w'.cell? ⟨gb654, 4, none⟩ = some (.slice (some ad677) l3_4.length c3_4) ∧ w'.cell? (ad677.add ((x27_1).toNat * 5)) = some (.int .i64 ((rd_T28 l3_4 x27_1).f0)) ∧ w'.cell? ⟨(ad677.add ((x27_1).toNat * 5)).block, (ad677.add ((x27_1).toNat * 5)).off + 1, none⟩ = some (.int .i64 ((rd_T28 l3_4 x27_1).f1)) ∧ w'.cell? ⟨(ad677.add ((x27_1).toNat * 5)).block, (ad677.add ((x27_1).toNat * 5)).off + 2, none⟩ = some (.int .i64 ((rd_T28 l3_4 x27_1).f2)) ∧ w'.cell? ⟨(ad677.add ((x27_1).toNat * 5)).block, (ad677.add ((x27_1).toNat * 5)).off + 3, none⟩ = some (.slice A677_3 ((rd_T28 l3_4 x27_1).f3).length c677_3) ∧ w'.cell? ⟨(ad677.add ((x27_1).toNat * 5)).block, (ad677.add ((x27_1).toNat * 5)).off + 4, none⟩ = some (.slice A677_4 ((rd_T28 l3_4 x27_1).f4).length c677_4)) (ds := []) #[false, false, false, false, false, false, false, false, false, false, false, false] Z1 rfl rfl ⟨(blk_cell BK653.out 0).trans rfl, (blk_cell BK653.out 1).trans rfl, (blk_cell BK653.out 2).trans rfl, (blk_cell BK654.out 0).trans rfl, (blk_cell BK654.out 1).trans rfl, (blk_cell BK654.out 2).trans rfl, (blk_cell BK654.out 3).trans rfl, (blk_cell BK654.out 4).trans rfl, hx677_0, hx677_1, hx677_2, hx677_3, hx677_4⟩ (fun hHeld => ?_); refine with_tabW spec_Layout_elements.tab12 spec_Layout_elements.bits12 (fun HT_ HW_ => ?_)
  generalize w34.drew = w35 at HO_655004 HO676 BK653 BK654 HK HB HL677_3 HL677_4 HR677_3 HR677_4 hx677_0 hx677_1 hx677_2 hx677_3 hx677_4 hHeld ⊢
  refine pure_ (i := 1) (N := some 44) (v := ?_) (a' := ?_) #[false, true, false, false, false, false, false, false, false, false, false, false] rfl rfl (any_of HT_.out Z1) (fun _ _ _ h => h) (Or.inl ⟨Z3, ?_⟩) ?_ ?_
  rotate_left
  ·
   intro w'
   go_simp
   with_reducible rfl
  rotate_left
  ·
   simp only [Act.put, List.setIfInBounds_toArray, List.set_cons_zero, List.set_cons_succ, i64_w, i32_w]
   rfl
  refine pure_ (i := 2) (N := some 45) (v := ?_) (a' := ?_) #[false, true, true, false, false, false, false, false, false, false, false, false] rfl rfl (any_of HT_.out Z1) (fun _ _ _ h => h) (Or.inl ⟨Z3, ?_⟩) ?_ ?_
  rotate_left
  ·
   intro w'
   go_simp
   with_reducible rfl
  rotate_left
  ·
   simp only [Act.put, List.setIfInBounds_toArray, List.set_cons_zero, List.set_cons_succ, i64_w, i32_w]
   rfl
  refine pure_ (i := 3) (N := some 46) (v := ?_) (a' := ?_) #[false, true, true, true, false, false, false, false, false, false, false, false] rfl rfl (any_of HT_.out Z1) (fun _ _ _ h => h) (Or.inl ⟨Z3, ?_⟩) ?_ ?_
  rotate_left
  ·
   intro w'
   go_simp
   with_reducible rfl
  rotate_left
  ·
   simp only [Act.put, List.setIfInBounds_toArray, List.set_cons_zero, List.set_cons_succ, i64_w, i32_w]
   rfl
  refine pure_ (i := 5) (N := some 48) (v := ?_) (a' := ?_) #[false, true, true, true, false, true, false, false, false, false, false, false] rfl rfl (any_of HT_.out Z1) (fun _ _ _ h => h) (Or.inl ⟨Z3, ?_⟩) ?_ ?_
  rotate_left
  ·
   intro w'
   go_simp
   with_reducible rfl
  rotate_left
  ·
   simp only [Act.put, List.setIfInBounds_toArray, List.set_cons_zero, List.set_cons_succ, i64_w, i32_w]
   rfl
  refine pure_ (i := 8) (N := some 51) (v := ?_) (a' := ?_) #[false, true, true, true, false, true, false, false, true, false, false, false] rfl rfl (any_of HT_.out Z1) (fun _ _ _ h => h) (Or.inl ⟨Z3, ?_⟩) ?_ ?_
  rotate_left
  ·
   intro w'
   go_simp
   with_reducible rfl
  rotate_left
  ·
   simp only [Act.put, List.setIfInBounds_toArray, List.set_cons_zero, List.set_cons_succ, i64_w, i32_w]
   rfl
  refine pure_ (i := 9) (N := some 52) (v := ?_) (a' := ?_) #[false, true, true, true, false, true, false, false, true, true, false, false] rfl rfl (any_of HT_.out Z1) (fun _ _ _ h => h) (Or.inl ⟨Z3, ?_⟩) ?_ ?_
  rotate_left
  ·
   intro w'
   go_simp
   with_reducible rfl
  rotate_left
  ·
   simp only [Act.put, List.setIfInBounds_toArray, List.set_cons_zero, List.set_cons_succ, i64_w, i32_w]
   rfl
  refine take_ (i := 0) (N := some 43) (v := ?_) (a' := ?_) #[true, true, true, true, false, true, false, false, true, true, false, false] rfl rfl (take_ofW HT_.out HW_.out Z1) (fun _ _ _ h => h) (Or.inl ⟨Z3, ?_⟩) hHeld ?_ ?_
  rotate_left
  ·
   rintro w' ⟨s0, s1, s2, s3, s4, s5, s6, s7, s8, s9, s10, s11, s12⟩
   go_simp
   with_reducible rfl
  rotate_left
  ·
   simp only [Act.put, List.setIfInBounds_toArray, List.set_cons_zero, List.set_cons_succ, i64_w, i32_w]
   rfl
  refine take_ (i := 4) (N := some 47) (v := ?_) (a' := ?_) #[true, true, true, true, true, true, false, false, true, true, false, false] rfl rfl (take_ofW HT_.out HW_.out Z1) (fun _ _ _ h => h) (Or.inl ⟨Z3, ?_⟩) hHeld ?_ ?_
  rotate_left
  ·
   rintro w' ⟨s0, s1, s2, s3, s4, s5, s6, s7, s8, s9, s10, s11, s12⟩
   go_simp
   with_reducible rfl
  rotate_left
  ·
   simp only [Act.put, List.setIfInBounds_toArray, List.set_cons_zero, List.set_cons_succ, i64_w, i32_w]
   rfl
  refine pure_ (i := 6) (N := some 49) (v := ?_) (a' := ?_) #[true, true, true, true, true, true, true, false, true, true, false, false] rfl rfl (any_of HT_.out Z1) (fun _ _ _ h => h) (Or.inl ⟨Z3, ?_⟩) ?_ ?_
  rotate_left
  ·
   intro w'
   go_simp
   with_reducible rfl
  rotate_left
  ·
   simp only [Act.put, List.setIfInBounds_toArray, List.set_cons_zero, List.set_cons_succ, i64_w, i32_w]
   rfl
  refine take_ (i := 7) (N := some 50) (v := ?_) (a' := ?_) #[true, true, true, true, true, true, true, true, true, true, false, false] rfl rfl (take_ofW HT_.out HW_.out Z1) (fun _ _ _ h => h) (Or.inl ⟨Z3, ?_⟩) hHeld ?_ ?_
  rotate_left
  ·
   rintro w' ⟨s0, s1, s2, s3, s4, s5, s6, s7, s8, s9, s10, s11, s12⟩
   go_simp
   with_reducible rfl
  rotate_left
  ·
   simp only [Act.put, List.setIfInBounds_toArray, List.set_cons_zero, List.set_cons_succ, i64_w, i32_w]
   rfl
  refine one_ (i := 10) (N := some 53) #[true, true, true, true, true, true, true, true, true, true, true, false] rfl rfl (one_of HT_.out Z1) Z2 (fun K hK => ?_)
  refine goes_ Try.func16 Z1 rfl #[.agg #[.string a0_0, .string a0_1, .int .i64 a0_2], .slice Ao36 y674.length co36, .string a2, .agg #[.int .i64 ((rd_T28 l3_4 x27_1).f0), .int .i64 ((rd_T28 l3_4 x27_1).f1), .int .i64 ((rd_T28 l3_4 x27_1).f2), .slice A677_3 ((rd_T28 l3_4 x27_1).f3).length c677_3, .slice A677_4 ((rd_T28 l3_4 x27_1).f4).length c677_4], .string (a4 ++ a0_1), .int .i64 x12_1] Z3 rfl rfl Z13 ?_
  with_reducible refine (ih_16_ k1 Z27 a0_0 a0_1 a0_2 (fun k_ => some k_ = (.slice Ao36 y674.length co36 : Value).ownBlock) (.slice Ao36 y674.length co36) y674 a2 ((rd_T28 l3_4 x27_1).f0) ((rd_T28 l3_4 x27_1).f1) ((rd_T28 l3_4 x27_1).f2) _ _ ((rd_T28 l3_4 x27_1).f3) (fun k_ => ((((P1_ k_ ∨ P3_4_ k_) ∨ w.heap.size ≤ k_) ∧ (k_ ≠ gb653 ∧ k_ ≠ gb654)) ∧ some k_ ≠ (.slice Ao36 y674.length co36 : Value).ownBlock)) _ _ ((rd_T28 l3_4 x27_1).f4) (a4 ++ a0_1) x12_1 t678 w0 _ ?side1 ?side2 ?side3 ?side4 ?side5 A32.out).mono ?_
  (case side1 => exact Z24)
  (case side2 => exact Kd.R_tight rfl HO676.out)
  (case side3 => exact Kd.C_kept_ownV (HL677_3.out) (fun k_ hk_ hs_ => (hk_.2) hs_))
  (case side4 => exact HC677_3.out)
  (case side5 => exact Kd.V_mono (HL677_4.out) (fun k_ hk_ => ⟨hk_, hk_.2⟩))
  rintro e w37 ⟨v679, rfl, ho0, hb, hkp⟩
  have HS8_ := cell_kept (hHeld.2.2.2.2.2.2.2.2.1) hkp Z138
  have HS9_ := cell_kept (hHeld.2.2.2.2.2.2.2.2.2.1) hkp Z138
  have HS10_ := cell_kept (hHeld.2.2.2.2.2.2.2.2.2.2.1) hkp Z138
  have HS11_ := cell_kept (hHeld.2.2.2.2.2.2.2.2.2.2.2.1) hkp Z138
  have HS12_ := cell_kept (hHeld.2.2.2.2.2.2.2.2.2.2.2.2) hkp Z138
  refine ⟨_, rfl, ?_⟩
  have n0_ := Aside0.mk (Kd.V_mono (ok' := fun k_ => ((P1_ k_ ∨ P3_4_ k_) ∨ w.heap.size ≤ k_) ∧ k_ ≠ gb653 ∧ k_ ≠ gb654 ∧ some k_ ≠ (v679 : Value).ownBlock) (Kd.V_keptB (HO_655004.out) hkp (fun k_ hk_ hs_ => (hk_.2) hs_)) (fun k_ hk_ => ⟨hk_.1.1.1, hk_.1.1.2.1, hk_.1.1.2.2, fun e_ => Or.elim (ho0.1 k_ e_.symm) (fun hs_ => hk_.2.1 hs_) (fun hn_ => Nat.not_le.2 hk_.2.2 hn_)⟩))
  have n1_ := Aside0.mk (blk_kept (pB BK653.out) hkp (fun hs_ => (fun e_ => (Kd.R_ne HO676.out BK653.out Z2) e_) hs_))
  have n2_ := Aside0.mk (blk_kept (pB BK654.out) hkp (fun hs_ => (fun e_ => (Kd.R_ne HO676.out BK654.out Z2) e_) hs_))
  have n3_ := Aside0.mk (Kd.R_mono (ok' := fun k_ => (P1_ k_ ∨ w.heap.size ≤ k_)) ho0 (fun k_ hk_ => Or.elim hk_ (fun hs_ => (HO676.out.1 k_ (hs_).symm)) (fun hn_ => (.inr (Nat.le_trans Z131 hn_)))))
  have n4_ := Aside0.mk (Kept.then_ (S := (fun k_ => P1_ k_)) Z23 hkp (fun k_ hs_ => (fun e_ => (HO676.out.1 k_ e_.symm)) hs_))
  have n5_ := Aside0.mk (hb)
  clear HO_655004; clear BK653; clear BK654; clear HK; clear HB; clear HO676; clear HL677_3; clear HL677_4
  have HO_655004 := n0_
  have BK653 := n1_
  have BK654 := n2_
  have HO680 := n3_
  have HK := n4_
  have HB := n5_
  clear n0_ n1_ n2_ n3_ n4_ n5_
  (try clear hb)
  (try clear hkp)
  (try clear ho0)
  refine hK.out _ _ ⟨(blk_cell BK653.out 0).trans rfl, (blk_cell BK653.out 1).trans rfl, (blk_cell BK653.out 2).trans rfl, (blk_cell BK654.out 0).trans rfl, (blk_cell BK654.out 1).trans rfl, (blk_cell BK654.out 2).trans rfl, (blk_cell BK654.out 3).trans rfl, (blk_cell BK654.out 4).trans rfl, HS8_, HS9_, HS10_, HS11_, HS12_⟩ (fun hHeld => ?_)
  clear hK K
  refine norm_ (a' := ?_) ?_ ?_
  rotate_left
  ·
   show Act.put _ (some 53) _ = _
   simp only [Act.put, List.setIfInBounds_toArray, List.set_cons_zero, List.set_cons_succ, i64_w, i32_w]
   rfl
  refine pure_ (i := 11) (N := some 1) (v := ?_) (a' := ?_) #[true, true, true, true, true, true, true, true, true, true, true, true] rfl rfl (any_of HT_.out Z1) (fun _ _ _ h => h) (Or.inl ⟨Z3, ?_⟩) ?_ ?_
  rotate_left
  ·
   intro w'
   go_simp
   with_reducible rfl
  rotate_left
  ·
   simp only [Act.put, List.setIfInBounds_toArray, List.set_cons_zero, List.set_cons_succ, i64_w, i32_w]
   rfl
  refine done_ (done_of HT_.out Z1) ?_
  try go_wp2
  go_roundg k1
  case measure => have := HK1.out; omega
  case rel => exact ⟨(t678), (x12_1), (wrap64 (x27_1 + 1)), Z8, Z8, H', ⟨Z27⟩, ⟨pR HO680.out⟩, ⟨Z114⟩, ⟨pB BK653.out⟩, ⟨pB BK654.out⟩, ⟨Z23⟩, ⟨Z24⟩⟩
 rw [if_pos c15] at H
 have c15b0 := decide_eq_true c15
 clear c15
 by_cases c16 : x1_1.length < 140737488355328
 rotate_left
 ·
  rw [if_neg c16] at H
  exact absurd H Z4
 rw [if_pos c16] at H
 have LMc16 := Aside0.mk c16
 clear c16
 obtain ⟨y658, hy658⟩ : ∃ y_ : List Int, y_ = (x1_1 ++ [44]) := ⟨_, rfl⟩
 first | replace H := bind_y hy658 H | rw [← hy658] at H
 have Ny658 := Aside0.mk hy658
 clear hy658
 by_cases c17 : y658.length < 140737488355328
 rotate_left
 ·
  rw [if_neg c17] at H
  exact absurd H Z4
 rw [if_pos c17] at H
 have LMc17 := Aside0.mk c17
 clear c17
 obtain ⟨y661, hy661⟩ : ∃ y_ : List Int, y_ = (y658 ++ [10]) := ⟨_, rfl⟩
 first | replace H := bind_y hy661 H | rw [← hy661] at H
 have Ny661 := Aside0.mk hy661
 clear hy661
 by_cases c18 : y661.length + (a4 ++ a0_1).size < 140737488355328
 rotate_left
 ·
  rw [if_neg c18] at H
  exact absurd H Z4
 rw [if_pos c18] at H
 have LMc18 := Aside0.mk c18
 clear c18
 obtain ⟨y664, hy664⟩ : ∃ y_ : List Int, y_ = (y661 ++ bytesOf (a4 ++ a0_1)) := ⟨_, rfl⟩
 first | replace H := bind_y hy664 H | rw [← hy664] at H
 have Ny664 := Aside0.mk hy664
 clear hy664
 by_cases c19 : 0 ≤ x27_1
 rotate_left
 ·
  rw [if_neg c19] at H
  exact absurd H Z4
 rw [if_pos c19] at H
 have c19b0 := decide_eq_true c19
 clear c19
 by_cases c20 : x27_1 < (l3_4.length : Int)
 rotate_left
 ·
  rw [if_neg c20] at H
  exact absurd H Z4
 rw [if_pos c20] at H
 have c20b0 := decide_eq_true c20
 clear c20
 replace H := Option.bind_eq_some_iff.mp H
 obtain ⟨t668, A210, H⟩ := H
 have A21 := Aside0.mk A210
 clear A210
 have H' := Aside0.mk H
 clear H
 try go_wp2_with (first | ((with_reducible refine gate_builtin (b := .append) (xs := #[.tmp 32, .tmp 33]) rfl ?_); at_builtin; refine Kd.R_append (Kd.int .u8) (w0 := w0) w0.heap.size rfl (.tmp 32) (.tmp 33) 40 5 (.int .u8 0) 1 rfl Try.underlying40 info5 rfl Z2 Z5 u1 x1_1 44 [.int .u8 44] (fun k_ => (P1_ k_ ∨ w.heap.size ≤ k_)) (fun _ => False) rfl rfl ?aP (fun _ hk => hk.elim) ?aF ?aO ?aB ?aS ?aL ?_; (case aP => exact rfl); (case aB => exact Z24); (case aF => exact (fun k_ hk => (.inr (Nat.le_trans Z131 hk)))); (case aO => exact (pR HO_1.out)); (case aS => exact (below_size Z24)); (case aL => have := LMc16.out; omega); intro v659 w22 ho hb hg hat; rw [← Ny658.out] at ho; have n0_ := Aside0.mk (Kd.V_afterv (ok := (fun k_ => ((P1_ k_ ∨ P3_4_ k_) ∨ w.heap.size ≤ k_) ∧ k_ ≠ gb653 ∧ k_ ≠ gb654)) Z87 hg hat); have n1_ := Aside0.mk (blk_grown (g := gb653) (o := .cells #[.string a0_0, .string a0_1, .int .i64 a0_2] 36 (0, 0)) (pB BK653.out) hg (Kd.R_ne HO_1.out BK653.out Z2)); have n2_ := Aside0.mk (blk_grown (g := gb654) (o := .cells #[.int .i64 a3_0, .int .i64 a3_1, .int .i64 a3_2, .slice A3_3 l3_3.length c3_3, .slice A3_4 l3_4.length c3_4] 28 (0, 0)) (pB BK654.out) hg (Kd.R_ne HO_1.out BK654.out Z2)); have n3_ := Aside0.mk (hb); have n4_ := Aside0.mk (Kept.of_grown (S := (fun k_ => P1_ k_)) hg Z23 (fun k_ e_ => (HO_1.out.1 k_ e_))); have n5_ := Aside0.mk (ho); clear HO_655004; clear BK653; clear BK654; clear HB; clear HK; clear HO_1; have HO_655004 := n0_; have BK653 := n1_; have BK654 := n2_; have HB := n3_; have HK := n4_; have HO660 := n5_; clear n0_ n1_ n2_ n3_ n4_ n5_; clear ho hb hg hat) | ((with_reducible refine gate_builtin (b := .append) (xs := #[.tmp 37, .tmp 38]) rfl ?_); at_builtin; refine Kd.R_append (Kd.int .u8) (w0 := w0) w0.heap.size rfl (.tmp 37) (.tmp 38) 40 5 (.int .u8 0) 1 rfl Try.underlying40 info5 rfl Z2 Z5 v659 y658 10 [.int .u8 10] (fun k_ => (P1_ k_ ∨ w.heap.size ≤ k_)) (fun _ => False) rfl rfl ?aP (fun _ hk => hk.elim) ?aF ?aO ?aB ?aS ?aL ?_; (case aP => exact rfl); (case aB => exact Z24); (case aF => exact (fun k_ hk => (.inr (Nat.le_trans Z131 hk)))); (case aO => exact (pR HO660.out)); (case aS => exact (below_size Z24)); (case aL => have := LMc17.out; omega); intro v662 w23 ho hb hg hat; rw [← Ny661.out] at ho; have n0_ := Aside0.mk (Kd.V_afterv (ok := (fun k_ => ((P1_ k_ ∨ P3_4_ k_) ∨ w.heap.size ≤ k_) ∧ k_ ≠ gb653 ∧ k_ ≠ gb654)) (pV HO_655004.out) hg hat); have n1_ := Aside0.mk (blk_grown (g := gb653) (o := .cells #[.string a0_0, .string a0_1, .int .i64 a0_2] 36 (0, 0)) (pB BK653.out) hg (Kd.R_ne HO660.out BK653.out Z2)); have n2_ := Aside0.mk (blk_grown (g := gb654) (o := .cells #[.int .i64 a3_0, .int .i64 a3_1, .int .i64 a3_2, .slice A3_3 l3_3.length c3_3, .slice A3_4 l3_4.length c3_4] 28 (0, 0)) (pB BK654.out) hg (Kd.R_ne HO660.out BK654.out Z2)); have n3_ := Aside0.mk (hb); have n4_ := Aside0.mk (Kept.of_grown (S := (fun k_ => P1_ k_)) hg Z23 (fun k_ e_ => (HO660.out.1 k_ e_))); have n5_ := Aside0.mk (ho); clear HO_655004; clear BK653; clear BK654; clear HB; clear HK; clear HO660; have HO_655004 := n0_; have BK653 := n1_; have BK654 := n2_; have HB := n3_; have HK := n4_; have HO663 := n5_; clear n0_ n1_ n2_ n3_ n4_ n5_; clear ho hb hg hat) | (at_builtin; refine Kd.R_append_str (w0 := w0) w0.heap.size rfl (.tmp 40) _ 40 9 5 rfl Try.underlying40 Try.underlying9 info5 v662 y661 (a4 ++ a0_1) (fun k_ => (P1_ k_ ∨ w.heap.size ≤ k_)) rfl rfl ?aF ?aO ?aB ?aS ?aL ?_; (case aB => exact Z24); (case aF => exact (fun k_ hk => (.inr (Nat.le_trans Z131 hk)))); (case aO => exact (pR HO663.out)); (case aS => exact (below_size Z24)); (case aL => have := LMc18.out; omega); intro v665 w24 ho hb hg hat; rw [← Ny664.out] at ho; have n0_ := Aside0.mk (Kd.V_afterv (ok := (fun k_ => ((P1_ k_ ∨ P3_4_ k_) ∨ w.heap.size ≤ k_) ∧ k_ ≠ gb653 ∧ k_ ≠ gb654)) (pV HO_655004.out) hg hat); have n1_ := Aside0.mk (blk_grown (g := gb653) (o := .cells #[.string a0_0, .string a0_1, .int .i64 a0_2] 36 (0, 0)) (pB BK653.out) hg (Kd.R_ne HO663.out BK653.out Z2)); have n2_ := Aside0.mk (blk_grown (g := gb654) (o := .cells #[.int .i64 a3_0, .int .i64 a3_1, .int .i64 a3_2, .slice A3_3 l3_3.length c3_3, .slice A3_4 l3_4.length c3_4] 28 (0, 0)) (pB BK654.out) hg (Kd.R_ne HO663.out BK654.out Z2)); have n3_ := Aside0.mk (hb); have n4_ := Aside0.mk (Kept.of_grown (S := (fun k_ => P1_ k_)) hg Z23 (fun k_ e_ => (HO663.out.1 k_ e_))); have n5_ := Aside0.mk (ho); clear HO_655004; clear BK653; clear BK654; clear HB; clear HK; clear HO663; have HO_655004 := n0_; have BK653 := n1_; have BK654 := n2_; have HB := n3_; have HK := n4_; have HO666 := n5_; clear n0_ n1_ n2_ n3_ n4_ n5_; clear ho hb hg hat))
 have n0_ := Aside0.mk (Kd.V_drew HO_655004.out)
 have n1_ := Aside0.mk (Kd.R_drew HO666.out)
 have n2_ := Aside0.mk (blk_drew BK653.out)
 have n3_ := Aside0.mk (blk_drew BK654.out)
 have n4_ := Aside0.mk (Kept.drew HK.out)
 have n5_ := Aside0.mk (below_drew1 HB.out)
 clear HO_655004; clear HO666; clear BK653; clear BK654; clear HK; clear HB
 have HO_655004 := n0_
 have HO666 := n1_
 have BK653 := n2_
 have BK654 := n3_
 have HK := n4_
 have HB := n5_
 clear n0_ n1_ n2_ n3_ n4_ n5_
 have p667 : 0 ≤ (x27_1 : Int) := of_decide_eq_true Z0
 have q667 : x27_1 < (l3_4.length : Int) := of_decide_eq_true Z0
 obtain ⟨ad667, A667_3, c667_3, A667_4, c667_4, e667, hx667_0, hx667_1, hx667_2, hx667_3, hx667_4, hl667_3, hi667_3, hl667_4, hi667_4⟩ := at_T28 (Kd.V_reads' HO_655004.out).2.2 x27_1 p667 q667
 cases e667
 obtain ⟨ce667, hce667, hMe667, hcc667⟩ := Kd.V_get HO_655004.out z28 x27_1 p667 (by first | exact q667 | exact of_decide_eq_true Z0 | (have e_ := (Kd.V_reads' HO_655004.out).1; omega))
 obtain ⟨ua667_3, uc667_3, ua667_4, uc667_4, rfl, ul667_3, ge667_3, ul667_4, ge667_4⟩ := k28_openF hMe667
 have hv667_3 := hcc667 3 _ rfl
 rw [add_field _ _ 3 Z5] at hv667_3
 replace hv667_3 := Option.some.inj (hv667_3.symm.trans hx667_3)
 injection hv667_3 with hva_ hvn_ hvc_
 rw [hva_] at ge667_3
 rw [hvc_] at ul667_3
 have HL667_3 := Aside0.mk (show Kd.V k55 55 _ w0.heap.size _ _ ((rd_T28 l3_4 x27_1).f3) from Kd.V_mk ul667_3 ge667_3)
 clear hva_ hvn_ hvc_ ge667_3 ul667_3
 have hv667_4 := hcc667 4 _ rfl
 rw [add_field _ _ 4 Z5] at hv667_4
 replace hv667_4 := Option.some.inj (hv667_4.symm.trans hx667_4)
 injection hv667_4 with hva_ hvn_ hvc_
 rw [hva_] at ge667_4
 rw [hvc_] at ul667_4
 have HL667_4 := Aside0.mk (show Kd.V k28 28 _ w0.heap.size _ _ ((rd_T28 l3_4 x27_1).f4) from Kd.V_mk ul667_4 ge667_4)
 clear hva_ hvn_ hvc_ ge667_4 ul667_4; clear hcc667 hce667
 have HR667_3 := Aside0.mk hi667_3
 have HC667_3 := Aside0.mk hl667_3
 clear hi667_3 hl667_3
 have HR667_4 := Aside0.mk hi667_4
 have HC667_4 := Aside0.mk hl667_4
 clear hi667_4 hl667_4
 replace p667 := eq_true p667
 replace q667 := eq_true q667
 obtain ⟨Ao26, co26, eo26⟩ := Kd.R_slice HO666.out
 (first | subst eo26 | (injection eo26 with f1_ f2_ f3_; have f4_ := f1_.symm; have f5_ := f3_.symm; clear f1_ f2_ f3_; subst f4_; subst f5_))
 refine start_ (n := 12) (S := fun w' => w'.cell? ⟨gb653, 0, none⟩ = some (.string a0_0) ∧ w'.cell? ⟨gb653, 1, none⟩ = some (.string a0_1) ∧ w'.cell? ⟨gb653, 2, none⟩ = some (.int .i64 a0_2) ∧ w'.cell? ⟨gb654, 0, none⟩ = some (.int .i64 a3_0) ∧ w'.cell? ⟨gb654, 1, none⟩ = some (.int .i64 a3_1) ∧ w'.cell? ⟨gb654, 2, none⟩ = some (.int .i64 a3_2) ∧ w'.cell? ⟨gb654, 3, none⟩ = some (.slice A3_3 l3_3.length c3_3) ∧ w'.cell? ⟨gb654, 4, none⟩ = some (.slice (some ad667) l3_4.length c3_4) ∧ w'.cell? (ad667.add ((x27_1).toNat * 5)) = some (.int .i64 ((rd_T28 l3_4 x27_1).f0)) ∧ w'.cell? ⟨(ad667.add ((x27_1).toNat * 5)).block, (ad667.add ((x27_1).toNat * 5)).off + 1, none⟩ = some (.int .i64 ((rd_T28 l3_4 x27_1).f1)) ∧ w'.cell? ⟨(ad667.add ((x27_1).toNat * 5)).block, (ad667.add ((x27_1).toNat * 5)).off + 2, none⟩ = some (.int .i64 ((rd_T28 l3_4 x27_1).f2)) ∧ w'.cell? ⟨(ad667.add ((x27_1).toNat * 5)).block, (ad667.add ((x27_1).toNat * 5)).off + 3, none⟩ = some (.slice A667_3 ((rd_T28 l3_4 x27_1).f3).length c667_3) ∧ w'.cell? ⟨(ad667.add ((x27_1).toNat * 5)).block, (ad667.add ((x27_1).toNat * 5)).off + 4, none⟩ = some (.slice A667_4 ((rd_T28 l3_4 x27_1).f4).length c667_4)) (ds := []) #[false, false, false, false, false, false, false, false, false, false, false, false] Z1 rfl rfl ⟨(blk_cell BK653.out 0).trans rfl, (blk_cell BK653.out 1).trans rfl, (blk_cell BK653.out 2).trans rfl, (blk_cell BK654.out 0).trans rfl, (blk_cell BK654.out 1).trans rfl, (blk_cell BK654.out 2).trans rfl, (blk_cell BK654.out 3).trans rfl, (blk_cell BK654.out 4).trans rfl, hx667_0, hx667_1, hx667_2, hx667_3, hx667_4⟩ (fun hHeld => ?_); refine with_tabW spec_Layout_elements.tab12 spec_Layout_elements.bits12 (fun HT_ HW_ => ?_)
 generalize w24.drew = w25 at HO_655004 HO666 BK653 BK654 HK HB HL667_3 HL667_4 HR667_3 HR667_4 hx667_0 hx667_1 hx667_2 hx667_3 hx667_4 hHeld ⊢
 refine pure_ (i := 1) (N := some 44) (v := ?_) (a' := ?_) #[false, true, false, false, false, false, false, false, false, false, false, false] rfl rfl (any_of HT_.out Z1) (fun _ _ _ h => h) (Or.inl ⟨Z3, ?_⟩) ?_ ?_
 rotate_left
 ·
  intro w'
  go_simp
  with_reducible rfl
 rotate_left
 ·
  simp only [Act.put, List.setIfInBounds_toArray, List.set_cons_zero, List.set_cons_succ, i64_w, i32_w]
  rfl
 refine pure_ (i := 2) (N := some 45) (v := ?_) (a' := ?_) #[false, true, true, false, false, false, false, false, false, false, false, false] rfl rfl (any_of HT_.out Z1) (fun _ _ _ h => h) (Or.inl ⟨Z3, ?_⟩) ?_ ?_
 rotate_left
 ·
  intro w'
  go_simp
  with_reducible rfl
 rotate_left
 ·
  simp only [Act.put, List.setIfInBounds_toArray, List.set_cons_zero, List.set_cons_succ, i64_w, i32_w]
  rfl
 refine pure_ (i := 3) (N := some 46) (v := ?_) (a' := ?_) #[false, true, true, true, false, false, false, false, false, false, false, false] rfl rfl (any_of HT_.out Z1) (fun _ _ _ h => h) (Or.inl ⟨Z3, ?_⟩) ?_ ?_
 rotate_left
 ·
  intro w'
  go_simp
  with_reducible rfl
 rotate_left
 ·
  simp only [Act.put, List.setIfInBounds_toArray, List.set_cons_zero, List.set_cons_succ, i64_w, i32_w]
  rfl
 refine pure_ (i := 5) (N := some 48) (v := ?_) (a' := ?_) #[false, true, true, true, false, true, false, false, false, false, false, false] rfl rfl (any_of HT_.out Z1) (fun _ _ _ h => h) (Or.inl ⟨Z3, ?_⟩) ?_ ?_
 rotate_left
 ·
  intro w'
  go_simp
  with_reducible rfl
 rotate_left
 ·
  simp only [Act.put, List.setIfInBounds_toArray, List.set_cons_zero, List.set_cons_succ, i64_w, i32_w]
  rfl
 refine pure_ (i := 8) (N := some 51) (v := ?_) (a' := ?_) #[false, true, true, true, false, true, false, false, true, false, false, false] rfl rfl (any_of HT_.out Z1) (fun _ _ _ h => h) (Or.inl ⟨Z3, ?_⟩) ?_ ?_
 rotate_left
 ·
  intro w'
  go_simp
  with_reducible rfl
 rotate_left
 ·
  simp only [Act.put, List.setIfInBounds_toArray, List.set_cons_zero, List.set_cons_succ, i64_w, i32_w]
  rfl
 refine pure_ (i := 9) (N := some 52) (v := ?_) (a' := ?_) #[false, true, true, true, false, true, false, false, true, true, false, false] rfl rfl (any_of HT_.out Z1) (fun _ _ _ h => h) (Or.inl ⟨Z3, ?_⟩) ?_ ?_
 rotate_left
 ·
  intro w'
  go_simp
  with_reducible rfl
 rotate_left
 ·
  simp only [Act.put, List.setIfInBounds_toArray, List.set_cons_zero, List.set_cons_succ, i64_w, i32_w]
  rfl
 refine take_ (i := 0) (N := some 43) (v := ?_) (a' := ?_) #[true, true, true, true, false, true, false, false, true, true, false, false] rfl rfl (take_ofW HT_.out HW_.out Z1) (fun _ _ _ h => h) (Or.inl ⟨Z3, ?_⟩) hHeld ?_ ?_
 rotate_left
 ·
  rintro w' ⟨s0, s1, s2, s3, s4, s5, s6, s7, s8, s9, s10, s11, s12⟩
  go_simp
  with_reducible rfl
 rotate_left
 ·
  simp only [Act.put, List.setIfInBounds_toArray, List.set_cons_zero, List.set_cons_succ, i64_w, i32_w]
  rfl
 refine take_ (i := 4) (N := some 47) (v := ?_) (a' := ?_) #[true, true, true, true, true, true, false, false, true, true, false, false] rfl rfl (take_ofW HT_.out HW_.out Z1) (fun _ _ _ h => h) (Or.inl ⟨Z3, ?_⟩) hHeld ?_ ?_
 rotate_left
 ·
  rintro w' ⟨s0, s1, s2, s3, s4, s5, s6, s7, s8, s9, s10, s11, s12⟩
  go_simp
  with_reducible rfl
 rotate_left
 ·
  simp only [Act.put, List.setIfInBounds_toArray, List.set_cons_zero, List.set_cons_succ, i64_w, i32_w]
  rfl
 refine pure_ (i := 6) (N := some 49) (v := ?_) (a' := ?_) #[true, true, true, true, true, true, true, false, true, true, false, false] rfl rfl (any_of HT_.out Z1) (fun _ _ _ h => h) (Or.inl ⟨Z3, ?_⟩) ?_ ?_
 rotate_left
 ·
  intro w'
  go_simp
  with_reducible rfl
 rotate_left
 ·
  simp only [Act.put, List.setIfInBounds_toArray, List.set_cons_zero, List.set_cons_succ, i64_w, i32_w]
  rfl
 refine take_ (i := 7) (N := some 50) (v := ?_) (a' := ?_) #[true, true, true, true, true, true, true, true, true, true, false, false] rfl rfl (take_ofW HT_.out HW_.out Z1) (fun _ _ _ h => h) (Or.inl ⟨Z3, ?_⟩) hHeld ?_ ?_
 rotate_left
 ·
  rintro w' ⟨s0, s1, s2, s3, s4, s5, s6, s7, s8, s9, s10, s11, s12⟩
  go_simp
  with_reducible rfl
 rotate_left
 ·
  simp only [Act.put, List.setIfInBounds_toArray, List.set_cons_zero, List.set_cons_succ, i64_w, i32_w]
  rfl
 refine one_ (i := 10) (N := some 53) #[true, true, true, true, true, true, true, true, true, true, true, false] rfl rfl (one_of HT_.out Z1) Z2 (fun K hK => ?_)
 refine goes_ Try.func16 Z1 rfl #[.agg #[.string a0_0, .string a0_1, .int .i64 a0_2], .slice Ao26 y664.length co26, .string a2, .agg #[.int .i64 ((rd_T28 l3_4 x27_1).f0), .int .i64 ((rd_T28 l3_4 x27_1).f1), .int .i64 ((rd_T28 l3_4 x27_1).f2), .slice A667_3 ((rd_T28 l3_4 x27_1).f3).length c667_3, .slice A667_4 ((rd_T28 l3_4 x27_1).f4).length c667_4], .string (a4 ++ a0_1), .int .i64 ((a4 ++ a0_1).size : Int)] Z3 rfl rfl Z13 ?_
 with_reducible refine (ih_16_ k1 Z27 a0_0 a0_1 a0_2 (fun k_ => some k_ = (.slice Ao26 y664.length co26 : Value).ownBlock) (.slice Ao26 y664.length co26) y664 a2 ((rd_T28 l3_4 x27_1).f0) ((rd_T28 l3_4 x27_1).f1) ((rd_T28 l3_4 x27_1).f2) _ _ ((rd_T28 l3_4 x27_1).f3) (fun k_ => ((((P1_ k_ ∨ P3_4_ k_) ∨ w.heap.size ≤ k_) ∧ (k_ ≠ gb653 ∧ k_ ≠ gb654)) ∧ some k_ ≠ (.slice Ao26 y664.length co26 : Value).ownBlock)) _ _ ((rd_T28 l3_4 x27_1).f4) (a4 ++ a0_1) ((a4 ++ a0_1).size : Int) t668 w0 _ ?side1 ?side2 ?side3 ?side4 ?side5 A21.out).mono ?_
 (case side1 => exact Z24)
 (case side2 => exact Kd.R_tight rfl HO666.out)
 (case side3 => exact Kd.C_kept_ownV (HL667_3.out) (fun k_ hk_ hs_ => (hk_.2) hs_))
 (case side4 => exact HC667_3.out)
 (case side5 => exact Kd.V_mono (HL667_4.out) (fun k_ hk_ => ⟨hk_, hk_.2⟩))
 rintro e w27 ⟨v669, rfl, ho0, hb, hkp⟩
 have HS8_ := cell_kept (hHeld.2.2.2.2.2.2.2.2.1) hkp Z137
 have HS9_ := cell_kept (hHeld.2.2.2.2.2.2.2.2.2.1) hkp Z137
 have HS10_ := cell_kept (hHeld.2.2.2.2.2.2.2.2.2.2.1) hkp Z137
 have HS11_ := cell_kept (hHeld.2.2.2.2.2.2.2.2.2.2.2.1) hkp Z137
 have HS12_ := cell_kept (hHeld.2.2.2.2.2.2.2.2.2.2.2.2) hkp Z137
 refine ⟨_, rfl, ?_⟩
 have n0_ := Aside0.mk (Kd.V_mono (ok' := fun k_ => ((P1_ k_ ∨ P3_4_ k_) ∨ w.heap.size ≤ k_) ∧ k_ ≠ gb653 ∧ k_ ≠ gb654 ∧ some k_ ≠ (v669 : Value).ownBlock) (Kd.V_keptB (HO_655004.out) hkp (fun k_ hk_ hs_ => (hk_.2) hs_)) (fun k_ hk_ => ⟨hk_.1.1.1, hk_.1.1.2.1, hk_.1.1.2.2, fun e_ => Or.elim (ho0.1 k_ e_.symm) (fun hs_ => hk_.2.1 hs_) (fun hn_ => Nat.not_le.2 hk_.2.2 hn_)⟩))
 have n1_ := Aside0.mk (blk_kept (pB BK653.out) hkp (fun hs_ => (fun e_ => (Kd.R_ne HO666.out BK653.out Z2) e_) hs_))
 have n2_ := Aside0.mk (blk_kept (pB BK654.out) hkp (fun hs_ => (fun e_ => (Kd.R_ne HO666.out BK654.out Z2) e_) hs_))
 have n3_ := Aside0.mk (Kd.R_mono (ok' := fun k_ => (P1_ k_ ∨ w.heap.size ≤ k_)) ho0 (fun k_ hk_ => Or.elim hk_ (fun hs_ => (HO666.out.1 k_ (hs_).symm)) (fun hn_ => (.inr (Nat.le_trans Z131 hn_)))))
 have n4_ := Aside0.mk (Kept.then_ (S := (fun k_ => P1_ k_)) Z23 hkp (fun k_ hs_ => (fun e_ => (HO666.out.1 k_ e_.symm)) hs_))
 have n5_ := Aside0.mk (hb)
 clear HO_655004; clear BK653; clear BK654; clear HK; clear HB; clear HO666; clear HL667_3; clear HL667_4
 have HO_655004 := n0_
 have BK653 := n1_
 have BK654 := n2_
 have HO670 := n3_
 have HK := n4_
 have HB := n5_
 clear n0_ n1_ n2_ n3_ n4_ n5_
 (try clear hb)
 (try clear hkp)
 (try clear ho0)
 refine hK.out _ _ ⟨(blk_cell BK653.out 0).trans rfl, (blk_cell BK653.out 1).trans rfl, (blk_cell BK653.out 2).trans rfl, (blk_cell BK654.out 0).trans rfl, (blk_cell BK654.out 1).trans rfl, (blk_cell BK654.out 2).trans rfl, (blk_cell BK654.out 3).trans rfl, (blk_cell BK654.out 4).trans rfl, HS8_, HS9_, HS10_, HS11_, HS12_⟩ (fun hHeld => ?_)
 clear hK K
 refine norm_ (a' := ?_) ?_ ?_
 rotate_left
 ·
  show Act.put _ (some 53) _ = _
  simp only [Act.put, List.setIfInBounds_toArray, List.set_cons_zero, List.set_cons_succ, i64_w, i32_w]
  rfl
 refine pure_ (i := 11) (N := some 1) (v := ?_) (a' := ?_) #[true, true, true, true, true, true, true, true, true, true, true, true] rfl rfl (any_of HT_.out Z1) (fun _ _ _ h => h) (Or.inl ⟨Z3, ?_⟩) ?_ ?_
 rotate_left
 ·
  intro w'
  go_simp
  with_reducible rfl
 rotate_left
 ·
  simp only [Act.put, List.setIfInBounds_toArray, List.set_cons_zero, List.set_cons_succ, i64_w, i32_w]
  rfl
 refine done_ (done_of HT_.out Z1) ?_
 try go_wp2
 go_roundg k1
 case measure => have := HK1.out; omega
 case rel => exact ⟨(t668), (((a4 ++ a0_1).size : Int)), (wrap64 (x27_1 + 1)), Z8, Z8, H', ⟨Z27⟩, ⟨pR HO670.out⟩, ⟨Z114⟩, ⟨pB BK653.out⟩, ⟨pB BK654.out⟩, ⟨Z23⟩, ⟨Z24⟩⟩

end Go.Proofs.Ytffdebhaclkhjaa.PFnPrWholeDefault
