-- Written by a program of the session (wip/tools) out of the translation. Not trusted: Lean checks it.
import Derived.Test.YtffdebhaclkhjaaSq
import Derived.Test.YtffdebhaclkhjaaSx0
import Derived.Test.YtffdebhaclkhjaaSx4
import Derived.Test.YtffdebhaclkhjaaSx11
import Derived.Test.YtffdebhaclkhjaaSx13
import Derived.Test.YtffdebhaclkhjaaSx14
import Derived.Test.YtffdebhaclkhjaaSx15
namespace Go.Proofs.Ytffdebhaclkhjaa.PFnPrWholeDefault
open Go.RowKit Go.Proofs.YtffdebhaclkhjaaW.PrintWords Go.Proofs.YtffdebhaclkhjaaW.PrintLast Go.Proofs.YtffdebhaclkhjaaW.PrintMore
attribute [local go_sem] max2_int min2_int max_two min_two max_three min_three max_four min_four   -- for this text's walks alone
set_option linter.unusedVariables false
set_option linter.unusedSimpArgs false

/-! ### the ring closed -/
theorem spec_Layout_value.ring (k : Nat) : (∀ (a0_0 : ByteArray) (a0_1 : ByteArray) (a0_2 : Int) (P1_ : Nat → Prop) (u9000_ : Value) (l1 : List Int) (a2 : ByteArray) (a3_0 : Int) (a3_1 : Int) (a3_2 : Int) (A3_3 : Option Addr) (c3_3 : Nat) (l3_3 : List (S55)) (P3_4_ : Nat → Prop) (A3_4 : Option Addr) (c3_4 : Nat) (l3_4 : List (S28)) (a4 : ByteArray) (r : List Int) (w0 w : World) (hB : Below w0.heap.size w0 w) (ho1 : Kd.R (Kd.int .u8) 5 w w0.heap.size P1_ u9000_ l1) (hr3_3 : ∀ W_, Kept w W_ (fun k_ => P1_ k_) → Kd.C k55 W_ A3_3 l3_3.length l3_3) (hc3_3 : l3_3.length ≤ c3_3) (hs3_4 : Kd.V k28 28 w w0.heap.size (fun k_ => P3_4_ k_ ∧ some k_ ≠ (u9000_ : Value).ownBlock) (.slice A3_4 l3_4.length c3_4) l3_4) (h : spec_Layout_elements.f k a0_0 a0_1 a0_2 l1 a2 a3_0 a3_1 a3_2 l3_3 l3_4 a4 = some r),
  Calls Try.prog 23 #[.agg #[.string a0_0, .string a0_1, .int .i64 a0_2], u9000_, .string a2, .agg #[.int .i64 a3_0, .int .i64 a3_1, .int .i64 a3_2, .slice A3_3 l3_3.length c3_3, .slice A3_4 l3_4.length c3_4], .string a4] w fun e w' => ∃ v0_ : Value, e = .returned (v0_) ∧ Kd.R (Kd.int .u8) 5 w' w0.heap.size (fun k_ => (P1_ k_ ∨ w.heap.size ≤ k_)) v0_ r ∧ Below w0.heap.size w0 w' ∧ Kept w w' (fun k_ => P1_ k_)) ∧
 (∀ (a0_0 : ByteArray) (a0_1 : ByteArray) (a0_2 : Int) (P1_ : Nat → Prop) (u9000_ : Value) (l1 : List Int) (a2 : ByteArray) (a3_0 : Int) (a3_1 : Int) (a3_2 : Int) (A3_3 : Option Addr) (c3_3 : Nat) (l3_3 : List (S55)) (P3_4_ : Nat → Prop) (A3_4 : Option Addr) (c3_4 : Nat) (l3_4 : List (S28)) (a4 : ByteArray) (a5 : Int) (r : List Int) (w0 w : World) (hB : Below w0.heap.size w0 w) (ho1 : Kd.R (Kd.int .u8) 5 w w0.heap.size P1_ u9000_ l1) (hr3_3 : ∀ W_, Kept w W_ (fun k_ => P1_ k_) → Kd.C k55 W_ A3_3 l3_3.length l3_3) (hc3_3 : l3_3.length ≤ c3_3) (hs3_4 : Kd.V k28 28 w w0.heap.size (fun k_ => P3_4_ k_ ∧ some k_ ≠ (u9000_ : Value).ownBlock) (.slice A3_4 l3_4.length c3_4) l3_4) (h : spec_Layout_value.f k a0_0 a0_1 a0_2 l1 a2 a3_0 a3_1 a3_2 l3_3 l3_4 a4 a5 = some r),
  Calls Try.prog 16 #[.agg #[.string a0_0, .string a0_1, .int .i64 a0_2], u9000_, .string a2, .agg #[.int .i64 a3_0, .int .i64 a3_1, .int .i64 a3_2, .slice A3_3 l3_3.length c3_3, .slice A3_4 l3_4.length c3_4], .string a4, .int .i64 a5] w fun e w' => ∃ v0_ : Value, e = .returned (v0_) ∧ Kd.R (Kd.int .u8) 5 w' w0.heap.size (fun k_ => (P1_ k_ ∨ w.heap.size ≤ k_)) v0_ r ∧ Below w0.heap.size w0 w' ∧ Kept w w' (fun k_ => P1_ k_)) := by
 induction k using Nat.strongRecOn with
 | _ k ih =>
 exact ⟨spec_Layout_elements.step k (fun j_ hj_ => (ih j_ hj_).1) (fun j_ hj_ => (ih j_ hj_).2), spec_Layout_value.step k (fun j_ hj_ => (ih j_ hj_).1) (fun j_ hj_ => (ih j_ hj_).2)⟩
theorem spec_Layout_elements.calls (k : Nat) : ∀ (a0_0 : ByteArray) (a0_1 : ByteArray) (a0_2 : Int) (P1_ : Nat → Prop) (u9000_ : Value) (l1 : List Int) (a2 : ByteArray) (a3_0 : Int) (a3_1 : Int) (a3_2 : Int) (A3_3 : Option Addr) (c3_3 : Nat) (l3_3 : List (S55)) (P3_4_ : Nat → Prop) (A3_4 : Option Addr) (c3_4 : Nat) (l3_4 : List (S28)) (a4 : ByteArray) (r : List Int) (w0 w : World) (hB : Below w0.heap.size w0 w) (ho1 : Kd.R (Kd.int .u8) 5 w w0.heap.size P1_ u9000_ l1) (hr3_3 : ∀ W_, Kept w W_ (fun k_ => P1_ k_) → Kd.C k55 W_ A3_3 l3_3.length l3_3) (hc3_3 : l3_3.length ≤ c3_3) (hs3_4 : Kd.V k28 28 w w0.heap.size (fun k_ => P3_4_ k_ ∧ some k_ ≠ (u9000_ : Value).ownBlock) (.slice A3_4 l3_4.length c3_4) l3_4) (h : spec_Layout_elements.f k a0_0 a0_1 a0_2 l1 a2 a3_0 a3_1 a3_2 l3_3 l3_4 a4 = some r),
  Calls Try.prog 23 #[.agg #[.string a0_0, .string a0_1, .int .i64 a0_2], u9000_, .string a2, .agg #[.int .i64 a3_0, .int .i64 a3_1, .int .i64 a3_2, .slice A3_3 l3_3.length c3_3, .slice A3_4 l3_4.length c3_4], .string a4] w fun e w' => ∃ v0_ : Value, e = .returned (v0_) ∧ Kd.R (Kd.int .u8) 5 w' w0.heap.size (fun k_ => (P1_ k_ ∨ w.heap.size ≤ k_)) v0_ r ∧ Below w0.heap.size w0 w' ∧ Kept w w' (fun k_ => P1_ k_) := (spec_Layout_value.ring k).1
theorem spec_Layout_value.calls (k : Nat) : ∀ (a0_0 : ByteArray) (a0_1 : ByteArray) (a0_2 : Int) (P1_ : Nat → Prop) (u9000_ : Value) (l1 : List Int) (a2 : ByteArray) (a3_0 : Int) (a3_1 : Int) (a3_2 : Int) (A3_3 : Option Addr) (c3_3 : Nat) (l3_3 : List (S55)) (P3_4_ : Nat → Prop) (A3_4 : Option Addr) (c3_4 : Nat) (l3_4 : List (S28)) (a4 : ByteArray) (a5 : Int) (r : List Int) (w0 w : World) (hB : Below w0.heap.size w0 w) (ho1 : Kd.R (Kd.int .u8) 5 w w0.heap.size P1_ u9000_ l1) (hr3_3 : ∀ W_, Kept w W_ (fun k_ => P1_ k_) → Kd.C k55 W_ A3_3 l3_3.length l3_3) (hc3_3 : l3_3.length ≤ c3_3) (hs3_4 : Kd.V k28 28 w w0.heap.size (fun k_ => P3_4_ k_ ∧ some k_ ≠ (u9000_ : Value).ownBlock) (.slice A3_4 l3_4.length c3_4) l3_4) (h : spec_Layout_value.f k a0_0 a0_1 a0_2 l1 a2 a3_0 a3_1 a3_2 l3_3 l3_4 a4 a5 = some r),
  Calls Try.prog 16 #[.agg #[.string a0_0, .string a0_1, .int .i64 a0_2], u9000_, .string a2, .agg #[.int .i64 a3_0, .int .i64 a3_1, .int .i64 a3_2, .slice A3_3 l3_3.length c3_3, .slice A3_4 l3_4.length c3_4], .string a4, .int .i64 a5] w fun e w' => ∃ v0_ : Value, e = .returned (v0_) ∧ Kd.R (Kd.int .u8) 5 w' w0.heap.size (fun k_ => (P1_ k_ ∨ w.heap.size ≤ k_)) v0_ r ∧ Below w0.heap.size w0 w' ∧ Kept w w' (fun k_ => P1_ k_) := (spec_Layout_value.ring k).2

/-! ### spec_Layout_Laid: function 11 -/
def spec_Layout_Laid.f (k : Nat) (a0_0 : ByteArray) (a0_1 : ByteArray) (a0_2 : Int) (a1 : ByteArray) (a2_0 : Int) (a2_1 : Int) (a2_2 : Int) (l2_3 : List (S55)) (l2_4 : List (S28)) : Option (ByteArray) := (spec_Layout_value.f k a0_0 a0_1 a0_2 ([] : List Int) a1 a2_0 a2_1 a2_2 l2_3 l2_4 a0_0 (a0_0.size : Int)).bind fun t764 => (if a0_0.size + (strOfNums t764).size ≤ 9223372036854775807 then (if (a0_0 ++ (strOfNums t764)).size + 1 ≤ 9223372036854775807 then (some ((a0_0 ++ (strOfNums t764)) ++ (⟨#[10]⟩ : ByteArray))) else (none)) else (none))
theorem spec_Layout_Laid.mono : ∀ a0 a1 a2 a3 a4 a5 a6 a7 a8 k, LeO (spec_Layout_Laid.f k a0 a1 a2 a3 a4 a5 a6 a7 a8) (spec_Layout_Laid.f (k + 1) a0 a1 a2 a3 a4 a5 a6 a7 a8) := by
 intro a0 a1 a2 a3 a4 a5 a6 a7 a8 k
 unfold spec_Layout_Laid.f
 repeat' first
   | (with_reducible exact spec_Layout_value.mono _ _ _ _ _ _ _ _ _ _ _ _ _)
   | (with_reducible exact LeO.refl _)
   | (with_reducible exact LeO.none _)
   | (with_reducible refine LeO.ite ?_ ?_)
   | (with_reducible refine LeO.bind ?_ (fun _ => ?_))
   | exact spec_Layout_value.mono _ _ _ _ _ _ _ _ _ _ _ _ _
   | exact LeO.none _
   | refine LeO.ite ?_ ?_
   | refine LeO.bind ?_ (fun _ => ?_)
def spec_Layout_Laid.T1 : Bool × List (List Nat × List Nat) := (true, [([], []), ([0], [0]), ([], []), ([], []), ([], []), ([], []), ([5], [5]), ([], []), ([7], [7]), ([8], [8]), ([2, 3, 4, 6, 9], [2, 3, 4, 6, 9]), ([10], [10]), ([1, 11], [1, 11]), ([12], [12]), ([13, 10, 0, 1, 2, 3, 4, 5, 6, 7, 8, 9, 10, 11, 12, 13], [13])])
def spec_Layout_Laid.B1 : List Nat := [0, 1, 0, 0, 0, 0, 32, 0, 128, 384, 1020, 2044, 4095, 8191, 16383]
theorem spec_Layout_Laid.tab1 : rtab .any (opsOf Try.f11 1) = spec_Layout_Laid.T1 := Z1
theorem spec_Layout_Laid.bits1 : waitsOk spec_Layout_Laid.T1.2 spec_Layout_Laid.B1 = true := Z1
set_option maxHeartbeats 8000000 in
set_option maxRecDepth 100000 in
theorem spec_Layout_Laid.calls (k : Nat) (a0_0 : ByteArray) (a0_1 : ByteArray) (a0_2 : Int) (a1 : ByteArray) (a2_0 : Int) (a2_1 : Int) (a2_2 : Int) (A2_3 : Option Addr) (c2_3 : Nat) (l2_3 : List (S55)) (A2_4 : Option Addr) (c2_4 : Nat) (l2_4 : List (S28)) (r : ByteArray) (w : World) (hr2_3 : Kd.C k55 w A2_3 l2_3.length l2_3) (hc2_3 : l2_3.length ≤ c2_3) (hr2_4 : Kd.C k28 w A2_4 l2_4.length l2_4) (hc2_4 : l2_4.length ≤ c2_4) (h : spec_Layout_Laid.f k a0_0 a0_1 a0_2 a1 a2_0 a2_1 a2_2 l2_3 l2_4 = some r) :
  Calls Try.prog 11 #[.agg #[.string a0_0, .string a0_1, .int .i64 a0_2], .string a1, .agg #[.int .i64 a2_0, .int .i64 a2_1, .int .i64 a2_2, .slice A2_3 l2_3.length c2_3, .slice A2_4 l2_4.length c2_4]] w fun e w' => e = .returned (.string r) ∧ Below w.heap.size w w' := by
 have hu36 := Try.underlying36
 have hu28 := Try.underlying28
 have HR2_3 := Aside0.mk hr2_3
 have HC2_3 := Aside0.mk hc2_3
 clear hr2_3 hc2_3
 have HR2_4 := Aside0.mk hr2_4
 have HC2_4 := Aside0.mk hc2_4
 clear hr2_4 hc2_4
 have HB := Aside0.mk (Below.refl w.heap.size w)
 have H : ((spec_Layout_value.f k a0_0 a0_1 a0_2 ([] : List Int) a1 a2_0 a2_1 a2_2 l2_3 l2_4 a0_0 (a0_0.size : Int)).bind fun t764 => (if a0_0.size + (strOfNums t764).size ≤ 9223372036854775807 then (if (a0_0 ++ (strOfNums t764)).size + 1 ≤ 9223372036854775807 then (some ((a0_0 ++ (strOfNums t764)) ++ (⟨#[10]⟩ : ByteArray))) else (none)) else (none))) = some r := h
 clear h
 replace H := Option.bind_eq_some_iff.mp H
 obtain ⟨t764, A40, H⟩ := H
 have A4 := Aside0.mk A40
 clear A40
 by_cases c5 : a0_0.size + (strOfNums t764).size ≤ 9223372036854775807
 rotate_left
 ·
  rw [if_neg c5] at H
  exact absurd H Z4
 rw [if_pos c5] at H
 have c5b0 := eq_true c5
 have c5b1 := decide_eq_true c5
 try have c5b2 : (9223372036854775807 < a0_0.size + (strOfNums t764).size) = False := eq_false (Nat.not_lt.2 c5)
 by_cases c6 : (a0_0 ++ (strOfNums t764)).size + 1 ≤ 9223372036854775807
 rotate_left
 ·
  rw [if_neg c6] at H
  exact absurd H Z4
 rw [if_pos c6] at H
 have c6b0 := eq_true c6
 have c6b1 := decide_eq_true c6
 try have c6b2 : (9223372036854775807 < (a0_0 ++ (strOfNums t764)).size + 1) = False := eq_false (Nat.not_lt.2 c6)
 have c6b3 : (9223372036854775807 < a0_0.size + (strOfNums t764).size + 1) = False := by rw [← ByteArray.size_append]; exact c6b2
 obtain rfl := Option.some.inj H
 go_enter Try.func11, Try.ntmps11
 try go_wp2_with (first | ((with_reducible refine gate_dst (N := 3) rfl ?_); refine box_event ?hg (N := 3) ?hd (cs := #[.string a0_0, .string a0_1, .int .i64 a0_2]) (t := 36) ?hr ?_; (case hd => exact Z3); (case hg => exact Z3); (case hr => exact Z19); intro gb762 hg w7 hbox hb; have n0_ := Aside0.mk (below_step Z6 hb); have n1_ := Aside0.mk (hbox); have n2_ := Aside0.mk ((Z121 : w.heap.size ≤ gb762)); have n3_ := Aside0.mk ((Z121 : w.heap.size ≤ gb762)); clear HB; have HB := n0_; have BK762 := n1_; have GW762 := n2_; have GE762 := n3_; clear n0_ n1_ n2_ n3_; clear hb hbox hg) | ((with_reducible refine gate_dst (N := 5) rfl ?_); refine box_event ?hg (N := 5) ?hd (cs := #[.int .i64 a2_0, .int .i64 a2_1, .int .i64 a2_2, .slice A2_3 l2_3.length c2_3, .slice A2_4 l2_4.length c2_4]) (t := 28) ?hr ?_; (case hd => exact Z3); (case hg => exact Z3); (case hr => exact Z19); intro gb763 hg w8 hbox hb; have n0_ := Aside0.mk (blk_below (g := gb762) (o := .cells #[.string a0_0, .string a0_1, .int .i64 a0_2] 36 (0, 0)) (pB BK762.out) hb); have n1_ := Aside0.mk (below_step Z89 hb); have n2_ := Aside0.mk (hbox); have n3_ := Aside0.mk ((by rw [hg]; exact (below_size Z89) : w.heap.size ≤ gb763)); have n4_ := Aside0.mk ((by rw [hg]; exact (below_size Z89) : w.heap.size ≤ gb763)); have n5_ := Aside0.mk ((by rw [hg]; exact Nat.ne_of_lt (blk_lt (g := gb762) (o := .cells #[.string a0_0, .string a0_1, .int .i64 a0_2] 36 (0, 0)) (pB BK762.out)) : gb762 ≠ gb763)); have n6_ := Aside0.mk ((by rw [hg]; exact Nat.ne_of_gt (blk_lt (g := gb762) (o := .cells #[.string a0_0, .string a0_1, .int .i64 a0_2] 36 (0, 0)) (pB BK762.out)) : gb763 ≠ gb762)); clear BK762; clear HB; have BK762 := n0_; have HB := n1_; have BK763 := n2_; have GW763 := n3_; have GE763 := n4_; have NB762_763 := n5_; have NB763_762 := n6_; clear n0_ n1_ n2_ n3_ n4_ n5_ n6_; clear hb hbox hg))
 have n0_ := Aside0.mk (blk_drew BK762.out)
 have n1_ := Aside0.mk (blk_drew BK763.out)
 have n2_ := Aside0.mk (below_drew1 HB.out)
 clear BK762; clear BK763; clear HB
 have BK762 := n0_
 have BK763 := n1_
 have HB := n2_
 clear n0_ n1_ n2_
 refine start_ (n := 15) (S := fun w' => w'.cell? ⟨gb762, 0, none⟩ = some (.string a0_0) ∧ w'.cell? ⟨gb762, 1, none⟩ = some (.string a0_1) ∧ w'.cell? ⟨gb762, 2, none⟩ = some (.int .i64 a0_2) ∧ w'.cell? ⟨gb763, 0, none⟩ = some (.int .i64 a2_0) ∧ w'.cell? ⟨gb763, 1, none⟩ = some (.int .i64 a2_1) ∧ w'.cell? ⟨gb763, 2, none⟩ = some (.int .i64 a2_2) ∧ w'.cell? ⟨gb763, 3, none⟩ = some (.slice A2_3 l2_3.length c2_3) ∧ w'.cell? ⟨gb763, 4, none⟩ = some (.slice A2_4 l2_4.length c2_4)) (ds := []) #[false, false, false, false, false, false, false, false, false, false, false, false, false, false, false] Z1 rfl rfl ⟨(blk_cell BK762.out 0).trans rfl, (blk_cell BK762.out 1).trans rfl, (blk_cell BK762.out 2).trans rfl, (blk_cell BK763.out 0).trans rfl, (blk_cell BK763.out 1).trans rfl, (blk_cell BK763.out 2).trans rfl, (blk_cell BK763.out 3).trans rfl, (blk_cell BK763.out 4).trans rfl⟩ (fun hHeld => ?_); refine with_tabW spec_Layout_Laid.tab1 spec_Layout_Laid.bits1 (fun HT_ HW_ => ?_)
 generalize w8.drew = w9 at BK762 BK763 HB hHeld ⊢
 refine pure_ (i := 0) (N := some 7) (v := ?_) (a' := ?_) #[true, false, false, false, false, false, false, false, false, false, false, false, false, false, false] rfl rfl (any_of HT_.out Z1) (fun _ _ _ h => h) (Or.inl ⟨Z3, ?_⟩) ?_ ?_
 rotate_left
 ·
  intro w'
  go_simp
  with_reducible rfl
 rotate_left
 ·
  simp only [Act.put, List.setIfInBounds_toArray, List.set_cons_zero, List.set_cons_succ, i64_w, i32_w]
  rfl
 refine pure_ (i := 3) (N := some 10) (v := ?_) (a' := ?_) #[true, false, false, true, false, false, false, false, false, false, false, false, false, false, false] rfl rfl (any_of HT_.out Z1) (fun _ _ _ h => h) (Or.inl ⟨Z3, ?_⟩) ?_ ?_
 rotate_left
 ·
  intro w'
  go_simp
  with_reducible rfl
 rotate_left
 ·
  simp only [Act.put, List.setIfInBounds_toArray, List.set_cons_zero, List.set_cons_succ, i64_w, i32_w]
  rfl
 refine pure_ (i := 5) (N := some 12) (v := ?_) (a' := ?_) #[true, false, false, true, false, true, false, false, false, false, false, false, false, false, false] rfl rfl (any_of HT_.out Z1) (fun _ _ _ h => h) (Or.inl ⟨Z3, ?_⟩) ?_ ?_
 rotate_left
 ·
  intro w'
  go_simp
  with_reducible rfl
 rotate_left
 ·
  simp only [Act.put, List.setIfInBounds_toArray, List.set_cons_zero, List.set_cons_succ, i64_w, i32_w]
  rfl
 refine pure_ (i := 7) (N := some 14) (v := ?_) (a' := ?_) #[true, false, false, true, false, true, false, true, false, false, false, false, false, false, false] rfl rfl (any_of HT_.out Z1) (fun _ _ _ h => h) (Or.inl ⟨Z3, ?_⟩) ?_ ?_
 rotate_left
 ·
  intro w'
  go_simp
  with_reducible rfl
 rotate_left
 ·
  simp only [Act.put, List.setIfInBounds_toArray, List.set_cons_zero, List.set_cons_succ, i64_w, i32_w]
  rfl
 refine take_ (i := 1) (N := some 8) (v := ?_) (a' := ?_) #[true, true, false, true, false, true, false, true, false, false, false, false, false, false, false] rfl rfl (take_ofW HT_.out HW_.out Z1) (fun _ _ _ h => h) (Or.inl ⟨Z3, ?_⟩) hHeld ?_ ?_
 rotate_left
 ·
  rintro w' ⟨s0, s1, s2, s3, s4, s5, s6, s7⟩
  go_simp
  with_reducible rfl
 rotate_left
 ·
  simp only [Act.put, List.setIfInBounds_toArray, List.set_cons_zero, List.set_cons_succ, i64_w, i32_w]
  rfl
 refine take_ (i := 2) (N := some 9) (v := ?_) (a' := ?_) #[true, true, true, true, false, true, false, true, false, false, false, false, false, false, false] rfl rfl (take_ofW HT_.out HW_.out Z1) (fun _ _ _ h => h) (Or.inl ⟨Z3, ?_⟩) hHeld ?_ ?_
 rotate_left
 ·
  rintro w' ⟨s0, s1, s2, s3, s4, s5, s6, s7⟩
  go_simp
  with_reducible rfl
 rotate_left
 ·
  simp only [Act.put, List.setIfInBounds_toArray, List.set_cons_zero, List.set_cons_succ, i64_w, i32_w]
  rfl
 refine take_ (i := 4) (N := some 11) (v := ?_) (a' := ?_) #[true, true, true, true, true, true, false, true, false, false, false, false, false, false, false] rfl rfl (take_ofW HT_.out HW_.out Z1) (fun _ _ _ h => h) (Or.inl ⟨Z3, ?_⟩) hHeld ?_ ?_
 rotate_left
 ·
  rintro w' ⟨s0, s1, s2, s3, s4, s5, s6, s7⟩
  go_simp
  with_reducible rfl
 rotate_left
 ·
  simp only [Act.put, List.setIfInBounds_toArray, List.set_cons_zero, List.set_cons_succ, i64_w, i32_w]
  rfl
 refine take_ (i := 6) (N := some 13) (v := ?_) (a' := ?_) #[true, true, true, true, true, true, true, true, false, false, false, false, false, false, false] rfl rfl (take_ofW HT_.out HW_.out Z1) (fun _ _ _ h => h) (Or.inl ⟨Z3, ?_⟩) hHeld ?_ ?_
 rotate_left
 ·
  rintro w' ⟨s0, s1, s2, s3, s4, s5, s6, s7⟩
  go_simp
  with_reducible rfl
 rotate_left
 ·
  simp only [Act.put, List.setIfInBounds_toArray, List.set_cons_zero, List.set_cons_succ, i64_w, i32_w]
  rfl
 refine take_ (i := 8) (N := some 15) (v := ?_) (a' := ?_) #[true, true, true, true, true, true, true, true, true, false, false, false, false, false, false] rfl rfl (take_ofW HT_.out HW_.out Z1) (fun _ _ _ h => h) (Or.inl ⟨Z3, ?_⟩) hHeld ?_ ?_
 rotate_left
 ·
  rintro w' ⟨s0, s1, s2, s3, s4, s5, s6, s7⟩
  go_simp
  with_reducible rfl
 rotate_left
 ·
  simp only [Act.put, List.setIfInBounds_toArray, List.set_cons_zero, List.set_cons_succ, i64_w, i32_w]
  rfl
 refine pure_ (i := 9) (N := some 16) (v := ?_) (a' := ?_) #[true, true, true, true, true, true, true, true, true, true, false, false, false, false, false] rfl rfl (any_of HT_.out Z1) (fun _ _ _ h => h) (Or.inl ⟨Z3, ?_⟩) ?_ ?_
 rotate_left
 ·
  intro w'
  go_simp
  with_reducible rfl
 rotate_left
 ·
  simp only [Act.put, List.setIfInBounds_toArray, List.set_cons_zero, List.set_cons_succ, i64_w, i32_w]
  rfl
 refine one_ (i := 10) (N := some 17) #[true, true, true, true, true, true, true, true, true, true, true, false, false, false, false] rfl rfl (one_of HT_.out Z1) Z2 (fun K hK => ?_)
 refine goes_ Try.func16 Z1 rfl #[.agg #[.string a0_0, .string a0_1, .int .i64 a0_2], .slice none 0 0, .string a1, .agg #[.int .i64 a2_0, .int .i64 a2_1, .int .i64 a2_2, .slice A2_3 l2_3.length c2_3, .slice A2_4 l2_4.length c2_4], .string a0_0, .int .i64 (a0_0.size : Int)] Z3 rfl rfl Z13 ?_
 refine (spec_Layout_value.calls k a0_0 a0_1 a0_2 (fun k_ => some k_ = (.slice none 0 0 : Value).ownBlock) (.slice none 0 0) ([] : List Int) a1 a2_0 a2_1 a2_2 _ _ l2_3 (fun k_ => k_ < w.heap.size) _ _ l2_4 a0_0 (a0_0.size : Int) t764 w _ ?side1 ?side2 ?side3 ?side4 ?side5 A4.out).mono ?_
 (case side1 => exact Z77)
 (case side2 => exact Kd.R_nil _ _ _ _ _)
 (case side3 => exact Kd.C_kept_came k55_heap HR2_3.out Z77 (fun k_ hs_ => (fun e_ => Z41) hs_))
 (case side4 => exact HC2_3.out)
 (case side5 => exact Kd.V_mono (Kd.V_mk HC2_4.out (Kd.F_below (Kd.C_F k28_heap HR2_4.out) Z77)) (fun k_ hk_ => ⟨hk_, Z56⟩))
 rintro e w10 ⟨v765, rfl, ho0, hb, hkp⟩
 refine ⟨_, rfl, ?_⟩
 have n0_ := Aside0.mk (blk_kept (pB BK762.out) hkp (fun hs_ => (fun e_ => Z41) hs_))
 have n1_ := Aside0.mk (blk_kept (pB BK763.out) hkp (fun hs_ => (fun e_ => Z41) hs_))
 have n2_ := Aside0.mk (Kd.R_mono (ok' := fun k_ => True) ho0 (fun k_ hk_ => trivial))
 have n3_ := Aside0.mk (hb)
 clear BK762; clear BK763; clear HB
 have BK762 := n0_
 have BK763 := n1_
 have HO766 := n2_
 have HB := n3_
 clear n0_ n1_ n2_ n3_
 (try clear hb)
 (try clear hkp)
 (try clear ho0)
 refine hK.out _ _ ⟨(blk_cell BK762.out 0).trans rfl, (blk_cell BK762.out 1).trans rfl, (blk_cell BK762.out 2).trans rfl, (blk_cell BK763.out 0).trans rfl, (blk_cell BK763.out 1).trans rfl, (blk_cell BK763.out 2).trans rfl, (blk_cell BK763.out 3).trans rfl, (blk_cell BK763.out 4).trans rfl⟩ (fun hHeld => ?_)
 clear hK K
 refine norm_ (a' := ?_) ?_ ?_
 rotate_left
 ·
  show Act.put _ (some 17) _ = _
  simp only [Act.put, List.setIfInBounds_toArray, List.set_cons_zero, List.set_cons_succ, i64_w, i32_w]
  rfl
 refine one_ (i := 11) (N := some 18) #[true, true, true, true, true, true, true, true, true, true, true, true, false, false, false] rfl rfl (one_of HT_.out Z1) Z2 (fun K hK => ?_)
 have hcv11 := own_string (P := Try.prog) Try.underlying40 Try.underlying5 Try.underlying9 (Kd.own_of_R HO766.out)
 refine value_ (w1 := ?_) (v := ?_) Z3 rfl ?_ ?_
 rotate_left 2
 ·
  go_simp
  constructor
  ·
   rfl
  rfl
 clear hcv11
 refine hK.out _ _ ⟨(blk_cell BK762.out 0).trans rfl, (blk_cell BK762.out 1).trans rfl, (blk_cell BK762.out 2).trans rfl, (blk_cell BK763.out 0).trans rfl, (blk_cell BK763.out 1).trans rfl, (blk_cell BK763.out 2).trans rfl, (blk_cell BK763.out 3).trans rfl, (blk_cell BK763.out 4).trans rfl⟩ (fun hHeld => ?_)
 clear hK K
 refine norm_ (a' := ?_) ?_ ?_
 rotate_left
 ·
  show Act.put _ (some 18) _ = _
  simp only [Act.put, List.setIfInBounds_toArray, List.set_cons_zero, List.set_cons_succ, i64_w, i32_w]
  rfl
 refine pure_ (i := 12) (N := some 19) (v := ?_) (a' := ?_) #[true, true, true, true, true, true, true, true, true, true, true, true, true, false, false] rfl rfl (any_of HT_.out Z1) (fun _ _ _ h => h) (Or.inl ⟨Z3, ?_⟩) ?_ ?_
 rotate_left
 ·
  intro w'
  go_simp
  with_reducible rfl
 rotate_left
 ·
  simp only [Act.put, List.setIfInBounds_toArray, List.set_cons_zero, List.set_cons_succ, i64_w, i32_w]
  rfl
 refine pure_ (i := 13) (N := some 20) (v := ?_) (a' := ?_) #[true, true, true, true, true, true, true, true, true, true, true, true, true, true, false] rfl rfl (any_of HT_.out Z1) (fun _ _ _ h => h) (Or.inl ⟨Z3, ?_⟩) ?_ ?_
 rotate_left
 ·
  intro w'
  go_simp
  with_reducible rfl
 rotate_left
 ·
  simp only [Act.put, List.setIfInBounds_toArray, List.set_cons_zero, List.set_cons_succ, i64_w, i32_w]
  rfl
 refine pure_ (i := 14) (N := some 6) (v := ?_) (a' := ?_) #[true, true, true, true, true, true, true, true, true, true, true, true, true, true, true] rfl rfl (any_of HT_.out Z1) (fun _ _ _ h => h) (Or.inl ⟨Z3, ?_⟩) ?_ ?_
 rotate_left
 ·
  intro w'
  go_simp
  with_reducible rfl
 rotate_left
 ·
  simp only [Act.put, List.setIfInBounds_toArray, List.set_cons_zero, List.set_cons_succ, i64_w, i32_w]
  rfl
 refine done_ (done_of HT_.out Z1) ?_
 try go_wp2
 go_ret
 exact ⟨Z12, Z77⟩

/-! ### laws_FnPrWholeDefault: function 4 -/
def laws_FnPrWholeDefault.f (k : Nat) (a0 : ByteArray) : Option (Bool) := if (a0.size : Int) > 2147483647 then (some true) else ((laws_prPlaces.f k a0).bind fun bt767 => (if bt767.2.2.2.2.2 = true then ((impl_PrDefault.f k a0).bind fun t778 => ((spec_Layout_Laid.f k (⟨#[]⟩ : ByteArray) (⟨#[32, 32]⟩ : ByteArray) 80 a0 bt767.1 bt767.2.1 bt767.2.2.1 bt767.2.2.2.1 bt767.2.2.2.2.1).bind fun t779 => (some (t778.toList == t779.toList)))) else (some true)))
theorem laws_FnPrWholeDefault.mono : ∀ a0 k, LeO (laws_FnPrWholeDefault.f k a0) (laws_FnPrWholeDefault.f (k + 1) a0) := by
 intro a0 k
 unfold laws_FnPrWholeDefault.f
 repeat' first
   | (with_reducible exact impl_PrDefault.mono _ _)
   | (with_reducible exact laws_prPlaces.mono _ _)
   | (with_reducible exact spec_Layout_Laid.mono _ _ _ _ _ _ _ _ _ _)
   | (with_reducible exact LeO.refl _)
   | (with_reducible exact LeO.none _)
   | (with_reducible refine LeO.ite ?_ ?_)
   | (with_reducible refine LeO.bind ?_ (fun _ => ?_))
   | exact impl_PrDefault.mono _ _
   | exact laws_prPlaces.mono _ _
   | exact spec_Layout_Laid.mono _ _ _ _ _ _ _ _ _ _
   | exact LeO.none _
   | refine LeO.ite ?_ ?_
   | refine LeO.bind ?_ (fun _ => ?_)
def laws_FnPrWholeDefault.T4 : Bool × List (List Nat × List Nat) := (true, [([], []), ([0], [0]), ([1], [1]), ([2], [2]), ([3, 2, 2], [2, 3]), ([2], [2]), ([2], [2]), ([2], [2]), ([5, 6, 7, 4, 2], [2, 5, 6, 7]), ([4, 8, 2], [2, 4, 8]), ([2, 9], [2, 9]), ([10, 8, 0, 1, 2, 3, 4, 5, 6, 7, 8, 9, 10], [10])])
def laws_FnPrWholeDefault.B4 : List Nat := [0, 1, 3, 7, 15, 7, 7, 7, 255, 511, 1023, 2047]
theorem laws_FnPrWholeDefault.tab4 : rtab .any (opsOf Try.f4 4) = laws_FnPrWholeDefault.T4 := Z1
theorem laws_FnPrWholeDefault.bits4 : waitsOk laws_FnPrWholeDefault.T4.2 laws_FnPrWholeDefault.B4 = true := Z1
set_option maxHeartbeats 8000000 in
set_option maxRecDepth 100000 in
theorem laws_FnPrWholeDefault.calls (k : Nat) (a0 : ByteArray) (r : Bool) (w : World) (h : laws_FnPrWholeDefault.f k a0 = some r) :
  Calls Try.prog 4 #[.string a0] w fun e w' => e = .returned (.bool r) ∧ Below w.heap.size w w' := by
 have hu28 := Try.underlying28
 have hu36 := Try.underlying36
 have HB := Aside0.mk (Below.refl w.heap.size w)
 have H : (if (a0.size : Int) > 2147483647 then (some true) else ((laws_prPlaces.f k a0).bind fun bt767 => (if bt767.2.2.2.2.2 = true then ((impl_PrDefault.f k a0).bind fun t778 => ((spec_Layout_Laid.f k (⟨#[]⟩ : ByteArray) (⟨#[32, 32]⟩ : ByteArray) 80 a0 bt767.1 bt767.2.1 bt767.2.2.1 bt767.2.2.2.1 bt767.2.2.2.2.1).bind fun t779 => (some (t778.toList == t779.toList)))) else (some true)))) = some r := h
 clear h
 by_cases c2 : (a0.size : Int) > 2147483647
 ·
  rw [if_pos c2] at H
  have c2b0 := decide_eq_true c2
  have c2b1 : decide (2147483647 < a0.size) = true := decide_eq_true Z5
  clear c2
  obtain rfl := Option.some.inj H
  go_enter Try.func4, Try.ntmps4
  go_wp2
  go_ret
  exact ⟨Z12, Z6⟩
 rw [if_neg c2] at H
 have c2b0 := decide_eq_false c2
 have c2b1 : decide (2147483647 < a0.size) = false := decide_eq_false Z5
 clear c2
 replace H := Option.bind_eq_some_iff.mp H
 obtain ⟨⟨t767, t768, t769, t770, t773, t776⟩, A30, H⟩ := H
 dsimp only at H
 have A3 := Aside0.mk A30
 clear A30
 by_cases c4 : t776 = true
 rotate_left
 ·
  replace c4 := Bool.eq_false_iff.mpr c4
  subst c4
  rw [if_neg (show ¬ (false = true) from Z2)] at H
  obtain rfl := Option.some.inj H
  go_enter Try.func4, Try.ntmps4
  try go_wp2_with (first | ((with_reducible refine gate_callee (f := 6) rfl ?_); refine goesL_ (some 10) rfl rfl Try.func6 Z1 rfl #[.string a0] rfl Z13 ?_; (with_reducible refine (laws_prPlaces.calls k a0 t767 t768 t769 t770 t773 false _ A3.out).mono ?_); rintro e w16 ⟨v771, v774, rfl, ho0, ho1, hb⟩; refine ⟨_, rfl, ?_⟩; have n0_ := Aside0.mk (Kd.R_lower ho0 (below_size Z6)); have n1_ := Aside0.mk (Kd.R_lower ho1 (below_size Z6)); have n2_ := Aside0.mk (below_step Z6 hb); clear HB; have HO772 := n0_; have HO775 := n1_; have HB := n2_; clear n0_ n1_ n2_; (try clear hb); (try clear hb2); (try clear hk); (try clear hi); (try clear ho0); (try clear ho1)) | ((with_reducible refine gate_dst (N := 3) rfl ?_); refine box_event ?hg (N := 3) ?hd (cs := #[.int .i64 0, .int .i64 0, .int .i64 0, .slice none 0 0, .slice none 0 0]) (t := 28) ?hr ?_; (case hd => exact Z3); (case hg => exact Z3); (case hr => exact Z19); intro gb777 hg w17 hbox hb; have n0_ := Aside0.mk (Kd.R_below (pR HO772.out) hb); have n1_ := Aside0.mk (Kd.R_below (Kd.R_elderB (pR HO775.out) gb777 (Nat.le_of_eq hg.symm)) hb); have n2_ := Aside0.mk (below_step Z6 hb); have n3_ := Aside0.mk (hbox); have n4_ := Aside0.mk ((Z121 : w.heap.size ≤ gb777)); have n5_ := Aside0.mk ((Z121 : w.heap.size ≤ gb777)); clear HO772; clear HO775; clear HB; have HO772 := n0_; have HO775 := n1_; have HB := n2_; have BK777 := n3_; have GW777 := n4_; have GE777 := n5_; clear n0_ n1_ n2_ n3_ n4_ n5_; clear hb hbox hg; have hcz18_0 : w17.cell? ⟨gb777, 0, none⟩ = some (.int .i64 0) := (blk_cell BK777.out 0).trans rfl; have hcz18_1 : w17.cell? ⟨gb777, 1, none⟩ = some (.int .i64 0) := (blk_cell BK777.out 1).trans rfl; have hcz18_2 : w17.cell? ⟨gb777, 2, none⟩ = some (.int .i64 0) := (blk_cell BK777.out 2).trans rfl; have hcz18_3 : w17.cell? ⟨gb777, 3, none⟩ = some (.slice none 0 0) := (blk_cell BK777.out 3).trans rfl; have hcz18_4 : w17.cell? ⟨gb777, 4, none⟩ = some (.slice none 0 0) := (blk_cell BK777.out 4).trans rfl; have hfz18_0 := blk_frozen BK777.out 0; have hfz18_1 := blk_frozen BK777.out 1; have hfz18_2 := blk_frozen BK777.out 2; have hfz18_3 := blk_frozen BK777.out 3; have hfz18_4 := blk_frozen BK777.out 4; obtain ⟨Ao19, co19, eo19⟩ := Kd.R_slice HO772.out; subst eo19; obtain ⟨Ao20, co20, eo20⟩ := Kd.R_slice HO775.out; subst eo20))
  have n0_ : Aside0 (Kd.R k55 55 (((((w17.setCell ⟨gb777, 0, none⟩ (.int .i64 t767)).setCell ⟨gb777, 1, none⟩ (.int .i64 t768)).setCell ⟨gb777, 2, none⟩ (.int .i64 t769)).setCell ⟨gb777, 3, none⟩ (.slice Ao19 t770.length co19)).setCell ⟨gb777, 4, none⟩ (.slice Ao20 t773.length co20)) w.heap.size (fun _ => True) (.slice Ao19 t770.length co19) t770) := ⟨by (with_reducible repeat (first | apply Kd.R_alloc | apply Kd.R_drewN | apply Kd.R_drew)); exact Kd.R_mono (Kd.R_far (p := ⟨gb777, 4, none⟩) (Kd.R_far (p := ⟨gb777, 3, none⟩) (Kd.R_far (p := ⟨gb777, 2, none⟩) (Kd.R_far (p := ⟨gb777, 1, none⟩) (Kd.R_far (p := ⟨gb777, 0, none⟩) (Kd.R_types HO772.out BK777.out Z2) (fun _ hk => hk.2) (.int .i64 t767)) (fun _ hk => hk.2) (.int .i64 t768)) (fun _ hk => hk.2) (.int .i64 t769)) (fun _ hk => hk.2) (.slice Ao19 t770.length co19)) (fun _ hk => hk.2) (.slice Ao20 t773.length co20)) (fun _ hk => trivial)⟩
  have n1_ : Aside0 (Kd.R k28 28 (((((w17.setCell ⟨gb777, 0, none⟩ (.int .i64 t767)).setCell ⟨gb777, 1, none⟩ (.int .i64 t768)).setCell ⟨gb777, 2, none⟩ (.int .i64 t769)).setCell ⟨gb777, 3, none⟩ (.slice Ao19 t770.length co19)).setCell ⟨gb777, 4, none⟩ (.slice Ao20 t773.length co20)) w.heap.size (fun k_ => some k_ ≠ (.slice Ao19 t770.length co19 : Value).ownBlock ∧ k_ ≠ gb777) (.slice Ao20 t773.length co20) t773) := ⟨by (with_reducible repeat (first | apply Kd.R_alloc | apply Kd.R_drewN | apply Kd.R_drew)); exact Kd.R_mono (Kd.R_far (p := ⟨gb777, 4, none⟩) (Kd.R_far (p := ⟨gb777, 3, none⟩) (Kd.R_far (p := ⟨gb777, 2, none⟩) (Kd.R_far (p := ⟨gb777, 1, none⟩) (Kd.R_far (p := ⟨gb777, 0, none⟩) (Kd.R_mono HO775.out (fun k_ hk => (⟨hk, hk.2⟩ : _ ∧ k_ ≠ gb777))) (fun _ hk => hk.2) (.int .i64 t767)) (fun _ hk => hk.2) (.int .i64 t768)) (fun _ hk => hk.2) (.int .i64 t769)) (fun _ hk => hk.2) (.slice Ao19 t770.length co19)) (fun _ hk => hk.2) (.slice Ao20 t773.length co20)) (fun _ hk => ⟨hk.1.1, hk.1.2⟩)⟩
  have n2_ : Aside0 ((((((w17.setCell ⟨gb777, 0, none⟩ (.int .i64 t767)).setCell ⟨gb777, 1, none⟩ (.int .i64 t768)).setCell ⟨gb777, 2, none⟩ (.int .i64 t769)).setCell ⟨gb777, 3, none⟩ (.slice Ao19 t770.length co19)).setCell ⟨gb777, 4, none⟩ (.slice Ao20 t773.length co20)).heap[gb777]? = some (.cells #[.int .i64 t767, .int .i64 t768, .int .i64 t769, .slice Ao19 t770.length co19, .slice Ao20 t773.length co20] 28 (0, 0))) := ⟨by (with_reducible repeat (first | refine blk_drewN ?_ _ | refine blk_drew ?_ | refine blk_alloc ?_ _)); refine blk_put (cs := #[.int .i64 t767, .int .i64 t768, .int .i64 t769, .slice Ao19 t770.length co19, .slice none 0 0]) ?_ 4 _ rfl; (with_reducible repeat (first | refine blk_drewN ?_ _ | refine blk_drew ?_ | refine blk_alloc ?_ _)); refine blk_put (cs := #[.int .i64 t767, .int .i64 t768, .int .i64 t769, .slice none 0 0, .slice none 0 0]) ?_ 3 _ rfl; (with_reducible repeat (first | refine blk_drewN ?_ _ | refine blk_drew ?_ | refine blk_alloc ?_ _)); refine blk_put (cs := #[.int .i64 t767, .int .i64 t768, .int .i64 0, .slice none 0 0, .slice none 0 0]) ?_ 2 _ rfl; (with_reducible repeat (first | refine blk_drewN ?_ _ | refine blk_drew ?_ | refine blk_alloc ?_ _)); refine blk_put (cs := #[.int .i64 t767, .int .i64 0, .int .i64 0, .slice none 0 0, .slice none 0 0]) ?_ 1 _ rfl; (with_reducible repeat (first | refine blk_drewN ?_ _ | refine blk_drew ?_ | refine blk_alloc ?_ _)); refine blk_put (cs := #[.int .i64 0, .int .i64 0, .int .i64 0, .slice none 0 0, .slice none 0 0]) ?_ 0 _ rfl; (with_reducible repeat (first | refine blk_drewN ?_ _ | refine blk_drew ?_ | refine blk_alloc ?_ _)); exact BK777.out⟩
  have n3_ : Aside0 (Below w.heap.size w (((((w17.setCell ⟨gb777, 0, none⟩ (.int .i64 t767)).setCell ⟨gb777, 1, none⟩ (.int .i64 t768)).setCell ⟨gb777, 2, none⟩ (.int .i64 t769)).setCell ⟨gb777, 3, none⟩ (.slice Ao19 t770.length co19)).setCell ⟨gb777, 4, none⟩ (.slice Ao20 t773.length co20))) := ⟨Z55⟩
  (try clear HO772)
  (try clear HO775)
  (try clear BK777)
  (try clear HB)
  generalize (((((w17.setCell ⟨gb777, 0, none⟩ (.int .i64 t767)).setCell ⟨gb777, 1, none⟩ (.int .i64 t768)).setCell ⟨gb777, 2, none⟩ (.int .i64 t769)).setCell ⟨gb777, 3, none⟩ (.slice Ao19 t770.length co19)).setCell ⟨gb777, 4, none⟩ (.slice Ao20 t773.length co20)) = w21 at n0_ n1_ n2_ n3_ ⊢
  have HO772 := n0_
  have HO775 := n1_
  have BK777 := n2_
  have HB := n3_
  clear n0_ n1_ n2_ n3_
  have n0_ := Aside0.mk (Kd.R_drew HO772.out)
  have n1_ := Aside0.mk (Kd.R_drew HO775.out)
  have n2_ := Aside0.mk (blk_drew BK777.out)
  have n3_ := Aside0.mk (below_drew1 HB.out)
  clear HO772; clear HO775; clear BK777; clear HB
  have HO772 := n0_
  have HO775 := n1_
  have BK777 := n2_
  have HB := n3_
  clear n0_ n1_ n2_ n3_
  refine start_ (n := 12) (S := fun w' => True) (ds := []) #[false, false, false, false, false, false, false, false, false, false, false, false] Z1 rfl rfl trivial (fun hHeld => ?_); refine with_tabW laws_FnPrWholeDefault.tab4 laws_FnPrWholeDefault.bits4 (fun HT_ HW_ => ?_)
  generalize w21.drew = w22 at HO772 HO775 BK777 HB hHeld ⊢
  refine pure_ (i := 0) (N := some 13) (v := ?_) (a' := ?_) #[true, false, false, false, false, false, false, false, false, false, false, false] rfl rfl (any_of HT_.out Z1) (fun _ _ _ h => h) (Or.inl ⟨Z3, ?_⟩) ?_ ?_
  rotate_left
  ·
   intro w'
   go_simp
   with_reducible rfl
  rotate_left
  ·
   simp only [Act.put, List.setIfInBounds_toArray, List.set_cons_zero, List.set_cons_succ, i64_w, i32_w]
   rfl
  refine pure_ (i := 1) (N := some 14) (v := ?_) (a' := ?_) #[true, true, false, false, false, false, false, false, false, false, false, false] rfl rfl (any_of HT_.out Z1) (fun _ _ _ h => h) (Or.inl ⟨Z3, ?_⟩) ?_ ?_
  rotate_left
  ·
   intro w'
   go_simp
   with_reducible rfl
  rotate_left
  ·
   simp only [Act.put, List.setIfInBounds_toArray, List.set_cons_zero, List.set_cons_succ, i64_w, i32_w]
   rfl
  refine pure_ (i := 2) (N := some 15) (v := ?_) (a' := ?_) #[true, true, true, false, false, false, false, false, false, false, false, false] rfl rfl (any_of HT_.out Z1) (fun _ _ _ h => h) (Or.inl ⟨Z3, ?_⟩) ?_ ?_
  rotate_left
  ·
   intro w'
   go_simp
   with_reducible rfl
  rotate_left
  ·
   simp only [Act.put, List.setIfInBounds_toArray, List.set_cons_zero, List.set_cons_succ, i64_w, i32_w]
   rfl
  refine pure_ (i := 3) (N := some 16) (v := undef) (a' := ?_) #[true, true, true, true, false, false, false, false, false, false, false, false] rfl rfl (any_of HT_.out Z1) (fun _ _ _ h => h) (Or.inr ⟨Z3, rfl⟩) ?_ ?_
  rotate_left
  ·
   simp only [Act.put, List.setIfInBounds_toArray, List.set_cons_zero, List.set_cons_succ, i64_w, i32_w]
   rfl
  refine pure_ (i := 4) (N := some 17) (v := undef) (a' := ?_) #[true, true, true, true, true, false, false, false, false, false, false, false] rfl rfl (any_of HT_.out Z1) (fun _ _ _ h => h) (Or.inr ⟨Z3, rfl⟩) ?_ ?_
  rotate_left
  ·
   simp only [Act.put, List.setIfInBounds_toArray, List.set_cons_zero, List.set_cons_succ, i64_w, i32_w]
   rfl
  refine pure_ (i := 5) (N := some 18) (v := undef) (a' := ?_) #[true, true, true, true, true, true, false, false, false, false, false, false] rfl rfl (any_of HT_.out Z1) (fun _ _ _ h => h) (Or.inr ⟨Z3, rfl⟩) ?_ ?_
  rotate_left
  ·
   simp only [Act.put, List.setIfInBounds_toArray, List.set_cons_zero, List.set_cons_succ, i64_w, i32_w]
   rfl
  refine pure_ (i := 6) (N := some 19) (v := undef) (a' := ?_) #[true, true, true, true, true, true, true, false, false, false, false, false] rfl rfl (any_of HT_.out Z1) (fun _ _ _ h => h) (Or.inr ⟨Z3, rfl⟩) ?_ ?_
  rotate_left
  ·
   simp only [Act.put, List.setIfInBounds_toArray, List.set_cons_zero, List.set_cons_succ, i64_w, i32_w]
   rfl
  refine pure_ (i := 7) (N := some 20) (v := undef) (a' := ?_) #[true, true, true, true, true, true, true, true, false, false, false, false] rfl rfl (any_of HT_.out Z1) (fun _ _ _ h => h) (Or.inr ⟨Z3, rfl⟩) ?_ ?_
  rotate_left
  ·
   simp only [Act.put, List.setIfInBounds_toArray, List.set_cons_zero, List.set_cons_succ, i64_w, i32_w]
   rfl
  refine pure_ (i := 8) (N := some 21) (v := undef) (a' := ?_) #[true, true, true, true, true, true, true, true, true, false, false, false] rfl rfl (any_of HT_.out Z1) (fun _ _ _ h => h) (Or.inr ⟨Z3, rfl⟩) ?_ ?_
  rotate_left
  ·
   simp only [Act.put, List.setIfInBounds_toArray, List.set_cons_zero, List.set_cons_succ, i64_w, i32_w]
   rfl
  refine pure_ (i := 9) (N := some 22) (v := undef) (a' := ?_) #[true, true, true, true, true, true, true, true, true, true, false, false] rfl rfl (any_of HT_.out Z1) (fun _ _ _ h => h) (Or.inr ⟨Z3, rfl⟩) ?_ ?_
  rotate_left
  ·
   simp only [Act.put, List.setIfInBounds_toArray, List.set_cons_zero, List.set_cons_succ, i64_w, i32_w]
   rfl
  refine pure_ (i := 10) (N := some 23) (v := ?_) (a' := ?_) #[true, true, true, true, true, true, true, true, true, true, true, false] rfl rfl (any_of HT_.out Z1) (fun _ _ _ h => h) (Or.inl ⟨Z3, ?_⟩) ?_ ?_
  rotate_left
  ·
   intro w'
   go_simp
   with_reducible rfl
  rotate_left
  ·
   simp only [Act.put, List.setIfInBounds_toArray, List.set_cons_zero, List.set_cons_succ, i64_w, i32_w]
   rfl
  refine pure_ (i := 11) (N := some 2) (v := ?_) (a' := ?_) #[true, true, true, true, true, true, true, true, true, true, true, true] rfl rfl (any_of HT_.out Z1) (fun _ _ _ h => h) (Or.inl ⟨Z3, ?_⟩) ?_ ?_
  rotate_left
  ·
   intro w'
   go_simp
   with_reducible rfl
  rotate_left
  ·
   simp only [Act.put, List.setIfInBounds_toArray, List.set_cons_zero, List.set_cons_succ, i64_w, i32_w]
   rfl
  refine done_ (done_of HT_.out Z1) ?_
  try go_wp2
  go_ret
  exact ⟨Z12, Z55⟩
 subst c4
 rw [if_pos rfl] at H
 replace H := Option.bind_eq_some_iff.mp H
 obtain ⟨t778, A50, H⟩ := H
 have A5 := Aside0.mk A50
 clear A50
 replace H := Option.bind_eq_some_iff.mp H
 obtain ⟨t779, A60, H⟩ := H
 have A6 := Aside0.mk A60
 clear A60
 obtain rfl := Option.some.inj H
 go_enter Try.func4, Try.ntmps4
 try go_wp2_with (first | ((with_reducible refine gate_callee (f := 6) rfl ?_); refine goesL_ (some 10) rfl rfl Try.func6 Z1 rfl #[.string a0] rfl Z13 ?_; (with_reducible refine (laws_prPlaces.calls k a0 t767 t768 t769 t770 t773 true _ A3.out).mono ?_); rintro e w7 ⟨v771, v774, rfl, ho0, ho1, hb⟩; refine ⟨_, rfl, ?_⟩; have n0_ := Aside0.mk (Kd.R_lower ho0 (below_size Z6)); have n1_ := Aside0.mk (Kd.R_lower ho1 (below_size Z6)); have n2_ := Aside0.mk (below_step Z6 hb); clear HB; have HO772 := n0_; have HO775 := n1_; have HB := n2_; clear n0_ n1_ n2_; (try clear hb); (try clear hb2); (try clear hk); (try clear hi); (try clear ho0); (try clear ho1)) | ((with_reducible refine gate_dst (N := 3) rfl ?_); refine box_event ?hg (N := 3) ?hd (cs := #[.int .i64 0, .int .i64 0, .int .i64 0, .slice none 0 0, .slice none 0 0]) (t := 28) ?hr ?_; (case hd => exact Z3); (case hg => exact Z3); (case hr => exact Z19); intro gb777 hg w8 hbox hb; have n0_ := Aside0.mk (Kd.R_below (pR HO772.out) hb); have n1_ := Aside0.mk (Kd.R_below (Kd.R_elderB (pR HO775.out) gb777 (Nat.le_of_eq hg.symm)) hb); have n2_ := Aside0.mk (below_step Z6 hb); have n3_ := Aside0.mk (hbox); have n4_ := Aside0.mk ((Z121 : w.heap.size ≤ gb777)); have n5_ := Aside0.mk ((Z121 : w.heap.size ≤ gb777)); clear HO772; clear HO775; clear HB; have HO772 := n0_; have HO775 := n1_; have HB := n2_; have BK777 := n3_; have GW777 := n4_; have GE777 := n5_; clear n0_ n1_ n2_ n3_ n4_ n5_; clear hb hbox hg; have hcz9_0 : w8.cell? ⟨gb777, 0, none⟩ = some (.int .i64 0) := (blk_cell BK777.out 0).trans rfl; have hcz9_1 : w8.cell? ⟨gb777, 1, none⟩ = some (.int .i64 0) := (blk_cell BK777.out 1).trans rfl; have hcz9_2 : w8.cell? ⟨gb777, 2, none⟩ = some (.int .i64 0) := (blk_cell BK777.out 2).trans rfl; have hcz9_3 : w8.cell? ⟨gb777, 3, none⟩ = some (.slice none 0 0) := (blk_cell BK777.out 3).trans rfl; have hcz9_4 : w8.cell? ⟨gb777, 4, none⟩ = some (.slice none 0 0) := (blk_cell BK777.out 4).trans rfl; have hfz9_0 := blk_frozen BK777.out 0; have hfz9_1 := blk_frozen BK777.out 1; have hfz9_2 := blk_frozen BK777.out 2; have hfz9_3 := blk_frozen BK777.out 3; have hfz9_4 := blk_frozen BK777.out 4; obtain ⟨Ao10, co10, eo10⟩ := Kd.R_slice HO772.out; subst eo10; obtain ⟨Ao11, co11, eo11⟩ := Kd.R_slice HO775.out; subst eo11))
 have n0_ : Aside0 (Kd.R k55 55 (((((w8.setCell ⟨gb777, 0, none⟩ (.int .i64 t767)).setCell ⟨gb777, 1, none⟩ (.int .i64 t768)).setCell ⟨gb777, 2, none⟩ (.int .i64 t769)).setCell ⟨gb777, 3, none⟩ (.slice Ao10 t770.length co10)).setCell ⟨gb777, 4, none⟩ (.slice Ao11 t773.length co11)) w.heap.size (fun _ => True) (.slice Ao10 t770.length co10) t770) := ⟨by (with_reducible repeat (first | apply Kd.R_alloc | apply Kd.R_drewN | apply Kd.R_drew)); exact Kd.R_mono (Kd.R_far (p := ⟨gb777, 4, none⟩) (Kd.R_far (p := ⟨gb777, 3, none⟩) (Kd.R_far (p := ⟨gb777, 2, none⟩) (Kd.R_far (p := ⟨gb777, 1, none⟩) (Kd.R_far (p := ⟨gb777, 0, none⟩) (Kd.R_types HO772.out BK777.out Z2) (fun _ hk => hk.2) (.int .i64 t767)) (fun _ hk => hk.2) (.int .i64 t768)) (fun _ hk => hk.2) (.int .i64 t769)) (fun _ hk => hk.2) (.slice Ao10 t770.length co10)) (fun _ hk => hk.2) (.slice Ao11 t773.length co11)) (fun _ hk => trivial)⟩
 have n1_ : Aside0 (Kd.R k28 28 (((((w8.setCell ⟨gb777, 0, none⟩ (.int .i64 t767)).setCell ⟨gb777, 1, none⟩ (.int .i64 t768)).setCell ⟨gb777, 2, none⟩ (.int .i64 t769)).setCell ⟨gb777, 3, none⟩ (.slice Ao10 t770.length co10)).setCell ⟨gb777, 4, none⟩ (.slice Ao11 t773.length co11)) w.heap.size (fun k_ => some k_ ≠ (.slice Ao10 t770.length co10 : Value).ownBlock ∧ k_ ≠ gb777) (.slice Ao11 t773.length co11) t773) := ⟨by (with_reducible repeat (first | apply Kd.R_alloc | apply Kd.R_drewN | apply Kd.R_drew)); exact Kd.R_mono (Kd.R_far (p := ⟨gb777, 4, none⟩) (Kd.R_far (p := ⟨gb777, 3, none⟩) (Kd.R_far (p := ⟨gb777, 2, none⟩) (Kd.R_far (p := ⟨gb777, 1, none⟩) (Kd.R_far (p := ⟨gb777, 0, none⟩) (Kd.R_mono HO775.out (fun k_ hk => (⟨hk, hk.2⟩ : _ ∧ k_ ≠ gb777))) (fun _ hk => hk.2) (.int .i64 t767)) (fun _ hk => hk.2) (.int .i64 t768)) (fun _ hk => hk.2) (.int .i64 t769)) (fun _ hk => hk.2) (.slice Ao10 t770.length co10)) (fun _ hk => hk.2) (.slice Ao11 t773.length co11)) (fun _ hk => ⟨hk.1.1, hk.1.2⟩)⟩
 have n2_ : Aside0 ((((((w8.setCell ⟨gb777, 0, none⟩ (.int .i64 t767)).setCell ⟨gb777, 1, none⟩ (.int .i64 t768)).setCell ⟨gb777, 2, none⟩ (.int .i64 t769)).setCell ⟨gb777, 3, none⟩ (.slice Ao10 t770.length co10)).setCell ⟨gb777, 4, none⟩ (.slice Ao11 t773.length co11)).heap[gb777]? = some (.cells #[.int .i64 t767, .int .i64 t768, .int .i64 t769, .slice Ao10 t770.length co10, .slice Ao11 t773.length co11] 28 (0, 0))) := ⟨by (with_reducible repeat (first | refine blk_drewN ?_ _ | refine blk_drew ?_ | refine blk_alloc ?_ _)); refine blk_put (cs := #[.int .i64 t767, .int .i64 t768, .int .i64 t769, .slice Ao10 t770.length co10, .slice none 0 0]) ?_ 4 _ rfl; (with_reducible repeat (first | refine blk_drewN ?_ _ | refine blk_drew ?_ | refine blk_alloc ?_ _)); refine blk_put (cs := #[.int .i64 t767, .int .i64 t768, .int .i64 t769, .slice none 0 0, .slice none 0 0]) ?_ 3 _ rfl; (with_reducible repeat (first | refine blk_drewN ?_ _ | refine blk_drew ?_ | refine blk_alloc ?_ _)); refine blk_put (cs := #[.int .i64 t767, .int .i64 t768, .int .i64 0, .slice none 0 0, .slice none 0 0]) ?_ 2 _ rfl; (with_reducible repeat (first | refine blk_drewN ?_ _ | refine blk_drew ?_ | refine blk_alloc ?_ _)); refine blk_put (cs := #[.int .i64 t767, .int .i64 0, .int .i64 0, .slice none 0 0, .slice none 0 0]) ?_ 1 _ rfl; (with_reducible repeat (first | refine blk_drewN ?_ _ | refine blk_drew ?_ | refine blk_alloc ?_ _)); refine blk_put (cs := #[.int .i64 0, .int .i64 0, .int .i64 0, .slice none 0 0, .slice none 0 0]) ?_ 0 _ rfl; (with_reducible repeat (first | refine blk_drewN ?_ _ | refine blk_drew ?_ | refine blk_alloc ?_ _)); exact BK777.out⟩
 have n3_ : Aside0 (Below w.heap.size w (((((w8.setCell ⟨gb777, 0, none⟩ (.int .i64 t767)).setCell ⟨gb777, 1, none⟩ (.int .i64 t768)).setCell ⟨gb777, 2, none⟩ (.int .i64 t769)).setCell ⟨gb777, 3, none⟩ (.slice Ao10 t770.length co10)).setCell ⟨gb777, 4, none⟩ (.slice Ao11 t773.length co11))) := ⟨Z55⟩
 (try clear HO772)
 (try clear HO775)
 (try clear BK777)
 (try clear HB)
 generalize (((((w8.setCell ⟨gb777, 0, none⟩ (.int .i64 t767)).setCell ⟨gb777, 1, none⟩ (.int .i64 t768)).setCell ⟨gb777, 2, none⟩ (.int .i64 t769)).setCell ⟨gb777, 3, none⟩ (.slice Ao10 t770.length co10)).setCell ⟨gb777, 4, none⟩ (.slice Ao11 t773.length co11)) = w12 at n0_ n1_ n2_ n3_ ⊢
 have HO772 := n0_
 have HO775 := n1_
 have BK777 := n2_
 have HB := n3_
 clear n0_ n1_ n2_ n3_
 have n0_ := Aside0.mk (Kd.R_drew HO772.out)
 have n1_ := Aside0.mk (Kd.R_drew HO775.out)
 have n2_ := Aside0.mk (blk_drew BK777.out)
 have n3_ := Aside0.mk (below_drew1 HB.out)
 clear HO772; clear HO775; clear BK777; clear HB
 have HO772 := n0_
 have HO775 := n1_
 have BK777 := n2_
 have HB := n3_
 clear n0_ n1_ n2_ n3_
 refine start_ (n := 12) (S := fun w' => w'.cell? ⟨gb777, 0, none⟩ = some (.int .i64 t767) ∧ w'.cell? ⟨gb777, 1, none⟩ = some (.int .i64 t768) ∧ w'.cell? ⟨gb777, 2, none⟩ = some (.int .i64 t769) ∧ w'.cell? ⟨gb777, 3, none⟩ = some (.slice Ao10 t770.length co10) ∧ w'.cell? ⟨gb777, 4, none⟩ = some (.slice Ao11 t773.length co11)) (ds := []) #[false, false, false, false, false, false, false, false, false, false, false, false] Z1 rfl rfl ⟨(blk_cell BK777.out 0).trans rfl, (blk_cell BK777.out 1).trans rfl, (blk_cell BK777.out 2).trans rfl, (blk_cell BK777.out 3).trans rfl, (blk_cell BK777.out 4).trans rfl⟩ (fun hHeld => ?_); refine with_tabW laws_FnPrWholeDefault.tab4 laws_FnPrWholeDefault.bits4 (fun HT_ HW_ => ?_)
 generalize w12.drew = w13 at HO772 HO775 BK777 HB hHeld ⊢
 refine pure_ (i := 0) (N := some 13) (v := ?_) (a' := ?_) #[true, false, false, false, false, false, false, false, false, false, false, false] rfl rfl (any_of HT_.out Z1) (fun _ _ _ h => h) (Or.inl ⟨Z3, ?_⟩) ?_ ?_
 rotate_left
 ·
  intro w'
  go_simp
  with_reducible rfl
 rotate_left
 ·
  simp only [Act.put, List.setIfInBounds_toArray, List.set_cons_zero, List.set_cons_succ, i64_w, i32_w]
  rfl
 refine pure_ (i := 1) (N := some 14) (v := ?_) (a' := ?_) #[true, true, false, false, false, false, false, false, false, false, false, false] rfl rfl (any_of HT_.out Z1) (fun _ _ _ h => h) (Or.inl ⟨Z3, ?_⟩) ?_ ?_
 rotate_left
 ·
  intro w'
  go_simp
  with_reducible rfl
 rotate_left
 ·
  simp only [Act.put, List.setIfInBounds_toArray, List.set_cons_zero, List.set_cons_succ, i64_w, i32_w]
  rfl
 refine pure_ (i := 2) (N := some 15) (v := ?_) (a' := ?_) #[true, true, true, false, false, false, false, false, false, false, false, false] rfl rfl (any_of HT_.out Z1) (fun _ _ _ h => h) (Or.inl ⟨Z3, ?_⟩) ?_ ?_
 rotate_left
 ·
  intro w'
  go_simp
  with_reducible rfl
 rotate_left
 ·
  simp only [Act.put, List.setIfInBounds_toArray, List.set_cons_zero, List.set_cons_succ, i64_w, i32_w]
  rfl
 refine pure_ (i := 3) (N := some 16) (v := ?_) (a' := ?_) #[true, true, true, true, false, false, false, false, false, false, false, false] rfl rfl (any_of HT_.out Z1) (fun _ _ _ h => h) (Or.inl ⟨Z3, ?_⟩) ?_ ?_
 rotate_left
 ·
  intro w'
  go_simp
  with_reducible rfl
 rotate_left
 ·
  simp only [Act.put, List.setIfInBounds_toArray, List.set_cons_zero, List.set_cons_succ, i64_w, i32_w]
  rfl
 refine pure_ (i := 5) (N := some 18) (v := ?_) (a' := ?_) #[true, true, true, true, false, true, false, false, false, false, false, false] rfl rfl (any_of HT_.out Z1) (fun _ _ _ h => h) (Or.inl ⟨Z3, ?_⟩) ?_ ?_
 rotate_left
 ·
  intro w'
  go_simp
  with_reducible rfl
 rotate_left
 ·
  simp only [Act.put, List.setIfInBounds_toArray, List.set_cons_zero, List.set_cons_succ, i64_w, i32_w]
  rfl
 refine pure_ (i := 6) (N := some 19) (v := ?_) (a' := ?_) #[true, true, true, true, false, true, true, false, false, false, false, false] rfl rfl (any_of HT_.out Z1) (fun _ _ _ h => h) (Or.inl ⟨Z3, ?_⟩) ?_ ?_
 rotate_left
 ·
  intro w'
  go_simp
  with_reducible rfl
 rotate_left
 ·
  simp only [Act.put, List.setIfInBounds_toArray, List.set_cons_zero, List.set_cons_succ, i64_w, i32_w]
  rfl
 refine take_ (i := 7) (N := some 20) (v := ?_) (a' := ?_) #[true, true, true, true, false, true, true, true, false, false, false, false] rfl rfl (take_ofW HT_.out HW_.out Z1) (fun _ _ _ h => h) (Or.inl ⟨Z3, ?_⟩) hHeld ?_ ?_
 rotate_left
 ·
  rintro w' ⟨s0, s1, s2, s3, s4⟩
  go_simp
  with_reducible rfl
 rotate_left
 ·
  simp only [Act.put, List.setIfInBounds_toArray, List.set_cons_zero, List.set_cons_succ, i64_w, i32_w]
  rfl
 refine one_ (i := 4) (N := some 17) #[true, true, true, true, true, true, true, true, false, false, false, false] rfl rfl (one_of HT_.out Z1) Z2 (fun K hK => ?_)
 refine goes_ Try.func10 Z1 rfl #[.string a0] Z3 rfl rfl Z13 ?_
 with_reducible refine (impl_PrDefault.calls k a0 t778 _ A5.out).mono ?_
 rintro e w14 ⟨rfl, hb⟩
 refine ⟨_, rfl, ?_⟩
 have n0_ := Aside0.mk (Kd.R_below (pR HO772.out) hb)
 have n1_ := Aside0.mk (Kd.R_below (pR HO775.out) hb)
 have n2_ := Aside0.mk (blk_below (g := gb777) (o := .cells #[.int .i64 t767, .int .i64 t768, .int .i64 t769, .slice Ao10 t770.length co10, .slice Ao11 t773.length co11] 28 (0, 0)) (pB BK777.out) hb)
 have n3_ := Aside0.mk (below_step Z55 hb)
 clear HO772; clear HO775; clear BK777; clear HB
 have HO772 := n0_
 have HO775 := n1_
 have BK777 := n2_
 have HB := n3_
 clear n0_ n1_ n2_ n3_
 (try clear hb)
 (try clear hb2)
 (try clear hk)
 (try clear hi)
 refine hK.out _ _ ⟨(blk_cell BK777.out 0).trans rfl, (blk_cell BK777.out 1).trans rfl, (blk_cell BK777.out 2).trans rfl, (blk_cell BK777.out 3).trans rfl, (blk_cell BK777.out 4).trans rfl⟩ (fun hHeld => ?_)
 clear hK K
 refine norm_ (a' := ?_) ?_ ?_
 rotate_left
 ·
  show Act.put _ (some 17) _ = _
  simp only [Act.put, List.setIfInBounds_toArray, List.set_cons_zero, List.set_cons_succ, i64_w, i32_w]
  rfl
 refine one_ (i := 8) (N := some 21) #[true, true, true, true, true, true, true, true, true, false, false, false] rfl rfl (one_of HT_.out Z1) Z2 (fun K hK => ?_)
 refine goes_ Try.func11 Z1 rfl #[.agg #[.string (⟨#[]⟩ : ByteArray), .string (⟨#[32, 32]⟩ : ByteArray), .int .i64 80], .string a0, .agg #[.int .i64 t767, .int .i64 t768, .int .i64 t769, .slice Ao10 t770.length co10, .slice Ao11 t773.length co11]] Z3 rfl rfl Z13 ?_
 with_reducible refine (spec_Layout_Laid.calls k (⟨#[]⟩ : ByteArray) (⟨#[32, 32]⟩ : ByteArray) 80 a0 t767 t768 t769 _ _ t770 _ _ t773 t779 _ ?side1 ?side2 ?side3 ?side4 A6.out).mono ?_
 (case side1 => repeat (first | exact (Kd.R_reads' HO772.out).2.2 | (with_reducible refine Kd.C_alloc ?_ _) | (with_reducible refine Kd.C_drewN ?_ _) | (with_reducible refine Kd.C_drew ?_)))
 (case side2 => exact (Kd.R_reads' HO772.out).2.1)
 (case side3 => repeat (first | exact (Kd.R_reads' HO775.out).2.2 | (with_reducible refine Kd.C_alloc ?_ _) | (with_reducible refine Kd.C_drewN ?_ _) | (with_reducible refine Kd.C_drew ?_)))
 (case side4 => exact (Kd.R_reads' HO775.out).2.1)
 rintro e w15 ⟨rfl, hb⟩
 refine ⟨_, rfl, ?_⟩
 have n0_ := Aside0.mk (Kd.R_below (pR HO772.out) hb)
 have n1_ := Aside0.mk (Kd.R_below (pR HO775.out) hb)
 have n2_ := Aside0.mk (blk_below (g := gb777) (o := .cells #[.int .i64 t767, .int .i64 t768, .int .i64 t769, .slice Ao10 t770.length co10, .slice Ao11 t773.length co11] 28 (0, 0)) (pB BK777.out) hb)
 have n3_ := Aside0.mk (below_step Z55 hb)
 clear HO772; clear HO775; clear BK777; clear HB
 have HO772 := n0_
 have HO775 := n1_
 have BK777 := n2_
 have HB := n3_
 clear n0_ n1_ n2_ n3_
 (try clear hb)
 (try clear hb2)
 (try clear hk)
 (try clear hi)
 refine hK.out _ _ ⟨(blk_cell BK777.out 0).trans rfl, (blk_cell BK777.out 1).trans rfl, (blk_cell BK777.out 2).trans rfl, (blk_cell BK777.out 3).trans rfl, (blk_cell BK777.out 4).trans rfl⟩ (fun hHeld => ?_)
 clear hK K
 refine norm_ (a' := ?_) ?_ ?_
 rotate_left
 ·
  show Act.put _ (some 21) _ = _
  simp only [Act.put, List.setIfInBounds_toArray, List.set_cons_zero, List.set_cons_succ, i64_w, i32_w]
  rfl
 refine pure_ (i := 9) (N := some 22) (v := ?_) (a' := ?_) #[true, true, true, true, true, true, true, true, true, true, false, false] rfl rfl (any_of HT_.out Z1) (fun _ _ _ h => h) (Or.inl ⟨Z3, ?_⟩) ?_ ?_
 rotate_left
 ·
  intro w'
  go_simp
  with_reducible rfl
 rotate_left
 ·
  simp only [Act.put, List.setIfInBounds_toArray, List.set_cons_zero, List.set_cons_succ, i64_w, i32_w]
  rfl
 refine pure_ (i := 10) (N := some 23) (v := ?_) (a' := ?_) #[true, true, true, true, true, true, true, true, true, true, true, false] rfl rfl (any_of HT_.out Z1) (fun _ _ _ h => h) (Or.inl ⟨Z3, ?_⟩) ?_ ?_
 rotate_left
 ·
  intro w'
  go_simp
  with_reducible rfl
 rotate_left
 ·
  simp only [Act.put, List.setIfInBounds_toArray, List.set_cons_zero, List.set_cons_succ, i64_w, i32_w]
  rfl
 refine pure_ (i := 11) (N := some 2) (v := ?_) (a' := ?_) #[true, true, true, true, true, true, true, true, true, true, true, true] rfl rfl (any_of HT_.out Z1) (fun _ _ _ h => h) (Or.inl ⟨Z3, ?_⟩) ?_ ?_
 rotate_left
 ·
  intro w'
  go_simp
  with_reducible rfl
 rotate_left
 ·
  simp only [Act.put, List.setIfInBounds_toArray, List.set_cons_zero, List.set_cons_succ, i64_w, i32_w]
  rfl
 refine done_ (done_of HT_.out Z1) ?_
 try go_wp2
 go_ret
 exact ⟨Z12, Z55⟩

/-- THE ONE PURE STATEMENT of laws_FnPrWholeDefault: yours. -/
def laws_FnPrWholeDefault.Pure : Prop := ∀ (a0 : ByteArray), a0.size ≤ 140737488351232 → ∃ k, laws_FnPrWholeDefault.f k a0 = some true
theorem laws_FnPrWholeDefault.walk (P : laws_FnPrWholeDefault.Pure) (a0 : ByteArray) (w : World) (w0 : a0.size ≤ 140737488351232) :
  Calls Try.prog 4 #[.string a0] w fun e w' => e = .returned (.bool true) ∧ Below w.heap.size w w' := by
 obtain ⟨k, h⟩ := P a0 w0
 refine (laws_FnPrWholeDefault.calls k a0 true w h).mono ?_
 rintro e w' ⟨rfl, hd⟩
 exact ⟨rfl, hd⟩

end Go.Proofs.Ytffdebhaclkhjaa.PFnPrWholeDefault
