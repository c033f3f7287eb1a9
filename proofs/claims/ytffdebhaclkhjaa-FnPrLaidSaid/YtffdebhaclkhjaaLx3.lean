-- Written by a program of the session (wip/tools) out of the translation. Not trusted: Lean checks it.
import Derived.Test.YtffdebhaclkhjaaLq
import Derived.Test.YtffdebhaclkhjaaSx0
import Derived.Test.YtffdebhaclkhjaaSx4
import Derived.Test.YtffdebhaclkhjaaLx0
import Derived.Test.YtffdebhaclkhjaaLx1
import Derived.Test.YtffdebhaclkhjaaLx2
namespace Go.Proofs.Ytffdebhaclkhjaa.PFnPrWholeDefault
open Go.RowKit Go.Proofs.YtffdebhaclkhjaaW.PrintWords Go.Proofs.YtffdebhaclkhjaaW.PrintLast Go.Proofs.YtffdebhaclkhjaaW.PrintMore
attribute [local go_sem] max2_int min2_int max_two min_two max_three min_three max_four min_four   -- for this text's walks alone
set_option linter.unusedVariables false
set_option linter.unusedSimpArgs false

/-! ### spec_Laid: function 9 -/
def spec_Laid.f (k : Nat) (a0 : ByteArray) (a1_0 : Int) (a1_1 : Int) (a1_2 : Int) (l1_3 : List (S55)) (l1_4 : List (S28)) (a2 : ByteArray) (a3 : ByteArray)  : Option (ByteArray) := (spec_laidTo.f k ([] : List Int) a0 a1_0 a1_1 a1_2 l1_3 l1_4 a2 a3).bind fun t734 => (if a2.size + (strOfNums t734).size ≤ 9223372036854775807 then (if (a2 ++ (strOfNums t734)).size + 1 ≤ 9223372036854775807 then (some ((a2 ++ (strOfNums t734)) ++ (⟨#[10]⟩ : ByteArray))) else (none)) else (none))
theorem spec_Laid.mono : ∀ a0 a1 a2 a3 a4 a5 a6 a7 k, LeO (spec_Laid.f k a0 a1 a2 a3 a4 a5 a6 a7) (spec_Laid.f (k + 1) a0 a1 a2 a3 a4 a5 a6 a7) := by
 intro a0 a1 a2 a3 a4 a5 a6 a7 k
 unfold spec_Laid.f
 repeat' first
   | (with_reducible exact spec_laidTo.mono _ _ _ _ _ _ _ _ _ _)
   | (with_reducible exact LeO.refl _)
   | (with_reducible exact LeO.none _)
   | (with_reducible refine LeO.ite ?_ ?_)
   | (with_reducible refine LeO.bind ?_ (fun _ => ?_))
   | exact spec_laidTo.mono _ _ _ _ _ _ _ _ _ _
   | exact LeO.none _
   | refine LeO.ite ?_ ?_
   | refine LeO.bind ?_ (fun _ => ?_)
set_option maxHeartbeats 8000000 in
set_option maxRecDepth 100000 in
theorem spec_Laid.calls (k : Nat) (a0 : ByteArray) (a1_0 : Int) (a1_1 : Int) (a1_2 : Int) (A1_3 : Option Addr) (c1_3 : Nat) (l1_3 : List (S55)) (A1_4 : Option Addr) (c1_4 : Nat) (l1_4 : List (S28)) (a2 : ByteArray) (a3 : ByteArray)  (r : ByteArray) (w : World) (hr1_3 : Kd.C k55 w A1_3 l1_3.length l1_3) (hc1_3 : l1_3.length ≤ c1_3) (hr1_4 : Kd.C k28 w A1_4 l1_4.length l1_4) (hc1_4 : l1_4.length ≤ c1_4) (h : spec_Laid.f k a0 a1_0 a1_1 a1_2 l1_3 l1_4 a2 a3 = some r) :
  Calls Try.prog 9 #[.string a0, .agg #[.int .i64 a1_0, .int .i64 a1_1, .int .i64 a1_2, .slice A1_3 l1_3.length c1_3, .slice A1_4 l1_4.length c1_4], .string a2, .string a3, .bool false] w fun e w' => e = .returned (.string r) ∧ Below w.heap.size w w' := by
 have hu28 := Try.underlying28
 have HR1_3 := Aside0.mk hr1_3
 have HC1_3 := Aside0.mk hc1_3
 clear hr1_3 hc1_3
 have HR1_4 := Aside0.mk hr1_4
 have HC1_4 := Aside0.mk hc1_4
 clear hr1_4 hc1_4
 have HB := Aside0.mk (Below.refl w.heap.size w)
 have H : ((spec_laidTo.f k ([] : List Int) a0 a1_0 a1_1 a1_2 l1_3 l1_4 a2 a3).bind fun t734 => (if a2.size + (strOfNums t734).size ≤ 9223372036854775807 then (if (a2 ++ (strOfNums t734)).size + 1 ≤ 9223372036854775807 then (some ((a2 ++ (strOfNums t734)) ++ (⟨#[10]⟩ : ByteArray))) else (none)) else (none))) = some r := h
 clear h
 replace H := Option.bind_eq_some_iff.mp H
 obtain ⟨t734, A60, H⟩ := H
 have A6 := Aside0.mk A60
 clear A60
 by_cases c7 : a2.size + (strOfNums t734).size ≤ 9223372036854775807
 rotate_left
 ·
  rw [if_neg c7] at H
  exact absurd H Y4
 rw [if_pos c7] at H
 have c7b0 := eq_true c7
 have c7b1 := decide_eq_true c7
 try have c7b2 : (9223372036854775807 < a2.size + (strOfNums t734).size) = False := eq_false (Nat.not_lt.2 c7)
 by_cases c8 : (a2 ++ (strOfNums t734)).size + 1 ≤ 9223372036854775807
 rotate_left
 ·
  rw [if_neg c8] at H
  exact absurd H Y4
 rw [if_pos c8] at H
 have c8b0 := eq_true c8
 have c8b1 := decide_eq_true c8
 try have c8b2 : (9223372036854775807 < (a2 ++ (strOfNums t734)).size + 1) = False := eq_false (Nat.not_lt.2 c8)
 have c8b3 : (9223372036854775807 < a2.size + (strOfNums t734).size + 1) = False := by rw [← ByteArray.size_append]; exact c8b2
 obtain rfl := Option.some.inj H
 go_enter Try.func9, Try.ntmps9
 go_wp2_with (first | ((with_reducible refine gate_dst (N := 6) rfl ?_); refine box_event ?hg (N := 6) ?hd (cs := #[.int .i64 a1_0, .int .i64 a1_1, .int .i64 a1_2, .slice A1_3 l1_3.length c1_3, .slice A1_4 l1_4.length c1_4]) (t := 28) ?hr ?_; (case hd => exact Y1); (case hg => exact Y1); (case hr => exact Y12); intro gb733 hg w9 hbox hb; have n0_ := Aside0.mk (below_step Y6 hb); have n1_ := Aside0.mk (hbox); have n2_ := Aside0.mk ((Y36 : w.heap.size ≤ gb733)); have n3_ := Aside0.mk ((Y36 : w.heap.size ≤ gb733)); clear HB; have HB := n0_; have BK733 := n1_; have GW733 := n2_; have GE733 := n3_; clear n0_ n1_ n2_ n3_; clear hb hbox hg; have hcz10_0 : w9.cell? ⟨gb733, 0, none⟩ = some (.int .i64 a1_0) := (blk_cell BK733.out 0).trans rfl; have hcz10_1 : w9.cell? ⟨gb733, 1, none⟩ = some (.int .i64 a1_1) := (blk_cell BK733.out 1).trans rfl; have hcz10_2 : w9.cell? ⟨gb733, 2, none⟩ = some (.int .i64 a1_2) := (blk_cell BK733.out 2).trans rfl; have hcz10_3 : w9.cell? ⟨gb733, 3, none⟩ = some (.slice A1_3 l1_3.length c1_3) := (blk_cell BK733.out 3).trans rfl; have hcz10_4 : w9.cell? ⟨gb733, 4, none⟩ = some (.slice A1_4 l1_4.length c1_4) := (blk_cell BK733.out 4).trans rfl; have hfz10_0 := blk_frozen BK733.out 0; have hfz10_1 := blk_frozen BK733.out 1; have hfz10_2 := blk_frozen BK733.out 2; have hfz10_3 := blk_frozen BK733.out 3; have hfz10_4 := blk_frozen BK733.out 4) | ((with_reducible refine gate_callee (f := 14) rfl ?_); refine goesL_ (some 17) rfl rfl Try.func14 Y0 rfl #[.slice none 0 0, .string a0, .agg #[.int .i64 a1_0, .int .i64 a1_1, .int .i64 a1_2, .slice A1_3 l1_3.length c1_3, .slice A1_4 l1_4.length c1_4], .string a2, .string a3, .bool false] rfl Y11 ?_; (refine (spec_laidTo.calls k (fun k_ => some k_ = (.slice none 0 0 : Value).ownBlock) (.slice none 0 0) ([] : List Int) a0 a1_0 a1_1 a1_2 _ _ l1_3 (fun k_ => k_ < w.heap.size) _ _ l1_4 a2 a3  t734 w _ ?side1 ?side2 ?side3 ?side4 ?side5 A6.out).mono ?_); (case side1 => exact Y20); (case side2 => exact Kd.R_nil _ _ _ _ _); (case side3 => exact Kd.C_kept_came k55_heap HR1_3.out Y20 (fun k_ hs_ => (fun e_ => by simp [Value.ownBlock] at e_) hs_)); (case side4 => exact HC1_3.out); (case side5 => exact Kd.V_mono (Kd.V_mk HC1_4.out (Kd.F_below (Kd.C_F k28_heap HR1_4.out) Y20)) (fun k_ hk_ => ⟨hk_, (by simp [Value.ownBlock])⟩)); rintro e w11 ⟨v735, rfl, ho0, hb, hkp⟩; refine ⟨_, rfl, ?_⟩; have n0_ := Aside0.mk (blk_kept (pB BK733.out) hkp (fun hs_ => (fun e_ => by simp [Value.ownBlock] at e_) hs_)); have n1_ := Aside0.mk (Kd.R_mono (ok' := fun k_ => True) ho0 (fun k_ hk_ => trivial)); have n2_ := Aside0.mk (hb); clear BK733; clear HB; have BK733 := n0_; have HO736 := n1_; have HB := n2_; clear n0_ n1_ n2_; (try clear hb); (try clear hkp); (try clear ho0); have hcv12 := own_string (P := Try.prog) Try.underlying40 Try.underlying5 Try.underlying9 (Kd.own_of_R HO736.out)))
 go_ret
 exact ⟨Y10, Y20⟩

/-! ### laws_FnPrLaid: function 3 -/
mutual
def laws_FnPrLaid.j0 : Nat → ByteArray → Bool → Int → ByteArray → ByteArray → Bool → Option (Bool)
 | 0, _, _, _, _, _, _ => none
 | k + 1, x0, x14, x738000, x738001, x738002, x738003 => if x14 = true then (some true) else ((laws_prPlaces.f k x0).bind fun bt739 => (if bt739.2.2.2.2.2 = true then (if x738000 = 0 then (if x738003 = true then (laws_FnPrLaid.j1 k x0 true x738000 x738001 x738002 x738003 bt739.1 bt739.2.1 bt739.2.2.1 bt739.2.2.2.1 bt739.2.2.2.2.1) else ((laws_prOneLine.f k x738000 x738001 x738002 x738003).bind fun t750 => (laws_FnPrLaid.j1 k x0 (!t750) x738000 x738001 x738002 x738003 bt739.1 bt739.2.1 bt739.2.2.1 bt739.2.2.2.1 bt739.2.2.2.2.1))) else (laws_FnPrLaid.j1 k x0 true x738000 x738001 x738002 x738003 bt739.1 bt739.2.1 bt739.2.2.1 bt739.2.2.2.1 bt739.2.2.2.2.1)) else (laws_FnPrLaid.j1 k x0 true x738000 x738001 x738002 x738003 bt739.1 bt739.2.1 bt739.2.2.1 bt739.2.2.2.1 bt739.2.2.2.2.1)))
def laws_FnPrLaid.j1 : Nat → ByteArray → Bool → Int → ByteArray → ByteArray → Bool → Int → Int → Int → List (S55) → List (S28) → Option (Bool)
 | 0, _, _, _, _, _, _, _, _, _, _, _ => none
 | k + 1, x0, x35, x738000, x738001, x738002, x738003, x750000, x750001, x750002, x750003, x750004 => if x35 = true then (some true) else ((impl_PrPretty.f k x0 x738000 x738001 x738002 x738003).bind fun t751 => ((spec_Laid.f k x0 x750000 x750001 x750002 x750003 x750004 x738001 x738002).bind fun t752 => (some (t751.toList == t752.toList))))
end
def laws_FnPrLaid.f (k : Nat) (a0 : ByteArray) (a1_0 : Int) (a1_1 : ByteArray) (a1_2 : ByteArray) (a1_3 : Bool) : Option (Bool) := if (a0.size : Int) > 2147483647 then (laws_FnPrLaid.j0 k a0 true a1_0 a1_1 a1_2 a1_3) else ((laws_zzFits7.f a1_0 a1_1 a1_2 a1_3).bind fun t738 => (laws_FnPrLaid.j0 k a0 (!t738) a1_0 a1_1 a1_2 a1_3))
theorem laws_FnPrLaid.mono_l : ∀ k, (∀ y0 y1 y2 y3 y4 y5, LeO (laws_FnPrLaid.j0 k y0 y1 y2 y3 y4 y5) (laws_FnPrLaid.j0 (k + 1) y0 y1 y2 y3 y4 y5)) ∧ (∀ y0 y1 y2 y3 y4 y5 y6 y7 y8 y9 y10, LeO (laws_FnPrLaid.j1 k y0 y1 y2 y3 y4 y5 y6 y7 y8 y9 y10) (laws_FnPrLaid.j1 (k + 1) y0 y1 y2 y3 y4 y5 y6 y7 y8 y9 y10))
 | 0 => ⟨fun _ _ _ _ _ _ r h => by simp [laws_FnPrLaid.j0] at h, fun _ _ _ _ _ _ _ _ _ _ _ r h => by simp [laws_FnPrLaid.j1] at h⟩
 | k + 1 => by
  obtain ⟨ih0, ih1⟩ := laws_FnPrLaid.mono_l k
  refine ⟨?_, ?_⟩
  ·
   intro y0 y1 y2 y3 y4 y5
   unfold laws_FnPrLaid.j0
   exact Y34
  intro y0 y1 y2 y3 y4 y5 y6 y7 y8 y9 y10
  unfold laws_FnPrLaid.j1
  exact Y34
theorem laws_FnPrLaid.mono : ∀ a0 a1 a2 a3 a4 k, LeO (laws_FnPrLaid.f k a0 a1 a2 a3 a4) (laws_FnPrLaid.f (k + 1) a0 a1 a2 a3 a4) := by
 intro a0 a1 a2 a3 a4 k
 obtain ⟨ih0, ih1⟩ := laws_FnPrLaid.mono_l k
 unfold laws_FnPrLaid.f
 repeat' first
   | (with_reducible exact ih0 _ _ _ _ _ _)
   | (with_reducible exact ih1 _ _ _ _ _ _ _ _ _ _ _)
   | (with_reducible exact impl_PrPretty.mono _ _ _ _ _ _)
   | (with_reducible exact laws_prOneLine.mono _ _ _ _ _)
   | (with_reducible exact laws_prPlaces.mono _ _)
   | (with_reducible exact spec_Laid.mono _ _ _ _ _ _ _ _ _)
   | (with_reducible exact LeO.refl _)
   | (with_reducible exact LeO.none _)
   | (with_reducible refine LeO.ite ?_ ?_)
   | (with_reducible refine LeO.bind ?_ (fun _ => ?_))
   | exact ih0 _ _ _ _ _ _
   | exact ih1 _ _ _ _ _ _ _ _ _ _ _
   | exact impl_PrPretty.mono _ _ _ _ _ _
   | exact laws_prOneLine.mono _ _ _ _ _
   | exact laws_prPlaces.mono _ _
   | exact spec_Laid.mono _ _ _ _ _ _ _ _ _
   | exact LeO.none _
   | refine LeO.ite ?_ ?_
   | refine LeO.bind ?_ (fun _ => ?_)
def laws_FnPrLaid.T6 : Bool × List (List Nat × List Nat) := (true, [([], []), ([], []), ([0, 1], [0, 1]), ([], []), ([], []), ([], []), ([5], [5]), ([], []), ([7], [7]), ([3, 4, 6, 8, 2], [3, 4, 6, 8]), ([2, 9], [2, 9]), ([10, 9, 0, 1, 2, 3, 4, 5, 6, 7, 8, 9, 10], [10])])
def laws_FnPrLaid.B6 : List Nat := [0, 0, 3, 0, 0, 0, 32, 0, 128, 511, 1023, 2047]
theorem laws_FnPrLaid.tab6 : rtab .any (opsOf Try.f3 6) = laws_FnPrLaid.T6 := Y0
theorem laws_FnPrLaid.bits6 : waitsOk laws_FnPrLaid.T6.2 laws_FnPrLaid.B6 = true := Y0
set_option maxHeartbeats 8000000 in
set_option maxRecDepth 100000 in
theorem laws_FnPrLaid.calls (k : Nat) (a0 : ByteArray) (a1_0 : Int) (a1_1 : ByteArray) (a1_2 : ByteArray) (a1_3 : Bool) (r : Bool) (w : World) (h : laws_FnPrLaid.f k a0 a1_0 a1_1 a1_2 a1_3 = some r) :
  Calls Try.prog 3 #[.string a0, .agg #[.int .i64 a1_0, .string a1_1, .string a1_2, .bool a1_3]] w fun e w' => e = .returned (.bool r) ∧ Below w.heap.size w w' := by
 have hu23 := Try.underlying23
 have hu28 := Try.underlying28
 have HB := Aside0.mk (Below.refl w.heap.size w)
 have H : (if (a0.size : Int) > 2147483647 then (laws_FnPrLaid.j0 k a0 true a1_0 a1_1 a1_2 a1_3) else ((laws_zzFits7.f a1_0 a1_1 a1_2 a1_3).bind fun t738 => (laws_FnPrLaid.j0 k a0 (!t738) a1_0 a1_1 a1_2 a1_3))) = some r := h
 clear h
 have HC3 := Aside0.mk H
 clear H
 go_enter Try.func3, Try.ntmps3
 go_upto_region 1 with (first | ((with_reducible refine gate_dst (N := 3) rfl ?_); refine box_event ?hg (N := 3) ?hd (cs := #[.int .i64 a1_0, .string a1_1, .string a1_2, .bool a1_3]) (t := 23) ?hr ?_; (case hd => exact Y1); (case hg => exact Y1); (case hr => exact Y12); intro gb737 hg w4 hbox hb; have n0_ := Aside0.mk (below_step Y6 hb); have n1_ := Aside0.mk (hbox); have n2_ := Aside0.mk ((Y36 : w.heap.size ≤ gb737)); have n3_ := Aside0.mk ((Y36 : w.heap.size ≤ gb737)); clear HB; have HB := n0_; have BK737 := n1_; have GW737 := n2_; have GE737 := n3_; clear n0_ n1_ n2_ n3_; clear hb hbox hg))
 (try simp only [Act.put, List.setIfInBounds_toArray, List.set_cons_zero, List.set_cons_succ])
 go_cut [14] (fun v14 wc => ∃ (kq : Nat) (x14_2 : Bool), v14 = .bool x14_2 ∧ Aside0 (laws_FnPrLaid.j0 kq a0 x14_2 a1_0 a1_1 a1_2 a1_3 = some r) ∧ Aside0 (kq ≤ k) ∧ Aside0 (wc.heap[gb737]? = some (.cells #[.int .i64 a1_0, .string a1_1, .string a1_2, .bool a1_3] 23 (0, 0))) ∧ Aside0 (Below w.heap.size w wc))
 case first =>
  have H := HC3.out
  clear HC3
  by_cases c5 : (a0.size : Int) > 2147483647
  ·
   rw [if_pos c5] at H
   have c5b0 := decide_eq_true c5
   have c5b1 : decide (2147483647 < a0.size) = true := decide_eq_true Y7
   clear c5
   (first | rw [c5b0] | (simp only [i64_w, i32_w]; rw [c5b0]) | skip)
   have H' := Aside0.mk H
   clear H
   go_wp2
   go_meet
   case rel => exact ⟨_, (true), Y9, H', ⟨Y18⟩, ⟨pB BK737.out⟩, ⟨Y13⟩⟩
  rw [if_neg c5] at H
  have c5b0 := decide_eq_false c5
  have c5b1 : decide (2147483647 < a0.size) = false := decide_eq_false Y7
  clear c5
  (first | rw [c5b0] | (simp only [i64_w, i32_w]; rw [c5b0]) | skip)
  replace H := Option.bind_eq_some_iff.mp H
  obtain ⟨t738, A60, H⟩ := H
  have A6 := Aside0.mk A60
  clear A60
  have H' := Aside0.mk H
  clear H
  have hcz7_0 : w4.cell? ⟨gb737, 0, none⟩ = some (.int .i64 a1_0) := (blk_cell BK737.out 0).trans rfl
  have hcz7_1 : w4.cell? ⟨gb737, 1, none⟩ = some (.string a1_1) := (blk_cell BK737.out 1).trans rfl
  have hcz7_2 : w4.cell? ⟨gb737, 2, none⟩ = some (.string a1_2) := (blk_cell BK737.out 2).trans rfl
  have hcz7_3 : w4.cell? ⟨gb737, 3, none⟩ = some (.bool a1_3) := (blk_cell BK737.out 3).trans rfl
  have hfz7_0 := blk_frozen BK737.out 0
  have hfz7_1 := blk_frozen BK737.out 1
  have hfz7_2 := blk_frozen BK737.out 2
  have hfz7_3 := blk_frozen BK737.out 3
  go_wp2_with (first | (go_at_call 5; (with_reducible refine (laws_zzFits7.calls a1_0 a1_1 a1_2 a1_3 t738 _ A6.out).mono ?_); rintro e w8 ⟨rfl, hb⟩; have n0_ := Aside0.mk (blk_below (g := gb737) (o := .cells #[.int .i64 a1_0, .string a1_1, .string a1_2, .bool a1_3] 23 (0, 0)) (pB BK737.out) hb); have n1_ := Aside0.mk (below_step Y13 hb); clear BK737; clear HB; have BK737 := n0_; have HB := n1_; clear n0_ n1_; (try clear hb); (try clear hb2); (try clear hk); (try clear hi)))
  go_meet
  case rel => exact ⟨_, (!t738), Y9, H', ⟨Y18⟩, ⟨pB BK737.out⟩, ⟨Y13⟩⟩
 clear HC3; try clear p2; try clear c3; try clear c5; try clear c5b0; try clear c5b1; try clear hcz7_0; try clear hcz7_1; try clear hcz7_2; try clear hcz7_3; try clear hfz7_0; try clear hfz7_1; try clear hfz7_2; try clear hfz7_3
 obtain ⟨kq, x14_2, rfl, HA, HJ2, BK737, HB⟩ := hcut
 cases kq with
 | zero => exact absurd HA.out (by simp [laws_FnPrLaid.j0])
 | succ kj2 =>
 have H := HA.out
 clear HA
 simp only [laws_FnPrLaid.j0] at H
 by_cases c9 : x14_2 = true
 ·
  subst c9
  rw [if_pos rfl] at H
  obtain rfl := Option.some.inj H
  go_wp2
  go_ret
  exact ⟨Y10, Y13⟩
 replace c9 := Bool.eq_false_iff.mpr c9
 subst c9
 rw [if_neg (show ¬ (false = true) from Y3)] at H
 replace H := Option.bind_eq_some_iff.mp H
 obtain ⟨⟨t739, t740, t741, t742, t745, t748⟩, A100, H⟩ := H
 dsimp only at H
 have A10 := Aside0.mk A100
 clear A100
 have HC11 := Aside0.mk H
 clear H
 go_upto_region 4 with (first | ((with_reducible refine gate_callee (f := 6) rfl ?_); refine goesL_ (some 17) rfl rfl Try.func6 Y0 rfl #[.string a0] rfl Y11 ?_; (with_reducible refine (laws_prPlaces.calls kj2 a0 t739 t740 t741 t742 t745 t748 _ A10.out).mono ?_); rintro e w12 ⟨v743, v746, rfl, ho0, ho1, hb⟩; refine ⟨_, rfl, ?_⟩; have n0_ := Aside0.mk (Kd.R_lower ho0 (below_size Y13)); have n1_ := Aside0.mk (Kd.R_lower ho1 (below_size Y13)); have n2_ := Aside0.mk (blk_below (g := gb737) (o := .cells #[.int .i64 a1_0, .string a1_1, .string a1_2, .bool a1_3] 23 (0, 0)) (pB BK737.out) hb); have n3_ := Aside0.mk (below_step Y13 hb); clear BK737; clear HB; have HO744 := n0_; have HO747 := n1_; have BK737 := n2_; have HB := n3_; clear n0_ n1_ n2_ n3_; (try clear hb); (try clear hb2); (try clear hk); (try clear hi); (try clear ho0); (try clear ho1)) | ((with_reducible refine gate_dst (N := 5) rfl ?_); refine box_event ?hg (N := 5) ?hd (cs := #[.int .i64 0, .int .i64 0, .int .i64 0, .slice none 0 0, .slice none 0 0]) (t := 28) ?hr ?_; (case hd => exact Y1); (case hg => exact Y1); (case hr => exact Y12); intro gb749 hg w13 hbox hb; have n0_ := Aside0.mk (Kd.R_below (pR HO744.out) hb); have n1_ := Aside0.mk (Kd.R_below (Kd.R_elderB (pR HO747.out) gb749 (Nat.le_of_eq hg.symm)) hb); have n2_ := Aside0.mk (blk_below (g := gb737) (o := .cells #[.int .i64 a1_0, .string a1_1, .string a1_2, .bool a1_3] 23 (0, 0)) (pB BK737.out) hb); have n3_ := Aside0.mk (below_step Y13 hb); have n4_ := Aside0.mk (hbox); have n5_ := Aside0.mk ((by rw [hg]; exact (below_size Y13) : w.heap.size ≤ gb749)); have n6_ := Aside0.mk ((by rw [hg]; exact (below_size Y13) : w.heap.size ≤ gb749)); have n7_ := Aside0.mk ((by rw [hg]; exact Nat.ne_of_lt (blk_lt (g := gb737) (o := .cells #[.int .i64 a1_0, .string a1_1, .string a1_2, .bool a1_3] 23 (0, 0)) (pB BK737.out)) : gb737 ≠ gb749)); have n8_ := Aside0.mk ((by rw [hg]; exact Nat.ne_of_gt (blk_lt (g := gb737) (o := .cells #[.int .i64 a1_0, .string a1_1, .string a1_2, .bool a1_3] 23 (0, 0)) (pB BK737.out)) : gb749 ≠ gb737)); clear HO744; clear HO747; clear BK737; clear HB; have HO744 := n0_; have HO747 := n1_; have BK737 := n2_; have HB := n3_; have BK749 := n4_; have GW749 := n5_; have GE749 := n6_; have NB737_749 := n7_; have NB749_737 := n8_; clear n0_ n1_ n2_ n3_ n4_ n5_ n6_ n7_ n8_; clear hb hbox hg; have hnb14 := NB749_737.out; have hnc14 := NB737_749.out; have hcz15_0 : w13.cell? ⟨gb749, 0, none⟩ = some (.int .i64 0) := (blk_cell BK749.out 0).trans rfl; have hcz15_1 : w13.cell? ⟨gb749, 1, none⟩ = some (.int .i64 0) := (blk_cell BK749.out 1).trans rfl; have hcz15_2 : w13.cell? ⟨gb749, 2, none⟩ = some (.int .i64 0) := (blk_cell BK749.out 2).trans rfl; have hcz15_3 : w13.cell? ⟨gb749, 3, none⟩ = some (.slice none 0 0) := (blk_cell BK749.out 3).trans rfl; have hcz15_4 : w13.cell? ⟨gb749, 4, none⟩ = some (.slice none 0 0) := (blk_cell BK749.out 4).trans rfl; have hfz15_0 := blk_frozen BK749.out 0; have hfz15_1 := blk_frozen BK749.out 1; have hfz15_2 := blk_frozen BK749.out 2; have hfz15_3 := blk_frozen BK749.out 3; have hfz15_4 := blk_frozen BK749.out 4; obtain ⟨Ao16, co16, eo16⟩ := Kd.R_slice HO744.out; subst eo16; obtain ⟨Ao17, co17, eo17⟩ := Kd.R_slice HO747.out; subst eo17))
 (try simp only [Act.put, List.setIfInBounds_toArray, List.set_cons_zero, List.set_cons_succ])
 go_cut [35] (fun v35 wc => ∃ (kq : Nat) (x35_10 : Bool), v35 = .bool x35_10 ∧ Aside0 (laws_FnPrLaid.j1 kq a0 x35_10 a1_0 a1_1 a1_2 a1_3 t739 t740 t741 t742 t745 = some r) ∧ Aside0 (kq ≤ kj2) ∧ Aside0 (Kd.R k55 55 wc w.heap.size (fun _ => True) (.slice Ao16 t742.length co16) t742) ∧ Aside0 (Kd.R k28 28 wc w.heap.size (fun k_ => some k_ ≠ ((.slice Ao16 t742.length co16) : Value).ownBlock ∧ k_ ≠ gb749) (.slice Ao17 t745.length co17) t745) ∧ Aside0 (wc.heap[gb737]? = some (.cells #[.int .i64 a1_0, .string a1_1, .string a1_2, .bool a1_3] 23 (0, 0))) ∧ Aside0 (wc.heap[gb749]? = some (.cells #[.int .i64 t739, .int .i64 t740, .int .i64 t741, (.slice Ao16 t742.length co16), (.slice Ao17 t745.length co17)] 28 (0, 0))) ∧ Aside0 (Below w.heap.size w wc))
 case first =>
  have H := HC11.out
  clear HC11
  by_cases c18 : t748 = true
  rotate_left
  ·
   replace c18 := Bool.eq_false_iff.mpr c18
   subst c18
   rw [if_neg (show ¬ (false = true) from Y3)] at H
   have H' := Aside0.mk H
   clear H
   go_wp2
   go_meet
   case rel => exact ⟨_, (true), Y9, H', ⟨Y21⟩, ⟨Y37⟩, ⟨Y27⟩, ⟨Y22⟩, ⟨Y23⟩, ⟨Y15⟩⟩
  subst c18
  rw [if_pos rfl] at H
  by_cases c19 : a1_0 = 0
  rotate_left
  ·
   rw [if_neg c19] at H
   have c19b0 := beq_eq_false_iff_ne.mpr c19
   have c19b1 := bne_iff_ne.mpr c19
   (first | rw [c19b0] | (simp only [i64_w, i32_w]; rw [c19b0]) | skip)
   have H' := Aside0.mk H
   clear H
   have hnb27 := NB737_749.out
   have hnc27 := NB749_737.out
   have hcz28_0 : w13.cell? ⟨gb737, 0, none⟩ = some (.int .i64 a1_0) := (blk_cell BK737.out 0).trans rfl
   have hcz28_1 : w13.cell? ⟨gb737, 1, none⟩ = some (.string a1_1) := (blk_cell BK737.out 1).trans rfl
   have hcz28_2 : w13.cell? ⟨gb737, 2, none⟩ = some (.string a1_2) := (blk_cell BK737.out 2).trans rfl
   have hcz28_3 : w13.cell? ⟨gb737, 3, none⟩ = some (.bool a1_3) := (blk_cell BK737.out 3).trans rfl
   have hfz28_0 := blk_frozen BK737.out 0
   have hfz28_1 := blk_frozen BK737.out 1
   have hfz28_2 := blk_frozen BK737.out 2
   have hfz28_3 := blk_frozen BK737.out 3
   go_wp2
   go_meet
   case rel => exact ⟨_, (true), Y9, H', ⟨Y21⟩, ⟨Y37⟩, ⟨Y27⟩, ⟨Y22⟩, ⟨Y23⟩, ⟨Y15⟩⟩
  rw [if_pos c19] at H
  have c19b0 := beq_iff_eq.mpr c19
  have c19b1 := bne_eq_false_iff_eq.mpr c19
  clear c19
  (first | rw [c19b0] | (simp only [i64_w, i32_w]; rw [c19b0]) | skip)
  by_cases c20 : a1_3 = true
  ·
   subst c20
   rw [if_pos rfl] at H
   have H' := Aside0.mk H
   clear H
   have hnb21 := NB737_749.out
   have hnc21 := NB749_737.out
   have hcz22_0 : w13.cell? ⟨gb737, 0, none⟩ = some (.int .i64 a1_0) := (blk_cell BK737.out 0).trans rfl
   have hcz22_1 : w13.cell? ⟨gb737, 1, none⟩ = some (.string a1_1) := (blk_cell BK737.out 1).trans rfl
   have hcz22_2 : w13.cell? ⟨gb737, 2, none⟩ = some (.string a1_2) := (blk_cell BK737.out 2).trans rfl
   have hcz22_3 : w13.cell? ⟨gb737, 3, none⟩ = some (.bool true) := (blk_cell BK737.out 3).trans rfl
   have hfz22_0 := blk_frozen BK737.out 0
   have hfz22_1 := blk_frozen BK737.out 1
   have hfz22_2 := blk_frozen BK737.out 2
   have hfz22_3 := blk_frozen BK737.out 3
   go_wp2
   go_meet
   case rel => exact ⟨_, (true), Y9, H', ⟨Y21⟩, ⟨Y37⟩, ⟨Y27⟩, ⟨Y22⟩, ⟨Y23⟩, ⟨Y15⟩⟩
  replace c20 := Bool.eq_false_iff.mpr c20
  subst c20
  rw [if_neg (show ¬ (false = true) from Y3)] at H
  replace H := Option.bind_eq_some_iff.mp H
  obtain ⟨t750, A230, H⟩ := H
  have A23 := Aside0.mk A230
  clear A230
  have H' := Aside0.mk H
  clear H
  have hnb24 := NB737_749.out
  have hnc24 := NB749_737.out
  have hcz25_0 : w13.cell? ⟨gb737, 0, none⟩ = some (.int .i64 a1_0) := (blk_cell BK737.out 0).trans rfl
  have hcz25_1 : w13.cell? ⟨gb737, 1, none⟩ = some (.string a1_1) := (blk_cell BK737.out 1).trans rfl
  have hcz25_2 : w13.cell? ⟨gb737, 2, none⟩ = some (.string a1_2) := (blk_cell BK737.out 2).trans rfl
  have hcz25_3 : w13.cell? ⟨gb737, 3, none⟩ = some (.bool false) := (blk_cell BK737.out 3).trans rfl
  have hfz25_0 := blk_frozen BK737.out 0
  have hfz25_1 := blk_frozen BK737.out 1
  have hfz25_2 := blk_frozen BK737.out 2
  have hfz25_3 := blk_frozen BK737.out 3
  go_wp2_with (first | (go_at_call 7; (with_reducible refine (laws_prOneLine.calls kj2 a1_0 a1_1 a1_2 false t750 _ A23.out).mono ?_); rintro e w26 ⟨rfl, hb⟩; have n0_ := Aside0.mk (Kd.R_below (by (with_reducible repeat (first | apply Kd.R_alloc | apply Kd.R_drewN | apply Kd.R_drew)); exact (Kd.R_mono (Kd.R_far (p := ⟨gb749, 4, none⟩) (Kd.R_far (p := ⟨gb749, 3, none⟩) (Kd.R_far (p := ⟨gb749, 2, none⟩) (Kd.R_far (p := ⟨gb749, 1, none⟩) (Kd.R_far (p := ⟨gb749, 0, none⟩) (Kd.R_types HO744.out BK749.out Y3) (fun _ hk => hk.2) (.int .i64 t739)) (fun _ hk => hk.2) (.int .i64 t740)) (fun _ hk => hk.2) (.int .i64 t741)) (fun _ hk => hk.2) (.slice Ao16 t742.length co16)) (fun _ hk => hk.2) (.slice Ao17 t745.length co17)) (fun _ h_ => h_.1))) hb); have n1_ := Aside0.mk (Kd.R_below (by (with_reducible repeat (first | apply Kd.R_alloc | apply Kd.R_drewN | apply Kd.R_drew)); exact (Kd.R_mono (Kd.R_far (p := ⟨gb749, 4, none⟩) (Kd.R_far (p := ⟨gb749, 3, none⟩) (Kd.R_far (p := ⟨gb749, 2, none⟩) (Kd.R_far (p := ⟨gb749, 1, none⟩) (Kd.R_far (p := ⟨gb749, 0, none⟩) (Kd.R_mono HO747.out (fun k_ hk => (⟨hk, hk.2⟩ : _ ∧ k_ ≠ gb749))) (fun _ hk => hk.2) (.int .i64 t739)) (fun _ hk => hk.2) (.int .i64 t740)) (fun _ hk => hk.2) (.int .i64 t741)) (fun _ hk => hk.2) (.slice Ao16 t742.length co16)) (fun _ hk => hk.2) (.slice Ao17 t745.length co17)) (fun _ h_ => h_.1))) hb); have n2_ := Aside0.mk (blk_below (g := gb737) (o := .cells #[.int .i64 a1_0, .string a1_1, .string a1_2, .bool false] 23 (0, 0)) Y22 hb); have n3_ := Aside0.mk (blk_below (g := gb749) (o := .cells #[.int .i64 t739, .int .i64 t740, .int .i64 t741, .slice Ao16 t742.length co16, .slice Ao17 t745.length co17] 28 (0, 0)) Y23 hb); have n4_ := Aside0.mk (below_step Y15 hb); clear HO744; clear HO747; clear BK737; clear BK749; clear HB; have HO744 := n0_; have HO747 := n1_; have BK737 := n2_; have BK749 := n3_; have HB := n4_; clear n0_ n1_ n2_ n3_ n4_; (try clear hb); (try clear hb2); (try clear hk); (try clear hi)))
  go_meet
  case rel => exact ⟨_, (!t750), Y9, H', ⟨Y21⟩, ⟨pR HO744.out⟩, ⟨pR HO747.out⟩, ⟨pB BK737.out⟩, ⟨pB BK749.out⟩, ⟨Y15⟩⟩
 clear HC11; try clear c1; try clear c2; try clear p2; try clear c3; try clear c5; try clear c5b0; try clear c5b1; try clear c6; try clear c9; try clear c14; try clear c18; try clear c19; try clear c19b0; try clear c19b1; try clear c20; try clear c21; try clear c24; try clear c27; try clear hcz15_0; try clear hcz15_1; try clear hcz15_2; try clear hcz15_3; try clear hcz15_4; try clear hcz22_0; try clear hcz22_1; try clear hcz22_2; try clear hcz22_3; try clear hcz25_0; try clear hcz25_1; try clear hcz25_2; try clear hcz25_3; try clear hcz28_0; try clear hcz28_1; try clear hcz28_2; try clear hcz28_3; try clear hcz7_0; try clear hcz7_1; try clear hcz7_2; try clear hcz7_3; try clear hfz15_0; try clear hfz15_1; try clear hfz15_2; try clear hfz15_3; try clear hfz15_4; try clear hfz22_0; try clear hfz22_1; try clear hfz22_2; try clear hfz22_3; try clear hfz25_0; try clear hfz25_1; try clear hfz25_2; try clear hfz25_3; try clear hfz28_0; try clear hfz28_1; try clear hfz28_2; try clear hfz28_3; try clear hfz7_0; try clear hfz7_1; try clear hfz7_2; try clear hfz7_3; try clear p2
 obtain ⟨kq, x35_10, rfl, HA, HJ10, HO_750003, HO_750004, BK737, BK749, HB⟩ := hcut
 cases kq with
 | zero => exact absurd HA.out (by simp [laws_FnPrLaid.j1])
 | succ kj10 =>
 have H := HA.out
 clear HA
 simp only [laws_FnPrLaid.j1] at H
 by_cases c29 : x35_10 = true
 ·
  subst c29
  rw [if_pos rfl] at H
  obtain rfl := Option.some.inj H
  go_wp2
  go_ret
  exact ⟨Y10, Y15⟩
 replace c29 := Bool.eq_false_iff.mpr c29
 subst c29
 rw [if_neg (show ¬ (false = true) from Y3)] at H
 replace H := Option.bind_eq_some_iff.mp H
 obtain ⟨t751, A300, H⟩ := H
 have A30 := Aside0.mk A300
 clear A300
 replace H := Option.bind_eq_some_iff.mp H
 obtain ⟨t752, A310, H⟩ := H
 have A31 := Aside0.mk A310
 clear A310
 obtain rfl := Option.some.inj H
 try go_wp2
 have n0_ := Aside0.mk (Kd.R_drew HO_750003.out)
 have n1_ := Aside0.mk (Kd.R_drew HO_750004.out)
 have n2_ := Aside0.mk (blk_drew BK737.out)
 have n3_ := Aside0.mk (blk_drew BK749.out)
 have n4_ := Aside0.mk (below_drew1 HB.out)
 clear HO_750003; clear HO_750004; clear BK737; clear BK749; clear HB
 have HO_750003 := n0_
 have HO_750004 := n1_
 have BK737 := n2_
 have BK749 := n3_
 have HB := n4_
 clear n0_ n1_ n2_ n3_ n4_
 refine start_ (n := 12) (S := fun w' => w'.cell? ⟨gb737, 0, none⟩ = some (.int .i64 a1_0) ∧ w'.cell? ⟨gb737, 1, none⟩ = some (.string a1_1) ∧ w'.cell? ⟨gb737, 2, none⟩ = some (.string a1_2) ∧ w'.cell? ⟨gb737, 3, none⟩ = some (.bool a1_3) ∧ w'.cell? ⟨gb749, 0, none⟩ = some (.int .i64 t739) ∧ w'.cell? ⟨gb749, 1, none⟩ = some (.int .i64 t740) ∧ w'.cell? ⟨gb749, 2, none⟩ = some (.int .i64 t741) ∧ w'.cell? ⟨gb749, 3, none⟩ = some (.slice Ao16 t742.length co16) ∧ w'.cell? ⟨gb749, 4, none⟩ = some (.slice Ao17 t745.length co17)) (ds := []) #[false, false, false, false, false, false, false, false, false, false, false, false] Y0 rfl rfl ⟨(blk_cell BK737.out 0).trans rfl, (blk_cell BK737.out 1).trans rfl, (blk_cell BK737.out 2).trans rfl, (blk_cell BK737.out 3).trans rfl, (blk_cell BK749.out 0).trans rfl, (blk_cell BK749.out 1).trans rfl, (blk_cell BK749.out 2).trans rfl, (blk_cell BK749.out 3).trans rfl, (blk_cell BK749.out 4).trans rfl⟩ (fun hHeld => ?_); refine with_tabW laws_FnPrLaid.tab6 laws_FnPrLaid.bits6 (fun HT_ HW_ => ?_)
 generalize wc.drew = w32 at HO_750003 HO_750004 BK737 BK749 HB hHeld ⊢
 refine pure_ (i := 0) (N := some 36) (v := ?_) (a' := ?_) #[true, false, false, false, false, false, false, false, false, false, false, false] rfl rfl (any_of HT_.out Y0) (fun _ _ _ h => h) (Or.inl ⟨Y1, ?_⟩) ?_ ?_
 rotate_left
 ·
  intro w'
  go_simp
  with_reducible rfl
 rotate_left
 ·
  simp only [Act.put, List.setIfInBounds_toArray, List.set_cons_zero, List.set_cons_succ, i64_w, i32_w]
  rfl
 refine pure_ (i := 3) (N := some 39) (v := ?_) (a' := ?_) #[true, false, false, true, false, false, false, false, false, false, false, false] rfl rfl (any_of HT_.out Y0) (fun _ _ _ h => h) (Or.inl ⟨Y1, ?_⟩) ?_ ?_
 rotate_left
 ·
  intro w'
  go_simp
  with_reducible rfl
 rotate_left
 ·
  simp only [Act.put, List.setIfInBounds_toArray, List.set_cons_zero, List.set_cons_succ, i64_w, i32_w]
  rfl
 refine pure_ (i := 5) (N := some 41) (v := ?_) (a' := ?_) #[true, false, false, true, false, true, false, false, false, false, false, false] rfl rfl (any_of HT_.out Y0) (fun _ _ _ h => h) (Or.inl ⟨Y1, ?_⟩) ?_ ?_
 rotate_left
 ·
  intro w'
  go_simp
  with_reducible rfl
 rotate_left
 ·
  simp only [Act.put, List.setIfInBounds_toArray, List.set_cons_zero, List.set_cons_succ, i64_w, i32_w]
  rfl
 refine pure_ (i := 7) (N := some 43) (v := ?_) (a' := ?_) #[true, false, false, true, false, true, false, true, false, false, false, false] rfl rfl (any_of HT_.out Y0) (fun _ _ _ h => h) (Or.inl ⟨Y1, ?_⟩) ?_ ?_
 rotate_left
 ·
  intro w'
  go_simp
  with_reducible rfl
 rotate_left
 ·
  simp only [Act.put, List.setIfInBounds_toArray, List.set_cons_zero, List.set_cons_succ, i64_w, i32_w]
  rfl
 refine take_ (i := 1) (N := some 37) (v := ?_) (a' := ?_) #[true, true, false, true, false, true, false, true, false, false, false, false] rfl rfl (take_ofW HT_.out HW_.out Y0) (fun _ _ _ h => h) (Or.inl ⟨Y1, ?_⟩) hHeld ?_ ?_
 rotate_left
 ·
  rintro w' ⟨s0, s1, s2, s3, s4, s5, s6, s7, s8⟩
  go_simp
  with_reducible rfl
 rotate_left
 ·
  simp only [Act.put, List.setIfInBounds_toArray, List.set_cons_zero, List.set_cons_succ, i64_w, i32_w]
  rfl
 refine take_ (i := 4) (N := some 40) (v := ?_) (a' := ?_) #[true, true, false, true, true, true, false, true, false, false, false, false] rfl rfl (take_ofW HT_.out HW_.out Y0) (fun _ _ _ h => h) (Or.inl ⟨Y1, ?_⟩) hHeld ?_ ?_
 rotate_left
 ·
  rintro w' ⟨s0, s1, s2, s3, s4, s5, s6, s7, s8⟩
  go_simp
  with_reducible rfl
 rotate_left
 ·
  simp only [Act.put, List.setIfInBounds_toArray, List.set_cons_zero, List.set_cons_succ, i64_w, i32_w]
  rfl
 refine take_ (i := 6) (N := some 42) (v := ?_) (a' := ?_) #[true, true, false, true, true, true, true, true, false, false, false, false] rfl rfl (take_ofW HT_.out HW_.out Y0) (fun _ _ _ h => h) (Or.inl ⟨Y1, ?_⟩) hHeld ?_ ?_
 rotate_left
 ·
  rintro w' ⟨s0, s1, s2, s3, s4, s5, s6, s7, s8⟩
  go_simp
  with_reducible rfl
 rotate_left
 ·
  simp only [Act.put, List.setIfInBounds_toArray, List.set_cons_zero, List.set_cons_succ, i64_w, i32_w]
  rfl
 refine take_ (i := 8) (N := some 44) (v := ?_) (a' := ?_) #[true, true, false, true, true, true, true, true, true, false, false, false] rfl rfl (take_ofW HT_.out HW_.out Y0) (fun _ _ _ h => h) (Or.inl ⟨Y1, ?_⟩) hHeld ?_ ?_
 rotate_left
 ·
  rintro w' ⟨s0, s1, s2, s3, s4, s5, s6, s7, s8⟩
  go_simp
  with_reducible rfl
 rotate_left
 ·
  simp only [Act.put, List.setIfInBounds_toArray, List.set_cons_zero, List.set_cons_succ, i64_w, i32_w]
  rfl
 refine one_ (i := 2) (N := some 38) #[true, true, true, true, true, true, true, true, true, false, false, false] rfl rfl (one_of HT_.out Y0) Y3 (fun K hK => ?_)
 refine goes_ Try.func8 Y0 rfl #[.string a0, .agg #[.int .i64 a1_0, .string a1_1, .string a1_2, .bool a1_3]] Y1 rfl rfl Y11 ?_
 with_reducible refine (impl_PrPretty.calls kj10 a0 a1_0 a1_1 a1_2 a1_3 t751 _ A30.out).mono ?_
 rintro e w33 ⟨rfl, hb⟩
 refine ⟨_, rfl, ?_⟩
 have n0_ := Aside0.mk (Kd.R_below (pR HO_750003.out) hb)
 have n1_ := Aside0.mk (Kd.R_below (pR HO_750004.out) hb)
 have n2_ := Aside0.mk (blk_below (g := gb737) (o := .cells #[.int .i64 a1_0, .string a1_1, .string a1_2, .bool a1_3] 23 (0, 0)) (pB BK737.out) hb)
 have n3_ := Aside0.mk (blk_below (g := gb749) (o := .cells #[.int .i64 t739, .int .i64 t740, .int .i64 t741, .slice Ao16 t742.length co16, .slice Ao17 t745.length co17] 28 (0, 0)) (pB BK749.out) hb)
 have n4_ := Aside0.mk (below_step Y15 hb)
 clear HO_750003; clear HO_750004; clear BK737; clear BK749; clear HB
 have HO_750003 := n0_
 have HO_750004 := n1_
 have BK737 := n2_
 have BK749 := n3_
 have HB := n4_
 clear n0_ n1_ n2_ n3_ n4_
 (try clear hb)
 (try clear hb2)
 (try clear hk)
 (try clear hi)
 refine hK.out _ _ ⟨(blk_cell BK737.out 0).trans rfl, (blk_cell BK737.out 1).trans rfl, (blk_cell BK737.out 2).trans rfl, (blk_cell BK737.out 3).trans rfl, (blk_cell BK749.out 0).trans rfl, (blk_cell BK749.out 1).trans rfl, (blk_cell BK749.out 2).trans rfl, (blk_cell BK749.out 3).trans rfl, (blk_cell BK749.out 4).trans rfl⟩ (fun hHeld => ?_)
 clear hK K
 refine norm_ (a' := ?_) ?_ ?_
 rotate_left
 ·
  show Act.put _ (some 38) _ = _
  simp only [Act.put, List.setIfInBounds_toArray, List.set_cons_zero, List.set_cons_succ, i64_w, i32_w]
  rfl
 refine one_ (i := 9) (N := some 45) #[true, true, true, true, true, true, true, true, true, true, false, false] rfl rfl (one_of HT_.out Y0) Y3 (fun K hK => ?_)
 refine goes_ Try.func9 Y0 rfl #[.string a0, .agg #[.int .i64 t739, .int .i64 t740, .int .i64 t741, .slice Ao16 t742.length co16, .slice Ao17 t745.length co17], .string a1_1, .string a1_2, .bool false] Y1 rfl rfl Y11 ?_
 with_reducible refine (spec_Laid.calls kj10 a0 t739 t740 t741 _ _ t742 _ _ t745 a1_1 a1_2  t752 _ ?side1 ?side2 ?side3 ?side4 A31.out).mono ?_
 (case side1 => repeat (first | exact (Kd.R_reads' HO_750003.out).2.2 | (with_reducible refine Kd.C_alloc ?_ _) | (with_reducible refine Kd.C_drewN ?_ _) | (with_reducible refine Kd.C_drew ?_)))
 (case side2 => exact (Kd.R_reads' HO_750003.out).2.1)
 (case side3 => repeat (first | exact (Kd.R_reads' HO_750004.out).2.2 | (with_reducible refine Kd.C_alloc ?_ _) | (with_reducible refine Kd.C_drewN ?_ _) | (with_reducible refine Kd.C_drew ?_)))
 (case side4 => exact (Kd.R_reads' HO_750004.out).2.1)
 rintro e w34 ⟨rfl, hb⟩
 refine ⟨_, rfl, ?_⟩
 have n0_ := Aside0.mk (Kd.R_below (pR HO_750003.out) hb)
 have n1_ := Aside0.mk (Kd.R_below (pR HO_750004.out) hb)
 have n2_ := Aside0.mk (blk_below (g := gb737) (o := .cells #[.int .i64 a1_0, .string a1_1, .string a1_2, .bool a1_3] 23 (0, 0)) (pB BK737.out) hb)
 have n3_ := Aside0.mk (blk_below (g := gb749) (o := .cells #[.int .i64 t739, .int .i64 t740, .int .i64 t741, .slice Ao16 t742.length co16, .slice Ao17 t745.length co17] 28 (0, 0)) (pB BK749.out) hb)
 have n4_ := Aside0.mk (below_step Y15 hb)
 clear HO_750003; clear HO_750004; clear BK737; clear BK749; clear HB
 have HO_750003 := n0_
 have HO_750004 := n1_
 have BK737 := n2_
 have BK749 := n3_
 have HB := n4_
 clear n0_ n1_ n2_ n3_ n4_
 (try clear hb)
 (try clear hb2)
 (try clear hk)
 (try clear hi)
 refine hK.out _ _ ⟨(blk_cell BK737.out 0).trans rfl, (blk_cell BK737.out 1).trans rfl, (blk_cell BK737.out 2).trans rfl, (blk_cell BK737.out 3).trans rfl, (blk_cell BK749.out 0).trans rfl, (blk_cell BK749.out 1).trans rfl, (blk_cell BK749.out 2).trans rfl, (blk_cell BK749.out 3).trans rfl, (blk_cell BK749.out 4).trans rfl⟩ (fun hHeld => ?_)
 clear hK K
 refine norm_ (a' := ?_) ?_ ?_
 rotate_left
 ·
  show Act.put _ (some 45) _ = _
  simp only [Act.put, List.setIfInBounds_toArray, List.set_cons_zero, List.set_cons_succ, i64_w, i32_w]
  rfl
 refine pure_ (i := 10) (N := some 46) (v := ?_) (a' := ?_) #[true, true, true, true, true, true, true, true, true, true, true, false] rfl rfl (any_of HT_.out Y0) (fun _ _ _ h => h) (Or.inl ⟨Y1, ?_⟩) ?_ ?_
 rotate_left
 ·
  intro w'
  go_simp
  with_reducible rfl
 rotate_left
 ·
  simp only [Act.put, List.setIfInBounds_toArray, List.set_cons_zero, List.set_cons_succ, i64_w, i32_w]
  rfl
 refine pure_ (i := 11) (N := some 4) (v := ?_) (a' := ?_) #[true, true, true, true, true, true, true, true, true, true, true, true] rfl rfl (any_of HT_.out Y0) (fun _ _ _ h => h) (Or.inl ⟨Y1, ?_⟩) ?_ ?_
 rotate_left
 ·
  intro w'
  go_simp
  with_reducible rfl
 rotate_left
 ·
  simp only [Act.put, List.setIfInBounds_toArray, List.set_cons_zero, List.set_cons_succ, i64_w, i32_w]
  rfl
 refine done_ (done_of HT_.out Y0) ?_
 try go_wp2
 go_ret
 exact ⟨Y10, Y15⟩

end Go.Proofs.Ytffdebhaclkhjaa.PFnPrWholeDefault
