-- Written by a program of the session (wip/tools) out of the translation. Not trusted: Lean checks it.
import Derived.Test.YtffdebhaclkhjaaLq
import Derived.Test.YtffdebhaclkhjaaSx0
import Derived.Test.YtffdebhaclkhjaaSx8
import Derived.Test.YtffdebhaclkhjaaSx10
namespace Go.Proofs.Ytffdebhaclkhjaa.PFnPrWholeDefault
open Go.RowKit Go.Proofs.YtffdebhaclkhjaaW.PrintWords Go.Proofs.YtffdebhaclkhjaaW.PrintLast Go.Proofs.YtffdebhaclkhjaaW.PrintMore
attribute [local go_sem] max2_int min2_int max_two min_two max_three min_three max_four min_four   -- for this text's walks alone
set_option linter.unusedVariables false
set_option linter.unusedSimpArgs false

/-! ### pretty_PrettyOpts: function 13 -/
def pretty_PrettyOpts.f (k : Nat) (l0 : List Int) (q0 : Int) (q1 q2 : ByteArray) : Option (List Int) := if 0 ≤ (l0.length : Int) then (if ((l0.length : Int) : Int).toNat ≤ 281474976710656 then ((some (([] : List Int) : List Int)).bind fun y548 => (if (q1.size : Int) = 0 then ((pretty_appendPrettyAny.f k y548 l0 0 true q0 q1 q2 0 0 (-1)).bind fun bt551 => (if (bt551.1.length : Int) > 0 then (if bt551.1.length < 140737488355328 then (some (bt551.1 ++ [10])) else (none)) else (some bt551.1))) else (if y548.length + q1.size < 140737488355328 then ((pretty_appendPrettyAny.f k (y548 ++ bytesOf q1) l0 0 true q0 q1 q2 0 0 (-1)).bind fun bt563 => (if (bt563.1.length : Int) > 0 then (if bt563.1.length < 140737488355328 then (some (bt563.1 ++ [10])) else (none)) else (some bt563.1))) else (none)))) else (none)) else (none)
theorem pretty_PrettyOpts.mono : ∀ a0 q0 q1 q2 k, LeO (pretty_PrettyOpts.f k a0 q0 q1 q2) (pretty_PrettyOpts.f (k + 1) a0 q0 q1 q2) := by
 intro a0 q0 q1 q2 k
 unfold pretty_PrettyOpts.f
 repeat' first
   | (with_reducible exact pretty_appendPrettyAny.mono _ _ _ _ _ _ _ _ _ _ _)
   | (with_reducible exact LeO.refl _)
   | (with_reducible exact LeO.none _)
   | (with_reducible refine LeO.ite ?_ ?_)
   | (with_reducible refine LeO.bind ?_ (fun _ => ?_))
   | exact pretty_appendPrettyAny.mono _ _ _ _ _ _ _ _ _ _ _
   | exact LeO.none _
   | refine LeO.ite ?_ ?_
   | refine LeO.bind ?_ (fun _ => ?_)
def pretty_PrettyOpts.T6 : Bool × List (List Nat × List Nat) := (true, [([], []), ([], []), ([], []), ([2], [2]), ([3], [3]), ([4], [4]), ([], []), ([6], [6]), ([7], [7]), ([8], [8]), ([], []), ([10], [10]), ([11], [11]), ([12], [12]), ([], []), ([14], [14]), ([15], [15]), ([16], [16]), ([0, 1, 5, 9, 13, 17], [0, 1, 5, 9, 13, 17]), ([18], [18]), ([19], [19]), ([19], [19]), ([19], [19]), ([19], [19]), ([20, 18, 0, 1, 2, 3, 4, 5, 6, 7, 8, 9, 10, 11, 12, 13, 14, 15, 16, 17, 18, 19, 20], [0, 20])])
def pretty_PrettyOpts.B6 : List Nat := [0, 0, 0, 4, 12, 28, 0, 64, 192, 448, 0, 1024, 3072, 7168, 0, 16384, 49152, 114688, 262143, 524287, 1048575, 1048575, 1048575, 1048575, 2097151]
theorem pretty_PrettyOpts.tab6 : rtab .any (opsOf Try.f13 6) = pretty_PrettyOpts.T6 := Y0
theorem pretty_PrettyOpts.bits6 : waitsOk pretty_PrettyOpts.T6.2 pretty_PrettyOpts.B6 = true := Y0
set_option maxHeartbeats 8000000 in
set_option maxRecDepth 100000 in
theorem pretty_PrettyOpts.calls (k : Nat) (A0 : Option Addr) (c0 : Nat) (l0 : List Int) (gb547 : Nat) (q0 : Int) (q1 q2 : ByteArray) (r : List Int) (w : World) (hbk : w.heap[gb547]? = some (.cells #[.int .i64 q0, .string q1, .string q2, .bool false] 43 (0, 0))) (hr0 : Kd.C (Kd.int .u8) w A0 l0.length l0) (hc0 : l0.length ≤ c0) (h : pretty_PrettyOpts.f k l0 q0 q1 q2 = some r) :
  Calls Try.prog 13 #[.slice A0 l0.length c0, .pointer (some ⟨gb547, 0, none⟩)] w fun e w' => ∃ v0_ : Value, e = .returned (v0_) ∧ Kd.R (Kd.int .u8) 5 w' w.heap.size (fun _ => True) v0_ r ∧ Below w.heap.size w w' := by
 have hu43 := Try.underlying43
 have HR0 := Aside0.mk hr0
 have HC0 := Aside0.mk hc0
 clear hr0 hc0
 have HB := Aside0.mk (Below.refl w.heap.size w)
 have BK547 := Aside0.mk hbk
 clear hbk
 have H : (if 0 ≤ (l0.length : Int) then (if ((l0.length : Int) : Int).toNat ≤ 281474976710656 then ((some (([] : List Int) : List Int)).bind fun y548 => (if (q1.size : Int) = 0 then ((pretty_appendPrettyAny.f k y548 l0 0 true q0 q1 q2 0 0 (-1)).bind fun bt551 => (if (bt551.1.length : Int) > 0 then (if bt551.1.length < 140737488355328 then (some (bt551.1 ++ [10])) else (none)) else (some bt551.1))) else (if y548.length + q1.size < 140737488355328 then ((pretty_appendPrettyAny.f k (y548 ++ bytesOf q1) l0 0 true q0 q1 q2 0 0 (-1)).bind fun bt563 => (if (bt563.1.length : Int) > 0 then (if bt563.1.length < 140737488355328 then (some (bt563.1 ++ [10])) else (none)) else (some bt563.1))) else (none)))) else (none)) else (none)) = some r := h
 clear h
 by_cases c3 : 0 ≤ (l0.length : Int)
 rotate_left
 ·
  rw [if_neg c3] at H
  exact absurd H Y4
 rw [if_pos c3] at H
 have c3b0 := eq_true c3
 have c3b1 := decide_eq_true c3
 clear c3
 by_cases c4 : ((l0.length : Int) : Int).toNat ≤ 281474976710656
 rotate_left
 ·
  rw [if_neg c4] at H
  exact absurd H Y4
 rw [if_pos c4] at H
 have c4b0 := eq_true c4
 have c4b1 := decide_eq_true c4
 clear c4
 obtain ⟨y548, hy548⟩ : ∃ y_ : List Int, y_ = (([] : List Int)) := ⟨_, rfl⟩
 first | replace H := bind_y hy548 H | rw [← hy548] at H
 have Ny548 := Aside0.mk hy548
 clear hy548
 have HC5 := Aside0.mk H
 clear H
 go_enter Try.func13, Try.ntmps13
 go_upto_if 18 with (first | ((with_reducible refine gate_dst (N := 12) rfl ?_); refine Kd.R_make0 (Kd.int .u8) _ 5 rfl (N := 12) rfl 40 _ _ rfl (l0.length : Int) rfl rfl Try.underlying40 (.int .u8 0) 1 info5 rfl Y3 Y7 (ok := fun _ => True) trivial (of_decide_eq_true Y8) (Nat.le_trans (Nat.mul_le_mul_right _ (of_decide_eq_true Y8 : (l0.length : Int).toNat ≤ 281474976710656)) Y7) (Below.refl _ _) (Nat.le_refl _) ?_; intro v549 w7 ho8 hb hg_ hnew_; clear hg_ hnew_; (first | rw [← Ny548.out] at ho8 | (simp only [Int.reduceToNat] at ho8; rw [← Ny548.out] at ho8)); have n0_ := Aside0.mk (Kd.R_lower ho8 (below_size Y6)); have n1_ := Aside0.mk (blk_below (g := gb547) (o := .cells #[.int .i64 q0, .string q1, .string q2, .bool false] 43 (0, 0)) (pB BK547.out) hb); have n2_ := Aside0.mk (below_step Y6 hb); clear BK547; clear HB; have HO550 := n0_; have BK547 := n1_; have HB := n2_; clear n0_ n1_ n2_; clear hb ho8; have hcz9_0 : w7.cell? ⟨gb547, 0, none⟩ = some (.int .i64 q0) := (blk_cell BK547.out 0).trans rfl; have hcz9_1 : w7.cell? ⟨gb547, 1, none⟩ = some (.string q1) := (blk_cell BK547.out 1).trans rfl; have hcz9_2 : w7.cell? ⟨gb547, 2, none⟩ = some (.string q2) := (blk_cell BK547.out 2).trans rfl; have hcz9_3 : w7.cell? ⟨gb547, 3, none⟩ = some (.bool false) := (blk_cell BK547.out 3).trans rfl; have hfz9_0 := blk_frozen BK547.out 0; have hfz9_1 := blk_frozen BK547.out 1; have hfz9_2 := blk_frozen BK547.out 2; have hfz9_3 := blk_frozen BK547.out 3))
 (try simp only [Act.put, List.setIfInBounds_toArray, List.set_cons_zero, List.set_cons_succ])
 have H := HC5.out
 clear HC5
 by_cases c10 : (q1.size : Int) = 0
 ·
  rw [if_pos c10] at H
  have c10b0 := beq_iff_eq.mpr c10
  have c10b1 := bne_eq_false_iff_eq.mpr c10
  clear c10
  (first | rw [c10b0] | (simp only [i64_w, i32_w]; rw [c10b0]) | skip)
  replace H := Option.bind_eq_some_iff.mp H
  obtain ⟨⟨t551, t554, t555, t556⟩, A110, H⟩ := H
  dsimp only at H
  have A11 := Aside0.mk A110
  clear A110
  have HC12 := Aside0.mk H
  clear H
  try go_wp2
  have n0_ := Aside0.mk (Kd.R_drew HO550.out)
  have n1_ := Aside0.mk (blk_drew BK547.out)
  have n2_ := Aside0.mk (below_drew1 HB.out)
  clear HO550; clear BK547; clear HB
  have HO550 := n0_
  have BK547 := n1_
  have HB := n2_
  clear n0_ n1_ n2_
  obtain ⟨Ao14, co14, eo14⟩ := Kd.R_slice HO550.out
  (first | subst eo14 | (injection eo14 with f1_ f2_ f3_; have f4_ := f1_.symm; have f5_ := f3_.symm; clear f1_ f2_ f3_; subst f4_; subst f5_))
  refine start_ (n := 25) (S := fun w' => w'.cell? ⟨gb547, 0, none⟩ = some (.int .i64 q0) ∧ w'.cell? ⟨gb547, 1, none⟩ = some (.string q1) ∧ w'.cell? ⟨gb547, 2, none⟩ = some (.string q2) ∧ w'.cell? ⟨gb547, 3, none⟩ = some (.bool false)) (ds := []) #[false, false, false, false, false, false, false, false, false, false, false, false, false, false, false, false, false, false, false, false, false, false, false, false, false] Y0 rfl rfl ⟨(blk_cell BK547.out 0).trans rfl, (blk_cell BK547.out 1).trans rfl, (blk_cell BK547.out 2).trans rfl, (blk_cell BK547.out 3).trans rfl⟩ (fun hHeld => ?_); refine with_tabW pretty_PrettyOpts.tab6 pretty_PrettyOpts.bits6 (fun HT_ HW_ => ?_)
  generalize w7.drew = w13 at HO550 BK547 HB hHeld ⊢
  refine pure_ (i := 0) (N := some 26) (v := ?_) (a' := ?_) #[true, false, false, false, false, false, false, false, false, false, false, false, false, false, false, false, false, false, false, false, false, false, false, false, false] rfl rfl (any_of HT_.out Y0) (fun _ _ _ h => h) (Or.inl ⟨Y1, ?_⟩) ?_ ?_
  rotate_left
  ·
   intro w'
   go_simp
   with_reducible rfl
  rotate_left
  ·
   simp only [Act.put, List.setIfInBounds_toArray, List.set_cons_zero, List.set_cons_succ, i64_w, i32_w]
   rfl
  refine pure_ (i := 1) (N := some 27) (v := ?_) (a' := ?_) #[true, true, false, false, false, false, false, false, false, false, false, false, false, false, false, false, false, false, false, false, false, false, false, false, false] rfl rfl (any_of HT_.out Y0) (fun _ _ _ h => h) (Or.inl ⟨Y1, ?_⟩) ?_ ?_
  rotate_left
  ·
   intro w'
   go_simp
   with_reducible rfl
  rotate_left
  ·
   simp only [Act.put, List.setIfInBounds_toArray, List.set_cons_zero, List.set_cons_succ, i64_w, i32_w]
   rfl
  refine pure_ (i := 2) (N := some 28) (v := ?_) (a' := ?_) #[true, true, true, false, false, false, false, false, false, false, false, false, false, false, false, false, false, false, false, false, false, false, false, false, false] rfl rfl (any_of HT_.out Y0) (fun _ _ _ h => h) (Or.inl ⟨Y1, ?_⟩) ?_ ?_
  rotate_left
  ·
   intro w'
   go_simp
   with_reducible rfl
  rotate_left
  ·
   simp only [Act.put, List.setIfInBounds_toArray, List.set_cons_zero, List.set_cons_succ, i64_w, i32_w]
   rfl
  refine pure_ (i := 3) (N := some 29) (v := ?_) (a' := ?_) #[true, true, true, true, false, false, false, false, false, false, false, false, false, false, false, false, false, false, false, false, false, false, false, false, false] rfl rfl (any_of HT_.out Y0) (fun _ _ _ h => h) (Or.inl ⟨Y1, ?_⟩) ?_ ?_
  rotate_left
  ·
   intro w'
   go_simp
   with_reducible rfl
  rotate_left
  ·
   simp only [Act.put, List.setIfInBounds_toArray, List.set_cons_zero, List.set_cons_succ, i64_w, i32_w]
   rfl
  refine pure_ (i := 4) (N := some 30) (v := ?_) (a' := ?_) #[true, true, true, true, true, false, false, false, false, false, false, false, false, false, false, false, false, false, false, false, false, false, false, false, false] rfl rfl (any_of HT_.out Y0) (fun _ _ _ h => h) (Or.inl ⟨Y1, ?_⟩) ?_ ?_
  rotate_left
  ·
   intro w'
   go_simp
   with_reducible rfl
  rotate_left
  ·
   simp only [Act.put, List.setIfInBounds_toArray, List.set_cons_zero, List.set_cons_succ, i64_w, i32_w]
   rfl
  refine pure_ (i := 6) (N := some 32) (v := ?_) (a' := ?_) #[true, true, true, true, true, false, true, false, false, false, false, false, false, false, false, false, false, false, false, false, false, false, false, false, false] rfl rfl (any_of HT_.out Y0) (fun _ _ _ h => h) (Or.inl ⟨Y1, ?_⟩) ?_ ?_
  rotate_left
  ·
   intro w'
   go_simp
   with_reducible rfl
  rotate_left
  ·
   simp only [Act.put, List.setIfInBounds_toArray, List.set_cons_zero, List.set_cons_succ, i64_w, i32_w]
   rfl
  refine pure_ (i := 7) (N := some 33) (v := ?_) (a' := ?_) #[true, true, true, true, true, false, true, true, false, false, false, false, false, false, false, false, false, false, false, false, false, false, false, false, false] rfl rfl (any_of HT_.out Y0) (fun _ _ _ h => h) (Or.inl ⟨Y1, ?_⟩) ?_ ?_
  rotate_left
  ·
   intro w'
   go_simp
   with_reducible rfl
  rotate_left
  ·
   simp only [Act.put, List.setIfInBounds_toArray, List.set_cons_zero, List.set_cons_succ, i64_w, i32_w]
   rfl
  refine pure_ (i := 8) (N := some 34) (v := ?_) (a' := ?_) #[true, true, true, true, true, false, true, true, true, false, false, false, false, false, false, false, false, false, false, false, false, false, false, false, false] rfl rfl (any_of HT_.out Y0) (fun _ _ _ h => h) (Or.inl ⟨Y1, ?_⟩) ?_ ?_
  rotate_left
  ·
   intro w'
   go_simp
   with_reducible rfl
  rotate_left
  ·
   simp only [Act.put, List.setIfInBounds_toArray, List.set_cons_zero, List.set_cons_succ, i64_w, i32_w]
   rfl
  refine pure_ (i := 10) (N := some 36) (v := ?_) (a' := ?_) #[true, true, true, true, true, false, true, true, true, false, true, false, false, false, false, false, false, false, false, false, false, false, false, false, false] rfl rfl (any_of HT_.out Y0) (fun _ _ _ h => h) (Or.inl ⟨Y1, ?_⟩) ?_ ?_
  rotate_left
  ·
   intro w'
   go_simp
   with_reducible rfl
  rotate_left
  ·
   simp only [Act.put, List.setIfInBounds_toArray, List.set_cons_zero, List.set_cons_succ, i64_w, i32_w]
   rfl
  refine pure_ (i := 11) (N := some 37) (v := ?_) (a' := ?_) #[true, true, true, true, true, false, true, true, true, false, true, true, false, false, false, false, false, false, false, false, false, false, false, false, false] rfl rfl (any_of HT_.out Y0) (fun _ _ _ h => h) (Or.inl ⟨Y1, ?_⟩) ?_ ?_
  rotate_left
  ·
   intro w'
   go_simp
   with_reducible rfl
  rotate_left
  ·
   simp only [Act.put, List.setIfInBounds_toArray, List.set_cons_zero, List.set_cons_succ, i64_w, i32_w]
   rfl
  refine pure_ (i := 12) (N := some 38) (v := ?_) (a' := ?_) #[true, true, true, true, true, false, true, true, true, false, true, true, true, false, false, false, false, false, false, false, false, false, false, false, false] rfl rfl (any_of HT_.out Y0) (fun _ _ _ h => h) (Or.inl ⟨Y1, ?_⟩) ?_ ?_
  rotate_left
  ·
   intro w'
   go_simp
   with_reducible rfl
  rotate_left
  ·
   simp only [Act.put, List.setIfInBounds_toArray, List.set_cons_zero, List.set_cons_succ, i64_w, i32_w]
   rfl
  refine pure_ (i := 14) (N := some 40) (v := ?_) (a' := ?_) #[true, true, true, true, true, false, true, true, true, false, true, true, true, false, true, false, false, false, false, false, false, false, false, false, false] rfl rfl (any_of HT_.out Y0) (fun _ _ _ h => h) (Or.inl ⟨Y1, ?_⟩) ?_ ?_
  rotate_left
  ·
   intro w'
   go_simp
   with_reducible rfl
  rotate_left
  ·
   simp only [Act.put, List.setIfInBounds_toArray, List.set_cons_zero, List.set_cons_succ, i64_w, i32_w]
   rfl
  refine pure_ (i := 15) (N := some 41) (v := ?_) (a' := ?_) #[true, true, true, true, true, false, true, true, true, false, true, true, true, false, true, true, false, false, false, false, false, false, false, false, false] rfl rfl (any_of HT_.out Y0) (fun _ _ _ h => h) (Or.inl ⟨Y1, ?_⟩) ?_ ?_
  rotate_left
  ·
   intro w'
   go_simp
   with_reducible rfl
  rotate_left
  ·
   simp only [Act.put, List.setIfInBounds_toArray, List.set_cons_zero, List.set_cons_succ, i64_w, i32_w]
   rfl
  refine pure_ (i := 16) (N := some 42) (v := ?_) (a' := ?_) #[true, true, true, true, true, false, true, true, true, false, true, true, true, false, true, true, true, false, false, false, false, false, false, false, false] rfl rfl (any_of HT_.out Y0) (fun _ _ _ h => h) (Or.inl ⟨Y1, ?_⟩) ?_ ?_
  rotate_left
  ·
   intro w'
   go_simp
   with_reducible rfl
  rotate_left
  ·
   simp only [Act.put, List.setIfInBounds_toArray, List.set_cons_zero, List.set_cons_succ, i64_w, i32_w]
   rfl
  refine take_ (i := 5) (N := some 31) (v := ?_) (a' := ?_) #[true, true, true, true, true, true, true, true, true, false, true, true, true, false, true, true, true, false, false, false, false, false, false, false, false] rfl rfl (take_ofW HT_.out HW_.out Y0) (fun _ _ _ h => h) (Or.inl ⟨Y1, ?_⟩) hHeld ?_ ?_
  rotate_left
  ·
   rintro w' ⟨s0, s1, s2, s3⟩
   go_simp
   with_reducible rfl
  rotate_left
  ·
   simp only [Act.put, List.setIfInBounds_toArray, List.set_cons_zero, List.set_cons_succ, i64_w, i32_w]
   rfl
  refine take_ (i := 9) (N := some 35) (v := ?_) (a' := ?_) #[true, true, true, true, true, true, true, true, true, true, true, true, true, false, true, true, true, false, false, false, false, false, false, false, false] rfl rfl (take_ofW HT_.out HW_.out Y0) (fun _ _ _ h => h) (Or.inl ⟨Y1, ?_⟩) hHeld ?_ ?_
  rotate_left
  ·
   rintro w' ⟨s0, s1, s2, s3⟩
   go_simp
   with_reducible rfl
  rotate_left
  ·
   simp only [Act.put, List.setIfInBounds_toArray, List.set_cons_zero, List.set_cons_succ, i64_w, i32_w]
   rfl
  refine take_ (i := 13) (N := some 39) (v := ?_) (a' := ?_) #[true, true, true, true, true, true, true, true, true, true, true, true, true, true, true, true, true, false, false, false, false, false, false, false, false] rfl rfl (take_ofW HT_.out HW_.out Y0) (fun _ _ _ h => h) (Or.inl ⟨Y1, ?_⟩) hHeld ?_ ?_
  rotate_left
  ·
   rintro w' ⟨s0, s1, s2, s3⟩
   go_simp
   with_reducible rfl
  rotate_left
  ·
   simp only [Act.put, List.setIfInBounds_toArray, List.set_cons_zero, List.set_cons_succ, i64_w, i32_w]
   rfl
  refine take_ (i := 17) (N := some 43) (v := ?_) (a' := ?_) #[true, true, true, true, true, true, true, true, true, true, true, true, true, true, true, true, true, true, false, false, false, false, false, false, false] rfl rfl (take_ofW HT_.out HW_.out Y0) (fun _ _ _ h => h) (Or.inl ⟨Y1, ?_⟩) hHeld ?_ ?_
  rotate_left
  ·
   rintro w' ⟨s0, s1, s2, s3⟩
   go_simp
   with_reducible rfl
  rotate_left
  ·
   simp only [Act.put, List.setIfInBounds_toArray, List.set_cons_zero, List.set_cons_succ, i64_w, i32_w]
   rfl
  refine one_ (i := 18) (N := some 44) #[true, true, true, true, true, true, true, true, true, true, true, true, true, true, true, true, true, true, true, false, false, false, false, false, false] rfl rfl (one_of HT_.out Y0) Y3 (fun K hK => ?_)
  refine goes_ Try.func19 Y0 rfl #[.slice Ao14 y548.length co14, .slice A0 l0.length c0, .int .i64 0, .bool true, .int .i64 q0, .string q1, .string q2, .bool false, .int .i64 0, .int .i64 0, .int .i64 (-1)] Y1 rfl rfl Y11 ?_
  with_reducible refine (pretty_appendPrettyAny.calls k (fun k_ => some k_ = (.slice Ao14 y548.length co14 : Value).ownBlock) (.slice Ao14 y548.length co14) y548 (fun k_ => k_ < w.heap.size) _ _ l0 0 true q0 q1 q2  0 0 (-1) t551 t554 t555 t556 w _ ?side1 ?side2 ?side3 A11.out).mono ?_
  (case side1 => exact Y6)
  (case side2 => exact Kd.R_tight rfl HO550.out)
  (case side3 => exact Kd.V_mono (Kd.V_mk HC0.out (Kd.F_below (Kd.C_F (Kd.heap_int .u8) HR0.out) Y6)) (fun k_ hk_ => ⟨hk_, fun e_ => Nat.not_le.2 hk_ (Kd.R_base HO550.out k_ e_.symm)⟩))
  rintro e w15 ⟨v552, rfl, ho0, hb, hkp⟩
  refine ⟨_, rfl, ?_⟩
  have n0_ := Aside0.mk (blk_kept (pB BK547.out) hkp (fun hs_ => (fun e_ => (Kd.R_ne HO550.out BK547.out Y3) e_) hs_))
  have n1_ := Aside0.mk (Kd.R_mono (ok' := fun k_ => True) ho0 (fun k_ hk_ => trivial))
  have n2_ := Aside0.mk (hb)
  clear BK547; clear HB; clear HO550
  have BK547 := n0_
  have HO553 := n1_
  have HB := n2_
  clear n0_ n1_ n2_
  (try clear hb)
  (try clear hkp)
  (try clear ho0)
  refine hK.out _ _ ⟨(blk_cell BK547.out 0).trans rfl, (blk_cell BK547.out 1).trans rfl, (blk_cell BK547.out 2).trans rfl, (blk_cell BK547.out 3).trans rfl⟩ (fun hHeld => ?_)
  clear hK K
  refine norm_ (a' := ?_) ?_ ?_
  rotate_left
  ·
   show Act.put _ (some 44) _ = _
   simp only [Act.put, List.setIfInBounds_toArray, List.set_cons_zero, List.set_cons_succ, i64_w, i32_w]
   rfl
  refine pure_ (i := 19) (N := some 25) (v := ?_) (a' := ?_) #[true, true, true, true, true, true, true, true, true, true, true, true, true, true, true, true, true, true, true, true, false, false, false, false, false] rfl rfl (any_of HT_.out Y0) (fun _ _ _ h => h) (Or.inl ⟨Y1, ?_⟩) ?_ ?_
  rotate_left
  ·
   intro w'
   go_simp
   with_reducible rfl
  rotate_left
  ·
   simp only [Act.put, List.setIfInBounds_toArray, List.set_cons_zero, List.set_cons_succ, i64_w, i32_w]
   rfl
  refine pure_ (i := 20) (N := some 45) (v := ?_) (a' := ?_) #[true, true, true, true, true, true, true, true, true, true, true, true, true, true, true, true, true, true, true, true, true, false, false, false, false] rfl rfl (any_of HT_.out Y0) (fun _ _ _ h => h) (Or.inl ⟨Y1, ?_⟩) ?_ ?_
  rotate_left
  ·
   intro w'
   go_simp
   with_reducible rfl
  rotate_left
  ·
   simp only [Act.put, List.setIfInBounds_toArray, List.set_cons_zero, List.set_cons_succ, i64_w, i32_w]
   rfl
  refine pure_ (i := 21) (N := some 46) (v := ?_) (a' := ?_) #[true, true, true, true, true, true, true, true, true, true, true, true, true, true, true, true, true, true, true, true, true, true, false, false, false] rfl rfl (any_of HT_.out Y0) (fun _ _ _ h => h) (Or.inl ⟨Y1, ?_⟩) ?_ ?_
  rotate_left
  ·
   intro w'
   go_simp
   with_reducible rfl
  rotate_left
  ·
   simp only [Act.put, List.setIfInBounds_toArray, List.set_cons_zero, List.set_cons_succ, i64_w, i32_w]
   rfl
  refine pure_ (i := 22) (N := some 47) (v := ?_) (a' := ?_) #[true, true, true, true, true, true, true, true, true, true, true, true, true, true, true, true, true, true, true, true, true, true, true, false, false] rfl rfl (any_of HT_.out Y0) (fun _ _ _ h => h) (Or.inl ⟨Y1, ?_⟩) ?_ ?_
  rotate_left
  ·
   intro w'
   go_simp
   with_reducible rfl
  rotate_left
  ·
   simp only [Act.put, List.setIfInBounds_toArray, List.set_cons_zero, List.set_cons_succ, i64_w, i32_w]
   rfl
  refine pure_ (i := 23) (N := some 48) (v := ?_) (a' := ?_) #[true, true, true, true, true, true, true, true, true, true, true, true, true, true, true, true, true, true, true, true, true, true, true, true, false] rfl rfl (any_of HT_.out Y0) (fun _ _ _ h => h) (Or.inl ⟨Y1, ?_⟩) ?_ ?_
  rotate_left
  ·
   intro w'
   go_simp
   with_reducible rfl
  rotate_left
  ·
   simp only [Act.put, List.setIfInBounds_toArray, List.set_cons_zero, List.set_cons_succ, i64_w, i32_w]
   rfl
  refine pure_ (i := 24) (N := some 5) (v := ?_) (a' := ?_) #[true, true, true, true, true, true, true, true, true, true, true, true, true, true, true, true, true, true, true, true, true, true, true, true, true] rfl rfl (any_of HT_.out Y0) (fun _ _ _ h => h) (Or.inl ⟨Y1, ?_⟩) ?_ ?_
  rotate_left
  ·
   intro w'
   go_simp
   with_reducible rfl
  rotate_left
  ·
   simp only [Act.put, List.setIfInBounds_toArray, List.set_cons_zero, List.set_cons_succ, i64_w, i32_w]
   rfl
  refine done_ (done_of HT_.out Y0) ?_
  obtain ⟨Ao16, co16, eo16⟩ := Kd.R_slice HO553.out
  subst eo16
  go_upto_if 51 with (fail)
  (try simp only [Act.put, List.setIfInBounds_toArray, List.set_cons_zero, List.set_cons_succ])
  have H := HC12.out
  clear HC12
  by_cases c17 : (t551.length : Int) > 0
  rotate_left
  ·
   rw [if_neg c17] at H
   have c17b0 := decide_eq_false c17
   have c17b1 : decide (0 < t551.length) = false := decide_eq_false Y7
   have c17p : ¬ 0 < t551.length := of_decide_eq_false c17b1
   clear c17
   (first | rw [c17b0] | (simp only [i64_w, i32_w]; rw [c17b0]) | skip)
   obtain rfl := Option.some.inj H
   go_wp2
   go_ret
   exact ⟨_, Y10, pR HO553.out, Y6⟩
  rw [if_pos c17] at H
  have c17b0 := decide_eq_true c17
  have c17b1 : decide (0 < t551.length) = true := decide_eq_true Y7
  have c17p : 0 < t551.length := of_decide_eq_true c17b1
  clear c17
  (first | rw [c17b0] | (simp only [i64_w, i32_w]; rw [c17b0]) | skip)
  by_cases c18 : t551.length < 140737488355328
  rotate_left
  ·
   rw [if_neg c18] at H
   exact absurd H Y4
  rw [if_pos c18] at H
  have LMc18 := Aside0.mk c18
  clear c18
  obtain ⟨y557, hy557⟩ : ∃ y_ : List Int, y_ = (t551 ++ [10]) := ⟨_, rfl⟩
  first | replace H := bind_y hy557 H | rw [← hy557] at H
  have Ny557 := Aside0.mk hy557
  clear hy557
  obtain rfl := Option.some.inj H
  go_wp2_with (first | ((with_reducible refine gate_builtin (b := .append) (xs := #[.tmp 52, .tmp 53]) rfl ?_); at_builtin; refine Kd.R_append (Kd.int .u8) (w0 := w) w.heap.size rfl (.tmp 52) (.tmp 53) 40 5 (.int .u8 0) 1 rfl Try.underlying40 info5 rfl Y3 Y7 (.slice Ao16 t551.length co16) t551 10 [.int .u8 10] (fun _ => True) (fun _ => False) rfl rfl ?aP (fun _ hk => hk.elim) ?aF ?aO ?aB ?aS ?aL ?_; (case aP => exact rfl); (case aB => exact Y6); (case aF => exact (fun _ _ => trivial)); (case aO => exact (pR HO553.out)); (case aS => exact (below_size Y6)); (case aL => have := LMc18.out; omega); intro v558 w19 ho hb hg hat; rw [← Ny557.out] at ho; have n0_ := Aside0.mk (blk_grown (g := gb547) (o := .cells #[.int .i64 q0, .string q1, .string q2, .bool false] 43 (0, 0)) (pB BK547.out) hg (Kd.R_ne HO553.out BK547.out Y3)); have n1_ := Aside0.mk (hb); have n2_ := Aside0.mk (ho); clear BK547; clear HB; clear HO553; have BK547 := n0_; have HB := n1_; have HO559 := n2_; clear n0_ n1_ n2_; clear ho hb hg hat))
  go_ret
  exact ⟨_, Y10, pR HO559.out, Y6⟩
 rw [if_neg c10] at H
 have c10b0 := beq_eq_false_iff_ne.mpr c10
 have c10b1 := bne_iff_ne.mpr c10
 (first | rw [c10b0] | (simp only [i64_w, i32_w]; rw [c10b0]) | skip)
 by_cases c20 : y548.length + q1.size < 140737488355328
 rotate_left
 ·
  rw [if_neg c20] at H
  exact absurd H Y4
 rw [if_pos c20] at H
 have LMc20 := Aside0.mk c20
 clear c20
 obtain ⟨y560, hy560⟩ : ∃ y_ : List Int, y_ = (y548 ++ bytesOf q1) := ⟨_, rfl⟩
 first | replace H := bind_y hy560 H | rw [← hy560] at H
 have Ny560 := Aside0.mk hy560
 clear hy560
 replace H := Option.bind_eq_some_iff.mp H
 obtain ⟨⟨t563, t566, t567, t568⟩, A210, H⟩ := H
 dsimp only at H
 have A21 := Aside0.mk A210
 clear A210
 have HC22 := Aside0.mk H
 clear H
 have hcz23_0 : w7.cell? ⟨gb547, 0, none⟩ = some (.int .i64 q0) := (blk_cell BK547.out 0).trans rfl
 have hcz23_1 : w7.cell? ⟨gb547, 1, none⟩ = some (.string q1) := (blk_cell BK547.out 1).trans rfl
 have hcz23_2 : w7.cell? ⟨gb547, 2, none⟩ = some (.string q2) := (blk_cell BK547.out 2).trans rfl
 have hcz23_3 : w7.cell? ⟨gb547, 3, none⟩ = some (.bool false) := (blk_cell BK547.out 3).trans rfl
 have hfz23_0 := blk_frozen BK547.out 0
 have hfz23_1 := blk_frozen BK547.out 1
 have hfz23_2 := blk_frozen BK547.out 2
 have hfz23_3 := blk_frozen BK547.out 3
 try go_wp2_with (first | (at_builtin; refine Kd.R_append_str (w0 := w) w.heap.size rfl (.tmp 19) _ 40 9 5 rfl Try.underlying40 Try.underlying9 info5 v549 y548 q1 (fun _ => True) rfl rfl ?aF ?aO ?aB ?aS ?aL ?_; (case aB => exact Y6); (case aF => exact (fun _ _ => trivial)); (case aO => exact (pR HO550.out)); (case aS => exact (below_size Y6)); (case aL => have := LMc20.out; omega); intro v561 w24 ho hb hg hat; rw [← Ny560.out] at ho; have n0_ := Aside0.mk (blk_grown (g := gb547) (o := .cells #[.int .i64 q0, .string q1, .string q2, .bool false] 43 (0, 0)) (pB BK547.out) hg (Kd.R_ne HO550.out BK547.out Y3)); have n1_ := Aside0.mk (hb); have n2_ := Aside0.mk (ho); clear BK547; clear HB; clear HO550; have BK547 := n0_; have HB := n1_; have HO562 := n2_; clear n0_ n1_ n2_; clear ho hb hg hat))
 have n0_ := Aside0.mk (Kd.R_drew HO562.out)
 have n1_ := Aside0.mk (blk_drew BK547.out)
 have n2_ := Aside0.mk (below_drew1 HB.out)
 clear HO562; clear BK547; clear HB
 have HO562 := n0_
 have BK547 := n1_
 have HB := n2_
 clear n0_ n1_ n2_
 obtain ⟨Ao26, co26, eo26⟩ := Kd.R_slice HO562.out
 (first | subst eo26 | (injection eo26 with f1_ f2_ f3_; have f4_ := f1_.symm; have f5_ := f3_.symm; clear f1_ f2_ f3_; subst f4_; subst f5_))
 refine start_ (n := 25) (S := fun w' => w'.cell? ⟨gb547, 0, none⟩ = some (.int .i64 q0) ∧ w'.cell? ⟨gb547, 1, none⟩ = some (.string q1) ∧ w'.cell? ⟨gb547, 2, none⟩ = some (.string q2) ∧ w'.cell? ⟨gb547, 3, none⟩ = some (.bool false)) (ds := []) #[false, false, false, false, false, false, false, false, false, false, false, false, false, false, false, false, false, false, false, false, false, false, false, false, false] Y0 rfl rfl ⟨(blk_cell BK547.out 0).trans rfl, (blk_cell BK547.out 1).trans rfl, (blk_cell BK547.out 2).trans rfl, (blk_cell BK547.out 3).trans rfl⟩ (fun hHeld => ?_); refine with_tabW pretty_PrettyOpts.tab6 pretty_PrettyOpts.bits6 (fun HT_ HW_ => ?_)
 generalize w24.drew = w25 at HO562 BK547 HB hHeld ⊢
 refine pure_ (i := 0) (N := some 26) (v := ?_) (a' := ?_) #[true, false, false, false, false, false, false, false, false, false, false, false, false, false, false, false, false, false, false, false, false, false, false, false, false] rfl rfl (any_of HT_.out Y0) (fun _ _ _ h => h) (Or.inl ⟨Y1, ?_⟩) ?_ ?_
 rotate_left
 ·
  intro w'
  go_simp
  with_reducible rfl
 rotate_left
 ·
  simp only [Act.put, List.setIfInBounds_toArray, List.set_cons_zero, List.set_cons_succ, i64_w, i32_w]
  rfl
 refine pure_ (i := 1) (N := some 27) (v := ?_) (a' := ?_) #[true, true, false, false, false, false, false, false, false, false, false, false, false, false, false, false, false, false, false, false, false, false, false, false, false] rfl rfl (any_of HT_.out Y0) (fun _ _ _ h => h) (Or.inl ⟨Y1, ?_⟩) ?_ ?_
 rotate_left
 ·
  intro w'
  go_simp
  with_reducible rfl
 rotate_left
 ·
  simp only [Act.put, List.setIfInBounds_toArray, List.set_cons_zero, List.set_cons_succ, i64_w, i32_w]
  rfl
 refine pure_ (i := 2) (N := some 28) (v := ?_) (a' := ?_) #[true, true, true, false, false, false, false, false, false, false, false, false, false, false, false, false, false, false, false, false, false, false, false, false, false] rfl rfl (any_of HT_.out Y0) (fun _ _ _ h => h) (Or.inl ⟨Y1, ?_⟩) ?_ ?_
 rotate_left
 ·
  intro w'
  go_simp
  with_reducible rfl
 rotate_left
 ·
  simp only [Act.put, List.setIfInBounds_toArray, List.set_cons_zero, List.set_cons_succ, i64_w, i32_w]
  rfl
 refine pure_ (i := 3) (N := some 29) (v := ?_) (a' := ?_) #[true, true, true, true, false, false, false, false, false, false, false, false, false, false, false, false, false, false, false, false, false, false, false, false, false] rfl rfl (any_of HT_.out Y0) (fun _ _ _ h => h) (Or.inl ⟨Y1, ?_⟩) ?_ ?_
 rotate_left
 ·
  intro w'
  go_simp
  with_reducible rfl
 rotate_left
 ·
  simp only [Act.put, List.setIfInBounds_toArray, List.set_cons_zero, List.set_cons_succ, i64_w, i32_w]
  rfl
 refine pure_ (i := 4) (N := some 30) (v := ?_) (a' := ?_) #[true, true, true, true, true, false, false, false, false, false, false, false, false, false, false, false, false, false, false, false, false, false, false, false, false] rfl rfl (any_of HT_.out Y0) (fun _ _ _ h => h) (Or.inl ⟨Y1, ?_⟩) ?_ ?_
 rotate_left
 ·
  intro w'
  go_simp
  with_reducible rfl
 rotate_left
 ·
  simp only [Act.put, List.setIfInBounds_toArray, List.set_cons_zero, List.set_cons_succ, i64_w, i32_w]
  rfl
 refine pure_ (i := 6) (N := some 32) (v := ?_) (a' := ?_) #[true, true, true, true, true, false, true, false, false, false, false, false, false, false, false, false, false, false, false, false, false, false, false, false, false] rfl rfl (any_of HT_.out Y0) (fun _ _ _ h => h) (Or.inl ⟨Y1, ?_⟩) ?_ ?_
 rotate_left
 ·
  intro w'
  go_simp
  with_reducible rfl
 rotate_left
 ·
  simp only [Act.put, List.setIfInBounds_toArray, List.set_cons_zero, List.set_cons_succ, i64_w, i32_w]
  rfl
 refine pure_ (i := 7) (N := some 33) (v := ?_) (a' := ?_) #[true, true, true, true, true, false, true, true, false, false, false, false, false, false, false, false, false, false, false, false, false, false, false, false, false] rfl rfl (any_of HT_.out Y0) (fun _ _ _ h => h) (Or.inl ⟨Y1, ?_⟩) ?_ ?_
 rotate_left
 ·
  intro w'
  go_simp
  with_reducible rfl
 rotate_left
 ·
  simp only [Act.put, List.setIfInBounds_toArray, List.set_cons_zero, List.set_cons_succ, i64_w, i32_w]
  rfl
 refine pure_ (i := 8) (N := some 34) (v := ?_) (a' := ?_) #[true, true, true, true, true, false, true, true, true, false, false, false, false, false, false, false, false, false, false, false, false, false, false, false, false] rfl rfl (any_of HT_.out Y0) (fun _ _ _ h => h) (Or.inl ⟨Y1, ?_⟩) ?_ ?_
 rotate_left
 ·
  intro w'
  go_simp
  with_reducible rfl
 rotate_left
 ·
  simp only [Act.put, List.setIfInBounds_toArray, List.set_cons_zero, List.set_cons_succ, i64_w, i32_w]
  rfl
 refine pure_ (i := 10) (N := some 36) (v := ?_) (a' := ?_) #[true, true, true, true, true, false, true, true, true, false, true, false, false, false, false, false, false, false, false, false, false, false, false, false, false] rfl rfl (any_of HT_.out Y0) (fun _ _ _ h => h) (Or.inl ⟨Y1, ?_⟩) ?_ ?_
 rotate_left
 ·
  intro w'
  go_simp
  with_reducible rfl
 rotate_left
 ·
  simp only [Act.put, List.setIfInBounds_toArray, List.set_cons_zero, List.set_cons_succ, i64_w, i32_w]
  rfl
 refine pure_ (i := 11) (N := some 37) (v := ?_) (a' := ?_) #[true, true, true, true, true, false, true, true, true, false, true, true, false, false, false, false, false, false, false, false, false, false, false, false, false] rfl rfl (any_of HT_.out Y0) (fun _ _ _ h => h) (Or.inl ⟨Y1, ?_⟩) ?_ ?_
 rotate_left
 ·
  intro w'
  go_simp
  with_reducible rfl
 rotate_left
 ·
  simp only [Act.put, List.setIfInBounds_toArray, List.set_cons_zero, List.set_cons_succ, i64_w, i32_w]
  rfl
 refine pure_ (i := 12) (N := some 38) (v := ?_) (a' := ?_) #[true, true, true, true, true, false, true, true, true, false, true, true, true, false, false, false, false, false, false, false, false, false, false, false, false] rfl rfl (any_of HT_.out Y0) (fun _ _ _ h => h) (Or.inl ⟨Y1, ?_⟩) ?_ ?_
 rotate_left
 ·
  intro w'
  go_simp
  with_reducible rfl
 rotate_left
 ·
  simp only [Act.put, List.setIfInBounds_toArray, List.set_cons_zero, List.set_cons_succ, i64_w, i32_w]
  rfl
 refine pure_ (i := 14) (N := some 40) (v := ?_) (a' := ?_) #[true, true, true, true, true, false, true, true, true, false, true, true, true, false, true, false, false, false, false, false, false, false, false, false, false] rfl rfl (any_of HT_.out Y0) (fun _ _ _ h => h) (Or.inl ⟨Y1, ?_⟩) ?_ ?_
 rotate_left
 ·
  intro w'
  go_simp
  with_reducible rfl
 rotate_left
 ·
  simp only [Act.put, List.setIfInBounds_toArray, List.set_cons_zero, List.set_cons_succ, i64_w, i32_w]
  rfl
 refine pure_ (i := 15) (N := some 41) (v := ?_) (a' := ?_) #[true, true, true, true, true, false, true, true, true, false, true, true, true, false, true, true, false, false, false, false, false, false, false, false, false] rfl rfl (any_of HT_.out Y0) (fun _ _ _ h => h) (Or.inl ⟨Y1, ?_⟩) ?_ ?_
 rotate_left
 ·
  intro w'
  go_simp
  with_reducible rfl
 rotate_left
 ·
  simp only [Act.put, List.setIfInBounds_toArray, List.set_cons_zero, List.set_cons_succ, i64_w, i32_w]
  rfl
 refine pure_ (i := 16) (N := some 42) (v := ?_) (a' := ?_) #[true, true, true, true, true, false, true, true, true, false, true, true, true, false, true, true, true, false, false, false, false, false, false, false, false] rfl rfl (any_of HT_.out Y0) (fun _ _ _ h => h) (Or.inl ⟨Y1, ?_⟩) ?_ ?_
 rotate_left
 ·
  intro w'
  go_simp
  with_reducible rfl
 rotate_left
 ·
  simp only [Act.put, List.setIfInBounds_toArray, List.set_cons_zero, List.set_cons_succ, i64_w, i32_w]
  rfl
 refine take_ (i := 5) (N := some 31) (v := ?_) (a' := ?_) #[true, true, true, true, true, true, true, true, true, false, true, true, true, false, true, true, true, false, false, false, false, false, false, false, false] rfl rfl (take_ofW HT_.out HW_.out Y0) (fun _ _ _ h => h) (Or.inl ⟨Y1, ?_⟩) hHeld ?_ ?_
 rotate_left
 ·
  rintro w' ⟨s0, s1, s2, s3⟩
  go_simp
  with_reducible rfl
 rotate_left
 ·
  simp only [Act.put, List.setIfInBounds_toArray, List.set_cons_zero, List.set_cons_succ, i64_w, i32_w]
  rfl
 refine take_ (i := 9) (N := some 35) (v := ?_) (a' := ?_) #[true, true, true, true, true, true, true, true, true, true, true, true, true, false, true, true, true, false, false, false, false, false, false, false, false] rfl rfl (take_ofW HT_.out HW_.out Y0) (fun _ _ _ h => h) (Or.inl ⟨Y1, ?_⟩) hHeld ?_ ?_
 rotate_left
 ·
  rintro w' ⟨s0, s1, s2, s3⟩
  go_simp
  with_reducible rfl
 rotate_left
 ·
  simp only [Act.put, List.setIfInBounds_toArray, List.set_cons_zero, List.set_cons_succ, i64_w, i32_w]
  rfl
 refine take_ (i := 13) (N := some 39) (v := ?_) (a' := ?_) #[true, true, true, true, true, true, true, true, true, true, true, true, true, true, true, true, true, false, false, false, false, false, false, false, false] rfl rfl (take_ofW HT_.out HW_.out Y0) (fun _ _ _ h => h) (Or.inl ⟨Y1, ?_⟩) hHeld ?_ ?_
 rotate_left
 ·
  rintro w' ⟨s0, s1, s2, s3⟩
  go_simp
  with_reducible rfl
 rotate_left
 ·
  simp only [Act.put, List.setIfInBounds_toArray, List.set_cons_zero, List.set_cons_succ, i64_w, i32_w]
  rfl
 refine take_ (i := 17) (N := some 43) (v := ?_) (a' := ?_) #[true, true, true, true, true, true, true, true, true, true, true, true, true, true, true, true, true, true, false, false, false, false, false, false, false] rfl rfl (take_ofW HT_.out HW_.out Y0) (fun _ _ _ h => h) (Or.inl ⟨Y1, ?_⟩) hHeld ?_ ?_
 rotate_left
 ·
  rintro w' ⟨s0, s1, s2, s3⟩
  go_simp
  with_reducible rfl
 rotate_left
 ·
  simp only [Act.put, List.setIfInBounds_toArray, List.set_cons_zero, List.set_cons_succ, i64_w, i32_w]
  rfl
 refine one_ (i := 18) (N := some 44) #[true, true, true, true, true, true, true, true, true, true, true, true, true, true, true, true, true, true, true, false, false, false, false, false, false] rfl rfl (one_of HT_.out Y0) Y3 (fun K hK => ?_)
 refine goes_ Try.func19 Y0 rfl #[.slice Ao26 y560.length co26, .slice A0 l0.length c0, .int .i64 0, .bool true, .int .i64 q0, .string q1, .string q2, .bool false, .int .i64 0, .int .i64 0, .int .i64 (-1)] Y1 rfl rfl Y11 ?_
 with_reducible refine (pretty_appendPrettyAny.calls k (fun k_ => some k_ = (.slice Ao26 y560.length co26 : Value).ownBlock) (.slice Ao26 y560.length co26) y560 (fun k_ => k_ < w.heap.size) _ _ l0 0 true q0 q1 q2  0 0 (-1) t563 t566 t567 t568 w _ ?side1 ?side2 ?side3 A21.out).mono ?_
 (case side1 => exact Y6)
 (case side2 => exact Kd.R_tight rfl HO562.out)
 (case side3 => exact Kd.V_mono (Kd.V_mk HC0.out (Kd.F_below (Kd.C_F (Kd.heap_int .u8) HR0.out) Y6)) (fun k_ hk_ => ⟨hk_, fun e_ => Nat.not_le.2 hk_ (Kd.R_base HO562.out k_ e_.symm)⟩))
 rintro e w27 ⟨v564, rfl, ho0, hb, hkp⟩
 refine ⟨_, rfl, ?_⟩
 have n0_ := Aside0.mk (blk_kept (pB BK547.out) hkp (fun hs_ => (fun e_ => (Kd.R_ne HO562.out BK547.out Y3) e_) hs_))
 have n1_ := Aside0.mk (Kd.R_mono (ok' := fun k_ => True) ho0 (fun k_ hk_ => trivial))
 have n2_ := Aside0.mk (hb)
 clear BK547; clear HB; clear HO562
 have BK547 := n0_
 have HO565 := n1_
 have HB := n2_
 clear n0_ n1_ n2_
 (try clear hb)
 (try clear hkp)
 (try clear ho0)
 refine hK.out _ _ ⟨(blk_cell BK547.out 0).trans rfl, (blk_cell BK547.out 1).trans rfl, (blk_cell BK547.out 2).trans rfl, (blk_cell BK547.out 3).trans rfl⟩ (fun hHeld => ?_)
 clear hK K
 refine norm_ (a' := ?_) ?_ ?_
 rotate_left
 ·
  show Act.put _ (some 44) _ = _
  simp only [Act.put, List.setIfInBounds_toArray, List.set_cons_zero, List.set_cons_succ, i64_w, i32_w]
  rfl
 refine pure_ (i := 19) (N := some 25) (v := ?_) (a' := ?_) #[true, true, true, true, true, true, true, true, true, true, true, true, true, true, true, true, true, true, true, true, false, false, false, false, false] rfl rfl (any_of HT_.out Y0) (fun _ _ _ h => h) (Or.inl ⟨Y1, ?_⟩) ?_ ?_
 rotate_left
 ·
  intro w'
  go_simp
  with_reducible rfl
 rotate_left
 ·
  simp only [Act.put, List.setIfInBounds_toArray, List.set_cons_zero, List.set_cons_succ, i64_w, i32_w]
  rfl
 refine pure_ (i := 20) (N := some 45) (v := ?_) (a' := ?_) #[true, true, true, true, true, true, true, true, true, true, true, true, true, true, true, true, true, true, true, true, true, false, false, false, false] rfl rfl (any_of HT_.out Y0) (fun _ _ _ h => h) (Or.inl ⟨Y1, ?_⟩) ?_ ?_
 rotate_left
 ·
  intro w'
  go_simp
  with_reducible rfl
 rotate_left
 ·
  simp only [Act.put, List.setIfInBounds_toArray, List.set_cons_zero, List.set_cons_succ, i64_w, i32_w]
  rfl
 refine pure_ (i := 21) (N := some 46) (v := ?_) (a' := ?_) #[true, true, true, true, true, true, true, true, true, true, true, true, true, true, true, true, true, true, true, true, true, true, false, false, false] rfl rfl (any_of HT_.out Y0) (fun _ _ _ h => h) (Or.inl ⟨Y1, ?_⟩) ?_ ?_
 rotate_left
 ·
  intro w'
  go_simp
  with_reducible rfl
 rotate_left
 ·
  simp only [Act.put, List.setIfInBounds_toArray, List.set_cons_zero, List.set_cons_succ, i64_w, i32_w]
  rfl
 refine pure_ (i := 22) (N := some 47) (v := ?_) (a' := ?_) #[true, true, true, true, true, true, true, true, true, true, true, true, true, true, true, true, true, true, true, true, true, true, true, false, false] rfl rfl (any_of HT_.out Y0) (fun _ _ _ h => h) (Or.inl ⟨Y1, ?_⟩) ?_ ?_
 rotate_left
 ·
  intro w'
  go_simp
  with_reducible rfl
 rotate_left
 ·
  simp only [Act.put, List.setIfInBounds_toArray, List.set_cons_zero, List.set_cons_succ, i64_w, i32_w]
  rfl
 refine pure_ (i := 23) (N := some 48) (v := ?_) (a' := ?_) #[true, true, true, true, true, true, true, true, true, true, true, true, true, true, true, true, true, true, true, true, true, true, true, true, false] rfl rfl (any_of HT_.out Y0) (fun _ _ _ h => h) (Or.inl ⟨Y1, ?_⟩) ?_ ?_
 rotate_left
 ·
  intro w'
  go_simp
  with_reducible rfl
 rotate_left
 ·
  simp only [Act.put, List.setIfInBounds_toArray, List.set_cons_zero, List.set_cons_succ, i64_w, i32_w]
  rfl
 refine pure_ (i := 24) (N := some 5) (v := ?_) (a' := ?_) #[true, true, true, true, true, true, true, true, true, true, true, true, true, true, true, true, true, true, true, true, true, true, true, true, true] rfl rfl (any_of HT_.out Y0) (fun _ _ _ h => h) (Or.inl ⟨Y1, ?_⟩) ?_ ?_
 rotate_left
 ·
  intro w'
  go_simp
  with_reducible rfl
 rotate_left
 ·
  simp only [Act.put, List.setIfInBounds_toArray, List.set_cons_zero, List.set_cons_succ, i64_w, i32_w]
  rfl
 refine done_ (done_of HT_.out Y0) ?_
 obtain ⟨Ao28, co28, eo28⟩ := Kd.R_slice HO565.out
 subst eo28
 go_upto_if 51 with (fail)
 (try simp only [Act.put, List.setIfInBounds_toArray, List.set_cons_zero, List.set_cons_succ])
 have H := HC22.out
 clear HC22
 by_cases c29 : (t563.length : Int) > 0
 rotate_left
 ·
  rw [if_neg c29] at H
  have c29b0 := decide_eq_false c29
  have c29b1 : decide (0 < t563.length) = false := decide_eq_false Y7
  have c29p : ¬ 0 < t563.length := of_decide_eq_false c29b1
  clear c29
  (first | rw [c29b0] | (simp only [i64_w, i32_w]; rw [c29b0]) | skip)
  obtain rfl := Option.some.inj H
  go_wp2
  go_ret
  exact ⟨_, Y10, pR HO565.out, Y6⟩
 rw [if_pos c29] at H
 have c29b0 := decide_eq_true c29
 have c29b1 : decide (0 < t563.length) = true := decide_eq_true Y7
 have c29p : 0 < t563.length := of_decide_eq_true c29b1
 clear c29
 (first | rw [c29b0] | (simp only [i64_w, i32_w]; rw [c29b0]) | skip)
 by_cases c30 : t563.length < 140737488355328
 rotate_left
 ·
  rw [if_neg c30] at H
  exact absurd H Y4
 rw [if_pos c30] at H
 have LMc30 := Aside0.mk c30
 clear c30
 obtain ⟨y569, hy569⟩ : ∃ y_ : List Int, y_ = (t563 ++ [10]) := ⟨_, rfl⟩
 first | replace H := bind_y hy569 H | rw [← hy569] at H
 have Ny569 := Aside0.mk hy569
 clear hy569
 obtain rfl := Option.some.inj H
 go_wp2_with (first | ((with_reducible refine gate_builtin (b := .append) (xs := #[.tmp 52, .tmp 53]) rfl ?_); at_builtin; refine Kd.R_append (Kd.int .u8) (w0 := w) w.heap.size rfl (.tmp 52) (.tmp 53) 40 5 (.int .u8 0) 1 rfl Try.underlying40 info5 rfl Y3 Y7 (.slice Ao28 t563.length co28) t563 10 [.int .u8 10] (fun _ => True) (fun _ => False) rfl rfl ?aP (fun _ hk => hk.elim) ?aF ?aO ?aB ?aS ?aL ?_; (case aP => exact rfl); (case aB => exact Y6); (case aF => exact (fun _ _ => trivial)); (case aO => exact (pR HO565.out)); (case aS => exact (below_size Y6)); (case aL => have := LMc30.out; omega); intro v570 w31 ho hb hg hat; rw [← Ny569.out] at ho; have n0_ := Aside0.mk (blk_grown (g := gb547) (o := .cells #[.int .i64 q0, .string q1, .string q2, .bool false] 43 (0, 0)) (pB BK547.out) hg (Kd.R_ne HO565.out BK547.out Y3)); have n1_ := Aside0.mk (hb); have n2_ := Aside0.mk (ho); clear BK547; clear HB; clear HO565; have BK547 := n0_; have HB := n1_; have HO571 := n2_; clear n0_ n1_ n2_; clear ho hb hg hat))
 go_ret
 exact ⟨_, Y10, pR HO571.out, Y6⟩

/-! ### impl_PrPretty: function 8 -/
def impl_PrPretty.f (k : Nat) (a0 : ByteArray) (a1_0 : Int) (a1_1 : ByteArray) (a1_2 : ByteArray) (a1_3 : Bool) : Option (ByteArray) := if a1_3 = true then none else if a0.size ≤ 9223372036854775807 then ((pretty_PrettyOpts.f k (bytesOf a0) a1_0 a1_1 a1_2).bind fun t583 => (some (strOfNums t583))) else (none)
theorem impl_PrPretty.mono : ∀ a0 a1 a2 a3 a4 k, LeO (impl_PrPretty.f k a0 a1 a2 a3 a4) (impl_PrPretty.f (k + 1) a0 a1 a2 a3 a4) := by
 intro a0 a1 a2 a3 a4 k
 unfold impl_PrPretty.f
 repeat' first
   | (with_reducible exact pretty_PrettyOpts.mono _ _ _ _ _)
   | (with_reducible exact LeO.refl _)
   | (with_reducible exact LeO.none _)
   | (with_reducible refine LeO.ite ?_ ?_)
   | (with_reducible refine LeO.bind ?_ (fun _ => ?_))
   | exact pretty_PrettyOpts.mono _ _ _ _ _
   | exact LeO.none _
   | refine LeO.ite ?_ ?_
   | refine LeO.bind ?_ (fun _ => ?_)
set_option maxHeartbeats 8000000 in
set_option maxRecDepth 100000 in
theorem impl_PrPretty.calls (k : Nat) (a0 : ByteArray) (a1_0 : Int) (a1_1 : ByteArray) (a1_2 : ByteArray) (a1_3 : Bool) (r : ByteArray) (w : World) (h : impl_PrPretty.f k a0 a1_0 a1_1 a1_2 a1_3 = some r) :
  Calls Try.prog 8 #[.string a0, .agg #[.int .i64 a1_0, .string a1_1, .string a1_2, .bool a1_3]] w fun e w' => e = .returned (.string r) ∧ Below w.heap.size w w' := by
 have hu23 := Try.underlying23
 have hu43 := Try.underlying43
 cases a1_3 with
 | true => exact absurd h (by rw [impl_PrPretty.f]; simp)
 | false =>
 have HB := Aside0.mk (Below.refl w.heap.size w)
 have H : (if a0.size ≤ 9223372036854775807 then ((pretty_PrettyOpts.f k (bytesOf a0) a1_0 a1_1 a1_2).bind fun t583 => (some (strOfNums t583))) else (none)) = some r := by rw [impl_PrPretty.f, if_neg Y3] at h; exact h
 clear h
 by_cases c3 : a0.size ≤ 9223372036854775807
 rotate_left
 ·
  rw [if_neg c3] at H
  exact absurd H Y4
 rw [if_pos c3] at H
 have c3b0 := eq_true c3
 have c3b1 := decide_eq_true c3
 try have c3b2 : (9223372036854775807 < a0.size) = False := eq_false (Nat.not_lt.2 c3)
 clear c3
 obtain ⟨y579, hy579⟩ : ∃ y_ : List Int, y_ = (bytesOf a0) := ⟨_, rfl⟩
 first | replace H := bind_y hy579 H | rw [← hy579] at H
 have Ny579 := Aside0.mk hy579
 clear hy579
 replace H := Option.bind_eq_some_iff.mp H
 obtain ⟨t583, A40, H⟩ := H
 have A4 := Aside0.mk A40
 clear A40
 obtain rfl := Option.some.inj H
 go_enter Try.func8, Try.ntmps8
 go_wp2_with (first | ((with_reducible refine gate_dst (N := 3) rfl ?_); refine box_event ?hg (N := 3) ?hd (cs := #[.int .i64 a1_0, .string a1_1, .string a1_2, .bool false]) (t := 23) ?hr ?_; (case hd => exact Y1); (case hg => exact Y1); (case hr => exact Y12); intro gb578 hg w5 hbox hb; have n0_ := Aside0.mk (below_step Y6 hb); have n1_ := Aside0.mk (hbox); have n2_ := Aside0.mk ((Y36 : w.heap.size ≤ gb578)); have n3_ := Aside0.mk ((Y36 : w.heap.size ≤ gb578)); clear HB; have HB := n0_; have BK578 := n1_; have GW578 := n2_; have GE578 := n3_; clear n0_ n1_ n2_ n3_; clear hb hbox hg) | ((with_reducible refine gate_dst (N := 6) rfl ?_); refine Kd.V_bytes _ 5 rfl (N := 6) rfl 9 40 _ rfl a0 rfl Try.underlying9 Try.underlying40 Try.underlying5 (of_decide_eq_true Y8) (ok := fun _ => True) trivial (Below.refl _ _) (Nat.le_refl _) ?_; intro v580 w6 ho7 hb hg_ hnew_; clear hg_ hnew_; (first | rw [← Ny579.out] at ho7 | (simp only [Int.reduceToNat] at ho7; rw [← Ny579.out] at ho7)); have n0_ := Aside0.mk (Kd.V_lower ho7 (below_size Y17)); have n1_ := Aside0.mk (blk_below (g := gb578) (o := .cells #[.int .i64 a1_0, .string a1_1, .string a1_2, .bool false] 23 (0, 0)) (pB BK578.out) hb); have n2_ := Aside0.mk (below_step Y17 hb); clear BK578; clear HB; have HO581 := n0_; have BK578 := n1_; have HB := n2_; clear n0_ n1_ n2_; clear hb ho7; have hcz8_0 : w6.cell? ⟨gb578, 0, none⟩ = some (.int .i64 a1_0) := (blk_cell BK578.out 0).trans rfl; have hcz8_1 : w6.cell? ⟨gb578, 1, none⟩ = some (.string a1_1) := (blk_cell BK578.out 1).trans rfl; have hcz8_2 : w6.cell? ⟨gb578, 2, none⟩ = some (.string a1_2) := (blk_cell BK578.out 2).trans rfl; have hcz8_3 : w6.cell? ⟨gb578, 3, none⟩ = some (.bool false) := (blk_cell BK578.out 3).trans rfl; have hfz8_0 := blk_frozen BK578.out 0; have hfz8_1 := blk_frozen BK578.out 1; have hfz8_2 := blk_frozen BK578.out 2; have hfz8_3 := blk_frozen BK578.out 3) | ((with_reducible refine gate_dst (N := 16) rfl ?_); refine box_event ?hg (N := 16) ?hd (cs := #[.int .i64 a1_0, .string a1_1, .string a1_2, .bool false]) (t := 43) ?hr ?_; (case hd => exact Y1); (case hg => exact Y1); (case hr => exact Y12); intro gb582 hg w9 hbox hb; have n0_ := Aside0.mk (Kd.V_below (Kd.V_elderB (pV HO581.out) gb582 (Nat.le_of_eq hg.symm)) hb); have n1_ := Aside0.mk (blk_below (g := gb578) (o := .cells #[.int .i64 a1_0, .string a1_1, .string a1_2, .bool false] 23 (0, 0)) (pB BK578.out) hb); have n2_ := Aside0.mk (below_step Y17 hb); have n3_ := Aside0.mk (hbox); have n4_ := Aside0.mk ((by rw [hg]; exact (below_size Y17) : w.heap.size ≤ gb582)); have n5_ := Aside0.mk ((by rw [hg]; exact (below_size Y17) : w.heap.size ≤ gb582)); have n6_ := Aside0.mk ((by rw [hg]; exact Nat.ne_of_lt (blk_lt (g := gb578) (o := .cells #[.int .i64 a1_0, .string a1_1, .string a1_2, .bool false] 23 (0, 0)) (pB BK578.out)) : gb578 ≠ gb582)); have n7_ := Aside0.mk ((by rw [hg]; exact Nat.ne_of_gt (blk_lt (g := gb578) (o := .cells #[.int .i64 a1_0, .string a1_1, .string a1_2, .bool false] 23 (0, 0)) (pB BK578.out)) : gb582 ≠ gb578)); clear HO581; clear BK578; clear HB; have HO581 := n0_; have BK578 := n1_; have HB := n2_; have BK582 := n3_; have GW582 := n4_; have GE582 := n5_; have NB578_582 := n6_; have NB582_578 := n7_; clear n0_ n1_ n2_ n3_ n4_ n5_ n6_ n7_; clear hb hbox hg; obtain ⟨Ao10, co10, eo10⟩ := Kd.V_slice HO581.out; subst eo10) | ((with_reducible refine gate_callee (f := 13) rfl ?_); refine goesL_ (some 17) rfl rfl Try.func13 Y0 rfl #[.slice Ao10 y579.length co10, .pointer (some ⟨gb582, 0, none⟩)] rfl Y11 ?_; (with_reducible refine (pretty_PrettyOpts.calls k _ _ y579 gb582 a1_0 a1_1 a1_2 t583 _ BK582.out ?side1 ?side2 A4.out).mono ?_); (case side1 => repeat (first | exact (Kd.V_reads' HO581.out).2.2 | (with_reducible refine Kd.C_alloc ?_ _) | (with_reducible refine Kd.C_drewN ?_ _) | (with_reducible refine Kd.C_drew ?_))); (case side2 => exact (Kd.V_reads' HO581.out).2.1); rintro e w11 ⟨v584, rfl, ho0, hb⟩; refine ⟨_, rfl, ?_⟩; have n0_ := Aside0.mk (Kd.V_elder' (pV HO581.out) (Kd.R_base ho0) hb); have n1_ := Aside0.mk (Kd.R_lower ho0 (below_size Y25)); have n2_ := Aside0.mk (blk_below (g := gb578) (o := .cells #[.int .i64 a1_0, .string a1_1, .string a1_2, .bool false] 23 (0, 0)) (pB BK578.out) hb); have n3_ := Aside0.mk (blk_below (g := gb582) (o := .cells #[.int .i64 a1_0, .string a1_1, .string a1_2, .bool false] 43 (0, 0)) (pB BK582.out) hb); have n4_ := Aside0.mk (below_step Y25 hb); clear HO581; clear BK578; clear BK582; clear HB; have HO581 := n0_; have HO585 := n1_; have BK578 := n2_; have BK582 := n3_; have HB := n4_; clear n0_ n1_ n2_ n3_ n4_; (try clear hb); (try clear hb2); (try clear hk); (try clear hi); (try clear ho0); have hcv12 := own_string (P := Try.prog) Try.underlying40 Try.underlying5 Try.underlying9 (Kd.own_of_R HO585.out)))
 go_ret
 exact ⟨Y10, Y25⟩

end Go.Proofs.Ytffdebhaclkhjaa.PFnPrWholeDefault
