-- Written by a program of the session (wip/tools) out of the translation. Not trusted: Lean checks it.
import Derived.Test.YtffdebhaclkhjaaLq
import Derived.Test.YtffdebhaclkhjaaSx0
namespace Go.Proofs.Ytffdebhaclkhjaa.PFnPrWholeDefault
open Go.RowKit Go.Proofs.YtffdebhaclkhjaaW.PrintWords Go.Proofs.YtffdebhaclkhjaaW.PrintLast Go.Proofs.YtffdebhaclkhjaaW.PrintMore
attribute [local go_sem] max2_int min2_int max_two min_two max_three min_three max_four min_four   -- for this text's walks alone
set_option linter.unusedVariables false
set_option linter.unusedSimpArgs false

theorem info9 : (Try.prog.info? 9).map (fun i => (i.zero, i.size, i.bytes)) = some (some (.string ⟨#[]⟩), 1, 16) := Y0

/-! ### laws_zzFits7: function 5 -/
def laws_zzFits7.f (a0_0 : Int) (a0_1 : ByteArray) (a0_2 : ByteArray) (a0_3 : Bool) : Option (Bool) := if (a0_1.size : Int) > 2147483647 then (some false) else (if (a0_2.size : Int) > 2147483647 then (some false) else (some true))
set_option maxHeartbeats 8000000 in
set_option maxRecDepth 100000 in
theorem laws_zzFits7.calls (a0_0 : Int) (a0_1 : ByteArray) (a0_2 : ByteArray) (a0_3 : Bool) (r : Bool) (w : World) (h : laws_zzFits7.f a0_0 a0_1 a0_2 a0_3 = some r) :
  Calls Try.prog 5 #[.agg #[.int .i64 a0_0, .string a0_1, .string a0_2, .bool a0_3]] w fun e w' => e = .returned (.bool r) ∧ Below w.heap.size w w' := by
 have hu23 := Try.underlying23
 have HB := Aside0.mk (Below.refl w.heap.size w)
 have H : (if (a0_1.size : Int) > 2147483647 then (some false) else (if (a0_2.size : Int) > 2147483647 then (some false) else (some true))) = some r := h
 clear h
 have HC2 := Aside0.mk H
 clear H
 go_enter Try.func5, Try.ntmps5
 go_upto_if 6 with (first | ((with_reducible refine gate_dst (N := 1) rfl ?_); refine box_event ?hg (N := 1) ?hd (cs := #[.int .i64 a0_0, .string a0_1, .string a0_2, .bool a0_3]) (t := 23) ?hr ?_; (case hd => exact Y1); (case hg => exact Y1); (case hr => exact Y12); intro gb101 hg w3 hbox hb; have n0_ := Aside0.mk (below_step Y6 hb); have n1_ := Aside0.mk (hbox); have n2_ := Aside0.mk ((Y36 : w.heap.size ≤ gb101)); have n3_ := Aside0.mk ((Y36 : w.heap.size ≤ gb101)); clear HB; have HB := n0_; have BK101 := n1_; have GW101 := n2_; have GE101 := n3_; clear n0_ n1_ n2_ n3_; clear hb hbox hg; have hcz4_0 : w3.cell? ⟨gb101, 0, none⟩ = some (.int .i64 a0_0) := (blk_cell BK101.out 0).trans rfl; have hcz4_1 : w3.cell? ⟨gb101, 1, none⟩ = some (.string a0_1) := (blk_cell BK101.out 1).trans rfl; have hcz4_2 : w3.cell? ⟨gb101, 2, none⟩ = some (.string a0_2) := (blk_cell BK101.out 2).trans rfl; have hcz4_3 : w3.cell? ⟨gb101, 3, none⟩ = some (.bool a0_3) := (blk_cell BK101.out 3).trans rfl; have hfz4_0 := blk_frozen BK101.out 0; have hfz4_1 := blk_frozen BK101.out 1; have hfz4_2 := blk_frozen BK101.out 2; have hfz4_3 := blk_frozen BK101.out 3))
 (try simp only [Act.put, List.setIfInBounds_toArray, List.set_cons_zero, List.set_cons_succ])
 have H := HC2.out
 clear HC2
 by_cases c5 : (a0_1.size : Int) > 2147483647
 ·
  rw [if_pos c5] at H
  have c5b0 := decide_eq_true c5
  have c5b1 : decide (2147483647 < a0_1.size) = true := decide_eq_true Y7
  clear c5
  (first | rw [c5b0] | (simp only [i64_w, i32_w]; rw [c5b0]) | skip)
  obtain rfl := Option.some.inj H
  go_wp2
  go_ret
  exact ⟨Y10, Y24⟩
 rw [if_neg c5] at H
 have c5b0 := decide_eq_false c5
 have c5b1 : decide (2147483647 < a0_1.size) = false := decide_eq_false Y7
 clear c5
 (first | rw [c5b0] | (simp only [i64_w, i32_w]; rw [c5b0]) | skip)
 by_cases c6 : (a0_2.size : Int) > 2147483647
 ·
  rw [if_pos c6] at H
  have c6b0 := decide_eq_true c6
  have c6b1 : decide (2147483647 < a0_2.size) = true := decide_eq_true Y7
  clear c6
  obtain rfl := Option.some.inj H
  have hcz7_0 : w3.cell? ⟨gb101, 0, none⟩ = some (.int .i64 a0_0) := (blk_cell BK101.out 0).trans rfl
  have hcz7_1 : w3.cell? ⟨gb101, 1, none⟩ = some (.string a0_1) := (blk_cell BK101.out 1).trans rfl
  have hcz7_2 : w3.cell? ⟨gb101, 2, none⟩ = some (.string a0_2) := (blk_cell BK101.out 2).trans rfl
  have hcz7_3 : w3.cell? ⟨gb101, 3, none⟩ = some (.bool a0_3) := (blk_cell BK101.out 3).trans rfl
  have hfz7_0 := blk_frozen BK101.out 0
  have hfz7_1 := blk_frozen BK101.out 1
  have hfz7_2 := blk_frozen BK101.out 2
  have hfz7_3 := blk_frozen BK101.out 3
  go_wp2
  go_ret
  exact ⟨Y10, Y24⟩
 rw [if_neg c6] at H
 have c6b0 := decide_eq_false c6
 have c6b1 : decide (2147483647 < a0_2.size) = false := decide_eq_false Y7
 clear c6
 obtain rfl := Option.some.inj H
 have hcz8_0 : w3.cell? ⟨gb101, 0, none⟩ = some (.int .i64 a0_0) := (blk_cell BK101.out 0).trans rfl
 have hcz8_1 : w3.cell? ⟨gb101, 1, none⟩ = some (.string a0_1) := (blk_cell BK101.out 1).trans rfl
 have hcz8_2 : w3.cell? ⟨gb101, 2, none⟩ = some (.string a0_2) := (blk_cell BK101.out 2).trans rfl
 have hcz8_3 : w3.cell? ⟨gb101, 3, none⟩ = some (.bool a0_3) := (blk_cell BK101.out 3).trans rfl
 have hfz8_0 := blk_frozen BK101.out 0
 have hfz8_1 := blk_frozen BK101.out 1
 have hfz8_2 := blk_frozen BK101.out 2
 have hfz8_3 := blk_frozen BK101.out 3
 go_wp2
 go_ret
 exact ⟨Y10, Y24⟩

/-! ### laws_prOneLine: function 7 -/
mutual
def laws_prOneLine.l0 : Nat → List ByteArray → Int → Int → Option (Bool)
 | 0, _, _, _ => none
 | k + 1, x10, x11, x12 => if x12 < x11 then (if 0 ≤ x12 then (if x12 < (x10.length : Int) then (laws_prOneLine.l1 k (rdOf ByteArray.empty x10 x12) 0 x10 x11 x12) else (none)) else (none)) else (some true)
def laws_prOneLine.l1 : Nat → ByteArray → Int → List ByteArray → Int → Int → Option (Bool)
 | 0, _, _, _, _, _ => none
 | k + 1, x4, x5, x10, x11, x12 => if x5 < (x4.size : Int) then (if 0 ≤ x5 then (if (bt x4 x5) = 10 then (some false) else (laws_prOneLine.l1 k x4 (wrap64 (x5 + 1)) x10 x11 x12)) else (none)) else (if (x4.size : Int) > 64 then (some false) else (laws_prOneLine.l0 k x10 x11 (wrap64 (x12 + 1))))
end
def laws_prOneLine.f (k : Nat) (a0_0 : Int) (a0_1 : ByteArray) (a0_2 : ByteArray) (a0_3 : Bool) : Option (Bool) := (some (([a0_1, a0_2] : List ByteArray) : List ByteArray)).bind fun y297 => (laws_prOneLine.l0 k y297 (y297.length : Int) 0)
theorem laws_prOneLine.mono_l : ∀ k, (∀ y0 y1 y2, LeO (laws_prOneLine.l0 k y0 y1 y2) (laws_prOneLine.l0 (k + 1) y0 y1 y2)) ∧ (∀ y0 y1 y2 y3 y4, LeO (laws_prOneLine.l1 k y0 y1 y2 y3 y4) (laws_prOneLine.l1 (k + 1) y0 y1 y2 y3 y4))
 | 0 => ⟨fun _ _ _ r h => by simp [laws_prOneLine.l0] at h, fun _ _ _ _ _ r h => by simp [laws_prOneLine.l1] at h⟩
 | k + 1 => by
  obtain ⟨ih0, ih1⟩ := laws_prOneLine.mono_l k
  refine ⟨?_, ?_⟩
  ·
   intro y0 y1 y2
   unfold laws_prOneLine.l0
   exact Y28
  intro y0 y1 y2 y3 y4
  unfold laws_prOneLine.l1
  exact Y28
theorem laws_prOneLine.mono : ∀ a0 a1 a2 a3 k, LeO (laws_prOneLine.f k a0 a1 a2 a3) (laws_prOneLine.f (k + 1) a0 a1 a2 a3) := by
 intro a0 a1 a2 a3 k
 obtain ⟨ih0, ih1⟩ := laws_prOneLine.mono_l k
 unfold laws_prOneLine.f
 repeat' first
   | (with_reducible exact ih0 _ _ _)
   | (with_reducible exact ih1 _ _ _ _ _)
   | (with_reducible exact LeO.refl _)
   | (with_reducible exact LeO.none _)
   | (with_reducible refine LeO.ite ?_ ?_)
   | (with_reducible refine LeO.bind ?_ (fun _ => ?_))
   | exact ih0 _ _ _
   | exact ih1 _ _ _ _ _
   | exact LeO.none _
   | refine LeO.ite ?_ ?_
   | refine LeO.bind ?_ (fun _ => ?_)
set_option maxHeartbeats 8000000 in
set_option maxRecDepth 100000 in
theorem laws_prOneLine.calls (k : Nat) (a0_0 : Int) (a0_1 : ByteArray) (a0_2 : ByteArray) (a0_3 : Bool) (r : Bool) (w : World) (h : laws_prOneLine.f k a0_0 a0_1 a0_2 a0_3 = some r) :
  Calls Try.prog 7 #[.agg #[.int .i64 a0_0, .string a0_1, .string a0_2, .bool a0_3]] w fun e w' => e = .returned (.bool r) ∧ Below w.heap.size w w' := by
 have hu23 := Try.underlying23
 have HB := Aside0.mk (Below.refl w.heap.size w)
 have H : ((some (([a0_1, a0_2] : List ByteArray) : List ByteArray)).bind fun y297 => (laws_prOneLine.l0 k y297 (y297.length : Int) 0)) = some r := h
 clear h
 obtain ⟨y297, hy297⟩ : ∃ y_ : List ByteArray, y_ = (([a0_1, a0_2] : List ByteArray)) := ⟨_, rfl⟩
 first | replace H := bind_y hy297 H | rw [← hy297] at H
 have Ny297 := Aside0.mk hy297
 clear hy297
 have H' := Aside0.mk H
 clear H
 go_enter Try.func7, Try.ntmps7
 go_wp2_with (first | ((with_reducible refine gate_dst (N := 1) rfl ?_); refine box_event ?hg (N := 1) ?hd (cs := #[.int .i64 a0_0, .string a0_1, .string a0_2, .bool a0_3]) (t := 23) ?hr ?_; (case hd => exact Y1); (case hg => exact Y1); (case hr => exact Y12); intro gb296 hg w2 hbox hb; have n0_ := Aside0.mk (below_step Y6 hb); have n1_ := Aside0.mk (hbox); have n2_ := Aside0.mk ((Y36 : w.heap.size ≤ gb296)); have n3_ := Aside0.mk ((Y36 : w.heap.size ≤ gb296)); clear HB; have HB := n0_; have BK296 := n1_; have GW296 := n2_; have GE296 := n3_; clear n0_ n1_ n2_ n3_; clear hb hbox hg; have hcz3_0 : w2.cell? ⟨gb296, 0, none⟩ = some (.int .i64 a0_0) := (blk_cell BK296.out 0).trans rfl; have hcz3_1 : w2.cell? ⟨gb296, 1, none⟩ = some (.string a0_1) := (blk_cell BK296.out 1).trans rfl; have hcz3_2 : w2.cell? ⟨gb296, 2, none⟩ = some (.string a0_2) := (blk_cell BK296.out 2).trans rfl; have hcz3_3 : w2.cell? ⟨gb296, 3, none⟩ = some (.bool a0_3) := (blk_cell BK296.out 3).trans rfl; have hfz3_0 := blk_frozen BK296.out 0; have hfz3_1 := blk_frozen BK296.out 1; have hfz3_2 := blk_frozen BK296.out 2; have hfz3_3 := blk_frozen BK296.out 3) | ((with_reducible refine gate_dst (N := 10) rfl ?_); refine Kd.R_lit Kd.string _ 9 ?hg (N := 10) ?hd (xs := ([a0_1, a0_2] : List ByteArray)) (inner := [.string a0_1, .string a0_2]) (ok := fun _ => True) (okp := fun _ => True) ?hr ?hp (fun _ hk => hk) trivial (Below.refl _ _) (Nat.le_refl _) Y4 ?_; (case hd => exact Y1); (case hg => exact Y1); (case hr => exact Y12); (case hp => exact (Reps.one (show Kd.M Kd.string _ _ _ a0_1 [.string a0_1] from rfl) (Reps.one (show Kd.M Kd.string _ _ _ a0_2 [.string a0_2] from rfl) (Reps.none _ _)))); intro v298 w4 ho5 hb hg_ hnew_; clear hg_ hnew_; (first | rw [← Ny297.out] at ho5 | (simp only [Int.reduceToNat] at ho5; rw [← Ny297.out] at ho5)); have n0_ := Aside0.mk (Kd.R_lower ho5 (below_size Y14)); have n1_ := Aside0.mk (blk_below (g := gb296) (o := .cells #[.int .i64 a0_0, .string a0_1, .string a0_2, .bool a0_3] 23 (0, 0)) (pB BK296.out) hb); have n2_ := Aside0.mk (below_step Y14 hb); clear BK296; clear HB; have HO299 := n0_; have BK296 := n1_; have HB := n2_; clear n0_ n1_ n2_; clear hb ho5; obtain ⟨Ao6, co6, eo6⟩ := Kd.R_slice HO299.out; subst eo6))
 (try simp only [Act.put, List.setIfInBounds_toArray, List.set_cons_succ, List.set_cons_zero])
 go_loopg [12] k (fun kq v12 w' => ∃ (x12_1 : Int), v12 = .int .i64 x12_1 ∧ Aside0 (laws_prOneLine.l0 kq y297 (y297.length : Int) x12_1 = some r) ∧ Aside0 (kq ≤ k) ∧ Aside0 (Kd.R Kd.string 9 w' w.heap.size (fun _ => True) (.slice Ao6 y297.length co6) y297) ∧ Aside0 (w'.heap[gb296]? = some (.cells #[.int .i64 a0_0, .string a0_1, .string a0_2, .bool a0_3] 23 (0, 0))) ∧ Aside0 (Below w.heap.size w w'))
 case atStart => exact ⟨(0), Y9, H', ⟨Nat.le_refl _⟩, ⟨pR HO299.out⟩, ⟨pB BK296.out⟩, ⟨Y14⟩⟩
 clear H'
 try clear p2; try clear hcz3_0; try clear hcz3_1; try clear hcz3_2; try clear hcz3_3; try clear hfz3_0; try clear hfz3_1; try clear hfz3_2; try clear hfz3_3
 obtain ⟨x12_1, rfl, HA, HK1, HO_10, BK296, HB⟩ := hrel
 cases gk with
 | zero => exact absurd HA.out (by simp [laws_prOneLine.l0])
 | succ k1 =>
 have H := HA.out
 clear HA
 simp only [laws_prOneLine.l0] at H
 by_cases c7 : x12_1 < (y297.length : Int)
 rotate_left
 ·
  rw [if_neg c7] at H
  have c7b0 := decide_eq_false c7
  clear c7
  obtain rfl := Option.some.inj H
  go_wp2
  go_ret
  exact ⟨Y10, Y14⟩
 rw [if_pos c7] at H
 have c7b0 := decide_eq_true c7
 clear c7
 by_cases c8 : 0 ≤ x12_1
 rotate_left
 ·
  rw [if_neg c8] at H
  exact absurd H Y4
 rw [if_pos c8] at H
 have c8b0 := decide_eq_true c8
 clear c8
 by_cases c9 : x12_1 < (y297.length : Int)
 rotate_left
 ·
  rw [if_neg c9] at H
  exact absurd H Y4
 rw [if_pos c9] at H
 have c9b0 := decide_eq_true c9
 clear c9
 have H' := Aside0.mk H
 clear H
 have p300 : 0 ≤ (x12_1 : Int) := of_decide_eq_true Y8
 have q300 : x12_1 < (y297.length : Int) := of_decide_eq_true Y8
 obtain ⟨ad300, e300, hx300_0⟩ := Kd.at_string (Kd.R_reads' HO_10.out).2.2 x12_1 p300 q300
 cases e300
 replace p300 := eq_true p300
 replace q300 := eq_true q300
 go_wp2
 (try simp only [Act.put, List.setIfInBounds_toArray, List.set_cons_succ, List.set_cons_zero])
 go_loopg [5] k1 (fun kq v5 w' => ∃ (x5_2 : Int), v5 = .int .i64 x5_2 ∧ Aside0 (laws_prOneLine.l1 kq (rdOf ByteArray.empty y297 x12_1) x5_2 y297 (y297.length : Int) x12_1 = some r) ∧ Aside0 (kq ≤ k1) ∧ Aside0 (Kd.R Kd.string 9 w' w.heap.size (fun _ => True) (.slice (some ad300) y297.length co6) y297) ∧ Aside0 (w'.heap[gb296]? = some (.cells #[.int .i64 a0_0, .string a0_1, .string a0_2, .bool a0_3] 23 (0, 0))) ∧ Aside0 (Below w.heap.size w w'))
 case atStart => exact ⟨(0), Y9, H', ⟨Nat.le_refl _⟩, ⟨pR HO_10.out⟩, ⟨pB BK296.out⟩, ⟨Y14⟩⟩
 clear H'
 try clear p2; try clear p3; try clear q3; try clear hx3; try clear c7; try clear c7b0; try clear c8; try clear c8b0; try clear c9; try clear c9b0; try clear hcz3_0; try clear hcz3_1; try clear hcz3_2; try clear hcz3_3; try clear hfz3_0; try clear hfz3_1; try clear hfz3_2; try clear hfz3_3; try clear hx300_0; try clear p2; try clear p300; try clear q300
 obtain ⟨x5_2, rfl, HA, HK2, HO_10, BK296, HB⟩ := hrel
 cases gk with
 | zero => exact absurd HA.out (by simp [laws_prOneLine.l1])
 | succ k2 =>
 have H := HA.out
 clear HA
 simp only [laws_prOneLine.l1] at H
 by_cases c10 : x5_2 < ((rdOf ByteArray.empty y297 x12_1).size : Int)
 rotate_left
 ·
  rw [if_neg c10] at H
  have c10b0 := decide_eq_false c10
  clear c10
  by_cases c14 : ((rdOf ByteArray.empty y297 x12_1).size : Int) > 64
  ·
   rw [if_pos c14] at H
   have c14b0 := decide_eq_true c14
   have c14b1 : decide (64 < (rdOf ByteArray.empty y297 x12_1).size) = true := decide_eq_true Y7
   clear c14
   obtain rfl := Option.some.inj H
   go_wp2
   go_ret
   exact ⟨Y10, Y14⟩
  rw [if_neg c14] at H
  have c14b0 := decide_eq_false c14
  have c14b1 : decide (64 < (rdOf ByteArray.empty y297 x12_1).size) = false := decide_eq_false Y7
  clear c14
  have H' := Aside0.mk H
  clear H
  go_wp2
  go_roundg k2
  case measure => have := HK1.out; have := HK2.out; omega
  case rel => exact ⟨(wrap64 (x12_1 + 1)), Y9, H', ⟨by have := HK1.out; have := HK2.out; omega⟩, ⟨pR HO_10.out⟩, ⟨pB BK296.out⟩, ⟨Y14⟩⟩
 rw [if_pos c10] at H
 have c10b0 := decide_eq_true c10
 clear c10
 by_cases c11 : 0 ≤ x5_2
 rotate_left
 ·
  rw [if_neg c11] at H
  exact absurd H Y4
 rw [if_pos c11] at H
 have c11b0 := decide_eq_true c11
 clear c11
 by_cases c13 : (bt (rdOf ByteArray.empty y297 x12_1) x5_2) = 10
 ·
  rw [if_pos c13] at H
  have c13b0 := beq_iff_eq.mpr c13
  have c13b1 := bne_eq_false_iff_eq.mpr c13
  clear c13
  obtain rfl := Option.some.inj H
  have p12 : 0 ≤ (x5_2 : Int) := of_decide_eq_true Y8
  have q12 : x5_2 < ((rdOf ByteArray.empty y297 x12_1).size : Int) := of_decide_eq_true Y8
  have hx12 := bt_at (rdOf ByteArray.empty y297 x12_1) x5_2
  replace p12 := eq_true p12
  replace q12 := eq_true q12
  go_wp2
  go_ret
  exact ⟨Y10, Y14⟩
 rw [if_neg c13] at H
 have c13b0 := beq_eq_false_iff_ne.mpr c13
 have c13b1 := bne_iff_ne.mpr c13
 have H' := Aside0.mk H
 clear H
 have p12 : 0 ≤ (x5_2 : Int) := of_decide_eq_true Y8
 have q12 : x5_2 < ((rdOf ByteArray.empty y297 x12_1).size : Int) := of_decide_eq_true Y8
 have hx12 := bt_at (rdOf ByteArray.empty y297 x12_1) x5_2
 replace p12 := eq_true p12
 replace q12 := eq_true q12
 go_wp2
 go_roundg k2
 case measure => have := HK1.out; have := HK2.out; omega
 case rel => exact ⟨(wrap64 (x5_2 + 1)), Y9, H', ⟨by have := HK1.out; have := HK2.out; omega⟩, ⟨pR HO_10.out⟩, ⟨pB BK296.out⟩, ⟨Y14⟩⟩

end Go.Proofs.Ytffdebhaclkhjaa.PFnPrWholeDefault
