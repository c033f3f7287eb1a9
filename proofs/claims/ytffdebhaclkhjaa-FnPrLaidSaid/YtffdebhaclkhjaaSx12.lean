-- Written by a program of the session (wip/tools) out of the translation. Not trusted: Lean checks it.
import Derived.Test.YtffdebhaclkhjaaSq
import Derived.Test.YtffdebhaclkhjaaSx0
namespace Go.Proofs.Ytffdebhaclkhjaa.PFnPrWholeDefault
open Go.RowKit Go.Proofs.YtffdebhaclkhjaaW.PrintWords Go.Proofs.YtffdebhaclkhjaaW.PrintLast Go.Proofs.YtffdebhaclkhjaaW.PrintMore
attribute [local go_sem] max2_int min2_int max_two min_two max_three min_three max_four min_four   -- for this text's walks alone
set_option linter.unusedVariables false
set_option linter.unusedSimpArgs false

/-! ### spec_bareTo: function 20 -/
mutual
def spec_bareTo.j0 : Nat → List Int → ByteArray → Bool → Int → Int → Int → List (S55) → List (S28) → Option (List Int)
 | 0, _, _, _, _, _, _, _, _ => none
 | k + 1, x0, x1, x17, x582000, x582001, x582002, x582003, x582004 => if x17 = true then (if 0 ≤ x582001 then (if x582001 ≤ x582002 then (if x582002 ≤ (x1.size : Int) then (if x0.length + (x1.extract (x582001 : Int).toNat (x582002 : Int).toNat).size < 140737488355328 then (some (x0 ++ bytesOf (x1.extract (x582001 : Int).toNat (x582002 : Int).toNat))) else (none)) else (none)) else (none)) else (none)) else (if x582000 = 6 then (spec_bareTo.j1 k x0 x1 123 125 x582000 x582001 x582002 x582003 x582004) else (spec_bareTo.j1 k x0 x1 91 93 x582000 x582001 x582002 x582003 x582004))
def spec_bareTo.j1 : Nat → List Int → ByteArray → Int → Int → Int → Int → Int → List (S55) → List (S28) → Option (List Int)
 | 0, _, _, _, _, _, _, _, _, _ => none
 | k + 1, x0, x1, x7, x8, x582000, x582001, x582002, x582003, x582004 => if x0.length < 140737488355328 then (spec_bareTo.l0 k (x0 ++ [x7]) x1 x8 (x582004.length : Int) 0 x582000 x582001 x582002 x582003 x582004) else (none)
def spec_bareTo.l0 : Nat → List Int → ByteArray → Int → Int → Int → Int → Int → Int → List (S55) → List (S28) → Option (List Int)
 | 0, _, _, _, _, _, _, _, _, _, _ => none
 | k + 1, x0, x1, x8, x35, x36, x582000, x582001, x582002, x582003, x582004 => if x36 < x35 then (if x36 > 0 then (if x0.length < 140737488355328 then ((some (x0 ++ [44] : List Int)).bind fun y591 => (if x582000 = 6 then (if 0 ≤ x36 then (if x36 < (x582003.length : Int) then (if 0 ≤ ((rd_T55 x582003 x36).f0) then (if ((rd_T55 x582003 x36).f0) ≤ ((rd_T55 x582003 x36).f1) then (if ((rd_T55 x582003 x36).f1) ≤ (x1.size : Int) then (if y591.length + (x1.extract (((rd_T55 x582003 x36).f0) : Int).toNat (((rd_T55 x582003 x36).f1) : Int).toNat).size < 140737488355328 then ((some (y591 ++ bytesOf (x1.extract (((rd_T55 x582003 x36).f0) : Int).toNat (((rd_T55 x582003 x36).f1) : Int).toNat) : List Int)).bind fun y596 => (if y596.length < 140737488355328 then (if x36 < (x582004.length : Int) then ((spec_bareTo.f k (y596 ++ [58]) x1 ((rd_T28 x582004 x36).f0) ((rd_T28 x582004 x36).f1) ((rd_T28 x582004 x36).f2) ((rd_T28 x582004 x36).f3) ((rd_T28 x582004 x36).f4)).bind fun t603 => (spec_bareTo.l0 k t603 x1 x8 x35 (wrap64 (x36 + 1)) x582000 x582001 x582002 x582003 x582004)) else (none)) else (none))) else (none)) else (none)) else (none)) else (none)) else (none)) else (none)) else (if 0 ≤ x36 then (if x36 < (x582004.length : Int) then ((spec_bareTo.f k y591 x1 ((rd_T28 x582004 x36).f0) ((rd_T28 x582004 x36).f1) ((rd_T28 x582004 x36).f2) ((rd_T28 x582004 x36).f3) ((rd_T28 x582004 x36).f4)).bind fun t607 => (spec_bareTo.l0 k t607 x1 x8 x35 (wrap64 (x36 + 1)) x582000 x582001 x582002 x582003 x582004)) else (none)) else (none)))) else (none)) else (if x582000 = 6 then (if 0 ≤ x36 then (if x36 < (x582003.length : Int) then (if 0 ≤ ((rd_T55 x582003 x36).f0) then (if ((rd_T55 x582003 x36).f0) ≤ ((rd_T55 x582003 x36).f1) then (if ((rd_T55 x582003 x36).f1) ≤ (x1.size : Int) then (if x0.length + (x1.extract (((rd_T55 x582003 x36).f0) : Int).toNat (((rd_T55 x582003 x36).f1) : Int).toNat).size < 140737488355328 then ((some (x0 ++ bytesOf (x1.extract (((rd_T55 x582003 x36).f0) : Int).toNat (((rd_T55 x582003 x36).f1) : Int).toNat) : List Int)).bind fun y612 => (if y612.length < 140737488355328 then (if x36 < (x582004.length : Int) then ((spec_bareTo.f k (y612 ++ [58]) x1 ((rd_T28 x582004 x36).f0) ((rd_T28 x582004 x36).f1) ((rd_T28 x582004 x36).f2) ((rd_T28 x582004 x36).f3) ((rd_T28 x582004 x36).f4)).bind fun t619 => (spec_bareTo.l0 k t619 x1 x8 x35 (wrap64 (x36 + 1)) x582000 x582001 x582002 x582003 x582004)) else (none)) else (none))) else (none)) else (none)) else (none)) else (none)) else (none)) else (none)) else (if 0 ≤ x36 then (if x36 < (x582004.length : Int) then ((spec_bareTo.f k x0 x1 ((rd_T28 x582004 x36).f0) ((rd_T28 x582004 x36).f1) ((rd_T28 x582004 x36).f2) ((rd_T28 x582004 x36).f3) ((rd_T28 x582004 x36).f4)).bind fun t623 => (spec_bareTo.l0 k t623 x1 x8 x35 (wrap64 (x36 + 1)) x582000 x582001 x582002 x582003 x582004)) else (none)) else (none)))) else (if x0.length < 140737488355328 then (some (x0 ++ [x8])) else (none))
def spec_bareTo.f : Nat → List Int → ByteArray → Int → Int → Int → List (S55) → List (S28) → Option (List Int)
 | 0, _, _, _, _, _, _, _ => none
 | k + 1, l0, a1, a2_0, a2_1, a2_2, l2_3, l2_4 => if a2_0 = 5 then (spec_bareTo.j0 k l0 a1 false a2_0 a2_1 a2_2 l2_3 l2_4) else (spec_bareTo.j0 k l0 a1 (a2_0 != 6) a2_0 a2_1 a2_2 l2_3 l2_4)
end
theorem spec_bareTo.mono_l : ∀ k, (∀ y0 y1 y2 y3 y4 y5 y6, LeO (spec_bareTo.f k y0 y1 y2 y3 y4 y5 y6) (spec_bareTo.f (k + 1) y0 y1 y2 y3 y4 y5 y6)) ∧ (∀ y0 y1 y2 y3 y4 y5 y6 y7, LeO (spec_bareTo.j0 k y0 y1 y2 y3 y4 y5 y6 y7) (spec_bareTo.j0 (k + 1) y0 y1 y2 y3 y4 y5 y6 y7)) ∧ (∀ y0 y1 y2 y3 y4 y5 y6 y7 y8, LeO (spec_bareTo.j1 k y0 y1 y2 y3 y4 y5 y6 y7 y8) (spec_bareTo.j1 (k + 1) y0 y1 y2 y3 y4 y5 y6 y7 y8)) ∧ (∀ y0 y1 y2 y3 y4 y5 y6 y7 y8 y9, LeO (spec_bareTo.l0 k y0 y1 y2 y3 y4 y5 y6 y7 y8 y9) (spec_bareTo.l0 (k + 1) y0 y1 y2 y3 y4 y5 y6 y7 y8 y9))
 | 0 => ⟨fun _ _ _ _ _ _ _ r h => by simp [spec_bareTo.f] at h, fun _ _ _ _ _ _ _ _ r h => by simp [spec_bareTo.j0] at h, fun _ _ _ _ _ _ _ _ _ r h => by simp [spec_bareTo.j1] at h, fun _ _ _ _ _ _ _ _ _ _ r h => by simp [spec_bareTo.l0] at h⟩
 | k + 1 => by
  obtain ⟨ih0, ih1, ih2, ih3⟩ := spec_bareTo.mono_l k
  refine ⟨?_, ?_, ?_, ?_⟩
  ·
   intro y0 y1 y2 y3 y4 y5 y6
   unfold spec_bareTo.f
   exact Z73
  ·
   intro y0 y1 y2 y3 y4 y5 y6 y7
   unfold spec_bareTo.j0
   exact Z73
  ·
   intro y0 y1 y2 y3 y4 y5 y6 y7 y8
   unfold spec_bareTo.j1
   exact Z73
  intro y0 y1 y2 y3 y4 y5 y6 y7 y8 y9
  unfold spec_bareTo.l0
  exact Z73
theorem spec_bareTo.mono : ∀ a0 a1 a2 a3 a4 a5 a6 k, LeO (spec_bareTo.f k a0 a1 a2 a3 a4 a5 a6) (spec_bareTo.f (k + 1) a0 a1 a2 a3 a4 a5 a6) := by
 intro a0 a1 a2 a3 a4 a5 a6 k
 obtain ⟨ih0, ih1, ih2, ih3⟩ := spec_bareTo.mono_l k
 exact ih0 a0 a1 a2 a3 a4 a5 a6
def spec_bareTo.T13 : Bool × List (List Nat × List Nat) := (true, [([], []), ([], []), ([], []), ([2], [2]), ([], []), ([3, 4], [3, 4]), ([5], [5]), ([6], [6]), ([], []), ([8], [8]), ([], []), ([9, 10], [9, 10]), ([11], [11]), ([12], [12]), ([1, 7, 13], [1, 7, 13]), ([0, 14], [0, 14]), ([15, 15, 0, 1, 2, 3, 4, 5, 6, 7, 8, 9, 10, 11, 12, 13, 14, 15], [0, 15])])
def spec_bareTo.B13 : List Nat := [0, 0, 0, 4, 0, 28, 60, 124, 0, 256, 0, 1792, 3840, 7936, 16382, 32767, 65535]
theorem spec_bareTo.tab13 : rtab .any (opsOf Try.f20 13) = spec_bareTo.T13 := Z1
theorem spec_bareTo.bits13 : waitsOk spec_bareTo.T13.2 spec_bareTo.B13 = true := Z1
set_option maxHeartbeats 8000000 in
set_option maxRecDepth 100000 in
theorem spec_bareTo.calls (k : Nat) : ∀ (P0_ : Nat → Prop) (u9000_ : Value) (l0 : List Int) (a1 : ByteArray) (a2_0 : Int) (a2_1 : Int) (a2_2 : Int) (A2_3 : Option Addr) (c2_3 : Nat) (l2_3 : List (S55)) (P2_4_ : Nat → Prop) (A2_4 : Option Addr) (c2_4 : Nat) (l2_4 : List (S28)) (r : List Int) (w0 w : World) (hB : Below w0.heap.size w0 w) (ho0 : Kd.R (Kd.int .u8) 5 w w0.heap.size P0_ u9000_ l0) (hr2_3 : ∀ W_, Kept w W_ (fun k_ => P0_ k_) → Kd.C k55 W_ A2_3 l2_3.length l2_3) (hc2_3 : l2_3.length ≤ c2_3) (hs2_4 : Kd.V k28 28 w w0.heap.size (fun k_ => P2_4_ k_ ∧ some k_ ≠ (u9000_ : Value).ownBlock) (.slice A2_4 l2_4.length c2_4) l2_4) (h : spec_bareTo.f k l0 a1 a2_0 a2_1 a2_2 l2_3 l2_4 = some r),
  Calls Try.prog 20 #[u9000_, .string a1, .agg #[.int .i64 a2_0, .int .i64 a2_1, .int .i64 a2_2, .slice A2_3 l2_3.length c2_3, .slice A2_4 l2_4.length c2_4]] w fun e w' => ∃ v0_ : Value, e = .returned (v0_) ∧ Kd.R (Kd.int .u8) 5 w' w0.heap.size (fun k_ => (P0_ k_ ∨ w.heap.size ≤ k_)) v0_ r ∧ Below w0.heap.size w0 w' ∧ Kept w w' (fun k_ => P0_ k_) := by
 induction k using Nat.strongRecOn with
 | _ k ih =>
 intro P0_ u9000_ l0 a1 a2_0 a2_1 a2_2 A2_3 c2_3 l2_3 P2_4_ A2_4 c2_4 l2_4 r w0 w hB ho0 hr2_3 hc2_3 hs2_4 h
 cases k with
 | zero => exact absurd h (by simp [spec_bareTo.f])
 | succ k =>
 simp only [spec_bareTo.f] at h
 have hu28 := Try.underlying28
 have HO0 := Aside0.mk (show Kd.R (Kd.int .u8) 5 w w0.heap.size (fun k_ => (P0_ k_ ∨ w.heap.size ≤ k_)) u9000_ l0 from Kd.R_mono ho0 (fun k_ hk => (.inl hk)))
 have HR2_3 := Aside0.mk hr2_3
 have HC2_3 := Aside0.mk hc2_3
 clear hr2_3 hc2_3
 have HO2_4 := Aside0.mk (show Kd.V k28 28 w w0.heap.size (fun k_ => ((P0_ k_ ∨ P2_4_ k_) ∨ w.heap.size ≤ k_) ∧ some k_ ≠ (u9000_ : Value).ownBlock) (.slice A2_4 l2_4.length c2_4) l2_4 from Kd.V_mono hs2_4 (fun k_ hk => ⟨.inl (.inr hk.1), hk.2⟩))
 have HK := Aside0.mk (Kept.refl w (fun k_ => P0_ k_))
 have HW0 := Aside0.mk hB.size
 have HB := Aside0.mk hB
 clear hB
 have H : (if a2_0 = 5 then (spec_bareTo.j0 k l0 a1 false a2_0 a2_1 a2_2 l2_3 l2_4) else (spec_bareTo.j0 k l0 a1 (a2_0 != 6) a2_0 a2_1 a2_2 l2_3 l2_4)) = some r := h
 clear h
 have HC4 := Aside0.mk H
 clear H
 go_enter Try.func20, Try.ntmps20
 go_upto_region 1 with (first | ((with_reducible refine gate_dst (N := 5) rfl ?_); refine box_event ?hg (N := 5) ?hd (cs := #[.int .i64 a2_0, .int .i64 a2_1, .int .i64 a2_2, .slice A2_3 l2_3.length c2_3, .slice A2_4 l2_4.length c2_4]) (t := 28) ?hr ?_; (case hd => exact Z3); (case hg => exact Z3); (case hr => exact Z19); intro gb581 hg w5 hbox hb; have n0_ := Aside0.mk (Kd.R_below (pR HO0.out) hb); have n1_ := Aside0.mk (Kd.V_below (Kd.V_elderB (pV HO2_4.out) gb581 (Nat.le_of_eq hg.symm)) hb); have n2_ := Aside0.mk (Kept.below (S := (fun k_ => P0_ k_)) Z7 hb); have n3_ := Aside0.mk (below_step Z6 hb); have n4_ := Aside0.mk (hbox); have n5_ := Aside0.mk ((by rw [hg]; exact Z119 : w.heap.size ≤ gb581)); have n6_ := Aside0.mk ((Z121 : w0.heap.size ≤ gb581)); clear HO0; clear HO2_4; clear HK; clear HB; have HO0 := n0_; have HO2_4 := n1_; have HK := n2_; have HB := n3_; have BK581 := n4_; have GW581 := n5_; have GE581 := n6_; clear n0_ n1_ n2_ n3_ n4_ n5_ n6_; clear hb hbox hg))
 (try simp only [Act.put, List.setIfInBounds_toArray, List.set_cons_zero, List.set_cons_succ])
 go_cut [17] (fun v17 wc => ∃ (kq : Nat) (x17_3 : Bool), v17 = .bool x17_3 ∧ Aside0 (spec_bareTo.j0 kq l0 a1 x17_3 a2_0 a2_1 a2_2 l2_3 l2_4 = some r) ∧ Aside0 (kq ≤ k) ∧ Aside0 (Kd.R (Kd.int .u8) 5 wc w0.heap.size (fun k_ => (P0_ k_ ∨ w.heap.size ≤ k_)) u9000_ l0) ∧ Aside0 (Kd.V k28 28 wc w0.heap.size (fun k_ => ((P0_ k_ ∨ P2_4_ k_) ∨ w.heap.size ≤ k_) ∧ some k_ ≠ (u9000_ : Value).ownBlock ∧ k_ ≠ gb581) (.slice A2_4 l2_4.length c2_4) l2_4) ∧ Aside0 (wc.heap[gb581]? = some (.cells #[.int .i64 a2_0, .int .i64 a2_1, .int .i64 a2_2, (.slice A2_3 l2_3.length c2_3), (.slice A2_4 l2_4.length c2_4)] 28 (0, 0))) ∧ Aside0 (Kept w wc (fun k_ => P0_ k_)) ∧ Aside0 (Below w0.heap.size w0 wc))
 case first =>
  have H := HC4.out
  clear HC4
  by_cases c6 : a2_0 = 5
  rotate_left
  ·
   rw [if_neg c6] at H
   have c6b0 := beq_eq_false_iff_ne.mpr c6
   have c6b1 := bne_iff_ne.mpr c6
   (first | rw [c6b0] | (simp only [i64_w, i32_w]; rw [c6b0]) | skip)
   have H' := Aside0.mk H
   clear H
   have hcz8_0 : w5.cell? ⟨gb581, 0, none⟩ = some (.int .i64 a2_0) := (blk_cell BK581.out 0).trans rfl
   have hcz8_1 : w5.cell? ⟨gb581, 1, none⟩ = some (.int .i64 a2_1) := (blk_cell BK581.out 1).trans rfl
   have hcz8_2 : w5.cell? ⟨gb581, 2, none⟩ = some (.int .i64 a2_2) := (blk_cell BK581.out 2).trans rfl
   have hcz8_3 : w5.cell? ⟨gb581, 3, none⟩ = some (.slice A2_3 l2_3.length c2_3) := (blk_cell BK581.out 3).trans rfl
   have hcz8_4 : w5.cell? ⟨gb581, 4, none⟩ = some (.slice A2_4 l2_4.length c2_4) := (blk_cell BK581.out 4).trans rfl
   have hfz8_0 := blk_frozen BK581.out 0
   have hfz8_1 := blk_frozen BK581.out 1
   have hfz8_2 := blk_frozen BK581.out 2
   have hfz8_3 := blk_frozen BK581.out 3
   have hfz8_4 := blk_frozen BK581.out 4
   go_wp2
   go_meet
   case rel => exact ⟨_, ((a2_0 != 6)), Z8, H', ⟨Z22⟩, ⟨pR HO0.out⟩, ⟨Z108⟩, ⟨pB BK581.out⟩, ⟨Z18⟩, ⟨Z20⟩⟩
  rw [if_pos c6] at H
  have c6b0 := beq_iff_eq.mpr c6
  have c6b1 := bne_eq_false_iff_eq.mpr c6
  clear c6
  (first | rw [c6b0] | (simp only [i64_w, i32_w]; rw [c6b0]) | skip)
  have H' := Aside0.mk H
  clear H
  have hcz7_0 : w5.cell? ⟨gb581, 0, none⟩ = some (.int .i64 a2_0) := (blk_cell BK581.out 0).trans rfl
  have hcz7_1 : w5.cell? ⟨gb581, 1, none⟩ = some (.int .i64 a2_1) := (blk_cell BK581.out 1).trans rfl
  have hcz7_2 : w5.cell? ⟨gb581, 2, none⟩ = some (.int .i64 a2_2) := (blk_cell BK581.out 2).trans rfl
  have hcz7_3 : w5.cell? ⟨gb581, 3, none⟩ = some (.slice A2_3 l2_3.length c2_3) := (blk_cell BK581.out 3).trans rfl
  have hcz7_4 : w5.cell? ⟨gb581, 4, none⟩ = some (.slice A2_4 l2_4.length c2_4) := (blk_cell BK581.out 4).trans rfl
  have hfz7_0 := blk_frozen BK581.out 0
  have hfz7_1 := blk_frozen BK581.out 1
  have hfz7_2 := blk_frozen BK581.out 2
  have hfz7_3 := blk_frozen BK581.out 3
  have hfz7_4 := blk_frozen BK581.out 4
  go_wp2
  go_meet
  case rel => exact ⟨_, (false), Z8, H', ⟨Z22⟩, ⟨pR HO0.out⟩, ⟨Z108⟩, ⟨pB BK581.out⟩, ⟨Z18⟩, ⟨Z20⟩⟩
 clear HC4; try clear c2; try clear p2; try clear c6; try clear c6b0; try clear c6b1; try clear hcz7_0; try clear hcz7_1; try clear hcz7_2; try clear hcz7_3; try clear hcz7_4; try clear hcz8_0; try clear hcz8_1; try clear hcz8_2; try clear hcz8_3; try clear hcz8_4; try clear hfz7_0; try clear hfz7_1; try clear hfz7_2; try clear hfz7_3; try clear hfz7_4; try clear hfz8_0; try clear hfz8_1; try clear hfz8_2; try clear hfz8_3; try clear hfz8_4
 obtain ⟨kq, x17_3, rfl, HA, HJ3, HO_0, HO_582004, BK581, HK, HB⟩ := hcut
 cases kq with
 | zero => exact absurd HA.out (by simp [spec_bareTo.j0])
 | succ kj3 =>
 have H := HA.out
 clear HA
 simp only [spec_bareTo.j0] at H
 by_cases c9 : x17_3 = true
 ·
  subst c9
  rw [if_pos rfl] at H
  by_cases c10 : 0 ≤ a2_1
  rotate_left
  ·
   rw [if_neg c10] at H
   exact absurd H Z4
  rw [if_pos c10] at H
  have c10b0 := eq_true c10
  have c10b1 := decide_eq_true c10
  clear c10
  by_cases c11 : a2_1 ≤ a2_2
  rotate_left
  ·
   rw [if_neg c11] at H
   exact absurd H Z4
  rw [if_pos c11] at H
  have c11b0 := eq_true c11
  have c11b1 := decide_eq_true c11
  clear c11
  by_cases c12 : a2_2 ≤ (a1.size : Int)
  rotate_left
  ·
   rw [if_neg c12] at H
   exact absurd H Z4
  rw [if_pos c12] at H
  have c12b0 := eq_true c12
  have c12b1 := decide_eq_true c12
  clear c12
  by_cases c13 : l0.length + (a1.extract (a2_1 : Int).toNat (a2_2 : Int).toNat).size < 140737488355328
  rotate_left
  ·
   rw [if_neg c13] at H
   exact absurd H Z4
  rw [if_pos c13] at H
  have LMc13 := Aside0.mk c13
  clear c13
  obtain ⟨y582, hy582⟩ : ∃ y_ : List Int, y_ = (l0 ++ bytesOf (a1.extract (a2_1 : Int).toNat (a2_2 : Int).toNat)) := ⟨_, rfl⟩
  first | replace H := bind_y hy582 H | rw [← hy582] at H
  have Ny582 := Aside0.mk hy582
  clear hy582
  obtain rfl := Option.some.inj H
  have hcz14_0 : wc.cell? ⟨gb581, 0, none⟩ = some (.int .i64 a2_0) := (blk_cell BK581.out 0).trans rfl
  have hcz14_1 : wc.cell? ⟨gb581, 1, none⟩ = some (.int .i64 a2_1) := (blk_cell BK581.out 1).trans rfl
  have hcz14_2 : wc.cell? ⟨gb581, 2, none⟩ = some (.int .i64 a2_2) := (blk_cell BK581.out 2).trans rfl
  have hcz14_3 : wc.cell? ⟨gb581, 3, none⟩ = some (.slice A2_3 l2_3.length c2_3) := (blk_cell BK581.out 3).trans rfl
  have hcz14_4 : wc.cell? ⟨gb581, 4, none⟩ = some (.slice A2_4 l2_4.length c2_4) := (blk_cell BK581.out 4).trans rfl
  have hfz14_0 := blk_frozen BK581.out 0
  have hfz14_1 := blk_frozen BK581.out 1
  have hfz14_2 := blk_frozen BK581.out 2
  have hfz14_3 := blk_frozen BK581.out 3
  have hfz14_4 := blk_frozen BK581.out 4
  go_wp2_with (first | (at_builtin; refine Kd.R_append_str (w0 := w0) w0.heap.size rfl (.tmp 18) _ 40 9 5 rfl Try.underlying40 Try.underlying9 info5 u9000_ l0 (a1.extract (a2_1 : Int).toNat (a2_2 : Int).toNat) (fun k_ => (P0_ k_ ∨ w.heap.size ≤ k_)) rfl rfl ?aF ?aO ?aB ?aS ?aL ?_; (case aB => exact Z20); (case aF => exact (fun k_ hk => (.inr (Nat.le_trans Z130 hk)))); (case aO => exact (pR HO_0.out)); (case aS => exact (below_size Z20)); (case aL => have := LMc13.out; omega); intro v583 w15 ho hb hg hat; rw [← Ny582.out] at ho; have n0_ := Aside0.mk (Kd.V_afterv (ok := (fun k_ => ((P0_ k_ ∨ P2_4_ k_) ∨ w.heap.size ≤ k_) ∧ k_ ≠ gb581)) Z64 hg hat); have n1_ := Aside0.mk (blk_grown (g := gb581) (o := .cells #[.int .i64 a2_0, .int .i64 a2_1, .int .i64 a2_2, .slice A2_3 l2_3.length c2_3, .slice A2_4 l2_4.length c2_4] 28 (0, 0)) (pB BK581.out) hg (Kd.R_ne HO_0.out BK581.out Z2)); have n2_ := Aside0.mk (hb); have n3_ := Aside0.mk (Kept.of_grown (S := (fun k_ => P0_ k_)) hg Z18 (fun k_ e_ => (HO_0.out.1 k_ e_))); have n4_ := Aside0.mk (ho); clear HO_582004; clear BK581; clear HB; clear HK; clear HO_0; have HO_582004 := n0_; have BK581 := n1_; have HB := n2_; have HK := n3_; have HO584 := n4_; clear n0_ n1_ n2_ n3_ n4_; clear ho hb hg hat))
  go_ret
  exact ⟨_, Z12, pR HO584.out, Z20, Z18⟩
 replace c9 := Bool.eq_false_iff.mpr c9
 subst c9
 rw [if_neg (show ¬ (false = true) from Z2)] at H
 have HC16 := Aside0.mk H
 clear H
 have hcz17_0 : wc.cell? ⟨gb581, 0, none⟩ = some (.int .i64 a2_0) := (blk_cell BK581.out 0).trans rfl
 have hcz17_1 : wc.cell? ⟨gb581, 1, none⟩ = some (.int .i64 a2_1) := (blk_cell BK581.out 1).trans rfl
 have hcz17_2 : wc.cell? ⟨gb581, 2, none⟩ = some (.int .i64 a2_2) := (blk_cell BK581.out 2).trans rfl
 have hcz17_3 : wc.cell? ⟨gb581, 3, none⟩ = some (.slice A2_3 l2_3.length c2_3) := (blk_cell BK581.out 3).trans rfl
 have hcz17_4 : wc.cell? ⟨gb581, 4, none⟩ = some (.slice A2_4 l2_4.length c2_4) := (blk_cell BK581.out 4).trans rfl
 have hfz17_0 := blk_frozen BK581.out 0
 have hfz17_1 := blk_frozen BK581.out 1
 have hfz17_2 := blk_frozen BK581.out 2
 have hfz17_3 := blk_frozen BK581.out 3
 have hfz17_4 := blk_frozen BK581.out 4
 go_upto_if 28 with (fail)
 go_cut [7, 8] (fun v7 v8 wc => ∃ (kq : Nat) (x7_15 : Int) (x8_15 : Int), v7 = .int .u8 x7_15 ∧ v8 = .int .u8 x8_15 ∧ Aside0 (spec_bareTo.j1 kq l0 a1 x7_15 x8_15 a2_0 a2_1 a2_2 l2_3 l2_4 = some r) ∧ Aside0 (kq ≤ kj3) ∧ Aside0 (Kd.R (Kd.int .u8) 5 wc w0.heap.size (fun k_ => (P0_ k_ ∨ w.heap.size ≤ k_)) u9000_ l0) ∧ Aside0 (Kd.V k28 28 wc w0.heap.size (fun k_ => ((P0_ k_ ∨ P2_4_ k_) ∨ w.heap.size ≤ k_) ∧ some k_ ≠ (u9000_ : Value).ownBlock ∧ k_ ≠ gb581) (.slice A2_4 l2_4.length c2_4) l2_4) ∧ Aside0 (wc.heap[gb581]? = some (.cells #[.int .i64 a2_0, .int .i64 a2_1, .int .i64 a2_2, (.slice A2_3 l2_3.length c2_3), (.slice A2_4 l2_4.length c2_4)] 28 (0, 0))) ∧ Aside0 (Kept w wc (fun k_ => P0_ k_)) ∧ Aside0 (Below w0.heap.size w0 wc))
 case first =>
  have H := HC16.out
  clear HC16
  by_cases c18 : a2_0 = 6
  rotate_left
  ·
   rw [if_neg c18] at H
   have c18b0 := beq_eq_false_iff_ne.mpr c18
   have c18b1 := bne_iff_ne.mpr c18
   (first | rw [c18b0] | (simp only [i64_w, i32_w]; rw [c18b0]) | skip)
   have H' := Aside0.mk H
   clear H
   go_wp2
   go_meet
   case rel => exact ⟨_, (91), (93), Z8, Z8, H', ⟨by have := HJ3.out; first | omega | exact Nat.le_refl _⟩, ⟨pR HO_0.out⟩, ⟨pV HO_582004.out⟩, ⟨pB BK581.out⟩, ⟨Z18⟩, ⟨Z20⟩⟩
  rw [if_pos c18] at H
  have c18b0 := beq_iff_eq.mpr c18
  have c18b1 := bne_eq_false_iff_eq.mpr c18
  clear c18
  (first | rw [c18b0] | (simp only [i64_w, i32_w]; rw [c18b0]) | skip)
  have H' := Aside0.mk H
  clear H
  go_wp2
  go_meet
  case rel => exact ⟨_, (123), (125), Z8, Z8, H', ⟨by have := HJ3.out; first | omega | exact Nat.le_refl _⟩, ⟨pR HO_0.out⟩, ⟨pV HO_582004.out⟩, ⟨pB BK581.out⟩, ⟨Z18⟩, ⟨Z20⟩⟩
 clear HC16; try clear c1; try clear c2; try clear p2; try clear c6; try clear c6b0; try clear c6b1; try clear c9; try clear c10; try clear c10b0; try clear c10b1; try clear c11; try clear c11b0; try clear c11b1; try clear c12; try clear c12b0; try clear c12b1; try clear c13; try clear c18; try clear c18b0; try clear c18b1; try clear hcz14_0; try clear hcz14_1; try clear hcz14_2; try clear hcz14_3; try clear hcz14_4; try clear hcz17_0; try clear hcz17_1; try clear hcz17_2; try clear hcz17_3; try clear hcz17_4; try clear hcz7_0; try clear hcz7_1; try clear hcz7_2; try clear hcz7_3; try clear hcz7_4; try clear hcz8_0; try clear hcz8_1; try clear hcz8_2; try clear hcz8_3; try clear hcz8_4; try clear hfz14_0; try clear hfz14_1; try clear hfz14_2; try clear hfz14_3; try clear hfz14_4; try clear hfz17_0; try clear hfz17_1; try clear hfz17_2; try clear hfz17_3; try clear hfz17_4; try clear hfz7_0; try clear hfz7_1; try clear hfz7_2; try clear hfz7_3; try clear hfz7_4; try clear hfz8_0; try clear hfz8_1; try clear hfz8_2; try clear hfz8_3; try clear hfz8_4; try clear p2
 obtain ⟨kq, x7_15, x8_15, rfl, rfl, HA, HJ15, HO_0, HO_582004, BK581, HK, HB⟩ := hcut
 cases kq with
 | zero => exact absurd HA.out (by simp [spec_bareTo.j1])
 | succ kj15 =>
 have H := HA.out
 clear HA
 simp only [spec_bareTo.j1] at H
 by_cases c19 : l0.length < 140737488355328
 rotate_left
 ·
  rw [if_neg c19] at H
  exact absurd H Z4
 rw [if_pos c19] at H
 have LMc19 := Aside0.mk c19
 clear c19
 obtain ⟨y585, hy585⟩ : ∃ y_ : List Int, y_ = (l0 ++ [x7_15]) := ⟨_, rfl⟩
 first | replace H := bind_y hy585 H | rw [← hy585] at H
 have Ny585 := Aside0.mk hy585
 clear hy585
 have H' := Aside0.mk H
 clear H
 go_wp2_with (first | ((with_reducible refine gate_builtin (b := .append) (xs := #[.tmp 29, .tmp 31]) rfl ?_); at_builtin; refine Kd.R_append (Kd.int .u8) (w0 := w0) w0.heap.size rfl (.tmp 29) (.tmp 31) 40 5 (.int .u8 0) 1 rfl Try.underlying40 info5 rfl Z2 Z5 u9000_ l0 x7_15 [.int .u8 x7_15] (fun k_ => (P0_ k_ ∨ w.heap.size ≤ k_)) (fun _ => False) rfl rfl ?aP (fun _ hk => hk.elim) ?aF ?aO ?aB ?aS ?aL ?_; (case aP => exact rfl); (case aB => exact Z20); (case aF => exact (fun k_ hk => (.inr (Nat.le_trans Z130 hk)))); (case aO => exact (pR HO_0.out)); (case aS => exact (below_size Z20)); (case aL => have := LMc19.out; omega); intro v586 w20 ho hb hg hat; rw [← Ny585.out] at ho; have n0_ := Aside0.mk (Kd.V_afterv (ok := (fun k_ => ((P0_ k_ ∨ P2_4_ k_) ∨ w.heap.size ≤ k_) ∧ k_ ≠ gb581)) Z64 hg hat); have n1_ := Aside0.mk (blk_grown (g := gb581) (o := .cells #[.int .i64 a2_0, .int .i64 a2_1, .int .i64 a2_2, .slice A2_3 l2_3.length c2_3, .slice A2_4 l2_4.length c2_4] 28 (0, 0)) (pB BK581.out) hg (Kd.R_ne HO_0.out BK581.out Z2)); have n2_ := Aside0.mk (hb); have n3_ := Aside0.mk (Kept.of_grown (S := (fun k_ => P0_ k_)) hg Z18 (fun k_ e_ => (HO_0.out.1 k_ e_))); have n4_ := Aside0.mk (ho); clear HO_582004; clear BK581; clear HB; clear HK; clear HO_0; have HO_582004 := n0_; have BK581 := n1_; have HB := n2_; have HK := n3_; have HO587 := n4_; clear n0_ n1_ n2_ n3_ n4_; clear ho hb hg hat; have hcz21_0 : w20.cell? ⟨gb581, 0, none⟩ = some (.int .i64 a2_0) := (blk_cell BK581.out 0).trans rfl; have hcz21_1 : w20.cell? ⟨gb581, 1, none⟩ = some (.int .i64 a2_1) := (blk_cell BK581.out 1).trans rfl; have hcz21_2 : w20.cell? ⟨gb581, 2, none⟩ = some (.int .i64 a2_2) := (blk_cell BK581.out 2).trans rfl; have hcz21_3 : w20.cell? ⟨gb581, 3, none⟩ = some (.slice A2_3 l2_3.length c2_3) := (blk_cell BK581.out 3).trans rfl; have hcz21_4 : w20.cell? ⟨gb581, 4, none⟩ = some (.slice A2_4 l2_4.length c2_4) := (blk_cell BK581.out 4).trans rfl; have hfz21_0 := blk_frozen BK581.out 0; have hfz21_1 := blk_frozen BK581.out 1; have hfz21_2 := blk_frozen BK581.out 2; have hfz21_3 := blk_frozen BK581.out 3; have hfz21_4 := blk_frozen BK581.out 4))
 (try simp only [Act.put, List.setIfInBounds_toArray, List.set_cons_succ, List.set_cons_zero])
 go_loopg [0, 36] kj15 (fun kq v0 v36 w' => ∃ (x0_3 : List Int) (x36_3 : Int), v36 = .int .i64 x36_3 ∧ Aside0 (spec_bareTo.l0 kq x0_3 a1 x8_15 (l2_4.length : Int) x36_3 a2_0 a2_1 a2_2 l2_3 l2_4 = some r) ∧ Aside0 (kq ≤ kj15) ∧ Aside0 (Kd.R (Kd.int .u8) 5 w' w0.heap.size (fun k_ => (P0_ k_ ∨ w.heap.size ≤ k_)) v0 x0_3) ∧ Aside0 (Kd.V k28 28 w' w0.heap.size (fun k_ => ((P0_ k_ ∨ P2_4_ k_) ∨ w.heap.size ≤ k_) ∧ some k_ ≠ (v0 : Value).ownBlock ∧ k_ ≠ gb581) (.slice A2_4 l2_4.length c2_4) l2_4) ∧ Aside0 (w'.heap[gb581]? = some (.cells #[.int .i64 a2_0, .int .i64 a2_1, .int .i64 a2_2, (.slice A2_3 l2_3.length c2_3), (.slice A2_4 l2_4.length c2_4)] 28 (0, 0))) ∧ Aside0 (Kept w w' (fun k_ => P0_ k_)) ∧ Aside0 (Below w0.heap.size w0 w'))
 case atStart => exact ⟨(y585), (0), Z8, H', ⟨Nat.le_refl _⟩, ⟨pR HO587.out⟩, ⟨by (with_reducible repeat (first | apply Kd.V_alloc | apply Kd.V_drewN | apply Kd.V_drew)); exact Kd.V_mono HO_582004.out (fun _ hk => ⟨hk.1.1, ⟨hk.2, hk.1.2⟩⟩)⟩, ⟨pB BK581.out⟩, ⟨Z18⟩, ⟨Z20⟩⟩
 clear H'
 try clear c1; try clear c2; try clear p2; try clear c6; try clear c6b0; try clear c6b1; try clear c9; try clear c10; try clear c10b0; try clear c10b1; try clear c11; try clear c11b0; try clear c11b1; try clear c12; try clear c12b0; try clear c12b1; try clear c13; try clear c18; try clear c18b0; try clear c18b1; try clear c19; try clear c20; try clear hcz14_0; try clear hcz14_1; try clear hcz14_2; try clear hcz14_3; try clear hcz14_4; try clear hcz17_0; try clear hcz17_1; try clear hcz17_2; try clear hcz17_3; try clear hcz17_4; try clear hcz21_0; try clear hcz21_1; try clear hcz21_2; try clear hcz21_3; try clear hcz21_4; try clear hcz7_0; try clear hcz7_1; try clear hcz7_2; try clear hcz7_3; try clear hcz7_4; try clear hcz8_0; try clear hcz8_1; try clear hcz8_2; try clear hcz8_3; try clear hcz8_4; try clear hfz14_0; try clear hfz14_1; try clear hfz14_2; try clear hfz14_3; try clear hfz14_4; try clear hfz17_0; try clear hfz17_1; try clear hfz17_2; try clear hfz17_3; try clear hfz17_4; try clear hfz21_0; try clear hfz21_1; try clear hfz21_2; try clear hfz21_3; try clear hfz21_4; try clear hfz7_0; try clear hfz7_1; try clear hfz7_2; try clear hfz7_3; try clear hfz7_4; try clear hfz8_0; try clear hfz8_1; try clear hfz8_2; try clear hfz8_3; try clear hfz8_4; try clear p2
 obtain ⟨x0_3, x36_3, rfl, HA, HK3, HO_0, HO_582004, BK581, HK, HB⟩ := hrel
 cases gk with
 | zero => exact absurd HA.out (by simp [spec_bareTo.l0])
 | succ k3 =>
 have H := HA.out
 clear HA
 simp only [spec_bareTo.l0] at H
 by_cases c22 : x36_3 < (l2_4.length : Int)
 rotate_left
 ·
  rw [if_neg c22] at H
  have c22b0 := decide_eq_false c22
  clear c22
  by_cases c73 : x0_3.length < 140737488355328
  rotate_left
  ·
   rw [if_neg c73] at H
   exact absurd H Z4
  rw [if_pos c73] at H
  have LMc73 := Aside0.mk c73
  clear c73
  obtain ⟨y588, hy588⟩ : ∃ y_ : List Int, y_ = (x0_3 ++ [x8_15]) := ⟨_, rfl⟩
  first | replace H := bind_y hy588 H | rw [← hy588] at H
  have Ny588 := Aside0.mk hy588
  clear hy588
  obtain rfl := Option.some.inj H
  go_wp2_with (first | ((with_reducible refine gate_builtin (b := .append) (xs := #[.tmp 75, .tmp 77]) rfl ?_); at_builtin; refine Kd.R_append (Kd.int .u8) (w0 := w0) w0.heap.size rfl (.tmp 75) (.tmp 77) 40 5 (.int .u8 0) 1 rfl Try.underlying40 info5 rfl Z2 Z5 u0 x0_3 x8_15 [.int .u8 x8_15] (fun k_ => (P0_ k_ ∨ w.heap.size ≤ k_)) (fun _ => False) rfl rfl ?aP (fun _ hk => hk.elim) ?aF ?aO ?aB ?aS ?aL ?_; (case aP => exact rfl); (case aB => exact Z20); (case aF => exact (fun k_ hk => (.inr (Nat.le_trans Z130 hk)))); (case aO => exact (pR HO_0.out)); (case aS => exact (below_size Z20)); (case aL => have := LMc73.out; omega); intro v589 w74 ho hb hg hat; rw [← Ny588.out] at ho; have n0_ := Aside0.mk (Kd.V_afterv (ok := (fun k_ => ((P0_ k_ ∨ P2_4_ k_) ∨ w.heap.size ≤ k_) ∧ k_ ≠ gb581)) Z64 hg hat); have n1_ := Aside0.mk (blk_grown (g := gb581) (o := .cells #[.int .i64 a2_0, .int .i64 a2_1, .int .i64 a2_2, .slice A2_3 l2_3.length c2_3, .slice A2_4 l2_4.length c2_4] 28 (0, 0)) (pB BK581.out) hg (Kd.R_ne HO_0.out BK581.out Z2)); have n2_ := Aside0.mk (hb); have n3_ := Aside0.mk (Kept.of_grown (S := (fun k_ => P0_ k_)) hg Z18 (fun k_ e_ => (HO_0.out.1 k_ e_))); have n4_ := Aside0.mk (ho); clear HO_582004; clear BK581; clear HB; clear HK; clear HO_0; have HO_582004 := n0_; have BK581 := n1_; have HB := n2_; have HK := n3_; have HO590 := n4_; clear n0_ n1_ n2_ n3_ n4_; clear ho hb hg hat))
  go_ret
  exact ⟨_, Z12, pR HO590.out, Z20, Z18⟩
 rw [if_pos c22] at H
 have c22b0 := decide_eq_true c22
 clear c22
 by_cases c23 : x36_3 > 0
 rotate_left
 ·
  rw [if_neg c23] at H
  have c23b0 := decide_eq_false c23
  clear c23
  by_cases c50 : a2_0 = 6
  rotate_left
  ·
   rw [if_neg c50] at H
   have c50b0 := beq_eq_false_iff_ne.mpr c50
   have c50b1 := bne_iff_ne.mpr c50
   by_cases c67 : 0 ≤ x36_3
   rotate_left
   ·
    rw [if_neg c67] at H
    exact absurd H Z4
   rw [if_pos c67] at H
   have c67b0 := decide_eq_true c67
   clear c67
   by_cases c68 : x36_3 < (l2_4.length : Int)
   rotate_left
   ·
    rw [if_neg c68] at H
    exact absurd H Z4
   rw [if_pos c68] at H
   have c68b0 := decide_eq_true c68
   clear c68
   replace H := Option.bind_eq_some_iff.mp H
   obtain ⟨t623, A690, H⟩ := H
   have A69 := Aside0.mk A690
   clear A690
   have H' := Aside0.mk H
   clear H
   have hcz70_0 : wr.cell? ⟨gb581, 0, none⟩ = some (.int .i64 a2_0) := (blk_cell BK581.out 0).trans rfl
   have hcz70_1 : wr.cell? ⟨gb581, 1, none⟩ = some (.int .i64 a2_1) := (blk_cell BK581.out 1).trans rfl
   have hcz70_2 : wr.cell? ⟨gb581, 2, none⟩ = some (.int .i64 a2_2) := (blk_cell BK581.out 2).trans rfl
   have hcz70_3 : wr.cell? ⟨gb581, 3, none⟩ = some (.slice A2_3 l2_3.length c2_3) := (blk_cell BK581.out 3).trans rfl
   have hcz70_4 : wr.cell? ⟨gb581, 4, none⟩ = some (.slice A2_4 l2_4.length c2_4) := (blk_cell BK581.out 4).trans rfl
   have hfz70_0 := blk_frozen BK581.out 0
   have hfz70_1 := blk_frozen BK581.out 1
   have hfz70_2 := blk_frozen BK581.out 2
   have hfz70_3 := blk_frozen BK581.out 3
   have hfz70_4 := blk_frozen BK581.out 4
   have p622 : 0 ≤ (x36_3 : Int) := of_decide_eq_true Z0
   have q622 : x36_3 < (l2_4.length : Int) := of_decide_eq_true Z0
   obtain ⟨ad622, A622_3, c622_3, A622_4, c622_4, e622, hx622_0, hx622_1, hx622_2, hx622_3, hx622_4, hl622_3, hi622_3, hl622_4, hi622_4⟩ := at_T28 (Kd.V_reads' HO_582004.out).2.2 x36_3 p622 q622
   cases e622
   obtain ⟨ce622, hce622, hMe622, hcc622⟩ := Kd.V_get HO_582004.out z28 x36_3 p622 (by first | exact q622 | exact of_decide_eq_true Z0 | (have e_ := (Kd.V_reads' HO_582004.out).1; omega))
   obtain ⟨ua622_3, uc622_3, ua622_4, uc622_4, rfl, ul622_3, ge622_3, ul622_4, ge622_4⟩ := k28_openF hMe622
   have hv622_3 := hcc622 3 _ rfl
   rw [add_field _ _ 3 Z5] at hv622_3
   replace hv622_3 := Option.some.inj (hv622_3.symm.trans hx622_3)
   injection hv622_3 with hva_ hvn_ hvc_
   rw [hva_] at ge622_3
   rw [hvc_] at ul622_3
   have HL622_3 := Aside0.mk (show Kd.V k55 55 _ w0.heap.size _ _ ((rd_T28 l2_4 x36_3).f3) from Kd.V_mk ul622_3 ge622_3)
   clear hva_ hvn_ hvc_ ge622_3 ul622_3
   have hv622_4 := hcc622 4 _ rfl
   rw [add_field _ _ 4 Z5] at hv622_4
   replace hv622_4 := Option.some.inj (hv622_4.symm.trans hx622_4)
   injection hv622_4 with hva_ hvn_ hvc_
   rw [hva_] at ge622_4
   rw [hvc_] at ul622_4
   have HL622_4 := Aside0.mk (show Kd.V k28 28 _ w0.heap.size _ _ ((rd_T28 l2_4 x36_3).f4) from Kd.V_mk ul622_4 ge622_4)
   clear hva_ hvn_ hvc_ ge622_4 ul622_4; clear hcc622 hce622
   have HR622_3 := Aside0.mk hi622_3
   have HC622_3 := Aside0.mk hl622_3
   clear hi622_3 hl622_3
   have HR622_4 := Aside0.mk hi622_4
   have HC622_4 := Aside0.mk hl622_4
   clear hi622_4 hl622_4
   replace p622 := eq_true p622
   replace q622 := eq_true q622
   obtain ⟨Ao71, co71, eo71⟩ := Kd.R_slice HO_0.out
   subst eo71
   go_wp2_with (first | ((with_reducible refine gate_callee (f := 20) rfl ?_); refine goesL_ (some 73) rfl rfl Try.func20 Z1 rfl #[.slice Ao71 x0_3.length co71, .string a1, .agg #[.int .i64 ((rd_T28 l2_4 x36_3).f0), .int .i64 ((rd_T28 l2_4 x36_3).f1), .int .i64 ((rd_T28 l2_4 x36_3).f2), .slice A622_3 ((rd_T28 l2_4 x36_3).f3).length c622_3, .slice A622_4 ((rd_T28 l2_4 x36_3).f4).length c622_4]] rfl Z13 ?_; (with_reducible refine (ih k3 Z45 (fun k_ => some k_ = (.slice Ao71 x0_3.length co71 : Value).ownBlock) (.slice Ao71 x0_3.length co71) x0_3 a1 ((rd_T28 l2_4 x36_3).f0) ((rd_T28 l2_4 x36_3).f1) ((rd_T28 l2_4 x36_3).f2) _ _ ((rd_T28 l2_4 x36_3).f3) (fun k_ => (((P0_ k_ ∨ P2_4_ k_) ∨ w.heap.size ≤ k_) ∧ (some k_ ≠ (.slice Ao71 x0_3.length co71 : Value).ownBlock ∧ k_ ≠ gb581))) _ _ ((rd_T28 l2_4 x36_3).f4) t623 w0 _ ?side1 ?side2 ?side3 ?side4 ?side5 A69.out).mono ?_); (case side1 => exact Z20); (case side2 => exact Z36); (case side3 => exact Kd.C_kept_ownV (HL622_3.out) (fun k_ hk_ hs_ => (hk_.2.1) hs_)); (case side4 => exact HC622_3.out); (case side5 => exact Kd.V_mono (HL622_4.out) (fun k_ hk_ => ⟨hk_, hk_.2.1⟩)); rintro e w72 ⟨v624, rfl, ho0, hb, hkp⟩; refine ⟨_, rfl, ?_⟩; have n0_ := Aside0.mk (Kd.V_mono (ok' := fun k_ => ((P0_ k_ ∨ P2_4_ k_) ∨ w.heap.size ≤ k_) ∧ k_ ≠ gb581 ∧ some k_ ≠ (v624 : Value).ownBlock) (Kd.V_keptB (HO_582004.out) hkp (fun k_ hk_ hs_ => (hk_.2.1) hs_)) (fun k_ hk_ => ⟨hk_.1.1, hk_.1.2.2, fun e_ => Or.elim (ho0.1 k_ e_.symm) (fun hs_ => hk_.2.1 hs_) (fun hn_ => Nat.not_le.2 hk_.2.2 hn_)⟩)); have n1_ := Aside0.mk (blk_kept (pB BK581.out) hkp (fun hs_ => (fun e_ => (Kd.R_ne HO_0.out BK581.out Z2) e_) hs_)); have n2_ := Aside0.mk (Kd.R_mono (ok' := fun k_ => (P0_ k_ ∨ w.heap.size ≤ k_)) ho0 (fun k_ hk_ => Or.elim hk_ (fun hs_ => (HO_0.out.1 k_ (hs_).symm)) (fun hn_ => (.inr (Nat.le_trans Z130 hn_))))); have n3_ := Aside0.mk (Kept.then_ (S := (fun k_ => P0_ k_)) Z18 hkp (fun k_ hs_ => (fun e_ => (HO_0.out.1 k_ e_.symm)) hs_)); have n4_ := Aside0.mk (hb); clear HO_582004; clear BK581; clear HK; clear HB; clear HO_0; clear HL622_3; clear HL622_4; have HO_582004 := n0_; have BK581 := n1_; have HO625 := n2_; have HK := n3_; have HB := n4_; clear n0_ n1_ n2_ n3_ n4_; (try clear hb); (try clear hkp); (try clear ho0)))
   go_roundg k3
   case measure => have := HJ3.out; have := HJ15.out; have := HK3.out; omega
   case rel => exact ⟨(t623), (wrap64 (x36_3 + 1)), Z8, H', ⟨Z45⟩, ⟨pR HO625.out⟩, ⟨Z74⟩, ⟨pB BK581.out⟩, ⟨Z18⟩, ⟨Z20⟩⟩
  rw [if_pos c50] at H
  have c50b0 := beq_iff_eq.mpr c50
  have c50b1 := bne_eq_false_iff_eq.mpr c50
  clear c50
  by_cases c51 : 0 ≤ x36_3
  rotate_left
  ·
   rw [if_neg c51] at H
   exact absurd H Z4
  rw [if_pos c51] at H
  have c51b0 := decide_eq_true c51
  clear c51
  by_cases c52 : x36_3 < (l2_3.length : Int)
  rotate_left
  ·
   rw [if_neg c52] at H
   exact absurd H Z4
  rw [if_pos c52] at H
  have c52b0 := decide_eq_true c52
  clear c52
  by_cases c53 : 0 ≤ ((rd_T55 l2_3 x36_3).f0)
  rotate_left
  ·
   rw [if_neg c53] at H
   exact absurd H Z4
  rw [if_pos c53] at H
  have c53b0 := eq_true c53
  have c53b1 := decide_eq_true c53
  clear c53
  by_cases c54 : ((rd_T55 l2_3 x36_3).f0) ≤ ((rd_T55 l2_3 x36_3).f1)
  rotate_left
  ·
   rw [if_neg c54] at H
   exact absurd H Z4
  rw [if_pos c54] at H
  have c54b0 := eq_true c54
  have c54b1 := decide_eq_true c54
  clear c54
  by_cases c55 : ((rd_T55 l2_3 x36_3).f1) ≤ (a1.size : Int)
  rotate_left
  ·
   rw [if_neg c55] at H
   exact absurd H Z4
  rw [if_pos c55] at H
  have c55b0 := eq_true c55
  have c55b1 := decide_eq_true c55
  clear c55
  by_cases c56 : x0_3.length + (a1.extract (((rd_T55 l2_3 x36_3).f0) : Int).toNat (((rd_T55 l2_3 x36_3).f1) : Int).toNat).size < 140737488355328
  rotate_left
  ·
   rw [if_neg c56] at H
   exact absurd H Z4
  rw [if_pos c56] at H
  have LMc56 := Aside0.mk c56
  clear c56
  obtain ⟨y612, hy612⟩ : ∃ y_ : List Int, y_ = (x0_3 ++ bytesOf (a1.extract (((rd_T55 l2_3 x36_3).f0) : Int).toNat (((rd_T55 l2_3 x36_3).f1) : Int).toNat)) := ⟨_, rfl⟩
  first | replace H := bind_y hy612 H | rw [← hy612] at H
  have Ny612 := Aside0.mk hy612
  clear hy612
  by_cases c57 : y612.length < 140737488355328
  rotate_left
  ·
   rw [if_neg c57] at H
   exact absurd H Z4
  rw [if_pos c57] at H
  have LMc57 := Aside0.mk c57
  clear c57
  obtain ⟨y615, hy615⟩ : ∃ y_ : List Int, y_ = (y612 ++ [58]) := ⟨_, rfl⟩
  first | replace H := bind_y hy615 H | rw [← hy615] at H
  have Ny615 := Aside0.mk hy615
  clear hy615
  by_cases c58 : x36_3 < (l2_4.length : Int)
  rotate_left
  ·
   rw [if_neg c58] at H
   exact absurd H Z4
  rw [if_pos c58] at H
  have c58b0 := decide_eq_true c58
  clear c58
  replace H := Option.bind_eq_some_iff.mp H
  obtain ⟨t619, A590, H⟩ := H
  have A59 := Aside0.mk A590
  clear A590
  have H' := Aside0.mk H
  clear H
  have hcz60_0 : wr.cell? ⟨gb581, 0, none⟩ = some (.int .i64 a2_0) := (blk_cell BK581.out 0).trans rfl
  have hcz60_1 : wr.cell? ⟨gb581, 1, none⟩ = some (.int .i64 a2_1) := (blk_cell BK581.out 1).trans rfl
  have hcz60_2 : wr.cell? ⟨gb581, 2, none⟩ = some (.int .i64 a2_2) := (blk_cell BK581.out 2).trans rfl
  have hcz60_3 : wr.cell? ⟨gb581, 3, none⟩ = some (.slice A2_3 l2_3.length c2_3) := (blk_cell BK581.out 3).trans rfl
  have hcz60_4 : wr.cell? ⟨gb581, 4, none⟩ = some (.slice A2_4 l2_4.length c2_4) := (blk_cell BK581.out 4).trans rfl
  have hfz60_0 := blk_frozen BK581.out 0
  have hfz60_1 := blk_frozen BK581.out 1
  have hfz60_2 := blk_frozen BK581.out 2
  have hfz60_3 := blk_frozen BK581.out 3
  have hfz60_4 := blk_frozen BK581.out 4
  try go_wp2
  have n0_ := Aside0.mk (Kd.R_drew HO_0.out)
  have n1_ := Aside0.mk (Kd.V_drew HO_582004.out)
  have n2_ := Aside0.mk (blk_drew BK581.out)
  have n3_ := Aside0.mk (Kept.drew HK.out)
  have n4_ := Aside0.mk (below_drew1 HB.out)
  clear HO_0; clear HO_582004; clear BK581; clear HK; clear HB
  have HO_0 := n0_
  have HO_582004 := n1_
  have BK581 := n2_
  have HK := n3_
  have HB := n4_
  clear n0_ n1_ n2_ n3_ n4_
  have p610 : 0 ≤ (x36_3 : Int) := of_decide_eq_true Z0
  have q610 : x36_3 < (l2_3.length : Int) := of_decide_eq_true Z0
  obtain ⟨ad610, e610, hx610_0, hx610_1⟩ := at_T55 (Kd.C_kept_now HR2_3.out HK.out) x36_3 p610 q610
  have hw610_1 := hx610_1
  have hw610_0 := hx610_0
  cases e610
  replace p610 := eq_true p610
  replace q610 := eq_true q610
  have p611 : 0 ≤ (x36_3 : Int) := of_decide_eq_true Z0
  have q611 : x36_3 < (l2_3.length : Int) := of_decide_eq_true Z0
  obtain ⟨ad611, e611, hx611_0, hx611_1⟩ := at_T55 (Kd.C_kept_now HR2_3.out HK.out) x36_3 p611 q611
  have hw611_1 := hx611_1
  have hw611_0 := hx611_0
  obtain rfl : ad610 = ad611 := (by injection e611)
  replace p611 := eq_true p611
  replace q611 := eq_true q611
  refine start_ (n := 17) (S := fun w' => w'.cell? ⟨gb581, 0, none⟩ = some (.int .i64 a2_0) ∧ w'.cell? ⟨gb581, 1, none⟩ = some (.int .i64 a2_1) ∧ w'.cell? ⟨gb581, 2, none⟩ = some (.int .i64 a2_2) ∧ w'.cell? ⟨gb581, 3, none⟩ = some (.slice (some ad610) l2_3.length c2_3) ∧ w'.cell? ⟨gb581, 4, none⟩ = some (.slice A2_4 l2_4.length c2_4) ∧ w'.cell? (ad610.add ((x36_3).toNat * 2)) = some (.int .i64 ((rd_T55 l2_3 x36_3).f0)) ∧ w'.cell? ⟨(ad610.add ((x36_3).toNat * 2)).block, (ad610.add ((x36_3).toNat * 2)).off + 1, none⟩ = some (.int .i64 ((rd_T55 l2_3 x36_3).f1)) ∧ w'.cell? (ad610.add ((x36_3).toNat * 2)) = some (.int .i64 ((rd_T55 l2_3 x36_3).f0)) ∧ w'.cell? ⟨(ad610.add ((x36_3).toNat * 2)).block, (ad610.add ((x36_3).toNat * 2)).off + 1, none⟩ = some (.int .i64 ((rd_T55 l2_3 x36_3).f1))) (ds := [15]) #[false, false, false, false, false, false, false, false, false, false, false, false, false, false, false, false, false] Z1 rfl rfl ⟨(blk_cell BK581.out 0).trans rfl, (blk_cell BK581.out 1).trans rfl, (blk_cell BK581.out 2).trans rfl, (blk_cell BK581.out 3).trans rfl, (blk_cell BK581.out 4).trans rfl, hx610_0, hx610_1, hx611_0, hx611_1⟩ (fun hHeld => ?_); refine with_tabW spec_bareTo.tab13 spec_bareTo.bits13 (fun HT_ HW_ => ?_)
  generalize wr.drew = w61 at HO_0 HO_582004 BK581 HK HB hx610_0 hx610_1 hx611_0 hx611_1 hHeld ⊢
  refine pure_ (i := 0) (N := some 47) (v := ?_) (a' := ?_) #[true, false, false, false, false, false, false, false, false, false, false, false, false, false, false, false, false] rfl rfl (any_of HT_.out Z1) (fun _ _ _ h => h) (Or.inl ⟨Z3, ?_⟩) ?_ ?_
  rotate_left
  ·
   intro w'
   go_simp
   with_reducible rfl
  rotate_left
  ·
   simp only [Act.put, List.setIfInBounds_toArray, List.set_cons_zero, List.set_cons_succ, i64_w, i32_w]
   rfl
  refine pure_ (i := 1) (N := some 48) (v := ?_) (a' := ?_) #[true, true, false, false, false, false, false, false, false, false, false, false, false, false, false, false, false] rfl rfl (any_of HT_.out Z1) (fun _ _ _ h => h) (Or.inl ⟨Z3, ?_⟩) ?_ ?_
  rotate_left
  ·
   intro w'
   go_simp
   with_reducible rfl
  rotate_left
  ·
   simp only [Act.put, List.setIfInBounds_toArray, List.set_cons_zero, List.set_cons_succ, i64_w, i32_w]
   rfl
  refine pure_ (i := 2) (N := some 49) (v := ?_) (a' := ?_) #[true, true, true, false, false, false, false, false, false, false, false, false, false, false, false, false, false] rfl rfl (any_of HT_.out Z1) (fun _ _ _ h => h) (Or.inl ⟨Z3, ?_⟩) ?_ ?_
  rotate_left
  ·
   intro w'
   go_simp
   with_reducible rfl
  rotate_left
  ·
   simp only [Act.put, List.setIfInBounds_toArray, List.set_cons_zero, List.set_cons_succ, i64_w, i32_w]
   rfl
  refine pure_ (i := 4) (N := some 51) (v := ?_) (a' := ?_) #[true, true, true, false, true, false, false, false, false, false, false, false, false, false, false, false, false] rfl rfl (any_of HT_.out Z1) (fun _ _ _ h => h) (Or.inl ⟨Z3, ?_⟩) ?_ ?_
  rotate_left
  ·
   intro w'
   go_simp
   with_reducible rfl
  rotate_left
  ·
   simp only [Act.put, List.setIfInBounds_toArray, List.set_cons_zero, List.set_cons_succ, i64_w, i32_w]
   rfl
  refine pure_ (i := 8) (N := some 55) (v := ?_) (a' := ?_) #[true, true, true, false, true, false, false, false, true, false, false, false, false, false, false, false, false] rfl rfl (any_of HT_.out Z1) (fun _ _ _ h => h) (Or.inl ⟨Z3, ?_⟩) ?_ ?_
  rotate_left
  ·
   intro w'
   go_simp
   with_reducible rfl
  rotate_left
  ·
   simp only [Act.put, List.setIfInBounds_toArray, List.set_cons_zero, List.set_cons_succ, i64_w, i32_w]
   rfl
  refine pure_ (i := 10) (N := some 57) (v := ?_) (a' := ?_) #[true, true, true, false, true, false, false, false, true, false, true, false, false, false, false, false, false] rfl rfl (any_of HT_.out Z1) (fun _ _ _ h => h) (Or.inl ⟨Z3, ?_⟩) ?_ ?_
  rotate_left
  ·
   intro w'
   go_simp
   with_reducible rfl
  rotate_left
  ·
   simp only [Act.put, List.setIfInBounds_toArray, List.set_cons_zero, List.set_cons_succ, i64_w, i32_w]
   rfl
  refine take_ (i := 3) (N := some 50) (v := ?_) (a' := ?_) #[true, true, true, true, true, false, false, false, true, false, true, false, false, false, false, false, false] rfl rfl (take_ofW HT_.out HW_.out Z1) (fun _ _ _ h => h) (Or.inl ⟨Z3, ?_⟩) hHeld ?_ ?_
  rotate_left
  ·
   rintro w' ⟨s0, s1, s2, s3, s4, s5, s6, s7, s8⟩
   go_simp
   with_reducible rfl
  rotate_left
  ·
   simp only [Act.put, List.setIfInBounds_toArray, List.set_cons_zero, List.set_cons_succ, i64_w, i32_w]
   rfl
  refine pure_ (i := 5) (N := some 52) (v := ?_) (a' := ?_) #[true, true, true, true, true, true, false, false, true, false, true, false, false, false, false, false, false] rfl rfl (any_of HT_.out Z1) (fun _ _ _ h => h) (Or.inl ⟨Z3, ?_⟩) ?_ ?_
  rotate_left
  ·
   intro w'
   go_simp
   with_reducible rfl
  rotate_left
  ·
   simp only [Act.put, List.setIfInBounds_toArray, List.set_cons_zero, List.set_cons_succ, i64_w, i32_w]
   rfl
  refine pure_ (i := 6) (N := some 53) (v := ?_) (a' := ?_) #[true, true, true, true, true, true, true, false, true, false, true, false, false, false, false, false, false] rfl rfl (any_of HT_.out Z1) (fun _ _ _ h => h) (Or.inl ⟨Z3, ?_⟩) ?_ ?_
  rotate_left
  ·
   intro w'
   go_simp
   with_reducible rfl
  rotate_left
  ·
   simp only [Act.put, List.setIfInBounds_toArray, List.set_cons_zero, List.set_cons_succ, i64_w, i32_w]
   rfl
  refine take_ (i := 7) (N := some 54) (v := ?_) (a' := ?_) #[true, true, true, true, true, true, true, true, true, false, true, false, false, false, false, false, false] rfl rfl (take_ofW HT_.out HW_.out Z1) (fun _ _ _ h => h) (Or.inl ⟨Z3, ?_⟩) hHeld ?_ ?_
  rotate_left
  ·
   rintro w' ⟨s0, s1, s2, s3, s4, s5, s6, s7, s8⟩
   go_simp
   with_reducible rfl
  rotate_left
  ·
   simp only [Act.put, List.setIfInBounds_toArray, List.set_cons_zero, List.set_cons_succ, i64_w, i32_w]
   rfl
  refine take_ (i := 9) (N := some 56) (v := ?_) (a' := ?_) #[true, true, true, true, true, true, true, true, true, true, true, false, false, false, false, false, false] rfl rfl (take_ofW HT_.out HW_.out Z1) (fun _ _ _ h => h) (Or.inl ⟨Z3, ?_⟩) hHeld ?_ ?_
  rotate_left
  ·
   rintro w' ⟨s0, s1, s2, s3, s4, s5, s6, s7, s8⟩
   go_simp
   with_reducible rfl
  rotate_left
  ·
   simp only [Act.put, List.setIfInBounds_toArray, List.set_cons_zero, List.set_cons_succ, i64_w, i32_w]
   rfl
  refine pure_ (i := 11) (N := some 58) (v := ?_) (a' := ?_) #[true, true, true, true, true, true, true, true, true, true, true, true, false, false, false, false, false] rfl rfl (any_of HT_.out Z1) (fun _ _ _ h => h) (Or.inl ⟨Z3, ?_⟩) ?_ ?_
  rotate_left
  ·
   intro w'
   go_simp
   with_reducible rfl
  rotate_left
  ·
   simp only [Act.put, List.setIfInBounds_toArray, List.set_cons_zero, List.set_cons_succ, i64_w, i32_w]
   rfl
  refine pure_ (i := 12) (N := some 59) (v := ?_) (a' := ?_) #[true, true, true, true, true, true, true, true, true, true, true, true, true, false, false, false, false] rfl rfl (any_of HT_.out Z1) (fun _ _ _ h => h) (Or.inl ⟨Z3, ?_⟩) ?_ ?_
  rotate_left
  ·
   intro w'
   go_simp
   with_reducible rfl
  rotate_left
  ·
   simp only [Act.put, List.setIfInBounds_toArray, List.set_cons_zero, List.set_cons_succ, i64_w, i32_w]
   rfl
  refine take_ (i := 13) (N := some 60) (v := ?_) (a' := ?_) #[true, true, true, true, true, true, true, true, true, true, true, true, true, true, false, false, false] rfl rfl (take_ofW HT_.out HW_.out Z1) (fun _ _ _ h => h) (Or.inl ⟨Z3, ?_⟩) hHeld ?_ ?_
  rotate_left
  ·
   rintro w' ⟨s0, s1, s2, s3, s4, s5, s6, s7, s8⟩
   go_simp
   with_reducible rfl
  rotate_left
  ·
   simp only [Act.put, List.setIfInBounds_toArray, List.set_cons_zero, List.set_cons_succ, i64_w, i32_w]
   rfl
  refine pure_ (i := 14) (N := some 61) (v := ?_) (a' := ?_) #[true, true, true, true, true, true, true, true, true, true, true, true, true, true, true, false, false] rfl rfl (any_of HT_.out Z1) (fun _ _ _ h => h) (Or.inl ⟨Z3, ?_⟩) ?_ ?_
  rotate_left
  ·
   intro w'
   go_simp
   with_reducible rfl
  rotate_left
  ·
   simp only [Act.put, List.setIfInBounds_toArray, List.set_cons_zero, List.set_cons_succ, i64_w, i32_w]
   rfl
  refine last_ (i := 15) (N := some 62) #[true, true, true, true, true, true, true, true, true, true, true, true, true, true, true, true, false] rfl rfl (one_of HT_.out Z1) Z2 (fun K hK => ?_)
  refine Kd.R_append_str_step (w0 := w0) w0.heap.size Z3 (.tmp 47) _ 40 9 5 rfl Try.underlying40 Try.underlying9 info5 u0 x0_3 (a1.extract (((rd_T55 l2_3 x36_3).f0) : Int).toNat (((rd_T55 l2_3 x36_3).f1) : Int).toNat) (fun k_ => (P0_ k_ ∨ w.heap.size ≤ k_)) rfl rfl ?aF ?aO ?aB ?aS ?aL ?_
  (case aB => exact Z20)
  (case aF => exact (fun k_ hk => (.inr (Nat.le_trans Z130 hk))))
  (case aO => exact (pR HO_0.out))
  (case aS => exact (below_size Z20))
  (case aL => have := LMc56.out; omega)
  intro v613 w62 ho hb hg hat
  rw [← Ny612.out] at ho
  have n0_ := Aside0.mk (Kd.V_afterv (ok := (fun k_ => ((P0_ k_ ∨ P2_4_ k_) ∨ w.heap.size ≤ k_) ∧ k_ ≠ gb581)) Z64 hg hat)
  have n1_ := Aside0.mk (blk_grown (g := gb581) (o := .cells #[.int .i64 a2_0, .int .i64 a2_1, .int .i64 a2_2, .slice (some ad610) l2_3.length c2_3, .slice A2_4 l2_4.length c2_4] 28 (0, 0)) (pB BK581.out) hg (Kd.R_ne HO_0.out BK581.out Z2))
  have n2_ := Aside0.mk (hb)
  have n3_ := Aside0.mk (Kept.of_grown (S := (fun k_ => P0_ k_)) hg Z18 (fun k_ e_ => (HO_0.out.1 k_ e_)))
  have n4_ := Aside0.mk (ho)
  clear HO_582004; clear BK581; clear HB; clear HK; clear HO_0
  have HO_582004 := n0_
  have BK581 := n1_
  have HB := n2_
  have HK := n3_
  have HO614 := n4_
  clear n0_ n1_ n2_ n3_ n4_; clear ho hb hg hat
  refine hK.out _ _ ?_
  clear hK K
  refine norm_ (a' := ?_) ?_ ?_
  rotate_left
  ·
   show Act.put _ (some 62) _ = _
   simp only [Act.put, List.setIfInBounds_toArray, List.set_cons_zero, List.set_cons_succ, i64_w, i32_w]
   rfl
  refine pure_ (i := 16) (N := some 0) (v := ?_) (a' := ?_) #[true, true, true, true, true, true, true, true, true, true, true, true, true, true, true, true, true] rfl rfl (any_of HT_.out Z1) (fun _ _ _ h => h) (Or.inl ⟨Z3, ?_⟩) ?_ ?_
  rotate_left
  ·
   intro w'
   go_simp
   with_reducible rfl
  rotate_left
  ·
   simp only [Act.put, List.setIfInBounds_toArray, List.set_cons_zero, List.set_cons_succ, i64_w, i32_w]
   rfl
  refine done_ (done_of HT_.out Z1) ?_
  try go_wp2_with (first | ((with_reducible refine gate_builtin (b := .append) (xs := #[.tmp 63, .tmp 64]) rfl ?_); at_builtin; refine Kd.R_append (Kd.int .u8) (w0 := w0) w0.heap.size rfl (.tmp 63) (.tmp 64) 40 5 (.int .u8 0) 1 rfl Try.underlying40 info5 rfl Z2 Z5 v613 y612 58 [.int .u8 58] (fun k_ => (P0_ k_ ∨ w.heap.size ≤ k_)) (fun _ => False) rfl rfl ?aP (fun _ hk => hk.elim) ?aF ?aO ?aB ?aS ?aL ?_; (case aP => exact rfl); (case aB => exact Z20); (case aF => exact (fun k_ hk => (.inr (Nat.le_trans Z130 hk)))); (case aO => exact (pR HO614.out)); (case aS => exact (below_size Z20)); (case aL => have := LMc57.out; omega); intro v616 w63 ho hb hg hat; rw [← Ny615.out] at ho; have n0_ := Aside0.mk (Kd.V_afterv (ok := (fun k_ => ((P0_ k_ ∨ P2_4_ k_) ∨ w.heap.size ≤ k_) ∧ k_ ≠ gb581)) (pV HO_582004.out) hg hat); have n1_ := Aside0.mk (blk_grown (g := gb581) (o := .cells #[.int .i64 a2_0, .int .i64 a2_1, .int .i64 a2_2, .slice (some ad610) l2_3.length c2_3, .slice A2_4 l2_4.length c2_4] 28 (0, 0)) (pB BK581.out) hg (Kd.R_ne HO614.out BK581.out Z2)); have n2_ := Aside0.mk (hb); have n3_ := Aside0.mk (Kept.of_grown (S := (fun k_ => P0_ k_)) hg Z18 (fun k_ e_ => (HO614.out.1 k_ e_))); have n4_ := Aside0.mk (ho); clear HO_582004; clear BK581; clear HB; clear HK; clear HO614; have HO_582004 := n0_; have BK581 := n1_; have HB := n2_; have HK := n3_; have HO617 := n4_; clear n0_ n1_ n2_ n3_ n4_; clear ho hb hg hat; have hcz64_0 : w63.cell? ⟨gb581, 0, none⟩ = some (.int .i64 a2_0) := (blk_cell BK581.out 0).trans rfl; have hcz64_1 : w63.cell? ⟨gb581, 1, none⟩ = some (.int .i64 a2_1) := (blk_cell BK581.out 1).trans rfl; have hcz64_2 : w63.cell? ⟨gb581, 2, none⟩ = some (.int .i64 a2_2) := (blk_cell BK581.out 2).trans rfl; have hcz64_3 : w63.cell? ⟨gb581, 3, none⟩ = some (.slice (some ad610) l2_3.length c2_3) := (blk_cell BK581.out 3).trans rfl; have hcz64_4 : w63.cell? ⟨gb581, 4, none⟩ = some (.slice A2_4 l2_4.length c2_4) := (blk_cell BK581.out 4).trans rfl; have hfz64_0 := blk_frozen BK581.out 0; have hfz64_1 := blk_frozen BK581.out 1; have hfz64_2 := blk_frozen BK581.out 2; have hfz64_3 := blk_frozen BK581.out 3; have hfz64_4 := blk_frozen BK581.out 4; have p618 : 0 ≤ (x36_3 : Int) := of_decide_eq_true Z0; have q618 : x36_3 < (l2_4.length : Int) := of_decide_eq_true Z0; obtain ⟨ad618, A618_3, c618_3, A618_4, c618_4, e618, hx618_0, hx618_1, hx618_2, hx618_3, hx618_4, hl618_3, hi618_3, hl618_4, hi618_4⟩ := at_T28 (Kd.V_reads' HO_582004.out).2.2 x36_3 p618 q618; cases e618; obtain ⟨ce618, hce618, hMe618, hcc618⟩ := Kd.V_get HO_582004.out z28 x36_3 p618 (by first | exact q618 | exact of_decide_eq_true Z0 | (have e_ := (Kd.V_reads' HO_582004.out).1; omega)); obtain ⟨ua618_3, uc618_3, ua618_4, uc618_4, rfl, ul618_3, ge618_3, ul618_4, ge618_4⟩ := k28_openF hMe618; have hv618_3 := hcc618 3 _ rfl; rw [add_field _ _ 3 Z5] at hv618_3; replace hv618_3 := Option.some.inj (hv618_3.symm.trans hx618_3); injection hv618_3 with hva_ hvn_ hvc_; rw [hva_] at ge618_3; rw [hvc_] at ul618_3; have HL618_3 := Aside0.mk (show Kd.V k55 55 _ w0.heap.size _ _ ((rd_T28 l2_4 x36_3).f3) from Kd.V_mk ul618_3 ge618_3); clear hva_ hvn_ hvc_ ge618_3 ul618_3; have hv618_4 := hcc618 4 _ rfl; rw [add_field _ _ 4 Z5] at hv618_4; replace hv618_4 := Option.some.inj (hv618_4.symm.trans hx618_4); injection hv618_4 with hva_ hvn_ hvc_; rw [hva_] at ge618_4; rw [hvc_] at ul618_4; have HL618_4 := Aside0.mk (show Kd.V k28 28 _ w0.heap.size _ _ ((rd_T28 l2_4 x36_3).f4) from Kd.V_mk ul618_4 ge618_4); clear hva_ hvn_ hvc_ ge618_4 ul618_4; clear hcc618 hce618; have HR618_3 := Aside0.mk hi618_3; have HC618_3 := Aside0.mk hl618_3; clear hi618_3 hl618_3; have HR618_4 := Aside0.mk hi618_4; have HC618_4 := Aside0.mk hl618_4; clear hi618_4 hl618_4; replace p618 := eq_true p618; replace q618 := eq_true q618; obtain ⟨Ao65, co65, eo65⟩ := Kd.R_slice HO617.out; subst eo65) | ((with_reducible refine gate_callee (f := 20) rfl ?_); refine goesL_ (some 73) rfl rfl Try.func20 Z1 rfl #[.slice Ao65 y615.length co65, .string a1, .agg #[.int .i64 ((rd_T28 l2_4 x36_3).f0), .int .i64 ((rd_T28 l2_4 x36_3).f1), .int .i64 ((rd_T28 l2_4 x36_3).f2), .slice A618_3 ((rd_T28 l2_4 x36_3).f3).length c618_3, .slice A618_4 ((rd_T28 l2_4 x36_3).f4).length c618_4]] rfl Z13 ?_; (with_reducible refine (ih k3 Z45 (fun k_ => some k_ = (.slice Ao65 y615.length co65 : Value).ownBlock) (.slice Ao65 y615.length co65) y615 a1 ((rd_T28 l2_4 x36_3).f0) ((rd_T28 l2_4 x36_3).f1) ((rd_T28 l2_4 x36_3).f2) _ _ ((rd_T28 l2_4 x36_3).f3) (fun k_ => ((((P0_ k_ ∨ P2_4_ k_) ∨ w.heap.size ≤ k_) ∧ k_ ≠ gb581) ∧ some k_ ≠ (.slice Ao65 y615.length co65 : Value).ownBlock)) _ _ ((rd_T28 l2_4 x36_3).f4) t619 w0 _ ?side1 ?side2 ?side3 ?side4 ?side5 A59.out).mono ?_); (case side1 => exact Z20); (case side2 => exact Kd.R_tight rfl HO617.out); (case side3 => exact Kd.C_kept_ownV (HL618_3.out) (fun k_ hk_ hs_ => (hk_.2) hs_)); (case side4 => exact HC618_3.out); (case side5 => exact Kd.V_mono (HL618_4.out) (fun k_ hk_ => ⟨hk_, hk_.2⟩)); rintro e w66 ⟨v620, rfl, ho0, hb, hkp⟩; refine ⟨_, rfl, ?_⟩; have n0_ := Aside0.mk (Kd.V_mono (ok' := fun k_ => ((P0_ k_ ∨ P2_4_ k_) ∨ w.heap.size ≤ k_) ∧ k_ ≠ gb581 ∧ some k_ ≠ (v620 : Value).ownBlock) (Kd.V_keptB (HO_582004.out) hkp (fun k_ hk_ hs_ => (hk_.2) hs_)) (fun k_ hk_ => ⟨hk_.1.1.1, hk_.1.1.2, fun e_ => Or.elim (ho0.1 k_ e_.symm) (fun hs_ => hk_.2.1 hs_) (fun hn_ => Nat.not_le.2 hk_.2.2 hn_)⟩)); have n1_ := Aside0.mk (blk_kept (pB BK581.out) hkp (fun hs_ => (fun e_ => (Kd.R_ne HO617.out BK581.out Z2) e_) hs_)); have n2_ := Aside0.mk (Kd.R_mono (ok' := fun k_ => (P0_ k_ ∨ w.heap.size ≤ k_)) ho0 (fun k_ hk_ => Or.elim hk_ (fun hs_ => (HO617.out.1 k_ (hs_).symm)) (fun hn_ => (.inr (Nat.le_trans Z130 hn_))))); have n3_ := Aside0.mk (Kept.then_ (S := (fun k_ => P0_ k_)) Z18 hkp (fun k_ hs_ => (fun e_ => (HO617.out.1 k_ e_.symm)) hs_)); have n4_ := Aside0.mk (hb); clear HO_582004; clear BK581; clear HK; clear HB; clear HO617; clear HL618_3; clear HL618_4; have HO_582004 := n0_; have BK581 := n1_; have HO621 := n2_; have HK := n3_; have HB := n4_; clear n0_ n1_ n2_ n3_ n4_; (try clear hb); (try clear hkp); (try clear ho0)))
  go_roundg k3
  case measure => have := HJ3.out; have := HJ15.out; have := HK3.out; omega
  case rel => exact ⟨(t619), (wrap64 (x36_3 + 1)), Z8, H', ⟨Z45⟩, ⟨pR HO621.out⟩, ⟨Z74⟩, ⟨pB BK581.out⟩, ⟨Z18⟩, ⟨Z20⟩⟩
 rw [if_pos c23] at H
 have c23b0 := decide_eq_true c23
 clear c23
 by_cases c24 : x0_3.length < 140737488355328
 rotate_left
 ·
  rw [if_neg c24] at H
  exact absurd H Z4
 rw [if_pos c24] at H
 have LMc24 := Aside0.mk c24
 clear c24
 obtain ⟨y591, hy591⟩ : ∃ y_ : List Int, y_ = (x0_3 ++ [44]) := ⟨_, rfl⟩
 first | replace H := bind_y hy591 H | rw [← hy591] at H
 have Ny591 := Aside0.mk hy591
 clear hy591
 have HC25 := Aside0.mk H
 clear H
 go_upto_if 46 with (first | ((with_reducible refine gate_builtin (b := .append) (xs := #[.tmp 41, .tmp 42]) rfl ?_); at_builtin; refine Kd.R_append (Kd.int .u8) (w0 := w0) w0.heap.size rfl (.tmp 41) (.tmp 42) 40 5 (.int .u8 0) 1 rfl Try.underlying40 info5 rfl Z2 Z5 u0 x0_3 44 [.int .u8 44] (fun k_ => (P0_ k_ ∨ w.heap.size ≤ k_)) (fun _ => False) rfl rfl ?aP (fun _ hk => hk.elim) ?aF ?aO ?aB ?aS ?aL ?_; (case aP => exact rfl); (case aB => exact Z20); (case aF => exact (fun k_ hk => (.inr (Nat.le_trans Z130 hk)))); (case aO => exact (pR HO_0.out)); (case aS => exact (below_size Z20)); (case aL => have := LMc24.out; omega); intro v592 w26 ho hb hg hat; rw [← Ny591.out] at ho; have n0_ := Aside0.mk (Kd.V_afterv (ok := (fun k_ => ((P0_ k_ ∨ P2_4_ k_) ∨ w.heap.size ≤ k_) ∧ k_ ≠ gb581)) Z64 hg hat); have n1_ := Aside0.mk (blk_grown (g := gb581) (o := .cells #[.int .i64 a2_0, .int .i64 a2_1, .int .i64 a2_2, .slice A2_3 l2_3.length c2_3, .slice A2_4 l2_4.length c2_4] 28 (0, 0)) (pB BK581.out) hg (Kd.R_ne HO_0.out BK581.out Z2)); have n2_ := Aside0.mk (hb); have n3_ := Aside0.mk (Kept.of_grown (S := (fun k_ => P0_ k_)) hg Z18 (fun k_ e_ => (HO_0.out.1 k_ e_))); have n4_ := Aside0.mk (ho); clear HO_582004; clear BK581; clear HB; clear HK; clear HO_0; have HO_582004 := n0_; have BK581 := n1_; have HB := n2_; have HK := n3_; have HO593 := n4_; clear n0_ n1_ n2_ n3_ n4_; clear ho hb hg hat; have hcz27_0 : w26.cell? ⟨gb581, 0, none⟩ = some (.int .i64 a2_0) := (blk_cell BK581.out 0).trans rfl; have hcz27_1 : w26.cell? ⟨gb581, 1, none⟩ = some (.int .i64 a2_1) := (blk_cell BK581.out 1).trans rfl; have hcz27_2 : w26.cell? ⟨gb581, 2, none⟩ = some (.int .i64 a2_2) := (blk_cell BK581.out 2).trans rfl; have hcz27_3 : w26.cell? ⟨gb581, 3, none⟩ = some (.slice A2_3 l2_3.length c2_3) := (blk_cell BK581.out 3).trans rfl; have hcz27_4 : w26.cell? ⟨gb581, 4, none⟩ = some (.slice A2_4 l2_4.length c2_4) := (blk_cell BK581.out 4).trans rfl; have hfz27_0 := blk_frozen BK581.out 0; have hfz27_1 := blk_frozen BK581.out 1; have hfz27_2 := blk_frozen BK581.out 2; have hfz27_3 := blk_frozen BK581.out 3; have hfz27_4 := blk_frozen BK581.out 4))
 (try simp only [Act.put, List.setIfInBounds_toArray, List.set_cons_zero, List.set_cons_succ])
 have H := HC25.out
 clear HC25
 by_cases c28 : a2_0 = 6
 rotate_left
 ·
  rw [if_neg c28] at H
  have c28b0 := beq_eq_false_iff_ne.mpr c28
  have c28b1 := bne_iff_ne.mpr c28
  (first | rw [c28b0] | (simp only [i64_w, i32_w]; rw [c28b0]) | skip)
  by_cases c44 : 0 ≤ x36_3
  rotate_left
  ·
   rw [if_neg c44] at H
   exact absurd H Z4
  rw [if_pos c44] at H
  have c44b0 := decide_eq_true c44
  clear c44
  by_cases c45 : x36_3 < (l2_4.length : Int)
  rotate_left
  ·
   rw [if_neg c45] at H
   exact absurd H Z4
  rw [if_pos c45] at H
  have c45b0 := decide_eq_true c45
  clear c45
  replace H := Option.bind_eq_some_iff.mp H
  obtain ⟨t607, A460, H⟩ := H
  have A46 := Aside0.mk A460
  clear A460
  have H' := Aside0.mk H
  clear H
  have hcz47_0 : w26.cell? ⟨gb581, 0, none⟩ = some (.int .i64 a2_0) := (blk_cell BK581.out 0).trans rfl
  have hcz47_1 : w26.cell? ⟨gb581, 1, none⟩ = some (.int .i64 a2_1) := (blk_cell BK581.out 1).trans rfl
  have hcz47_2 : w26.cell? ⟨gb581, 2, none⟩ = some (.int .i64 a2_2) := (blk_cell BK581.out 2).trans rfl
  have hcz47_3 : w26.cell? ⟨gb581, 3, none⟩ = some (.slice A2_3 l2_3.length c2_3) := (blk_cell BK581.out 3).trans rfl
  have hcz47_4 : w26.cell? ⟨gb581, 4, none⟩ = some (.slice A2_4 l2_4.length c2_4) := (blk_cell BK581.out 4).trans rfl
  have hfz47_0 := blk_frozen BK581.out 0
  have hfz47_1 := blk_frozen BK581.out 1
  have hfz47_2 := blk_frozen BK581.out 2
  have hfz47_3 := blk_frozen BK581.out 3
  have hfz47_4 := blk_frozen BK581.out 4
  have p606 : 0 ≤ (x36_3 : Int) := of_decide_eq_true Z0
  have q606 : x36_3 < (l2_4.length : Int) := of_decide_eq_true Z0
  obtain ⟨ad606, A606_3, c606_3, A606_4, c606_4, e606, hx606_0, hx606_1, hx606_2, hx606_3, hx606_4, hl606_3, hi606_3, hl606_4, hi606_4⟩ := at_T28 (Kd.V_reads' HO_582004.out).2.2 x36_3 p606 q606
  cases e606
  obtain ⟨ce606, hce606, hMe606, hcc606⟩ := Kd.V_get HO_582004.out z28 x36_3 p606 (by first | exact q606 | exact of_decide_eq_true Z0 | (have e_ := (Kd.V_reads' HO_582004.out).1; omega))
  obtain ⟨ua606_3, uc606_3, ua606_4, uc606_4, rfl, ul606_3, ge606_3, ul606_4, ge606_4⟩ := k28_openF hMe606
  have hv606_3 := hcc606 3 _ rfl
  rw [add_field _ _ 3 Z5] at hv606_3
  replace hv606_3 := Option.some.inj (hv606_3.symm.trans hx606_3)
  injection hv606_3 with hva_ hvn_ hvc_
  rw [hva_] at ge606_3
  rw [hvc_] at ul606_3
  have HL606_3 := Aside0.mk (show Kd.V k55 55 _ w0.heap.size _ _ ((rd_T28 l2_4 x36_3).f3) from Kd.V_mk ul606_3 ge606_3)
  clear hva_ hvn_ hvc_ ge606_3 ul606_3
  have hv606_4 := hcc606 4 _ rfl
  rw [add_field _ _ 4 Z5] at hv606_4
  replace hv606_4 := Option.some.inj (hv606_4.symm.trans hx606_4)
  injection hv606_4 with hva_ hvn_ hvc_
  rw [hva_] at ge606_4
  rw [hvc_] at ul606_4
  have HL606_4 := Aside0.mk (show Kd.V k28 28 _ w0.heap.size _ _ ((rd_T28 l2_4 x36_3).f4) from Kd.V_mk ul606_4 ge606_4)
  clear hva_ hvn_ hvc_ ge606_4 ul606_4; clear hcc606 hce606
  have HR606_3 := Aside0.mk hi606_3
  have HC606_3 := Aside0.mk hl606_3
  clear hi606_3 hl606_3
  have HR606_4 := Aside0.mk hi606_4
  have HC606_4 := Aside0.mk hl606_4
  clear hi606_4 hl606_4
  replace p606 := eq_true p606
  replace q606 := eq_true q606
  obtain ⟨Ao48, co48, eo48⟩ := Kd.R_slice HO593.out
  subst eo48
  go_wp2_with (first | ((with_reducible refine gate_callee (f := 20) rfl ?_); refine goesL_ (some 73) rfl rfl Try.func20 Z1 rfl #[.slice Ao48 y591.length co48, .string a1, .agg #[.int .i64 ((rd_T28 l2_4 x36_3).f0), .int .i64 ((rd_T28 l2_4 x36_3).f1), .int .i64 ((rd_T28 l2_4 x36_3).f2), .slice A606_3 ((rd_T28 l2_4 x36_3).f3).length c606_3, .slice A606_4 ((rd_T28 l2_4 x36_3).f4).length c606_4]] rfl Z13 ?_; (with_reducible refine (ih k3 Z45 (fun k_ => some k_ = (.slice Ao48 y591.length co48 : Value).ownBlock) (.slice Ao48 y591.length co48) y591 a1 ((rd_T28 l2_4 x36_3).f0) ((rd_T28 l2_4 x36_3).f1) ((rd_T28 l2_4 x36_3).f2) _ _ ((rd_T28 l2_4 x36_3).f3) (fun k_ => ((((P0_ k_ ∨ P2_4_ k_) ∨ w.heap.size ≤ k_) ∧ k_ ≠ gb581) ∧ some k_ ≠ (.slice Ao48 y591.length co48 : Value).ownBlock)) _ _ ((rd_T28 l2_4 x36_3).f4) t607 w0 _ ?side1 ?side2 ?side3 ?side4 ?side5 A46.out).mono ?_); (case side1 => exact Z20); (case side2 => exact Kd.R_tight rfl HO593.out); (case side3 => exact Kd.C_kept_ownV (HL606_3.out) (fun k_ hk_ hs_ => (hk_.2) hs_)); (case side4 => exact HC606_3.out); (case side5 => exact Kd.V_mono (HL606_4.out) (fun k_ hk_ => ⟨hk_, hk_.2⟩)); rintro e w49 ⟨v608, rfl, ho0, hb, hkp⟩; refine ⟨_, rfl, ?_⟩; have n0_ := Aside0.mk (Kd.V_mono (ok' := fun k_ => ((P0_ k_ ∨ P2_4_ k_) ∨ w.heap.size ≤ k_) ∧ k_ ≠ gb581 ∧ some k_ ≠ (v608 : Value).ownBlock) (Kd.V_keptB (HO_582004.out) hkp (fun k_ hk_ hs_ => (hk_.2) hs_)) (fun k_ hk_ => ⟨hk_.1.1.1, hk_.1.1.2, fun e_ => Or.elim (ho0.1 k_ e_.symm) (fun hs_ => hk_.2.1 hs_) (fun hn_ => Nat.not_le.2 hk_.2.2 hn_)⟩)); have n1_ := Aside0.mk (blk_kept (pB BK581.out) hkp (fun hs_ => (fun e_ => (Kd.R_ne HO593.out BK581.out Z2) e_) hs_)); have n2_ := Aside0.mk (Kd.R_mono (ok' := fun k_ => (P0_ k_ ∨ w.heap.size ≤ k_)) ho0 (fun k_ hk_ => Or.elim hk_ (fun hs_ => (HO593.out.1 k_ (hs_).symm)) (fun hn_ => (.inr (Nat.le_trans Z130 hn_))))); have n3_ := Aside0.mk (Kept.then_ (S := (fun k_ => P0_ k_)) Z18 hkp (fun k_ hs_ => (fun e_ => (HO593.out.1 k_ e_.symm)) hs_)); have n4_ := Aside0.mk (hb); clear HO_582004; clear BK581; clear HK; clear HB; clear HO593; clear HL606_3; clear HL606_4; have HO_582004 := n0_; have BK581 := n1_; have HO609 := n2_; have HK := n3_; have HB := n4_; clear n0_ n1_ n2_ n3_ n4_; (try clear hb); (try clear hkp); (try clear ho0)))
  go_roundg k3
  case measure => have := HJ3.out; have := HJ15.out; have := HK3.out; omega
  case rel => exact ⟨(t607), (wrap64 (x36_3 + 1)), Z8, H', ⟨Z45⟩, ⟨pR HO609.out⟩, ⟨Z74⟩, ⟨pB BK581.out⟩, ⟨Z18⟩, ⟨Z20⟩⟩
 rw [if_pos c28] at H
 have c28b0 := beq_iff_eq.mpr c28
 have c28b1 := bne_eq_false_iff_eq.mpr c28
 clear c28
 (first | rw [c28b0] | (simp only [i64_w, i32_w]; rw [c28b0]) | skip)
 by_cases c29 : 0 ≤ x36_3
 rotate_left
 ·
  rw [if_neg c29] at H
  exact absurd H Z4
 rw [if_pos c29] at H
 have c29b0 := decide_eq_true c29
 clear c29
 by_cases c30 : x36_3 < (l2_3.length : Int)
 rotate_left
 ·
  rw [if_neg c30] at H
  exact absurd H Z4
 rw [if_pos c30] at H
 have c30b0 := decide_eq_true c30
 clear c30
 by_cases c31 : 0 ≤ ((rd_T55 l2_3 x36_3).f0)
 rotate_left
 ·
  rw [if_neg c31] at H
  exact absurd H Z4
 rw [if_pos c31] at H
 have c31b0 := eq_true c31
 have c31b1 := decide_eq_true c31
 clear c31
 by_cases c32 : ((rd_T55 l2_3 x36_3).f0) ≤ ((rd_T55 l2_3 x36_3).f1)
 rotate_left
 ·
  rw [if_neg c32] at H
  exact absurd H Z4
 rw [if_pos c32] at H
 have c32b0 := eq_true c32
 have c32b1 := decide_eq_true c32
 clear c32
 by_cases c33 : ((rd_T55 l2_3 x36_3).f1) ≤ (a1.size : Int)
 rotate_left
 ·
  rw [if_neg c33] at H
  exact absurd H Z4
 rw [if_pos c33] at H
 have c33b0 := eq_true c33
 have c33b1 := decide_eq_true c33
 clear c33
 by_cases c34 : y591.length + (a1.extract (((rd_T55 l2_3 x36_3).f0) : Int).toNat (((rd_T55 l2_3 x36_3).f1) : Int).toNat).size < 140737488355328
 rotate_left
 ·
  rw [if_neg c34] at H
  exact absurd H Z4
 rw [if_pos c34] at H
 have LMc34 := Aside0.mk c34
 clear c34
 obtain ⟨y596, hy596⟩ : ∃ y_ : List Int, y_ = (y591 ++ bytesOf (a1.extract (((rd_T55 l2_3 x36_3).f0) : Int).toNat (((rd_T55 l2_3 x36_3).f1) : Int).toNat)) := ⟨_, rfl⟩
 first | replace H := bind_y hy596 H | rw [← hy596] at H
 have Ny596 := Aside0.mk hy596
 clear hy596
 by_cases c35 : y596.length < 140737488355328
 rotate_left
 ·
  rw [if_neg c35] at H
  exact absurd H Z4
 rw [if_pos c35] at H
 have LMc35 := Aside0.mk c35
 clear c35
 obtain ⟨y599, hy599⟩ : ∃ y_ : List Int, y_ = (y596 ++ [58]) := ⟨_, rfl⟩
 first | replace H := bind_y hy599 H | rw [← hy599] at H
 have Ny599 := Aside0.mk hy599
 clear hy599
 by_cases c36 : x36_3 < (l2_4.length : Int)
 rotate_left
 ·
  rw [if_neg c36] at H
  exact absurd H Z4
 rw [if_pos c36] at H
 have c36b0 := decide_eq_true c36
 clear c36
 replace H := Option.bind_eq_some_iff.mp H
 obtain ⟨t603, A370, H⟩ := H
 have A37 := Aside0.mk A370
 clear A370
 have H' := Aside0.mk H
 clear H
 try go_wp2
 have n0_ := Aside0.mk (Kd.V_drew HO_582004.out)
 have n1_ := Aside0.mk (Kd.R_drew HO593.out)
 have n2_ := Aside0.mk (blk_drew BK581.out)
 have n3_ := Aside0.mk (Kept.drew HK.out)
 have n4_ := Aside0.mk (below_drew1 HB.out)
 clear HO_582004; clear HO593; clear BK581; clear HK; clear HB
 have HO_582004 := n0_
 have HO593 := n1_
 have BK581 := n2_
 have HK := n3_
 have HB := n4_
 clear n0_ n1_ n2_ n3_ n4_
 have p594 : 0 ≤ (x36_3 : Int) := of_decide_eq_true Z0
 have q594 : x36_3 < (l2_3.length : Int) := of_decide_eq_true Z0
 obtain ⟨ad594, e594, hx594_0, hx594_1⟩ := at_T55 (Kd.C_kept_now HR2_3.out HK.out) x36_3 p594 q594
 have hw594_1 := hx594_1
 have hw594_0 := hx594_0
 cases e594
 replace p594 := eq_true p594
 replace q594 := eq_true q594
 have p595 : 0 ≤ (x36_3 : Int) := of_decide_eq_true Z0
 have q595 : x36_3 < (l2_3.length : Int) := of_decide_eq_true Z0
 obtain ⟨ad595, e595, hx595_0, hx595_1⟩ := at_T55 (Kd.C_kept_now HR2_3.out HK.out) x36_3 p595 q595
 have hw595_1 := hx595_1
 have hw595_0 := hx595_0
 obtain rfl : ad594 = ad595 := (by injection e595)
 replace p595 := eq_true p595
 replace q595 := eq_true q595
 refine start_ (n := 17) (S := fun w' => w'.cell? ⟨gb581, 0, none⟩ = some (.int .i64 a2_0) ∧ w'.cell? ⟨gb581, 1, none⟩ = some (.int .i64 a2_1) ∧ w'.cell? ⟨gb581, 2, none⟩ = some (.int .i64 a2_2) ∧ w'.cell? ⟨gb581, 3, none⟩ = some (.slice (some ad594) l2_3.length c2_3) ∧ w'.cell? ⟨gb581, 4, none⟩ = some (.slice A2_4 l2_4.length c2_4) ∧ w'.cell? (ad594.add ((x36_3).toNat * 2)) = some (.int .i64 ((rd_T55 l2_3 x36_3).f0)) ∧ w'.cell? ⟨(ad594.add ((x36_3).toNat * 2)).block, (ad594.add ((x36_3).toNat * 2)).off + 1, none⟩ = some (.int .i64 ((rd_T55 l2_3 x36_3).f1)) ∧ w'.cell? (ad594.add ((x36_3).toNat * 2)) = some (.int .i64 ((rd_T55 l2_3 x36_3).f0)) ∧ w'.cell? ⟨(ad594.add ((x36_3).toNat * 2)).block, (ad594.add ((x36_3).toNat * 2)).off + 1, none⟩ = some (.int .i64 ((rd_T55 l2_3 x36_3).f1))) (ds := [15]) #[false, false, false, false, false, false, false, false, false, false, false, false, false, false, false, false, false] Z1 rfl rfl ⟨(blk_cell BK581.out 0).trans rfl, (blk_cell BK581.out 1).trans rfl, (blk_cell BK581.out 2).trans rfl, (blk_cell BK581.out 3).trans rfl, (blk_cell BK581.out 4).trans rfl, hx594_0, hx594_1, hx595_0, hx595_1⟩ (fun hHeld => ?_); refine with_tabW spec_bareTo.tab13 spec_bareTo.bits13 (fun HT_ HW_ => ?_)
 generalize w26.drew = w38 at HO_582004 HO593 BK581 HK HB hx594_0 hx594_1 hx595_0 hx595_1 hHeld ⊢
 refine pure_ (i := 0) (N := some 47) (v := ?_) (a' := ?_) #[true, false, false, false, false, false, false, false, false, false, false, false, false, false, false, false, false] rfl rfl (any_of HT_.out Z1) (fun _ _ _ h => h) (Or.inl ⟨Z3, ?_⟩) ?_ ?_
 rotate_left
 ·
  intro w'
  go_simp
  with_reducible rfl
 rotate_left
 ·
  simp only [Act.put, List.setIfInBounds_toArray, List.set_cons_zero, List.set_cons_succ, i64_w, i32_w]
  rfl
 refine pure_ (i := 1) (N := some 48) (v := ?_) (a' := ?_) #[true, true, false, false, false, false, false, false, false, false, false, false, false, false, false, false, false] rfl rfl (any_of HT_.out Z1) (fun _ _ _ h => h) (Or.inl ⟨Z3, ?_⟩) ?_ ?_
 rotate_left
 ·
  intro w'
  go_simp
  with_reducible rfl
 rotate_left
 ·
  simp only [Act.put, List.setIfInBounds_toArray, List.set_cons_zero, List.set_cons_succ, i64_w, i32_w]
  rfl
 refine pure_ (i := 2) (N := some 49) (v := ?_) (a' := ?_) #[true, true, true, false, false, false, false, false, false, false, false, false, false, false, false, false, false] rfl rfl (any_of HT_.out Z1) (fun _ _ _ h => h) (Or.inl ⟨Z3, ?_⟩) ?_ ?_
 rotate_left
 ·
  intro w'
  go_simp
  with_reducible rfl
 rotate_left
 ·
  simp only [Act.put, List.setIfInBounds_toArray, List.set_cons_zero, List.set_cons_succ, i64_w, i32_w]
  rfl
 refine pure_ (i := 4) (N := some 51) (v := ?_) (a' := ?_) #[true, true, true, false, true, false, false, false, false, false, false, false, false, false, false, false, false] rfl rfl (any_of HT_.out Z1) (fun _ _ _ h => h) (Or.inl ⟨Z3, ?_⟩) ?_ ?_
 rotate_left
 ·
  intro w'
  go_simp
  with_reducible rfl
 rotate_left
 ·
  simp only [Act.put, List.setIfInBounds_toArray, List.set_cons_zero, List.set_cons_succ, i64_w, i32_w]
  rfl
 refine pure_ (i := 8) (N := some 55) (v := ?_) (a' := ?_) #[true, true, true, false, true, false, false, false, true, false, false, false, false, false, false, false, false] rfl rfl (any_of HT_.out Z1) (fun _ _ _ h => h) (Or.inl ⟨Z3, ?_⟩) ?_ ?_
 rotate_left
 ·
  intro w'
  go_simp
  with_reducible rfl
 rotate_left
 ·
  simp only [Act.put, List.setIfInBounds_toArray, List.set_cons_zero, List.set_cons_succ, i64_w, i32_w]
  rfl
 refine pure_ (i := 10) (N := some 57) (v := ?_) (a' := ?_) #[true, true, true, false, true, false, false, false, true, false, true, false, false, false, false, false, false] rfl rfl (any_of HT_.out Z1) (fun _ _ _ h => h) (Or.inl ⟨Z3, ?_⟩) ?_ ?_
 rotate_left
 ·
  intro w'
  go_simp
  with_reducible rfl
 rotate_left
 ·
  simp only [Act.put, List.setIfInBounds_toArray, List.set_cons_zero, List.set_cons_succ, i64_w, i32_w]
  rfl
 refine take_ (i := 3) (N := some 50) (v := ?_) (a' := ?_) #[true, true, true, true, true, false, false, false, true, false, true, false, false, false, false, false, false] rfl rfl (take_ofW HT_.out HW_.out Z1) (fun _ _ _ h => h) (Or.inl ⟨Z3, ?_⟩) hHeld ?_ ?_
 rotate_left
 ·
  rintro w' ⟨s0, s1, s2, s3, s4, s5, s6, s7, s8⟩
  go_simp
  with_reducible rfl
 rotate_left
 ·
  simp only [Act.put, List.setIfInBounds_toArray, List.set_cons_zero, List.set_cons_succ, i64_w, i32_w]
  rfl
 refine pure_ (i := 5) (N := some 52) (v := ?_) (a' := ?_) #[true, true, true, true, true, true, false, false, true, false, true, false, false, false, false, false, false] rfl rfl (any_of HT_.out Z1) (fun _ _ _ h => h) (Or.inl ⟨Z3, ?_⟩) ?_ ?_
 rotate_left
 ·
  intro w'
  go_simp
  with_reducible rfl
 rotate_left
 ·
  simp only [Act.put, List.setIfInBounds_toArray, List.set_cons_zero, List.set_cons_succ, i64_w, i32_w]
  rfl
 refine pure_ (i := 6) (N := some 53) (v := ?_) (a' := ?_) #[true, true, true, true, true, true, true, false, true, false, true, false, false, false, false, false, false] rfl rfl (any_of HT_.out Z1) (fun _ _ _ h => h) (Or.inl ⟨Z3, ?_⟩) ?_ ?_
 rotate_left
 ·
  intro w'
  go_simp
  with_reducible rfl
 rotate_left
 ·
  simp only [Act.put, List.setIfInBounds_toArray, List.set_cons_zero, List.set_cons_succ, i64_w, i32_w]
  rfl
 refine take_ (i := 7) (N := some 54) (v := ?_) (a' := ?_) #[true, true, true, true, true, true, true, true, true, false, true, false, false, false, false, false, false] rfl rfl (take_ofW HT_.out HW_.out Z1) (fun _ _ _ h => h) (Or.inl ⟨Z3, ?_⟩) hHeld ?_ ?_
 rotate_left
 ·
  rintro w' ⟨s0, s1, s2, s3, s4, s5, s6, s7, s8⟩
  go_simp
  with_reducible rfl
 rotate_left
 ·
  simp only [Act.put, List.setIfInBounds_toArray, List.set_cons_zero, List.set_cons_succ, i64_w, i32_w]
  rfl
 refine take_ (i := 9) (N := some 56) (v := ?_) (a' := ?_) #[true, true, true, true, true, true, true, true, true, true, true, false, false, false, false, false, false] rfl rfl (take_ofW HT_.out HW_.out Z1) (fun _ _ _ h => h) (Or.inl ⟨Z3, ?_⟩) hHeld ?_ ?_
 rotate_left
 ·
  rintro w' ⟨s0, s1, s2, s3, s4, s5, s6, s7, s8⟩
  go_simp
  with_reducible rfl
 rotate_left
 ·
  simp only [Act.put, List.setIfInBounds_toArray, List.set_cons_zero, List.set_cons_succ, i64_w, i32_w]
  rfl
 refine pure_ (i := 11) (N := some 58) (v := ?_) (a' := ?_) #[true, true, true, true, true, true, true, true, true, true, true, true, false, false, false, false, false] rfl rfl (any_of HT_.out Z1) (fun _ _ _ h => h) (Or.inl ⟨Z3, ?_⟩) ?_ ?_
 rotate_left
 ·
  intro w'
  go_simp
  with_reducible rfl
 rotate_left
 ·
  simp only [Act.put, List.setIfInBounds_toArray, List.set_cons_zero, List.set_cons_succ, i64_w, i32_w]
  rfl
 refine pure_ (i := 12) (N := some 59) (v := ?_) (a' := ?_) #[true, true, true, true, true, true, true, true, true, true, true, true, true, false, false, false, false] rfl rfl (any_of HT_.out Z1) (fun _ _ _ h => h) (Or.inl ⟨Z3, ?_⟩) ?_ ?_
 rotate_left
 ·
  intro w'
  go_simp
  with_reducible rfl
 rotate_left
 ·
  simp only [Act.put, List.setIfInBounds_toArray, List.set_cons_zero, List.set_cons_succ, i64_w, i32_w]
  rfl
 refine take_ (i := 13) (N := some 60) (v := ?_) (a' := ?_) #[true, true, true, true, true, true, true, true, true, true, true, true, true, true, false, false, false] rfl rfl (take_ofW HT_.out HW_.out Z1) (fun _ _ _ h => h) (Or.inl ⟨Z3, ?_⟩) hHeld ?_ ?_
 rotate_left
 ·
  rintro w' ⟨s0, s1, s2, s3, s4, s5, s6, s7, s8⟩
  go_simp
  with_reducible rfl
 rotate_left
 ·
  simp only [Act.put, List.setIfInBounds_toArray, List.set_cons_zero, List.set_cons_succ, i64_w, i32_w]
  rfl
 refine pure_ (i := 14) (N := some 61) (v := ?_) (a' := ?_) #[true, true, true, true, true, true, true, true, true, true, true, true, true, true, true, false, false] rfl rfl (any_of HT_.out Z1) (fun _ _ _ h => h) (Or.inl ⟨Z3, ?_⟩) ?_ ?_
 rotate_left
 ·
  intro w'
  go_simp
  with_reducible rfl
 rotate_left
 ·
  simp only [Act.put, List.setIfInBounds_toArray, List.set_cons_zero, List.set_cons_succ, i64_w, i32_w]
  rfl
 refine last_ (i := 15) (N := some 62) #[true, true, true, true, true, true, true, true, true, true, true, true, true, true, true, true, false] rfl rfl (one_of HT_.out Z1) Z2 (fun K hK => ?_)
 refine Kd.R_append_str_step (w0 := w0) w0.heap.size Z3 (.tmp 47) _ 40 9 5 rfl Try.underlying40 Try.underlying9 info5 v592 y591 (a1.extract (((rd_T55 l2_3 x36_3).f0) : Int).toNat (((rd_T55 l2_3 x36_3).f1) : Int).toNat) (fun k_ => (P0_ k_ ∨ w.heap.size ≤ k_)) rfl rfl ?aF ?aO ?aB ?aS ?aL ?_
 (case aB => exact Z20)
 (case aF => exact (fun k_ hk => (.inr (Nat.le_trans Z130 hk))))
 (case aO => exact (pR HO593.out))
 (case aS => exact (below_size Z20))
 (case aL => have := LMc34.out; omega)
 intro v597 w39 ho hb hg hat
 rw [← Ny596.out] at ho
 have n0_ := Aside0.mk (Kd.V_afterv (ok := (fun k_ => ((P0_ k_ ∨ P2_4_ k_) ∨ w.heap.size ≤ k_) ∧ k_ ≠ gb581)) (pV HO_582004.out) hg hat)
 have n1_ := Aside0.mk (blk_grown (g := gb581) (o := .cells #[.int .i64 a2_0, .int .i64 a2_1, .int .i64 a2_2, .slice (some ad594) l2_3.length c2_3, .slice A2_4 l2_4.length c2_4] 28 (0, 0)) (pB BK581.out) hg (Kd.R_ne HO593.out BK581.out Z2))
 have n2_ := Aside0.mk (hb)
 have n3_ := Aside0.mk (Kept.of_grown (S := (fun k_ => P0_ k_)) hg Z18 (fun k_ e_ => (HO593.out.1 k_ e_)))
 have n4_ := Aside0.mk (ho)
 clear HO_582004; clear BK581; clear HB; clear HK; clear HO593
 have HO_582004 := n0_
 have BK581 := n1_
 have HB := n2_
 have HK := n3_
 have HO598 := n4_
 clear n0_ n1_ n2_ n3_ n4_; clear ho hb hg hat
 refine hK.out _ _ ?_
 clear hK K
 refine norm_ (a' := ?_) ?_ ?_
 rotate_left
 ·
  show Act.put _ (some 62) _ = _
  simp only [Act.put, List.setIfInBounds_toArray, List.set_cons_zero, List.set_cons_succ, i64_w, i32_w]
  rfl
 refine pure_ (i := 16) (N := some 0) (v := ?_) (a' := ?_) #[true, true, true, true, true, true, true, true, true, true, true, true, true, true, true, true, true] rfl rfl (any_of HT_.out Z1) (fun _ _ _ h => h) (Or.inl ⟨Z3, ?_⟩) ?_ ?_
 rotate_left
 ·
  intro w'
  go_simp
  with_reducible rfl
 rotate_left
 ·
  simp only [Act.put, List.setIfInBounds_toArray, List.set_cons_zero, List.set_cons_succ, i64_w, i32_w]
  rfl
 refine done_ (done_of HT_.out Z1) ?_
 try go_wp2_with (first | ((with_reducible refine gate_builtin (b := .append) (xs := #[.tmp 63, .tmp 64]) rfl ?_); at_builtin; refine Kd.R_append (Kd.int .u8) (w0 := w0) w0.heap.size rfl (.tmp 63) (.tmp 64) 40 5 (.int .u8 0) 1 rfl Try.underlying40 info5 rfl Z2 Z5 v597 y596 58 [.int .u8 58] (fun k_ => (P0_ k_ ∨ w.heap.size ≤ k_)) (fun _ => False) rfl rfl ?aP (fun _ hk => hk.elim) ?aF ?aO ?aB ?aS ?aL ?_; (case aP => exact rfl); (case aB => exact Z20); (case aF => exact (fun k_ hk => (.inr (Nat.le_trans Z130 hk)))); (case aO => exact (pR HO598.out)); (case aS => exact (below_size Z20)); (case aL => have := LMc35.out; omega); intro v600 w40 ho hb hg hat; rw [← Ny599.out] at ho; have n0_ := Aside0.mk (Kd.V_afterv (ok := (fun k_ => ((P0_ k_ ∨ P2_4_ k_) ∨ w.heap.size ≤ k_) ∧ k_ ≠ gb581)) (pV HO_582004.out) hg hat); have n1_ := Aside0.mk (blk_grown (g := gb581) (o := .cells #[.int .i64 a2_0, .int .i64 a2_1, .int .i64 a2_2, .slice (some ad594) l2_3.length c2_3, .slice A2_4 l2_4.length c2_4] 28 (0, 0)) (pB BK581.out) hg (Kd.R_ne HO598.out BK581.out Z2)); have n2_ := Aside0.mk (hb); have n3_ := Aside0.mk (Kept.of_grown (S := (fun k_ => P0_ k_)) hg Z18 (fun k_ e_ => (HO598.out.1 k_ e_))); have n4_ := Aside0.mk (ho); clear HO_582004; clear BK581; clear HB; clear HK; clear HO598; have HO_582004 := n0_; have BK581 := n1_; have HB := n2_; have HK := n3_; have HO601 := n4_; clear n0_ n1_ n2_ n3_ n4_; clear ho hb hg hat; have hcz41_0 : w40.cell? ⟨gb581, 0, none⟩ = some (.int .i64 a2_0) := (blk_cell BK581.out 0).trans rfl; have hcz41_1 : w40.cell? ⟨gb581, 1, none⟩ = some (.int .i64 a2_1) := (blk_cell BK581.out 1).trans rfl; have hcz41_2 : w40.cell? ⟨gb581, 2, none⟩ = some (.int .i64 a2_2) := (blk_cell BK581.out 2).trans rfl; have hcz41_3 : w40.cell? ⟨gb581, 3, none⟩ = some (.slice (some ad594) l2_3.length c2_3) := (blk_cell BK581.out 3).trans rfl; have hcz41_4 : w40.cell? ⟨gb581, 4, none⟩ = some (.slice A2_4 l2_4.length c2_4) := (blk_cell BK581.out 4).trans rfl; have hfz41_0 := blk_frozen BK581.out 0; have hfz41_1 := blk_frozen BK581.out 1; have hfz41_2 := blk_frozen BK581.out 2; have hfz41_3 := blk_frozen BK581.out 3; have hfz41_4 := blk_frozen BK581.out 4; have p602 : 0 ≤ (x36_3 : Int) := of_decide_eq_true Z0; have q602 : x36_3 < (l2_4.length : Int) := of_decide_eq_true Z0; obtain ⟨ad602, A602_3, c602_3, A602_4, c602_4, e602, hx602_0, hx602_1, hx602_2, hx602_3, hx602_4, hl602_3, hi602_3, hl602_4, hi602_4⟩ := at_T28 (Kd.V_reads' HO_582004.out).2.2 x36_3 p602 q602; cases e602; obtain ⟨ce602, hce602, hMe602, hcc602⟩ := Kd.V_get HO_582004.out z28 x36_3 p602 (by first | exact q602 | exact of_decide_eq_true Z0 | (have e_ := (Kd.V_reads' HO_582004.out).1; omega)); obtain ⟨ua602_3, uc602_3, ua602_4, uc602_4, rfl, ul602_3, ge602_3, ul602_4, ge602_4⟩ := k28_openF hMe602; have hv602_3 := hcc602 3 _ rfl; rw [add_field _ _ 3 Z5] at hv602_3; replace hv602_3 := Option.some.inj (hv602_3.symm.trans hx602_3); injection hv602_3 with hva_ hvn_ hvc_; rw [hva_] at ge602_3; rw [hvc_] at ul602_3; have HL602_3 := Aside0.mk (show Kd.V k55 55 _ w0.heap.size _ _ ((rd_T28 l2_4 x36_3).f3) from Kd.V_mk ul602_3 ge602_3); clear hva_ hvn_ hvc_ ge602_3 ul602_3; have hv602_4 := hcc602 4 _ rfl; rw [add_field _ _ 4 Z5] at hv602_4; replace hv602_4 := Option.some.inj (hv602_4.symm.trans hx602_4); injection hv602_4 with hva_ hvn_ hvc_; rw [hva_] at ge602_4; rw [hvc_] at ul602_4; have HL602_4 := Aside0.mk (show Kd.V k28 28 _ w0.heap.size _ _ ((rd_T28 l2_4 x36_3).f4) from Kd.V_mk ul602_4 ge602_4); clear hva_ hvn_ hvc_ ge602_4 ul602_4; clear hcc602 hce602; have HR602_3 := Aside0.mk hi602_3; have HC602_3 := Aside0.mk hl602_3; clear hi602_3 hl602_3; have HR602_4 := Aside0.mk hi602_4; have HC602_4 := Aside0.mk hl602_4; clear hi602_4 hl602_4; replace p602 := eq_true p602; replace q602 := eq_true q602; obtain ⟨Ao42, co42, eo42⟩ := Kd.R_slice HO601.out; subst eo42) | ((with_reducible refine gate_callee (f := 20) rfl ?_); refine goesL_ (some 73) rfl rfl Try.func20 Z1 rfl #[.slice Ao42 y599.length co42, .string a1, .agg #[.int .i64 ((rd_T28 l2_4 x36_3).f0), .int .i64 ((rd_T28 l2_4 x36_3).f1), .int .i64 ((rd_T28 l2_4 x36_3).f2), .slice A602_3 ((rd_T28 l2_4 x36_3).f3).length c602_3, .slice A602_4 ((rd_T28 l2_4 x36_3).f4).length c602_4]] rfl Z13 ?_; (with_reducible refine (ih k3 Z45 (fun k_ => some k_ = (.slice Ao42 y599.length co42 : Value).ownBlock) (.slice Ao42 y599.length co42) y599 a1 ((rd_T28 l2_4 x36_3).f0) ((rd_T28 l2_4 x36_3).f1) ((rd_T28 l2_4 x36_3).f2) _ _ ((rd_T28 l2_4 x36_3).f3) (fun k_ => ((((P0_ k_ ∨ P2_4_ k_) ∨ w.heap.size ≤ k_) ∧ k_ ≠ gb581) ∧ some k_ ≠ (.slice Ao42 y599.length co42 : Value).ownBlock)) _ _ ((rd_T28 l2_4 x36_3).f4) t603 w0 _ ?side1 ?side2 ?side3 ?side4 ?side5 A37.out).mono ?_); (case side1 => exact Z20); (case side2 => exact Kd.R_tight rfl HO601.out); (case side3 => exact Kd.C_kept_ownV (HL602_3.out) (fun k_ hk_ hs_ => (hk_.2) hs_)); (case side4 => exact HC602_3.out); (case side5 => exact Kd.V_mono (HL602_4.out) (fun k_ hk_ => ⟨hk_, hk_.2⟩)); rintro e w43 ⟨v604, rfl, ho0, hb, hkp⟩; refine ⟨_, rfl, ?_⟩; have n0_ := Aside0.mk (Kd.V_mono (ok' := fun k_ => ((P0_ k_ ∨ P2_4_ k_) ∨ w.heap.size ≤ k_) ∧ k_ ≠ gb581 ∧ some k_ ≠ (v604 : Value).ownBlock) (Kd.V_keptB (HO_582004.out) hkp (fun k_ hk_ hs_ => (hk_.2) hs_)) (fun k_ hk_ => ⟨hk_.1.1.1, hk_.1.1.2, fun e_ => Or.elim (ho0.1 k_ e_.symm) (fun hs_ => hk_.2.1 hs_) (fun hn_ => Nat.not_le.2 hk_.2.2 hn_)⟩)); have n1_ := Aside0.mk (blk_kept (pB BK581.out) hkp (fun hs_ => (fun e_ => (Kd.R_ne HO601.out BK581.out Z2) e_) hs_)); have n2_ := Aside0.mk (Kd.R_mono (ok' := fun k_ => (P0_ k_ ∨ w.heap.size ≤ k_)) ho0 (fun k_ hk_ => Or.elim hk_ (fun hs_ => (HO601.out.1 k_ (hs_).symm)) (fun hn_ => (.inr (Nat.le_trans Z130 hn_))))); have n3_ := Aside0.mk (Kept.then_ (S := (fun k_ => P0_ k_)) Z18 hkp (fun k_ hs_ => (fun e_ => (HO601.out.1 k_ e_.symm)) hs_)); have n4_ := Aside0.mk (hb); clear HO_582004; clear BK581; clear HK; clear HB; clear HO601; clear HL602_3; clear HL602_4; have HO_582004 := n0_; have BK581 := n1_; have HO605 := n2_; have HK := n3_; have HB := n4_; clear n0_ n1_ n2_ n3_ n4_; (try clear hb); (try clear hkp); (try clear ho0)))
 go_roundg k3
 case measure => have := HJ3.out; have := HJ15.out; have := HK3.out; omega
 case rel => exact ⟨(t603), (wrap64 (x36_3 + 1)), Z8, H', ⟨Z45⟩, ⟨pR HO605.out⟩, ⟨Z74⟩, ⟨pB BK581.out⟩, ⟨Z18⟩, ⟨Z20⟩⟩

end Go.Proofs.Ytffdebhaclkhjaa.PFnPrWholeDefault
