-- Written by a program of the session (wip/tools) out of the translation. Not trusted: Lean checks it.
import Derived.Test.YtffdebhaclkhjaaSq
import Derived.Test.YtffdebhaclkhjaaSx0
import Derived.Test.YtffdebhaclkhjaaSx12
namespace Go.Proofs.Ytffdebhaclkhjaa.PFnPrWholeDefault
open Go.RowKit Go.Proofs.YtffdebhaclkhjaaW.PrintWords Go.Proofs.YtffdebhaclkhjaaW.PrintLast Go.Proofs.YtffdebhaclkhjaaW.PrintMore
attribute [local go_sem] max2_int min2_int max_two min_two max_three min_three max_four min_four   -- for this text's walks alone
set_option linter.unusedVariables false
set_option linter.unusedSimpArgs false

/-! ### spec_objects: function 21 -/
mutual
def spec_objects.l0 : Nat → Bool → Int → Int → Int → Int → Int → List (S55) → List (S28) → Option (Bool)
 | 0, _, _, _, _, _, _, _, _ => none
 | k + 1, x3, x10, x11, x627000, x627001, x627002, x627003, x627004 => if x11 < x10 then (if x3 = true then (spec_objects.l0 k true x10 (wrap64 (x11 + 1)) x627000 x627001 x627002 x627003 x627004) else (if 0 ≤ x11 then (if x11 < (x627004.length : Int) then ((spec_objects.f k ((rd_T28 x627004 x11).f0) ((rd_T28 x627004 x11).f1) ((rd_T28 x627004 x11).f2) ((rd_T28 x627004 x11).f3) ((rd_T28 x627004 x11).f4)).bind fun t628 => (spec_objects.l0 k t628 x10 (wrap64 (x11 + 1)) x627000 x627001 x627002 x627003 x627004)) else (none)) else (none))) else (some x3)
def spec_objects.f : Nat → Int → Int → Int → List (S55) → List (S28) → Option (Bool)
 | 0, _, _, _, _, _ => none
 | k + 1, a0_0, a0_1, a0_2, l0_3, l0_4 => spec_objects.l0 k (a0_0 == 6) (l0_4.length : Int) 0 a0_0 a0_1 a0_2 l0_3 l0_4
end
theorem spec_objects.mono_l : ∀ k, (∀ y0 y1 y2 y3 y4, LeO (spec_objects.f k y0 y1 y2 y3 y4) (spec_objects.f (k + 1) y0 y1 y2 y3 y4)) ∧ (∀ y0 y1 y2 y3 y4 y5 y6 y7, LeO (spec_objects.l0 k y0 y1 y2 y3 y4 y5 y6 y7) (spec_objects.l0 (k + 1) y0 y1 y2 y3 y4 y5 y6 y7))
 | 0 => ⟨fun _ _ _ _ _ r h => by simp [spec_objects.f] at h, fun _ _ _ _ _ _ _ _ r h => by simp [spec_objects.l0] at h⟩
 | k + 1 => by
  obtain ⟨ih0, ih1⟩ := spec_objects.mono_l k
  refine ⟨?_, ?_⟩
  ·
   intro y0 y1 y2 y3 y4
   unfold spec_objects.f
   exact Z109
  intro y0 y1 y2 y3 y4 y5 y6 y7
  unfold spec_objects.l0
  exact Z109
theorem spec_objects.mono : ∀ a0 a1 a2 a3 a4 k, LeO (spec_objects.f k a0 a1 a2 a3 a4) (spec_objects.f (k + 1) a0 a1 a2 a3 a4) := by
 intro a0 a1 a2 a3 a4 k
 obtain ⟨ih0, ih1⟩ := spec_objects.mono_l k
 exact ih0 a0 a1 a2 a3 a4
set_option maxHeartbeats 8000000 in
set_option maxRecDepth 100000 in
theorem spec_objects.calls (k : Nat) : ∀ (a0_0 : Int) (a0_1 : Int) (a0_2 : Int) (A0_3 : Option Addr) (c0_3 : Nat) (l0_3 : List (S55)) (A0_4 : Option Addr) (c0_4 : Nat) (l0_4 : List (S28)) (r : Bool) (w : World) (hr0_3 : Kd.C k55 w A0_3 l0_3.length l0_3) (hc0_3 : l0_3.length ≤ c0_3) (hr0_4 : Kd.C k28 w A0_4 l0_4.length l0_4) (hc0_4 : l0_4.length ≤ c0_4) (h : spec_objects.f k a0_0 a0_1 a0_2 l0_3 l0_4 = some r),
  Calls Try.prog 21 #[.agg #[.int .i64 a0_0, .int .i64 a0_1, .int .i64 a0_2, .slice A0_3 l0_3.length c0_3, .slice A0_4 l0_4.length c0_4]] w fun e w' => e = .returned (.bool r) ∧ Below w.heap.size w w' := by
 induction k using Nat.strongRecOn with
 | _ k ih =>
 intro a0_0 a0_1 a0_2 A0_3 c0_3 l0_3 A0_4 c0_4 l0_4 r w hr0_3 hc0_3 hr0_4 hc0_4 h
 cases k with
 | zero => exact absurd h (by simp [spec_objects.f])
 | succ k =>
 simp only [spec_objects.f] at h
 have hu28 := Try.underlying28
 have HR0_3 := Aside0.mk hr0_3
 have HC0_3 := Aside0.mk hc0_3
 clear hr0_3 hc0_3
 have HR0_4 := Aside0.mk hr0_4
 have HC0_4 := Aside0.mk hc0_4
 clear hr0_4 hc0_4
 have HB := Aside0.mk (Below.refl w.heap.size w)
 have H : (spec_objects.l0 k (a0_0 == 6) (l0_4.length : Int) 0 a0_0 a0_1 a0_2 l0_3 l0_4) = some r := h
 clear h
 have H' := Aside0.mk H
 clear H
 go_enter Try.func21, Try.ntmps21
 go_wp2_with (first | ((with_reducible refine gate_dst (N := 1) rfl ?_); refine box_event ?hg (N := 1) ?hd (cs := #[.int .i64 a0_0, .int .i64 a0_1, .int .i64 a0_2, .slice A0_3 l0_3.length c0_3, .slice A0_4 l0_4.length c0_4]) (t := 28) ?hr ?_; (case hd => exact Z3); (case hg => exact Z3); (case hr => exact Z19); intro gb626 hg w2 hbox hb; have n0_ := Aside0.mk (below_step Z6 hb); have n1_ := Aside0.mk (hbox); have n2_ := Aside0.mk ((Z121 : w.heap.size ≤ gb626)); have n3_ := Aside0.mk ((Z121 : w.heap.size ≤ gb626)); clear HB; have HB := n0_; have BK626 := n1_; have GW626 := n2_; have GE626 := n3_; clear n0_ n1_ n2_ n3_; clear hb hbox hg; have hcz3_0 : w2.cell? ⟨gb626, 0, none⟩ = some (.int .i64 a0_0) := (blk_cell BK626.out 0).trans rfl; have hcz3_1 : w2.cell? ⟨gb626, 1, none⟩ = some (.int .i64 a0_1) := (blk_cell BK626.out 1).trans rfl; have hcz3_2 : w2.cell? ⟨gb626, 2, none⟩ = some (.int .i64 a0_2) := (blk_cell BK626.out 2).trans rfl; have hcz3_3 : w2.cell? ⟨gb626, 3, none⟩ = some (.slice A0_3 l0_3.length c0_3) := (blk_cell BK626.out 3).trans rfl; have hcz3_4 : w2.cell? ⟨gb626, 4, none⟩ = some (.slice A0_4 l0_4.length c0_4) := (blk_cell BK626.out 4).trans rfl; have hfz3_0 := blk_frozen BK626.out 0; have hfz3_1 := blk_frozen BK626.out 1; have hfz3_2 := blk_frozen BK626.out 2; have hfz3_3 := blk_frozen BK626.out 3; have hfz3_4 := blk_frozen BK626.out 4))
 (try simp only [Act.put, List.setIfInBounds_toArray, List.set_cons_succ, List.set_cons_zero])
 go_loopg [3, 11] k (fun kq v3 v11 w' => ∃ (x3_1 : Bool) (x11_1 : Int), v3 = .bool x3_1 ∧ v11 = .int .i64 x11_1 ∧ Aside0 (spec_objects.l0 kq x3_1 (l0_4.length : Int) x11_1 a0_0 a0_1 a0_2 l0_3 l0_4 = some r) ∧ Aside0 (kq ≤ k) ∧ Aside0 (w'.heap[gb626]? = some (.cells #[.int .i64 a0_0, .int .i64 a0_1, .int .i64 a0_2, (.slice A0_3 l0_3.length c0_3), (.slice A0_4 l0_4.length c0_4)] 28 (0, 0))) ∧ Aside0 (Below w.heap.size w w'))
 case atStart => exact ⟨((a0_0 == 6)), (0), Z8, Z8, H', ⟨Nat.le_refl _⟩, ⟨pB BK626.out⟩, ⟨Z65⟩⟩
 clear H'
 try clear c2; try clear p2; try clear hcz3_0; try clear hcz3_1; try clear hcz3_2; try clear hcz3_3; try clear hcz3_4; try clear hfz3_0; try clear hfz3_1; try clear hfz3_2; try clear hfz3_3; try clear hfz3_4
 obtain ⟨x3_1, x11_1, rfl, rfl, HA, HK1, BK626, HB⟩ := hrel
 cases gk with
 | zero => exact absurd HA.out (by simp [spec_objects.l0])
 | succ k1 =>
 have H := HA.out
 clear HA
 simp only [spec_objects.l0] at H
 by_cases c4 : x11_1 < (l0_4.length : Int)
 rotate_left
 ·
  rw [if_neg c4] at H
  have c4b0 := decide_eq_false c4
  clear c4
  obtain rfl := Option.some.inj H
  go_wp2
  go_ret
  exact ⟨Z12, Z65⟩
 rw [if_pos c4] at H
 have c4b0 := decide_eq_true c4
 clear c4
 by_cases c5 : x3_1 = true
 ·
  subst c5
  rw [if_pos rfl] at H
  have H' := Aside0.mk H
  clear H
  go_wp2
  go_roundg k1
  case measure => have := HK1.out; omega
  case rel => exact ⟨(true), (wrap64 (x11_1 + 1)), Z8, Z8, H', ⟨Z27⟩, ⟨pB BK626.out⟩, ⟨Z65⟩⟩
 replace c5 := Bool.eq_false_iff.mpr c5
 subst c5
 rw [if_neg (show ¬ (false = true) from Z2)] at H
 by_cases c6 : 0 ≤ x11_1
 rotate_left
 ·
  rw [if_neg c6] at H
  exact absurd H Z4
 rw [if_pos c6] at H
 have c6b0 := decide_eq_true c6
 clear c6
 by_cases c7 : x11_1 < (l0_4.length : Int)
 rotate_left
 ·
  rw [if_neg c7] at H
  exact absurd H Z4
 rw [if_pos c7] at H
 have c7b0 := decide_eq_true c7
 clear c7
 replace H := Option.bind_eq_some_iff.mp H
 obtain ⟨t628, A80, H⟩ := H
 have A8 := Aside0.mk A80
 clear A80
 have H' := Aside0.mk H
 clear H
 have hcz9_0 : wr.cell? ⟨gb626, 0, none⟩ = some (.int .i64 a0_0) := (blk_cell BK626.out 0).trans rfl
 have hcz9_1 : wr.cell? ⟨gb626, 1, none⟩ = some (.int .i64 a0_1) := (blk_cell BK626.out 1).trans rfl
 have hcz9_2 : wr.cell? ⟨gb626, 2, none⟩ = some (.int .i64 a0_2) := (blk_cell BK626.out 2).trans rfl
 have hcz9_3 : wr.cell? ⟨gb626, 3, none⟩ = some (.slice A0_3 l0_3.length c0_3) := (blk_cell BK626.out 3).trans rfl
 have hcz9_4 : wr.cell? ⟨gb626, 4, none⟩ = some (.slice A0_4 l0_4.length c0_4) := (blk_cell BK626.out 4).trans rfl
 have hfz9_0 := blk_frozen BK626.out 0
 have hfz9_1 := blk_frozen BK626.out 1
 have hfz9_2 := blk_frozen BK626.out 2
 have hfz9_3 := blk_frozen BK626.out 3
 have hfz9_4 := blk_frozen BK626.out 4
 have p627 : 0 ≤ (x11_1 : Int) := of_decide_eq_true Z0
 have q627 : x11_1 < (l0_4.length : Int) := of_decide_eq_true Z0
 obtain ⟨ad627, A627_3, c627_3, A627_4, c627_4, e627, hx627_0, hx627_1, hx627_2, hx627_3, hx627_4, hl627_3, hi627_3, hl627_4, hi627_4⟩ := at_T28 HR0_4.out x11_1 p627 q627
 cases e627
 replace hx627_0 := (HB.out.cell (World.block_lt_of_cell? w _ hx627_0)).trans hx627_0
 replace hx627_1 := (HB.out.cell (World.block_lt_of_cell? w _ hx627_1)).trans hx627_1
 replace hx627_2 := (HB.out.cell (World.block_lt_of_cell? w _ hx627_2)).trans hx627_2
 replace hx627_3 := (HB.out.cell (World.block_lt_of_cell? w _ hx627_3)).trans hx627_3
 replace hx627_4 := (HB.out.cell (World.block_lt_of_cell? w _ hx627_4)).trans hx627_4
 have HR627_3 := Aside0.mk hi627_3
 have HC627_3 := Aside0.mk hl627_3
 clear hi627_3 hl627_3
 have HR627_4 := Aside0.mk hi627_4
 have HC627_4 := Aside0.mk hl627_4
 clear hi627_4 hl627_4
 replace p627 := eq_true p627
 replace q627 := eq_true q627
 go_wp2_with (first | (go_at_call 21; (with_reducible refine (ih k1 Z27 ((rd_T28 l0_4 x11_1).f0) ((rd_T28 l0_4 x11_1).f1) ((rd_T28 l0_4 x11_1).f2) _ _ ((rd_T28 l0_4 x11_1).f3) _ _ ((rd_T28 l0_4 x11_1).f4) t628 _ ?side1 ?side2 ?side3 ?side4 A8.out).mono ?_); (case side1 => repeat (first | exact (Kd.C_below HR627_3.out HB.out) | (with_reducible refine Kd.C_alloc ?_ _) | (with_reducible refine Kd.C_drewN ?_ _) | (with_reducible refine Kd.C_drew ?_))); (case side2 => exact HC627_3.out); (case side3 => repeat (first | exact (Kd.C_below HR627_4.out HB.out) | (with_reducible refine Kd.C_alloc ?_ _) | (with_reducible refine Kd.C_drewN ?_ _) | (with_reducible refine Kd.C_drew ?_))); (case side4 => exact HC627_4.out); rintro e w10 ⟨rfl, hb⟩; have n0_ := Aside0.mk (blk_below (g := gb626) (o := .cells #[.int .i64 a0_0, .int .i64 a0_1, .int .i64 a0_2, .slice A0_3 l0_3.length c0_3, .slice (some ad627) l0_4.length c0_4] 28 (0, 0)) (pB BK626.out) hb); have n1_ := Aside0.mk (below_step Z65 hb); clear BK626; clear HB; have BK626 := n0_; have HB := n1_; clear n0_ n1_; (try clear hb); (try clear hb2); (try clear hk); (try clear hi)))
 go_roundg k1
 case measure => have := HK1.out; omega
 case rel => exact ⟨(t628), (wrap64 (x11_1 + 1)), Z8, Z8, H', ⟨Z27⟩, ⟨pB BK626.out⟩, ⟨Z65⟩⟩

/-! ### spec_lineTo: function 22 -/
mutual
def spec_lineTo.l0 : Nat → List Int → ByteArray → Int → Int → Int → Int → Int → List (S55) → List (S28) → Option (List Int)
 | 0, _, _, _, _, _, _, _, _, _ => none
 | k + 1, x0, x1, x24, x25, x630000, x630001, x630002, x630003, x630004 => if x25 < x24 then (if x25 > 0 then ((some (([44, 32] : List Int) : List Int)).bind fun y636 => (if x0.length + y636.length < 140737488355328 then (if 0 ≤ x25 then (if x25 < (x630004.length : Int) then ((spec_lineTo.f k (x0 ++ y636) x1 ((rd_T28 x630004 x25).f0) ((rd_T28 x630004 x25).f1) ((rd_T28 x630004 x25).f2) ((rd_T28 x630004 x25).f3) ((rd_T28 x630004 x25).f4)).bind fun t643 => (spec_lineTo.l0 k t643 x1 x24 (wrap64 (x25 + 1)) x630000 x630001 x630002 x630003 x630004)) else (none)) else (none)) else (none))) else (if 0 ≤ x25 then (if x25 < (x630004.length : Int) then ((spec_lineTo.f k x0 x1 ((rd_T28 x630004 x25).f0) ((rd_T28 x630004 x25).f1) ((rd_T28 x630004 x25).f2) ((rd_T28 x630004 x25).f3) ((rd_T28 x630004 x25).f4)).bind fun t647 => (spec_lineTo.l0 k t647 x1 x24 (wrap64 (x25 + 1)) x630000 x630001 x630002 x630003 x630004)) else (none)) else (none))) else (if x0.length < 140737488355328 then (some (x0 ++ [93])) else (none))
def spec_lineTo.f : Nat → List Int → ByteArray → Int → Int → Int → List (S55) → List (S28) → Option (List Int)
 | 0, _, _, _, _, _, _, _ => none
 | k + 1, l0, a1, a2_0, a2_1, a2_2, l2_3, l2_4 => if a2_0 = 5 then (if l0.length < 140737488355328 then (spec_lineTo.l0 k (l0 ++ [91]) a1 (l2_4.length : Int) 0 a2_0 a2_1 a2_2 l2_3 l2_4) else (none)) else (if 0 ≤ a2_1 then (if a2_1 ≤ a2_2 then (if a2_2 ≤ (a1.size : Int) then (if l0.length + (a1.extract (a2_1 : Int).toNat (a2_2 : Int).toNat).size < 140737488355328 then (some (l0 ++ bytesOf (a1.extract (a2_1 : Int).toNat (a2_2 : Int).toNat))) else (none)) else (none)) else (none)) else (none))
end
theorem spec_lineTo.mono_l : ∀ k, (∀ y0 y1 y2 y3 y4 y5 y6, LeO (spec_lineTo.f k y0 y1 y2 y3 y4 y5 y6) (spec_lineTo.f (k + 1) y0 y1 y2 y3 y4 y5 y6)) ∧ (∀ y0 y1 y2 y3 y4 y5 y6 y7 y8, LeO (spec_lineTo.l0 k y0 y1 y2 y3 y4 y5 y6 y7 y8) (spec_lineTo.l0 (k + 1) y0 y1 y2 y3 y4 y5 y6 y7 y8))
 | 0 => ⟨fun _ _ _ _ _ _ _ r h => by simp [spec_lineTo.f] at h, fun _ _ _ _ _ _ _ _ _ r h => by simp [spec_lineTo.l0] at h⟩
 | k + 1 => by
  obtain ⟨ih0, ih1⟩ := spec_lineTo.mono_l k
  refine ⟨?_, ?_⟩
  ·
   intro y0 y1 y2 y3 y4 y5 y6
   unfold spec_lineTo.f
   exact Z110
  intro y0 y1 y2 y3 y4 y5 y6 y7 y8
  unfold spec_lineTo.l0
  exact Z110
theorem spec_lineTo.mono : ∀ a0 a1 a2 a3 a4 a5 a6 k, LeO (spec_lineTo.f k a0 a1 a2 a3 a4 a5 a6) (spec_lineTo.f (k + 1) a0 a1 a2 a3 a4 a5 a6) := by
 intro a0 a1 a2 a3 a4 a5 a6 k
 obtain ⟨ih0, ih1⟩ := spec_lineTo.mono_l k
 exact ih0 a0 a1 a2 a3 a4 a5 a6
set_option maxHeartbeats 8000000 in
set_option maxRecDepth 100000 in
theorem spec_lineTo.calls (k : Nat) : ∀ (P0_ : Nat → Prop) (u9000_ : Value) (l0 : List Int) (a1 : ByteArray) (a2_0 : Int) (a2_1 : Int) (a2_2 : Int) (A2_3 : Option Addr) (c2_3 : Nat) (l2_3 : List (S55)) (P2_4_ : Nat → Prop) (A2_4 : Option Addr) (c2_4 : Nat) (l2_4 : List (S28)) (r : List Int) (w0 w : World) (hB : Below w0.heap.size w0 w) (ho0 : Kd.R (Kd.int .u8) 5 w w0.heap.size P0_ u9000_ l0) (hr2_3 : ∀ W_, Kept w W_ (fun k_ => P0_ k_) → Kd.C k55 W_ A2_3 l2_3.length l2_3) (hc2_3 : l2_3.length ≤ c2_3) (hs2_4 : Kd.V k28 28 w w0.heap.size (fun k_ => P2_4_ k_ ∧ some k_ ≠ (u9000_ : Value).ownBlock) (.slice A2_4 l2_4.length c2_4) l2_4) (h : spec_lineTo.f k l0 a1 a2_0 a2_1 a2_2 l2_3 l2_4 = some r),
  Calls Try.prog 22 #[u9000_, .string a1, .agg #[.int .i64 a2_0, .int .i64 a2_1, .int .i64 a2_2, .slice A2_3 l2_3.length c2_3, .slice A2_4 l2_4.length c2_4]] w fun e w' => ∃ v0_ : Value, e = .returned (v0_) ∧ Kd.R (Kd.int .u8) 5 w' w0.heap.size (fun k_ => (P0_ k_ ∨ w.heap.size ≤ k_)) v0_ r ∧ Below w0.heap.size w0 w' ∧ Kept w w' (fun k_ => P0_ k_) := by
 induction k using Nat.strongRecOn with
 | _ k ih =>
 intro P0_ u9000_ l0 a1 a2_0 a2_1 a2_2 A2_3 c2_3 l2_3 P2_4_ A2_4 c2_4 l2_4 r w0 w hB ho0 hr2_3 hc2_3 hs2_4 h
 cases k with
 | zero => exact absurd h (by simp [spec_lineTo.f])
 | succ k =>
 simp only [spec_lineTo.f] at h
 have hu28 := Try.underlying28
 have HO0 := Aside0.mk (show Kd.R (Kd.int .u8) 5 w w0.heap.size (fun k_ => (P0_ k_ ∨ w.heap.size ≤ k_)) u9000_ l0 from Kd.R_mono ho0 (fun k_ hk => (.inl hk)))
 have HR2_3 := Aside0.mk hr2_3
 have HC2_3 := Aside0.mk hc2_3
 clear hr2_3 hc2_3
 have HO2_4 := Aside0.mk (show Kd.V k28 28 w w0.heap.size (fun k_ => ((P0_ k_ ∨ P2_4_ k_) ∨ w.heap.size ≤ k_) ∧ some k_ ≠ (u9000_ : Value).ownBlock) (.slice A2_4 l2_4.length c2_4) l2_4 from Kd.V_mono hs2_4 (fun k_ hk => ⟨.inl (.inr hk.1), hk.2⟩))
 have HK := Aside0.mk (Kept.refl w (fun k_ => P0_ k_))
 have HW0 := Aside0.mk hB.size
 have HB := Aside0.mk hB
 clear hB
 have H : (if a2_0 = 5 then (if l0.length < 140737488355328 then (spec_lineTo.l0 k (l0 ++ [91]) a1 (l2_4.length : Int) 0 a2_0 a2_1 a2_2 l2_3 l2_4) else (none)) else (if 0 ≤ a2_1 then (if a2_1 ≤ a2_2 then (if a2_2 ≤ (a1.size : Int) then (if l0.length + (a1.extract (a2_1 : Int).toNat (a2_2 : Int).toNat).size < 140737488355328 then (some (l0 ++ bytesOf (a1.extract (a2_1 : Int).toNat (a2_2 : Int).toNat))) else (none)) else (none)) else (none)) else (none))) = some r := h
 clear h
 have HC4 := Aside0.mk H
 clear H
 go_enter Try.func22, Try.ntmps22
 go_upto_if 10 with (first | ((with_reducible refine gate_dst (N := 5) rfl ?_); refine box_event ?hg (N := 5) ?hd (cs := #[.int .i64 a2_0, .int .i64 a2_1, .int .i64 a2_2, .slice A2_3 l2_3.length c2_3, .slice A2_4 l2_4.length c2_4]) (t := 28) ?hr ?_; (case hd => exact Z3); (case hg => exact Z3); (case hr => exact Z19); intro gb629 hg w5 hbox hb; have n0_ := Aside0.mk (Kd.R_below (pR HO0.out) hb); have n1_ := Aside0.mk (Kd.V_below (Kd.V_elderB (pV HO2_4.out) gb629 (Nat.le_of_eq hg.symm)) hb); have n2_ := Aside0.mk (Kept.below (S := (fun k_ => P0_ k_)) Z7 hb); have n3_ := Aside0.mk (below_step Z6 hb); have n4_ := Aside0.mk (hbox); have n5_ := Aside0.mk ((by rw [hg]; exact Z119 : w.heap.size ≤ gb629)); have n6_ := Aside0.mk ((Z121 : w0.heap.size ≤ gb629)); clear HO0; clear HO2_4; clear HK; clear HB; have HO0 := n0_; have HO2_4 := n1_; have HK := n2_; have HB := n3_; have BK629 := n4_; have GW629 := n5_; have GE629 := n6_; clear n0_ n1_ n2_ n3_ n4_ n5_ n6_; clear hb hbox hg; have hcz6_0 : w5.cell? ⟨gb629, 0, none⟩ = some (.int .i64 a2_0) := (blk_cell BK629.out 0).trans rfl; have hcz6_1 : w5.cell? ⟨gb629, 1, none⟩ = some (.int .i64 a2_1) := (blk_cell BK629.out 1).trans rfl; have hcz6_2 : w5.cell? ⟨gb629, 2, none⟩ = some (.int .i64 a2_2) := (blk_cell BK629.out 2).trans rfl; have hcz6_3 : w5.cell? ⟨gb629, 3, none⟩ = some (.slice A2_3 l2_3.length c2_3) := (blk_cell BK629.out 3).trans rfl; have hcz6_4 : w5.cell? ⟨gb629, 4, none⟩ = some (.slice A2_4 l2_4.length c2_4) := (blk_cell BK629.out 4).trans rfl; have hfz6_0 := blk_frozen BK629.out 0; have hfz6_1 := blk_frozen BK629.out 1; have hfz6_2 := blk_frozen BK629.out 2; have hfz6_3 := blk_frozen BK629.out 3; have hfz6_4 := blk_frozen BK629.out 4))
 (try simp only [Act.put, List.setIfInBounds_toArray, List.set_cons_zero, List.set_cons_succ])
 have H := HC4.out
 clear HC4
 by_cases c7 : a2_0 = 5
 rotate_left
 ·
  rw [if_neg c7] at H
  have c7b0 := beq_eq_false_iff_ne.mpr c7
  have c7b1 := bne_iff_ne.mpr c7
  (first | rw [c7b0] | (simp only [i64_w, i32_w]; rw [c7b0]) | skip)
  by_cases c32 : 0 ≤ a2_1
  rotate_left
  ·
   rw [if_neg c32] at H
   exact absurd H Z4
  rw [if_pos c32] at H
  have c32b0 := eq_true c32
  have c32b1 := decide_eq_true c32
  clear c32
  by_cases c33 : a2_1 ≤ a2_2
  rotate_left
  ·
   rw [if_neg c33] at H
   exact absurd H Z4
  rw [if_pos c33] at H
  have c33b0 := eq_true c33
  have c33b1 := decide_eq_true c33
  clear c33
  by_cases c34 : a2_2 ≤ (a1.size : Int)
  rotate_left
  ·
   rw [if_neg c34] at H
   exact absurd H Z4
  rw [if_pos c34] at H
  have c34b0 := eq_true c34
  have c34b1 := decide_eq_true c34
  clear c34
  by_cases c35 : l0.length + (a1.extract (a2_1 : Int).toNat (a2_2 : Int).toNat).size < 140737488355328
  rotate_left
  ·
   rw [if_neg c35] at H
   exact absurd H Z4
  rw [if_pos c35] at H
  have LMc35 := Aside0.mk c35
  clear c35
  obtain ⟨y630, hy630⟩ : ∃ y_ : List Int, y_ = (l0 ++ bytesOf (a1.extract (a2_1 : Int).toNat (a2_2 : Int).toNat)) := ⟨_, rfl⟩
  first | replace H := bind_y hy630 H | rw [← hy630] at H
  have Ny630 := Aside0.mk hy630
  clear hy630
  obtain rfl := Option.some.inj H
  have hcz36_0 : w5.cell? ⟨gb629, 0, none⟩ = some (.int .i64 a2_0) := (blk_cell BK629.out 0).trans rfl
  have hcz36_1 : w5.cell? ⟨gb629, 1, none⟩ = some (.int .i64 a2_1) := (blk_cell BK629.out 1).trans rfl
  have hcz36_2 : w5.cell? ⟨gb629, 2, none⟩ = some (.int .i64 a2_2) := (blk_cell BK629.out 2).trans rfl
  have hcz36_3 : w5.cell? ⟨gb629, 3, none⟩ = some (.slice A2_3 l2_3.length c2_3) := (blk_cell BK629.out 3).trans rfl
  have hcz36_4 : w5.cell? ⟨gb629, 4, none⟩ = some (.slice A2_4 l2_4.length c2_4) := (blk_cell BK629.out 4).trans rfl
  have hfz36_0 := blk_frozen BK629.out 0
  have hfz36_1 := blk_frozen BK629.out 1
  have hfz36_2 := blk_frozen BK629.out 2
  have hfz36_3 := blk_frozen BK629.out 3
  have hfz36_4 := blk_frozen BK629.out 4
  go_wp2_with (first | (at_builtin; refine Kd.R_append_str (w0 := w0) w0.heap.size rfl (.tmp 11) _ 40 9 5 rfl Try.underlying40 Try.underlying9 info5 u9000_ l0 (a1.extract (a2_1 : Int).toNat (a2_2 : Int).toNat) (fun k_ => (P0_ k_ ∨ w.heap.size ≤ k_)) rfl rfl ?aF ?aO ?aB ?aS ?aL ?_; (case aB => exact Z32); (case aF => exact (fun k_ hk => (.inr (Nat.le_trans Z133 hk)))); (case aO => exact (pR HO0.out)); (case aS => exact (below_size Z32)); (case aL => have := LMc35.out; omega); intro v631 w37 ho hb hg hat; rw [← Ny630.out] at ho; have n0_ := Aside0.mk (Kd.V_afterv (ok := (fun k_ => ((P0_ k_ ∨ P2_4_ k_) ∨ w.heap.size ≤ k_) ∧ k_ ≠ gb629)) Z111 hg hat); have n1_ := Aside0.mk (blk_grown (g := gb629) (o := .cells #[.int .i64 a2_0, .int .i64 a2_1, .int .i64 a2_2, .slice A2_3 l2_3.length c2_3, .slice A2_4 l2_4.length c2_4] 28 (0, 0)) (pB BK629.out) hg (Kd.R_ne HO0.out BK629.out Z2)); have n2_ := Aside0.mk (hb); have n3_ := Aside0.mk (Kept.of_grown (S := (fun k_ => P0_ k_)) hg Z30 (fun k_ e_ => (HO0.out.1 k_ e_))); have n4_ := Aside0.mk (ho); clear HO2_4; clear BK629; clear HB; clear HK; clear HO0; have HO2_4 := n0_; have BK629 := n1_; have HB := n2_; have HK := n3_; have HO632 := n4_; clear n0_ n1_ n2_ n3_ n4_; clear ho hb hg hat))
  go_ret
  exact ⟨_, Z12, pR HO632.out, Z32, Z30⟩
 rw [if_pos c7] at H
 have c7b0 := beq_iff_eq.mpr c7
 have c7b1 := bne_eq_false_iff_eq.mpr c7
 clear c7
 (first | rw [c7b0] | (simp only [i64_w, i32_w]; rw [c7b0]) | skip)
 by_cases c8 : l0.length < 140737488355328
 rotate_left
 ·
  rw [if_neg c8] at H
  exact absurd H Z4
 rw [if_pos c8] at H
 have LMc8 := Aside0.mk c8
 clear c8
 obtain ⟨y633, hy633⟩ : ∃ y_ : List Int, y_ = (l0 ++ [91]) := ⟨_, rfl⟩
 first | replace H := bind_y hy633 H | rw [← hy633] at H
 have Ny633 := Aside0.mk hy633
 clear hy633
 have H' := Aside0.mk H
 clear H
 go_wp2_with (first | ((with_reducible refine gate_builtin (b := .append) (xs := #[.tmp 19, .tmp 20]) rfl ?_); at_builtin; refine Kd.R_append (Kd.int .u8) (w0 := w0) w0.heap.size rfl (.tmp 19) (.tmp 20) 40 5 (.int .u8 0) 1 rfl Try.underlying40 info5 rfl Z2 Z5 u9000_ l0 91 [.int .u8 91] (fun k_ => (P0_ k_ ∨ w.heap.size ≤ k_)) (fun _ => False) rfl rfl ?aP (fun _ hk => hk.elim) ?aF ?aO ?aB ?aS ?aL ?_; (case aP => exact rfl); (case aB => exact Z32); (case aF => exact (fun k_ hk => (.inr (Nat.le_trans Z133 hk)))); (case aO => exact (pR HO0.out)); (case aS => exact (below_size Z32)); (case aL => have := LMc8.out; omega); intro v634 w9 ho hb hg hat; rw [← Ny633.out] at ho; have n0_ := Aside0.mk (Kd.V_afterv (ok := (fun k_ => ((P0_ k_ ∨ P2_4_ k_) ∨ w.heap.size ≤ k_) ∧ k_ ≠ gb629)) Z111 hg hat); have n1_ := Aside0.mk (blk_grown (g := gb629) (o := .cells #[.int .i64 a2_0, .int .i64 a2_1, .int .i64 a2_2, .slice A2_3 l2_3.length c2_3, .slice A2_4 l2_4.length c2_4] 28 (0, 0)) (pB BK629.out) hg (Kd.R_ne HO0.out BK629.out Z2)); have n2_ := Aside0.mk (hb); have n3_ := Aside0.mk (Kept.of_grown (S := (fun k_ => P0_ k_)) hg Z30 (fun k_ e_ => (HO0.out.1 k_ e_))); have n4_ := Aside0.mk (ho); clear HO2_4; clear BK629; clear HB; clear HK; clear HO0; have HO2_4 := n0_; have BK629 := n1_; have HB := n2_; have HK := n3_; have HO635 := n4_; clear n0_ n1_ n2_ n3_ n4_; clear ho hb hg hat; have hcz10_0 : w9.cell? ⟨gb629, 0, none⟩ = some (.int .i64 a2_0) := (blk_cell BK629.out 0).trans rfl; have hcz10_1 : w9.cell? ⟨gb629, 1, none⟩ = some (.int .i64 a2_1) := (blk_cell BK629.out 1).trans rfl; have hcz10_2 : w9.cell? ⟨gb629, 2, none⟩ = some (.int .i64 a2_2) := (blk_cell BK629.out 2).trans rfl; have hcz10_3 : w9.cell? ⟨gb629, 3, none⟩ = some (.slice A2_3 l2_3.length c2_3) := (blk_cell BK629.out 3).trans rfl; have hcz10_4 : w9.cell? ⟨gb629, 4, none⟩ = some (.slice A2_4 l2_4.length c2_4) := (blk_cell BK629.out 4).trans rfl; have hfz10_0 := blk_frozen BK629.out 0; have hfz10_1 := blk_frozen BK629.out 1; have hfz10_2 := blk_frozen BK629.out 2; have hfz10_3 := blk_frozen BK629.out 3; have hfz10_4 := blk_frozen BK629.out 4))
 (try simp only [Act.put, List.setIfInBounds_toArray, List.set_cons_succ, List.set_cons_zero])
 go_loopg [0, 25] k (fun kq v0 v25 w' => ∃ (x0_1 : List Int) (x25_1 : Int), v25 = .int .i64 x25_1 ∧ Aside0 (spec_lineTo.l0 kq x0_1 a1 (l2_4.length : Int) x25_1 a2_0 a2_1 a2_2 l2_3 l2_4 = some r) ∧ Aside0 (kq ≤ k) ∧ Aside0 (Kd.R (Kd.int .u8) 5 w' w0.heap.size (fun k_ => (P0_ k_ ∨ w.heap.size ≤ k_)) v0 x0_1) ∧ Aside0 (Kd.V k28 28 w' w0.heap.size (fun k_ => ((P0_ k_ ∨ P2_4_ k_) ∨ w.heap.size ≤ k_) ∧ some k_ ≠ (v0 : Value).ownBlock ∧ k_ ≠ gb629) (.slice A2_4 l2_4.length c2_4) l2_4) ∧ Aside0 (w'.heap[gb629]? = some (.cells #[.int .i64 a2_0, .int .i64 a2_1, .int .i64 a2_2, (.slice A2_3 l2_3.length c2_3), (.slice A2_4 l2_4.length c2_4)] 28 (0, 0))) ∧ Aside0 (Kept w w' (fun k_ => P0_ k_)) ∧ Aside0 (Below w0.heap.size w0 w'))
 case atStart => exact ⟨(y633), (0), Z8, H', ⟨Nat.le_refl _⟩, ⟨pR HO635.out⟩, ⟨by (with_reducible repeat (first | apply Kd.V_alloc | apply Kd.V_drewN | apply Kd.V_drew)); exact Kd.V_mono HO2_4.out (fun _ hk => ⟨hk.1.1, ⟨hk.2, hk.1.2⟩⟩)⟩, ⟨pB BK629.out⟩, ⟨Z30⟩, ⟨Z32⟩⟩
 clear H'
 try clear c2; try clear p2; try clear c7; try clear c7b0; try clear c7b1; try clear c8; try clear hcz10_0; try clear hcz10_1; try clear hcz10_2; try clear hcz10_3; try clear hcz10_4; try clear hcz6_0; try clear hcz6_1; try clear hcz6_2; try clear hcz6_3; try clear hcz6_4; try clear hfz10_0; try clear hfz10_1; try clear hfz10_2; try clear hfz10_3; try clear hfz10_4; try clear hfz6_0; try clear hfz6_1; try clear hfz6_2; try clear hfz6_3; try clear hfz6_4
 obtain ⟨x0_1, x25_1, rfl, HA, HK1, HO_0, HO_630004, BK629, HK, HB⟩ := hrel
 cases gk with
 | zero => exact absurd HA.out (by simp [spec_lineTo.l0])
 | succ k1 =>
 have H := HA.out
 clear HA
 simp only [spec_lineTo.l0] at H
 by_cases c11 : x25_1 < (l2_4.length : Int)
 rotate_left
 ·
  rw [if_neg c11] at H
  have c11b0 := decide_eq_false c11
  clear c11
  by_cases c30 : x0_1.length < 140737488355328
  rotate_left
  ·
   rw [if_neg c30] at H
   exact absurd H Z4
  rw [if_pos c30] at H
  have LMc30 := Aside0.mk c30
  clear c30
  obtain ⟨y650, hy650⟩ : ∃ y_ : List Int, y_ = (x0_1 ++ [93]) := ⟨_, rfl⟩
  first | replace H := bind_y hy650 H | rw [← hy650] at H
  have Ny650 := Aside0.mk hy650
  clear hy650
  obtain rfl := Option.some.inj H
  go_wp2_with (first | ((with_reducible refine gate_builtin (b := .append) (xs := #[.tmp 42, .tmp 43]) rfl ?_); at_builtin; refine Kd.R_append (Kd.int .u8) (w0 := w0) w0.heap.size rfl (.tmp 42) (.tmp 43) 40 5 (.int .u8 0) 1 rfl Try.underlying40 info5 rfl Z2 Z5 u0 x0_1 93 [.int .u8 93] (fun k_ => (P0_ k_ ∨ w.heap.size ≤ k_)) (fun _ => False) rfl rfl ?aP (fun _ hk => hk.elim) ?aF ?aO ?aB ?aS ?aL ?_; (case aP => exact rfl); (case aB => exact Z32); (case aF => exact (fun k_ hk => (.inr (Nat.le_trans Z133 hk)))); (case aO => exact (pR HO_0.out)); (case aS => exact (below_size Z32)); (case aL => have := LMc30.out; omega); intro v651 w31 ho hb hg hat; rw [← Ny650.out] at ho; have n0_ := Aside0.mk (Kd.V_afterv (ok := (fun k_ => ((P0_ k_ ∨ P2_4_ k_) ∨ w.heap.size ≤ k_) ∧ k_ ≠ gb629)) (by (with_reducible repeat (first | apply Kd.V_alloc | apply Kd.V_drewN | apply Kd.V_drew)); exact Kd.V_mono HO_630004.out (fun _ hk => ⟨⟨hk.1, hk.2.2⟩, hk.2.1⟩)) hg hat); have n1_ := Aside0.mk (blk_grown (g := gb629) (o := .cells #[.int .i64 a2_0, .int .i64 a2_1, .int .i64 a2_2, .slice A2_3 l2_3.length c2_3, .slice A2_4 l2_4.length c2_4] 28 (0, 0)) (pB BK629.out) hg (Kd.R_ne HO_0.out BK629.out Z2)); have n2_ := Aside0.mk (hb); have n3_ := Aside0.mk (Kept.of_grown (S := (fun k_ => P0_ k_)) hg Z30 (fun k_ e_ => (HO_0.out.1 k_ e_))); have n4_ := Aside0.mk (ho); clear HO_630004; clear BK629; clear HB; clear HK; clear HO_0; have HO_630004 := n0_; have BK629 := n1_; have HB := n2_; have HK := n3_; have HO652 := n4_; clear n0_ n1_ n2_ n3_ n4_; clear ho hb hg hat))
  go_ret
  exact ⟨_, Z12, pR HO652.out, Z32, Z30⟩
 rw [if_pos c11] at H
 have c11b0 := decide_eq_true c11
 clear c11
 by_cases c12 : x25_1 > 0
 rotate_left
 ·
  rw [if_neg c12] at H
  have c12b0 := decide_eq_false c12
  clear c12
  by_cases c24 : 0 ≤ x25_1
  rotate_left
  ·
   rw [if_neg c24] at H
   exact absurd H Z4
  rw [if_pos c24] at H
  have c24b0 := decide_eq_true c24
  clear c24
  by_cases c25 : x25_1 < (l2_4.length : Int)
  rotate_left
  ·
   rw [if_neg c25] at H
   exact absurd H Z4
  rw [if_pos c25] at H
  have c25b0 := decide_eq_true c25
  clear c25
  replace H := Option.bind_eq_some_iff.mp H
  obtain ⟨t647, A260, H⟩ := H
  have A26 := Aside0.mk A260
  clear A260
  have H' := Aside0.mk H
  clear H
  have hcz27_0 : wr.cell? ⟨gb629, 0, none⟩ = some (.int .i64 a2_0) := (blk_cell BK629.out 0).trans rfl
  have hcz27_1 : wr.cell? ⟨gb629, 1, none⟩ = some (.int .i64 a2_1) := (blk_cell BK629.out 1).trans rfl
  have hcz27_2 : wr.cell? ⟨gb629, 2, none⟩ = some (.int .i64 a2_2) := (blk_cell BK629.out 2).trans rfl
  have hcz27_3 : wr.cell? ⟨gb629, 3, none⟩ = some (.slice A2_3 l2_3.length c2_3) := (blk_cell BK629.out 3).trans rfl
  have hcz27_4 : wr.cell? ⟨gb629, 4, none⟩ = some (.slice A2_4 l2_4.length c2_4) := (blk_cell BK629.out 4).trans rfl
  have hfz27_0 := blk_frozen BK629.out 0
  have hfz27_1 := blk_frozen BK629.out 1
  have hfz27_2 := blk_frozen BK629.out 2
  have hfz27_3 := blk_frozen BK629.out 3
  have hfz27_4 := blk_frozen BK629.out 4
  have p646 : 0 ≤ (x25_1 : Int) := of_decide_eq_true Z0
  have q646 : x25_1 < (l2_4.length : Int) := of_decide_eq_true Z0
  obtain ⟨ad646, A646_3, c646_3, A646_4, c646_4, e646, hx646_0, hx646_1, hx646_2, hx646_3, hx646_4, hl646_3, hi646_3, hl646_4, hi646_4⟩ := at_T28 (Kd.V_reads' HO_630004.out).2.2 x25_1 p646 q646
  cases e646
  obtain ⟨ce646, hce646, hMe646, hcc646⟩ := Kd.V_get HO_630004.out z28 x25_1 p646 (by first | exact q646 | exact of_decide_eq_true Z0 | (have e_ := (Kd.V_reads' HO_630004.out).1; omega))
  obtain ⟨ua646_3, uc646_3, ua646_4, uc646_4, rfl, ul646_3, ge646_3, ul646_4, ge646_4⟩ := k28_openF hMe646
  have hv646_3 := hcc646 3 _ rfl
  rw [add_field _ _ 3 Z5] at hv646_3
  replace hv646_3 := Option.some.inj (hv646_3.symm.trans hx646_3)
  injection hv646_3 with hva_ hvn_ hvc_
  rw [hva_] at ge646_3
  rw [hvc_] at ul646_3
  have HL646_3 := Aside0.mk (show Kd.V k55 55 _ w0.heap.size _ _ ((rd_T28 l2_4 x25_1).f3) from Kd.V_mk ul646_3 ge646_3)
  clear hva_ hvn_ hvc_ ge646_3 ul646_3
  have hv646_4 := hcc646 4 _ rfl
  rw [add_field _ _ 4 Z5] at hv646_4
  replace hv646_4 := Option.some.inj (hv646_4.symm.trans hx646_4)
  injection hv646_4 with hva_ hvn_ hvc_
  rw [hva_] at ge646_4
  rw [hvc_] at ul646_4
  have HL646_4 := Aside0.mk (show Kd.V k28 28 _ w0.heap.size _ _ ((rd_T28 l2_4 x25_1).f4) from Kd.V_mk ul646_4 ge646_4)
  clear hva_ hvn_ hvc_ ge646_4 ul646_4; clear hcc646 hce646
  have HR646_3 := Aside0.mk hi646_3
  have HC646_3 := Aside0.mk hl646_3
  clear hi646_3 hl646_3
  have HR646_4 := Aside0.mk hi646_4
  have HC646_4 := Aside0.mk hl646_4
  clear hi646_4 hl646_4
  replace p646 := eq_true p646
  replace q646 := eq_true q646
  obtain ⟨Ao28, co28, eo28⟩ := Kd.R_slice HO_0.out
  subst eo28
  go_wp2_with (first | ((with_reducible refine gate_callee (f := 22) rfl ?_); refine goesL_ (some 40) rfl rfl Try.func22 Z1 rfl #[.slice Ao28 x0_1.length co28, .string a1, .agg #[.int .i64 ((rd_T28 l2_4 x25_1).f0), .int .i64 ((rd_T28 l2_4 x25_1).f1), .int .i64 ((rd_T28 l2_4 x25_1).f2), .slice A646_3 ((rd_T28 l2_4 x25_1).f3).length c646_3, .slice A646_4 ((rd_T28 l2_4 x25_1).f4).length c646_4]] rfl Z13 ?_; (with_reducible refine (ih k1 Z27 (fun k_ => some k_ = (.slice Ao28 x0_1.length co28 : Value).ownBlock) (.slice Ao28 x0_1.length co28) x0_1 a1 ((rd_T28 l2_4 x25_1).f0) ((rd_T28 l2_4 x25_1).f1) ((rd_T28 l2_4 x25_1).f2) _ _ ((rd_T28 l2_4 x25_1).f3) (fun k_ => (((P0_ k_ ∨ P2_4_ k_) ∨ w.heap.size ≤ k_) ∧ (some k_ ≠ (.slice Ao28 x0_1.length co28 : Value).ownBlock ∧ k_ ≠ gb629))) _ _ ((rd_T28 l2_4 x25_1).f4) t647 w0 _ ?side1 ?side2 ?side3 ?side4 ?side5 A26.out).mono ?_); (case side1 => exact Z32); (case side2 => exact Z36); (case side3 => exact Kd.C_kept_ownV (HL646_3.out) (fun k_ hk_ hs_ => (hk_.2.1) hs_)); (case side4 => exact HC646_3.out); (case side5 => exact Kd.V_mono (HL646_4.out) (fun k_ hk_ => ⟨hk_, hk_.2.1⟩)); rintro e w29 ⟨v648, rfl, ho0, hb, hkp⟩; refine ⟨_, rfl, ?_⟩; have n0_ := Aside0.mk (Kd.V_mono (ok' := fun k_ => ((P0_ k_ ∨ P2_4_ k_) ∨ w.heap.size ≤ k_) ∧ k_ ≠ gb629 ∧ some k_ ≠ (v648 : Value).ownBlock) (Kd.V_keptB (HO_630004.out) hkp (fun k_ hk_ hs_ => (hk_.2.1) hs_)) (fun k_ hk_ => ⟨hk_.1.1, hk_.1.2.2, fun e_ => Or.elim (ho0.1 k_ e_.symm) (fun hs_ => hk_.2.1 hs_) (fun hn_ => Nat.not_le.2 hk_.2.2 hn_)⟩)); have n1_ := Aside0.mk (blk_kept (pB BK629.out) hkp (fun hs_ => (fun e_ => (Kd.R_ne HO_0.out BK629.out Z2) e_) hs_)); have n2_ := Aside0.mk (Kd.R_mono (ok' := fun k_ => (P0_ k_ ∨ w.heap.size ≤ k_)) ho0 (fun k_ hk_ => Or.elim hk_ (fun hs_ => (HO_0.out.1 k_ (hs_).symm)) (fun hn_ => (.inr (Nat.le_trans Z133 hn_))))); have n3_ := Aside0.mk (Kept.then_ (S := (fun k_ => P0_ k_)) Z30 hkp (fun k_ hs_ => (fun e_ => (HO_0.out.1 k_ e_.symm)) hs_)); have n4_ := Aside0.mk (hb); clear HO_630004; clear BK629; clear HK; clear HB; clear HO_0; clear HL646_3; clear HL646_4; have HO_630004 := n0_; have BK629 := n1_; have HO649 := n2_; have HK := n3_; have HB := n4_; clear n0_ n1_ n2_ n3_ n4_; (try clear hb); (try clear hkp); (try clear ho0)))
  go_roundg k1
  case measure => have := HK1.out; omega
  case rel => exact ⟨(t647), (wrap64 (x25_1 + 1)), Z8, H', ⟨Z27⟩, ⟨pR HO649.out⟩, ⟨by (with_reducible repeat (first | apply Kd.V_alloc | apply Kd.V_drewN | apply Kd.V_drew)); exact Kd.V_mono HO_630004.out (fun _ hk => ⟨hk.1, ⟨hk.2.2, hk.2.1⟩⟩)⟩, ⟨pB BK629.out⟩, ⟨Z30⟩, ⟨Z32⟩⟩
 rw [if_pos c12] at H
 have c12b0 := decide_eq_true c12
 clear c12
 obtain ⟨y636, hy636⟩ : ∃ y_ : List Int, y_ = (([44, 32] : List Int)) := ⟨_, rfl⟩
 first | replace H := bind_y hy636 H | rw [← hy636] at H
 have Ny636 := Aside0.mk hy636
 clear hy636
 by_cases c13 : x0_1.length + y636.length < 140737488355328
 rotate_left
 ·
  rw [if_neg c13] at H
  exact absurd H Z4
 rw [if_pos c13] at H
 have LMc13 := Aside0.mk c13
 clear c13
 obtain ⟨y639, hy639⟩ : ∃ y_ : List Int, y_ = (x0_1 ++ y636) := ⟨_, rfl⟩
 first | replace H := bind_y hy639 H | rw [← hy639] at H
 have Ny639 := Aside0.mk hy639
 clear hy639
 by_cases c14 : 0 ≤ x25_1
 rotate_left
 ·
  rw [if_neg c14] at H
  exact absurd H Z4
 rw [if_pos c14] at H
 have c14b0 := decide_eq_true c14
 clear c14
 by_cases c15 : x25_1 < (l2_4.length : Int)
 rotate_left
 ·
  rw [if_neg c15] at H
  exact absurd H Z4
 rw [if_pos c15] at H
 have c15b0 := decide_eq_true c15
 clear c15
 replace H := Option.bind_eq_some_iff.mp H
 obtain ⟨t643, A160, H⟩ := H
 have A16 := Aside0.mk A160
 clear A160
 have H' := Aside0.mk H
 clear H
 go_wp2_with (first | ((with_reducible refine gate_dst (N := 31) rfl ?_); refine Kd.R_lit (Kd.int .u8) _ 5 ?hg (N := 31) ?hd (xs := ([44, 32] : List Int)) (inner := [.int .u8 44, .int .u8 32]) (ok := fun _ => True) (okp := fun _ => True) ?hr ?hp (fun _ hk => hk) trivial (Below.refl _ _) (Nat.le_refl _) Z4 ?_; (case hd => exact Z3); (case hg => exact Z3); (case hr => exact Z19); (case hp => exact (Reps.one (show Kd.M (Kd.int .u8) _ _ _ 44 [.int .u8 44] from rfl) (Reps.one (show Kd.M (Kd.int .u8) _ _ _ 32 [.int .u8 32] from rfl) (Reps.none _ _)))); intro v637 w17 ho18 hb hg_ hnew_; clear hg_ hnew_; (first | rw [← Ny636.out] at ho18 | (simp only [Int.reduceToNat] at ho18; rw [← Ny636.out] at ho18)); have n0_ := Aside0.mk (Kd.R_elder' (pR HO_0.out) (Kd.R_base ho18) hb); have n1_ := Aside0.mk (Kd.V_elder' (pV HO_630004.out) (Kd.R_base ho18) hb); have n2_ := Aside0.mk (Kd.R_lower (Kd.R_new' (Kd.R_newM (M := fun k_ => (P0_ k_ ∨ w.heap.size ≤ k_)) ho18 Z133 (fun k_ h_ => .inr h_)) (Kd.R_lt (pR HO_0.out))) (below_size Z32)); have n3_ := Aside0.mk (blk_below (g := gb629) (o := .cells #[.int .i64 a2_0, .int .i64 a2_1, .int .i64 a2_2, .slice A2_3 l2_3.length c2_3, .slice A2_4 l2_4.length c2_4] 28 (0, 0)) (pB BK629.out) hb); have n4_ := Aside0.mk (Kept.below (S := (fun k_ => P0_ k_)) Z30 hb); have n5_ := Aside0.mk (below_step Z32 hb); clear HO_0; clear HO_630004; clear BK629; clear HK; clear HB; have HO_0 := n0_; have HO_630004 := n1_; have HO638 := n2_; have BK629 := n3_; have HK := n4_; have HB := n5_; clear n0_ n1_ n2_ n3_ n4_ n5_; clear hb ho18; obtain ⟨Ao20, co20, eo20⟩ := Kd.R_slice HO638.out; subst eo20) | ((with_reducible refine gate_builtin (b := .append) (xs := #[.tmp 30, .tmp 31]) rfl ?_); at_builtin; refine Kd.R_append_rows (Kd.int .u8) (w0 := w0) w0.heap.size rfl (.tmp 30) (.tmp 31) 40 5 (.int .u8 0) 1 rfl Try.underlying40 info5 rfl Z2 Z5 u0 x0_1 y636 _ _ _ (fun k_ => (P0_ k_ ∨ w.heap.size ≤ k_) ∧ some k_ ≠ (.slice Ao20 y636.length co20 : Value).ownBlock) (fun _ => False) rfl rfl ?aO ?aR (fun _ _ h => h) (fun _ h => h.elim) ?aF ?aB ?aS ?aL ?_; (case aR => repeat (first | exact (Kd.R_reads' HO638.out).2.2 | (with_reducible refine Kd.C_alloc ?_ _) | (with_reducible refine Kd.C_drewN ?_ _) | (with_reducible refine Kd.C_drew ?_))); (case aB => exact Z32); (case aF => exact (fun k_ hk => ⟨(.inr (Nat.le_trans Z133 hk)), Kd.fresh' (Kd.R_lt (pR HO638.out)) k_ hk⟩)); (case aO => exact (pR HO_0.out)); (case aS => exact (below_size Z32)); (case aL => have := LMc13.out; omega); intro v640 w19 ho hb hg hat; rw [← Ny639.out] at ho; have n0_ := Aside0.mk (Kd.V_afterv (ok := (fun k_ => ((P0_ k_ ∨ P2_4_ k_) ∨ w.heap.size ≤ k_) ∧ some k_ ≠ (.slice Ao20 y636.length co20 : Value).ownBlock ∧ k_ ≠ gb629)) (by (with_reducible repeat (first | apply Kd.V_alloc | apply Kd.V_drewN | apply Kd.V_drew)); exact Kd.V_mono HO_630004.out (fun _ hk => ⟨⟨hk.1.1, ⟨hk.2, hk.1.2.2⟩⟩, hk.1.2.1⟩)) hg hat); have n1_ := Aside0.mk (blk_grown (g := gb629) (o := .cells #[.int .i64 a2_0, .int .i64 a2_1, .int .i64 a2_2, .slice A2_3 l2_3.length c2_3, .slice A2_4 l2_4.length c2_4] 28 (0, 0)) (pB BK629.out) hg (Kd.R_ne HO_0.out BK629.out Z2)); have n2_ := Aside0.mk (Kd.R_after (ok := (fun k_ => (P0_ k_ ∨ w.heap.size ≤ k_))) (by (with_reducible repeat (first | apply Kd.R_alloc | apply Kd.R_drewN | apply Kd.R_drew)); exact Kd.R_mono HO638.out (fun _ hk => ⟨hk.1.1, hk.2⟩)) hg hat); have n3_ := Aside0.mk (hb); have n4_ := Aside0.mk (Kept.of_grown (S := (fun k_ => P0_ k_)) hg Z30 (fun k_ e_ => (HO_0.out.1 k_ e_).1)); have n5_ := Aside0.mk (ho); clear HO_630004; clear BK629; clear HO638; clear HB; clear HK; clear HO_0; have HO_630004 := n0_; have BK629 := n1_; have HO638 := n2_; have HB := n3_; have HK := n4_; have HO641 := n5_; clear n0_ n1_ n2_ n3_ n4_ n5_; clear ho hb hg hat; have hcz21_0 : w19.cell? ⟨gb629, 0, none⟩ = some (.int .i64 a2_0) := (blk_cell BK629.out 0).trans rfl; have hcz21_1 : w19.cell? ⟨gb629, 1, none⟩ = some (.int .i64 a2_1) := (blk_cell BK629.out 1).trans rfl; have hcz21_2 : w19.cell? ⟨gb629, 2, none⟩ = some (.int .i64 a2_2) := (blk_cell BK629.out 2).trans rfl; have hcz21_3 : w19.cell? ⟨gb629, 3, none⟩ = some (.slice A2_3 l2_3.length c2_3) := (blk_cell BK629.out 3).trans rfl; have hcz21_4 : w19.cell? ⟨gb629, 4, none⟩ = some (.slice A2_4 l2_4.length c2_4) := (blk_cell BK629.out 4).trans rfl; have hfz21_0 := blk_frozen BK629.out 0; have hfz21_1 := blk_frozen BK629.out 1; have hfz21_2 := blk_frozen BK629.out 2; have hfz21_3 := blk_frozen BK629.out 3; have hfz21_4 := blk_frozen BK629.out 4; have p642 : 0 ≤ (x25_1 : Int) := of_decide_eq_true Z0; have q642 : x25_1 < (l2_4.length : Int) := of_decide_eq_true Z0; obtain ⟨ad642, A642_3, c642_3, A642_4, c642_4, e642, hx642_0, hx642_1, hx642_2, hx642_3, hx642_4, hl642_3, hi642_3, hl642_4, hi642_4⟩ := at_T28 (Kd.V_reads' HO_630004.out).2.2 x25_1 p642 q642; cases e642; obtain ⟨ce642, hce642, hMe642, hcc642⟩ := Kd.V_get HO_630004.out z28 x25_1 p642 (by first | exact q642 | exact of_decide_eq_true Z0 | (have e_ := (Kd.V_reads' HO_630004.out).1; omega)); obtain ⟨ua642_3, uc642_3, ua642_4, uc642_4, rfl, ul642_3, ge642_3, ul642_4, ge642_4⟩ := k28_openF hMe642; have hv642_3 := hcc642 3 _ rfl; rw [add_field _ _ 3 Z5] at hv642_3; replace hv642_3 := Option.some.inj (hv642_3.symm.trans hx642_3); injection hv642_3 with hva_ hvn_ hvc_; rw [hva_] at ge642_3; rw [hvc_] at ul642_3; have HL642_3 := Aside0.mk (show Kd.V k55 55 _ w0.heap.size _ _ ((rd_T28 l2_4 x25_1).f3) from Kd.V_mk ul642_3 ge642_3); clear hva_ hvn_ hvc_ ge642_3 ul642_3; have hv642_4 := hcc642 4 _ rfl; rw [add_field _ _ 4 Z5] at hv642_4; replace hv642_4 := Option.some.inj (hv642_4.symm.trans hx642_4); injection hv642_4 with hva_ hvn_ hvc_; rw [hva_] at ge642_4; rw [hvc_] at ul642_4; have HL642_4 := Aside0.mk (show Kd.V k28 28 _ w0.heap.size _ _ ((rd_T28 l2_4 x25_1).f4) from Kd.V_mk ul642_4 ge642_4); clear hva_ hvn_ hvc_ ge642_4 ul642_4; clear hcc642 hce642; have HR642_3 := Aside0.mk hi642_3; have HC642_3 := Aside0.mk hl642_3; clear hi642_3 hl642_3; have HR642_4 := Aside0.mk hi642_4; have HC642_4 := Aside0.mk hl642_4; clear hi642_4 hl642_4; replace p642 := eq_true p642; replace q642 := eq_true q642; obtain ⟨Ao22, co22, eo22⟩ := Kd.R_slice HO641.out; subst eo22) | ((with_reducible refine gate_callee (f := 22) rfl ?_); refine goesL_ (some 40) rfl rfl Try.func22 Z1 rfl #[.slice Ao22 y639.length co22, .string a1, .agg #[.int .i64 ((rd_T28 l2_4 x25_1).f0), .int .i64 ((rd_T28 l2_4 x25_1).f1), .int .i64 ((rd_T28 l2_4 x25_1).f2), .slice A642_3 ((rd_T28 l2_4 x25_1).f3).length c642_3, .slice A642_4 ((rd_T28 l2_4 x25_1).f4).length c642_4]] rfl Z13 ?_; (with_reducible refine (ih k1 Z27 (fun k_ => some k_ = (.slice Ao22 y639.length co22 : Value).ownBlock) (.slice Ao22 y639.length co22) y639 a1 ((rd_T28 l2_4 x25_1).f0) ((rd_T28 l2_4 x25_1).f1) ((rd_T28 l2_4 x25_1).f2) _ _ ((rd_T28 l2_4 x25_1).f3) (fun k_ => ((((P0_ k_ ∨ P2_4_ k_) ∨ w.heap.size ≤ k_) ∧ (some k_ ≠ (.slice Ao20 y636.length co20 : Value).ownBlock ∧ k_ ≠ gb629)) ∧ some k_ ≠ (.slice Ao22 y639.length co22 : Value).ownBlock)) _ _ ((rd_T28 l2_4 x25_1).f4) t643 w0 _ ?side1 ?side2 ?side3 ?side4 ?side5 A16.out).mono ?_); (case side1 => exact Z32); (case side2 => exact Kd.R_tight rfl HO641.out); (case side3 => exact Kd.C_kept_ownV (HL642_3.out) (fun k_ hk_ hs_ => (hk_.2) hs_)); (case side4 => exact HC642_3.out); (case side5 => exact Kd.V_mono (HL642_4.out) (fun k_ hk_ => ⟨hk_, hk_.2⟩)); rintro e w23 ⟨v644, rfl, ho0, hb, hkp⟩; refine ⟨_, rfl, ?_⟩; have n0_ := Aside0.mk (Kd.V_mono (ok' := fun k_ => ((P0_ k_ ∨ P2_4_ k_) ∨ w.heap.size ≤ k_) ∧ some k_ ≠ (.slice Ao20 y636.length co20 : Value).ownBlock ∧ k_ ≠ gb629 ∧ some k_ ≠ (v644 : Value).ownBlock) (Kd.V_keptB (HO_630004.out) hkp (fun k_ hk_ hs_ => (hk_.2) hs_)) (fun k_ hk_ => ⟨hk_.1.1.1, hk_.1.1.2.1, hk_.1.1.2.2, fun e_ => Or.elim (ho0.1 k_ e_.symm) (fun hs_ => hk_.2.1 hs_) (fun hn_ => Nat.not_le.2 hk_.2.2 hn_)⟩)); have n1_ := Aside0.mk (blk_kept (pB BK629.out) hkp (fun hs_ => (fun e_ => (Kd.R_ne HO641.out BK629.out Z2) e_) hs_)); have n2_ := Aside0.mk (Kd.R_mono (ok' := fun k_ => (P0_ k_ ∨ w.heap.size ≤ k_) ∧ some k_ ≠ (v644 : Value).ownBlock) (Kd.R_keptB (HO638.out) hkp (fun k_ hk_ hs_ => (hk_.2) hs_)) (fun k_ hk_ => ⟨hk_.1.1, fun e_ => Or.elim (ho0.1 k_ e_.symm) (fun hs_ => hk_.2.1 hs_) (fun hn_ => Nat.not_le.2 hk_.2.2 hn_)⟩)); have n3_ := Aside0.mk (Kd.R_mono (ok' := fun k_ => (P0_ k_ ∨ w.heap.size ≤ k_) ∧ some k_ ≠ (.slice Ao20 y636.length co20 : Value).ownBlock) ho0 (fun k_ hk_ => ⟨Or.elim hk_ (fun hs_ => (HO641.out.1 k_ (hs_).symm).1) (fun hn_ => (.inr (Nat.le_trans Z133 hn_))), Or.elim hk_ (fun hs_ => fun e_ => (((HO638.out).1 k_ e_.symm).2) hs_) (fun hn_ => (Kd.fresh' (Kd.R_lt (pR HO638.out)) k_ hn_))⟩)); have n4_ := Aside0.mk (Kept.then_ (S := (fun k_ => P0_ k_)) Z30 hkp (fun k_ hs_ => (fun e_ => (HO641.out.1 k_ e_.symm).1) hs_)); have n5_ := Aside0.mk (hb); clear HO_630004; clear BK629; clear HO638; clear HK; clear HB; clear HO641; clear HL642_3; clear HL642_4; have HO_630004 := n0_; have BK629 := n1_; have HO638 := n2_; have HO645 := n3_; have HK := n4_; have HB := n5_; clear n0_ n1_ n2_ n3_ n4_ n5_; (try clear hb); (try clear hkp); (try clear ho0)))
 go_roundg k1
 case measure => have := HK1.out; omega
 case rel => exact ⟨(t643), (wrap64 (x25_1 + 1)), Z8, H', ⟨Z27⟩, ⟨by (with_reducible repeat (first | apply Kd.R_alloc | apply Kd.R_drewN | apply Kd.R_drew)); exact Kd.R_mono HO645.out (fun _ hk => hk.1)⟩, ⟨by (with_reducible repeat (first | apply Kd.V_alloc | apply Kd.V_drewN | apply Kd.V_drew)); exact Kd.V_mono HO_630004.out (fun _ hk => ⟨hk.1, ⟨hk.2.2.2, hk.2.2.1⟩⟩)⟩, ⟨pB BK629.out⟩, ⟨Z30⟩, ⟨Z32⟩⟩

/-! ### the ring of spec_Layout_elements, spec_Layout_value -/
mutual
def spec_Layout_elements.l0 : Nat → List Int → ByteArray → ByteArray → ByteArray → Int → Int → Int → ByteArray → ByteArray → Int → Int → Int → Int → List (S55) → List (S28) → Option (List Int)
 | 0, _, _, _, _, _, _, _, _, _, _, _, _, _, _, _ => none
 | k + 1, x1, x2, x4, x11, x12, x26, x27, x654000, x654001, x654002, x655000, x655001, x655002, x655003, x655004 => if x27 < x26 then (if x27 > 0 then (if x1.length < 140737488355328 then ((some (x1 ++ [44] : List Int)).bind fun y658 => (if y658.length < 140737488355328 then ((some (y658 ++ [10] : List Int)).bind fun y661 => (if y661.length + x11.size < 140737488355328 then (if 0 ≤ x27 then (if x27 < (x655004.length : Int) then ((spec_Layout_value.f k x654000 x654001 x654002 (y661 ++ bytesOf x11) x2 ((rd_T28 x655004 x27).f0) ((rd_T28 x655004 x27).f1) ((rd_T28 x655004 x27).f2) ((rd_T28 x655004 x27).f3) ((rd_T28 x655004 x27).f4) x11 (x11.size : Int)).bind fun t668 => (spec_Layout_elements.l0 k t668 x2 x4 x11 (x11.size : Int) x26 (wrap64 (x27 + 1)) x654000 x654001 x654002 x655000 x655001 x655002 x655003 x655004)) else (none)) else (none)) else (none))) else (none))) else (none)) else (if x1.length < 140737488355328 then ((some (x1 ++ [10] : List Int)).bind fun y671 => (if y671.length + x11.size < 140737488355328 then (if 0 ≤ x27 then (if x27 < (x655004.length : Int) then ((spec_Layout_value.f k x654000 x654001 x654002 (y671 ++ bytesOf x11) x2 ((rd_T28 x655004 x27).f0) ((rd_T28 x655004 x27).f1) ((rd_T28 x655004 x27).f2) ((rd_T28 x655004 x27).f3) ((rd_T28 x655004 x27).f4) x11 x12).bind fun t678 => (spec_Layout_elements.l0 k t678 x2 x4 x11 x12 x26 (wrap64 (x27 + 1)) x654000 x654001 x654002 x655000 x655001 x655002 x655003 x655004)) else (none)) else (none)) else (none))) else (none))) else (if x1.length < 140737488355328 then ((some (x1 ++ [10] : List Int)).bind fun y681 => (if y681.length + x4.size < 140737488355328 then ((some (y681 ++ bytesOf x4 : List Int)).bind fun y684 => (if y684.length < 140737488355328 then (some (y684 ++ [93])) else (none))) else (none))) else (none))
def spec_Layout_elements.f : Nat → ByteArray → ByteArray → Int → List Int → ByteArray → Int → Int → Int → List (S55) → List (S28) → ByteArray → Option (List Int)
 | 0, _, _, _, _, _, _, _, _, _, _, _ => none
 | k + 1, a0_0, a0_1, a0_2, l1, a2, a3_0, a3_1, a3_2, l3_3, l3_4, a4 => if a4.size + a0_1.size ≤ 9223372036854775807 then (if l1.length < 140737488355328 then (spec_Layout_elements.l0 k (l1 ++ [91]) a2 a4 (a4 ++ a0_1) (wrap64 (((a4 ++ a0_1).size : Int) + 1)) (l3_4.length : Int) 0 a0_0 a0_1 a0_2 a3_0 a3_1 a3_2 l3_3 l3_4) else (none)) else (none)
def spec_Layout_value.j0 : Nat → List Int → ByteArray → ByteArray → Int → Bool → ByteArray → ByteArray → Int → Int → Int → Int → List (S55) → List (S28) → Option (List Int)
 | 0, _, _, _, _, _, _, _, _, _, _, _, _, _ => none
 | k + 1, x1, x2, x4, x13, x41, x691000, x691001, x691002, x692000, x692001, x692002, x692003, x692004 => if x41 = true then ((spec_lineTo.f k ([] : List Int) x2 x692000 x692001 x692002 x692003 x692004).bind fun t696 => (if (t696.length : Int) ≤ x13 then (if x1.length + t696.length < 140737488355328 then (some (x1 ++ t696)) else (none)) else (spec_Layout_value.j1 k x1 x2 x4 x691000 x691001 x691002 x692000 x692001 x692002 x692003 x692004))) else (spec_Layout_value.j1 k x1 x2 x4 x691000 x691001 x691002 x692000 x692001 x692002 x692003 x692004)
def spec_Layout_value.j1 : Nat → List Int → ByteArray → ByteArray → ByteArray → ByteArray → Int → Int → Int → Int → List (S55) → List (S28) → Option (List Int)
 | 0, _, _, _, _, _, _, _, _, _, _, _ => none
 | k + 1, x1, x2, x4, x691000, x691001, x691002, x692000, x692001, x692002, x692003, x692004 => if x692000 = 5 then ((spec_Layout_elements.f k x691000 x691001 x691002 x1 x2 x692000 x692001 x692002 x692003 x692004 x4).bind fun t702 => (some t702)) else (if x4.size + x691001.size ≤ 9223372036854775807 then (if x1.length < 140737488355328 then (spec_Layout_value.l0 k (x1 ++ [123]) x2 x4 (x4 ++ x691001) (x692004.length : Int) 0 x691000 x691001 x691002 x692000 x692001 x692002 x692003 x692004) else (none)) else (none))
def spec_Layout_value.l0 : Nat → List Int → ByteArray → ByteArray → ByteArray → Int → Int → ByteArray → ByteArray → Int → Int → Int → Int → List (S55) → List (S28) → Option (List Int)
 | 0, _, _, _, _, _, _, _, _, _, _, _, _, _, _ => none
 | k + 1, x1, x2, x4, x15, x70, x71, x691000, x691001, x691002, x692000, x692001, x692002, x692003, x692004 => if x71 < x70 then (if x71 > 0 then (if x1.length < 140737488355328 then ((some (x1 ++ [44] : List Int)).bind fun y708 => (if 0 ≤ x71 then (if x71 < (x692003.length : Int) then (if 0 ≤ ((rd_T55 x692003 x71).f0) then (if ((rd_T55 x692003 x71).f0) ≤ ((rd_T55 x692003 x71).f1) then (if ((rd_T55 x692003 x71).f1) ≤ (x2.size : Int) then (if y708.length < 140737488355328 then ((some (y708 ++ [10] : List Int)).bind fun y713 => (if y713.length + x15.size < 140737488355328 then ((some (y713 ++ bytesOf x15 : List Int)).bind fun y716 => (if y716.length + (x2.extract (((rd_T55 x692003 x71).f0) : Int).toNat (((rd_T55 x692003 x71).f1) : Int).toNat).size < 140737488355328 then ((some (y716 ++ bytesOf (x2.extract (((rd_T55 x692003 x71).f0) : Int).toNat (((rd_T55 x692003 x71).f1) : Int).toNat) : List Int)).bind fun y719 => ((some (([58, 32] : List Int) : List Int)).bind fun y722 => (if y719.length + y722.length < 140737488355328 then (if x71 < (x692004.length : Int) then ((spec_Layout_value.f k x691000 x691001 x691002 (y719 ++ y722) x2 ((rd_T28 x692004 x71).f0) ((rd_T28 x692004 x71).f1) ((rd_T28 x692004 x71).f2) ((rd_T28 x692004 x71).f3) ((rd_T28 x692004 x71).f4) x15 (wrap64 ((wrap64 ((x15.size : Int) + ((x2.extract (((rd_T55 x692003 x71).f0) : Int).toNat (((rd_T55 x692003 x71).f1) : Int).toNat).size : Int))) + 3))).bind fun t729 => (spec_Layout_value.l0 k t729 x2 x4 x15 x70 (wrap64 (x71 + 1)) x691000 x691001 x691002 x692000 x692001 x692002 x692003 x692004)) else (none)) else (none)))) else (none))) else (none))) else (none)) else (none)) else (none)) else (none)) else (none)) else (none))) else (none)) else (if 0 ≤ x71 then (if x71 < (x692003.length : Int) then (if 0 ≤ ((rd_T55 x692003 x71).f0) then (if ((rd_T55 x692003 x71).f0) ≤ ((rd_T55 x692003 x71).f1) then (if ((rd_T55 x692003 x71).f1) ≤ (x2.size : Int) then (if x1.length < 140737488355328 then ((some (x1 ++ [10] : List Int)).bind fun y734 => (if y734.length + x15.size < 140737488355328 then ((some (y734 ++ bytesOf x15 : List Int)).bind fun y737 => (if y737.length + (x2.extract (((rd_T55 x692003 x71).f0) : Int).toNat (((rd_T55 x692003 x71).f1) : Int).toNat).size < 140737488355328 then ((some (y737 ++ bytesOf (x2.extract (((rd_T55 x692003 x71).f0) : Int).toNat (((rd_T55 x692003 x71).f1) : Int).toNat) : List Int)).bind fun y740 => ((some (([58, 32] : List Int) : List Int)).bind fun y743 => (if y740.length + y743.length < 140737488355328 then (if x71 < (x692004.length : Int) then ((spec_Layout_value.f k x691000 x691001 x691002 (y740 ++ y743) x2 ((rd_T28 x692004 x71).f0) ((rd_T28 x692004 x71).f1) ((rd_T28 x692004 x71).f2) ((rd_T28 x692004 x71).f3) ((rd_T28 x692004 x71).f4) x15 (wrap64 ((wrap64 ((x15.size : Int) + ((x2.extract (((rd_T55 x692003 x71).f0) : Int).toNat (((rd_T55 x692003 x71).f1) : Int).toNat).size : Int))) + 3))).bind fun t750 => (spec_Layout_value.l0 k t750 x2 x4 x15 x70 (wrap64 (x71 + 1)) x691000 x691001 x691002 x692000 x692001 x692002 x692003 x692004)) else (none)) else (none)))) else (none))) else (none))) else (none)) else (none)) else (none)) else (none)) else (none)) else (none))) else (if x1.length < 140737488355328 then ((some (x1 ++ [10] : List Int)).bind fun y753 => (if y753.length + x4.size < 140737488355328 then ((some (y753 ++ bytesOf x4 : List Int)).bind fun y756 => (if y756.length < 140737488355328 then (some (y756 ++ [125])) else (none))) else (none))) else (none))
def spec_Layout_value.f : Nat → ByteArray → ByteArray → Int → List Int → ByteArray → Int → Int → Int → List (S55) → List (S28) → ByteArray → Int → Option (List Int)
 | 0, _, _, _, _, _, _, _, _, _, _, _, _ => none
 | k + 1, a0_0, a0_1, a0_2, l1, a2, a3_0, a3_1, a3_2, l3_3, l3_4, a4, a5 => if (l3_4.length : Int) = 0 then ((spec_bareTo.f k l1 a2 a3_0 a3_1 a3_2 l3_3 l3_4).bind fun t692 => (some t692)) else (if a0_2 > 0 then (if (wrap64 (a0_2 - a5)) > 3 then ((spec_objects.f k a3_0 a3_1 a3_2 l3_3 l3_4).bind fun t695 => (spec_Layout_value.j0 k l1 a2 a4 (wrap64 (a0_2 - a5)) (!t695) a0_0 a0_1 a0_2 a3_0 a3_1 a3_2 l3_3 l3_4)) else (spec_Layout_value.j0 k l1 a2 a4 (wrap64 (a0_2 - a5)) false a0_0 a0_1 a0_2 a3_0 a3_1 a3_2 l3_3 l3_4)) else (spec_Layout_value.j0 k l1 a2 a4 (wrap64 (a0_2 - a5)) false a0_0 a0_1 a0_2 a3_0 a3_1 a3_2 l3_3 l3_4))
end
theorem spec_Layout_value.mono_r : ∀ k, (∀ y0 y1 y2 y3 y4 y5 y6 y7 y8 y9 y10, LeO (spec_Layout_elements.f k y0 y1 y2 y3 y4 y5 y6 y7 y8 y9 y10) (spec_Layout_elements.f (k + 1) y0 y1 y2 y3 y4 y5 y6 y7 y8 y9 y10)) ∧ (∀ y0 y1 y2 y3 y4 y5 y6 y7 y8 y9 y10 y11 y12 y13 y14, LeO (spec_Layout_elements.l0 k y0 y1 y2 y3 y4 y5 y6 y7 y8 y9 y10 y11 y12 y13 y14) (spec_Layout_elements.l0 (k + 1) y0 y1 y2 y3 y4 y5 y6 y7 y8 y9 y10 y11 y12 y13 y14)) ∧ (∀ y0 y1 y2 y3 y4 y5 y6 y7 y8 y9 y10 y11, LeO (spec_Layout_value.f k y0 y1 y2 y3 y4 y5 y6 y7 y8 y9 y10 y11) (spec_Layout_value.f (k + 1) y0 y1 y2 y3 y4 y5 y6 y7 y8 y9 y10 y11)) ∧ (∀ y0 y1 y2 y3 y4 y5 y6 y7 y8 y9 y10 y11 y12, LeO (spec_Layout_value.j0 k y0 y1 y2 y3 y4 y5 y6 y7 y8 y9 y10 y11 y12) (spec_Layout_value.j0 (k + 1) y0 y1 y2 y3 y4 y5 y6 y7 y8 y9 y10 y11 y12)) ∧ (∀ y0 y1 y2 y3 y4 y5 y6 y7 y8 y9 y10, LeO (spec_Layout_value.j1 k y0 y1 y2 y3 y4 y5 y6 y7 y8 y9 y10) (spec_Layout_value.j1 (k + 1) y0 y1 y2 y3 y4 y5 y6 y7 y8 y9 y10)) ∧ (∀ y0 y1 y2 y3 y4 y5 y6 y7 y8 y9 y10 y11 y12 y13, LeO (spec_Layout_value.l0 k y0 y1 y2 y3 y4 y5 y6 y7 y8 y9 y10 y11 y12 y13) (spec_Layout_value.l0 (k + 1) y0 y1 y2 y3 y4 y5 y6 y7 y8 y9 y10 y11 y12 y13))
 | 0 => ⟨fun _ _ _ _ _ _ _ _ _ _ _ r h => by simp [spec_Layout_elements.f] at h, fun _ _ _ _ _ _ _ _ _ _ _ _ _ _ _ r h => by simp [spec_Layout_elements.l0] at h, fun _ _ _ _ _ _ _ _ _ _ _ _ r h => by simp [spec_Layout_value.f] at h, fun _ _ _ _ _ _ _ _ _ _ _ _ _ r h => by simp [spec_Layout_value.j0] at h, fun _ _ _ _ _ _ _ _ _ _ _ r h => by simp [spec_Layout_value.j1] at h, fun _ _ _ _ _ _ _ _ _ _ _ _ _ _ r h => by simp [spec_Layout_value.l0] at h⟩
 | k + 1 => by
  obtain ⟨ih0, ih1, ih2, ih3, ih4, ih5⟩ := spec_Layout_value.mono_r k
  refine ⟨?_, ?_, ?_, ?_, ?_, ?_⟩
  ·
   intro y0 y1 y2 y3 y4 y5 y6 y7 y8 y9 y10
   unfold spec_Layout_elements.f
   exact Z54
  ·
   intro y0 y1 y2 y3 y4 y5 y6 y7 y8 y9 y10 y11 y12 y13 y14
   unfold spec_Layout_elements.l0
   exact Z54
  ·
   intro y0 y1 y2 y3 y4 y5 y6 y7 y8 y9 y10 y11
   unfold spec_Layout_value.f
   exact Z54
  ·
   intro y0 y1 y2 y3 y4 y5 y6 y7 y8 y9 y10 y11 y12
   unfold spec_Layout_value.j0
   exact Z54
  ·
   intro y0 y1 y2 y3 y4 y5 y6 y7 y8 y9 y10
   unfold spec_Layout_value.j1
   exact Z54
  intro y0 y1 y2 y3 y4 y5 y6 y7 y8 y9 y10 y11 y12 y13
  unfold spec_Layout_value.l0
  exact Z54
theorem spec_Layout_elements.mono : ∀ a0 a1 a2 a3 a4 a5 a6 a7 a8 a9 a10 k, LeO (spec_Layout_elements.f k a0 a1 a2 a3 a4 a5 a6 a7 a8 a9 a10) (spec_Layout_elements.f (k + 1) a0 a1 a2 a3 a4 a5 a6 a7 a8 a9 a10) := fun a0 a1 a2 a3 a4 a5 a6 a7 a8 a9 a10 k => (spec_Layout_value.mono_r k).1 a0 a1 a2 a3 a4 a5 a6 a7 a8 a9 a10
theorem spec_Layout_value.mono : ∀ a0 a1 a2 a3 a4 a5 a6 a7 a8 a9 a10 a11 k, LeO (spec_Layout_value.f k a0 a1 a2 a3 a4 a5 a6 a7 a8 a9 a10 a11) (spec_Layout_value.f (k + 1) a0 a1 a2 a3 a4 a5 a6 a7 a8 a9 a10 a11) := fun a0 a1 a2 a3 a4 a5 a6 a7 a8 a9 a10 a11 k => (spec_Layout_value.mono_r k).2.2.1 a0 a1 a2 a3 a4 a5 a6 a7 a8 a9 a10 a11

end Go.Proofs.Ytffdebhaclkhjaa.PFnPrWholeDefault
