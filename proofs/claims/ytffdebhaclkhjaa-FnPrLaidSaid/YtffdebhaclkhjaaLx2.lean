-- Written by a program of the session (wip/tools) out of the translation. Not trusted: Lean checks it.
import Derived.Test.YtffdebhaclkhjaaLq
import Derived.Test.YtffdebhaclkhjaaSx0
import Derived.Test.YtffdebhaclkhjaaSx12
namespace Go.Proofs.Ytffdebhaclkhjaa.PFnPrWholeDefault
open Go.RowKit Go.Proofs.YtffdebhaclkhjaaW.PrintWords Go.Proofs.YtffdebhaclkhjaaW.PrintLast Go.Proofs.YtffdebhaclkhjaaW.PrintMore
attribute [local go_sem] max2_int min2_int max_two min_two max_three min_three max_four min_four   -- for this text's walks alone
set_option linter.unusedVariables false
set_option linter.unusedSimpArgs false

/-! ### spec_laidTo: function 14 -/
mutual
def spec_laidTo.j0 : Nat → List Int → ByteArray → ByteArray → ByteArray → Bool → Int → Int → Int → Int → Int → List (S55) → List (S28) → Option (List Int)
 | 0, _, _, _, _, _, _, _, _, _, _, _, _ => none
 | k + 1, x0, x1, x3, x4, x5, x13, x14, x659000, x659001, x659002, x659003, x659004 => if x5 = true then (none) else (if x0.length < 140737488355328 then (spec_laidTo.l0 k (x0 ++ [x13]) x1 x3 x4 false x14 (x659004.length : Int) 0 x659000 x659001 x659002 x659003 x659004) else (none))
def spec_laidTo.l0 : Nat → List Int → ByteArray → ByteArray → ByteArray → Bool → Int → Int → Int → Int → Int → Int → List (S55) → List (S28) → Option (List Int)
 | 0, _, _, _, _, _, _, _, _, _, _, _, _, _ => none
 | k + 1, x0, x1, x3, x4, x5, x14, x45, x46, x659000, x659001, x659002, x659003, x659004 => if x5 = true then (none) else (if x46 < x45 then (if x46 > 0 then (if x0.length < 140737488355328 then ((some (x0 ++ [44] : List Int)).bind fun y674 => (if y674.length < 140737488355328 then ((some (y674 ++ [10] : List Int)).bind fun y677 => (if y677.length + x3.size < 140737488355328 then ((some (y677 ++ bytesOf x3 : List Int)).bind fun y680 => (if y680.length + x4.size < 140737488355328 then ((some (y680 ++ bytesOf x4 : List Int)).bind fun y683 => (if x659000 = 6 then (if 0 ≤ x46 then (if x46 < (x659003.length : Int) then (if 0 ≤ ((rd_T55 x659003 x46).f0) then (if ((rd_T55 x659003 x46).f0) ≤ ((rd_T55 x659003 x46).f1) then (if ((rd_T55 x659003 x46).f1) ≤ (x1.size : Int) then (if y683.length + (x1.extract (((rd_T55 x659003 x46).f0) : Int).toNat (((rd_T55 x659003 x46).f1) : Int).toNat).size < 140737488355328 then ((some (y683 ++ bytesOf (x1.extract (((rd_T55 x659003 x46).f0) : Int).toNat (((rd_T55 x659003 x46).f1) : Int).toNat) : List Int)).bind fun y688 => ((some (([58, 32] : List Int) : List Int)).bind fun y691 => (if y688.length + y691.length < 140737488355328 then (if x46 < (x659004.length : Int) then (if x3.size + x4.size ≤ 9223372036854775807 then ((spec_laidTo.f k (y688 ++ y691) x1 ((rd_T28 x659004 x46).f0) ((rd_T28 x659004 x46).f1) ((rd_T28 x659004 x46).f2) ((rd_T28 x659004 x46).f3) ((rd_T28 x659004 x46).f4) (x3 ++ x4) x4).bind fun t698 => (spec_laidTo.l0 k t698 x1 x3 x4 false x14 x45 (wrap64 (x46 + 1)) x659000 x659001 x659002 x659003 x659004)) else (none)) else (none)) else (none)))) else (none)) else (none)) else (none)) else (none)) else (none)) else (none)) else (if 0 ≤ x46 then (if x46 < (x659004.length : Int) then (if x3.size + x4.size ≤ 9223372036854775807 then ((spec_laidTo.f k y683 x1 ((rd_T28 x659004 x46).f0) ((rd_T28 x659004 x46).f1) ((rd_T28 x659004 x46).f2) ((rd_T28 x659004 x46).f3) ((rd_T28 x659004 x46).f4) (x3 ++ x4) x4).bind fun t702 => (spec_laidTo.l0 k t702 x1 x3 x4 false x14 x45 (wrap64 (x46 + 1)) x659000 x659001 x659002 x659003 x659004)) else (none)) else (none)) else (none)))) else (none))) else (none))) else (none))) else (none)) else (if x0.length < 140737488355328 then ((some (x0 ++ [10] : List Int)).bind fun y705 => (if y705.length + x3.size < 140737488355328 then ((some (y705 ++ bytesOf x3 : List Int)).bind fun y708 => (if y708.length + x4.size < 140737488355328 then ((some (y708 ++ bytesOf x4 : List Int)).bind fun y711 => (if x659000 = 6 then (if 0 ≤ x46 then (if x46 < (x659003.length : Int) then (if 0 ≤ ((rd_T55 x659003 x46).f0) then (if ((rd_T55 x659003 x46).f0) ≤ ((rd_T55 x659003 x46).f1) then (if ((rd_T55 x659003 x46).f1) ≤ (x1.size : Int) then (if y711.length + (x1.extract (((rd_T55 x659003 x46).f0) : Int).toNat (((rd_T55 x659003 x46).f1) : Int).toNat).size < 140737488355328 then ((some (y711 ++ bytesOf (x1.extract (((rd_T55 x659003 x46).f0) : Int).toNat (((rd_T55 x659003 x46).f1) : Int).toNat) : List Int)).bind fun y716 => ((some (([58, 32] : List Int) : List Int)).bind fun y719 => (if y716.length + y719.length < 140737488355328 then (if x46 < (x659004.length : Int) then (if x3.size + x4.size ≤ 9223372036854775807 then ((spec_laidTo.f k (y716 ++ y719) x1 ((rd_T28 x659004 x46).f0) ((rd_T28 x659004 x46).f1) ((rd_T28 x659004 x46).f2) ((rd_T28 x659004 x46).f3) ((rd_T28 x659004 x46).f4) (x3 ++ x4) x4).bind fun t726 => (spec_laidTo.l0 k t726 x1 x3 x4 false x14 x45 (wrap64 (x46 + 1)) x659000 x659001 x659002 x659003 x659004)) else (none)) else (none)) else (none)))) else (none)) else (none)) else (none)) else (none)) else (none)) else (none)) else (if 0 ≤ x46 then (if x46 < (x659004.length : Int) then (if x3.size + x4.size ≤ 9223372036854775807 then ((spec_laidTo.f k y711 x1 ((rd_T28 x659004 x46).f0) ((rd_T28 x659004 x46).f1) ((rd_T28 x659004 x46).f2) ((rd_T28 x659004 x46).f3) ((rd_T28 x659004 x46).f4) (x3 ++ x4) x4).bind fun t730 => (spec_laidTo.l0 k t730 x1 x3 x4 false x14 x45 (wrap64 (x46 + 1)) x659000 x659001 x659002 x659003 x659004)) else (none)) else (none)) else (none)))) else (none))) else (none))) else (none))) else (if x0.length < 140737488355328 then ((some (x0 ++ [10] : List Int)).bind fun y665 => (if y665.length + x3.size < 140737488355328 then ((some (y665 ++ bytesOf x3 : List Int)).bind fun y668 => (if y668.length < 140737488355328 then (some (y668 ++ [x14])) else (none))) else (none))) else (none)))
def spec_laidTo.f : Nat → List Int → ByteArray → Int → Int → Int → List (S55) → List (S28) → ByteArray → ByteArray → Option (List Int)
 | 0, _, _, _, _, _, _, _, _, _ => none
 | k + 1, l0, a1, a2_0, a2_1, a2_2, l2_3, l2_4, a3, a4 => if (l2_4.length : Int) = 0 then ((spec_bareTo.f k l0 a1 a2_0 a2_1 a2_2 l2_3 l2_4).bind fun t659 => (some t659)) else (if a2_0 = 6 then (spec_laidTo.j0 k l0 a1 a3 a4 false 123 125 a2_0 a2_1 a2_2 l2_3 l2_4) else (spec_laidTo.j0 k l0 a1 a3 a4 false 91 93 a2_0 a2_1 a2_2 l2_3 l2_4))
end
theorem spec_laidTo.mono_l : ∀ k, (∀ y0 y1 y2 y3 y4 y5 y6 y7 y8, LeO (spec_laidTo.f k y0 y1 y2 y3 y4 y5 y6 y7 y8) (spec_laidTo.f (k + 1) y0 y1 y2 y3 y4 y5 y6 y7 y8)) ∧ (∀ y0 y1 y2 y3 y4 y5 y6 y7 y8 y9 y10 y11, LeO (spec_laidTo.j0 k y0 y1 y2 y3 y4 y5 y6 y7 y8 y9 y10 y11) (spec_laidTo.j0 (k + 1) y0 y1 y2 y3 y4 y5 y6 y7 y8 y9 y10 y11)) ∧ (∀ y0 y1 y2 y3 y4 y5 y6 y7 y8 y9 y10 y11 y12, LeO (spec_laidTo.l0 k y0 y1 y2 y3 y4 y5 y6 y7 y8 y9 y10 y11 y12) (spec_laidTo.l0 (k + 1) y0 y1 y2 y3 y4 y5 y6 y7 y8 y9 y10 y11 y12))
 | 0 => ⟨fun _ _ _ _ _ _ _ _ _ r h => by simp [spec_laidTo.f] at h, fun _ _ _ _ _ _ _ _ _ _ _ _ r h => by simp [spec_laidTo.j0] at h, fun _ _ _ _ _ _ _ _ _ _ _ _ _ r h => by simp [spec_laidTo.l0] at h⟩
 | k + 1 => by
  obtain ⟨ih0, ih1, ih2⟩ := spec_laidTo.mono_l k
  refine ⟨?_, ?_, ?_⟩
  ·
   intro y0 y1 y2 y3 y4 y5 y6 y7 y8
   unfold spec_laidTo.f
   exact Y26
  ·
   intro y0 y1 y2 y3 y4 y5 y6 y7 y8 y9 y10 y11
   unfold spec_laidTo.j0
   exact Y26
  intro y0 y1 y2 y3 y4 y5 y6 y7 y8 y9 y10 y11 y12
  unfold spec_laidTo.l0
  exact Y26
theorem spec_laidTo.mono : ∀ a0 a1 a2 a3 a4 a5 a6 a7 a8 k, LeO (spec_laidTo.f k a0 a1 a2 a3 a4 a5 a6 a7 a8) (spec_laidTo.f (k + 1) a0 a1 a2 a3 a4 a5 a6 a7 a8) := by
 intro a0 a1 a2 a3 a4 a5 a6 a7 a8 k
 obtain ⟨ih0, ih1, ih2⟩ := spec_laidTo.mono_l k
 exact ih0 a0 a1 a2 a3 a4 a5 a6 a7 a8
def spec_laidTo.T18 : Bool × List (List Nat × List Nat) := (true, [([], []), ([], []), ([], []), ([2], [2]), ([], []), ([3, 4], [3, 4]), ([5], [5]), ([6], [6]), ([], []), ([8], [8]), ([], []), ([9, 10], [9, 10]), ([11], [11]), ([12], [12]), ([1, 7, 13], [1, 7, 13]), ([0, 14], [0, 14]), ([15, 15, 0, 1, 2, 3, 4, 5, 6, 7, 8, 9, 10, 11, 12, 13, 14, 15], [0, 15])])
def spec_laidTo.B18 : List Nat := [0, 0, 0, 4, 0, 28, 60, 124, 0, 256, 0, 1792, 3840, 7936, 16382, 32767, 65535]
theorem spec_laidTo.tab18 : rtab .any (opsOf Try.f14 18) = spec_laidTo.T18 := Y0
theorem spec_laidTo.bits18 : waitsOk spec_laidTo.T18.2 spec_laidTo.B18 = true := Y0
set_option maxHeartbeats 8000000 in
set_option maxRecDepth 100000 in
theorem spec_laidTo.calls (k : Nat) : ∀ (P0_ : Nat → Prop) (u9000_ : Value) (l0 : List Int) (a1 : ByteArray) (a2_0 : Int) (a2_1 : Int) (a2_2 : Int) (A2_3 : Option Addr) (c2_3 : Nat) (l2_3 : List (S55)) (P2_4_ : Nat → Prop) (A2_4 : Option Addr) (c2_4 : Nat) (l2_4 : List (S28)) (a3 : ByteArray) (a4 : ByteArray)  (r : List Int) (w0 w : World) (hB : Below w0.heap.size w0 w) (ho0 : Kd.R (Kd.int .u8) 5 w w0.heap.size P0_ u9000_ l0) (hr2_3 : ∀ W_, Kept w W_ (fun k_ => P0_ k_) → Kd.C k55 W_ A2_3 l2_3.length l2_3) (hc2_3 : l2_3.length ≤ c2_3) (hs2_4 : Kd.V k28 28 w w0.heap.size (fun k_ => P2_4_ k_ ∧ some k_ ≠ (u9000_ : Value).ownBlock) (.slice A2_4 l2_4.length c2_4) l2_4) (h : spec_laidTo.f k l0 a1 a2_0 a2_1 a2_2 l2_3 l2_4 a3 a4 = some r),
  Calls Try.prog 14 #[u9000_, .string a1, .agg #[.int .i64 a2_0, .int .i64 a2_1, .int .i64 a2_2, .slice A2_3 l2_3.length c2_3, .slice A2_4 l2_4.length c2_4], .string a3, .string a4, .bool false] w fun e w' => ∃ v0_ : Value, e = .returned (v0_) ∧ Kd.R (Kd.int .u8) 5 w' w0.heap.size (fun k_ => (P0_ k_ ∨ w.heap.size ≤ k_)) v0_ r ∧ Below w0.heap.size w0 w' ∧ Kept w w' (fun k_ => P0_ k_) := by
 induction k using Nat.strongRecOn with
 | _ k ih =>
 intro P0_ u9000_ l0 a1 a2_0 a2_1 a2_2 A2_3 c2_3 l2_3 P2_4_ A2_4 c2_4 l2_4 a3 a4 r w0 w hB ho0 hr2_3 hc2_3 hs2_4 h
 cases k with
 | zero => exact absurd h (by simp [spec_laidTo.f])
 | succ k =>
 simp only [spec_laidTo.f] at h
 have hu28 := Try.underlying28
 have HO0 := Aside0.mk (show Kd.R (Kd.int .u8) 5 w w0.heap.size (fun k_ => (P0_ k_ ∨ w.heap.size ≤ k_)) u9000_ l0 from Kd.R_mono ho0 (fun k_ hk => (.inl hk)))
 have HR2_3 := Aside0.mk hr2_3
 have HC2_3 := Aside0.mk hc2_3
 clear hr2_3 hc2_3
 have HO2_4 := Aside0.mk (show Kd.V k28 28 w w0.heap.size (fun k_ => ((P0_ k_ ∨ P2_4_ k_) ∨ w.heap.size ≤ k_) ∧ some k_ ≠ (u9000_ : Value).ownBlock) (.slice A2_4 l2_4.length c2_4) l2_4 from Kd.V_mono hs2_4 (fun k_ hk => ⟨.inl (.inr hk.1), hk.2⟩))
 have HK := Aside0.mk (Kept.refl w (fun k_ => P0_ k_))
 have HW0 := Aside0.mk hB.size
 have HB := Aside0.mk hB
 clear hB
 have H : (if (l2_4.length : Int) = 0 then ((spec_bareTo.f k l0 a1 a2_0 a2_1 a2_2 l2_3 l2_4).bind fun t659 => (some t659)) else (if a2_0 = 6 then (spec_laidTo.j0 k l0 a1 a3 a4 false 123 125 a2_0 a2_1 a2_2 l2_3 l2_4) else (spec_laidTo.j0 k l0 a1 a3 a4 false 91 93 a2_0 a2_1 a2_2 l2_3 l2_4))) = some r := h
 clear h
 have HC7 := Aside0.mk H
 clear H
 go_enter Try.func14, Try.ntmps14
 go_upto_if 16 with (first | ((with_reducible refine gate_dst (N := 8) rfl ?_); refine box_event ?hg (N := 8) ?hd (cs := #[.int .i64 a2_0, .int .i64 a2_1, .int .i64 a2_2, .slice A2_3 l2_3.length c2_3, .slice A2_4 l2_4.length c2_4]) (t := 28) ?hr ?_; (case hd => exact Y1); (case hg => exact Y1); (case hr => exact Y12); intro gb658 hg w8 hbox hb; have n0_ := Aside0.mk (Kd.R_below (pR HO0.out) hb); have n1_ := Aside0.mk (Kd.V_below (Kd.V_elderB (pV HO2_4.out) gb658 (Nat.le_of_eq hg.symm)) hb); have n2_ := Aside0.mk (Kept.below (S := (fun k_ => P0_ k_)) Y29 hb); have n3_ := Aside0.mk (below_step Y6 hb); have n4_ := Aside0.mk (hbox); have n5_ := Aside0.mk ((by rw [hg]; exact (by first | exact HK.out.1 | exact (show Kept w _ (fun k_ => P0_ k_) from Y29).1) : w.heap.size ≤ gb658)); have n6_ := Aside0.mk ((Y36 : w0.heap.size ≤ gb658)); clear HO0; clear HO2_4; clear HK; clear HB; have HO0 := n0_; have HO2_4 := n1_; have HK := n2_; have HB := n3_; have BK658 := n4_; have GW658 := n5_; have GE658 := n6_; clear n0_ n1_ n2_ n3_ n4_ n5_ n6_; clear hb hbox hg; have hcz9_0 : w8.cell? ⟨gb658, 0, none⟩ = some (.int .i64 a2_0) := (blk_cell BK658.out 0).trans rfl; have hcz9_1 : w8.cell? ⟨gb658, 1, none⟩ = some (.int .i64 a2_1) := (blk_cell BK658.out 1).trans rfl; have hcz9_2 : w8.cell? ⟨gb658, 2, none⟩ = some (.int .i64 a2_2) := (blk_cell BK658.out 2).trans rfl; have hcz9_3 : w8.cell? ⟨gb658, 3, none⟩ = some (.slice A2_3 l2_3.length c2_3) := (blk_cell BK658.out 3).trans rfl; have hcz9_4 : w8.cell? ⟨gb658, 4, none⟩ = some (.slice A2_4 l2_4.length c2_4) := (blk_cell BK658.out 4).trans rfl; have hfz9_0 := blk_frozen BK658.out 0; have hfz9_1 := blk_frozen BK658.out 1; have hfz9_2 := blk_frozen BK658.out 2; have hfz9_3 := blk_frozen BK658.out 3; have hfz9_4 := blk_frozen BK658.out 4))
 (try simp only [Act.put, List.setIfInBounds_toArray, List.set_cons_zero, List.set_cons_succ])
 have H := HC7.out
 clear HC7
 by_cases c10 : (l2_4.length : Int) = 0
 ·
  rw [if_pos c10] at H
  have c10b0 := beq_iff_eq.mpr c10
  have c10b1 := bne_eq_false_iff_eq.mpr c10
  clear c10
  (first | rw [c10b0] | (simp only [i64_w, i32_w]; rw [c10b0]) | skip)
  replace H := Option.bind_eq_some_iff.mp H
  obtain ⟨t659, A110, H⟩ := H
  have A11 := Aside0.mk A110
  clear A110
  obtain rfl := Option.some.inj H
  have hcz12_0 : w8.cell? ⟨gb658, 0, none⟩ = some (.int .i64 a2_0) := (blk_cell BK658.out 0).trans rfl
  have hcz12_1 : w8.cell? ⟨gb658, 1, none⟩ = some (.int .i64 a2_1) := (blk_cell BK658.out 1).trans rfl
  have hcz12_2 : w8.cell? ⟨gb658, 2, none⟩ = some (.int .i64 a2_2) := (blk_cell BK658.out 2).trans rfl
  have hcz12_3 : w8.cell? ⟨gb658, 3, none⟩ = some (.slice A2_3 l2_3.length c2_3) := (blk_cell BK658.out 3).trans rfl
  have hcz12_4 : w8.cell? ⟨gb658, 4, none⟩ = some (.slice A2_4 l2_4.length c2_4) := (blk_cell BK658.out 4).trans rfl
  have hfz12_0 := blk_frozen BK658.out 0
  have hfz12_1 := blk_frozen BK658.out 1
  have hfz12_2 := blk_frozen BK658.out 2
  have hfz12_3 := blk_frozen BK658.out 3
  have hfz12_4 := blk_frozen BK658.out 4
  obtain ⟨Ao13, co13, eo13⟩ := Kd.R_slice HO0.out
  subst eo13
  go_wp2_with (first | ((with_reducible refine gate_callee (f := 20) rfl ?_); refine goesL_ (some 24) rfl rfl Try.func20 Y0 rfl #[.slice Ao13 l0.length co13, .string a1, .agg #[.int .i64 a2_0, .int .i64 a2_1, .int .i64 a2_2, .slice A2_3 l2_3.length c2_3, .slice A2_4 l2_4.length c2_4]] rfl Y11 ?_; (with_reducible refine (spec_bareTo.calls k (fun k_ => some k_ = (.slice Ao13 l0.length co13 : Value).ownBlock) (.slice Ao13 l0.length co13) l0 a1 a2_0 a2_1 a2_2 _ _ l2_3 (fun k_ => ((((P0_ k_ ∨ P2_4_ k_) ∨ w.heap.size ≤ k_) ∧ some k_ ≠ (.slice Ao13 l0.length co13 : Value).ownBlock) ∧ k_ ≠ gb658)) _ _ l2_4 t659 w0 _ ?side1 ?side2 ?side3 ?side4 ?side5 A11.out).mono ?_); (case side1 => exact Y5); (case side2 => exact Kd.R_tight rfl HO0.out); (case side3 => exact Kd.C_kept_call HR2_3.out Y2 (fun k_ hs_ => (fun e_ => (HO0.out.1 k_ e_.symm)) hs_)); (case side4 => exact HC2_3.out); (case side5 => exact Kd.V_mono (HO2_4.out) (fun k_ hk_ => ⟨hk_, hk_.1.2⟩)); rintro e w14 ⟨v660, rfl, ho0, hb, hkp⟩; refine ⟨_, rfl, ?_⟩; have n0_ := Aside0.mk (Kd.V_mono (ok' := fun k_ => ((P0_ k_ ∨ P2_4_ k_) ∨ w.heap.size ≤ k_) ∧ k_ ≠ gb658 ∧ some k_ ≠ (v660 : Value).ownBlock) (Kd.V_keptB (HO2_4.out) hkp (fun k_ hk_ hs_ => (hk_.1.2) hs_)) (fun k_ hk_ => ⟨hk_.1.1.1, hk_.1.2, fun e_ => Or.elim (ho0.1 k_ e_.symm) (fun hs_ => hk_.2.1 hs_) (fun hn_ => Nat.not_le.2 hk_.2.2 hn_)⟩)); have n1_ := Aside0.mk (blk_kept (pB BK658.out) hkp (fun hs_ => (fun e_ => (Kd.R_ne HO0.out BK658.out Y3) e_) hs_)); have n2_ := Aside0.mk (Kd.R_mono (ok' := fun k_ => (P0_ k_ ∨ w.heap.size ≤ k_)) ho0 (fun k_ hk_ => Or.elim hk_ (fun hs_ => (HO0.out.1 k_ (hs_).symm)) (fun hn_ => (.inr (Nat.le_trans Y35 hn_))))); have n3_ := Aside0.mk (Kept.then_ (S := (fun k_ => P0_ k_)) Y2 hkp (fun k_ hs_ => (fun e_ => (HO0.out.1 k_ e_.symm)) hs_)); have n4_ := Aside0.mk (hb); clear HO2_4; clear BK658; clear HK; clear HB; clear HO0; have HO2_4 := n0_; have BK658 := n1_; have HO661 := n2_; have HK := n3_; have HB := n4_; clear n0_ n1_ n2_ n3_ n4_; (try clear hb); (try clear hkp); (try clear ho0)))
  go_ret
  exact ⟨_, Y10, pR HO661.out, Y5, Y2⟩
 rw [if_neg c10] at H
 have c10b0 := beq_eq_false_iff_ne.mpr c10
 have c10b1 := bne_iff_ne.mpr c10
 have c10b2 : ¬ (l2_4 = []) := fun h_ => c10 (by rw [h_]; rfl)
 (first | rw [c10b0] | (simp only [i64_w, i32_w]; rw [c10b0]) | skip)
 have HC15 := Aside0.mk H
 clear H
 have hcz16_0 : w8.cell? ⟨gb658, 0, none⟩ = some (.int .i64 a2_0) := (blk_cell BK658.out 0).trans rfl
 have hcz16_1 : w8.cell? ⟨gb658, 1, none⟩ = some (.int .i64 a2_1) := (blk_cell BK658.out 1).trans rfl
 have hcz16_2 : w8.cell? ⟨gb658, 2, none⟩ = some (.int .i64 a2_2) := (blk_cell BK658.out 2).trans rfl
 have hcz16_3 : w8.cell? ⟨gb658, 3, none⟩ = some (.slice A2_3 l2_3.length c2_3) := (blk_cell BK658.out 3).trans rfl
 have hcz16_4 : w8.cell? ⟨gb658, 4, none⟩ = some (.slice A2_4 l2_4.length c2_4) := (blk_cell BK658.out 4).trans rfl
 have hfz16_0 := blk_frozen BK658.out 0
 have hfz16_1 := blk_frozen BK658.out 1
 have hfz16_2 := blk_frozen BK658.out 2
 have hfz16_3 := blk_frozen BK658.out 3
 have hfz16_4 := blk_frozen BK658.out 4
 go_upto_if 38 with (fail)
 go_cut [13, 14] (fun v13 v14 wc => ∃ (kq : Nat) (x13_14 : Int) (x14_14 : Int), v13 = .int .u8 x13_14 ∧ v14 = .int .u8 x14_14 ∧ Aside0 (spec_laidTo.j0 kq l0 a1 a3 a4 false x13_14 x14_14 a2_0 a2_1 a2_2 l2_3 l2_4 = some r) ∧ Aside0 (kq ≤ k) ∧ Aside0 (Kd.R (Kd.int .u8) 5 wc w0.heap.size (fun k_ => (P0_ k_ ∨ w.heap.size ≤ k_)) u9000_ l0) ∧ Aside0 (Kd.V k28 28 wc w0.heap.size (fun k_ => ((P0_ k_ ∨ P2_4_ k_) ∨ w.heap.size ≤ k_) ∧ some k_ ≠ (u9000_ : Value).ownBlock ∧ k_ ≠ gb658) (.slice A2_4 l2_4.length c2_4) l2_4) ∧ Aside0 (wc.heap[gb658]? = some (.cells #[.int .i64 a2_0, .int .i64 a2_1, .int .i64 a2_2, (.slice A2_3 l2_3.length c2_3), (.slice A2_4 l2_4.length c2_4)] 28 (0, 0))) ∧ Aside0 (Kept w wc (fun k_ => P0_ k_)) ∧ Aside0 (Below w0.heap.size w0 wc))
 case first =>
  have H := HC15.out
  clear HC15
  by_cases c17 : a2_0 = 6
  rotate_left
  ·
   rw [if_neg c17] at H
   have c17b0 := beq_eq_false_iff_ne.mpr c17
   have c17b1 := bne_iff_ne.mpr c17
   (first | rw [c17b0] | (simp only [i64_w, i32_w]; rw [c17b0]) | skip)
   have H' := Aside0.mk H
   clear H
   go_wp2
   go_meet
   case rel => exact ⟨_, (91), (93), Y9, Y9, H', ⟨Y18⟩, ⟨pR HO0.out⟩, ⟨Y30⟩, ⟨pB BK658.out⟩, ⟨Y2⟩, ⟨Y5⟩⟩
  rw [if_pos c17] at H
  have c17b0 := beq_iff_eq.mpr c17
  have c17b1 := bne_eq_false_iff_eq.mpr c17
  clear c17
  (first | rw [c17b0] | (simp only [i64_w, i32_w]; rw [c17b0]) | skip)
  have H' := Aside0.mk H
  clear H
  go_wp2
  go_meet
  case rel => exact ⟨_, (123), (125), Y9, Y9, H', ⟨Y18⟩, ⟨pR HO0.out⟩, ⟨Y30⟩, ⟨pB BK658.out⟩, ⟨Y2⟩, ⟨Y5⟩⟩
 clear HC15; try clear c1; try clear c2; try clear p2; try clear c10; try clear c10b0; try clear c10b1; try clear c10b2; try clear c14; try clear c17; try clear c17b0; try clear c17b1; try clear hcz12_0; try clear hcz12_1; try clear hcz12_2; try clear hcz12_3; try clear hcz12_4; try clear hcz16_0; try clear hcz16_1; try clear hcz16_2; try clear hcz16_3; try clear hcz16_4; try clear hcz9_0; try clear hcz9_1; try clear hcz9_2; try clear hcz9_3; try clear hcz9_4; try clear hfz12_0; try clear hfz12_1; try clear hfz12_2; try clear hfz12_3; try clear hfz12_4; try clear hfz16_0; try clear hfz16_1; try clear hfz16_2; try clear hfz16_3; try clear hfz16_4; try clear hfz9_0; try clear hfz9_1; try clear hfz9_2; try clear hfz9_3; try clear hfz9_4
 obtain ⟨kq, x13_14, x14_14, rfl, rfl, HA, HJ14, HO_0, HO_659004, BK658, HK, HB⟩ := hcut
 cases kq with
 | zero => exact absurd HA.out (by simp [spec_laidTo.j0])
 | succ kj14 =>
 have H := HA.out
 clear HA
 simp only [spec_laidTo.j0] at H
 rw [if_neg (show ¬ (false = true) from Y3)] at H
 by_cases c19 : l0.length < 140737488355328
 rotate_left
 ·
  rw [if_neg c19] at H
  exact absurd H Y4
 rw [if_pos c19] at H
 have LMc19 := Aside0.mk c19
 clear c19
 obtain ⟨y662, hy662⟩ : ∃ y_ : List Int, y_ = (l0 ++ [x13_14]) := ⟨_, rfl⟩
 first | replace H := bind_y hy662 H | rw [← hy662] at H
 have Ny662 := Aside0.mk hy662
 clear hy662
 have H' := Aside0.mk H
 clear H
 go_wp2_with (first | ((with_reducible refine gate_builtin (b := .append) (xs := #[.tmp 39, .tmp 41]) rfl ?_); at_builtin; refine Kd.R_append (Kd.int .u8) (w0 := w0) w0.heap.size rfl (.tmp 39) (.tmp 41) 40 5 (.int .u8 0) 1 rfl Try.underlying40 info5 rfl Y3 Y7 u9000_ l0 x13_14 [.int .u8 x13_14] (fun k_ => (P0_ k_ ∨ w.heap.size ≤ k_)) (fun _ => False) rfl rfl ?aP (fun _ hk => hk.elim) ?aF ?aO ?aB ?aS ?aL ?_; (case aP => exact rfl); (case aB => exact Y5); (case aF => exact (fun k_ hk => (.inr (Nat.le_trans Y35 hk)))); (case aO => exact (pR HO_0.out)); (case aS => exact (below_size Y5)); (case aL => have := LMc19.out; omega); intro v663 w20 ho hb hg hat; rw [← Ny662.out] at ho; have n0_ := Aside0.mk (Kd.V_afterv (ok := (fun k_ => ((P0_ k_ ∨ P2_4_ k_) ∨ w.heap.size ≤ k_) ∧ k_ ≠ gb658)) Y19 hg hat); have n1_ := Aside0.mk (blk_grown (g := gb658) (o := .cells #[.int .i64 a2_0, .int .i64 a2_1, .int .i64 a2_2, .slice A2_3 l2_3.length c2_3, .slice A2_4 l2_4.length c2_4] 28 (0, 0)) (pB BK658.out) hg (Kd.R_ne HO_0.out BK658.out Y3)); have n2_ := Aside0.mk (hb); have n3_ := Aside0.mk (Kept.of_grown (S := (fun k_ => P0_ k_)) hg Y2 (fun k_ e_ => (HO_0.out.1 k_ e_))); have n4_ := Aside0.mk (ho); clear HO_659004; clear BK658; clear HB; clear HK; clear HO_0; have HO_659004 := n0_; have BK658 := n1_; have HB := n2_; have HK := n3_; have HO664 := n4_; clear n0_ n1_ n2_ n3_ n4_; clear ho hb hg hat; have hcz21_0 : w20.cell? ⟨gb658, 0, none⟩ = some (.int .i64 a2_0) := (blk_cell BK658.out 0).trans rfl; have hcz21_1 : w20.cell? ⟨gb658, 1, none⟩ = some (.int .i64 a2_1) := (blk_cell BK658.out 1).trans rfl; have hcz21_2 : w20.cell? ⟨gb658, 2, none⟩ = some (.int .i64 a2_2) := (blk_cell BK658.out 2).trans rfl; have hcz21_3 : w20.cell? ⟨gb658, 3, none⟩ = some (.slice A2_3 l2_3.length c2_3) := (blk_cell BK658.out 3).trans rfl; have hcz21_4 : w20.cell? ⟨gb658, 4, none⟩ = some (.slice A2_4 l2_4.length c2_4) := (blk_cell BK658.out 4).trans rfl; have hfz21_0 := blk_frozen BK658.out 0; have hfz21_1 := blk_frozen BK658.out 1; have hfz21_2 := blk_frozen BK658.out 2; have hfz21_3 := blk_frozen BK658.out 3; have hfz21_4 := blk_frozen BK658.out 4))
 (try simp only [Act.put, List.setIfInBounds_toArray, List.set_cons_succ, List.set_cons_zero])
 go_loopg [0, 46] kj14 (fun kq v0 v46 w' => ∃ (x0_2 : List Int) (x46_2 : Int), v46 = .int .i64 x46_2 ∧ Aside0 (spec_laidTo.l0 kq x0_2 a1 a3 a4 false x14_14 (l2_4.length : Int) x46_2 a2_0 a2_1 a2_2 l2_3 l2_4 = some r) ∧ Aside0 (kq ≤ kj14) ∧ Aside0 (Kd.R (Kd.int .u8) 5 w' w0.heap.size (fun k_ => (P0_ k_ ∨ w.heap.size ≤ k_)) v0 x0_2) ∧ Aside0 (Kd.V k28 28 w' w0.heap.size (fun k_ => ((P0_ k_ ∨ P2_4_ k_) ∨ w.heap.size ≤ k_) ∧ some k_ ≠ (v0 : Value).ownBlock ∧ k_ ≠ gb658) (.slice A2_4 l2_4.length c2_4) l2_4) ∧ Aside0 (w'.heap[gb658]? = some (.cells #[.int .i64 a2_0, .int .i64 a2_1, .int .i64 a2_2, (.slice A2_3 l2_3.length c2_3), (.slice A2_4 l2_4.length c2_4)] 28 (0, 0))) ∧ Aside0 (Kept w w' (fun k_ => P0_ k_)) ∧ Aside0 (Below w0.heap.size w0 w'))
 case atStart => exact ⟨(y662), (0), Y9, H', ⟨Nat.le_refl _⟩, ⟨pR HO664.out⟩, ⟨by (with_reducible repeat (first | apply Kd.V_alloc | apply Kd.V_drewN | apply Kd.V_drew)); exact Kd.V_mono HO_659004.out (fun _ hk => ⟨hk.1.1, ⟨hk.2, hk.1.2⟩⟩)⟩, ⟨pB BK658.out⟩, ⟨Y2⟩, ⟨Y5⟩⟩
 clear H'
 try clear c1; try clear c2; try clear p2; try clear c10; try clear c10b0; try clear c10b1; try clear c10b2; try clear c14; try clear c17; try clear c17b0; try clear c17b1; try clear c19; try clear c20; try clear hcz12_0; try clear hcz12_1; try clear hcz12_2; try clear hcz12_3; try clear hcz12_4; try clear hcz16_0; try clear hcz16_1; try clear hcz16_2; try clear hcz16_3; try clear hcz16_4; try clear hcz21_0; try clear hcz21_1; try clear hcz21_2; try clear hcz21_3; try clear hcz21_4; try clear hcz9_0; try clear hcz9_1; try clear hcz9_2; try clear hcz9_3; try clear hcz9_4; try clear hfz12_0; try clear hfz12_1; try clear hfz12_2; try clear hfz12_3; try clear hfz12_4; try clear hfz16_0; try clear hfz16_1; try clear hfz16_2; try clear hfz16_3; try clear hfz16_4; try clear hfz21_0; try clear hfz21_1; try clear hfz21_2; try clear hfz21_3; try clear hfz21_4; try clear hfz9_0; try clear hfz9_1; try clear hfz9_2; try clear hfz9_3; try clear hfz9_4; try clear p2
 obtain ⟨x0_2, x46_2, rfl, HA, HK2, HO_0, HO_659004, BK658, HK, HB⟩ := hrel
 cases gk with
 | zero => exact absurd HA.out (by simp [spec_laidTo.l0])
 | succ k2 =>
 have H := HA.out
 clear HA
 simp only [spec_laidTo.l0] at H
 rw [if_neg (show ¬ (false = true) from Y3)] at H
 by_cases c23 : x46_2 < (l2_4.length : Int)
 rotate_left
 ·
  rw [if_neg c23] at H
  have c23b0 := decide_eq_false c23
  clear c23
  by_cases c97 : x0_2.length < 140737488355328
  rotate_left
  ·
   rw [if_neg c97] at H
   exact absurd H Y4
  rw [if_pos c97] at H
  have LMc97 := Aside0.mk c97
  clear c97
  obtain ⟨y665, hy665⟩ : ∃ y_ : List Int, y_ = (x0_2 ++ [10]) := ⟨_, rfl⟩
  first | replace H := bind_y hy665 H | rw [← hy665] at H
  have Ny665 := Aside0.mk hy665
  clear hy665
  by_cases c98 : y665.length + a3.size < 140737488355328
  rotate_left
  ·
   rw [if_neg c98] at H
   exact absurd H Y4
  rw [if_pos c98] at H
  have LMc98 := Aside0.mk c98
  clear c98
  obtain ⟨y668, hy668⟩ : ∃ y_ : List Int, y_ = (y665 ++ bytesOf a3) := ⟨_, rfl⟩
  first | replace H := bind_y hy668 H | rw [← hy668] at H
  have Ny668 := Aside0.mk hy668
  clear hy668
  by_cases c99 : y668.length < 140737488355328
  rotate_left
  ·
   rw [if_neg c99] at H
   exact absurd H Y4
  rw [if_pos c99] at H
  have LMc99 := Aside0.mk c99
  clear c99
  obtain ⟨y671, hy671⟩ : ∃ y_ : List Int, y_ = (y668 ++ [x14_14]) := ⟨_, rfl⟩
  first | replace H := bind_y hy671 H | rw [← hy671] at H
  have Ny671 := Aside0.mk hy671
  clear hy671
  obtain rfl := Option.some.inj H
  go_wp2_with (first | ((with_reducible refine gate_builtin (b := .append) (xs := #[.tmp 99, .tmp 100]) rfl ?_); at_builtin; refine Kd.R_append (Kd.int .u8) (w0 := w0) w0.heap.size rfl (.tmp 99) (.tmp 100) 40 5 (.int .u8 0) 1 rfl Try.underlying40 info5 rfl Y3 Y7 u0 x0_2 10 [.int .u8 10] (fun k_ => (P0_ k_ ∨ w.heap.size ≤ k_)) (fun _ => False) rfl rfl ?aP (fun _ hk => hk.elim) ?aF ?aO ?aB ?aS ?aL ?_; (case aP => exact rfl); (case aB => exact Y5); (case aF => exact (fun k_ hk => (.inr (Nat.le_trans Y35 hk)))); (case aO => exact (pR HO_0.out)); (case aS => exact (below_size Y5)); (case aL => have := LMc97.out; omega); intro v666 w100 ho hb hg hat; rw [← Ny665.out] at ho; have n0_ := Aside0.mk (Kd.V_afterv (ok := (fun k_ => ((P0_ k_ ∨ P2_4_ k_) ∨ w.heap.size ≤ k_) ∧ k_ ≠ gb658)) Y19 hg hat); have n1_ := Aside0.mk (blk_grown (g := gb658) (o := .cells #[.int .i64 a2_0, .int .i64 a2_1, .int .i64 a2_2, .slice A2_3 l2_3.length c2_3, .slice A2_4 l2_4.length c2_4] 28 (0, 0)) (pB BK658.out) hg (Kd.R_ne HO_0.out BK658.out Y3)); have n2_ := Aside0.mk (hb); have n3_ := Aside0.mk (Kept.of_grown (S := (fun k_ => P0_ k_)) hg Y2 (fun k_ e_ => (HO_0.out.1 k_ e_))); have n4_ := Aside0.mk (ho); clear HO_659004; clear BK658; clear HB; clear HK; clear HO_0; have HO_659004 := n0_; have BK658 := n1_; have HB := n2_; have HK := n3_; have HO667 := n4_; clear n0_ n1_ n2_ n3_ n4_; clear ho hb hg hat) | (at_builtin; refine Kd.R_append_str (w0 := w0) w0.heap.size rfl (.tmp 102) _ 40 9 5 rfl Try.underlying40 Try.underlying9 info5 v666 y665 a3 (fun k_ => (P0_ k_ ∨ w.heap.size ≤ k_)) rfl rfl ?aF ?aO ?aB ?aS ?aL ?_; (case aB => exact Y5); (case aF => exact (fun k_ hk => (.inr (Nat.le_trans Y35 hk)))); (case aO => exact (pR HO667.out)); (case aS => exact (below_size Y5)); (case aL => have := LMc98.out; omega); intro v669 w101 ho hb hg hat; rw [← Ny668.out] at ho; have n0_ := Aside0.mk (Kd.V_afterv (ok := (fun k_ => ((P0_ k_ ∨ P2_4_ k_) ∨ w.heap.size ≤ k_) ∧ k_ ≠ gb658)) (pV HO_659004.out) hg hat); have n1_ := Aside0.mk (blk_grown (g := gb658) (o := .cells #[.int .i64 a2_0, .int .i64 a2_1, .int .i64 a2_2, .slice A2_3 l2_3.length c2_3, .slice A2_4 l2_4.length c2_4] 28 (0, 0)) (pB BK658.out) hg (Kd.R_ne HO667.out BK658.out Y3)); have n2_ := Aside0.mk (hb); have n3_ := Aside0.mk (Kept.of_grown (S := (fun k_ => P0_ k_)) hg Y2 (fun k_ e_ => (HO667.out.1 k_ e_))); have n4_ := Aside0.mk (ho); clear HO_659004; clear BK658; clear HB; clear HK; clear HO667; have HO_659004 := n0_; have BK658 := n1_; have HB := n2_; have HK := n3_; have HO670 := n4_; clear n0_ n1_ n2_ n3_ n4_; clear ho hb hg hat) | ((with_reducible refine gate_builtin (b := .append) (xs := #[.tmp 105, .tmp 107]) rfl ?_); at_builtin; refine Kd.R_append (Kd.int .u8) (w0 := w0) w0.heap.size rfl (.tmp 105) (.tmp 107) 40 5 (.int .u8 0) 1 rfl Try.underlying40 info5 rfl Y3 Y7 v669 y668 x14_14 [.int .u8 x14_14] (fun k_ => (P0_ k_ ∨ w.heap.size ≤ k_)) (fun _ => False) rfl rfl ?aP (fun _ hk => hk.elim) ?aF ?aO ?aB ?aS ?aL ?_; (case aP => exact rfl); (case aB => exact Y5); (case aF => exact (fun k_ hk => (.inr (Nat.le_trans Y35 hk)))); (case aO => exact (pR HO670.out)); (case aS => exact (below_size Y5)); (case aL => have := LMc99.out; omega); intro v672 w102 ho hb hg hat; rw [← Ny671.out] at ho; have n0_ := Aside0.mk (Kd.V_afterv (ok := (fun k_ => ((P0_ k_ ∨ P2_4_ k_) ∨ w.heap.size ≤ k_) ∧ k_ ≠ gb658)) (pV HO_659004.out) hg hat); have n1_ := Aside0.mk (blk_grown (g := gb658) (o := .cells #[.int .i64 a2_0, .int .i64 a2_1, .int .i64 a2_2, .slice A2_3 l2_3.length c2_3, .slice A2_4 l2_4.length c2_4] 28 (0, 0)) (pB BK658.out) hg (Kd.R_ne HO670.out BK658.out Y3)); have n2_ := Aside0.mk (hb); have n3_ := Aside0.mk (Kept.of_grown (S := (fun k_ => P0_ k_)) hg Y2 (fun k_ e_ => (HO670.out.1 k_ e_))); have n4_ := Aside0.mk (ho); clear HO_659004; clear BK658; clear HB; clear HK; clear HO670; have HO_659004 := n0_; have BK658 := n1_; have HB := n2_; have HK := n3_; have HO673 := n4_; clear n0_ n1_ n2_ n3_ n4_; clear ho hb hg hat))
  go_ret
  exact ⟨_, Y10, pR HO673.out, Y5, Y2⟩
 rw [if_pos c23] at H
 have c23b0 := decide_eq_true c23
 clear c23
 by_cases c24 : x46_2 > 0
 rotate_left
 ·
  rw [if_neg c24] at H
  have c24b0 := decide_eq_false c24
  clear c24
  by_cases c62 : x0_2.length < 140737488355328
  rotate_left
  ·
   rw [if_neg c62] at H
   exact absurd H Y4
  rw [if_pos c62] at H
  have LMc62 := Aside0.mk c62
  clear c62
  obtain ⟨y705, hy705⟩ : ∃ y_ : List Int, y_ = (x0_2 ++ [10]) := ⟨_, rfl⟩
  first | replace H := bind_y hy705 H | rw [← hy705] at H
  have Ny705 := Aside0.mk hy705
  clear hy705
  by_cases c63 : y705.length + a3.size < 140737488355328
  rotate_left
  ·
   rw [if_neg c63] at H
   exact absurd H Y4
  rw [if_pos c63] at H
  have LMc63 := Aside0.mk c63
  clear c63
  obtain ⟨y708, hy708⟩ : ∃ y_ : List Int, y_ = (y705 ++ bytesOf a3) := ⟨_, rfl⟩
  first | replace H := bind_y hy708 H | rw [← hy708] at H
  have Ny708 := Aside0.mk hy708
  clear hy708
  by_cases c64 : y708.length + a4.size < 140737488355328
  rotate_left
  ·
   rw [if_neg c64] at H
   exact absurd H Y4
  rw [if_pos c64] at H
  have LMc64 := Aside0.mk c64
  clear c64
  obtain ⟨y711, hy711⟩ : ∃ y_ : List Int, y_ = (y708 ++ bytesOf a4) := ⟨_, rfl⟩
  first | replace H := bind_y hy711 H | rw [← hy711] at H
  have Ny711 := Aside0.mk hy711
  clear hy711
  have HC65 := Aside0.mk H
  clear H
  go_upto_if 65 with (first | ((with_reducible refine gate_builtin (b := .append) (xs := #[.tmp 54, .tmp 55]) rfl ?_); at_builtin; refine Kd.R_append (Kd.int .u8) (w0 := w0) w0.heap.size rfl (.tmp 54) (.tmp 55) 40 5 (.int .u8 0) 1 rfl Try.underlying40 info5 rfl Y3 Y7 u0 x0_2 10 [.int .u8 10] (fun k_ => (P0_ k_ ∨ w.heap.size ≤ k_)) (fun _ => False) rfl rfl ?aP (fun _ hk => hk.elim) ?aF ?aO ?aB ?aS ?aL ?_; (case aP => exact rfl); (case aB => exact Y5); (case aF => exact (fun k_ hk => (.inr (Nat.le_trans Y35 hk)))); (case aO => exact (pR HO_0.out)); (case aS => exact (below_size Y5)); (case aL => have := LMc62.out; omega); intro v706 w66 ho hb hg hat; rw [← Ny705.out] at ho; have n0_ := Aside0.mk (Kd.V_afterv (ok := (fun k_ => ((P0_ k_ ∨ P2_4_ k_) ∨ w.heap.size ≤ k_) ∧ k_ ≠ gb658)) Y19 hg hat); have n1_ := Aside0.mk (blk_grown (g := gb658) (o := .cells #[.int .i64 a2_0, .int .i64 a2_1, .int .i64 a2_2, .slice A2_3 l2_3.length c2_3, .slice A2_4 l2_4.length c2_4] 28 (0, 0)) (pB BK658.out) hg (Kd.R_ne HO_0.out BK658.out Y3)); have n2_ := Aside0.mk (hb); have n3_ := Aside0.mk (Kept.of_grown (S := (fun k_ => P0_ k_)) hg Y2 (fun k_ e_ => (HO_0.out.1 k_ e_))); have n4_ := Aside0.mk (ho); clear HO_659004; clear BK658; clear HB; clear HK; clear HO_0; have HO_659004 := n0_; have BK658 := n1_; have HB := n2_; have HK := n3_; have HO707 := n4_; clear n0_ n1_ n2_ n3_ n4_; clear ho hb hg hat) | (at_builtin; refine Kd.R_append_str (w0 := w0) w0.heap.size rfl (.tmp 57) _ 40 9 5 rfl Try.underlying40 Try.underlying9 info5 v706 y705 a3 (fun k_ => (P0_ k_ ∨ w.heap.size ≤ k_)) rfl rfl ?aF ?aO ?aB ?aS ?aL ?_; (case aB => exact Y5); (case aF => exact (fun k_ hk => (.inr (Nat.le_trans Y35 hk)))); (case aO => exact (pR HO707.out)); (case aS => exact (below_size Y5)); (case aL => have := LMc63.out; omega); intro v709 w67 ho hb hg hat; rw [← Ny708.out] at ho; have n0_ := Aside0.mk (Kd.V_afterv (ok := (fun k_ => ((P0_ k_ ∨ P2_4_ k_) ∨ w.heap.size ≤ k_) ∧ k_ ≠ gb658)) (pV HO_659004.out) hg hat); have n1_ := Aside0.mk (blk_grown (g := gb658) (o := .cells #[.int .i64 a2_0, .int .i64 a2_1, .int .i64 a2_2, .slice A2_3 l2_3.length c2_3, .slice A2_4 l2_4.length c2_4] 28 (0, 0)) (pB BK658.out) hg (Kd.R_ne HO707.out BK658.out Y3)); have n2_ := Aside0.mk (hb); have n3_ := Aside0.mk (Kept.of_grown (S := (fun k_ => P0_ k_)) hg Y2 (fun k_ e_ => (HO707.out.1 k_ e_))); have n4_ := Aside0.mk (ho); clear HO_659004; clear BK658; clear HB; clear HK; clear HO707; have HO_659004 := n0_; have BK658 := n1_; have HB := n2_; have HK := n3_; have HO710 := n4_; clear n0_ n1_ n2_ n3_ n4_; clear ho hb hg hat) | (at_builtin; refine Kd.R_append_str (w0 := w0) w0.heap.size rfl (.tmp 60) _ 40 9 5 rfl Try.underlying40 Try.underlying9 info5 v709 y708 a4 (fun k_ => (P0_ k_ ∨ w.heap.size ≤ k_)) rfl rfl ?aF ?aO ?aB ?aS ?aL ?_; (case aB => exact Y5); (case aF => exact (fun k_ hk => (.inr (Nat.le_trans Y35 hk)))); (case aO => exact (pR HO710.out)); (case aS => exact (below_size Y5)); (case aL => have := LMc64.out; omega); intro v712 w68 ho hb hg hat; rw [← Ny711.out] at ho; have n0_ := Aside0.mk (Kd.V_afterv (ok := (fun k_ => ((P0_ k_ ∨ P2_4_ k_) ∨ w.heap.size ≤ k_) ∧ k_ ≠ gb658)) (pV HO_659004.out) hg hat); have n1_ := Aside0.mk (blk_grown (g := gb658) (o := .cells #[.int .i64 a2_0, .int .i64 a2_1, .int .i64 a2_2, .slice A2_3 l2_3.length c2_3, .slice A2_4 l2_4.length c2_4] 28 (0, 0)) (pB BK658.out) hg (Kd.R_ne HO710.out BK658.out Y3)); have n2_ := Aside0.mk (hb); have n3_ := Aside0.mk (Kept.of_grown (S := (fun k_ => P0_ k_)) hg Y2 (fun k_ e_ => (HO710.out.1 k_ e_))); have n4_ := Aside0.mk (ho); clear HO_659004; clear BK658; clear HB; clear HK; clear HO710; have HO_659004 := n0_; have BK658 := n1_; have HB := n2_; have HK := n3_; have HO713 := n4_; clear n0_ n1_ n2_ n3_ n4_; clear ho hb hg hat; have hcz69_0 : w68.cell? ⟨gb658, 0, none⟩ = some (.int .i64 a2_0) := (blk_cell BK658.out 0).trans rfl; have hcz69_1 : w68.cell? ⟨gb658, 1, none⟩ = some (.int .i64 a2_1) := (blk_cell BK658.out 1).trans rfl; have hcz69_2 : w68.cell? ⟨gb658, 2, none⟩ = some (.int .i64 a2_2) := (blk_cell BK658.out 2).trans rfl; have hcz69_3 : w68.cell? ⟨gb658, 3, none⟩ = some (.slice A2_3 l2_3.length c2_3) := (blk_cell BK658.out 3).trans rfl; have hcz69_4 : w68.cell? ⟨gb658, 4, none⟩ = some (.slice A2_4 l2_4.length c2_4) := (blk_cell BK658.out 4).trans rfl; have hfz69_0 := blk_frozen BK658.out 0; have hfz69_1 := blk_frozen BK658.out 1; have hfz69_2 := blk_frozen BK658.out 2; have hfz69_3 := blk_frozen BK658.out 3; have hfz69_4 := blk_frozen BK658.out 4))
  (try simp only [Act.put, List.setIfInBounds_toArray, List.set_cons_zero, List.set_cons_succ])
  have H := HC65.out
  clear HC65
  by_cases c70 : a2_0 = 6
  rotate_left
  ·
   rw [if_neg c70] at H
   have c70b0 := beq_eq_false_iff_ne.mpr c70
   have c70b1 := bne_iff_ne.mpr c70
   (first | rw [c70b0] | (simp only [i64_w, i32_w]; rw [c70b0]) | skip)
   by_cases c90 : 0 ≤ x46_2
   rotate_left
   ·
    rw [if_neg c90] at H
    exact absurd H Y4
   rw [if_pos c90] at H
   have c90b0 := decide_eq_true c90
   clear c90
   by_cases c91 : x46_2 < (l2_4.length : Int)
   rotate_left
   ·
    rw [if_neg c91] at H
    exact absurd H Y4
   rw [if_pos c91] at H
   have c91b0 := decide_eq_true c91
   clear c91
   by_cases c92 : a3.size + a4.size ≤ 9223372036854775807
   rotate_left
   ·
    rw [if_neg c92] at H
    exact absurd H Y4
   rw [if_pos c92] at H
   have c92b0 := eq_true c92
   have c92b1 := decide_eq_true c92
   try have c92b2 : (9223372036854775807 < a3.size + a4.size) = False := eq_false (Nat.not_lt.2 c92)
   replace H := Option.bind_eq_some_iff.mp H
   obtain ⟨t730, A930, H⟩ := H
   have A93 := Aside0.mk A930
   clear A930
   have H' := Aside0.mk H
   clear H
   have hcz94_0 : w68.cell? ⟨gb658, 0, none⟩ = some (.int .i64 a2_0) := (blk_cell BK658.out 0).trans rfl
   have hcz94_1 : w68.cell? ⟨gb658, 1, none⟩ = some (.int .i64 a2_1) := (blk_cell BK658.out 1).trans rfl
   have hcz94_2 : w68.cell? ⟨gb658, 2, none⟩ = some (.int .i64 a2_2) := (blk_cell BK658.out 2).trans rfl
   have hcz94_3 : w68.cell? ⟨gb658, 3, none⟩ = some (.slice A2_3 l2_3.length c2_3) := (blk_cell BK658.out 3).trans rfl
   have hcz94_4 : w68.cell? ⟨gb658, 4, none⟩ = some (.slice A2_4 l2_4.length c2_4) := (blk_cell BK658.out 4).trans rfl
   have hfz94_0 := blk_frozen BK658.out 0
   have hfz94_1 := blk_frozen BK658.out 1
   have hfz94_2 := blk_frozen BK658.out 2
   have hfz94_3 := blk_frozen BK658.out 3
   have hfz94_4 := blk_frozen BK658.out 4
   have p729 : 0 ≤ (x46_2 : Int) := of_decide_eq_true Y8
   have q729 : x46_2 < (l2_4.length : Int) := of_decide_eq_true Y8
   obtain ⟨ad729, A729_3, c729_3, A729_4, c729_4, e729, hx729_0, hx729_1, hx729_2, hx729_3, hx729_4, hl729_3, hi729_3, hl729_4, hi729_4⟩ := at_T28 (Kd.V_reads' HO_659004.out).2.2 x46_2 p729 q729
   cases e729
   obtain ⟨ce729, hce729, hMe729, hcc729⟩ := Kd.V_get HO_659004.out z28 x46_2 p729 (by first | exact q729 | exact of_decide_eq_true Y8 | (have e_ := (Kd.V_reads' HO_659004.out).1; omega))
   obtain ⟨ua729_3, uc729_3, ua729_4, uc729_4, rfl, ul729_3, ge729_3, ul729_4, ge729_4⟩ := k28_openF hMe729
   have hv729_3 := hcc729 3 _ rfl
   rw [add_field _ _ 3 Y7] at hv729_3
   replace hv729_3 := Option.some.inj (hv729_3.symm.trans hx729_3)
   injection hv729_3 with hva_ hvn_ hvc_
   rw [hva_] at ge729_3
   rw [hvc_] at ul729_3
   have HL729_3 := Aside0.mk (show Kd.V k55 55 _ w0.heap.size _ _ ((rd_T28 l2_4 x46_2).f3) from Kd.V_mk ul729_3 ge729_3)
   clear hva_ hvn_ hvc_ ge729_3 ul729_3
   have hv729_4 := hcc729 4 _ rfl
   rw [add_field _ _ 4 Y7] at hv729_4
   replace hv729_4 := Option.some.inj (hv729_4.symm.trans hx729_4)
   injection hv729_4 with hva_ hvn_ hvc_
   rw [hva_] at ge729_4
   rw [hvc_] at ul729_4
   have HL729_4 := Aside0.mk (show Kd.V k28 28 _ w0.heap.size _ _ ((rd_T28 l2_4 x46_2).f4) from Kd.V_mk ul729_4 ge729_4)
   clear hva_ hvn_ hvc_ ge729_4 ul729_4; clear hcc729 hce729
   have HR729_3 := Aside0.mk hi729_3
   have HC729_3 := Aside0.mk hl729_3
   clear hi729_3 hl729_3
   have HR729_4 := Aside0.mk hi729_4
   have HC729_4 := Aside0.mk hl729_4
   clear hi729_4 hl729_4
   replace p729 := eq_true p729
   replace q729 := eq_true q729
   obtain ⟨Ao95, co95, eo95⟩ := Kd.R_slice HO713.out
   subst eo95
   go_wp2_with (first | ((with_reducible refine gate_callee (f := 14) rfl ?_); refine goesL_ (some 97) rfl rfl Try.func14 Y0 rfl #[.slice Ao95 y711.length co95, .string a1, .agg #[.int .i64 ((rd_T28 l2_4 x46_2).f0), .int .i64 ((rd_T28 l2_4 x46_2).f1), .int .i64 ((rd_T28 l2_4 x46_2).f2), .slice A729_3 ((rd_T28 l2_4 x46_2).f3).length c729_3, .slice A729_4 ((rd_T28 l2_4 x46_2).f4).length c729_4], .string (a3 ++ a4), .string a4, .bool false] rfl Y11 ?_; (with_reducible refine (ih k2 Y16 (fun k_ => some k_ = (.slice Ao95 y711.length co95 : Value).ownBlock) (.slice Ao95 y711.length co95) y711 a1 ((rd_T28 l2_4 x46_2).f0) ((rd_T28 l2_4 x46_2).f1) ((rd_T28 l2_4 x46_2).f2) _ _ ((rd_T28 l2_4 x46_2).f3) (fun k_ => ((((P0_ k_ ∨ P2_4_ k_) ∨ w.heap.size ≤ k_) ∧ k_ ≠ gb658) ∧ some k_ ≠ (.slice Ao95 y711.length co95 : Value).ownBlock)) _ _ ((rd_T28 l2_4 x46_2).f4) (a3 ++ a4) a4  t730 w0 _ ?side1 ?side2 ?side3 ?side4 ?side5 A93.out).mono ?_); (case side1 => exact Y5); (case side2 => exact Kd.R_tight rfl HO713.out); (case side3 => exact Kd.C_kept_ownV (HL729_3.out) (fun k_ hk_ hs_ => (hk_.2) hs_)); (case side4 => exact HC729_3.out); (case side5 => exact Kd.V_mono (HL729_4.out) (fun k_ hk_ => ⟨hk_, hk_.2⟩)); rintro e w96 ⟨v731, rfl, ho0, hb, hkp⟩; refine ⟨_, rfl, ?_⟩; have n0_ := Aside0.mk (Kd.V_mono (ok' := fun k_ => ((P0_ k_ ∨ P2_4_ k_) ∨ w.heap.size ≤ k_) ∧ k_ ≠ gb658 ∧ some k_ ≠ (v731 : Value).ownBlock) (Kd.V_keptB (HO_659004.out) hkp (fun k_ hk_ hs_ => (hk_.2) hs_)) (fun k_ hk_ => ⟨hk_.1.1.1, hk_.1.1.2, fun e_ => Or.elim (ho0.1 k_ e_.symm) (fun hs_ => hk_.2.1 hs_) (fun hn_ => Nat.not_le.2 hk_.2.2 hn_)⟩)); have n1_ := Aside0.mk (blk_kept (pB BK658.out) hkp (fun hs_ => (fun e_ => (Kd.R_ne HO713.out BK658.out Y3) e_) hs_)); have n2_ := Aside0.mk (Kd.R_mono (ok' := fun k_ => (P0_ k_ ∨ w.heap.size ≤ k_)) ho0 (fun k_ hk_ => Or.elim hk_ (fun hs_ => (HO713.out.1 k_ (hs_).symm)) (fun hn_ => (.inr (Nat.le_trans Y35 hn_))))); have n3_ := Aside0.mk (Kept.then_ (S := (fun k_ => P0_ k_)) Y2 hkp (fun k_ hs_ => (fun e_ => (HO713.out.1 k_ e_.symm)) hs_)); have n4_ := Aside0.mk (hb); clear HO_659004; clear BK658; clear HK; clear HB; clear HO713; clear HL729_3; clear HL729_4; have HO_659004 := n0_; have BK658 := n1_; have HO732 := n2_; have HK := n3_; have HB := n4_; clear n0_ n1_ n2_ n3_ n4_; (try clear hb); (try clear hkp); (try clear ho0)))
   go_roundg k2
   case measure => have := HJ14.out; have := HK2.out; omega
   case rel => exact ⟨(t730), (wrap64 (x46_2 + 1)), Y9, H', ⟨Y16⟩, ⟨pR HO732.out⟩, ⟨Y33⟩, ⟨pB BK658.out⟩, ⟨Y2⟩, ⟨Y5⟩⟩
  rw [if_pos c70] at H
  have c70b0 := beq_iff_eq.mpr c70
  have c70b1 := bne_eq_false_iff_eq.mpr c70
  clear c70
  (first | rw [c70b0] | (simp only [i64_w, i32_w]; rw [c70b0]) | skip)
  by_cases c71 : 0 ≤ x46_2
  rotate_left
  ·
   rw [if_neg c71] at H
   exact absurd H Y4
  rw [if_pos c71] at H
  have c71b0 := decide_eq_true c71
  clear c71
  by_cases c72 : x46_2 < (l2_3.length : Int)
  rotate_left
  ·
   rw [if_neg c72] at H
   exact absurd H Y4
  rw [if_pos c72] at H
  have c72b0 := decide_eq_true c72
  clear c72
  by_cases c73 : 0 ≤ ((rd_T55 l2_3 x46_2).f0)
  rotate_left
  ·
   rw [if_neg c73] at H
   exact absurd H Y4
  rw [if_pos c73] at H
  have c73b0 := eq_true c73
  have c73b1 := decide_eq_true c73
  clear c73
  by_cases c74 : ((rd_T55 l2_3 x46_2).f0) ≤ ((rd_T55 l2_3 x46_2).f1)
  rotate_left
  ·
   rw [if_neg c74] at H
   exact absurd H Y4
  rw [if_pos c74] at H
  have c74b0 := eq_true c74
  have c74b1 := decide_eq_true c74
  clear c74
  by_cases c75 : ((rd_T55 l2_3 x46_2).f1) ≤ (a1.size : Int)
  rotate_left
  ·
   rw [if_neg c75] at H
   exact absurd H Y4
  rw [if_pos c75] at H
  have c75b0 := eq_true c75
  have c75b1 := decide_eq_true c75
  clear c75
  by_cases c76 : y711.length + (a1.extract (((rd_T55 l2_3 x46_2).f0) : Int).toNat (((rd_T55 l2_3 x46_2).f1) : Int).toNat).size < 140737488355328
  rotate_left
  ·
   rw [if_neg c76] at H
   exact absurd H Y4
  rw [if_pos c76] at H
  have LMc76 := Aside0.mk c76
  clear c76
  obtain ⟨y716, hy716⟩ : ∃ y_ : List Int, y_ = (y711 ++ bytesOf (a1.extract (((rd_T55 l2_3 x46_2).f0) : Int).toNat (((rd_T55 l2_3 x46_2).f1) : Int).toNat)) := ⟨_, rfl⟩
  first | replace H := bind_y hy716 H | rw [← hy716] at H
  have Ny716 := Aside0.mk hy716
  clear hy716
  obtain ⟨y719, hy719⟩ : ∃ y_ : List Int, y_ = (([58, 32] : List Int)) := ⟨_, rfl⟩
  first | replace H := bind_y hy719 H | rw [← hy719] at H
  have Ny719 := Aside0.mk hy719
  clear hy719
  by_cases c77 : y716.length + y719.length < 140737488355328
  rotate_left
  ·
   rw [if_neg c77] at H
   exact absurd H Y4
  rw [if_pos c77] at H
  have LMc77 := Aside0.mk c77
  clear c77
  obtain ⟨y722, hy722⟩ : ∃ y_ : List Int, y_ = (y716 ++ y719) := ⟨_, rfl⟩
  first | replace H := bind_y hy722 H | rw [← hy722] at H
  have Ny722 := Aside0.mk hy722
  clear hy722
  by_cases c78 : x46_2 < (l2_4.length : Int)
  rotate_left
  ·
   rw [if_neg c78] at H
   exact absurd H Y4
  rw [if_pos c78] at H
  have c78b0 := decide_eq_true c78
  clear c78
  by_cases c79 : a3.size + a4.size ≤ 9223372036854775807
  rotate_left
  ·
   rw [if_neg c79] at H
   exact absurd H Y4
  rw [if_pos c79] at H
  have c79b0 := eq_true c79
  have c79b1 := decide_eq_true c79
  try have c79b2 : (9223372036854775807 < a3.size + a4.size) = False := eq_false (Nat.not_lt.2 c79)
  replace H := Option.bind_eq_some_iff.mp H
  obtain ⟨t726, A800, H⟩ := H
  have A80 := Aside0.mk A800
  clear A800
  have H' := Aside0.mk H
  clear H
  try go_wp2
  have n0_ := Aside0.mk (Kd.V_drew HO_659004.out)
  have n1_ := Aside0.mk (Kd.R_drew HO713.out)
  have n2_ := Aside0.mk (blk_drew BK658.out)
  have n3_ := Aside0.mk (Kept.drew HK.out)
  have n4_ := Aside0.mk (below_drew1 HB.out)
  clear HO_659004; clear HO713; clear BK658; clear HK; clear HB
  have HO_659004 := n0_
  have HO713 := n1_
  have BK658 := n2_
  have HK := n3_
  have HB := n4_
  clear n0_ n1_ n2_ n3_ n4_
  have p714 : 0 ≤ (x46_2 : Int) := of_decide_eq_true Y8
  have q714 : x46_2 < (l2_3.length : Int) := of_decide_eq_true Y8
  obtain ⟨ad714, e714, hx714_0, hx714_1⟩ := at_T55 (Kd.C_kept_now HR2_3.out HK.out) x46_2 p714 q714
  have hw714_1 := hx714_1
  have hw714_0 := hx714_0
  cases e714
  replace p714 := eq_true p714
  replace q714 := eq_true q714
  have p715 : 0 ≤ (x46_2 : Int) := of_decide_eq_true Y8
  have q715 : x46_2 < (l2_3.length : Int) := of_decide_eq_true Y8
  obtain ⟨ad715, e715, hx715_0, hx715_1⟩ := at_T55 (Kd.C_kept_now HR2_3.out HK.out) x46_2 p715 q715
  have hw715_1 := hx715_1
  have hw715_0 := hx715_0
  obtain rfl : ad714 = ad715 := (by injection e715)
  replace p715 := eq_true p715
  replace q715 := eq_true q715
  refine start_ (n := 17) (S := fun w' => w'.cell? ⟨gb658, 0, none⟩ = some (.int .i64 a2_0) ∧ w'.cell? ⟨gb658, 1, none⟩ = some (.int .i64 a2_1) ∧ w'.cell? ⟨gb658, 2, none⟩ = some (.int .i64 a2_2) ∧ w'.cell? ⟨gb658, 3, none⟩ = some (.slice (some ad714) l2_3.length c2_3) ∧ w'.cell? ⟨gb658, 4, none⟩ = some (.slice A2_4 l2_4.length c2_4) ∧ w'.cell? (ad714.add ((x46_2).toNat * 2)) = some (.int .i64 ((rd_T55 l2_3 x46_2).f0)) ∧ w'.cell? ⟨(ad714.add ((x46_2).toNat * 2)).block, (ad714.add ((x46_2).toNat * 2)).off + 1, none⟩ = some (.int .i64 ((rd_T55 l2_3 x46_2).f1)) ∧ w'.cell? (ad714.add ((x46_2).toNat * 2)) = some (.int .i64 ((rd_T55 l2_3 x46_2).f0)) ∧ w'.cell? ⟨(ad714.add ((x46_2).toNat * 2)).block, (ad714.add ((x46_2).toNat * 2)).off + 1, none⟩ = some (.int .i64 ((rd_T55 l2_3 x46_2).f1))) (ds := [15]) #[false, false, false, false, false, false, false, false, false, false, false, false, false, false, false, false, false] Y0 rfl rfl ⟨(blk_cell BK658.out 0).trans rfl, (blk_cell BK658.out 1).trans rfl, (blk_cell BK658.out 2).trans rfl, (blk_cell BK658.out 3).trans rfl, (blk_cell BK658.out 4).trans rfl, hx714_0, hx714_1, hx715_0, hx715_1⟩ (fun hHeld => ?_); refine with_tabW spec_laidTo.tab18 spec_laidTo.bits18 (fun HT_ HW_ => ?_)
  generalize w68.drew = w81 at HO_659004 HO713 BK658 HK HB hx714_0 hx714_1 hx715_0 hx715_1 hHeld ⊢
  refine pure_ (i := 0) (N := some 66) (v := ?_) (a' := ?_) #[true, false, false, false, false, false, false, false, false, false, false, false, false, false, false, false, false] rfl rfl (any_of HT_.out Y0) (fun _ _ _ h => h) (Or.inl ⟨Y1, ?_⟩) ?_ ?_
  rotate_left
  ·
   intro w'
   go_simp
   with_reducible rfl
  rotate_left
  ·
   simp only [Act.put, List.setIfInBounds_toArray, List.set_cons_zero, List.set_cons_succ, i64_w, i32_w]
   rfl
  refine pure_ (i := 1) (N := some 67) (v := ?_) (a' := ?_) #[true, true, false, false, false, false, false, false, false, false, false, false, false, false, false, false, false] rfl rfl (any_of HT_.out Y0) (fun _ _ _ h => h) (Or.inl ⟨Y1, ?_⟩) ?_ ?_
  rotate_left
  ·
   intro w'
   go_simp
   with_reducible rfl
  rotate_left
  ·
   simp only [Act.put, List.setIfInBounds_toArray, List.set_cons_zero, List.set_cons_succ, i64_w, i32_w]
   rfl
  refine pure_ (i := 2) (N := some 68) (v := ?_) (a' := ?_) #[true, true, true, false, false, false, false, false, false, false, false, false, false, false, false, false, false] rfl rfl (any_of HT_.out Y0) (fun _ _ _ h => h) (Or.inl ⟨Y1, ?_⟩) ?_ ?_
  rotate_left
  ·
   intro w'
   go_simp
   with_reducible rfl
  rotate_left
  ·
   simp only [Act.put, List.setIfInBounds_toArray, List.set_cons_zero, List.set_cons_succ, i64_w, i32_w]
   rfl
  refine pure_ (i := 4) (N := some 70) (v := ?_) (a' := ?_) #[true, true, true, false, true, false, false, false, false, false, false, false, false, false, false, false, false] rfl rfl (any_of HT_.out Y0) (fun _ _ _ h => h) (Or.inl ⟨Y1, ?_⟩) ?_ ?_
  rotate_left
  ·
   intro w'
   go_simp
   with_reducible rfl
  rotate_left
  ·
   simp only [Act.put, List.setIfInBounds_toArray, List.set_cons_zero, List.set_cons_succ, i64_w, i32_w]
   rfl
  refine pure_ (i := 8) (N := some 74) (v := ?_) (a' := ?_) #[true, true, true, false, true, false, false, false, true, false, false, false, false, false, false, false, false] rfl rfl (any_of HT_.out Y0) (fun _ _ _ h => h) (Or.inl ⟨Y1, ?_⟩) ?_ ?_
  rotate_left
  ·
   intro w'
   go_simp
   with_reducible rfl
  rotate_left
  ·
   simp only [Act.put, List.setIfInBounds_toArray, List.set_cons_zero, List.set_cons_succ, i64_w, i32_w]
   rfl
  refine pure_ (i := 10) (N := some 76) (v := ?_) (a' := ?_) #[true, true, true, false, true, false, false, false, true, false, true, false, false, false, false, false, false] rfl rfl (any_of HT_.out Y0) (fun _ _ _ h => h) (Or.inl ⟨Y1, ?_⟩) ?_ ?_
  rotate_left
  ·
   intro w'
   go_simp
   with_reducible rfl
  rotate_left
  ·
   simp only [Act.put, List.setIfInBounds_toArray, List.set_cons_zero, List.set_cons_succ, i64_w, i32_w]
   rfl
  refine take_ (i := 3) (N := some 69) (v := ?_) (a' := ?_) #[true, true, true, true, true, false, false, false, true, false, true, false, false, false, false, false, false] rfl rfl (take_ofW HT_.out HW_.out Y0) (fun _ _ _ h => h) (Or.inl ⟨Y1, ?_⟩) hHeld ?_ ?_
  rotate_left
  ·
   rintro w' ⟨s0, s1, s2, s3, s4, s5, s6, s7, s8⟩
   go_simp
   with_reducible rfl
  rotate_left
  ·
   simp only [Act.put, List.setIfInBounds_toArray, List.set_cons_zero, List.set_cons_succ, i64_w, i32_w]
   rfl
  refine pure_ (i := 5) (N := some 71) (v := ?_) (a' := ?_) #[true, true, true, true, true, true, false, false, true, false, true, false, false, false, false, false, false] rfl rfl (any_of HT_.out Y0) (fun _ _ _ h => h) (Or.inl ⟨Y1, ?_⟩) ?_ ?_
  rotate_left
  ·
   intro w'
   go_simp
   with_reducible rfl
  rotate_left
  ·
   simp only [Act.put, List.setIfInBounds_toArray, List.set_cons_zero, List.set_cons_succ, i64_w, i32_w]
   rfl
  refine pure_ (i := 6) (N := some 72) (v := ?_) (a' := ?_) #[true, true, true, true, true, true, true, false, true, false, true, false, false, false, false, false, false] rfl rfl (any_of HT_.out Y0) (fun _ _ _ h => h) (Or.inl ⟨Y1, ?_⟩) ?_ ?_
  rotate_left
  ·
   intro w'
   go_simp
   with_reducible rfl
  rotate_left
  ·
   simp only [Act.put, List.setIfInBounds_toArray, List.set_cons_zero, List.set_cons_succ, i64_w, i32_w]
   rfl
  refine take_ (i := 7) (N := some 73) (v := ?_) (a' := ?_) #[true, true, true, true, true, true, true, true, true, false, true, false, false, false, false, false, false] rfl rfl (take_ofW HT_.out HW_.out Y0) (fun _ _ _ h => h) (Or.inl ⟨Y1, ?_⟩) hHeld ?_ ?_
  rotate_left
  ·
   rintro w' ⟨s0, s1, s2, s3, s4, s5, s6, s7, s8⟩
   go_simp
   with_reducible rfl
  rotate_left
  ·
   simp only [Act.put, List.setIfInBounds_toArray, List.set_cons_zero, List.set_cons_succ, i64_w, i32_w]
   rfl
  refine take_ (i := 9) (N := some 75) (v := ?_) (a' := ?_) #[true, true, true, true, true, true, true, true, true, true, true, false, false, false, false, false, false] rfl rfl (take_ofW HT_.out HW_.out Y0) (fun _ _ _ h => h) (Or.inl ⟨Y1, ?_⟩) hHeld ?_ ?_
  rotate_left
  ·
   rintro w' ⟨s0, s1, s2, s3, s4, s5, s6, s7, s8⟩
   go_simp
   with_reducible rfl
  rotate_left
  ·
   simp only [Act.put, List.setIfInBounds_toArray, List.set_cons_zero, List.set_cons_succ, i64_w, i32_w]
   rfl
  refine pure_ (i := 11) (N := some 77) (v := ?_) (a' := ?_) #[true, true, true, true, true, true, true, true, true, true, true, true, false, false, false, false, false] rfl rfl (any_of HT_.out Y0) (fun _ _ _ h => h) (Or.inl ⟨Y1, ?_⟩) ?_ ?_
  rotate_left
  ·
   intro w'
   go_simp
   with_reducible rfl
  rotate_left
  ·
   simp only [Act.put, List.setIfInBounds_toArray, List.set_cons_zero, List.set_cons_succ, i64_w, i32_w]
   rfl
  refine pure_ (i := 12) (N := some 78) (v := ?_) (a' := ?_) #[true, true, true, true, true, true, true, true, true, true, true, true, true, false, false, false, false] rfl rfl (any_of HT_.out Y0) (fun _ _ _ h => h) (Or.inl ⟨Y1, ?_⟩) ?_ ?_
  rotate_left
  ·
   intro w'
   go_simp
   with_reducible rfl
  rotate_left
  ·
   simp only [Act.put, List.setIfInBounds_toArray, List.set_cons_zero, List.set_cons_succ, i64_w, i32_w]
   rfl
  refine take_ (i := 13) (N := some 79) (v := ?_) (a' := ?_) #[true, true, true, true, true, true, true, true, true, true, true, true, true, true, false, false, false] rfl rfl (take_ofW HT_.out HW_.out Y0) (fun _ _ _ h => h) (Or.inl ⟨Y1, ?_⟩) hHeld ?_ ?_
  rotate_left
  ·
   rintro w' ⟨s0, s1, s2, s3, s4, s5, s6, s7, s8⟩
   go_simp
   with_reducible rfl
  rotate_left
  ·
   simp only [Act.put, List.setIfInBounds_toArray, List.set_cons_zero, List.set_cons_succ, i64_w, i32_w]
   rfl
  refine pure_ (i := 14) (N := some 80) (v := ?_) (a' := ?_) #[true, true, true, true, true, true, true, true, true, true, true, true, true, true, true, false, false] rfl rfl (any_of HT_.out Y0) (fun _ _ _ h => h) (Or.inl ⟨Y1, ?_⟩) ?_ ?_
  rotate_left
  ·
   intro w'
   go_simp
   with_reducible rfl
  rotate_left
  ·
   simp only [Act.put, List.setIfInBounds_toArray, List.set_cons_zero, List.set_cons_succ, i64_w, i32_w]
   rfl
  refine last_ (i := 15) (N := some 81) #[true, true, true, true, true, true, true, true, true, true, true, true, true, true, true, true, false] rfl rfl (one_of HT_.out Y0) Y3 (fun K hK => ?_)
  refine Kd.R_append_str_step (w0 := w0) w0.heap.size Y1 (.tmp 66) _ 40 9 5 rfl Try.underlying40 Try.underlying9 info5 v712 y711 (a1.extract (((rd_T55 l2_3 x46_2).f0) : Int).toNat (((rd_T55 l2_3 x46_2).f1) : Int).toNat) (fun k_ => (P0_ k_ ∨ w.heap.size ≤ k_)) rfl rfl ?aF ?aO ?aB ?aS ?aL ?_
  (case aB => exact Y5)
  (case aF => exact (fun k_ hk => (.inr (Nat.le_trans Y35 hk))))
  (case aO => exact (pR HO713.out))
  (case aS => exact (below_size Y5))
  (case aL => have := LMc76.out; omega)
  intro v717 w82 ho hb hg hat
  rw [← Ny716.out] at ho
  have n0_ := Aside0.mk (Kd.V_afterv (ok := (fun k_ => ((P0_ k_ ∨ P2_4_ k_) ∨ w.heap.size ≤ k_) ∧ k_ ≠ gb658)) (pV HO_659004.out) hg hat)
  have n1_ := Aside0.mk (blk_grown (g := gb658) (o := .cells #[.int .i64 a2_0, .int .i64 a2_1, .int .i64 a2_2, .slice (some ad714) l2_3.length c2_3, .slice A2_4 l2_4.length c2_4] 28 (0, 0)) (pB BK658.out) hg (Kd.R_ne HO713.out BK658.out Y3))
  have n2_ := Aside0.mk (hb)
  have n3_ := Aside0.mk (Kept.of_grown (S := (fun k_ => P0_ k_)) hg Y2 (fun k_ e_ => (HO713.out.1 k_ e_)))
  have n4_ := Aside0.mk (ho)
  clear HO_659004; clear BK658; clear HB; clear HK; clear HO713
  have HO_659004 := n0_
  have BK658 := n1_
  have HB := n2_
  have HK := n3_
  have HO718 := n4_
  clear n0_ n1_ n2_ n3_ n4_; clear ho hb hg hat
  refine hK.out _ _ ?_
  clear hK K
  refine norm_ (a' := ?_) ?_ ?_
  rotate_left
  ·
   show Act.put _ (some 81) _ = _
   simp only [Act.put, List.setIfInBounds_toArray, List.set_cons_zero, List.set_cons_succ, i64_w, i32_w]
   rfl
  refine pure_ (i := 16) (N := some 0) (v := ?_) (a' := ?_) #[true, true, true, true, true, true, true, true, true, true, true, true, true, true, true, true, true] rfl rfl (any_of HT_.out Y0) (fun _ _ _ h => h) (Or.inl ⟨Y1, ?_⟩) ?_ ?_
  rotate_left
  ·
   intro w'
   go_simp
   with_reducible rfl
  rotate_left
  ·
   simp only [Act.put, List.setIfInBounds_toArray, List.set_cons_zero, List.set_cons_succ, i64_w, i32_w]
   rfl
  refine done_ (done_of HT_.out Y0) ?_
  try go_wp2_with (first | ((with_reducible refine gate_dst (N := 83) rfl ?_); refine Kd.R_lit (Kd.int .u8) _ 5 ?hg (N := 83) ?hd (xs := ([58, 32] : List Int)) (inner := [.int .u8 58, .int .u8 32]) (ok := fun _ => True) (okp := fun _ => True) ?hr ?hp (fun _ hk => hk) trivial (Below.refl _ _) (Nat.le_refl _) Y4 ?_; (case hd => exact Y1); (case hg => exact Y1); (case hr => exact Y12); (case hp => exact (Reps.one (show Kd.M (Kd.int .u8) _ _ _ 58 [.int .u8 58] from rfl) (Reps.one (show Kd.M (Kd.int .u8) _ _ _ 32 [.int .u8 32] from rfl) (Reps.none _ _)))); intro v720 w83 ho84 hb hg_ hnew_; clear hg_ hnew_; (first | rw [← Ny719.out] at ho84 | (simp only [Int.reduceToNat] at ho84; rw [← Ny719.out] at ho84)); have n0_ := Aside0.mk (Kd.V_elder' (pV HO_659004.out) (Kd.R_base ho84) hb); have n1_ := Aside0.mk (Kd.R_elder' (pR HO718.out) (Kd.R_base ho84) hb); have n2_ := Aside0.mk (Kd.R_lower (Kd.R_new' (Kd.R_newM (M := fun k_ => (P0_ k_ ∨ w.heap.size ≤ k_)) ho84 Y35 (fun k_ h_ => .inr h_)) (Kd.R_lt (pR HO718.out))) (below_size Y5)); have n3_ := Aside0.mk (blk_below (g := gb658) (o := .cells #[.int .i64 a2_0, .int .i64 a2_1, .int .i64 a2_2, .slice (some ad714) l2_3.length c2_3, .slice A2_4 l2_4.length c2_4] 28 (0, 0)) (pB BK658.out) hb); have n4_ := Aside0.mk (Kept.below (S := (fun k_ => P0_ k_)) Y2 hb); have n5_ := Aside0.mk (below_step Y5 hb); clear HO_659004; clear HO718; clear BK658; clear HK; clear HB; have HO_659004 := n0_; have HO718 := n1_; have HO721 := n2_; have BK658 := n3_; have HK := n4_; have HB := n5_; clear n0_ n1_ n2_ n3_ n4_ n5_; clear hb ho84; obtain ⟨Ao86, co86, eo86⟩ := Kd.R_slice HO721.out; subst eo86) | ((with_reducible refine gate_builtin (b := .append) (xs := #[.tmp 82, .tmp 83]) rfl ?_); at_builtin; refine Kd.R_append_rows (Kd.int .u8) (w0 := w0) w0.heap.size rfl (.tmp 82) (.tmp 83) 40 5 (.int .u8 0) 1 rfl Try.underlying40 info5 rfl Y3 Y7 v717 y716 y719 _ _ _ (fun k_ => (P0_ k_ ∨ w.heap.size ≤ k_) ∧ some k_ ≠ (.slice Ao86 y719.length co86 : Value).ownBlock) (fun _ => False) rfl rfl ?aO ?aR (fun _ _ h => h) (fun _ h => h.elim) ?aF ?aB ?aS ?aL ?_; (case aR => repeat (first | exact (Kd.R_reads' HO721.out).2.2 | (with_reducible refine Kd.C_alloc ?_ _) | (with_reducible refine Kd.C_drewN ?_ _) | (with_reducible refine Kd.C_drew ?_))); (case aB => exact Y5); (case aF => exact (fun k_ hk => ⟨(.inr (Nat.le_trans Y35 hk)), Kd.fresh' (Kd.R_lt (pR HO721.out)) k_ hk⟩)); (case aO => exact (pR HO718.out)); (case aS => exact (below_size Y5)); (case aL => have := LMc77.out; omega); intro v723 w85 ho hb hg hat; rw [← Ny722.out] at ho; have n0_ := Aside0.mk (Kd.V_afterv (ok := (fun k_ => ((P0_ k_ ∨ P2_4_ k_) ∨ w.heap.size ≤ k_) ∧ some k_ ≠ (.slice Ao86 y719.length co86 : Value).ownBlock ∧ k_ ≠ gb658)) Y31 hg hat); have n1_ := Aside0.mk (blk_grown (g := gb658) (o := .cells #[.int .i64 a2_0, .int .i64 a2_1, .int .i64 a2_2, .slice (some ad714) l2_3.length c2_3, .slice A2_4 l2_4.length c2_4] 28 (0, 0)) (pB BK658.out) hg (Kd.R_ne HO718.out BK658.out Y3)); have n2_ := Aside0.mk (Kd.R_after (ok := (fun k_ => (P0_ k_ ∨ w.heap.size ≤ k_))) (by (with_reducible repeat (first | apply Kd.R_alloc | apply Kd.R_drewN | apply Kd.R_drew)); exact Kd.R_mono HO721.out (fun _ hk => ⟨hk.1.1, hk.2⟩)) hg hat); have n3_ := Aside0.mk (hb); have n4_ := Aside0.mk (Kept.of_grown (S := (fun k_ => P0_ k_)) hg Y2 (fun k_ e_ => (HO718.out.1 k_ e_).1)); have n5_ := Aside0.mk (ho); clear HO_659004; clear BK658; clear HO721; clear HB; clear HK; clear HO718; have HO_659004 := n0_; have BK658 := n1_; have HO721 := n2_; have HB := n3_; have HK := n4_; have HO724 := n5_; clear n0_ n1_ n2_ n3_ n4_ n5_; clear ho hb hg hat; have hcz87_0 : w85.cell? ⟨gb658, 0, none⟩ = some (.int .i64 a2_0) := (blk_cell BK658.out 0).trans rfl; have hcz87_1 : w85.cell? ⟨gb658, 1, none⟩ = some (.int .i64 a2_1) := (blk_cell BK658.out 1).trans rfl; have hcz87_2 : w85.cell? ⟨gb658, 2, none⟩ = some (.int .i64 a2_2) := (blk_cell BK658.out 2).trans rfl; have hcz87_3 : w85.cell? ⟨gb658, 3, none⟩ = some (.slice (some ad714) l2_3.length c2_3) := (blk_cell BK658.out 3).trans rfl; have hcz87_4 : w85.cell? ⟨gb658, 4, none⟩ = some (.slice A2_4 l2_4.length c2_4) := (blk_cell BK658.out 4).trans rfl; have hfz87_0 := blk_frozen BK658.out 0; have hfz87_1 := blk_frozen BK658.out 1; have hfz87_2 := blk_frozen BK658.out 2; have hfz87_3 := blk_frozen BK658.out 3; have hfz87_4 := blk_frozen BK658.out 4; have p725 : 0 ≤ (x46_2 : Int) := of_decide_eq_true Y8; have q725 : x46_2 < (l2_4.length : Int) := of_decide_eq_true Y8; obtain ⟨ad725, A725_3, c725_3, A725_4, c725_4, e725, hx725_0, hx725_1, hx725_2, hx725_3, hx725_4, hl725_3, hi725_3, hl725_4, hi725_4⟩ := at_T28 (Kd.V_reads' HO_659004.out).2.2 x46_2 p725 q725; cases e725; obtain ⟨ce725, hce725, hMe725, hcc725⟩ := Kd.V_get HO_659004.out z28 x46_2 p725 (by first | exact q725 | exact of_decide_eq_true Y8 | (have e_ := (Kd.V_reads' HO_659004.out).1; omega)); obtain ⟨ua725_3, uc725_3, ua725_4, uc725_4, rfl, ul725_3, ge725_3, ul725_4, ge725_4⟩ := k28_openF hMe725; have hv725_3 := hcc725 3 _ rfl; rw [add_field _ _ 3 Y7] at hv725_3; replace hv725_3 := Option.some.inj (hv725_3.symm.trans hx725_3); injection hv725_3 with hva_ hvn_ hvc_; rw [hva_] at ge725_3; rw [hvc_] at ul725_3; have HL725_3 := Aside0.mk (show Kd.V k55 55 _ w0.heap.size _ _ ((rd_T28 l2_4 x46_2).f3) from Kd.V_mk ul725_3 ge725_3); clear hva_ hvn_ hvc_ ge725_3 ul725_3; have hv725_4 := hcc725 4 _ rfl; rw [add_field _ _ 4 Y7] at hv725_4; replace hv725_4 := Option.some.inj (hv725_4.symm.trans hx725_4); injection hv725_4 with hva_ hvn_ hvc_; rw [hva_] at ge725_4; rw [hvc_] at ul725_4; have HL725_4 := Aside0.mk (show Kd.V k28 28 _ w0.heap.size _ _ ((rd_T28 l2_4 x46_2).f4) from Kd.V_mk ul725_4 ge725_4); clear hva_ hvn_ hvc_ ge725_4 ul725_4; clear hcc725 hce725; have HR725_3 := Aside0.mk hi725_3; have HC725_3 := Aside0.mk hl725_3; clear hi725_3 hl725_3; have HR725_4 := Aside0.mk hi725_4; have HC725_4 := Aside0.mk hl725_4; clear hi725_4 hl725_4; replace p725 := eq_true p725; replace q725 := eq_true q725; obtain ⟨Ao88, co88, eo88⟩ := Kd.R_slice HO724.out; subst eo88) | ((with_reducible refine gate_callee (f := 14) rfl ?_); refine goesL_ (some 97) rfl rfl Try.func14 Y0 rfl #[.slice Ao88 y722.length co88, .string a1, .agg #[.int .i64 ((rd_T28 l2_4 x46_2).f0), .int .i64 ((rd_T28 l2_4 x46_2).f1), .int .i64 ((rd_T28 l2_4 x46_2).f2), .slice A725_3 ((rd_T28 l2_4 x46_2).f3).length c725_3, .slice A725_4 ((rd_T28 l2_4 x46_2).f4).length c725_4], .string (a3 ++ a4), .string a4, .bool false] rfl Y11 ?_; (with_reducible refine (ih k2 Y16 (fun k_ => some k_ = (.slice Ao88 y722.length co88 : Value).ownBlock) (.slice Ao88 y722.length co88) y722 a1 ((rd_T28 l2_4 x46_2).f0) ((rd_T28 l2_4 x46_2).f1) ((rd_T28 l2_4 x46_2).f2) _ _ ((rd_T28 l2_4 x46_2).f3) (fun k_ => ((((P0_ k_ ∨ P2_4_ k_) ∨ w.heap.size ≤ k_) ∧ (some k_ ≠ (.slice Ao86 y719.length co86 : Value).ownBlock ∧ k_ ≠ gb658)) ∧ some k_ ≠ (.slice Ao88 y722.length co88 : Value).ownBlock)) _ _ ((rd_T28 l2_4 x46_2).f4) (a3 ++ a4) a4  t726 w0 _ ?side1 ?side2 ?side3 ?side4 ?side5 A80.out).mono ?_); (case side1 => exact Y5); (case side2 => exact Kd.R_tight rfl HO724.out); (case side3 => exact Kd.C_kept_ownV (HL725_3.out) (fun k_ hk_ hs_ => (hk_.2) hs_)); (case side4 => exact HC725_3.out); (case side5 => exact Kd.V_mono (HL725_4.out) (fun k_ hk_ => ⟨hk_, hk_.2⟩)); rintro e w89 ⟨v727, rfl, ho0, hb, hkp⟩; refine ⟨_, rfl, ?_⟩; have n0_ := Aside0.mk (Kd.V_mono (ok' := fun k_ => ((P0_ k_ ∨ P2_4_ k_) ∨ w.heap.size ≤ k_) ∧ some k_ ≠ (.slice Ao86 y719.length co86 : Value).ownBlock ∧ k_ ≠ gb658 ∧ some k_ ≠ (v727 : Value).ownBlock) (Kd.V_keptB (HO_659004.out) hkp (fun k_ hk_ hs_ => (hk_.2) hs_)) (fun k_ hk_ => ⟨hk_.1.1.1, hk_.1.1.2.1, hk_.1.1.2.2, fun e_ => Or.elim (ho0.1 k_ e_.symm) (fun hs_ => hk_.2.1 hs_) (fun hn_ => Nat.not_le.2 hk_.2.2 hn_)⟩)); have n1_ := Aside0.mk (blk_kept (pB BK658.out) hkp (fun hs_ => (fun e_ => (Kd.R_ne HO724.out BK658.out Y3) e_) hs_)); have n2_ := Aside0.mk (Kd.R_mono (ok' := fun k_ => (P0_ k_ ∨ w.heap.size ≤ k_) ∧ some k_ ≠ (v727 : Value).ownBlock) (Kd.R_keptB (HO721.out) hkp (fun k_ hk_ hs_ => (hk_.2) hs_)) (fun k_ hk_ => ⟨hk_.1.1, fun e_ => Or.elim (ho0.1 k_ e_.symm) (fun hs_ => hk_.2.1 hs_) (fun hn_ => Nat.not_le.2 hk_.2.2 hn_)⟩)); have n3_ := Aside0.mk (Kd.R_mono (ok' := fun k_ => (P0_ k_ ∨ w.heap.size ≤ k_) ∧ some k_ ≠ (.slice Ao86 y719.length co86 : Value).ownBlock) ho0 (fun k_ hk_ => ⟨Or.elim hk_ (fun hs_ => (HO724.out.1 k_ (hs_).symm).1) (fun hn_ => (.inr (Nat.le_trans Y35 hn_))), Or.elim hk_ (fun hs_ => fun e_ => (((HO721.out).1 k_ e_.symm).2) hs_) (fun hn_ => (Kd.fresh' (Kd.R_lt (pR HO721.out)) k_ hn_))⟩)); have n4_ := Aside0.mk (Kept.then_ (S := (fun k_ => P0_ k_)) Y2 hkp (fun k_ hs_ => (fun e_ => (HO724.out.1 k_ e_.symm).1) hs_)); have n5_ := Aside0.mk (hb); clear HO_659004; clear BK658; clear HO721; clear HK; clear HB; clear HO724; clear HL725_3; clear HL725_4; have HO_659004 := n0_; have BK658 := n1_; have HO721 := n2_; have HO728 := n3_; have HK := n4_; have HB := n5_; clear n0_ n1_ n2_ n3_ n4_ n5_; (try clear hb); (try clear hkp); (try clear ho0)))
  go_roundg k2
  case measure => have := HJ14.out; have := HK2.out; omega
  case rel => exact ⟨(t726), (wrap64 (x46_2 + 1)), Y9, H', ⟨Y16⟩, ⟨by (with_reducible repeat (first | apply Kd.R_alloc | apply Kd.R_drewN | apply Kd.R_drew)); exact Kd.R_mono HO728.out (fun _ hk => hk.1)⟩, ⟨Y32⟩, ⟨pB BK658.out⟩, ⟨Y2⟩, ⟨Y5⟩⟩
 rw [if_pos c24] at H
 have c24b0 := decide_eq_true c24
 clear c24
 by_cases c25 : x0_2.length < 140737488355328
 rotate_left
 ·
  rw [if_neg c25] at H
  exact absurd H Y4
 rw [if_pos c25] at H
 have LMc25 := Aside0.mk c25
 clear c25
 obtain ⟨y674, hy674⟩ : ∃ y_ : List Int, y_ = (x0_2 ++ [44]) := ⟨_, rfl⟩
 first | replace H := bind_y hy674 H | rw [← hy674] at H
 have Ny674 := Aside0.mk hy674
 clear hy674
 by_cases c26 : y674.length < 140737488355328
 rotate_left
 ·
  rw [if_neg c26] at H
  exact absurd H Y4
 rw [if_pos c26] at H
 have LMc26 := Aside0.mk c26
 clear c26
 obtain ⟨y677, hy677⟩ : ∃ y_ : List Int, y_ = (y674 ++ [10]) := ⟨_, rfl⟩
 first | replace H := bind_y hy677 H | rw [← hy677] at H
 have Ny677 := Aside0.mk hy677
 clear hy677
 by_cases c27 : y677.length + a3.size < 140737488355328
 rotate_left
 ·
  rw [if_neg c27] at H
  exact absurd H Y4
 rw [if_pos c27] at H
 have LMc27 := Aside0.mk c27
 clear c27
 obtain ⟨y680, hy680⟩ : ∃ y_ : List Int, y_ = (y677 ++ bytesOf a3) := ⟨_, rfl⟩
 first | replace H := bind_y hy680 H | rw [← hy680] at H
 have Ny680 := Aside0.mk hy680
 clear hy680
 by_cases c28 : y680.length + a4.size < 140737488355328
 rotate_left
 ·
  rw [if_neg c28] at H
  exact absurd H Y4
 rw [if_pos c28] at H
 have LMc28 := Aside0.mk c28
 clear c28
 obtain ⟨y683, hy683⟩ : ∃ y_ : List Int, y_ = (y680 ++ bytesOf a4) := ⟨_, rfl⟩
 first | replace H := bind_y hy683 H | rw [← hy683] at H
 have Ny683 := Aside0.mk hy683
 clear hy683
 have HC29 := Aside0.mk H
 clear H
 go_upto_if 65 with (first | ((with_reducible refine gate_builtin (b := .append) (xs := #[.tmp 51, .tmp 52]) rfl ?_); at_builtin; refine Kd.R_append (Kd.int .u8) (w0 := w0) w0.heap.size rfl (.tmp 51) (.tmp 52) 40 5 (.int .u8 0) 1 rfl Try.underlying40 info5 rfl Y3 Y7 u0 x0_2 44 [.int .u8 44] (fun k_ => (P0_ k_ ∨ w.heap.size ≤ k_)) (fun _ => False) rfl rfl ?aP (fun _ hk => hk.elim) ?aF ?aO ?aB ?aS ?aL ?_; (case aP => exact rfl); (case aB => exact Y5); (case aF => exact (fun k_ hk => (.inr (Nat.le_trans Y35 hk)))); (case aO => exact (pR HO_0.out)); (case aS => exact (below_size Y5)); (case aL => have := LMc25.out; omega); intro v675 w30 ho hb hg hat; rw [← Ny674.out] at ho; have n0_ := Aside0.mk (Kd.V_afterv (ok := (fun k_ => ((P0_ k_ ∨ P2_4_ k_) ∨ w.heap.size ≤ k_) ∧ k_ ≠ gb658)) Y19 hg hat); have n1_ := Aside0.mk (blk_grown (g := gb658) (o := .cells #[.int .i64 a2_0, .int .i64 a2_1, .int .i64 a2_2, .slice A2_3 l2_3.length c2_3, .slice A2_4 l2_4.length c2_4] 28 (0, 0)) (pB BK658.out) hg (Kd.R_ne HO_0.out BK658.out Y3)); have n2_ := Aside0.mk (hb); have n3_ := Aside0.mk (Kept.of_grown (S := (fun k_ => P0_ k_)) hg Y2 (fun k_ e_ => (HO_0.out.1 k_ e_))); have n4_ := Aside0.mk (ho); clear HO_659004; clear BK658; clear HB; clear HK; clear HO_0; have HO_659004 := n0_; have BK658 := n1_; have HB := n2_; have HK := n3_; have HO676 := n4_; clear n0_ n1_ n2_ n3_ n4_; clear ho hb hg hat) | ((with_reducible refine gate_builtin (b := .append) (xs := #[.tmp 54, .tmp 55]) rfl ?_); at_builtin; refine Kd.R_append (Kd.int .u8) (w0 := w0) w0.heap.size rfl (.tmp 54) (.tmp 55) 40 5 (.int .u8 0) 1 rfl Try.underlying40 info5 rfl Y3 Y7 v675 y674 10 [.int .u8 10] (fun k_ => (P0_ k_ ∨ w.heap.size ≤ k_)) (fun _ => False) rfl rfl ?aP (fun _ hk => hk.elim) ?aF ?aO ?aB ?aS ?aL ?_; (case aP => exact rfl); (case aB => exact Y5); (case aF => exact (fun k_ hk => (.inr (Nat.le_trans Y35 hk)))); (case aO => exact (pR HO676.out)); (case aS => exact (below_size Y5)); (case aL => have := LMc26.out; omega); intro v678 w31 ho hb hg hat; rw [← Ny677.out] at ho; have n0_ := Aside0.mk (Kd.V_afterv (ok := (fun k_ => ((P0_ k_ ∨ P2_4_ k_) ∨ w.heap.size ≤ k_) ∧ k_ ≠ gb658)) (pV HO_659004.out) hg hat); have n1_ := Aside0.mk (blk_grown (g := gb658) (o := .cells #[.int .i64 a2_0, .int .i64 a2_1, .int .i64 a2_2, .slice A2_3 l2_3.length c2_3, .slice A2_4 l2_4.length c2_4] 28 (0, 0)) (pB BK658.out) hg (Kd.R_ne HO676.out BK658.out Y3)); have n2_ := Aside0.mk (hb); have n3_ := Aside0.mk (Kept.of_grown (S := (fun k_ => P0_ k_)) hg Y2 (fun k_ e_ => (HO676.out.1 k_ e_))); have n4_ := Aside0.mk (ho); clear HO_659004; clear BK658; clear HB; clear HK; clear HO676; have HO_659004 := n0_; have BK658 := n1_; have HB := n2_; have HK := n3_; have HO679 := n4_; clear n0_ n1_ n2_ n3_ n4_; clear ho hb hg hat) | (at_builtin; refine Kd.R_append_str (w0 := w0) w0.heap.size rfl (.tmp 57) _ 40 9 5 rfl Try.underlying40 Try.underlying9 info5 v678 y677 a3 (fun k_ => (P0_ k_ ∨ w.heap.size ≤ k_)) rfl rfl ?aF ?aO ?aB ?aS ?aL ?_; (case aB => exact Y5); (case aF => exact (fun k_ hk => (.inr (Nat.le_trans Y35 hk)))); (case aO => exact (pR HO679.out)); (case aS => exact (below_size Y5)); (case aL => have := LMc27.out; omega); intro v681 w32 ho hb hg hat; rw [← Ny680.out] at ho; have n0_ := Aside0.mk (Kd.V_afterv (ok := (fun k_ => ((P0_ k_ ∨ P2_4_ k_) ∨ w.heap.size ≤ k_) ∧ k_ ≠ gb658)) (pV HO_659004.out) hg hat); have n1_ := Aside0.mk (blk_grown (g := gb658) (o := .cells #[.int .i64 a2_0, .int .i64 a2_1, .int .i64 a2_2, .slice A2_3 l2_3.length c2_3, .slice A2_4 l2_4.length c2_4] 28 (0, 0)) (pB BK658.out) hg (Kd.R_ne HO679.out BK658.out Y3)); have n2_ := Aside0.mk (hb); have n3_ := Aside0.mk (Kept.of_grown (S := (fun k_ => P0_ k_)) hg Y2 (fun k_ e_ => (HO679.out.1 k_ e_))); have n4_ := Aside0.mk (ho); clear HO_659004; clear BK658; clear HB; clear HK; clear HO679; have HO_659004 := n0_; have BK658 := n1_; have HB := n2_; have HK := n3_; have HO682 := n4_; clear n0_ n1_ n2_ n3_ n4_; clear ho hb hg hat) | (at_builtin; refine Kd.R_append_str (w0 := w0) w0.heap.size rfl (.tmp 60) _ 40 9 5 rfl Try.underlying40 Try.underlying9 info5 v681 y680 a4 (fun k_ => (P0_ k_ ∨ w.heap.size ≤ k_)) rfl rfl ?aF ?aO ?aB ?aS ?aL ?_; (case aB => exact Y5); (case aF => exact (fun k_ hk => (.inr (Nat.le_trans Y35 hk)))); (case aO => exact (pR HO682.out)); (case aS => exact (below_size Y5)); (case aL => have := LMc28.out; omega); intro v684 w33 ho hb hg hat; rw [← Ny683.out] at ho; have n0_ := Aside0.mk (Kd.V_afterv (ok := (fun k_ => ((P0_ k_ ∨ P2_4_ k_) ∨ w.heap.size ≤ k_) ∧ k_ ≠ gb658)) (pV HO_659004.out) hg hat); have n1_ := Aside0.mk (blk_grown (g := gb658) (o := .cells #[.int .i64 a2_0, .int .i64 a2_1, .int .i64 a2_2, .slice A2_3 l2_3.length c2_3, .slice A2_4 l2_4.length c2_4] 28 (0, 0)) (pB BK658.out) hg (Kd.R_ne HO682.out BK658.out Y3)); have n2_ := Aside0.mk (hb); have n3_ := Aside0.mk (Kept.of_grown (S := (fun k_ => P0_ k_)) hg Y2 (fun k_ e_ => (HO682.out.1 k_ e_))); have n4_ := Aside0.mk (ho); clear HO_659004; clear BK658; clear HB; clear HK; clear HO682; have HO_659004 := n0_; have BK658 := n1_; have HB := n2_; have HK := n3_; have HO685 := n4_; clear n0_ n1_ n2_ n3_ n4_; clear ho hb hg hat; have hcz34_0 : w33.cell? ⟨gb658, 0, none⟩ = some (.int .i64 a2_0) := (blk_cell BK658.out 0).trans rfl; have hcz34_1 : w33.cell? ⟨gb658, 1, none⟩ = some (.int .i64 a2_1) := (blk_cell BK658.out 1).trans rfl; have hcz34_2 : w33.cell? ⟨gb658, 2, none⟩ = some (.int .i64 a2_2) := (blk_cell BK658.out 2).trans rfl; have hcz34_3 : w33.cell? ⟨gb658, 3, none⟩ = some (.slice A2_3 l2_3.length c2_3) := (blk_cell BK658.out 3).trans rfl; have hcz34_4 : w33.cell? ⟨gb658, 4, none⟩ = some (.slice A2_4 l2_4.length c2_4) := (blk_cell BK658.out 4).trans rfl; have hfz34_0 := blk_frozen BK658.out 0; have hfz34_1 := blk_frozen BK658.out 1; have hfz34_2 := blk_frozen BK658.out 2; have hfz34_3 := blk_frozen BK658.out 3; have hfz34_4 := blk_frozen BK658.out 4))
 (try simp only [Act.put, List.setIfInBounds_toArray, List.set_cons_zero, List.set_cons_succ])
 have H := HC29.out
 clear HC29
 by_cases c35 : a2_0 = 6
 rotate_left
 ·
  rw [if_neg c35] at H
  have c35b0 := beq_eq_false_iff_ne.mpr c35
  have c35b1 := bne_iff_ne.mpr c35
  (first | rw [c35b0] | (simp only [i64_w, i32_w]; rw [c35b0]) | skip)
  by_cases c55 : 0 ≤ x46_2
  rotate_left
  ·
   rw [if_neg c55] at H
   exact absurd H Y4
  rw [if_pos c55] at H
  have c55b0 := decide_eq_true c55
  clear c55
  by_cases c56 : x46_2 < (l2_4.length : Int)
  rotate_left
  ·
   rw [if_neg c56] at H
   exact absurd H Y4
  rw [if_pos c56] at H
  have c56b0 := decide_eq_true c56
  clear c56
  by_cases c57 : a3.size + a4.size ≤ 9223372036854775807
  rotate_left
  ·
   rw [if_neg c57] at H
   exact absurd H Y4
  rw [if_pos c57] at H
  have c57b0 := eq_true c57
  have c57b1 := decide_eq_true c57
  try have c57b2 : (9223372036854775807 < a3.size + a4.size) = False := eq_false (Nat.not_lt.2 c57)
  replace H := Option.bind_eq_some_iff.mp H
  obtain ⟨t702, A580, H⟩ := H
  have A58 := Aside0.mk A580
  clear A580
  have H' := Aside0.mk H
  clear H
  have hcz59_0 : w33.cell? ⟨gb658, 0, none⟩ = some (.int .i64 a2_0) := (blk_cell BK658.out 0).trans rfl
  have hcz59_1 : w33.cell? ⟨gb658, 1, none⟩ = some (.int .i64 a2_1) := (blk_cell BK658.out 1).trans rfl
  have hcz59_2 : w33.cell? ⟨gb658, 2, none⟩ = some (.int .i64 a2_2) := (blk_cell BK658.out 2).trans rfl
  have hcz59_3 : w33.cell? ⟨gb658, 3, none⟩ = some (.slice A2_3 l2_3.length c2_3) := (blk_cell BK658.out 3).trans rfl
  have hcz59_4 : w33.cell? ⟨gb658, 4, none⟩ = some (.slice A2_4 l2_4.length c2_4) := (blk_cell BK658.out 4).trans rfl
  have hfz59_0 := blk_frozen BK658.out 0
  have hfz59_1 := blk_frozen BK658.out 1
  have hfz59_2 := blk_frozen BK658.out 2
  have hfz59_3 := blk_frozen BK658.out 3
  have hfz59_4 := blk_frozen BK658.out 4
  have p701 : 0 ≤ (x46_2 : Int) := of_decide_eq_true Y8
  have q701 : x46_2 < (l2_4.length : Int) := of_decide_eq_true Y8
  obtain ⟨ad701, A701_3, c701_3, A701_4, c701_4, e701, hx701_0, hx701_1, hx701_2, hx701_3, hx701_4, hl701_3, hi701_3, hl701_4, hi701_4⟩ := at_T28 (Kd.V_reads' HO_659004.out).2.2 x46_2 p701 q701
  cases e701
  obtain ⟨ce701, hce701, hMe701, hcc701⟩ := Kd.V_get HO_659004.out z28 x46_2 p701 (by first | exact q701 | exact of_decide_eq_true Y8 | (have e_ := (Kd.V_reads' HO_659004.out).1; omega))
  obtain ⟨ua701_3, uc701_3, ua701_4, uc701_4, rfl, ul701_3, ge701_3, ul701_4, ge701_4⟩ := k28_openF hMe701
  have hv701_3 := hcc701 3 _ rfl
  rw [add_field _ _ 3 Y7] at hv701_3
  replace hv701_3 := Option.some.inj (hv701_3.symm.trans hx701_3)
  injection hv701_3 with hva_ hvn_ hvc_
  rw [hva_] at ge701_3
  rw [hvc_] at ul701_3
  have HL701_3 := Aside0.mk (show Kd.V k55 55 _ w0.heap.size _ _ ((rd_T28 l2_4 x46_2).f3) from Kd.V_mk ul701_3 ge701_3)
  clear hva_ hvn_ hvc_ ge701_3 ul701_3
  have hv701_4 := hcc701 4 _ rfl
  rw [add_field _ _ 4 Y7] at hv701_4
  replace hv701_4 := Option.some.inj (hv701_4.symm.trans hx701_4)
  injection hv701_4 with hva_ hvn_ hvc_
  rw [hva_] at ge701_4
  rw [hvc_] at ul701_4
  have HL701_4 := Aside0.mk (show Kd.V k28 28 _ w0.heap.size _ _ ((rd_T28 l2_4 x46_2).f4) from Kd.V_mk ul701_4 ge701_4)
  clear hva_ hvn_ hvc_ ge701_4 ul701_4; clear hcc701 hce701
  have HR701_3 := Aside0.mk hi701_3
  have HC701_3 := Aside0.mk hl701_3
  clear hi701_3 hl701_3
  have HR701_4 := Aside0.mk hi701_4
  have HC701_4 := Aside0.mk hl701_4
  clear hi701_4 hl701_4
  replace p701 := eq_true p701
  replace q701 := eq_true q701
  obtain ⟨Ao60, co60, eo60⟩ := Kd.R_slice HO685.out
  subst eo60
  go_wp2_with (first | ((with_reducible refine gate_callee (f := 14) rfl ?_); refine goesL_ (some 97) rfl rfl Try.func14 Y0 rfl #[.slice Ao60 y683.length co60, .string a1, .agg #[.int .i64 ((rd_T28 l2_4 x46_2).f0), .int .i64 ((rd_T28 l2_4 x46_2).f1), .int .i64 ((rd_T28 l2_4 x46_2).f2), .slice A701_3 ((rd_T28 l2_4 x46_2).f3).length c701_3, .slice A701_4 ((rd_T28 l2_4 x46_2).f4).length c701_4], .string (a3 ++ a4), .string a4, .bool false] rfl Y11 ?_; (with_reducible refine (ih k2 Y16 (fun k_ => some k_ = (.slice Ao60 y683.length co60 : Value).ownBlock) (.slice Ao60 y683.length co60) y683 a1 ((rd_T28 l2_4 x46_2).f0) ((rd_T28 l2_4 x46_2).f1) ((rd_T28 l2_4 x46_2).f2) _ _ ((rd_T28 l2_4 x46_2).f3) (fun k_ => ((((P0_ k_ ∨ P2_4_ k_) ∨ w.heap.size ≤ k_) ∧ k_ ≠ gb658) ∧ some k_ ≠ (.slice Ao60 y683.length co60 : Value).ownBlock)) _ _ ((rd_T28 l2_4 x46_2).f4) (a3 ++ a4) a4  t702 w0 _ ?side1 ?side2 ?side3 ?side4 ?side5 A58.out).mono ?_); (case side1 => exact Y5); (case side2 => exact Kd.R_tight rfl HO685.out); (case side3 => exact Kd.C_kept_ownV (HL701_3.out) (fun k_ hk_ hs_ => (hk_.2) hs_)); (case side4 => exact HC701_3.out); (case side5 => exact Kd.V_mono (HL701_4.out) (fun k_ hk_ => ⟨hk_, hk_.2⟩)); rintro e w61 ⟨v703, rfl, ho0, hb, hkp⟩; refine ⟨_, rfl, ?_⟩; have n0_ := Aside0.mk (Kd.V_mono (ok' := fun k_ => ((P0_ k_ ∨ P2_4_ k_) ∨ w.heap.size ≤ k_) ∧ k_ ≠ gb658 ∧ some k_ ≠ (v703 : Value).ownBlock) (Kd.V_keptB (HO_659004.out) hkp (fun k_ hk_ hs_ => (hk_.2) hs_)) (fun k_ hk_ => ⟨hk_.1.1.1, hk_.1.1.2, fun e_ => Or.elim (ho0.1 k_ e_.symm) (fun hs_ => hk_.2.1 hs_) (fun hn_ => Nat.not_le.2 hk_.2.2 hn_)⟩)); have n1_ := Aside0.mk (blk_kept (pB BK658.out) hkp (fun hs_ => (fun e_ => (Kd.R_ne HO685.out BK658.out Y3) e_) hs_)); have n2_ := Aside0.mk (Kd.R_mono (ok' := fun k_ => (P0_ k_ ∨ w.heap.size ≤ k_)) ho0 (fun k_ hk_ => Or.elim hk_ (fun hs_ => (HO685.out.1 k_ (hs_).symm)) (fun hn_ => (.inr (Nat.le_trans Y35 hn_))))); have n3_ := Aside0.mk (Kept.then_ (S := (fun k_ => P0_ k_)) Y2 hkp (fun k_ hs_ => (fun e_ => (HO685.out.1 k_ e_.symm)) hs_)); have n4_ := Aside0.mk (hb); clear HO_659004; clear BK658; clear HK; clear HB; clear HO685; clear HL701_3; clear HL701_4; have HO_659004 := n0_; have BK658 := n1_; have HO704 := n2_; have HK := n3_; have HB := n4_; clear n0_ n1_ n2_ n3_ n4_; (try clear hb); (try clear hkp); (try clear ho0)))
  go_roundg k2
  case measure => have := HJ14.out; have := HK2.out; omega
  case rel => exact ⟨(t702), (wrap64 (x46_2 + 1)), Y9, H', ⟨Y16⟩, ⟨pR HO704.out⟩, ⟨Y33⟩, ⟨pB BK658.out⟩, ⟨Y2⟩, ⟨Y5⟩⟩
 rw [if_pos c35] at H
 have c35b0 := beq_iff_eq.mpr c35
 have c35b1 := bne_eq_false_iff_eq.mpr c35
 clear c35
 (first | rw [c35b0] | (simp only [i64_w, i32_w]; rw [c35b0]) | skip)
 by_cases c36 : 0 ≤ x46_2
 rotate_left
 ·
  rw [if_neg c36] at H
  exact absurd H Y4
 rw [if_pos c36] at H
 have c36b0 := decide_eq_true c36
 clear c36
 by_cases c37 : x46_2 < (l2_3.length : Int)
 rotate_left
 ·
  rw [if_neg c37] at H
  exact absurd H Y4
 rw [if_pos c37] at H
 have c37b0 := decide_eq_true c37
 clear c37
 by_cases c38 : 0 ≤ ((rd_T55 l2_3 x46_2).f0)
 rotate_left
 ·
  rw [if_neg c38] at H
  exact absurd H Y4
 rw [if_pos c38] at H
 have c38b0 := eq_true c38
 have c38b1 := decide_eq_true c38
 clear c38
 by_cases c39 : ((rd_T55 l2_3 x46_2).f0) ≤ ((rd_T55 l2_3 x46_2).f1)
 rotate_left
 ·
  rw [if_neg c39] at H
  exact absurd H Y4
 rw [if_pos c39] at H
 have c39b0 := eq_true c39
 have c39b1 := decide_eq_true c39
 clear c39
 by_cases c40 : ((rd_T55 l2_3 x46_2).f1) ≤ (a1.size : Int)
 rotate_left
 ·
  rw [if_neg c40] at H
  exact absurd H Y4
 rw [if_pos c40] at H
 have c40b0 := eq_true c40
 have c40b1 := decide_eq_true c40
 clear c40
 by_cases c41 : y683.length + (a1.extract (((rd_T55 l2_3 x46_2).f0) : Int).toNat (((rd_T55 l2_3 x46_2).f1) : Int).toNat).size < 140737488355328
 rotate_left
 ·
  rw [if_neg c41] at H
  exact absurd H Y4
 rw [if_pos c41] at H
 have LMc41 := Aside0.mk c41
 clear c41
 obtain ⟨y688, hy688⟩ : ∃ y_ : List Int, y_ = (y683 ++ bytesOf (a1.extract (((rd_T55 l2_3 x46_2).f0) : Int).toNat (((rd_T55 l2_3 x46_2).f1) : Int).toNat)) := ⟨_, rfl⟩
 first | replace H := bind_y hy688 H | rw [← hy688] at H
 have Ny688 := Aside0.mk hy688
 clear hy688
 obtain ⟨y691, hy691⟩ : ∃ y_ : List Int, y_ = (([58, 32] : List Int)) := ⟨_, rfl⟩
 first | replace H := bind_y hy691 H | rw [← hy691] at H
 have Ny691 := Aside0.mk hy691
 clear hy691
 by_cases c42 : y688.length + y691.length < 140737488355328
 rotate_left
 ·
  rw [if_neg c42] at H
  exact absurd H Y4
 rw [if_pos c42] at H
 have LMc42 := Aside0.mk c42
 clear c42
 obtain ⟨y694, hy694⟩ : ∃ y_ : List Int, y_ = (y688 ++ y691) := ⟨_, rfl⟩
 first | replace H := bind_y hy694 H | rw [← hy694] at H
 have Ny694 := Aside0.mk hy694
 clear hy694
 by_cases c43 : x46_2 < (l2_4.length : Int)
 rotate_left
 ·
  rw [if_neg c43] at H
  exact absurd H Y4
 rw [if_pos c43] at H
 have c43b0 := decide_eq_true c43
 clear c43
 by_cases c44 : a3.size + a4.size ≤ 9223372036854775807
 rotate_left
 ·
  rw [if_neg c44] at H
  exact absurd H Y4
 rw [if_pos c44] at H
 have c44b0 := eq_true c44
 have c44b1 := decide_eq_true c44
 try have c44b2 : (9223372036854775807 < a3.size + a4.size) = False := eq_false (Nat.not_lt.2 c44)
 replace H := Option.bind_eq_some_iff.mp H
 obtain ⟨t698, A450, H⟩ := H
 have A45 := Aside0.mk A450
 clear A450
 have H' := Aside0.mk H
 clear H
 try go_wp2
 have n0_ := Aside0.mk (Kd.V_drew HO_659004.out)
 have n1_ := Aside0.mk (Kd.R_drew HO685.out)
 have n2_ := Aside0.mk (blk_drew BK658.out)
 have n3_ := Aside0.mk (Kept.drew HK.out)
 have n4_ := Aside0.mk (below_drew1 HB.out)
 clear HO_659004; clear HO685; clear BK658; clear HK; clear HB
 have HO_659004 := n0_
 have HO685 := n1_
 have BK658 := n2_
 have HK := n3_
 have HB := n4_
 clear n0_ n1_ n2_ n3_ n4_
 have p686 : 0 ≤ (x46_2 : Int) := of_decide_eq_true Y8
 have q686 : x46_2 < (l2_3.length : Int) := of_decide_eq_true Y8
 obtain ⟨ad686, e686, hx686_0, hx686_1⟩ := at_T55 (Kd.C_kept_now HR2_3.out HK.out) x46_2 p686 q686
 have hw686_1 := hx686_1
 have hw686_0 := hx686_0
 cases e686
 replace p686 := eq_true p686
 replace q686 := eq_true q686
 have p687 : 0 ≤ (x46_2 : Int) := of_decide_eq_true Y8
 have q687 : x46_2 < (l2_3.length : Int) := of_decide_eq_true Y8
 obtain ⟨ad687, e687, hx687_0, hx687_1⟩ := at_T55 (Kd.C_kept_now HR2_3.out HK.out) x46_2 p687 q687
 have hw687_1 := hx687_1
 have hw687_0 := hx687_0
 obtain rfl : ad686 = ad687 := (by injection e687)
 replace p687 := eq_true p687
 replace q687 := eq_true q687
 refine start_ (n := 17) (S := fun w' => w'.cell? ⟨gb658, 0, none⟩ = some (.int .i64 a2_0) ∧ w'.cell? ⟨gb658, 1, none⟩ = some (.int .i64 a2_1) ∧ w'.cell? ⟨gb658, 2, none⟩ = some (.int .i64 a2_2) ∧ w'.cell? ⟨gb658, 3, none⟩ = some (.slice (some ad686) l2_3.length c2_3) ∧ w'.cell? ⟨gb658, 4, none⟩ = some (.slice A2_4 l2_4.length c2_4) ∧ w'.cell? (ad686.add ((x46_2).toNat * 2)) = some (.int .i64 ((rd_T55 l2_3 x46_2).f0)) ∧ w'.cell? ⟨(ad686.add ((x46_2).toNat * 2)).block, (ad686.add ((x46_2).toNat * 2)).off + 1, none⟩ = some (.int .i64 ((rd_T55 l2_3 x46_2).f1)) ∧ w'.cell? (ad686.add ((x46_2).toNat * 2)) = some (.int .i64 ((rd_T55 l2_3 x46_2).f0)) ∧ w'.cell? ⟨(ad686.add ((x46_2).toNat * 2)).block, (ad686.add ((x46_2).toNat * 2)).off + 1, none⟩ = some (.int .i64 ((rd_T55 l2_3 x46_2).f1))) (ds := [15]) #[false, false, false, false, false, false, false, false, false, false, false, false, false, false, false, false, false] Y0 rfl rfl ⟨(blk_cell BK658.out 0).trans rfl, (blk_cell BK658.out 1).trans rfl, (blk_cell BK658.out 2).trans rfl, (blk_cell BK658.out 3).trans rfl, (blk_cell BK658.out 4).trans rfl, hx686_0, hx686_1, hx687_0, hx687_1⟩ (fun hHeld => ?_); refine with_tabW spec_laidTo.tab18 spec_laidTo.bits18 (fun HT_ HW_ => ?_)
 generalize w33.drew = w46 at HO_659004 HO685 BK658 HK HB hx686_0 hx686_1 hx687_0 hx687_1 hHeld ⊢
 refine pure_ (i := 0) (N := some 66) (v := ?_) (a' := ?_) #[true, false, false, false, false, false, false, false, false, false, false, false, false, false, false, false, false] rfl rfl (any_of HT_.out Y0) (fun _ _ _ h => h) (Or.inl ⟨Y1, ?_⟩) ?_ ?_
 rotate_left
 ·
  intro w'
  go_simp
  with_reducible rfl
 rotate_left
 ·
  simp only [Act.put, List.setIfInBounds_toArray, List.set_cons_zero, List.set_cons_succ, i64_w, i32_w]
  rfl
 refine pure_ (i := 1) (N := some 67) (v := ?_) (a' := ?_) #[true, true, false, false, false, false, false, false, false, false, false, false, false, false, false, false, false] rfl rfl (any_of HT_.out Y0) (fun _ _ _ h => h) (Or.inl ⟨Y1, ?_⟩) ?_ ?_
 rotate_left
 ·
  intro w'
  go_simp
  with_reducible rfl
 rotate_left
 ·
  simp only [Act.put, List.setIfInBounds_toArray, List.set_cons_zero, List.set_cons_succ, i64_w, i32_w]
  rfl
 refine pure_ (i := 2) (N := some 68) (v := ?_) (a' := ?_) #[true, true, true, false, false, false, false, false, false, false, false, false, false, false, false, false, false] rfl rfl (any_of HT_.out Y0) (fun _ _ _ h => h) (Or.inl ⟨Y1, ?_⟩) ?_ ?_
 rotate_left
 ·
  intro w'
  go_simp
  with_reducible rfl
 rotate_left
 ·
  simp only [Act.put, List.setIfInBounds_toArray, List.set_cons_zero, List.set_cons_succ, i64_w, i32_w]
  rfl
 refine pure_ (i := 4) (N := some 70) (v := ?_) (a' := ?_) #[true, true, true, false, true, false, false, false, false, false, false, false, false, false, false, false, false] rfl rfl (any_of HT_.out Y0) (fun _ _ _ h => h) (Or.inl ⟨Y1, ?_⟩) ?_ ?_
 rotate_left
 ·
  intro w'
  go_simp
  with_reducible rfl
 rotate_left
 ·
  simp only [Act.put, List.setIfInBounds_toArray, List.set_cons_zero, List.set_cons_succ, i64_w, i32_w]
  rfl
 refine pure_ (i := 8) (N := some 74) (v := ?_) (a' := ?_) #[true, true, true, false, true, false, false, false, true, false, false, false, false, false, false, false, false] rfl rfl (any_of HT_.out Y0) (fun _ _ _ h => h) (Or.inl ⟨Y1, ?_⟩) ?_ ?_
 rotate_left
 ·
  intro w'
  go_simp
  with_reducible rfl
 rotate_left
 ·
  simp only [Act.put, List.setIfInBounds_toArray, List.set_cons_zero, List.set_cons_succ, i64_w, i32_w]
  rfl
 refine pure_ (i := 10) (N := some 76) (v := ?_) (a' := ?_) #[true, true, true, false, true, false, false, false, true, false, true, false, false, false, false, false, false] rfl rfl (any_of HT_.out Y0) (fun _ _ _ h => h) (Or.inl ⟨Y1, ?_⟩) ?_ ?_
 rotate_left
 ·
  intro w'
  go_simp
  with_reducible rfl
 rotate_left
 ·
  simp only [Act.put, List.setIfInBounds_toArray, List.set_cons_zero, List.set_cons_succ, i64_w, i32_w]
  rfl
 refine take_ (i := 3) (N := some 69) (v := ?_) (a' := ?_) #[true, true, true, true, true, false, false, false, true, false, true, false, false, false, false, false, false] rfl rfl (take_ofW HT_.out HW_.out Y0) (fun _ _ _ h => h) (Or.inl ⟨Y1, ?_⟩) hHeld ?_ ?_
 rotate_left
 ·
  rintro w' ⟨s0, s1, s2, s3, s4, s5, s6, s7, s8⟩
  go_simp
  with_reducible rfl
 rotate_left
 ·
  simp only [Act.put, List.setIfInBounds_toArray, List.set_cons_zero, List.set_cons_succ, i64_w, i32_w]
  rfl
 refine pure_ (i := 5) (N := some 71) (v := ?_) (a' := ?_) #[true, true, true, true, true, true, false, false, true, false, true, false, false, false, false, false, false] rfl rfl (any_of HT_.out Y0) (fun _ _ _ h => h) (Or.inl ⟨Y1, ?_⟩) ?_ ?_
 rotate_left
 ·
  intro w'
  go_simp
  with_reducible rfl
 rotate_left
 ·
  simp only [Act.put, List.setIfInBounds_toArray, List.set_cons_zero, List.set_cons_succ, i64_w, i32_w]
  rfl
 refine pure_ (i := 6) (N := some 72) (v := ?_) (a' := ?_) #[true, true, true, true, true, true, true, false, true, false, true, false, false, false, false, false, false] rfl rfl (any_of HT_.out Y0) (fun _ _ _ h => h) (Or.inl ⟨Y1, ?_⟩) ?_ ?_
 rotate_left
 ·
  intro w'
  go_simp
  with_reducible rfl
 rotate_left
 ·
  simp only [Act.put, List.setIfInBounds_toArray, List.set_cons_zero, List.set_cons_succ, i64_w, i32_w]
  rfl
 refine take_ (i := 7) (N := some 73) (v := ?_) (a' := ?_) #[true, true, true, true, true, true, true, true, true, false, true, false, false, false, false, false, false] rfl rfl (take_ofW HT_.out HW_.out Y0) (fun _ _ _ h => h) (Or.inl ⟨Y1, ?_⟩) hHeld ?_ ?_
 rotate_left
 ·
  rintro w' ⟨s0, s1, s2, s3, s4, s5, s6, s7, s8⟩
  go_simp
  with_reducible rfl
 rotate_left
 ·
  simp only [Act.put, List.setIfInBounds_toArray, List.set_cons_zero, List.set_cons_succ, i64_w, i32_w]
  rfl
 refine take_ (i := 9) (N := some 75) (v := ?_) (a' := ?_) #[true, true, true, true, true, true, true, true, true, true, true, false, false, false, false, false, false] rfl rfl (take_ofW HT_.out HW_.out Y0) (fun _ _ _ h => h) (Or.inl ⟨Y1, ?_⟩) hHeld ?_ ?_
 rotate_left
 ·
  rintro w' ⟨s0, s1, s2, s3, s4, s5, s6, s7, s8⟩
  go_simp
  with_reducible rfl
 rotate_left
 ·
  simp only [Act.put, List.setIfInBounds_toArray, List.set_cons_zero, List.set_cons_succ, i64_w, i32_w]
  rfl
 refine pure_ (i := 11) (N := some 77) (v := ?_) (a' := ?_) #[true, true, true, true, true, true, true, true, true, true, true, true, false, false, false, false, false] rfl rfl (any_of HT_.out Y0) (fun _ _ _ h => h) (Or.inl ⟨Y1, ?_⟩) ?_ ?_
 rotate_left
 ·
  intro w'
  go_simp
  with_reducible rfl
 rotate_left
 ·
  simp only [Act.put, List.setIfInBounds_toArray, List.set_cons_zero, List.set_cons_succ, i64_w, i32_w]
  rfl
 refine pure_ (i := 12) (N := some 78) (v := ?_) (a' := ?_) #[true, true, true, true, true, true, true, true, true, true, true, true, true, false, false, false, false] rfl rfl (any_of HT_.out Y0) (fun _ _ _ h => h) (Or.inl ⟨Y1, ?_⟩) ?_ ?_
 rotate_left
 ·
  intro w'
  go_simp
  with_reducible rfl
 rotate_left
 ·
  simp only [Act.put, List.setIfInBounds_toArray, List.set_cons_zero, List.set_cons_succ, i64_w, i32_w]
  rfl
 refine take_ (i := 13) (N := some 79) (v := ?_) (a' := ?_) #[true, true, true, true, true, true, true, true, true, true, true, true, true, true, false, false, false] rfl rfl (take_ofW HT_.out HW_.out Y0) (fun _ _ _ h => h) (Or.inl ⟨Y1, ?_⟩) hHeld ?_ ?_
 rotate_left
 ·
  rintro w' ⟨s0, s1, s2, s3, s4, s5, s6, s7, s8⟩
  go_simp
  with_reducible rfl
 rotate_left
 ·
  simp only [Act.put, List.setIfInBounds_toArray, List.set_cons_zero, List.set_cons_succ, i64_w, i32_w]
  rfl
 refine pure_ (i := 14) (N := some 80) (v := ?_) (a' := ?_) #[true, true, true, true, true, true, true, true, true, true, true, true, true, true, true, false, false] rfl rfl (any_of HT_.out Y0) (fun _ _ _ h => h) (Or.inl ⟨Y1, ?_⟩) ?_ ?_
 rotate_left
 ·
  intro w'
  go_simp
  with_reducible rfl
 rotate_left
 ·
  simp only [Act.put, List.setIfInBounds_toArray, List.set_cons_zero, List.set_cons_succ, i64_w, i32_w]
  rfl
 refine last_ (i := 15) (N := some 81) #[true, true, true, true, true, true, true, true, true, true, true, true, true, true, true, true, false] rfl rfl (one_of HT_.out Y0) Y3 (fun K hK => ?_)
 refine Kd.R_append_str_step (w0 := w0) w0.heap.size Y1 (.tmp 66) _ 40 9 5 rfl Try.underlying40 Try.underlying9 info5 v684 y683 (a1.extract (((rd_T55 l2_3 x46_2).f0) : Int).toNat (((rd_T55 l2_3 x46_2).f1) : Int).toNat) (fun k_ => (P0_ k_ ∨ w.heap.size ≤ k_)) rfl rfl ?aF ?aO ?aB ?aS ?aL ?_
 (case aB => exact Y5)
 (case aF => exact (fun k_ hk => (.inr (Nat.le_trans Y35 hk))))
 (case aO => exact (pR HO685.out))
 (case aS => exact (below_size Y5))
 (case aL => have := LMc41.out; omega)
 intro v689 w47 ho hb hg hat
 rw [← Ny688.out] at ho
 have n0_ := Aside0.mk (Kd.V_afterv (ok := (fun k_ => ((P0_ k_ ∨ P2_4_ k_) ∨ w.heap.size ≤ k_) ∧ k_ ≠ gb658)) (pV HO_659004.out) hg hat)
 have n1_ := Aside0.mk (blk_grown (g := gb658) (o := .cells #[.int .i64 a2_0, .int .i64 a2_1, .int .i64 a2_2, .slice (some ad686) l2_3.length c2_3, .slice A2_4 l2_4.length c2_4] 28 (0, 0)) (pB BK658.out) hg (Kd.R_ne HO685.out BK658.out Y3))
 have n2_ := Aside0.mk (hb)
 have n3_ := Aside0.mk (Kept.of_grown (S := (fun k_ => P0_ k_)) hg Y2 (fun k_ e_ => (HO685.out.1 k_ e_)))
 have n4_ := Aside0.mk (ho)
 clear HO_659004; clear BK658; clear HB; clear HK; clear HO685
 have HO_659004 := n0_
 have BK658 := n1_
 have HB := n2_
 have HK := n3_
 have HO690 := n4_
 clear n0_ n1_ n2_ n3_ n4_; clear ho hb hg hat
 refine hK.out _ _ ?_
 clear hK K
 refine norm_ (a' := ?_) ?_ ?_
 rotate_left
 ·
  show Act.put _ (some 81) _ = _
  simp only [Act.put, List.setIfInBounds_toArray, List.set_cons_zero, List.set_cons_succ, i64_w, i32_w]
  rfl
 refine pure_ (i := 16) (N := some 0) (v := ?_) (a' := ?_) #[true, true, true, true, true, true, true, true, true, true, true, true, true, true, true, true, true] rfl rfl (any_of HT_.out Y0) (fun _ _ _ h => h) (Or.inl ⟨Y1, ?_⟩) ?_ ?_
 rotate_left
 ·
  intro w'
  go_simp
  with_reducible rfl
 rotate_left
 ·
  simp only [Act.put, List.setIfInBounds_toArray, List.set_cons_zero, List.set_cons_succ, i64_w, i32_w]
  rfl
 refine done_ (done_of HT_.out Y0) ?_
 try go_wp2_with (first | ((with_reducible refine gate_dst (N := 83) rfl ?_); refine Kd.R_lit (Kd.int .u8) _ 5 ?hg (N := 83) ?hd (xs := ([58, 32] : List Int)) (inner := [.int .u8 58, .int .u8 32]) (ok := fun _ => True) (okp := fun _ => True) ?hr ?hp (fun _ hk => hk) trivial (Below.refl _ _) (Nat.le_refl _) Y4 ?_; (case hd => exact Y1); (case hg => exact Y1); (case hr => exact Y12); (case hp => exact (Reps.one (show Kd.M (Kd.int .u8) _ _ _ 58 [.int .u8 58] from rfl) (Reps.one (show Kd.M (Kd.int .u8) _ _ _ 32 [.int .u8 32] from rfl) (Reps.none _ _)))); intro v692 w48 ho49 hb hg_ hnew_; clear hg_ hnew_; (first | rw [← Ny691.out] at ho49 | (simp only [Int.reduceToNat] at ho49; rw [← Ny691.out] at ho49)); have n0_ := Aside0.mk (Kd.V_elder' (pV HO_659004.out) (Kd.R_base ho49) hb); have n1_ := Aside0.mk (Kd.R_elder' (pR HO690.out) (Kd.R_base ho49) hb); have n2_ := Aside0.mk (Kd.R_lower (Kd.R_new' (Kd.R_newM (M := fun k_ => (P0_ k_ ∨ w.heap.size ≤ k_)) ho49 Y35 (fun k_ h_ => .inr h_)) (Kd.R_lt (pR HO690.out))) (below_size Y5)); have n3_ := Aside0.mk (blk_below (g := gb658) (o := .cells #[.int .i64 a2_0, .int .i64 a2_1, .int .i64 a2_2, .slice (some ad686) l2_3.length c2_3, .slice A2_4 l2_4.length c2_4] 28 (0, 0)) (pB BK658.out) hb); have n4_ := Aside0.mk (Kept.below (S := (fun k_ => P0_ k_)) Y2 hb); have n5_ := Aside0.mk (below_step Y5 hb); clear HO_659004; clear HO690; clear BK658; clear HK; clear HB; have HO_659004 := n0_; have HO690 := n1_; have HO693 := n2_; have BK658 := n3_; have HK := n4_; have HB := n5_; clear n0_ n1_ n2_ n3_ n4_ n5_; clear hb ho49; obtain ⟨Ao51, co51, eo51⟩ := Kd.R_slice HO693.out; subst eo51) | ((with_reducible refine gate_builtin (b := .append) (xs := #[.tmp 82, .tmp 83]) rfl ?_); at_builtin; refine Kd.R_append_rows (Kd.int .u8) (w0 := w0) w0.heap.size rfl (.tmp 82) (.tmp 83) 40 5 (.int .u8 0) 1 rfl Try.underlying40 info5 rfl Y3 Y7 v689 y688 y691 _ _ _ (fun k_ => (P0_ k_ ∨ w.heap.size ≤ k_) ∧ some k_ ≠ (.slice Ao51 y691.length co51 : Value).ownBlock) (fun _ => False) rfl rfl ?aO ?aR (fun _ _ h => h) (fun _ h => h.elim) ?aF ?aB ?aS ?aL ?_; (case aR => repeat (first | exact (Kd.R_reads' HO693.out).2.2 | (with_reducible refine Kd.C_alloc ?_ _) | (with_reducible refine Kd.C_drewN ?_ _) | (with_reducible refine Kd.C_drew ?_))); (case aB => exact Y5); (case aF => exact (fun k_ hk => ⟨(.inr (Nat.le_trans Y35 hk)), Kd.fresh' (Kd.R_lt (pR HO693.out)) k_ hk⟩)); (case aO => exact (pR HO690.out)); (case aS => exact (below_size Y5)); (case aL => have := LMc42.out; omega); intro v695 w50 ho hb hg hat; rw [← Ny694.out] at ho; have n0_ := Aside0.mk (Kd.V_afterv (ok := (fun k_ => ((P0_ k_ ∨ P2_4_ k_) ∨ w.heap.size ≤ k_) ∧ some k_ ≠ (.slice Ao51 y691.length co51 : Value).ownBlock ∧ k_ ≠ gb658)) Y31 hg hat); have n1_ := Aside0.mk (blk_grown (g := gb658) (o := .cells #[.int .i64 a2_0, .int .i64 a2_1, .int .i64 a2_2, .slice (some ad686) l2_3.length c2_3, .slice A2_4 l2_4.length c2_4] 28 (0, 0)) (pB BK658.out) hg (Kd.R_ne HO690.out BK658.out Y3)); have n2_ := Aside0.mk (Kd.R_after (ok := (fun k_ => (P0_ k_ ∨ w.heap.size ≤ k_))) (by (with_reducible repeat (first | apply Kd.R_alloc | apply Kd.R_drewN | apply Kd.R_drew)); exact Kd.R_mono HO693.out (fun _ hk => ⟨hk.1.1, hk.2⟩)) hg hat); have n3_ := Aside0.mk (hb); have n4_ := Aside0.mk (Kept.of_grown (S := (fun k_ => P0_ k_)) hg Y2 (fun k_ e_ => (HO690.out.1 k_ e_).1)); have n5_ := Aside0.mk (ho); clear HO_659004; clear BK658; clear HO693; clear HB; clear HK; clear HO690; have HO_659004 := n0_; have BK658 := n1_; have HO693 := n2_; have HB := n3_; have HK := n4_; have HO696 := n5_; clear n0_ n1_ n2_ n3_ n4_ n5_; clear ho hb hg hat; have hcz52_0 : w50.cell? ⟨gb658, 0, none⟩ = some (.int .i64 a2_0) := (blk_cell BK658.out 0).trans rfl; have hcz52_1 : w50.cell? ⟨gb658, 1, none⟩ = some (.int .i64 a2_1) := (blk_cell BK658.out 1).trans rfl; have hcz52_2 : w50.cell? ⟨gb658, 2, none⟩ = some (.int .i64 a2_2) := (blk_cell BK658.out 2).trans rfl; have hcz52_3 : w50.cell? ⟨gb658, 3, none⟩ = some (.slice (some ad686) l2_3.length c2_3) := (blk_cell BK658.out 3).trans rfl; have hcz52_4 : w50.cell? ⟨gb658, 4, none⟩ = some (.slice A2_4 l2_4.length c2_4) := (blk_cell BK658.out 4).trans rfl; have hfz52_0 := blk_frozen BK658.out 0; have hfz52_1 := blk_frozen BK658.out 1; have hfz52_2 := blk_frozen BK658.out 2; have hfz52_3 := blk_frozen BK658.out 3; have hfz52_4 := blk_frozen BK658.out 4; have p697 : 0 ≤ (x46_2 : Int) := of_decide_eq_true Y8; have q697 : x46_2 < (l2_4.length : Int) := of_decide_eq_true Y8; obtain ⟨ad697, A697_3, c697_3, A697_4, c697_4, e697, hx697_0, hx697_1, hx697_2, hx697_3, hx697_4, hl697_3, hi697_3, hl697_4, hi697_4⟩ := at_T28 (Kd.V_reads' HO_659004.out).2.2 x46_2 p697 q697; cases e697; obtain ⟨ce697, hce697, hMe697, hcc697⟩ := Kd.V_get HO_659004.out z28 x46_2 p697 (by first | exact q697 | exact of_decide_eq_true Y8 | (have e_ := (Kd.V_reads' HO_659004.out).1; omega)); obtain ⟨ua697_3, uc697_3, ua697_4, uc697_4, rfl, ul697_3, ge697_3, ul697_4, ge697_4⟩ := k28_openF hMe697; have hv697_3 := hcc697 3 _ rfl; rw [add_field _ _ 3 Y7] at hv697_3; replace hv697_3 := Option.some.inj (hv697_3.symm.trans hx697_3); injection hv697_3 with hva_ hvn_ hvc_; rw [hva_] at ge697_3; rw [hvc_] at ul697_3; have HL697_3 := Aside0.mk (show Kd.V k55 55 _ w0.heap.size _ _ ((rd_T28 l2_4 x46_2).f3) from Kd.V_mk ul697_3 ge697_3); clear hva_ hvn_ hvc_ ge697_3 ul697_3; have hv697_4 := hcc697 4 _ rfl; rw [add_field _ _ 4 Y7] at hv697_4; replace hv697_4 := Option.some.inj (hv697_4.symm.trans hx697_4); injection hv697_4 with hva_ hvn_ hvc_; rw [hva_] at ge697_4; rw [hvc_] at ul697_4; have HL697_4 := Aside0.mk (show Kd.V k28 28 _ w0.heap.size _ _ ((rd_T28 l2_4 x46_2).f4) from Kd.V_mk ul697_4 ge697_4); clear hva_ hvn_ hvc_ ge697_4 ul697_4; clear hcc697 hce697; have HR697_3 := Aside0.mk hi697_3; have HC697_3 := Aside0.mk hl697_3; clear hi697_3 hl697_3; have HR697_4 := Aside0.mk hi697_4; have HC697_4 := Aside0.mk hl697_4; clear hi697_4 hl697_4; replace p697 := eq_true p697; replace q697 := eq_true q697; obtain ⟨Ao53, co53, eo53⟩ := Kd.R_slice HO696.out; subst eo53) | ((with_reducible refine gate_callee (f := 14) rfl ?_); refine goesL_ (some 97) rfl rfl Try.func14 Y0 rfl #[.slice Ao53 y694.length co53, .string a1, .agg #[.int .i64 ((rd_T28 l2_4 x46_2).f0), .int .i64 ((rd_T28 l2_4 x46_2).f1), .int .i64 ((rd_T28 l2_4 x46_2).f2), .slice A697_3 ((rd_T28 l2_4 x46_2).f3).length c697_3, .slice A697_4 ((rd_T28 l2_4 x46_2).f4).length c697_4], .string (a3 ++ a4), .string a4, .bool false] rfl Y11 ?_; (with_reducible refine (ih k2 Y16 (fun k_ => some k_ = (.slice Ao53 y694.length co53 : Value).ownBlock) (.slice Ao53 y694.length co53) y694 a1 ((rd_T28 l2_4 x46_2).f0) ((rd_T28 l2_4 x46_2).f1) ((rd_T28 l2_4 x46_2).f2) _ _ ((rd_T28 l2_4 x46_2).f3) (fun k_ => ((((P0_ k_ ∨ P2_4_ k_) ∨ w.heap.size ≤ k_) ∧ (some k_ ≠ (.slice Ao51 y691.length co51 : Value).ownBlock ∧ k_ ≠ gb658)) ∧ some k_ ≠ (.slice Ao53 y694.length co53 : Value).ownBlock)) _ _ ((rd_T28 l2_4 x46_2).f4) (a3 ++ a4) a4  t698 w0 _ ?side1 ?side2 ?side3 ?side4 ?side5 A45.out).mono ?_); (case side1 => exact Y5); (case side2 => exact Kd.R_tight rfl HO696.out); (case side3 => exact Kd.C_kept_ownV (HL697_3.out) (fun k_ hk_ hs_ => (hk_.2) hs_)); (case side4 => exact HC697_3.out); (case side5 => exact Kd.V_mono (HL697_4.out) (fun k_ hk_ => ⟨hk_, hk_.2⟩)); rintro e w54 ⟨v699, rfl, ho0, hb, hkp⟩; refine ⟨_, rfl, ?_⟩; have n0_ := Aside0.mk (Kd.V_mono (ok' := fun k_ => ((P0_ k_ ∨ P2_4_ k_) ∨ w.heap.size ≤ k_) ∧ some k_ ≠ (.slice Ao51 y691.length co51 : Value).ownBlock ∧ k_ ≠ gb658 ∧ some k_ ≠ (v699 : Value).ownBlock) (Kd.V_keptB (HO_659004.out) hkp (fun k_ hk_ hs_ => (hk_.2) hs_)) (fun k_ hk_ => ⟨hk_.1.1.1, hk_.1.1.2.1, hk_.1.1.2.2, fun e_ => Or.elim (ho0.1 k_ e_.symm) (fun hs_ => hk_.2.1 hs_) (fun hn_ => Nat.not_le.2 hk_.2.2 hn_)⟩)); have n1_ := Aside0.mk (blk_kept (pB BK658.out) hkp (fun hs_ => (fun e_ => (Kd.R_ne HO696.out BK658.out Y3) e_) hs_)); have n2_ := Aside0.mk (Kd.R_mono (ok' := fun k_ => (P0_ k_ ∨ w.heap.size ≤ k_) ∧ some k_ ≠ (v699 : Value).ownBlock) (Kd.R_keptB (HO693.out) hkp (fun k_ hk_ hs_ => (hk_.2) hs_)) (fun k_ hk_ => ⟨hk_.1.1, fun e_ => Or.elim (ho0.1 k_ e_.symm) (fun hs_ => hk_.2.1 hs_) (fun hn_ => Nat.not_le.2 hk_.2.2 hn_)⟩)); have n3_ := Aside0.mk (Kd.R_mono (ok' := fun k_ => (P0_ k_ ∨ w.heap.size ≤ k_) ∧ some k_ ≠ (.slice Ao51 y691.length co51 : Value).ownBlock) ho0 (fun k_ hk_ => ⟨Or.elim hk_ (fun hs_ => (HO696.out.1 k_ (hs_).symm).1) (fun hn_ => (.inr (Nat.le_trans Y35 hn_))), Or.elim hk_ (fun hs_ => fun e_ => (((HO693.out).1 k_ e_.symm).2) hs_) (fun hn_ => (Kd.fresh' (Kd.R_lt (pR HO693.out)) k_ hn_))⟩)); have n4_ := Aside0.mk (Kept.then_ (S := (fun k_ => P0_ k_)) Y2 hkp (fun k_ hs_ => (fun e_ => (HO696.out.1 k_ e_.symm).1) hs_)); have n5_ := Aside0.mk (hb); clear HO_659004; clear BK658; clear HO693; clear HK; clear HB; clear HO696; clear HL697_3; clear HL697_4; have HO_659004 := n0_; have BK658 := n1_; have HO693 := n2_; have HO700 := n3_; have HK := n4_; have HB := n5_; clear n0_ n1_ n2_ n3_ n4_ n5_; (try clear hb); (try clear hkp); (try clear ho0)))
 go_roundg k2
 case measure => have := HJ14.out; have := HK2.out; omega
 case rel => exact ⟨(t698), (wrap64 (x46_2 + 1)), Y9, H', ⟨Y16⟩, ⟨by (with_reducible repeat (first | apply Kd.R_alloc | apply Kd.R_drewN | apply Kd.R_drew)); exact Kd.R_mono HO700.out (fun _ hk => hk.1)⟩, ⟨Y32⟩, ⟨pB BK658.out⟩, ⟨Y2⟩, ⟨Y5⟩⟩

end Go.Proofs.Ytffdebhaclkhjaa.PFnPrWholeDefault
