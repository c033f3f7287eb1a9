import Derived.Test.YtieflhncpjjciaaGreatDoorSq
import Derived.Test.YtieflhncpjjciaaGreatDoorSv
import Derived.Test.YtieflhncpjjciaaGreatDoorSx0
namespace Go.Proofs.YtieflhncpjjciaaGreatDoor.PFnGjSquashItems
open Go.RowKit Go.Proofs.YtieflhncpjjciaaGreatDoorW.PrintWords Go.Proofs.YtieflhncpjjciaaGreatDoorW.PrintLast Go.Proofs.YtieflhncpjjciaaGreatDoorW.PrintMore
attribute [local go_sem] max2_int min2_int max_two min_two max_three min_three max_four min_four  
set_option linter.unusedVariables false
set_option linter.unusedSimpArgs false
mutual
def pretty_ugly.l0 : Nat → List Int → List Int → Int → Option (List Int)
 | 0, _, _, _ => none
 | k + 1, x0, x1, x5 => if x5 < (x1.length : Int) then (if 0 ≤ x5 then (if (rd x1 x5) > 32 then (if x0.length < 140737488355328 then ((some (x0 ++ [rd x1 x5] : List Int)).bind fun y438 => (if (rd x1 x5) = 34 then (pretty_ugly.l1 k y438 x1 (wrap64 (x5 + 1))) else (pretty_ugly.l0 k y438 x1 (wrap64 (x5 + 1))))) else (none)) else (pretty_ugly.l0 k x0 x1 (wrap64 (x5 + 1)))) else (none)) else (some x0)
def pretty_ugly.l1 : Nat → List Int → List Int → Int → Option (List Int)
 | 0, _, _, _ => none
 | k + 1, x0, x1, x5 => if x5 < (x1.length : Int) then (if 0 ≤ x5 then (if x0.length < 140737488355328 then ((some (x0 ++ [rd x1 x5] : List Int)).bind fun y443 => (if (rd x1 x5) = 34 then (pretty_ugly.l2 k y443 x1 x5 (wrap64 ((y443.length : Int) - 2))) else (pretty_ugly.l1 k y443 x1 (wrap64 (x5 + 1))))) else (none)) else (none)) else (pretty_ugly.l0 k x0 x1 (wrap64 (x5 + 1)))
def pretty_ugly.l2 : Nat → List Int → List Int → Int → Int → Option (List Int)
 | 0, _, _, _, _ => none
 | k + 1, x0, x1, x5, x6 => if 0 ≤ x6 then (if x6 < (x0.length : Int) then (if (rd x0 x6) = 92 then (pretty_ugly.l2 k x0 x1 x5 (wrap64 (x6 - 1))) else (if (Int.tmod (wrap64 (x6 - (wrap64 ((x0.length : Int) - 1)))) 2) = 0 then (pretty_ugly.l1 k x0 x1 (wrap64 (x5 + 1))) else (pretty_ugly.l0 k x0 x1 (wrap64 (x5 + 1))))) else (none)) else (none)
end
def pretty_ugly.f (k : Nat) (l0 : List Int) (l1 : List Int) : Option (List Int) := if 0 ≤ (l0.length : Int) then (pretty_ugly.l0 k (l0.take (0 : Int).toNat) l1 0) else (none)
theorem pretty_ugly.mono_l : ∀ k, (∀ y0 y1 y2, LeO (pretty_ugly.l0 k y0 y1 y2) (pretty_ugly.l0 (k + 1) y0 y1 y2)) ∧ (∀ y0 y1 y2, LeO (pretty_ugly.l1 k y0 y1 y2) (pretty_ugly.l1 (k + 1) y0 y1 y2)) ∧ (∀ y0 y1 y2 y3, LeO (pretty_ugly.l2 k y0 y1 y2 y3) (pretty_ugly.l2 (k + 1) y0 y1 y2 y3))
 | 0 => ⟨fun _ _ _ r h => by simp [pretty_ugly.l0] at h, fun _ _ _ r h => by simp [pretty_ugly.l1] at h, fun _ _ _ _ r h => by simp [pretty_ugly.l2] at h⟩
 | k + 1 => by
  obtain ⟨ih0, ih1, ih2⟩ := pretty_ugly.mono_l k
  refine ⟨?_, ?_, ?_⟩
  ·
   intro y0 y1 y2
   unfold pretty_ugly.l0
   exact (by repeat' first | (with_reducible exact ih0 _ _ _) | (with_reducible exact ih1 _ _ _) | (with_reducible exact ih2 _ _ _ _) | (with_reducible exact LeO.refl _) | (with_reducible exact LeO.none _) | (with_reducible refine LeO.ite ?_ ?_) | (with_reducible refine LeO.bind ?_ (fun _ => ?_)) | exact ih0 _ _ _ | exact ih1 _ _ _ | exact ih2 _ _ _ _ | exact LeO.none _ | refine LeO.ite ?_ ?_ | refine LeO.bind ?_ (fun _ => ?_))
  ·
   intro y0 y1 y2
   unfold pretty_ugly.l1
   exact (by repeat' first | (with_reducible exact ih0 _ _ _) | (with_reducible exact ih1 _ _ _) | (with_reducible exact ih2 _ _ _ _) | (with_reducible exact LeO.refl _) | (with_reducible exact LeO.none _) | (with_reducible refine LeO.ite ?_ ?_) | (with_reducible refine LeO.bind ?_ (fun _ => ?_)) | exact ih0 _ _ _ | exact ih1 _ _ _ | exact ih2 _ _ _ _ | exact LeO.none _ | refine LeO.ite ?_ ?_ | refine LeO.bind ?_ (fun _ => ?_))
  intro y0 y1 y2 y3
  unfold pretty_ugly.l2
  exact (by repeat' first | (with_reducible exact ih0 _ _ _) | (with_reducible exact ih1 _ _ _) | (with_reducible exact ih2 _ _ _ _) | (with_reducible exact LeO.refl _) | (with_reducible exact LeO.none _) | (with_reducible refine LeO.ite ?_ ?_) | (with_reducible refine LeO.bind ?_ (fun _ => ?_)) | exact ih0 _ _ _ | exact ih1 _ _ _ | exact ih2 _ _ _ _ | exact LeO.none _ | refine LeO.ite ?_ ?_ | refine LeO.bind ?_ (fun _ => ?_))
theorem pretty_ugly.mono : ∀ a0 a1 k, LeO (pretty_ugly.f k a0 a1) (pretty_ugly.f (k + 1) a0 a1) := by
 intro a0 a1 k
 obtain ⟨ih0, ih1, ih2⟩ := pretty_ugly.mono_l k
 unfold pretty_ugly.f
 repeat' first
   | (with_reducible exact ih0 _ _ _)
   | (with_reducible exact ih1 _ _ _)
   | (with_reducible exact ih2 _ _ _ _)
   | (with_reducible exact LeO.refl _)
   | (with_reducible exact LeO.none _)
   | (with_reducible refine LeO.ite ?_ ?_)
   | (with_reducible refine LeO.bind ?_ (fun _ => ?_))
   | exact ih0 _ _ _
   | exact ih1 _ _ _
   | exact ih2 _ _ _ _
   | exact LeO.none _
   | refine LeO.ite ?_ ?_
   | refine LeO.bind ?_ (fun _ => ?_)
set_option maxHeartbeats 8000000 in
set_option maxRecDepth 100000 in
theorem pretty_ugly.calls (k : Nat) (P0_ : Nat → Prop) (u9000_ : Value) (l0 : List Int) (A1 : Option Addr) (c1 : Nat) (l1 : List Int) (r : List Int) (w0 w : World) (hB : Below w0.heap.size w0 w) (ho0 : Kd.R (Kd.int .u8) 5 w w0.heap.size P0_ u9000_ l0) (hr1 : ∀ W_, Kept w W_ (fun k_ => P0_ k_) → Kd.C (Kd.int .u8) W_ A1 l1.length l1) (hc1 : l1.length ≤ c1) (h : pretty_ugly.f k l0 l1 = some r) :
  Calls Tryz.prog 62 #[u9000_, .slice A1 l1.length c1] w fun e w' => ∃ v0_ : Value, e = .returned (v0_) ∧ Kd.R (Kd.int .u8) 5 w' w0.heap.size (fun k_ => (P0_ k_ ∨ w.heap.size ≤ k_)) v0_ r ∧ Below w0.heap.size w0 w' ∧ Kept w w' (fun k_ => P0_ k_) := by
 have HO0 := Aside0.mk (show Kd.R (Kd.int .u8) 5 w w0.heap.size (fun k_ => (P0_ k_ ∨ w.heap.size ≤ k_)) u9000_ l0 from Kd.R_mono ho0 (fun k_ hk => (.inl hk)))
 have HR1 := Aside0.mk hr1
 have HC1 := Aside0.mk hc1
 clear hr1 hc1
 have HK := Aside0.mk (Kept.refl w (fun k_ => P0_ k_))
 have HW0 := Aside0.mk hB.size
 have HB := Aside0.mk hB
 clear hB
 have H : (if 0 ≤ (l0.length : Int) then (pretty_ugly.l0 k (l0.take (0 : Int).toNat) l1 0) else (none)) = some r := h
 clear h
 by_cases c3 : 0 ≤ (l0.length : Int)
 rotate_left
 ·
  rw [if_neg c3] at H
  exact absurd H Z2
 rw [if_pos c3] at H
 have c3b0 := eq_true c3
 have c3b1 := decide_eq_true c3
 clear c3
 obtain ⟨y433, hy433⟩ : ∃ y_ : List Int, y_ = (l0.take (0 : Int).toNat) := ⟨_, rfl⟩
 first | replace H := bind_y hy433 H | rw [← hy433] at H
 have Ny433 := Aside0.mk hy433
 clear hy433
 have H' := Aside0.mk H
 clear H
 obtain ⟨Ao4, co4, eo4⟩ := Kd.R_slice HO0.out
 subst eo4
 have q5 : (0 : Int) ≤ ((l0.length : Int) : Int) := of_decide_eq_true Z1
 obtain ⟨i05, hi05, _, hsz5, _⟩ := info_parts info5
 have hcut5 := cut_to (P := Tryz.prog) 69 5 .i64 Tryz.underlying69 hi05 Ao4 l0.length co4 0 Z15 q5 (Kd.R_reads' HO0.out).2.1
 have hr5 := Kd.R_take (m := (0 : Int).toNat) HO0.out Z15
 have hy5 : y433.length = (0 : Int).toNat := (by rw [Ny433.out, List.length_take]; omega)
 rw [← Ny433.out] at hr5
 rw [← hy5] at hr5 hcut5
 clear hy5 hi05 hsz5 HO0
 have HO435 := Aside0.mk hr5
 clear hr5
 replace q5 := eq_true q5
 go_enter Tryz.func62, Tryz.ntmps62
 go_wp2
 (try simp only [Act.put, List.setIfInBounds_toArray, List.set_cons_succ, List.set_cons_zero])
 go_loopg [0, 5] k (fun kq v0 v5 w' => ∃ (x0_1 : List Int) (x5_1 : Int), v5 = .int .i64 x5_1 ∧ Aside0 (pretty_ugly.l0 kq x0_1 l1 x5_1 = some r) ∧ Aside0 (kq ≤ k) ∧ Aside0 (Kd.R (Kd.int .u8) 5 w' w0.heap.size (fun k_ => (P0_ k_ ∨ w.heap.size ≤ k_)) v0 x0_1) ∧ Aside0 (Kept w w' (fun k_ => P0_ k_)) ∧ Aside0 (Below w0.heap.size w0 w'))
 case atStart => exact ⟨(y433), (0), Z0, H', ⟨Nat.le_refl _⟩, ⟨pR HO435.out⟩, ⟨Z16⟩, ⟨Z12⟩⟩
 clear H'
 try clear c1; try clear p2; try clear c3; try clear c3b0; try clear c3b1; try clear q5; try clear q5
 obtain ⟨x0_1, x5_1, rfl, HA, HK1, HO_0, HK, HB⟩ := hrel
 cases gk with
 | zero => exact absurd HA.out (by simp [pretty_ugly.l0])
 | succ k1 =>
 have H := HA.out
 clear HA
 simp only [pretty_ugly.l0] at H
 by_cases c6 : x5_1 < (l1.length : Int)
 rotate_left
 ·
  rw [if_neg c6] at H
  have c6b0 := decide_eq_false c6
  clear c6
  obtain rfl := Option.some.inj H
  go_wp2
  go_ret
  exact ⟨_, Z11, pR HO_0.out, Z12, Z16⟩
 rw [if_pos c6] at H
 have c6b0 := decide_eq_true c6
 clear c6
 by_cases c7 : 0 ≤ x5_1
 rotate_left
 ·
  rw [if_neg c7] at H
  exact absurd H Z2
 rw [if_pos c7] at H
 have c7b0 := decide_eq_true c7
 clear c7
 by_cases c8 : (rd l1 x5_1) > 32
 rotate_left
 ·
  rw [if_neg c8] at H
  have c8b0 := decide_eq_false c8
  clear c8
  have H' := Aside0.mk H
  clear H
  have p436 : 0 ≤ (x5_1 : Int) := of_decide_eq_true Z1
  have q436 : x5_1 < (l1.length : Int) := of_decide_eq_true Z1
  obtain ⟨ad436, e436, hx436_0⟩ := Kd.at_int (Kd.C_kept_now HR1.out HK.out) x5_1 p436 q436
  cases e436
  replace p436 := eq_true p436
  replace q436 := eq_true q436
  go_wp2
  go_roundg k1
  case measure => have := HK1.out; omega
  case rel => exact ⟨(x0_1), (wrap64 (x5_1 + 1)), Z0, H', ⟨Z18⟩, ⟨pR HO_0.out⟩, ⟨Z16⟩, ⟨Z12⟩⟩
 rw [if_pos c8] at H
 have c8b0 := decide_eq_true c8
 clear c8
 by_cases c9 : x0_1.length < 140737488355328
 rotate_left
 ·
  rw [if_neg c9] at H
  exact absurd H Z2
 rw [if_pos c9] at H
 have LMc9 := Aside0.mk c9
 clear c9
 obtain ⟨y438, hy438⟩ : ∃ y_ : List Int, y_ = (x0_1 ++ [rd l1 x5_1]) := ⟨_, rfl⟩
 first | replace H := bind_y hy438 H | rw [← hy438] at H
 have Ny438 := Aside0.mk hy438
 clear hy438
 have HC10 := Aside0.mk H
 clear H
 have p436 : 0 ≤ (x5_1 : Int) := of_decide_eq_true Z1
 have q436 : x5_1 < (l1.length : Int) := of_decide_eq_true Z1
 obtain ⟨ad436, e436, hx436_0⟩ := Kd.at_int (Kd.C_kept_now HR1.out HK.out) x5_1 p436 q436
 cases e436
 replace p436 := eq_true p436
 replace q436 := eq_true q436
 have p437 : 0 ≤ (x5_1 : Int) := of_decide_eq_true Z1
 have q437 : x5_1 < (l1.length : Int) := of_decide_eq_true Z1
 obtain ⟨ad437, e437, hx437_0⟩ := Kd.at_int (Kd.C_kept_now HR1.out HK.out) x5_1 p437 q437
 obtain rfl : ad436 = ad437 := (by injection e437)
 replace p437 := eq_true p437
 replace q437 := eq_true q437
 go_upto_if 31 with (first | ((with_reducible refine gate_builtin (b := .append) (xs := #[.tmp 20, .tmp 25]) rfl ?_); at_builtin; refine Kd.R_append (Kd.int .u8) (w0 := w0) w0.heap.size rfl (.tmp 20) (.tmp 25) 69 5 (.int .u8 0) 1 rfl Tryz.underlying69 info5 rfl Z3 Z15 u0 x0_1 (rd l1 x5_1) [.int .u8 (rd l1 x5_1)] (fun k_ => (P0_ k_ ∨ w.heap.size ≤ k_)) (fun _ => False) rfl rfl ?aP (fun _ hk => hk.elim) ?aF ?aO ?aB ?aS ?aL ?_; (case aP => exact rfl); (case aB => exact Z12); (case aF => exact (fun k_ hk => (.inr (Nat.le_trans Z76 hk)))); (case aO => exact (pR HO_0.out)); (case aS => exact (below_size Z12)); (case aL => have := LMc9.out; omega); intro v439 w11 ho hb hg hat; rw [← Ny438.out] at ho; have n0_ := Aside0.mk (hb); have n1_ := Aside0.mk (Kept.of_grown (S := (fun k_ => P0_ k_)) hg Z16 (fun k_ e_ => (HO_0.out.1 k_ e_))); have n2_ := Aside0.mk (ho); clear HB; clear HK; clear HO_0; have HB := n0_; have HK := n1_; have HO440 := n2_; clear n0_ n1_ n2_; clear ho hb hg hat; have p441 : 0 ≤ (x5_1 : Int) := of_decide_eq_true Z1; have q441 : x5_1 < (l1.length : Int) := of_decide_eq_true Z1; obtain ⟨ad441, e441, hx441_0⟩ := Kd.at_int (Kd.C_kept_now HR1.out HK.out) x5_1 p441 q441; obtain rfl : ad436 = ad441 := (by injection e441); replace p441 := eq_true p441; replace q441 := eq_true q441))
 (try simp only [Act.put, List.setIfInBounds_toArray, List.set_cons_zero, List.set_cons_succ])
 have H := HC10.out
 clear HC10
 by_cases c12 : (rd l1 x5_1) = 34
 rotate_left
 ·
  rw [if_neg c12] at H
  have c12b0 := beq_eq_false_iff_ne.mpr c12
  have c12b1 := bne_iff_ne.mpr c12
  (first | rw [c12b0] | (simp only [i64_w, i32_w]; rw [c12b0]) | skip)
  have H' := Aside0.mk H
  clear H
  go_wp2
  go_roundg k1
  case measure => have := HK1.out; omega
  case rel => exact ⟨(y438), (wrap64 (x5_1 + 1)), Z0, H', ⟨Z18⟩, ⟨pR HO440.out⟩, ⟨Z16⟩, ⟨Z12⟩⟩
 rw [if_pos c12] at H
 have c12b0 := beq_iff_eq.mpr c12
 have c12b1 := bne_eq_false_iff_eq.mpr c12
 clear c12
 (first | rw [c12b0] | (simp only [i64_w, i32_w]; rw [c12b0]) | skip)
 have H' := Aside0.mk H
 clear H
 go_wp2
 (try simp only [Act.put, List.setIfInBounds_toArray, List.set_cons_succ, List.set_cons_zero])
 go_loopg [0, 5] k1 (fun kq v0 v5 w' => ∃ (x0_2 : List Int) (x5_2 : Int), v5 = .int .i64 x5_2 ∧ Aside0 (pretty_ugly.l1 kq x0_2 l1 x5_2 = some r) ∧ Aside0 (kq ≤ k1) ∧ Aside0 (Kd.R (Kd.int .u8) 5 w' w0.heap.size (fun k_ => (P0_ k_ ∨ w.heap.size ≤ k_)) v0 x0_2) ∧ Aside0 (Kept w w' (fun k_ => P0_ k_)) ∧ Aside0 (Below w0.heap.size w0 w'))
 case atStart => exact ⟨(y438), (wrap64 (x5_1 + 1)), Z0, H', ⟨Nat.le_refl _⟩, ⟨pR HO440.out⟩, ⟨Z16⟩, ⟨Z12⟩⟩
 clear H'
 try clear c1; try clear p2; try clear c3; try clear c3b0; try clear c3b1; try clear p4; try clear q4; try clear hx4; try clear q5; try clear c6; try clear c6b0; try clear p6; try clear c7; try clear c7b0; try clear c8; try clear c8b0; try clear c9; try clear c12; try clear c12b0; try clear c12b1; try clear hx436_0; try clear hx437_0; try clear hx441_0; try clear p2; try clear p436; try clear p437; try clear p441; try clear q436; try clear q437; try clear q441; try clear q5
 obtain ⟨x0_2, x5_2, rfl, HA, HK2, HO_0, HK, HB⟩ := hrel
 cases gk with
 | zero => exact absurd HA.out (by simp [pretty_ugly.l1])
 | succ k2 =>
 have H := HA.out
 clear HA
 simp only [pretty_ugly.l1] at H
 by_cases c13 : x5_2 < (l1.length : Int)
 rotate_left
 ·
  rw [if_neg c13] at H
  have c13b0 := decide_eq_false c13
  clear c13
  have H' := Aside0.mk H
  clear H
  go_wp2
  go_roundg k2
  case measure => have := HK1.out; have := HK2.out; omega
  case rel => exact ⟨(x0_2), (wrap64 (x5_2 + 1)), Z0, H', ⟨by have := HK1.out; have := HK2.out; omega⟩, ⟨pR HO_0.out⟩, ⟨Z16⟩, ⟨Z12⟩⟩
 rw [if_pos c13] at H
 have c13b0 := decide_eq_true c13
 clear c13
 by_cases c14 : 0 ≤ x5_2
 rotate_left
 ·
  rw [if_neg c14] at H
  exact absurd H Z2
 rw [if_pos c14] at H
 have c14b0 := decide_eq_true c14
 clear c14
 by_cases c15 : x0_2.length < 140737488355328
 rotate_left
 ·
  rw [if_neg c15] at H
  exact absurd H Z2
 rw [if_pos c15] at H
 have LMc15 := Aside0.mk c15
 clear c15
 obtain ⟨y443, hy443⟩ : ∃ y_ : List Int, y_ = (x0_2 ++ [rd l1 x5_2]) := ⟨_, rfl⟩
 first | replace H := bind_y hy443 H | rw [← hy443] at H
 have Ny443 := Aside0.mk hy443
 clear hy443
 have HC16 := Aside0.mk H
 clear H
 have p442 : 0 ≤ (x5_2 : Int) := of_decide_eq_true Z1
 have q442 : x5_2 < (l1.length : Int) := of_decide_eq_true Z1
 obtain ⟨ad442, e442, hx442_0⟩ := Kd.at_int (Kd.C_kept_now HR1.out HK.out) x5_2 p442 q442
 obtain rfl : ad436 = ad442 := (by injection e442)
 replace p442 := eq_true p442
 replace q442 := eq_true q442
 go_upto_if 51 with (first | ((with_reducible refine gate_builtin (b := .append) (xs := #[.tmp 40, .tmp 45]) rfl ?_); at_builtin; refine Kd.R_append (Kd.int .u8) (w0 := w0) w0.heap.size rfl (.tmp 40) (.tmp 45) 69 5 (.int .u8 0) 1 rfl Tryz.underlying69 info5 rfl Z3 Z15 u0 x0_2 (rd l1 x5_2) [.int .u8 (rd l1 x5_2)] (fun k_ => (P0_ k_ ∨ w.heap.size ≤ k_)) (fun _ => False) rfl rfl ?aP (fun _ hk => hk.elim) ?aF ?aO ?aB ?aS ?aL ?_; (case aP => exact rfl); (case aB => exact Z12); (case aF => exact (fun k_ hk => (.inr (Nat.le_trans Z76 hk)))); (case aO => exact (pR HO_0.out)); (case aS => exact (below_size Z12)); (case aL => have := LMc15.out; omega); intro v444 w17 ho hb hg hat; rw [← Ny443.out] at ho; have n0_ := Aside0.mk (hb); have n1_ := Aside0.mk (Kept.of_grown (S := (fun k_ => P0_ k_)) hg Z16 (fun k_ e_ => (HO_0.out.1 k_ e_))); have n2_ := Aside0.mk (ho); clear HB; clear HK; clear HO_0; have HB := n0_; have HK := n1_; have HO445 := n2_; clear n0_ n1_ n2_; clear ho hb hg hat; have p446 : 0 ≤ (x5_2 : Int) := of_decide_eq_true Z1; have q446 : x5_2 < (l1.length : Int) := of_decide_eq_true Z1; obtain ⟨ad446, e446, hx446_0⟩ := Kd.at_int (Kd.C_kept_now HR1.out HK.out) x5_2 p446 q446; obtain rfl : ad436 = ad446 := (by injection e446); replace p446 := eq_true p446; replace q446 := eq_true q446))
 (try simp only [Act.put, List.setIfInBounds_toArray, List.set_cons_zero, List.set_cons_succ])
 have H := HC16.out
 clear HC16
 by_cases c18 : (rd l1 x5_2) = 34
 rotate_left
 ·
  rw [if_neg c18] at H
  have c18b0 := beq_eq_false_iff_ne.mpr c18
  have c18b1 := bne_iff_ne.mpr c18
  (first | rw [c18b0] | (simp only [i64_w, i32_w]; rw [c18b0]) | skip)
  have H' := Aside0.mk H
  clear H
  go_wp2
  go_roundg k2
  case measure => have := HK1.out; have := HK2.out; omega
  case rel => exact ⟨(y443), (wrap64 (x5_2 + 1)), Z0, H', ⟨by have := HK1.out; have := HK2.out; omega⟩, ⟨pR HO445.out⟩, ⟨Z16⟩, ⟨Z12⟩⟩
 rw [if_pos c18] at H
 have c18b0 := beq_iff_eq.mpr c18
 have c18b1 := bne_eq_false_iff_eq.mpr c18
 clear c18
 (first | rw [c18b0] | (simp only [i64_w, i32_w]; rw [c18b0]) | skip)
 have H' := Aside0.mk H
 clear H
 obtain ⟨Ao19, co19, eo19⟩ := Kd.R_slice HO445.out
 subst eo19
 go_wp2
 (try simp only [Act.put, List.setIfInBounds_toArray, List.set_cons_succ, List.set_cons_zero])
 go_loopg [6] k2 (fun kq v6 w' => ∃ (x6_3 : Int), v6 = .int .i64 x6_3 ∧ Aside0 (pretty_ugly.l2 kq y443 l1 x5_2 x6_3 = some r) ∧ Aside0 (kq ≤ k2) ∧ Aside0 (Kd.R (Kd.int .u8) 5 w' w0.heap.size (fun k_ => (P0_ k_ ∨ w.heap.size ≤ k_)) (.slice Ao19 y443.length co19) y443) ∧ Aside0 (Kept w w' (fun k_ => P0_ k_)) ∧ Aside0 (Below w0.heap.size w0 w'))
 case atStart => exact ⟨(wrap64 ((y443.length : Int) - 2)), Z0, H', ⟨Nat.le_refl _⟩, ⟨pR HO445.out⟩, ⟨Z16⟩, ⟨Z12⟩⟩
 clear H'
 try clear c1; try clear p2; try clear c3; try clear c3b0; try clear c3b1; try clear p4; try clear q4; try clear hx4; try clear q5; try clear c6; try clear c6b0; try clear p6; try clear c7; try clear c7b0; try clear c8; try clear c8b0; try clear c9; try clear c12; try clear c12b0; try clear c12b1; try clear c13; try clear c13b0; try clear c14; try clear c14b0; try clear c15; try clear c18; try clear c18b0; try clear c18b1; try clear hx436_0; try clear hx437_0; try clear hx441_0; try clear hx442_0; try clear hx446_0; try clear p2; try clear p4; try clear p436; try clear p437; try clear p441; try clear p442; try clear p446; try clear p6; try clear q4; try clear q436; try clear q437; try clear q441; try clear q442; try clear q446; try clear q5
 obtain ⟨x6_3, rfl, HA, HK3, HO_0, HK, HB⟩ := hrel
 cases gk with
 | zero => exact absurd HA.out (by simp [pretty_ugly.l2])
 | succ k3 =>
 have H := HA.out
 clear HA
 simp only [pretty_ugly.l2] at H
 by_cases c20 : 0 ≤ x6_3
 rotate_left
 ·
  rw [if_neg c20] at H
  exact absurd H Z2
 rw [if_pos c20] at H
 have c20b0 := decide_eq_true c20
 clear c20
 by_cases c21 : x6_3 < (y443.length : Int)
 rotate_left
 ·
  rw [if_neg c21] at H
  exact absurd H Z2
 rw [if_pos c21] at H
 have c21b0 := decide_eq_true c21
 clear c21
 by_cases c22 : (rd y443 x6_3) = 92
 ·
  rw [if_pos c22] at H
  have c22b0 := beq_iff_eq.mpr c22
  have c22b1 := bne_eq_false_iff_eq.mpr c22
  clear c22
  have H' := Aside0.mk H
  clear H
  have p447 : 0 ≤ (x6_3 : Int) := of_decide_eq_true Z1
  have q447 : x6_3 < (y443.length : Int) := of_decide_eq_true Z1
  obtain ⟨ad447, e447, hx447_0⟩ := Kd.at_int (Kd.R_reads' HO_0.out).2.2 x6_3 p447 q447
  cases e447
  replace p447 := eq_true p447
  replace q447 := eq_true q447
  go_wp2
  go_roundg k3
  case measure => have := HK1.out; have := HK2.out; have := HK3.out; omega
  case rel => exact ⟨(wrap64 (x6_3 - 1)), Z0, H', ⟨Z50⟩, ⟨pR HO_0.out⟩, ⟨Z16⟩, ⟨Z12⟩⟩
 rw [if_neg c22] at H
 have c22b0 := beq_eq_false_iff_ne.mpr c22
 have c22b1 := bne_iff_ne.mpr c22
 by_cases c23 : (Int.tmod (wrap64 (x6_3 - (wrap64 ((y443.length : Int) - 1)))) 2) = 0
 rotate_left
 ·
  rw [if_neg c23] at H
  have c23b0 := beq_eq_false_iff_ne.mpr c23
  have c23b1 := bne_iff_ne.mpr c23
  have H' := Aside0.mk H
  clear H
  have p447 : 0 ≤ (x6_3 : Int) := of_decide_eq_true Z1
  have q447 : x6_3 < (y443.length : Int) := of_decide_eq_true Z1
  obtain ⟨ad447, e447, hx447_0⟩ := Kd.at_int (Kd.R_reads' HO_0.out).2.2 x6_3 p447 q447
  cases e447
  replace p447 := eq_true p447
  replace q447 := eq_true q447
  go_wp2
  go_roundg k3
  case measure => have := HK1.out; have := HK2.out; have := HK3.out; omega
  case rel => exact ⟨(y443), (wrap64 (x5_2 + 1)), Z0, H', ⟨Z50⟩, ⟨pR HO_0.out⟩, ⟨Z16⟩, ⟨Z12⟩⟩
 rw [if_pos c23] at H
 have c23b0 := beq_iff_eq.mpr c23
 have c23b1 := bne_eq_false_iff_eq.mpr c23
 clear c23
 have H' := Aside0.mk H
 clear H
 have p447 : 0 ≤ (x6_3 : Int) := of_decide_eq_true Z1
 have q447 : x6_3 < (y443.length : Int) := of_decide_eq_true Z1
 obtain ⟨ad447, e447, hx447_0⟩ := Kd.at_int (Kd.R_reads' HO_0.out).2.2 x6_3 p447 q447
 cases e447
 replace p447 := eq_true p447
 replace q447 := eq_true q447
 go_wp2
 go_roundg k3
 case measure => have := HK1.out; have := HK2.out; have := HK3.out; omega
 case rel => exact ⟨(y443), (wrap64 (x5_2 + 1)), Z0, H', ⟨Z50⟩, ⟨pR HO_0.out⟩, ⟨Z16⟩, ⟨Z12⟩⟩
def pretty_Ugly.f (k : Nat) (l0 : List Int) : Option (List Int) := if 0 ≤ (l0.length : Int) then (if ((l0.length : Int) : Int).toNat ≤ 281474976710656 then ((pretty_ugly.f k (([] : List Int)) l0).bind fun t451 => (some t451)) else (none)) else (none)
theorem pretty_Ugly.mono : ∀ a0 k, LeO (pretty_Ugly.f k a0) (pretty_Ugly.f (k + 1) a0) := by
 intro a0 k
 unfold pretty_Ugly.f
 repeat' first
   | (with_reducible exact pretty_ugly.mono _ _ _)
   | (with_reducible exact LeO.refl _)
   | (with_reducible exact LeO.none _)
   | (with_reducible refine LeO.ite ?_ ?_)
   | (with_reducible refine LeO.bind ?_ (fun _ => ?_))
   | exact pretty_ugly.mono _ _ _
   | exact LeO.none _
   | refine LeO.ite ?_ ?_
   | refine LeO.bind ?_ (fun _ => ?_)
set_option maxHeartbeats 8000000 in
set_option maxRecDepth 100000 in
theorem pretty_Ugly.calls (k : Nat) (A0 : Option Addr) (c0 : Nat) (l0 : List Int) (r : List Int) (w : World) (hr0 : Kd.C (Kd.int .u8) w A0 l0.length l0) (hc0 : l0.length ≤ c0) (h : pretty_Ugly.f k l0 = some r) :
  Calls Tryz.prog 36 #[.slice A0 l0.length c0] w fun e w' => ∃ v0_ : Value, e = .returned (v0_) ∧ Kd.R (Kd.int .u8) 5 w' w.heap.size (fun _ => True) v0_ r ∧ Below w.heap.size w w' := by
 have HR0 := Aside0.mk hr0
 have HC0 := Aside0.mk hc0
 clear hr0 hc0
 have HB := Aside0.mk (Below.refl w.heap.size w)
 have H : (if 0 ≤ (l0.length : Int) then (if ((l0.length : Int) : Int).toNat ≤ 281474976710656 then ((pretty_ugly.f k (([] : List Int)) l0).bind fun t451 => (some t451)) else (none)) else (none)) = some r := h
 clear h
 by_cases c2 : 0 ≤ (l0.length : Int)
 rotate_left
 ·
  rw [if_neg c2] at H
  exact absurd H Z2
 rw [if_pos c2] at H
 have c2b0 := eq_true c2
 have c2b1 := decide_eq_true c2
 clear c2
 by_cases c3 : ((l0.length : Int) : Int).toNat ≤ 281474976710656
 rotate_left
 ·
  rw [if_neg c3] at H
  exact absurd H Z2
 rw [if_pos c3] at H
 have c3b0 := eq_true c3
 have c3b1 := decide_eq_true c3
 clear c3
 obtain ⟨y448, hy448⟩ : ∃ y_ : List Int, y_ = (([] : List Int)) := ⟨_, rfl⟩
 first | replace H := bind_y hy448 H | rw [← hy448] at H
 have Ny448 := Aside0.mk hy448
 clear hy448
 replace H := Option.bind_eq_some_iff.mp H
 obtain ⟨t451, A40, H⟩ := H
 have A4 := Aside0.mk A40
 clear A40
 obtain rfl := Option.some.inj H
 go_enter Tryz.func36, Tryz.ntmps36
 go_wp2_with (first | ((with_reducible refine gate_dst (N := 6) rfl ?_); refine Kd.R_make0 (Kd.int .u8) _ 5 rfl (N := 6) rfl 69 _ _ rfl (l0.length : Int) rfl rfl Tryz.underlying69 (.int .u8 0) 1 info5 rfl Z3 Z15 (ok := fun _ => True) trivial (of_decide_eq_true Z1) (Nat.le_trans (Nat.mul_le_mul_right _ (of_decide_eq_true Z1 : (l0.length : Int).toNat ≤ 281474976710656)) Z15) (Below.refl _ _) (Nat.le_refl _) ?_; intro v449 w5 ho6 hb hg_ hnew_; clear hg_ hnew_; (first | rw [← Ny448.out] at ho6 | (simp only [Int.reduceToNat] at ho6; rw [← Ny448.out] at ho6)); have n0_ := Aside0.mk (Kd.R_lower ho6 (below_size Z12)); have n1_ := Aside0.mk (below_step Z12 hb); clear HB; have HO450 := n0_; have HB := n1_; clear n0_ n1_; clear hb ho6; obtain ⟨Ao7, co7, eo7⟩ := Kd.R_slice HO450.out; subst eo7) | ((with_reducible refine gate_callee (f := 62) rfl ?_); refine goesL_ (some 9) rfl rfl Tryz.func62 Z4 rfl #[.slice Ao7 y448.length co7, .slice A0 l0.length c0] rfl Z10 ?_; (with_reducible refine (pretty_ugly.calls k (fun k_ => some k_ = (.slice Ao7 y448.length co7 : Value).ownBlock) (.slice Ao7 y448.length co7) y448 _ _ l0 t451 w _ ?side1 ?side2 ?side3 ?side4 A4.out).mono ?_); (case side1 => exact Z12); (case side2 => exact Kd.R_tight rfl HO450.out); (case side3 => exact Kd.C_kept_came (Kd.heap_int .u8) HR0.out Z12 (fun k_ hs_ => (fun e_ => Kd.R_base HO450.out k_ e_.symm) hs_)); (case side4 => exact HC0.out); rintro e w8 ⟨v452, rfl, ho0, hb, hkp⟩; refine ⟨_, rfl, ?_⟩; have n0_ := Aside0.mk (Kd.R_mono (ok' := fun k_ => True) ho0 (fun k_ hk_ => trivial)); have n1_ := Aside0.mk (hb); clear HB; clear HO450; have HO453 := n0_; have HB := n1_; clear n0_ n1_; (try clear hb); (try clear hkp); (try clear ho0)))
 go_ret
 exact ⟨_, Z11, pR HO453.out, Z12⟩
def impl_PrUgly.f (k : Nat) (a0 : ByteArray) : Option (ByteArray) := if a0.size ≤ 9223372036854775807 then ((pretty_Ugly.f k (bytesOf a0)).bind fun t457 => (some (strOfNums t457))) else (none)
set_option maxHeartbeats 8000000 in
set_option maxRecDepth 100000 in
theorem impl_PrUgly.calls (k : Nat) (a0 : ByteArray) (r : ByteArray) (w : World) (h : impl_PrUgly.f k a0 = some r) :
  Calls Tryz.prog 14 #[.string a0] w fun e w' => e = .returned (.string r) ∧ Below w.heap.size w w' := by
 have HB := Aside0.mk (Below.refl w.heap.size w)
 have H : (if a0.size ≤ 9223372036854775807 then ((pretty_Ugly.f k (bytesOf a0)).bind fun t457 => (some (strOfNums t457))) else (none)) = some r := h
 clear h
 by_cases c2 : a0.size ≤ 9223372036854775807
 rotate_left
 ·
  rw [if_neg c2] at H
  exact absurd H Z2
 rw [if_pos c2] at H
 have c2b0 := eq_true c2
 have c2b1 := decide_eq_true c2
 try have c2b2 : (9223372036854775807 < a0.size) = False := eq_false (Nat.not_lt.2 c2)
 clear c2
 obtain ⟨y454, hy454⟩ : ∃ y_ : List Int, y_ = (bytesOf a0) := ⟨_, rfl⟩
 first | replace H := bind_y hy454 H | rw [← hy454] at H
 have Ny454 := Aside0.mk hy454
 clear hy454
 replace H := Option.bind_eq_some_iff.mp H
 obtain ⟨t457, A30, H⟩ := H
 have A3 := Aside0.mk A30
 clear A30
 obtain rfl := Option.some.inj H
 go_enter Tryz.func14, Tryz.ntmps14
 go_wp2_with (first | ((with_reducible refine gate_dst (N := 4) rfl ?_); refine Kd.V_bytes _ 5 rfl (N := 4) rfl 9 69 _ rfl a0 rfl Tryz.underlying9 Tryz.underlying69 Tryz.underlying5 (of_decide_eq_true Z1) (ok := fun _ => True) trivial (Below.refl _ _) (Nat.le_refl _) ?_; intro v455 w4 ho5 hb hg_ hnew_; clear hg_ hnew_; (first | rw [← Ny454.out] at ho5 | (simp only [Int.reduceToNat] at ho5; rw [← Ny454.out] at ho5)); have n0_ := Aside0.mk (Kd.V_lower ho5 (below_size Z12)); have n1_ := Aside0.mk (below_step Z12 hb); clear HB; have HO456 := n0_; have HB := n1_; clear n0_ n1_; clear hb ho5; obtain ⟨Ao6, co6, eo6⟩ := Kd.V_slice HO456.out; subst eo6) | ((with_reducible refine gate_callee (f := 36) rfl ?_); refine goesL_ (some 5) rfl rfl Tryz.func36 Z4 rfl #[.slice Ao6 y454.length co6] rfl Z10 ?_; (with_reducible refine (pretty_Ugly.calls k _ _ y454 t457 _ ?side1 ?side2 A3.out).mono ?_); (case side1 => repeat (first | exact (Kd.V_reads' HO456.out).2.2 | (with_reducible refine Kd.C_alloc ?_ _) | (with_reducible refine Kd.C_drewN ?_ _) | (with_reducible refine Kd.C_drew ?_))); (case side2 => exact (Kd.V_reads' HO456.out).2.1); rintro e w7 ⟨v458, rfl, ho0, hb⟩; refine ⟨_, rfl, ?_⟩; have n0_ := Aside0.mk (Kd.V_elder' (pV HO456.out) (Kd.R_base ho0) hb); have n1_ := Aside0.mk (Kd.R_lower ho0 (below_size Z12)); have n2_ := Aside0.mk (below_step Z12 hb); clear HO456; clear HB; have HO456 := n0_; have HO459 := n1_; have HB := n2_; clear n0_ n1_ n2_; (try clear hb); (try clear hb2); (try clear hk); (try clear hi); (try clear ho0); have hcv8 := own_string (P := Tryz.prog) Tryz.underlying69 Tryz.underlying5 Tryz.underlying9 (Kd.own_of_R HO459.out)))
 go_ret
 exact ⟨Z11, Z12⟩
end Go.Proofs.YtieflhncpjjciaaGreatDoor.PFnGjSquashItems
