/- Functions of the reference, printed out of the translation and walked. No condition but what each lemma states. -/
import Derived.Test.YtjemobfhlfejlaaGreatDoorFx0
set_option linter.unusedVariables false
set_option linter.unusedSimpArgs false
namespace Go.Proofs.YtjemobfhlfejlaaGreatDoor.PFnFjFloatNear
open Go.RowKit Go.Proofs.YtjemobfhlfejlaaGreatDoorW.PrintWords Go.Proofs.YtjemobfhlfejlaaGreatDoorW.PrintLast Go.Proofs.YtjemobfhlfejlaaGreatDoorW.PrintMore
attribute [local go_sem] max2_int min2_int max_two min_two max_three min_three max_four min_four
def spec_binary.f (a0 : Int) : Option (Int × Int) := if (wrap64 (a0 / 4503599627370496)) = 0 then (some (Go.bits .and .u64 a0 4503599627370495, (-1074))) else (some (Go.bits .or .u64 (Go.bits .and .u64 a0 4503599627370495) 4503599627370496, wrap64 ((wrap64 (a0 / 4503599627370496)) - 1075)))
set_option maxHeartbeats 8000000 in
set_option maxRecDepth 100000 in
theorem spec_binary.calls (a0 : Int) (r1 : Int) (r2 : Int) (w : World) (h : spec_binary.f a0 = some (r1, r2)) :
    Calls Tryz.prog 29 #[.int .u64 a0] w fun e w' => e = .returned (.tuple #[.int .u64 r1, .int .i64 r2]) ∧ Drawn0 w w' := by
  have H : (if (wrap64 (a0 / 4503599627370496)) = 0 then (some (Go.bits .and .u64 a0 4503599627370495, (-1074))) else (some (Go.bits .or .u64 (Go.bits .and .u64 a0 4503599627370495) 4503599627370496, wrap64 ((wrap64 (a0 / 4503599627370496)) - 1075)))) = some (r1, r2) := h
  clear h
  by_cases c2 : (wrap64 (a0 / 4503599627370496)) = 0
  · rw [if_pos c2] at H
    have c2b0 : ((wrap64 (a0 / 4503599627370496)) == 0) = true := beq_iff_eq.mpr c2
    have c2b1 : ((wrap64 (a0 / 4503599627370496)) != 0) = false := bne_eq_false_iff_eq.mpr c2
    clear c2
    simp only [Option.some.injEq, Prod.mk.injEq] at H
    obtain ⟨rfl, rfl⟩ := H
    go_enter Tryz.func29, Tryz.ntmps29
    go_wp2
    go_ret2
    exact ⟨by first | rfl | (simp; done) | (simp [*]; done), by repeat (first | exact Drawn0.refl _ | apply Drawn0.step)⟩
  · rw [if_neg c2] at H
    have c2b0 : ((wrap64 (a0 / 4503599627370496)) == 0) = false := beq_eq_false_iff_ne.mpr c2
    have c2b1 : ((wrap64 (a0 / 4503599627370496)) != 0) = true := bne_iff_ne.mpr c2
    simp only [Option.some.injEq, Prod.mk.injEq] at H
    obtain ⟨rfl, rfl⟩ := H
    go_enter Tryz.func29, Tryz.ntmps29
    go_wp2
    go_ret2
    exact ⟨by first | rfl | (simp; done) | (simp [*]; done), by repeat (first | exact Drawn0.refl _ | apply Drawn0.step)⟩
def spec_ofWord.l0 : Nat → List Int → Option (List Int)
  | 0, _ => none
  | k + 1, x3 => if (x3.length : Int) > 0 then (if 0 ≤ (wrap64 ((x3.length : Int) - 1)) then (if (wrap64 ((x3.length : Int) - 1)) < (x3.length : Int) then (if (rd x3 (wrap64 ((x3.length : Int) - 1))) = 0 then (if (wrap64 ((x3.length : Int) - 1)) ≤ (x3.length : Int) then (spec_ofWord.l0 k (x3.take ((wrap64 ((x3.length : Int) - 1)) : Int).toNat)) else (none)) else (some x3)) else (none)) else (none)) else (some x3)
def spec_ofWord.f (k : Nat) (a0 : Int) : Option (List Int) := spec_ofWord.l0 k (([(a0) % 4294967296, (a0 / 4294967296) % 4294967296] : List Int))
set_option maxHeartbeats 8000000 in
set_option maxRecDepth 100000 in
theorem spec_ofWord.calls (k : Nat) (a0 : Int) (r : List Int) (w : World) (h : spec_ofWord.f k a0 = some r) :
    Calls Tryz.prog 48 #[.int .u64 a0] w fun e w' => ∃ v0_ : Value, e = .returned (v0_) ∧ Kd.R (Kd.int .u32) 116 w' w.heap.size (fun _ => True) v0_ r ∧ Below w.heap.size w w' := by
  have HB := Aside0.mk (Below.refl w.heap.size w)
  have H : (spec_ofWord.l0 k (([(a0) % 4294967296, (a0 / 4294967296) % 4294967296] : List Int))) = some r := h
  clear h
  obtain ⟨y168, hy168⟩ : ∃ y_ : List Int, y_ = (([(a0) % 4294967296, (a0 / 4294967296) % 4294967296] : List Int)) := ⟨_, rfl⟩
  replace H : (spec_ofWord.l0 k y168) = some r := by first | (rw [hy168]; with_reducible exact H) | (have H2_ := (Option.bind_some _ _).symm.trans H; rw [hy168]; with_reducible exact H2_) | (have H2_ := (Option.bind_some _ _).symm.trans H; with_reducible exact H2_) | with_reducible exact H | (rw [hy168]; exact H) | exact H
  have Ny168 := Aside0.mk hy168
  clear hy168
  have H' := Aside0.mk H
  clear H
  go_enter Tryz.func48, Tryz.ntmps48
  go_wp2_with (first | ((with_reducible refine gate_dst (N := 9) rfl ?_); (try (refine gate_guard (by rfl) ?_; dsimp only)); refine Kd.R_lit (Kd.int .u32) _ 116 ?hg (N := 9) ?hd (xs := ([(a0) % 4294967296, (a0 / 4294967296) % 4294967296] : List Int)) (inner := [.int .u32 ((a0) % 4294967296), .int .u32 ((a0 / 4294967296) % 4294967296)]) (ok := fun _ => True) (okp := fun _ => True) ?hr ?hp (fun _ hk => hk) trivial (Below.refl _ _) (Nat.le_refl _) (by simp) ?_; (case hd => rfl); (case hg => rfl); (case hr => first | (go_simp; done) | (go_simp; rfl)); (case hp => exact (Reps.one (show Kd.M (Kd.int .u32) _ _ _ ((a0) % 4294967296) [.int .u32 ((a0) % 4294967296)] from rfl) (Reps.one (show Kd.M (Kd.int .u32) _ _ _ ((a0 / 4294967296) % 4294967296) [.int .u32 ((a0 / 4294967296) % 4294967296)] from rfl) (Reps.none _ _)))); intro v169 w2 ho3 hb hg_ hnew_; clear hg_ hnew_; (first | rw [← Ny168.out] at ho3 | (simp only [Int.reduceToNat] at ho3; rw [← Ny168.out] at ho3)); have n0_ := Aside0.mk (Kd.R_lower ho3 (below_size (by repeat (first | (with_reducible first | exact HB.out | apply below_alloc | apply pw_below_drewN | apply below_drew1) | exact HB.out)))); have n1_ := Aside0.mk (below_step (by repeat (first | (with_reducible first | exact HB.out | apply below_alloc | apply pw_below_drewN | apply below_drew1) | exact HB.out)) hb); clear HB; have HO170 := n0_; have HB := n1_; clear n0_ n1_; clear hb ho3))
  (try simp only [Act.put, List.setIfInBounds_toArray, List.set_cons_succ, List.set_cons_zero])
  go_loopg [3] k (fun kq v3 w' => ∃ (x3_1 : List Int), Aside0 (spec_ofWord.l0 kq x3_1 = some r) ∧ Aside0 (kq ≤ k) ∧ Aside0 (Kd.R (Kd.int .u32) 116 w' w.heap.size (fun _ => True) v3 x3_1) ∧ Aside0 (Below w.heap.size w w'))
  case atStart => exact ⟨(y168), H', ⟨Nat.le_refl _⟩, ⟨by (with_reducible repeat (first | apply Kd.R_alloc | apply Kd.R_drewN | apply Kd.R_drew)); first | exact HO170.out | exact own_to HO170.out⟩, ⟨by repeat (first | (with_reducible first | exact HB.out | apply below_alloc | apply pw_below_drewN | apply below_drew1) | exact HB.out)⟩⟩
  case round =>
    clear H'
    try clear p2
    obtain ⟨x3_1, HA, HK1, HO_3, HB⟩ := hrel
    cases gk with
    | zero => exact absurd HA.out (by simp [spec_ofWord.l0])
    | succ k1 =>
      have H := HA.out
      clear HA
      simp only [spec_ofWord.l0] at H
      by_cases c4 : (x3_1.length : Int) > 0
      · rw [if_pos c4] at H
        have c4b0 : decide (0 < (x3_1.length : Int)) = true := decide_eq_true c4
        have c4b1 : decide (0 < x3_1.length) = true := decide_eq_true (by omega)
        clear c4
        obtain ⟨ji5, hji5⟩ : ∃ j_ : Int, (wrap64 ((x3_1.length : Int) - 1)) = j_ := ⟨_, rfl⟩
        replace H : (if 0 ≤ (ji5) then (if (ji5) < (x3_1.length : Int) then (if (rd x3_1 (ji5)) = 0 then (if (ji5) ≤ (x3_1.length : Int) then (spec_ofWord.l0 k1 (x3_1.take ((ji5) : Int).toNat)) else (none)) else (some x3_1)) else (none)) else (none)) = some r := by first | (rw [hji5] at H; exact H) | (simp only [hji5] at H ⊢; exact H)
        have hji5w : (IntKind.i64.wrap ((x3_1.length : Int) - 1)) = ji5 := (i64_w _).trans hji5
        by_cases c6 : 0 ≤ (ji5)
        · rw [if_pos c6] at H
          have c6b0 : decide (0 ≤ (ji5)) = true := decide_eq_true c6
          clear c6
          by_cases c7 : (ji5) < (x3_1.length : Int)
          · rw [if_pos c7] at H
            have c7b0 : decide ((ji5) < (x3_1.length : Int)) = true := decide_eq_true c7
            clear c7
            by_cases c8 : (rd x3_1 (ji5)) = 0
            · rw [if_pos c8] at H
              have c8b0 : ((rd x3_1 (ji5)) == 0) = true := beq_iff_eq.mpr c8
              have c8b1 : ((rd x3_1 (ji5)) != 0) = false := bne_eq_false_iff_eq.mpr c8
              clear c8
              by_cases c9 : (ji5) ≤ (x3_1.length : Int)
              · rw [if_pos c9] at H
                have c9b0 := eq_true c9
                have c9b1 : decide ((ji5) ≤ (x3_1.length : Int)) = true := decide_eq_true c9
                clear c9
                obtain ⟨y172, hy172⟩ : ∃ y_ : List Int, y_ = (x3_1.take ((ji5) : Int).toNat) := ⟨_, rfl⟩
                replace H : (spec_ofWord.l0 k1 y172) = some r := by first | (rw [hy172]; with_reducible exact H) | (have H2_ := (Option.bind_some _ _).symm.trans H; rw [hy172]; with_reducible exact H2_) | (have H2_ := (Option.bind_some _ _).symm.trans H; with_reducible exact H2_) | with_reducible exact H | (rw [hy172]; exact H) | exact H
                have Ny172 := Aside0.mk hy172
                clear hy172
                have H' := Aside0.mk H
                clear H
                obtain ⟨Ao10, co10, eo10⟩ := Kd.R_slice HO_3.out
                subst eo10
                have p171 : 0 ≤ ((ji5) : Int) := of_decide_eq_true (by first | (with_reducible assumption) | assumption)
                have q171 : (ji5) < (x3_1.length : Int) := of_decide_eq_true (by first | (with_reducible assumption) | assumption)
                obtain ⟨ad171, e171, hx171_0⟩ := Kd.at_int (Kd.R_reads' HO_3.out).2.2 (ji5) p171 q171
                cases e171
                replace p171 := eq_true p171
                replace q171 := eq_true q171
                have q11 : ((ji5) : Int) ≤ ((x3_1.length : Int) : Int) := of_decide_eq_true (by first | (with_reducible assumption) | assumption)
                obtain ⟨i011, hi011, _, hsz11, _⟩ := info_parts info116
                have hcut11 := cut_to (P := Tryz.prog) 96 116 .i64 Tryz.underlying96 hi011 (some ad171) x3_1.length co10 (ji5) (of_decide_eq_true (by first | (with_reducible assumption) | assumption)) q11 (Kd.R_reads' HO_3.out).2.1
                have hr11 := Kd.R_take (m := ((ji5) : Int).toNat) HO_3.out (by omega)
                have hy11 : y172.length = ((ji5) : Int).toNat := (by rw [Ny172.out, List.length_take]; omega)
                rw [← Ny172.out] at hr11
                rw [← hy11] at hr11 hcut11
                clear hy11 hi011 hsz11 HO_3
                have HO174 := Aside0.mk hr11
                clear hr11
                replace q11 := eq_true q11
                go_wp2
                go_roundg k1
                case measure => have := HK1.out; omega
                case rel => exact ⟨(y172), H', ⟨by have := HK1.out; omega⟩, ⟨by (with_reducible repeat (first | apply Kd.R_alloc | apply Kd.R_drewN | apply Kd.R_drew)); first | exact HO174.out | exact own_to HO174.out⟩, ⟨by repeat (first | (with_reducible first | exact HB.out | apply below_alloc | apply pw_below_drewN | apply below_drew1) | exact HB.out)⟩⟩
              · rw [if_neg c9] at H
                exact absurd H (by simp)
            · rw [if_neg c8] at H
              have c8b0 : ((rd x3_1 (ji5)) == 0) = false := beq_eq_false_iff_ne.mpr c8
              have c8b1 : ((rd x3_1 (ji5)) != 0) = true := bne_iff_ne.mpr c8
              obtain rfl := Option.some.inj H
              obtain ⟨Ao12, co12, eo12⟩ := Kd.R_slice HO_3.out
              subst eo12
              have p171 : 0 ≤ ((ji5) : Int) := of_decide_eq_true (by first | (with_reducible assumption) | assumption)
              have q171 : (ji5) < (x3_1.length : Int) := of_decide_eq_true (by first | (with_reducible assumption) | assumption)
              obtain ⟨ad171, e171, hx171_0⟩ := Kd.at_int (Kd.R_reads' HO_3.out).2.2 (ji5) p171 q171
              cases e171
              replace p171 := eq_true p171
              replace q171 := eq_true q171
              go_wp2
              go_ret
              exact ⟨_, by first | rfl | (simp [errW_none, errW_some] <;> rfl) | (simp only [← hji5]; first | rfl | (simp [errW_none, errW_some] <;> rfl)) | (simp [*, errW_none, errW_some] <;> rfl), by (with_reducible repeat (first | apply Kd.R_alloc | apply Kd.R_drewN | apply Kd.R_drew)); first | exact HO_3.out | exact own_to HO_3.out, by repeat (first | (with_reducible first | exact HB.out | apply below_alloc | apply pw_below_drewN | apply below_drew1) | exact HB.out)⟩
          · rw [if_neg c7] at H
            exact absurd H (by simp)
        · rw [if_neg c6] at H
          exact absurd H (by simp)
      · rw [if_neg c4] at H
        have c4b0 : decide (0 < (x3_1.length : Int)) = false := decide_eq_false c4
        have c4b1 : decide (0 < x3_1.length) = false := decide_eq_false (by omega)
        clear c4
        obtain rfl := Option.some.inj H
        obtain ⟨Ao13, co13, eo13⟩ := Kd.R_slice HO_3.out
        subst eo13
        go_wp2
        go_ret
        exact ⟨_, by first | rfl | (simp [errW_none, errW_some] <;> rfl) | (simp [*, errW_none, errW_some] <;> rfl), by (with_reducible repeat (first | apply Kd.R_alloc | apply Kd.R_drewN | apply Kd.R_drew)); first | exact HO_3.out | exact own_to HO_3.out, by repeat (first | (with_reducible first | exact HB.out | apply below_alloc | apply pw_below_drewN | apply below_drew1) | exact HB.out)⟩
def spec_natural_times.l0 : Nat → List Int → Int → List Int → Int → Int → Option (List Int)
  | 0, _, _, _, _, _ => none
  | k + 1, x0, x1, x7, x8, x9 => if x9 < (x0.length : Int) then (if 0 ≤ x9 then (if x7.length < 35184372088832 then (spec_natural_times.l0 k x0 x1 (x7 ++ [(IntKind.u64.wrap (x8 + (IntKind.u64.wrap ((IntKind.u64.wrap (rd x0 x9)) * (IntKind.u64.wrap (x1)))))) % 4294967296]) ((IntKind.u64.wrap (x8 + (IntKind.u64.wrap ((IntKind.u64.wrap (rd x0 x9)) * (IntKind.u64.wrap (x1)))))) / 4294967296) (wrap64 (x9 + 1))) else (none)) else (none)) else (if x8 > 0 then (if x7.length < 35184372088832 then (some (x7 ++ [(x8) % 4294967296])) else (none)) else (some x7))
def spec_natural_times.f (k : Nat) (l0 : List Int) (a1 : Int) (a2 : Int) : Option (List Int) := if 0 ≤ (wrap64 ((l0.length : Int) + 1)) then (if (wrap64 ((l0.length : Int) + 1) : Int).toNat ≤ 70368744177664 then (spec_natural_times.l0 k l0 a1 (([] : List Int)) (IntKind.u64.wrap (a2)) 0) else (none)) else (none)
set_option maxHeartbeats 8000000 in
set_option maxRecDepth 100000 in
theorem spec_natural_times.calls (k : Nat) (A0 : Option Addr) (c0 : Nat) (l0 : List Int) (a1 : Int) (a2 : Int) (r : List Int) (w : World) (hr0 : Kd.C (Kd.int .u32) w A0 l0.length l0) (hc0 : l0.length ≤ c0) (h : spec_natural_times.f k l0 a1 a2 = some r) :
    Calls Tryz.prog 65 #[.slice A0 l0.length c0, .int .u32 a1, .int .u32 a2] w fun e w' => ∃ v0_ : Value, e = .returned (v0_) ∧ Kd.R (Kd.int .u32) 116 w' w.heap.size (fun _ => True) v0_ r ∧ Below w.heap.size w w' := by
  have HR0 := Aside0.mk hr0
  have HC0 := Aside0.mk hc0
  clear hr0 hc0
  have HB := Aside0.mk (Below.refl w.heap.size w)
  have H : (if 0 ≤ (wrap64 ((l0.length : Int) + 1)) then (if (wrap64 ((l0.length : Int) + 1) : Int).toNat ≤ 70368744177664 then (spec_natural_times.l0 k l0 a1 (([] : List Int)) (IntKind.u64.wrap (a2)) 0) else (none)) else (none)) = some r := h
  clear h
  obtain ⟨ji4, hji4⟩ : ∃ j_ : Int, (wrap64 ((l0.length : Int) + 1)) = j_ := ⟨_, rfl⟩
  replace H : (if 0 ≤ (ji4) then (if (ji4 : Int).toNat ≤ 70368744177664 then (spec_natural_times.l0 k l0 a1 (([] : List Int)) (IntKind.u64.wrap (a2)) 0) else (none)) else (none)) = some r := by first | (rw [hji4] at H; exact H) | (simp only [hji4] at H ⊢; exact H)
  have hji4w : (IntKind.i64.wrap ((l0.length : Int) + 1)) = ji4 := (i64_w _).trans hji4
  by_cases c5 : 0 ≤ (ji4)
  · rw [if_pos c5] at H
    have c5b0 := eq_true c5
    have c5b1 : decide (0 ≤ (ji4)) = true := decide_eq_true c5
    clear c5
    by_cases c6 : (ji4 : Int).toNat ≤ 70368744177664
    · rw [if_pos c6] at H
      have c6b0 := eq_true c6
      have c6b1 : decide ((ji4 : Int).toNat ≤ 70368744177664) = true := decide_eq_true c6
      clear c6
      obtain ⟨y175, hy175⟩ : ∃ y_ : List Int, y_ = (([] : List Int)) := ⟨_, rfl⟩
      replace H : (spec_natural_times.l0 k l0 a1 y175 (IntKind.u64.wrap (a2)) 0) = some r := by first | (rw [hy175]; with_reducible exact H) | (have H2_ := (Option.bind_some _ _).symm.trans H; rw [hy175]; with_reducible exact H2_) | (have H2_ := (Option.bind_some _ _).symm.trans H; with_reducible exact H2_) | with_reducible exact H | (rw [hy175]; exact H) | exact H
      have Ny175 := Aside0.mk hy175
      clear hy175
      have H' := Aside0.mk H
      clear H
      go_enter Tryz.func65, Tryz.ntmps65
      go_wp2_with (first | ((with_reducible refine gate_dst (N := 13) rfl ?_); refine Kd.R_make0 (Kd.int .u32) _ 116 rfl (N := 13) rfl 96 _ _ rfl ji4 rfl rfl Tryz.underlying96 (.int .u32 0) 4 info116 rfl (by decide) (by omega) (ok := fun _ => True) trivial (of_decide_eq_true (by first | (with_reducible assumption) | assumption)) (Nat.le_trans (Nat.mul_le_mul_right _ (of_decide_eq_true (by first | (with_reducible assumption) | assumption) : ji4.toNat ≤ 70368744177664)) (by omega)) (Below.refl _ _) (Nat.le_refl _) ?_; intro v176 w7 ho8 hb hg_ hnew_; clear hg_ hnew_; (first | rw [← Ny175.out] at ho8 | (simp only [Int.reduceToNat] at ho8; rw [← Ny175.out] at ho8)); have n0_ := Aside0.mk (Kd.R_lower ho8 (below_size (by repeat (first | (with_reducible first | exact HB.out | apply below_alloc | apply pw_below_drewN | apply below_drew1) | exact HB.out)))); have n1_ := Aside0.mk (below_step (by repeat (first | (with_reducible first | exact HB.out | apply below_alloc | apply pw_below_drewN | apply below_drew1) | exact HB.out)) hb); clear HB; have HO177 := n0_; have HB := n1_; clear n0_ n1_; clear hb ho8))
      (try simp only [Act.put, List.setIfInBounds_toArray, List.set_cons_succ, List.set_cons_zero])
      go_loopg [7, 8, 9] k (fun kq v7 v8 v9 w' => ∃ (x7_1 : List Int) (x8_1 : Int) (x9_1 : Int), v8 = .int .u64 x8_1 ∧ v9 = .int .i64 x9_1 ∧ Aside0 (spec_natural_times.l0 kq l0 a1 x7_1 x8_1 x9_1 = some r) ∧ Aside0 (kq ≤ k) ∧ Aside0 (Kd.R (Kd.int .u32) 116 w' w.heap.size (fun _ => True) v7 x7_1) ∧ Aside0 (Below w.heap.size w w'))
      case atStart => exact ⟨(y175), (IntKind.u64.wrap (a2)), (0), (by first | rfl | (simp; done) | (simp [*]; done)), (by first | rfl | (simp; done) | (simp [*]; done)), H', ⟨Nat.le_refl _⟩, ⟨by (with_reducible repeat (first | apply Kd.R_alloc | apply Kd.R_drewN | apply Kd.R_drew)); first | exact HO177.out | exact own_to HO177.out⟩, ⟨by repeat (first | (with_reducible first | exact HB.out | apply below_alloc | apply pw_below_drewN | apply below_drew1) | exact HB.out)⟩⟩
      case round =>
        clear H'
        try clear p2
        try clear c5
        try clear c5b0
        try clear c5b1
        try clear c6
        try clear c6b0
        try clear c6b1
        try clear p6
        obtain ⟨x7_1, x8_1, x9_1, rfl, rfl, HA, HK1, HO_7, HB⟩ := hrel
        cases gk with
        | zero => exact absurd HA.out (by simp [spec_natural_times.l0])
        | succ k1 =>
          have H := HA.out
          clear HA
          simp only [spec_natural_times.l0] at H
          by_cases c9 : x9_1 < (l0.length : Int)
          · rw [if_pos c9] at H
            have c9b0 : decide (x9_1 < (l0.length : Int)) = true := decide_eq_true c9
            clear c9
            by_cases c10 : 0 ≤ x9_1
            · rw [if_pos c10] at H
              have c10b0 : decide (0 ≤ x9_1) = true := decide_eq_true c10
              clear c10
              by_cases c11 : x7_1.length < 35184372088832
              · rw [if_pos c11] at H
                have LMc11 := Aside0.mk c11
                clear c11
                obtain ⟨y179, hy179⟩ : ∃ y_ : List Int, y_ = (x7_1 ++ [(IntKind.u64.wrap (x8_1 + (IntKind.u64.wrap ((IntKind.u64.wrap (rd l0 x9_1)) * (IntKind.u64.wrap (a1)))))) % 4294967296]) := ⟨_, rfl⟩
                replace H : (spec_natural_times.l0 k1 l0 a1 y179 ((IntKind.u64.wrap (x8_1 + (IntKind.u64.wrap ((IntKind.u64.wrap (rd l0 x9_1)) * (IntKind.u64.wrap (a1)))))) / 4294967296) (wrap64 (x9_1 + 1))) = some r := by first | (rw [hy179]; with_reducible exact H) | (have H2_ := (Option.bind_some _ _).symm.trans H; rw [hy179]; with_reducible exact H2_) | (have H2_ := (Option.bind_some _ _).symm.trans H; with_reducible exact H2_) | with_reducible exact H | (rw [hy179]; exact H) | exact H
                have Ny179 := Aside0.mk hy179
                clear hy179
                have H' := Aside0.mk H
                clear H
                have p178 : 0 ≤ (x9_1 : Int) := of_decide_eq_true (by first | (with_reducible assumption) | assumption)
                have q178 : x9_1 < (l0.length : Int) := of_decide_eq_true (by first | (with_reducible assumption) | assumption)
                obtain ⟨ad178, e178, hx178_0⟩ := Kd.at_int HR0.out x9_1 p178 q178
                cases e178
                replace hx178_0 := (HB.out.cell (World.block_lt_of_cell? w _ hx178_0)).trans hx178_0
                replace p178 := eq_true p178
                replace q178 := eq_true q178
                go_wp2_with (first | ((with_reducible refine gate_builtin (b := .append) (xs := #[.tmp 32, .tmp 35]) rfl ?_); at_builtin; refine Kd.R_append (Kd.int .u32) (w0 := w) w.heap.size rfl (.tmp 32) (.tmp 35) 96 116 (.int .u32 0) 4 rfl Tryz.underlying96 info116 rfl (by decide) (by omega) u7 x7_1 ((IntKind.u64.wrap (x8_1 + (IntKind.u64.wrap ((IntKind.u64.wrap (rd l0 x9_1)) * (IntKind.u64.wrap (a1)))))) % 4294967296) [.int .u32 ((IntKind.u64.wrap (x8_1 + (IntKind.u64.wrap ((IntKind.u64.wrap (rd l0 x9_1)) * (IntKind.u64.wrap (a1)))))) % 4294967296)] (fun _ => True) (fun _ => False) rfl rfl ?aP (fun _ hk => hk.elim) ?aF ?aO ?aB ?aS ?aL ?_; (case aP => exact rfl); (case aB => exact (by repeat (first | (with_reducible first | exact HB.out | apply below_alloc | apply pw_below_drewN | apply below_drew1) | exact HB.out))); (case aF => exact (fun _ _ => trivial)); (case aO => exact (by (with_reducible repeat (first | apply Kd.R_alloc | apply Kd.R_drewN | apply Kd.R_drew)); first | exact HO_7.out | exact own_to HO_7.out)); (case aS => exact (below_size (by repeat (first | (with_reducible first | exact HB.out | apply below_alloc | apply pw_below_drewN | apply below_drew1) | exact HB.out)))); (case aL => have := LMc11.out; omega); intro v180 w12 ho hb hg hat; rw [← Ny179.out] at ho; have n0_ := Aside0.mk (hb); have n1_ := Aside0.mk (ho); clear HB; clear HO_7; have HB := n0_; have HO181 := n1_; clear n0_ n1_; clear ho hb hg hat))
                go_roundg k1
                case measure => have := HK1.out; omega
                case rel => exact ⟨(y179), ((IntKind.u64.wrap (x8_1 + (IntKind.u64.wrap ((IntKind.u64.wrap (rd l0 x9_1)) * (IntKind.u64.wrap (a1)))))) / 4294967296), (wrap64 (x9_1 + 1)), (by first | rfl | (simp; done) | (simp [*]; done)), (by first | rfl | (simp; done) | (simp [*]; done)), H', ⟨by have := HK1.out; omega⟩, ⟨by (with_reducible repeat (first | apply Kd.R_alloc | apply Kd.R_drewN | apply Kd.R_drew)); first | exact HO181.out | exact own_to HO181.out⟩, ⟨by repeat (first | (with_reducible first | exact HB.out | apply below_alloc | apply pw_below_drewN | apply below_drew1) | exact HB.out)⟩⟩
              · rw [if_neg c11] at H
                exact absurd H (by simp)
            · rw [if_neg c10] at H
              exact absurd H (by simp)
          · rw [if_neg c9] at H
            have c9b0 : decide (x9_1 < (l0.length : Int)) = false := decide_eq_false c9
            clear c9
            by_cases c13 : x8_1 > 0
            · rw [if_pos c13] at H
              have c13b0 : decide (0 < x8_1) = true := decide_eq_true c13
              clear c13
              by_cases c14 : x7_1.length < 35184372088832
              · rw [if_pos c14] at H
                have LMc14 := Aside0.mk c14
                clear c14
                obtain ⟨y182, hy182⟩ : ∃ y_ : List Int, y_ = (x7_1 ++ [(x8_1) % 4294967296]) := ⟨_, rfl⟩
                replace H : (some y182) = some r := by first | (rw [hy182]; with_reducible exact H) | (have H2_ := (Option.bind_some _ _).symm.trans H; rw [hy182]; with_reducible exact H2_) | (have H2_ := (Option.bind_some _ _).symm.trans H; with_reducible exact H2_) | with_reducible exact H | (rw [hy182]; exact H) | exact H
                have Ny182 := Aside0.mk hy182
                clear hy182
                obtain rfl := Option.some.inj H
                go_wp2_with (first | ((with_reducible refine gate_builtin (b := .append) (xs := #[.tmp 41, .tmp 44]) rfl ?_); at_builtin; refine Kd.R_append (Kd.int .u32) (w0 := w) w.heap.size rfl (.tmp 41) (.tmp 44) 96 116 (.int .u32 0) 4 rfl Tryz.underlying96 info116 rfl (by decide) (by omega) u7 x7_1 ((x8_1) % 4294967296) [.int .u32 ((x8_1) % 4294967296)] (fun _ => True) (fun _ => False) rfl rfl ?aP (fun _ hk => hk.elim) ?aF ?aO ?aB ?aS ?aL ?_; (case aP => exact rfl); (case aB => exact (by repeat (first | (with_reducible first | exact HB.out | apply below_alloc | apply pw_below_drewN | apply below_drew1) | exact HB.out))); (case aF => exact (fun _ _ => trivial)); (case aO => exact (by (with_reducible repeat (first | apply Kd.R_alloc | apply Kd.R_drewN | apply Kd.R_drew)); first | exact HO_7.out | exact own_to HO_7.out)); (case aS => exact (below_size (by repeat (first | (with_reducible first | exact HB.out | apply below_alloc | apply pw_below_drewN | apply below_drew1) | exact HB.out)))); (case aL => have := LMc14.out; omega); intro v183 w15 ho hb hg hat; rw [← Ny182.out] at ho; have n0_ := Aside0.mk (hb); have n1_ := Aside0.mk (ho); clear HB; clear HO_7; have HB := n0_; have HO184 := n1_; clear n0_ n1_; clear ho hb hg hat))
                go_ret
                exact ⟨_, by first | rfl | (simp [errW_none, errW_some] <;> rfl) | (simp only [← hji4]; first | rfl | (simp [errW_none, errW_some] <;> rfl)) | (simp [*, errW_none, errW_some] <;> rfl), by (with_reducible repeat (first | apply Kd.R_alloc | apply Kd.R_drewN | apply Kd.R_drew)); first | exact HO184.out | exact own_to HO184.out, by repeat (first | (with_reducible first | exact HB.out | apply below_alloc | apply pw_below_drewN | apply below_drew1) | exact HB.out)⟩
              · rw [if_neg c14] at H
                exact absurd H (by simp)
            · rw [if_neg c13] at H
              have c13b0 : decide (0 < x8_1) = false := decide_eq_false c13
              clear c13
              obtain rfl := Option.some.inj H
              go_wp2
              go_ret
              exact ⟨_, by first | rfl | (simp [errW_none, errW_some] <;> rfl) | (simp only [← hji4]; first | rfl | (simp [errW_none, errW_some] <;> rfl)) | (simp [*, errW_none, errW_some] <;> rfl), by (with_reducible repeat (first | apply Kd.R_alloc | apply Kd.R_drewN | apply Kd.R_drew)); first | exact HO_7.out | exact own_to HO_7.out, by repeat (first | (with_reducible first | exact HB.out | apply below_alloc | apply pw_below_drewN | apply below_drew1) | exact HB.out)⟩
    · rw [if_neg c6] at H
      exact absurd H (by simp)
  · rw [if_neg c5] at H
    exact absurd H (by simp)
end Go.Proofs.YtjemobfhlfejlaaGreatDoor.PFnFjFloatNear
