/- Functions of the reference, printed out of the translation and walked. No condition but what each lemma states. -/
import Derived.Test.YtjemobfhlfejlaaGreatDoorFx0
import Derived.Test.YtjemobfhlfejlaaGreatDoorFx4
set_option linter.unusedVariables false
set_option linter.unusedSimpArgs false
namespace Go.Proofs.YtjemobfhlfejlaaGreatDoor.PFnFjFloatNear
open Go.RowKit Go.Proofs.YtjemobfhlfejlaaGreatDoorW.PrintWords Go.Proofs.YtjemobfhlfejlaaGreatDoorW.PrintLast Go.Proofs.YtjemobfhlfejlaaGreatDoorW.PrintMore
attribute [local go_sem] max2_int min2_int max_two min_two max_three min_three max_four min_four
def spec_ofDigits.l0 : Nat → ByteArray → List Int → Int → Option (List Int)
  | 0, _, _, _ => none
  | k + 1, x0, x3, x4 => if x4 < (x0.size : Int) then (if 0 ≤ x4 then ((spec_natural_times.f k x3 10 (((bt x0 x4) - 48) % 256)).bind fun t185 => (spec_ofDigits.l0 k x0 t185 (wrap64 (x4 + 1)))) else (none)) else (some x3)
def spec_ofDigits.f (k : Nat) (a0 : ByteArray) : Option (List Int) := spec_ofDigits.l0 k a0 ([] : List Int) 0
set_option maxHeartbeats 8000000 in
set_option maxRecDepth 100000 in
theorem spec_ofDigits.calls (k : Nat) (a0 : ByteArray) (r : List Int) (w : World) (h : spec_ofDigits.f k a0 = some r) :
    Calls Tryz.prog 49 #[.string a0] w fun e w' => ∃ v0_ : Value, e = .returned (v0_) ∧ Kd.R (Kd.int .u32) 116 w' w.heap.size (fun _ => True) v0_ r ∧ Below w.heap.size w w' := by
  have HB := Aside0.mk (Below.refl w.heap.size w)
  have H : (spec_ofDigits.l0 k a0 ([] : List Int) 0) = some r := h
  clear h
  have H' := Aside0.mk H
  clear H
  go_enter Tryz.func49, Tryz.ntmps49
  go_wp2
  (try simp only [Act.put, List.setIfInBounds_toArray, List.set_cons_succ, List.set_cons_zero])
  go_loopg [3, 4] k (fun kq v3 v4 w' => ∃ (x3_1 : List Int) (x4_1 : Int), v4 = .int .i64 x4_1 ∧ Aside0 (spec_ofDigits.l0 kq a0 x3_1 x4_1 = some r) ∧ Aside0 (kq ≤ k) ∧ Aside0 (Kd.R (Kd.int .u32) 116 w' w.heap.size (fun _ => True) v3 x3_1) ∧ Aside0 (Below w.heap.size w w'))
  case atStart => exact ⟨(([] : List Int)), (0), (by first | rfl | (simp; done) | (simp [*]; done)), H', ⟨Nat.le_refl _⟩, ⟨by first | exact Kd.R_nil _ _ _ _ _ | exact Kd.N_nil _ _ _ _ _ | exact Kd.V_nil _ _ _ _ _ | exact Kd.Q_nil _ _ _ _ _ | exact Kd.S_nil _ _ _ _ _⟩, ⟨by repeat (first | (with_reducible first | exact HB.out | apply below_alloc | apply pw_below_drewN | apply below_drew1) | exact HB.out)⟩⟩
  case round =>
    clear H'
    obtain ⟨x3_1, x4_1, rfl, HA, HK1, HO_3, HB⟩ := hrel
    cases gk with
    | zero => exact absurd HA.out (by simp [spec_ofDigits.l0])
    | succ k1 =>
      have H := HA.out
      clear HA
      simp only [spec_ofDigits.l0] at H
      by_cases c2 : x4_1 < (a0.size : Int)
      · rw [if_pos c2] at H
        have c2b0 : decide (x4_1 < (a0.size : Int)) = true := decide_eq_true c2
        clear c2
        by_cases c3 : 0 ≤ x4_1
        · rw [if_pos c3] at H
          have c3b0 : decide (0 ≤ x4_1) = true := decide_eq_true c3
          clear c3
          replace H := Option.bind_eq_some_iff.mp H
          obtain ⟨t185, A50, H⟩ := H
          replace H : (spec_ofDigits.l0 k1 a0 t185 (wrap64 (x4_1 + 1))) = some r := H
          have A5 := Aside0.mk A50
          clear A50
          have H' := Aside0.mk H
          clear H
          have p4 : 0 ≤ (x4_1 : Int) := of_decide_eq_true (by first | (with_reducible assumption) | assumption)
          have q4 : x4_1 < (a0.size : Int) := of_decide_eq_true (by first | (with_reducible assumption) | assumption)
          have hx4 := bt_at a0 x4_1
          replace p4 := eq_true p4
          replace q4 := eq_true q4
          obtain ⟨Ao6, co6, eo6⟩ := Kd.R_slice HO_3.out
          subst eo6
          go_wp2_with (first | ((with_reducible refine gate_callee (f := 65) rfl ?_); refine goesL_ (some 17) rfl rfl Tryz.func65 (by kernel_rfl) rfl #[.slice Ao6 x3_1.length co6, .int .u32 10, .int .u32 (((bt a0 x4_1) - 48) % 256)] rfl (by (try simp only [List.map_toArray, List.map_cons, List.map_nil]); first | done | rfl | (simp only [List.length_drop, List.length_take]; rfl) | (simp only [ByteArray.size_append, Int.natCast_add]; first | done | rfl) | (go_simp; first | done | (simp [ByteArray.size_append, ByteArray.size_extract]; done))) ?_; (with_reducible refine (spec_natural_times.calls k1 _ _ x3_1 10 (((bt a0 x4_1) - 48) % 256) t185 _ ?side1 ?side2 A5.out).mono ?_); (case side1 => repeat (first | exact (Kd.R_reads' HO_3.out).2.2 | (with_reducible refine Kd.C_alloc ?_ _) | (with_reducible refine Kd.C_drewN ?_ _) | (with_reducible refine Kd.C_drew ?_))); (case side2 => exact (Kd.R_reads' HO_3.out).2.1); rintro e w7 ⟨v186, rfl, ho0, hb⟩; refine ⟨_, rfl, ?_⟩; have n0_ := Aside0.mk (Kd.R_elder' (by (with_reducible repeat (first | apply Kd.R_alloc | apply Kd.R_drewN | apply Kd.R_drew)); first | exact HO_3.out | exact own_to HO_3.out) (Kd.R_base ho0) hb); have n1_ := Aside0.mk (Kd.R_lower (Kd.R_new' ho0 (Kd.R_lt (by (with_reducible repeat (first | apply Kd.R_alloc | apply Kd.R_drewN | apply Kd.R_drew)); first | exact HO_3.out | exact own_to HO_3.out))) (below_size (by repeat (first | (with_reducible first | exact HB.out | apply below_alloc | apply pw_below_drewN | apply below_drew1) | exact HB.out)))); have n2_ := Aside0.mk (below_step (by repeat (first | (with_reducible first | exact HB.out | apply below_alloc | apply pw_below_drewN | apply below_drew1) | exact HB.out)) hb); clear HO_3; clear HB; have HO_3 := n0_; have HO187 := n1_; have HB := n2_; clear n0_ n1_ n2_; (try clear hb); (try clear hb2); (try clear hk); (try clear hi); (try clear ho0)))
          go_roundg k1
          case measure => have := HK1.out; omega
          case rel => exact ⟨(t185), (wrap64 (x4_1 + 1)), (by first | rfl | (simp; done) | (simp [*]; done)), H', ⟨by have := HK1.out; omega⟩, ⟨by (with_reducible repeat (first | apply Kd.R_alloc | apply Kd.R_drewN | apply Kd.R_drew)); exact Kd.R_mono HO187.out (fun _ hk => trivial)⟩, ⟨by repeat (first | (with_reducible first | exact HB.out | apply below_alloc | apply pw_below_drewN | apply below_drew1) | exact HB.out)⟩⟩
        · rw [if_neg c3] at H
          exact absurd H (by simp)
      · rw [if_neg c2] at H
        have c2b0 : decide (x4_1 < (a0.size : Int)) = false := decide_eq_false c2
        clear c2
        obtain rfl := Option.some.inj H
        go_wp2
        go_ret
        exact ⟨_, by first | rfl | (simp [errW_none, errW_some] <;> rfl) | (simp [*, errW_none, errW_some] <;> rfl), by (with_reducible repeat (first | apply Kd.R_alloc | apply Kd.R_drewN | apply Kd.R_drew)); first | exact HO_3.out | exact own_to HO_3.out, by repeat (first | (with_reducible first | exact HB.out | apply below_alloc | apply pw_below_drewN | apply below_drew1) | exact HB.out)⟩
def spec_natural_shift.f (k : Nat) (l0 : List Int) (a1 : Int) : Option (List Int) := if (l0.length : Int) = 0 then (some l0) else (if 0 ≤ (Int.tmod a1 32) then ((spec_natural_times.f k l0 (shl .u32 1 (Int.tmod a1 32)) 0).bind fun t188 => (if 0 ≤ (wrap64 (Int.tdiv a1 32)) then (if (wrap64 (Int.tdiv a1 32) : Int).toNat ≤ 70368744177664 then ((some (List.replicate (wrap64 (Int.tdiv a1 32) : Int).toNat 0 : List Int)).bind fun y191 => (if y191.length + t188.length < 35184372088832 then (some (y191 ++ t188)) else (none))) else (none)) else (none))) else (none))
set_option maxHeartbeats 8000000 in
set_option maxRecDepth 100000 in
theorem spec_natural_shift.calls (k : Nat) (P0_ : Nat → Prop) (u9000_ : Value) (l0 : List Int) (a1 : Int) (r : List Int) (w0 w : World) (hB : Below w0.heap.size w0 w) (ho0 : Kd.R (Kd.int .u32) 116 w w0.heap.size P0_ u9000_ l0) (h : spec_natural_shift.f k l0 a1 = some r) :
    Calls Tryz.prog 50 #[u9000_, .int .i64 a1] w fun e w' => ∃ v0_ : Value, e = .returned (v0_) ∧ Kd.R (Kd.int .u32) 116 w' w0.heap.size (fun k_ => (P0_ k_ ∨ w.heap.size ≤ k_)) v0_ r ∧ Below w0.heap.size w0 w' ∧ Kept w w' (fun k_ => P0_ k_) := by
  have HO0 := Aside0.mk (show Kd.R (Kd.int .u32) 116 w w0.heap.size (fun k_ => (P0_ k_ ∨ w.heap.size ≤ k_)) u9000_ l0 from Kd.R_mono ho0 (fun k_ hk => (.inl hk)))
  have HK := Aside0.mk (Kept.refl w (fun k_ => P0_ k_))
  have HW0 := Aside0.mk hB.size
  have HB := Aside0.mk hB
  clear hB
  have H : (if (l0.length : Int) = 0 then (some l0) else (if 0 ≤ (Int.tmod a1 32) then ((spec_natural_times.f k l0 (shl .u32 1 (Int.tmod a1 32)) 0).bind fun t188 => (if 0 ≤ (wrap64 (Int.tdiv a1 32)) then (if (wrap64 (Int.tdiv a1 32) : Int).toNat ≤ 70368744177664 then ((some (List.replicate (wrap64 (Int.tdiv a1 32) : Int).toNat 0 : List Int)).bind fun y191 => (if y191.length + t188.length < 35184372088832 then (some (y191 ++ t188)) else (none))) else (none)) else (none))) else (none))) = some r := h
  clear h
  by_cases c3 : (l0.length : Int) = 0
  · rw [if_pos c3] at H
    have c3b0 : ((l0.length : Int) == 0) = true := beq_iff_eq.mpr c3
    have c3b1 : ((l0.length : Int) != 0) = false := bne_eq_false_iff_eq.mpr c3
    clear c3
    obtain rfl := Option.some.inj H
    obtain ⟨Ao4, co4, eo4⟩ := Kd.R_slice HO0.out
    subst eo4
    go_enter Tryz.func50, Tryz.ntmps50
    go_wp2
    go_ret
    exact ⟨_, by first | rfl | (simp [errW_none, errW_some] <;> rfl) | (simp [*, errW_none, errW_some] <;> rfl), by (with_reducible repeat (first | apply Kd.R_alloc | apply Kd.R_drewN | apply Kd.R_drew)); first | exact HO0.out | exact own_to HO0.out, by repeat (first | (with_reducible first | exact HB.out | apply below_alloc | apply pw_below_drewN | apply below_drew1) | exact HB.out), by repeat (first | (with_reducible first | exact HK.out | apply Kept.alloc | apply Kept.drewN | apply Kept.drew) | exact HK.out)⟩
  · rw [if_neg c3] at H
    have c3b0 : ((l0.length : Int) == 0) = false := beq_eq_false_iff_ne.mpr c3
    have c3b1 : ((l0.length : Int) != 0) = true := bne_iff_ne.mpr c3
    have c3b2 : ¬ (l0 = []) := fun h_ => c3 (by rw [h_]; rfl)
    obtain ⟨ji5, hji5⟩ : ∃ j_ : Int, (Int.tmod a1 32) = j_ := ⟨_, rfl⟩
    replace H : (if 0 ≤ (ji5) then ((spec_natural_times.f k l0 (shl .u32 1 (ji5)) 0).bind fun t188 => (if 0 ≤ (wrap64 (Int.tdiv a1 32)) then (if (wrap64 (Int.tdiv a1 32) : Int).toNat ≤ 70368744177664 then ((some (List.replicate (wrap64 (Int.tdiv a1 32) : Int).toNat 0 : List Int)).bind fun y191 => (if y191.length + t188.length < 35184372088832 then (some (y191 ++ t188)) else (none))) else (none)) else (none))) else (none)) = some r := by first | (rw [hji5] at H; exact H) | (simp only [hji5] at H ⊢; exact H)
    by_cases c6 : 0 ≤ (ji5)
    · rw [if_pos c6] at H
      have c6b0 := eq_true c6
      have c6b1 : decide (0 ≤ (ji5)) = true := decide_eq_true c6
      clear c6
      obtain ⟨ji7, hji7⟩ : ∃ j_ : Int, (shl .u32 1 (ji5)) = j_ := ⟨_, rfl⟩
      replace H : ((spec_natural_times.f k l0 (ji7) 0).bind fun t188 => (if 0 ≤ (wrap64 (Int.tdiv a1 32)) then (if (wrap64 (Int.tdiv a1 32) : Int).toNat ≤ 70368744177664 then ((some (List.replicate (wrap64 (Int.tdiv a1 32) : Int).toNat 0 : List Int)).bind fun y191 => (if y191.length + t188.length < 35184372088832 then (some (y191 ++ t188)) else (none))) else (none)) else (none))) = some r := by first | (rw [hji7] at H; exact H) | (simp only [hji7] at H ⊢; exact H)
      have hji7_ : (IntKind.u32.wrap (1 * 2 ^ min (ji5).toNat 32)) = ji7 := hji7
      have hji7z : (ji5) ≤ 32 → (IntKind.u32.wrap (1 * 2 ^ (ji5).toNat)) = ji7 := shl_small hji7
      have hji7u : (IntKind.u32.wrap (2 ^ min (ji5).toNat 32)) = ji7 := by have h_ := hji7_; rw [Int.one_mul] at h_; exact h_
      have hji7v : (ji5) ≤ 32 → (IntKind.u32.wrap (2 ^ (ji5).toNat)) = ji7 := fun hle_ => by have h_ := hji7z hle_; rw [Int.one_mul] at h_; exact h_
      replace H := Option.bind_eq_some_iff.mp H
      obtain ⟨t188, A80, H⟩ := H
      replace H : (if 0 ≤ (wrap64 (Int.tdiv a1 32)) then (if (wrap64 (Int.tdiv a1 32) : Int).toNat ≤ 70368744177664 then ((some (List.replicate (wrap64 (Int.tdiv a1 32) : Int).toNat 0 : List Int)).bind fun y191 => (if y191.length + t188.length < 35184372088832 then (some (y191 ++ t188)) else (none))) else (none)) else (none)) = some r := H
      have A8 := Aside0.mk A80
      clear A80
      obtain ⟨ji9, hji9⟩ : ∃ j_ : Int, (wrap64 (Int.tdiv a1 32)) = j_ := ⟨_, rfl⟩
      replace H : (if 0 ≤ (ji9) then (if (ji9 : Int).toNat ≤ 70368744177664 then ((some (List.replicate (ji9 : Int).toNat 0 : List Int)).bind fun y191 => (if y191.length + t188.length < 35184372088832 then (some (y191 ++ t188)) else (none))) else (none)) else (none)) = some r := by first | (rw [hji9] at H; exact H) | (simp only [hji9] at H ⊢; exact H)
      (try rw [hji9] at A8)
      have hji9w : (IntKind.i64.wrap (Int.tdiv a1 32)) = ji9 := (i64_w _).trans hji9
      by_cases c10 : 0 ≤ (ji9)
      · rw [if_pos c10] at H
        have c10b0 := eq_true c10
        have c10b1 : decide (0 ≤ (ji9)) = true := decide_eq_true c10
        clear c10
        by_cases c11 : (ji9 : Int).toNat ≤ 70368744177664
        · rw [if_pos c11] at H
          have c11b0 := eq_true c11
          have c11b1 : decide ((ji9 : Int).toNat ≤ 70368744177664) = true := decide_eq_true c11
          clear c11
          obtain ⟨y191, hy191⟩ : ∃ y_ : List Int, y_ = (List.replicate (ji9 : Int).toNat 0) := ⟨_, rfl⟩
          replace H : (if y191.length + t188.length < 35184372088832 then (some (y191 ++ t188)) else (none)) = some r := by first | (rw [hy191]; with_reducible exact H) | (have H2_ := (Option.bind_some _ _).symm.trans H; rw [hy191]; with_reducible exact H2_) | (have H2_ := (Option.bind_some _ _).symm.trans H; with_reducible exact H2_) | with_reducible exact H | (rw [hy191]; exact H) | exact H
          have Ny191 := Aside0.mk hy191
          clear hy191
          by_cases c12 : y191.length + t188.length < 35184372088832
          · rw [if_pos c12] at H
            have LMc12 := Aside0.mk c12
            clear c12
            obtain ⟨y194, hy194⟩ : ∃ y_ : List Int, y_ = (y191 ++ t188) := ⟨_, rfl⟩
            replace H : (some y194) = some r := by first | (rw [hy194]; with_reducible exact H) | (have H2_ := (Option.bind_some _ _).symm.trans H; rw [hy194]; with_reducible exact H2_) | (have H2_ := (Option.bind_some _ _).symm.trans H; with_reducible exact H2_) | with_reducible exact H | (rw [hy194]; exact H) | exact H
            have Ny194 := Aside0.mk hy194
            clear hy194
            obtain rfl := Option.some.inj H
            obtain ⟨Ao13, co13, eo13⟩ := Kd.R_slice HO0.out
            subst eo13
            go_enter Tryz.func50, Tryz.ntmps50
            go_wp2_with (first | ((with_reducible refine gate_callee (f := 65) rfl ?_); refine goesL_ (some 14) rfl rfl Tryz.func65 (by kernel_rfl) rfl #[.slice Ao13 l0.length co13, .int .u32 ji7, .int .u32 0] rfl (by (try simp only [List.map_toArray, List.map_cons, List.map_nil]); first | done | (simp only [hji7]; rfl) | rfl | (simp only [List.length_drop, List.length_take]; rfl) | (simp only [ByteArray.size_append, Int.natCast_add]; first | done | rfl) | (go_simp; first | done | (simp [ByteArray.size_append, ByteArray.size_extract]; done))) ?_; (with_reducible refine (spec_natural_times.calls k _ _ l0 ji7 0 t188 _ ?side1 ?side2 A8.out).mono ?_); (case side1 => repeat (first | exact (Kd.R_reads' HO0.out).2.2 | (with_reducible refine Kd.C_alloc ?_ _) | (with_reducible refine Kd.C_drewN ?_ _) | (with_reducible refine Kd.C_drew ?_))); (case side2 => exact (Kd.R_reads' HO0.out).2.1); rintro e w14 ⟨v189, rfl, ho0, hb⟩; refine ⟨_, rfl, ?_⟩; have n0_ := Aside0.mk (Kd.R_elder' (by (with_reducible repeat (first | apply Kd.R_alloc | apply Kd.R_drewN | apply Kd.R_drew)); first | exact HO0.out | exact own_to HO0.out) (Kd.R_base ho0) hb); have n1_ := Aside0.mk (Kd.R_lower (Kd.R_new' (Kd.R_newM (M := fun k_ => (P0_ k_ ∨ w.heap.size ≤ k_)) ho0 (by first | exact HK.out.1 | exact (show Kept w _ (fun k_ => P0_ k_) from by repeat (first | (with_reducible first | exact HK.out | apply Kept.alloc | apply Kept.drewN | apply Kept.drew) | exact HK.out)).1) (fun k_ h_ => .inr h_)) (Kd.R_lt (by (with_reducible repeat (first | apply Kd.R_alloc | apply Kd.R_drewN | apply Kd.R_drew)); first | exact HO0.out | exact own_to HO0.out))) (below_size (by repeat (first | (with_reducible first | exact HB.out | apply below_alloc | apply pw_below_drewN | apply below_drew1) | exact HB.out)))); have n2_ := Aside0.mk (Kept.below (S := (fun k_ => P0_ k_)) (by repeat (first | (with_reducible first | exact HK.out | apply Kept.alloc | apply Kept.drewN | apply Kept.drew) | exact HK.out)) hb); have n3_ := Aside0.mk (below_step (by repeat (first | (with_reducible first | exact HB.out | apply below_alloc | apply pw_below_drewN | apply below_drew1) | exact HB.out)) hb); clear HO0; clear HK; clear HB; have HO0 := n0_; have HO190 := n1_; have HK := n2_; have HB := n3_; clear n0_ n1_ n2_ n3_; (try clear hb); (try clear hb2); (try clear hk); (try clear hi); (try clear ho0)) | ((with_reducible refine gate_dst (N := 17) rfl ?_); refine Kd.R_make (Kd.int .u32) _ 116 rfl (N := 17) rfl 96 _ _ rfl ji9 rfl rfl Tryz.underlying96 (.int .u32 0) 4 info116 rfl (by decide) (by omega) 0 (ok := fun _ => True) (okp := fun _ => True) rfl (fun _ hk => hk) trivial (of_decide_eq_true (by first | (with_reducible assumption) | assumption)) (Nat.le_trans (Nat.mul_le_mul_right _ (of_decide_eq_true (by first | (with_reducible assumption) | assumption) : ji9.toNat ≤ 70368744177664)) (by omega)) (Below.refl _ _) (Nat.le_refl _) ?_; intro v192 w15 ho16 hb hg_ hnew_; clear hg_ hnew_; (first | rw [← Ny191.out] at ho16 | (simp only [Int.reduceToNat] at ho16; rw [← Ny191.out] at ho16)); have n0_ := Aside0.mk (Kd.R_elder' (by (with_reducible repeat (first | apply Kd.R_alloc | apply Kd.R_drewN | apply Kd.R_drew)); first | exact HO0.out | exact own_to HO0.out) (Kd.R_base ho16) hb); have n1_ := Aside0.mk (Kd.R_elder' (by (with_reducible repeat (first | apply Kd.R_alloc | apply Kd.R_drewN | apply Kd.R_drew)); first | exact HO190.out | exact own_to HO190.out) (Kd.R_base ho16) hb); have n2_ := Aside0.mk (Kd.R_lower (Kd.R_new' (Kd.R_new' (Kd.R_newM (M := fun k_ => (P0_ k_ ∨ w.heap.size ≤ k_)) ho16 (by first | exact HK.out.1 | exact (show Kept w _ (fun k_ => P0_ k_) from by repeat (first | (with_reducible first | exact HK.out | apply Kept.alloc | apply Kept.drewN | apply Kept.drew) | exact HK.out)).1) (fun k_ h_ => .inr h_)) (Kd.R_lt (by (with_reducible repeat (first | apply Kd.R_alloc | apply Kd.R_drewN | apply Kd.R_drew)); first | exact HO0.out | exact own_to HO0.out))) (Kd.R_lt (by (with_reducible repeat (first | apply Kd.R_alloc | apply Kd.R_drewN | apply Kd.R_drew)); first | exact HO190.out | exact own_to HO190.out))) (below_size (by repeat (first | (with_reducible first | exact HB.out | apply below_alloc | apply pw_below_drewN | apply below_drew1) | exact HB.out)))); have n3_ := Aside0.mk (Kept.below (S := (fun k_ => P0_ k_)) (by repeat (first | (with_reducible first | exact HK.out | apply Kept.alloc | apply Kept.drewN | apply Kept.drew) | exact HK.out)) hb); have n4_ := Aside0.mk (below_step (by repeat (first | (with_reducible first | exact HB.out | apply below_alloc | apply pw_below_drewN | apply below_drew1) | exact HB.out)) hb); clear HO0; clear HO190; clear HK; clear HB; have HO0 := n0_; have HO190 := n1_; have HO193 := n2_; have HK := n3_; have HB := n4_; clear n0_ n1_ n2_ n3_ n4_; clear hb ho16; obtain ⟨Ao18, co18, eo18⟩ := Kd.R_slice HO190.out; subst eo18) | ((with_reducible refine gate_builtin (b := .append) (xs := #[.tmp 17, .tmp 18]) rfl ?_); at_builtin; refine Kd.R_append_rows (Kd.int .u32) (w0 := w0) w0.heap.size rfl (.tmp 17) (.tmp 18) 96 116 (.int .u32 0) 4 rfl Tryz.underlying96 info116 rfl (by decide) (by omega) v192 y191 t188 _ _ _ (fun k_ => (P0_ k_ ∨ w.heap.size ≤ k_) ∧ some k_ ≠ (.slice Ao13 l0.length co13 : Value).ownBlock ∧ some k_ ≠ (.slice Ao18 t188.length co18 : Value).ownBlock) (fun _ => False) rfl rfl ?aO ?aR (fun _ _ h => h) (fun _ h => h.elim) ?aF ?aB ?aS ?aL ?_; (case aR => repeat (first | exact (Kd.R_reads' HO190.out).2.2 | (with_reducible refine Kd.C_alloc ?_ _) | (with_reducible refine Kd.C_drewN ?_ _) | (with_reducible refine Kd.C_drew ?_))); (case aB => exact (by repeat (first | (with_reducible first | exact HB.out | apply below_alloc | apply pw_below_drewN | apply below_drew1) | exact HB.out))); (case aF => exact (fun k_ hk => ⟨(.inr (Nat.le_trans (by first | exact HK.out.1 | exact (show Kept w _ (fun k_ => P0_ k_) from by repeat (first | (with_reducible first | exact HK.out | apply Kept.alloc | apply Kept.drewN | apply Kept.drew) | exact HK.out)).1) hk)), Kd.fresh' (Kd.R_lt (by (with_reducible repeat (first | apply Kd.R_alloc | apply Kd.R_drewN | apply Kd.R_drew)); first | exact HO0.out | exact own_to HO0.out)) k_ hk, Kd.fresh' (Kd.R_lt (by (with_reducible repeat (first | apply Kd.R_alloc | apply Kd.R_drewN | apply Kd.R_drew)); first | exact HO190.out | exact own_to HO190.out)) k_ hk⟩)); (case aO => exact (by (with_reducible repeat (first | apply Kd.R_alloc | apply Kd.R_drewN | apply Kd.R_drew)); exact Kd.R_mono HO193.out (fun _ hk => ⟨hk.1.1.1, ⟨hk.1.2, hk.2⟩⟩))); (case aS => exact (below_size (by repeat (first | (with_reducible first | exact HB.out | apply below_alloc | apply pw_below_drewN | apply below_drew1) | exact HB.out)))); (case aL => have := LMc12.out; omega); intro v195 w17 ho hb hg hat; rw [← Ny194.out] at ho; have n0_ := Aside0.mk (Kd.R_after (ok := (fun k_ => (P0_ k_ ∨ w.heap.size ≤ k_) ∧ some k_ ≠ (.slice Ao18 t188.length co18 : Value).ownBlock)) (by (with_reducible repeat (first | apply Kd.R_alloc | apply Kd.R_drewN | apply Kd.R_drew)); first | exact HO0.out | exact own_to HO0.out) hg hat); have n1_ := Aside0.mk (Kd.R_after (ok := (fun k_ => (P0_ k_ ∨ w.heap.size ≤ k_) ∧ some k_ ≠ (.slice Ao13 l0.length co13 : Value).ownBlock)) (by (with_reducible repeat (first | apply Kd.R_alloc | apply Kd.R_drewN | apply Kd.R_drew)); exact Kd.R_mono HO190.out (fun _ hk => ⟨⟨hk.1.1.1, hk.1.2⟩, hk.2⟩)) hg hat); have n2_ := Aside0.mk (hb); have n3_ := Aside0.mk (Kept.of_grown (S := (fun k_ => P0_ k_)) hg (by repeat (first | (with_reducible first | exact HK.out | apply Kept.alloc | apply Kept.drewN | apply Kept.drew) | exact HK.out)) (fun k_ e_ => (HO193.out.1 k_ e_).1.1.1)); have n4_ := Aside0.mk (ho); clear HO0; clear HO190; clear HB; clear HK; clear HO193; have HO0 := n0_; have HO190 := n1_; have HB := n2_; have HK := n3_; have HO196 := n4_; clear n0_ n1_ n2_ n3_ n4_; clear ho hb hg hat))
            go_ret
            exact ⟨_, by first | rfl | (simp [errW_none, errW_some] <;> rfl) | (simp only [← hji5, ← hji7, ← hji9]; first | rfl | (simp [errW_none, errW_some] <;> rfl)) | (simp [*, errW_none, errW_some] <;> rfl), by (with_reducible repeat (first | apply Kd.R_alloc | apply Kd.R_drewN | apply Kd.R_drew)); exact Kd.R_mono HO196.out (fun _ hk => hk.1), by repeat (first | (with_reducible first | exact HB.out | apply below_alloc | apply pw_below_drewN | apply below_drew1) | exact HB.out), by repeat (first | (with_reducible first | exact HK.out | apply Kept.alloc | apply Kept.drewN | apply Kept.drew) | exact HK.out)⟩
          · rw [if_neg c12] at H
            exact absurd H (by simp)
        · rw [if_neg c11] at H
          exact absurd H (by simp)
      · rw [if_neg c10] at H
        exact absurd H (by simp)
    · rw [if_neg c6] at H
      exact absurd H (by simp)
mutual
def spec_natural_tens.l0 : Nat → List Int → Int → Option (List Int)
  | 0, _, _ => none
  | k + 1, x0, x1 => if x1 ≥ 9 then ((spec_natural_times.f k x0 1000000000 0).bind fun t197 => (spec_natural_tens.l0 k t197 (wrap64 (x1 - 9)))) else (spec_natural_tens.l1 k x0 x1)
def spec_natural_tens.l1 : Nat → List Int → Int → Option (List Int)
  | 0, _, _ => none
  | k + 1, x0, x1 => if x1 > 0 then ((spec_natural_times.f k x0 10 0).bind fun t200 => (spec_natural_tens.l1 k t200 (wrap64 (x1 - 1)))) else (some x0)
end
def spec_natural_tens.f (k : Nat) (l0 : List Int) (a1 : Int) : Option (List Int) := spec_natural_tens.l0 k l0 a1
set_option maxHeartbeats 8000000 in
set_option maxRecDepth 100000 in
theorem spec_natural_tens.calls (k : Nat) (P0_ : Nat → Prop) (A0 : Option Addr) (c0 : Nat) (l0 : List Int) (a1 : Int) (r : List Int) (w : World) (hs0 : Kd.V (Kd.int .u32) 116 w w.heap.size (fun k_ => P0_ k_) (.slice A0 l0.length c0) l0) (h : spec_natural_tens.f k l0 a1 = some r) :
    Calls Tryz.prog 51 #[.slice A0 l0.length c0, .int .i64 a1] w fun e w' => ∃ v0_ : Value, e = .returned (v0_) ∧ Kd.V (Kd.int .u32) 116 w' w.heap.size (fun k_ => (P0_ k_ ∨ w.heap.size ≤ k_)) v0_ r ∧ Below w.heap.size w w' := by
  have HO0 := Aside0.mk (show Kd.V (Kd.int .u32) 116 w w.heap.size (fun k_ => (P0_ k_ ∨ w.heap.size ≤ k_)) (.slice A0 l0.length c0) l0 from Kd.V_mono hs0 (fun k_ hk => .inl hk))
  have HB := Aside0.mk (Below.refl w.heap.size w)
  have H : (spec_natural_tens.l0 k l0 a1) = some r := h
  clear h
  have H' := Aside0.mk H
  clear H
  go_enter Tryz.func51, Tryz.ntmps51
  go_wp2
  (try simp only [Act.put, List.setIfInBounds_toArray, List.set_cons_succ, List.set_cons_zero])
  go_loopg [0, 1] k (fun kq v0 v1 w' => ∃ (x0_1 : List Int) (x1_1 : Int), v1 = .int .i64 x1_1 ∧ Aside0 (spec_natural_tens.l0 kq x0_1 x1_1 = some r) ∧ Aside0 (kq ≤ k) ∧ Aside0 (Kd.V (Kd.int .u32) 116 w' w.heap.size (fun k_ => (P0_ k_ ∨ w.heap.size ≤ k_)) v0 x0_1) ∧ Aside0 (Below w.heap.size w w'))
  case atStart => exact ⟨(l0), (a1), (by first | rfl | (simp; done) | (simp [*]; done)), H', ⟨Nat.le_refl _⟩, ⟨by (with_reducible repeat (first | apply Kd.V_alloc | apply Kd.V_drewN | apply Kd.V_drew)); first | exact HO0.out | exact own_to HO0.out⟩, ⟨by repeat (first | (with_reducible first | exact HB.out | apply below_alloc | apply pw_below_drewN | apply below_drew1) | exact HB.out)⟩⟩
  case round =>
    clear H'
    try clear p2
    obtain ⟨x0_1, x1_1, rfl, HA, HK1, HO_0, HB⟩ := hrel
    cases gk with
    | zero => exact absurd HA.out (by simp [spec_natural_tens.l0])
    | succ k1 =>
      have H := HA.out
      clear HA
      simp only [spec_natural_tens.l0] at H
      by_cases c3 : x1_1 ≥ 9
      · rw [if_pos c3] at H
        have c3b0 : decide (9 ≤ x1_1) = true := decide_eq_true c3
        clear c3
        replace H := Option.bind_eq_some_iff.mp H
        obtain ⟨t197, A40, H⟩ := H
        replace H : (spec_natural_tens.l0 k1 t197 (wrap64 (x1_1 - 9))) = some r := H
        have A4 := Aside0.mk A40
        clear A40
        have H' := Aside0.mk H
        clear H
        obtain ⟨Ao5, co5, eo5⟩ := Kd.V_slice HO_0.out
        subst eo5
        go_wp2_with (first | ((with_reducible refine gate_callee (f := 65) rfl ?_); refine goesL_ (some 10) rfl rfl Tryz.func65 (by kernel_rfl) rfl #[.slice Ao5 x0_1.length co5, .int .u32 1000000000, .int .u32 0] rfl (by (try simp only [List.map_toArray, List.map_cons, List.map_nil]); first | done | rfl | (simp only [List.length_drop, List.length_take]; rfl) | (simp only [ByteArray.size_append, Int.natCast_add]; first | done | rfl) | (go_simp; first | done | (simp [ByteArray.size_append, ByteArray.size_extract]; done))) ?_; (with_reducible refine (spec_natural_times.calls k1 _ _ x0_1 1000000000 0 t197 _ ?side1 ?side2 A4.out).mono ?_); (case side1 => repeat (first | exact (Kd.V_reads' HO_0.out).2.2 | (with_reducible refine Kd.C_alloc ?_ _) | (with_reducible refine Kd.C_drewN ?_ _) | (with_reducible refine Kd.C_drew ?_))); (case side2 => exact (Kd.V_reads' HO_0.out).2.1); rintro e w6 ⟨v198, rfl, ho0, hb⟩; refine ⟨_, rfl, ?_⟩; have n0_ := Aside0.mk (Kd.V_elder' (by (with_reducible repeat (first | apply Kd.V_alloc | apply Kd.V_drewN | apply Kd.V_drew)); first | exact HO_0.out | exact own_to HO_0.out) (Kd.R_base ho0) hb); have n1_ := Aside0.mk (Kd.R_lower (Kd.R_newM (M := fun k_ => (w.heap.size ≤ k_)) ho0 (below_size (by repeat (first | (with_reducible first | exact HB.out | apply below_alloc | apply pw_below_drewN | apply below_drew1) | exact HB.out))) (fun k_ h_ => h_)) (below_size (by repeat (first | (with_reducible first | exact HB.out | apply below_alloc | apply pw_below_drewN | apply below_drew1) | exact HB.out)))); have n2_ := Aside0.mk (below_step (by repeat (first | (with_reducible first | exact HB.out | apply below_alloc | apply pw_below_drewN | apply below_drew1) | exact HB.out)) hb); clear HO_0; clear HB; have HO_0 := n0_; have HO199 := n1_; have HB := n2_; clear n0_ n1_ n2_; (try clear hb); (try clear hb2); (try clear hk); (try clear hi); (try clear ho0)))
        go_roundg k1
        case measure => have := HK1.out; omega
        case rel => exact ⟨(t197), (wrap64 (x1_1 - 9)), (by first | rfl | (simp; done) | (simp [*]; done)), H', ⟨by have := HK1.out; omega⟩, ⟨Kd.V_mono (Kd.R_V (by (with_reducible repeat (first | apply Kd.R_alloc | apply Kd.R_drewN | apply Kd.R_drew)); exact Kd.R_mono HO199.out (fun _ hk => hk.1))) (fun k_ hk => by first | exact ⟨(.inr (hk.1)), hk.2⟩ | exact (.inr (hk)))⟩, ⟨by repeat (first | (with_reducible first | exact HB.out | apply below_alloc | apply pw_below_drewN | apply below_drew1) | exact HB.out)⟩⟩
      · rw [if_neg c3] at H
        have c3b0 : decide (9 ≤ x1_1) = false := decide_eq_false c3
        clear c3
        have H' := Aside0.mk H
        clear H
        go_wp2
        (try simp only [Act.put, List.setIfInBounds_toArray, List.set_cons_succ, List.set_cons_zero])
        go_loopg [0, 1] k1 (fun kq v0 v1 w' => ∃ (x0_2 : List Int) (x1_2 : Int), v1 = .int .i64 x1_2 ∧ Aside0 (spec_natural_tens.l1 kq x0_2 x1_2 = some r) ∧ Aside0 (kq ≤ k1) ∧ Aside0 (Kd.V (Kd.int .u32) 116 w' w.heap.size (fun k_ => (P0_ k_ ∨ w.heap.size ≤ k_)) v0 x0_2) ∧ Aside0 (Below w.heap.size w w'))
        case atStart => exact ⟨(x0_1), (x1_1), (by first | rfl | (simp; done) | (simp [*]; done)), H', ⟨Nat.le_refl _⟩, ⟨by (with_reducible repeat (first | apply Kd.V_alloc | apply Kd.V_drewN | apply Kd.V_drew)); first | exact HO_0.out | exact own_to HO_0.out⟩, ⟨by repeat (first | (with_reducible first | exact HB.out | apply below_alloc | apply pw_below_drewN | apply below_drew1) | exact HB.out)⟩⟩
        case round =>
          clear H'
          try clear p2
          try clear c3
          try clear c3b0
          try clear c5
          try clear c6
          try clear p6
          try clear p2
          obtain ⟨x0_2, x1_2, rfl, HA, HK2, HO_0, HB⟩ := hrel
          cases gk with
          | zero => exact absurd HA.out (by simp [spec_natural_tens.l1])
          | succ k2 =>
            have H := HA.out
            clear HA
            simp only [spec_natural_tens.l1] at H
            by_cases c7 : x1_2 > 0
            · rw [if_pos c7] at H
              have c7b0 : decide (0 < x1_2) = true := decide_eq_true c7
              clear c7
              replace H := Option.bind_eq_some_iff.mp H
              obtain ⟨t200, A80, H⟩ := H
              replace H : (spec_natural_tens.l1 k2 t200 (wrap64 (x1_2 - 1))) = some r := H
              have A8 := Aside0.mk A80
              clear A80
              have H' := Aside0.mk H
              clear H
              obtain ⟨Ao9, co9, eo9⟩ := Kd.V_slice HO_0.out
              subst eo9
              go_wp2_with (first | ((with_reducible refine gate_callee (f := 65) rfl ?_); refine goesL_ (some 16) rfl rfl Tryz.func65 (by kernel_rfl) rfl #[.slice Ao9 x0_2.length co9, .int .u32 10, .int .u32 0] rfl (by (try simp only [List.map_toArray, List.map_cons, List.map_nil]); first | done | rfl | (simp only [List.length_drop, List.length_take]; rfl) | (simp only [ByteArray.size_append, Int.natCast_add]; first | done | rfl) | (go_simp; first | done | (simp [ByteArray.size_append, ByteArray.size_extract]; done))) ?_; (with_reducible refine (spec_natural_times.calls k2 _ _ x0_2 10 0 t200 _ ?side1 ?side2 A8.out).mono ?_); (case side1 => repeat (first | exact (Kd.V_reads' HO_0.out).2.2 | (with_reducible refine Kd.C_alloc ?_ _) | (with_reducible refine Kd.C_drewN ?_ _) | (with_reducible refine Kd.C_drew ?_))); (case side2 => exact (Kd.V_reads' HO_0.out).2.1); rintro e w10 ⟨v201, rfl, ho0, hb⟩; refine ⟨_, rfl, ?_⟩; have n0_ := Aside0.mk (Kd.V_elder' (by (with_reducible repeat (first | apply Kd.V_alloc | apply Kd.V_drewN | apply Kd.V_drew)); first | exact HO_0.out | exact own_to HO_0.out) (Kd.R_base ho0) hb); have n1_ := Aside0.mk (Kd.R_lower (Kd.R_newM (M := fun k_ => (w.heap.size ≤ k_)) ho0 (below_size (by repeat (first | (with_reducible first | exact HB.out | apply below_alloc | apply pw_below_drewN | apply below_drew1) | exact HB.out))) (fun k_ h_ => h_)) (below_size (by repeat (first | (with_reducible first | exact HB.out | apply below_alloc | apply pw_below_drewN | apply below_drew1) | exact HB.out)))); have n2_ := Aside0.mk (below_step (by repeat (first | (with_reducible first | exact HB.out | apply below_alloc | apply pw_below_drewN | apply below_drew1) | exact HB.out)) hb); clear HO_0; clear HB; have HO_0 := n0_; have HO202 := n1_; have HB := n2_; clear n0_ n1_ n2_; (try clear hb); (try clear hb2); (try clear hk); (try clear hi); (try clear ho0)))
              go_roundg k2
              case measure => have := HK1.out; have := HK2.out; omega
              case rel => exact ⟨(t200), (wrap64 (x1_2 - 1)), (by first | rfl | (simp; done) | (simp [*]; done)), H', ⟨by have := HK1.out; have := HK2.out; omega⟩, ⟨Kd.V_mono (Kd.R_V (by (with_reducible repeat (first | apply Kd.R_alloc | apply Kd.R_drewN | apply Kd.R_drew)); exact Kd.R_mono HO202.out (fun _ hk => hk.1))) (fun k_ hk => by first | exact ⟨(.inr (hk.1)), hk.2⟩ | exact (.inr (hk)))⟩, ⟨by repeat (first | (with_reducible first | exact HB.out | apply below_alloc | apply pw_below_drewN | apply below_drew1) | exact HB.out)⟩⟩
            · rw [if_neg c7] at H
              have c7b0 : decide (0 < x1_2) = false := decide_eq_false c7
              clear c7
              obtain rfl := Option.some.inj H
              go_wp2
              go_ret
              exact ⟨_, by first | rfl | (simp [errW_none, errW_some] <;> rfl) | (simp [*, errW_none, errW_some] <;> rfl), by (with_reducible repeat (first | apply Kd.V_alloc | apply Kd.V_drewN | apply Kd.V_drew)); first | exact HO_0.out | exact own_to HO_0.out, by repeat (first | (with_reducible first | exact HB.out | apply below_alloc | apply pw_below_drewN | apply below_drew1) | exact HB.out)⟩
def spec_natural_against.l0 : Nat → List Int → List Int → Int → Option (Int)
  | 0, _, _, _ => none
  | k + 1, x0, x1, x5 => if x5 ≥ 0 then (if 0 ≤ x5 then (if x5 < (x0.length : Int) then (if x5 < (x1.length : Int) then (if (rd x0 x5) < (rd x1 x5) then (some (-1)) else (if (rd x0 x5) > (rd x1 x5) then (some 1) else (spec_natural_against.l0 k x0 x1 (wrap64 (x5 - 1))))) else (none)) else (none)) else (none)) else (some 0)
def spec_natural_against.f (k : Nat) (l0 : List Int) (l1 : List Int) : Option (Int) := if (l0.length : Int) = (l1.length : Int) then (spec_natural_against.l0 k l0 l1 (wrap64 ((l0.length : Int) - 1))) else (if (l0.length : Int) < (l1.length : Int) then (some (-1)) else (some 1))
set_option maxHeartbeats 8000000 in
set_option maxRecDepth 100000 in
theorem spec_natural_against.calls (k : Nat) (A0 : Option Addr) (c0 : Nat) (l0 : List Int) (A1 : Option Addr) (c1 : Nat) (l1 : List Int) (r : Int) (w : World) (hr0 : Kd.C (Kd.int .u32) w A0 l0.length l0) (hc0 : l0.length ≤ c0) (hr1 : Kd.C (Kd.int .u32) w A1 l1.length l1) (hc1 : l1.length ≤ c1) (h : spec_natural_against.f k l0 l1 = some r) :
    Calls Tryz.prog 52 #[.slice A0 l0.length c0, .slice A1 l1.length c1] w fun e w' => e = .returned (.int .i64 r) ∧ Drawn0 w w' := by
  have HR0 := Aside0.mk hr0
  have HC0 := Aside0.mk hc0
  clear hr0 hc0
  have HR1 := Aside0.mk hr1
  have HC1 := Aside0.mk hc1
  clear hr1 hc1
  have H : (if (l0.length : Int) = (l1.length : Int) then (spec_natural_against.l0 k l0 l1 (wrap64 ((l0.length : Int) - 1))) else (if (l0.length : Int) < (l1.length : Int) then (some (-1)) else (some 1))) = some r := h
  clear h
  by_cases c3 : (l0.length : Int) = (l1.length : Int)
  · rw [if_pos c3] at H
    have c3b0 : ((l0.length : Int) == (l1.length : Int)) = true := beq_iff_eq.mpr c3
    have c3b1 : ((l0.length : Int) != (l1.length : Int)) = false := bne_eq_false_iff_eq.mpr c3
    have c3b2 : (l0.length == l1.length) = true := by first | simpa using c3 | (simp at c3 ⊢; omega)
    clear c3
    have H' := Aside0.mk H
    clear H
    go_enter Tryz.func52, Tryz.ntmps52
    go_wp2
    repeat (go_quiet (fail); try go_wp2)
    (try simp only [Act.put, List.setIfInBounds_toArray, List.set_cons_succ, List.set_cons_zero])
    go_loopg [5] k (fun kq v5 w' => ∃ (x5_1 : Int), v5 = .int .i64 x5_1 ∧ Aside0 (spec_natural_against.l0 kq l0 l1 x5_1 = some r) ∧ Aside0 (kq ≤ k) ∧ Drawn0 w w')
    case atStart => exact ⟨(wrap64 ((l0.length : Int) - 1)), (by first | rfl | (simp; done) | (simp [*]; done)), H', ⟨Nat.le_refl _⟩, by repeat (first | exact Drawn0.refl _ | apply Drawn0.step)⟩
    case round =>
      clear H'
      try clear c1
      try clear p2
      try clear c3
      try clear c3b0
      try clear c3b1
      try clear c3b2
      obtain ⟨x5_1, rfl, HA, HK1, ⟨m1, rfl⟩⟩ := hrel
      cases gk with
      | zero => exact absurd HA.out (by simp [spec_natural_against.l0])
      | succ k1 =>
        have H := HA.out
        clear HA
        simp only [spec_natural_against.l0] at H
        by_cases c4 : x5_1 ≥ 0
        · rw [if_pos c4] at H
          have c4b0 : decide (0 ≤ x5_1) = true := decide_eq_true c4
          clear c4
          by_cases c5 : 0 ≤ x5_1
          · rw [if_pos c5] at H
            have c5b0 : decide (0 ≤ x5_1) = true := decide_eq_true c5
            clear c5
            by_cases c6 : x5_1 < (l0.length : Int)
            · rw [if_pos c6] at H
              have c6b0 : decide (x5_1 < (l0.length : Int)) = true := decide_eq_true c6
              clear c6
              by_cases c7 : x5_1 < (l1.length : Int)
              · rw [if_pos c7] at H
                have c7b0 : decide (x5_1 < (l1.length : Int)) = true := decide_eq_true c7
                clear c7
                by_cases c8 : (rd l0 x5_1) < (rd l1 x5_1)
                · rw [if_pos c8] at H
                  have c8b0 : decide ((rd l0 x5_1) < (rd l1 x5_1)) = true := decide_eq_true c8
                  clear c8
                  obtain rfl := Option.some.inj H
                  have p203 : 0 ≤ (x5_1 : Int) := of_decide_eq_true (by first | (with_reducible assumption) | assumption)
                  have q203 : x5_1 < (l0.length : Int) := of_decide_eq_true (by first | (with_reducible assumption) | assumption)
                  obtain ⟨ad203, e203, hx203_0⟩ := Kd.at_int HR0.out x5_1 p203 q203
                  cases e203
                  replace p203 := eq_true p203
                  replace q203 := eq_true q203
                  have p204 : 0 ≤ (x5_1 : Int) := of_decide_eq_true (by first | (with_reducible assumption) | assumption)
                  have q204 : x5_1 < (l1.length : Int) := of_decide_eq_true (by first | (with_reducible assumption) | assumption)
                  obtain ⟨ad204, e204, hx204_0⟩ := Kd.at_int HR1.out x5_1 p204 q204
                  cases e204
                  replace p204 := eq_true p204
                  replace q204 := eq_true q204
                  go_wp2
                  repeat (go_quiet (fail); try go_wp2)
                  go_ret
                  exact ⟨by first | rfl | (simp; done) | (simp [*]; done), by repeat (first | exact Drawn0.refl _ | apply Drawn0.step)⟩
                · rw [if_neg c8] at H
                  have c8b0 : decide ((rd l0 x5_1) < (rd l1 x5_1)) = false := decide_eq_false c8
                  clear c8
                  by_cases c9 : (rd l0 x5_1) > (rd l1 x5_1)
                  · rw [if_pos c9] at H
                    have c9b0 : decide ((rd l1 x5_1) < (rd l0 x5_1)) = true := decide_eq_true c9
                    clear c9
                    obtain rfl := Option.some.inj H
                    have p203 : 0 ≤ (x5_1 : Int) := of_decide_eq_true (by first | (with_reducible assumption) | assumption)
                    have q203 : x5_1 < (l0.length : Int) := of_decide_eq_true (by first | (with_reducible assumption) | assumption)
                    obtain ⟨ad203, e203, hx203_0⟩ := Kd.at_int HR0.out x5_1 p203 q203
                    cases e203
                    replace p203 := eq_true p203
                    replace q203 := eq_true q203
                    have p204 : 0 ≤ (x5_1 : Int) := of_decide_eq_true (by first | (with_reducible assumption) | assumption)
                    have q204 : x5_1 < (l1.length : Int) := of_decide_eq_true (by first | (with_reducible assumption) | assumption)
                    obtain ⟨ad204, e204, hx204_0⟩ := Kd.at_int HR1.out x5_1 p204 q204
                    cases e204
                    replace p204 := eq_true p204
                    replace q204 := eq_true q204
                    have p205 : 0 ≤ (x5_1 : Int) := of_decide_eq_true (by first | (with_reducible assumption) | assumption)
                    have q205 : x5_1 < (l0.length : Int) := of_decide_eq_true (by first | (with_reducible assumption) | assumption)
                    obtain ⟨ad205, e205, hx205_0⟩ := Kd.at_int HR0.out x5_1 p205 q205
                    obtain rfl : ad203 = ad205 := (by injection e205)
                    replace p205 := eq_true p205
                    replace q205 := eq_true q205
                    have p206 : 0 ≤ (x5_1 : Int) := of_decide_eq_true (by first | (with_reducible assumption) | assumption)
                    have q206 : x5_1 < (l1.length : Int) := of_decide_eq_true (by first | (with_reducible assumption) | assumption)
                    obtain ⟨ad206, e206, hx206_0⟩ := Kd.at_int HR1.out x5_1 p206 q206
                    obtain rfl : ad204 = ad206 := (by injection e206)
                    replace p206 := eq_true p206
                    replace q206 := eq_true q206
                    go_wp2
                    repeat (go_quiet (fail); try go_wp2)
                    go_ret
                    exact ⟨by first | rfl | (simp; done) | (simp [*]; done), by repeat (first | exact Drawn0.refl _ | apply Drawn0.step)⟩
                  · rw [if_neg c9] at H
                    have c9b0 : decide ((rd l1 x5_1) < (rd l0 x5_1)) = false := decide_eq_false c9
                    clear c9
                    have H' := Aside0.mk H
                    clear H
                    have p203 : 0 ≤ (x5_1 : Int) := of_decide_eq_true (by first | (with_reducible assumption) | assumption)
                    have q203 : x5_1 < (l0.length : Int) := of_decide_eq_true (by first | (with_reducible assumption) | assumption)
                    obtain ⟨ad203, e203, hx203_0⟩ := Kd.at_int HR0.out x5_1 p203 q203
                    cases e203
                    replace p203 := eq_true p203
                    replace q203 := eq_true q203
                    have p204 : 0 ≤ (x5_1 : Int) := of_decide_eq_true (by first | (with_reducible assumption) | assumption)
                    have q204 : x5_1 < (l1.length : Int) := of_decide_eq_true (by first | (with_reducible assumption) | assumption)
                    obtain ⟨ad204, e204, hx204_0⟩ := Kd.at_int HR1.out x5_1 p204 q204
                    cases e204
                    replace p204 := eq_true p204
                    replace q204 := eq_true q204
                    have p205 : 0 ≤ (x5_1 : Int) := of_decide_eq_true (by first | (with_reducible assumption) | assumption)
                    have q205 : x5_1 < (l0.length : Int) := of_decide_eq_true (by first | (with_reducible assumption) | assumption)
                    obtain ⟨ad205, e205, hx205_0⟩ := Kd.at_int HR0.out x5_1 p205 q205
                    obtain rfl : ad203 = ad205 := (by injection e205)
                    replace p205 := eq_true p205
                    replace q205 := eq_true q205
                    have p206 : 0 ≤ (x5_1 : Int) := of_decide_eq_true (by first | (with_reducible assumption) | assumption)
                    have q206 : x5_1 < (l1.length : Int) := of_decide_eq_true (by first | (with_reducible assumption) | assumption)
                    obtain ⟨ad206, e206, hx206_0⟩ := Kd.at_int HR1.out x5_1 p206 q206
                    obtain rfl : ad204 = ad206 := (by injection e206)
                    replace p206 := eq_true p206
                    replace q206 := eq_true q206
                    go_wp2
                    repeat (go_quiet (fail); try go_wp2)
                    go_roundg k1
                    case measure => have := HK1.out; omega
                    case rel => exact ⟨(wrap64 (x5_1 - 1)), (by first | rfl | (simp; done) | (simp [*]; done)), H', ⟨by have := HK1.out; omega⟩, by repeat (first | exact Drawn0.refl _ | apply Drawn0.step)⟩
              · rw [if_neg c7] at H
                exact absurd H (by simp)
            · rw [if_neg c6] at H
              exact absurd H (by simp)
          · rw [if_neg c5] at H
            exact absurd H (by simp)
        · rw [if_neg c4] at H
          have c4b0 : decide (0 ≤ x5_1) = false := decide_eq_false c4
          clear c4
          obtain rfl := Option.some.inj H
          go_wp2
          repeat (go_quiet (fail); try go_wp2)
          go_ret
          exact ⟨by first | rfl | (simp; done) | (simp [*]; done), by repeat (first | exact Drawn0.refl _ | apply Drawn0.step)⟩
  · rw [if_neg c3] at H
    have c3b0 : ((l0.length : Int) == (l1.length : Int)) = false := beq_eq_false_iff_ne.mpr c3
    have c3b1 : ((l0.length : Int) != (l1.length : Int)) = true := bne_iff_ne.mpr c3
    have c3b2 : (l0.length == l1.length) = false := by first | simpa using c3 | (simp at c3 ⊢; omega)
    by_cases c10 : (l0.length : Int) < (l1.length : Int)
    · rw [if_pos c10] at H
      have c10b0 : decide ((l0.length : Int) < (l1.length : Int)) = true := decide_eq_true c10
      have c10b1 : decide (l0.length < l1.length) = true := decide_eq_true (Int.ofNat_lt.mp c10)
      clear c10
      obtain rfl := Option.some.inj H
      go_enter Tryz.func52, Tryz.ntmps52
      go_wp2
      repeat (go_quiet (fail); try go_wp2)
      go_ret
      exact ⟨by first | rfl | (simp; done) | (simp [*]; done), by repeat (first | exact Drawn0.refl _ | apply Drawn0.step)⟩
    · rw [if_neg c10] at H
      have c10b0 : decide ((l0.length : Int) < (l1.length : Int)) = false := decide_eq_false c10
      have c10b1 : decide (l0.length < l1.length) = false := decide_eq_false (fun h => c10 (Int.ofNat_lt.mpr h))
      clear c10
      obtain rfl := Option.some.inj H
      go_enter Tryz.func52, Tryz.ntmps52
      go_wp2
      repeat (go_quiet (fail); try go_wp2)
      go_ret
      exact ⟨by first | rfl | (simp; done) | (simp [*]; done), by repeat (first | exact Drawn0.refl _ | apply Drawn0.step)⟩
def spec_scaled.j0 : Nat → List Int → List Int → Bool → ByteArray → Int → Option (Int)
  | 0, _, _, _, _, _ => none
  | k + 1, x7, x8, x208000, x208001, x208002 => if x208002 > 0 then ((spec_natural_tens.f k x8 x208002).bind fun t220 => ((spec_natural_against.f k x7 t220).bind fun t223 => (some t223))) else ((spec_natural_tens.f k x7 (wrap64 (-x208002))).bind fun t224 => ((spec_natural_against.f k t224 x8).bind fun t227 => (some t227)))
def spec_scaled.f (k : Nat) (a0 : Int) (a1 : Int) (a2_0 : Bool) (a2_1 : ByteArray) (a2_2 : Int) : Option (Int) := (spec_ofWord.f k a0).bind fun t208 => ((spec_ofDigits.f k a2_1).bind fun t211 => (if a1 > 0 then ((spec_natural_shift.f k t208 a1).bind fun t214 => (spec_scaled.j0 k t214 t211 a2_0 a2_1 a2_2)) else ((spec_natural_shift.f k t211 (wrap64 (-a1))).bind fun t217 => (spec_scaled.j0 k t208 t217 a2_0 a2_1 a2_2))))
set_option maxHeartbeats 8000000 in
set_option maxRecDepth 100000 in
theorem spec_scaled.calls (k : Nat) (a0 : Int) (a1 : Int) (a2_0 : Bool) (a2_1 : ByteArray) (a2_2 : Int) (r : Int) (w : World) (h : spec_scaled.f k a0 a1 a2_0 a2_1 a2_2 = some r) :
    Calls Tryz.prog 30 #[.int .u64 a0, .int .i64 a1, .agg #[.bool a2_0, .string a2_1, .int .i64 a2_2]] w fun e w' => e = .returned (.int .i64 r) ∧ Below w.heap.size w w' := by
  have hu30 := Tryz.underlying30
  have HB := Aside0.mk (Below.refl w.heap.size w)
  have H : ((spec_ofWord.f k a0).bind fun t208 => ((spec_ofDigits.f k a2_1).bind fun t211 => (if a1 > 0 then ((spec_natural_shift.f k t208 a1).bind fun t214 => (spec_scaled.j0 k t214 t211 a2_0 a2_1 a2_2)) else ((spec_natural_shift.f k t211 (wrap64 (-a1))).bind fun t217 => (spec_scaled.j0 k t208 t217 a2_0 a2_1 a2_2))))) = some r := h
  clear h
  replace H := Option.bind_eq_some_iff.mp H
  obtain ⟨t208, A40, H⟩ := H
  replace H : ((spec_ofDigits.f k a2_1).bind fun t211 => (if a1 > 0 then ((spec_natural_shift.f k t208 a1).bind fun t214 => (spec_scaled.j0 k t214 t211 a2_0 a2_1 a2_2)) else ((spec_natural_shift.f k t211 (wrap64 (-a1))).bind fun t217 => (spec_scaled.j0 k t208 t217 a2_0 a2_1 a2_2)))) = some r := H
  have A4 := Aside0.mk A40
  clear A40
  replace H := Option.bind_eq_some_iff.mp H
  obtain ⟨t211, A50, H⟩ := H
  replace H : (if a1 > 0 then ((spec_natural_shift.f k t208 a1).bind fun t214 => (spec_scaled.j0 k t214 t211 a2_0 a2_1 a2_2)) else ((spec_natural_shift.f k t211 (wrap64 (-a1))).bind fun t217 => (spec_scaled.j0 k t208 t217 a2_0 a2_1 a2_2))) = some r := H
  have A5 := Aside0.mk A50
  clear A50
  have HC6 := Aside0.mk H
  clear H
  go_enter Tryz.func30, Tryz.ntmps30
  try go_wp2_with (first | ((with_reducible refine gate_dst (N := 5) rfl ?_); refine box_event ?hg (N := 5) ?hd (cs := #[.bool a2_0, .string a2_1, .int .i64 a2_2]) (t := 30) ?hr ?_; (case hd => rfl); (case hg => rfl); (case hr => first | (go_simp; done) | (go_simp; rfl)); intro gb207 hg w7 hbox hb; have n0_ := Aside0.mk (below_step (by repeat (first | (with_reducible first | exact HB.out | apply below_alloc | apply pw_below_drewN | apply below_drew1) | exact HB.out)) hb); have n1_ := Aside0.mk (hbox); have n2_ := Aside0.mk ((by rw [hg]; exact (below_size (by repeat (first | (with_reducible first | exact HB.out | apply below_alloc | apply pw_below_drewN | apply below_drew1) | exact HB.out))) : w.heap.size ≤ gb207)); have n3_ := Aside0.mk ((by rw [hg]; exact (below_size (by repeat (first | (with_reducible first | exact HB.out | apply below_alloc | apply pw_below_drewN | apply below_drew1) | exact HB.out))) : w.heap.size ≤ gb207)); clear HB; have HB := n0_; have BK207 := n1_; have GW207 := n2_; have GE207 := n3_; clear n0_ n1_ n2_ n3_; clear hb hbox hg))
  have n0_ := Aside0.mk (blk_drew BK207.out)
  have n1_ := Aside0.mk (below_drew1 HB.out)
  clear BK207
  clear HB
  have BK207 := n0_
  have HB := n1_
  clear n0_ n1_
  refine start_ (n := 7) (S := fun w' => w'.cell? ⟨gb207, 0, none⟩ = some (.bool a2_0) ∧ w'.cell? ⟨gb207, 1, none⟩ = some (.string a2_1) ∧ w'.cell? ⟨gb207, 2, none⟩ = some (.int .i64 a2_2)) (ds := []) #[false, false, false, false, false, false, false] (by kernel_rfl) rfl rfl ⟨(blk_cell BK207.out 0).trans rfl, (blk_cell BK207.out 1).trans rfl, (blk_cell BK207.out 2).trans rfl⟩ (fun hHeld => ?_)
  generalize w7.drew = w8 at BK207 HB hHeld ⊢
  refine pure_ (i := 0) (N := some 9) (v := ?_) (a' := ?_) #[true, false, false, false, false, false, false] rfl rfl (by kernel_rfl) (fun _ _ _ h => h) (Or.inl ⟨by rfl, ?_⟩) ?_ ?_
  rotate_left
  · intro w'
    go_simp
    with_reducible rfl
  rotate_left
  · simp only [Act.put, List.setIfInBounds_toArray, List.set_cons_zero, List.set_cons_succ, i64_w, i32_w]
    rfl
  refine pure_ (i := 2) (N := some 11) (v := ?_) (a' := ?_) #[true, false, true, false, false, false, false] rfl rfl (by kernel_rfl) (fun _ _ _ h => h) (Or.inl ⟨by rfl, ?_⟩) ?_ ?_
  rotate_left
  · intro w'
    go_simp
    with_reducible rfl
  rotate_left
  · simp only [Act.put, List.setIfInBounds_toArray, List.set_cons_zero, List.set_cons_succ, i64_w, i32_w]
    rfl
  refine take_ (i := 3) (N := some 12) (v := ?_) (a' := ?_) #[true, false, true, true, false, false, false] rfl rfl (by kernel_rfl) (fun _ _ _ h => h) (Or.inl ⟨by rfl, ?_⟩) hHeld ?_ ?_
  rotate_left
  · rintro w' ⟨s0, s1, s2⟩
    go_simp
    with_reducible rfl
  rotate_left
  · simp only [Act.put, List.setIfInBounds_toArray, List.set_cons_zero, List.set_cons_succ, i64_w, i32_w]
    rfl
  refine one_ (i := 1) (N := some 10) #[true, true, true, true, false, false, false] rfl rfl (by kernel_rfl) (by decide) (fun K hK => ?_)
  refine goes_ Tryz.func48 (by kernel_rfl) rfl #[.int .u64 a0] (by rfl) rfl rfl (by (try simp only [List.map_toArray, List.map_cons, List.map_nil]); first | done | rfl | (simp only [List.length_drop, List.length_take]; rfl) | (simp only [ByteArray.size_append, Int.natCast_add]; first | done | rfl) | (go_simp; first | done | (simp [ByteArray.size_append, ByteArray.size_extract]; done))) ?_
  with_reducible refine (spec_ofWord.calls k a0 t208 _ A4.out).mono ?_
  rintro e w9 ⟨v209, rfl, ho0, hb⟩
  refine ⟨_, rfl, ?_⟩
  have n0_ := Aside0.mk (Kd.R_lower ho0 (below_size (by repeat (first | (with_reducible first | exact HB.out | apply below_alloc | apply pw_below_drewN | apply below_drew1 | refine below_set ?_ GE207.out) | exact HB.out))))
  have n1_ := Aside0.mk (blk_below (g := gb207) (o := .cells #[.bool a2_0, .string a2_1, .int .i64 a2_2] 30 (0, 0)) (by (with_reducible repeat (first | refine blk_drewN ?_ _ | refine blk_drew ?_ | refine blk_alloc ?_ _)); exact BK207.out) hb)
  have n2_ := Aside0.mk (below_step (by repeat (first | (with_reducible first | exact HB.out | apply below_alloc | apply pw_below_drewN | apply below_drew1 | refine below_set ?_ GE207.out) | exact HB.out)) hb)
  clear BK207
  clear HB
  have HO210 := n0_
  have BK207 := n1_
  have HB := n2_
  clear n0_ n1_ n2_
  (try clear hb)
  (try clear hb2)
  (try clear hk)
  (try clear hi)
  (try clear ho0)
  refine hK.out _ _ ⟨(blk_cell BK207.out 0).trans rfl, (blk_cell BK207.out 1).trans rfl, (blk_cell BK207.out 2).trans rfl⟩ (fun hHeld => ?_)
  clear hK K
  refine norm_ (a' := ?_) ?_ ?_
  rotate_left
  · show Act.put _ (some 10) _ = _
    simp only [Act.put, List.setIfInBounds_toArray, List.set_cons_zero, List.set_cons_succ, i64_w, i32_w]
    rfl
  refine one_ (i := 4) (N := some 13) #[true, true, true, true, true, false, false] rfl rfl (by kernel_rfl) (by decide) (fun K hK => ?_)
  refine goes_ Tryz.func49 (by kernel_rfl) rfl #[.string a2_1] (by rfl) rfl rfl (by (try simp only [List.map_toArray, List.map_cons, List.map_nil]); first | done | rfl | (simp only [List.length_drop, List.length_take]; rfl) | (simp only [ByteArray.size_append, Int.natCast_add]; first | done | rfl) | (go_simp; first | done | (simp [ByteArray.size_append, ByteArray.size_extract]; done))) ?_
  with_reducible refine (spec_ofDigits.calls k a2_1 t211 _ A5.out).mono ?_
  rintro e w10 ⟨v212, rfl, ho0, hb⟩
  refine ⟨_, rfl, ?_⟩
  have n0_ := Aside0.mk (Kd.R_elder' (by (with_reducible repeat (first | apply Kd.R_alloc | apply Kd.R_drewN | apply Kd.R_drew)); first | exact HO210.out | exact own_to HO210.out) (Kd.R_base ho0) hb)
  have n1_ := Aside0.mk (Kd.R_lower (Kd.R_new' ho0 (Kd.R_lt (by (with_reducible repeat (first | apply Kd.R_alloc | apply Kd.R_drewN | apply Kd.R_drew)); first | exact HO210.out | exact own_to HO210.out))) (below_size (by repeat (first | (with_reducible first | exact HB.out | apply below_alloc | apply pw_below_drewN | apply below_drew1 | refine below_set ?_ GE207.out) | exact HB.out))))
  have n2_ := Aside0.mk (blk_below (g := gb207) (o := .cells #[.bool a2_0, .string a2_1, .int .i64 a2_2] 30 (0, 0)) (by (with_reducible repeat (first | refine blk_drewN ?_ _ | refine blk_drew ?_ | refine blk_alloc ?_ _)); exact BK207.out) hb)
  have n3_ := Aside0.mk (below_step (by repeat (first | (with_reducible first | exact HB.out | apply below_alloc | apply pw_below_drewN | apply below_drew1 | refine below_set ?_ GE207.out) | exact HB.out)) hb)
  clear HO210
  clear BK207
  clear HB
  have HO210 := n0_
  have HO213 := n1_
  have BK207 := n2_
  have HB := n3_
  clear n0_ n1_ n2_ n3_
  (try clear hb)
  (try clear hb2)
  (try clear hk)
  (try clear hi)
  (try clear ho0)
  refine hK.out _ _ ⟨(blk_cell BK207.out 0).trans rfl, (blk_cell BK207.out 1).trans rfl, (blk_cell BK207.out 2).trans rfl⟩ (fun hHeld => ?_)
  clear hK K
  refine norm_ (a' := ?_) ?_ ?_
  rotate_left
  · show Act.put _ (some 13) _ = _
    simp only [Act.put, List.setIfInBounds_toArray, List.set_cons_zero, List.set_cons_succ, i64_w, i32_w]
    rfl
  refine pure_ (i := 5) (N := some 7) (v := ?_) (a' := ?_) #[true, true, true, true, true, true, false] rfl rfl (by kernel_rfl) (fun _ _ _ h => h) (Or.inl ⟨by rfl, ?_⟩) ?_ ?_
  rotate_left
  · intro w'
    go_simp
    with_reducible rfl
  rotate_left
  · simp only [Act.put, List.setIfInBounds_toArray, List.set_cons_zero, List.set_cons_succ, i64_w, i32_w]
    rfl
  refine pure_ (i := 6) (N := some 8) (v := ?_) (a' := ?_) #[true, true, true, true, true, true, true] rfl rfl (by kernel_rfl) (fun _ _ _ h => h) (Or.inl ⟨by rfl, ?_⟩) ?_ ?_
  rotate_left
  · intro w'
    go_simp
    with_reducible rfl
  rotate_left
  · simp only [Act.put, List.setIfInBounds_toArray, List.set_cons_zero, List.set_cons_succ, i64_w, i32_w]
    rfl
  refine done_ (by kernel_rfl) ?_
  go_upto_if 15 with (fail)
  go_cut [7, 8] (fun v7 v8 wc => ∃ (kq : Nat) (x7_5 : List Int) (x8_5 : List Int), Aside0 (spec_scaled.j0 kq x7_5 x8_5 a2_0 a2_1 a2_2 = some r) ∧ Aside0 (kq ≤ k) ∧ Aside0 (Kd.R (Kd.int .u32) 116 wc w.heap.size (fun k_ => some k_ ≠ (v8 : Value).ownBlock) v7 x7_5) ∧ Aside0 (Kd.R (Kd.int .u32) 116 wc w.heap.size (fun k_ => some k_ ≠ (v7 : Value).ownBlock) v8 x8_5) ∧ Aside0 (wc.heap[gb207]? = some (.cells #[.bool a2_0, .string a2_1, .int .i64 a2_2] 30 (0, 0))) ∧ Aside0 (Below w.heap.size w wc))
  case first =>
    have H := HC6.out
    clear HC6
    by_cases c11 : a1 > 0
    · rw [if_pos c11] at H
      have c11b0 : decide (0 < a1) = true := decide_eq_true c11
      clear c11
      (first | rw [c11b0] | (simp only [i64_w, i32_w]; rw [c11b0]) | skip)
      replace H := Option.bind_eq_some_iff.mp H
      obtain ⟨t214, A120, H⟩ := H
      replace H : (spec_scaled.j0 k t214 t211 a2_0 a2_1 a2_2) = some r := H
      have A12 := Aside0.mk A120
      clear A120
      have H' := Aside0.mk H
      clear H
      obtain ⟨Ao13, co13, eo13⟩ := Kd.R_slice HO210.out
      subst eo13
      go_wp2_with (first | ((with_reducible refine gate_callee (f := 50) rfl ?_); refine goesL_ (some 18) rfl rfl Tryz.func50 (by kernel_rfl) rfl #[.slice Ao13 t208.length co13, .int .i64 a1] rfl (by (try simp only [List.map_toArray, List.map_cons, List.map_nil]); first | done | rfl | (simp only [List.length_drop, List.length_take]; rfl) | (simp only [ByteArray.size_append, Int.natCast_add]; first | done | rfl) | (go_simp; first | done | (simp [ByteArray.size_append, ByteArray.size_extract]; done))) ?_; (with_reducible refine (spec_natural_shift.calls k (fun k_ => some k_ = (.slice Ao13 t208.length co13 : Value).ownBlock) (.slice Ao13 t208.length co13) t208 a1 t214 w _ ?side1 ?side2 A12.out).mono ?_); (case side1 => repeat (first | (with_reducible first | exact HB.out | apply below_alloc | apply pw_below_drewN | apply below_drew1 | refine below_set ?_ GE207.out) | exact HB.out)); (case side2 => exact Kd.R_tight rfl HO210.out); rintro e w14 ⟨v215, rfl, ho0, hb, hkp⟩; refine ⟨_, rfl, ?_⟩; have n0_ := Aside0.mk (blk_kept (by (with_reducible repeat (first | refine blk_drewN ?_ _ | refine blk_drew ?_ | refine blk_alloc ?_ _)); exact BK207.out) hkp (fun hs_ => (fun e_ => (Kd.R_ne HO210.out BK207.out (by decide)) e_) hs_)); have n1_ := Aside0.mk (Kd.R_mono (ok' := fun k_ => some k_ ≠ (v215 : Value).ownBlock) (Kd.R_keptB (HO213.out) hkp (fun k_ hk_ hs_ => (hk_.2) hs_)) (fun k_ hk_ => fun e_ => Or.elim (ho0.1 k_ e_.symm) (fun hs_ => hk_.2.1 hs_) (fun hn_ => Nat.not_le.2 hk_.2.2 hn_))); have n2_ := Aside0.mk (Kd.R_mono (ok' := fun k_ => some k_ ≠ (v212 : Value).ownBlock) ho0 (fun k_ hk_ => Or.elim hk_ (fun hs_ => fun e_ => (((HO213.out).1 k_ e_.symm).2) hs_) (fun hn_ => (Kd.fresh' (Kd.R_lt (by (with_reducible repeat (first | apply Kd.R_alloc | apply Kd.R_drewN | apply Kd.R_drew)); first | exact HO213.out | exact own_to HO213.out)) k_ hn_)))); have n3_ := Aside0.mk (hb); clear BK207; clear HO213; clear HB; clear HO210; have BK207 := n0_; have HO213 := n1_; have HO216 := n2_; have HB := n3_; clear n0_ n1_ n2_ n3_; (try clear hb); (try clear hkp); (try clear ho0)))
      go_meet
      case rel => exact ⟨_, (t214), (t211), H', ⟨by first | omega | exact Nat.le_refl _⟩, ⟨by (with_reducible repeat (first | apply Kd.R_alloc | apply Kd.R_drewN | apply Kd.R_drew)); first | exact HO216.out | exact own_to HO216.out⟩, ⟨by (with_reducible repeat (first | apply Kd.R_alloc | apply Kd.R_drewN | apply Kd.R_drew)); first | exact HO213.out | exact own_to HO213.out⟩, ⟨by (with_reducible repeat (first | refine blk_drewN ?_ _ | refine blk_drew ?_ | refine blk_alloc ?_ _)); exact BK207.out⟩, ⟨by repeat (first | (with_reducible first | exact HB.out | apply below_alloc | apply pw_below_drewN | apply below_drew1 | refine below_set ?_ GE207.out) | exact HB.out)⟩⟩
    · rw [if_neg c11] at H
      have c11b0 : decide (0 < a1) = false := decide_eq_false c11
      clear c11
      (first | rw [c11b0] | (simp only [i64_w, i32_w]; rw [c11b0]) | skip)
      replace H := Option.bind_eq_some_iff.mp H
      obtain ⟨t217, A150, H⟩ := H
      replace H : (spec_scaled.j0 k t208 t217 a2_0 a2_1 a2_2) = some r := H
      have A15 := Aside0.mk A150
      clear A150
      have H' := Aside0.mk H
      clear H
      obtain ⟨Ao16, co16, eo16⟩ := Kd.R_slice HO213.out
      subst eo16
      go_wp2_with (first | ((with_reducible refine gate_callee (f := 50) rfl ?_); refine goesL_ (some 22) rfl rfl Tryz.func50 (by kernel_rfl) rfl #[.slice Ao16 t211.length co16, .int .i64 (wrap64 (-a1))] rfl (by (try simp only [List.map_toArray, List.map_cons, List.map_nil]); first | done | rfl | (simp only [List.length_drop, List.length_take]; rfl) | (simp only [ByteArray.size_append, Int.natCast_add]; first | done | rfl) | (go_simp; first | done | (simp [ByteArray.size_append, ByteArray.size_extract]; done))) ?_; (with_reducible refine (spec_natural_shift.calls k (fun k_ => some k_ = (.slice Ao16 t211.length co16 : Value).ownBlock) (.slice Ao16 t211.length co16) t211 (wrap64 (-a1)) t217 w _ ?side1 ?side2 A15.out).mono ?_); (case side1 => repeat (first | (with_reducible first | exact HB.out | apply below_alloc | apply pw_below_drewN | apply below_drew1 | refine below_set ?_ GE207.out) | exact HB.out)); (case side2 => exact Kd.R_tight rfl HO213.out); rintro e w17 ⟨v218, rfl, ho0, hb, hkp⟩; refine ⟨_, rfl, ?_⟩; have n0_ := Aside0.mk (blk_kept (by (with_reducible repeat (first | refine blk_drewN ?_ _ | refine blk_drew ?_ | refine blk_alloc ?_ _)); exact BK207.out) hkp (fun hs_ => (fun e_ => (Kd.R_ne HO213.out BK207.out (by decide)) e_) hs_)); have n1_ := Aside0.mk (Kd.R_mono (ok' := fun k_ => some k_ ≠ (v218 : Value).ownBlock) (Kd.R_keptB (HO210.out) hkp (fun k_ hk_ hs_ => (hk_.2) hs_)) (fun k_ hk_ => fun e_ => Or.elim (ho0.1 k_ e_.symm) (fun hs_ => hk_.2.1 hs_) (fun hn_ => Nat.not_le.2 hk_.2.2 hn_))); have n2_ := Aside0.mk (Kd.R_mono (ok' := fun k_ => some k_ ≠ (v209 : Value).ownBlock) ho0 (fun k_ hk_ => Or.elim hk_ (fun hs_ => fun e_ => (((HO210.out).1 k_ e_.symm).2) hs_) (fun hn_ => (Kd.fresh' (Kd.R_lt (by (with_reducible repeat (first | apply Kd.R_alloc | apply Kd.R_drewN | apply Kd.R_drew)); first | exact HO210.out | exact own_to HO210.out)) k_ hn_)))); have n3_ := Aside0.mk (hb); clear BK207; clear HO210; clear HB; clear HO213; have BK207 := n0_; have HO210 := n1_; have HO219 := n2_; have HB := n3_; clear n0_ n1_ n2_ n3_; (try clear hb); (try clear hkp); (try clear ho0)))
      go_meet
      case rel => exact ⟨_, (t208), (t217), H', ⟨by first | omega | exact Nat.le_refl _⟩, ⟨by (with_reducible repeat (first | apply Kd.R_alloc | apply Kd.R_drewN | apply Kd.R_drew)); first | exact HO210.out | exact own_to HO210.out⟩, ⟨by (with_reducible repeat (first | apply Kd.R_alloc | apply Kd.R_drewN | apply Kd.R_drew)); first | exact HO219.out | exact own_to HO219.out⟩, ⟨by (with_reducible repeat (first | refine blk_drewN ?_ _ | refine blk_drew ?_ | refine blk_alloc ?_ _)); exact BK207.out⟩, ⟨by repeat (first | (with_reducible first | exact HB.out | apply below_alloc | apply pw_below_drewN | apply below_drew1 | refine below_set ?_ GE207.out) | exact HB.out)⟩⟩
  case rest =>
    clear HC6
    try clear c1
    try clear p2
    try clear c3
    try clear c4
    try clear c5
    try clear p6
    try clear c11
    try clear c11b0
    obtain ⟨kq, x7_5, x8_5, HA, HJ5, HO_7, HO_8, BK207, HB⟩ := hcut
    cases kq with
    | zero => exact absurd HA.out (by simp [spec_scaled.j0])
    | succ kj5 =>
      have H := HA.out
      clear HA
      simp only [spec_scaled.j0] at H
      by_cases c18 : a2_2 > 0
      · rw [if_pos c18] at H
        have c18b0 : decide (0 < a2_2) = true := decide_eq_true c18
        clear c18
        replace H := Option.bind_eq_some_iff.mp H
        obtain ⟨t220, A190, H⟩ := H
        replace H : ((spec_natural_against.f kj5 x7_5 t220).bind fun t223 => (some t223)) = some r := H
        have A19 := Aside0.mk A190
        clear A190
        replace H := Option.bind_eq_some_iff.mp H
        obtain ⟨t223, A200, H⟩ := H
        replace H : (some t223) = some r := H
        have A20 := Aside0.mk A200
        clear A200
        obtain rfl := Option.some.inj H
        have hcz21_0 : wc.cell? ⟨gb207, 0, none⟩ = some (.bool a2_0) := (blk_cell BK207.out 0).trans rfl
        have hcz21_1 : wc.cell? ⟨gb207, 1, none⟩ = some (.string a2_1) := (blk_cell BK207.out 1).trans rfl
        have hcz21_2 : wc.cell? ⟨gb207, 2, none⟩ = some (.int .i64 a2_2) := (blk_cell BK207.out 2).trans rfl
        have hfz21_0 := blk_frozen BK207.out 0
        have hfz21_1 := blk_frozen BK207.out 1
        have hfz21_2 := blk_frozen BK207.out 2
        obtain ⟨Ao22, co22, eo22⟩ := Kd.R_slice HO_8.out
        subst eo22
        go_wp2_with (first | ((with_reducible refine gate_callee (f := 51) rfl ?_); refine goesL_ (some 29) rfl rfl Tryz.func51 (by kernel_rfl) rfl #[.slice Ao22 x8_5.length co22, .int .i64 a2_2] rfl (by (try simp only [List.map_toArray, List.map_cons, List.map_nil]); first | done | rfl | (simp only [List.length_drop, List.length_take]; rfl) | (simp only [ByteArray.size_append, Int.natCast_add]; first | done | rfl) | (go_simp; first | done | (simp [ByteArray.size_append, ByteArray.size_extract]; done))) ?_; (with_reducible refine (spec_natural_tens.calls kj5 (fun k_ => some k_ = (.slice Ao22 x8_5.length co22 : Value).ownBlock) _ _ x8_5 a2_2 t220 _ ?side1 A19.out).mono ?_); (case side1 => exact Kd.R_V (Kd.R_tight rfl (Kd.R_types (HO_8.out) BK207.out (by decide)))); rintro e w23 ⟨v221, rfl, ho0, hb⟩; refine ⟨_, rfl, ?_⟩; have n0_ := Aside0.mk (Kd.R_below (by (with_reducible repeat (first | apply Kd.R_alloc | apply Kd.R_drewN | apply Kd.R_drew)); first | exact HO_7.out | exact own_to HO_7.out) hb); have n1_ := Aside0.mk (Kd.R_below (by (with_reducible repeat (first | apply Kd.R_alloc | apply Kd.R_drewN | apply Kd.R_drew)); first | exact HO_8.out | exact own_to HO_8.out) hb); have n2_ := Aside0.mk (Kd.V_lower (Kd.V_mono (ok' := fun k_ => some k_ ≠ (u7 : Value).ownBlock ∧ k_ ≠ gb207) ho0 (fun k_ hk_ => ⟨Or.elim hk_ (fun hs_ => ((Kd.R_types (HO_8.out) BK207.out (by decide)).1 k_ hs_.symm).1) (fun hn_ => (Kd.fresh' (Kd.R_lt (by (with_reducible repeat (first | apply Kd.R_alloc | apply Kd.R_drewN | apply Kd.R_drew)); first | exact HO_7.out | exact own_to HO_7.out)) k_ hn_)), Or.elim hk_ (fun hs_ => ((Kd.R_types (HO_8.out) BK207.out (by decide)).1 k_ hs_.symm).2) (fun hn_ => (Kd.freshB (g := gb207) (o := .cells #[.bool a2_0, .string a2_1, .int .i64 a2_2] 30 (0, 0)) (by (with_reducible repeat (first | refine blk_drewN ?_ _ | refine blk_drew ?_ | refine blk_alloc ?_ _)); exact BK207.out) k_ hn_))⟩)) (below_size (by repeat (first | (with_reducible first | exact HB.out | apply below_alloc | apply pw_below_drewN | apply below_drew1 | refine below_set ?_ GE207.out) | exact HB.out)))); have n3_ := Aside0.mk (blk_below (g := gb207) (o := .cells #[.bool a2_0, .string a2_1, .int .i64 a2_2] 30 (0, 0)) (by (with_reducible repeat (first | refine blk_drewN ?_ _ | refine blk_drew ?_ | refine blk_alloc ?_ _)); exact BK207.out) hb); have n4_ := Aside0.mk (below_step (by repeat (first | (with_reducible first | exact HB.out | apply below_alloc | apply pw_below_drewN | apply below_drew1 | refine below_set ?_ GE207.out) | exact HB.out)) hb); clear HO_7; clear HO_8; clear BK207; clear HB; have HO_7 := n0_; have HO_8 := n1_; have HO222 := n2_; have BK207 := n3_; have HB := n4_; clear n0_ n1_ n2_ n3_ n4_; (try clear hb); (try clear hb2); (try clear hk); (try clear hi); (try clear ho0); obtain ⟨Ao24, co24, eo24⟩ := Kd.R_slice HO_7.out; subst eo24; obtain ⟨Ao25, co25, eo25⟩ := Kd.V_slice HO222.out; subst eo25) | ((with_reducible refine gate_callee (f := 52) rfl ?_); refine goesL_ (some 37) rfl rfl Tryz.func52 (by kernel_rfl) rfl #[.slice Ao24 x7_5.length co24, .slice Ao25 t220.length co25] rfl (by (try simp only [List.map_toArray, List.map_cons, List.map_nil]); first | done | rfl | (simp only [List.length_drop, List.length_take]; rfl) | (simp only [ByteArray.size_append, Int.natCast_add]; first | done | rfl) | (go_simp; first | done | (simp [ByteArray.size_append, ByteArray.size_extract]; done))) ?_; (with_reducible refine (spec_natural_against.calls kj5 _ _ x7_5 _ _ t220 t223 _ ?side1 ?side2 ?side3 ?side4 A20.out).mono ?_); (case side1 => repeat (first | exact (Kd.R_reads' HO_7.out).2.2 | (with_reducible refine Kd.C_alloc ?_ _) | (with_reducible refine Kd.C_drewN ?_ _) | (with_reducible refine Kd.C_drew ?_))); (case side2 => exact (Kd.R_reads' HO_7.out).2.1); (case side3 => repeat (first | exact (Kd.V_reads' HO222.out).2.2 | (with_reducible refine Kd.C_alloc ?_ _) | (with_reducible refine Kd.C_drewN ?_ _) | (with_reducible refine Kd.C_drew ?_))); (case side4 => exact (Kd.V_reads' HO222.out).2.1); rintro e w' ⟨rfl, ⟨nd, rfl⟩⟩; refine ⟨_, rfl, ?_⟩))
        go_ret
        exact ⟨by first | rfl | (simp [errW_none, errW_some] <;> rfl) | (simp [*, errW_none, errW_some] <;> rfl), by repeat (first | (with_reducible first | exact HB.out | apply below_alloc | apply pw_below_drewN | apply below_drew1 | refine below_set ?_ GE207.out) | exact HB.out)⟩
      · rw [if_neg c18] at H
        have c18b0 : decide (0 < a2_2) = false := decide_eq_false c18
        clear c18
        replace H := Option.bind_eq_some_iff.mp H
        obtain ⟨t224, A260, H⟩ := H
        replace H : ((spec_natural_against.f kj5 t224 x8_5).bind fun t227 => (some t227)) = some r := H
        have A26 := Aside0.mk A260
        clear A260
        replace H := Option.bind_eq_some_iff.mp H
        obtain ⟨t227, A270, H⟩ := H
        replace H : (some t227) = some r := H
        have A27 := Aside0.mk A270
        clear A270
        obtain rfl := Option.some.inj H
        have hcz28_0 : wc.cell? ⟨gb207, 0, none⟩ = some (.bool a2_0) := (blk_cell BK207.out 0).trans rfl
        have hcz28_1 : wc.cell? ⟨gb207, 1, none⟩ = some (.string a2_1) := (blk_cell BK207.out 1).trans rfl
        have hcz28_2 : wc.cell? ⟨gb207, 2, none⟩ = some (.int .i64 a2_2) := (blk_cell BK207.out 2).trans rfl
        have hfz28_0 := blk_frozen BK207.out 0
        have hfz28_1 := blk_frozen BK207.out 1
        have hfz28_2 := blk_frozen BK207.out 2
        obtain ⟨Ao29, co29, eo29⟩ := Kd.R_slice HO_7.out
        subst eo29
        go_wp2_with (first | ((with_reducible refine gate_callee (f := 51) rfl ?_); refine goesL_ (some 34) rfl rfl Tryz.func51 (by kernel_rfl) rfl #[.slice Ao29 x7_5.length co29, .int .i64 (wrap64 (-a2_2))] rfl (by (try simp only [List.map_toArray, List.map_cons, List.map_nil]); first | done | rfl | (simp only [List.length_drop, List.length_take]; rfl) | (simp only [ByteArray.size_append, Int.natCast_add]; first | done | rfl) | (go_simp; first | done | (simp [ByteArray.size_append, ByteArray.size_extract]; done))) ?_; (with_reducible refine (spec_natural_tens.calls kj5 (fun k_ => some k_ = (.slice Ao29 x7_5.length co29 : Value).ownBlock) _ _ x7_5 (wrap64 (-a2_2)) t224 _ ?side1 A26.out).mono ?_); (case side1 => exact Kd.R_V (Kd.R_tight rfl (Kd.R_types (HO_7.out) BK207.out (by decide)))); rintro e w30 ⟨v225, rfl, ho0, hb⟩; refine ⟨_, rfl, ?_⟩; have n0_ := Aside0.mk (Kd.R_below (by (with_reducible repeat (first | apply Kd.R_alloc | apply Kd.R_drewN | apply Kd.R_drew)); first | exact HO_7.out | exact own_to HO_7.out) hb); have n1_ := Aside0.mk (Kd.R_below (by (with_reducible repeat (first | apply Kd.R_alloc | apply Kd.R_drewN | apply Kd.R_drew)); first | exact HO_8.out | exact own_to HO_8.out) hb); have n2_ := Aside0.mk (Kd.V_lower (Kd.V_mono (ok' := fun k_ => some k_ ≠ (u8 : Value).ownBlock ∧ k_ ≠ gb207) ho0 (fun k_ hk_ => ⟨Or.elim hk_ (fun hs_ => ((Kd.R_types (HO_7.out) BK207.out (by decide)).1 k_ hs_.symm).1) (fun hn_ => (Kd.fresh' (Kd.R_lt (by (with_reducible repeat (first | apply Kd.R_alloc | apply Kd.R_drewN | apply Kd.R_drew)); first | exact HO_8.out | exact own_to HO_8.out)) k_ hn_)), Or.elim hk_ (fun hs_ => ((Kd.R_types (HO_7.out) BK207.out (by decide)).1 k_ hs_.symm).2) (fun hn_ => (Kd.freshB (g := gb207) (o := .cells #[.bool a2_0, .string a2_1, .int .i64 a2_2] 30 (0, 0)) (by (with_reducible repeat (first | refine blk_drewN ?_ _ | refine blk_drew ?_ | refine blk_alloc ?_ _)); exact BK207.out) k_ hn_))⟩)) (below_size (by repeat (first | (with_reducible first | exact HB.out | apply below_alloc | apply pw_below_drewN | apply below_drew1 | refine below_set ?_ GE207.out) | exact HB.out)))); have n3_ := Aside0.mk (blk_below (g := gb207) (o := .cells #[.bool a2_0, .string a2_1, .int .i64 a2_2] 30 (0, 0)) (by (with_reducible repeat (first | refine blk_drewN ?_ _ | refine blk_drew ?_ | refine blk_alloc ?_ _)); exact BK207.out) hb); have n4_ := Aside0.mk (below_step (by repeat (first | (with_reducible first | exact HB.out | apply below_alloc | apply pw_below_drewN | apply below_drew1 | refine below_set ?_ GE207.out) | exact HB.out)) hb); clear HO_7; clear HO_8; clear BK207; clear HB; have HO_7 := n0_; have HO_8 := n1_; have HO226 := n2_; have BK207 := n3_; have HB := n4_; clear n0_ n1_ n2_ n3_ n4_; (try clear hb); (try clear hb2); (try clear hk); (try clear hi); (try clear ho0); obtain ⟨Ao31, co31, eo31⟩ := Kd.V_slice HO226.out; subst eo31; obtain ⟨Ao32, co32, eo32⟩ := Kd.R_slice HO_8.out; subst eo32) | ((with_reducible refine gate_callee (f := 52) rfl ?_); refine goesL_ (some 37) rfl rfl Tryz.func52 (by kernel_rfl) rfl #[.slice Ao31 t224.length co31, .slice Ao32 x8_5.length co32] rfl (by (try simp only [List.map_toArray, List.map_cons, List.map_nil]); first | done | rfl | (simp only [List.length_drop, List.length_take]; rfl) | (simp only [ByteArray.size_append, Int.natCast_add]; first | done | rfl) | (go_simp; first | done | (simp [ByteArray.size_append, ByteArray.size_extract]; done))) ?_; (with_reducible refine (spec_natural_against.calls kj5 _ _ t224 _ _ x8_5 t227 _ ?side1 ?side2 ?side3 ?side4 A27.out).mono ?_); (case side1 => repeat (first | exact (Kd.V_reads' HO226.out).2.2 | (with_reducible refine Kd.C_alloc ?_ _) | (with_reducible refine Kd.C_drewN ?_ _) | (with_reducible refine Kd.C_drew ?_))); (case side2 => exact (Kd.V_reads' HO226.out).2.1); (case side3 => repeat (first | exact (Kd.R_reads' HO_8.out).2.2 | (with_reducible refine Kd.C_alloc ?_ _) | (with_reducible refine Kd.C_drewN ?_ _) | (with_reducible refine Kd.C_drew ?_))); (case side4 => exact (Kd.R_reads' HO_8.out).2.1); rintro e w' ⟨rfl, ⟨nd, rfl⟩⟩; refine ⟨_, rfl, ?_⟩))
        go_ret
        exact ⟨by first | rfl | (simp [errW_none, errW_some] <;> rfl) | (simp [*, errW_none, errW_some] <;> rfl), by repeat (first | (with_reducible first | exact HB.out | apply below_alloc | apply pw_below_drewN | apply below_drew1 | refine below_set ?_ GE207.out) | exact HB.out)⟩
end Go.Proofs.YtjemobfhlfejlaaGreatDoor.PFnFjFloatNear
