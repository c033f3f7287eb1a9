/- Functions of the reference, printed out of the translation and walked. No condition but what each lemma states. -/
import Derived.Test.YtjemobfhlfejlaaGreatDoorFx0
set_option linter.unusedVariables false
set_option linter.unusedSimpArgs false
namespace Go.Proofs.YtjemobfhlfejlaaGreatDoor.PFnFjFloatNear
open Go.RowKit Go.Proofs.YtjemobfhlfejlaaGreatDoorW.PrintWords Go.Proofs.YtjemobfhlfejlaaGreatDoorW.PrintLast Go.Proofs.YtjemobfhlfejlaaGreatDoorW.PrintMore
attribute [local go_sem] max2_int min2_int max_two min_two max_three min_three max_four min_four
mutual
def spec_bare.j1 : Nat → List Int → Int → Option (ByteArray × Int)
  | 0, _, _ => none
  | k + 1, x0, x1 => spec_bare.l1 k x0 x1
def spec_bare.l1 : Nat → List Int → Int → Option (ByteArray × Int)
  | 0, _, _ => none
  | k + 1, x0, x1 => if (x0.length : Int) > 0 then (if 0 ≤ (wrap64 ((x0.length : Int) - 1)) then (if (wrap64 ((x0.length : Int) - 1)) < (x0.length : Int) then (if (rd x0 (wrap64 ((x0.length : Int) - 1))) = 48 then (if (wrap64 ((x0.length : Int) - 1)) ≤ (x0.length : Int) then (spec_bare.l1 k (x0.take ((wrap64 ((x0.length : Int) - 1)) : Int).toNat) (wrap64 (x1 + 1))) else (none)) else (if (x0.length : Int) = 0 then (some (strOfNums x0, 0)) else (some (strOfNums x0, x1)))) else (none)) else (none)) else (if (x0.length : Int) = 0 then (some (strOfNums x0, 0)) else (some (strOfNums x0, x1)))
def spec_bare.l0 : Nat → List Int → Int → Option (ByteArray × Int)
  | 0, _, _ => none
  | k + 1, x0, x1 => if (x0.length : Int) > 0 then (if 0 < (x0.length : Int) then (if (rd x0 0) = 48 then (if 1 ≤ (x0.length : Int) then (spec_bare.l0 k (x0.drop 1) x1) else (none)) else (spec_bare.j1 k x0 x1)) else (none)) else (spec_bare.j1 k x0 x1)
end
def spec_bare.f (k : Nat) (l0 : List Int) (a1 : Int) : Option (ByteArray × Int) := spec_bare.l0 k l0 a1
set_option maxHeartbeats 8000000 in
set_option maxRecDepth 100000 in
theorem spec_bare.calls (k : Nat) (P0_ : Nat → Prop) (A0 : Option Addr) (c0 : Nat) (l0 : List Int) (a1 : Int) (r1 : ByteArray) (r2 : Int) (w : World) (hs0 : Kd.V (Kd.int .u8) 5 w w.heap.size (fun k_ => P0_ k_) (.slice A0 l0.length c0) l0) (h : spec_bare.f k l0 a1 = some (r1, r2)) :
    Calls Tryz.prog 18 #[.slice A0 l0.length c0, .int .i64 a1] w fun e w' => e = .returned (.tuple #[.string r1, .int .i64 r2]) ∧ Below w.heap.size w w' := by
  have HO0 := Aside0.mk (show Kd.V (Kd.int .u8) 5 w w.heap.size (fun k_ => (P0_ k_ ∨ w.heap.size ≤ k_)) (.slice A0 l0.length c0) l0 from Kd.V_mono hs0 (fun k_ hk => .inl hk))
  have HB := Aside0.mk (Below.refl w.heap.size w)
  have H : (spec_bare.l0 k l0 a1) = some (r1, r2) := h
  clear h
  have HC3 := Aside0.mk H
  clear H
  go_enter Tryz.func18, Tryz.ntmps18
  go_upto_block 0 with (fail)
  go_cut [0] (fun v0 wc => ∃ (kq : Nat) (x0_2 : List Int), Aside0 (spec_bare.j1 kq x0_2 a1 = some (r1, r2)) ∧ Aside0 (kq ≤ k) ∧ Aside0 (Kd.V (Kd.int .u8) 5 wc w.heap.size (fun k_ => (P0_ k_ ∨ w.heap.size ≤ k_)) v0 x0_2) ∧ Aside0 (Below w.heap.size w wc))
  case first =>
    have H := HC3.out
    clear HC3
    have H' := Aside0.mk H
    clear H
    go_wp2
    (try simp only [Act.put, List.setIfInBounds_toArray, List.set_cons_succ, List.set_cons_zero])
    go_loopg [0] k (fun kq v0 w' => ∃ (x0_1 : List Int), Aside0 (spec_bare.l0 kq x0_1 a1 = some (r1, r2)) ∧ Aside0 (kq ≤ k) ∧ Aside0 (Kd.V (Kd.int .u8) 5 w' w.heap.size (fun k_ => (P0_ k_ ∨ w.heap.size ≤ k_)) v0 x0_1) ∧ Aside0 (Below w.heap.size w w'))
    case atStart => exact ⟨(l0), H', ⟨Nat.le_refl _⟩, ⟨by (with_reducible repeat (first | apply Kd.V_alloc | apply Kd.V_drewN | apply Kd.V_drew)); first | exact HO0.out | exact own_to HO0.out⟩, ⟨by repeat (first | (with_reducible first | exact HB.out | apply below_alloc | apply pw_below_drewN | apply below_drew1) | exact HB.out)⟩⟩
    case round =>
      clear H'
      try clear c1
      try clear p2
      obtain ⟨x0_1, HA, HK1, HO_0, HB⟩ := hrel
      cases gk with
      | zero => exact absurd HA.out (by simp [spec_bare.l0])
      | succ k1 =>
        have H := HA.out
        clear HA
        simp only [spec_bare.l0] at H
        by_cases c4 : (x0_1.length : Int) > 0
        · rw [if_pos c4] at H
          have c4b0 : decide (0 < (x0_1.length : Int)) = true := decide_eq_true c4
          have c4b1 : decide (0 < x0_1.length) = true := decide_eq_true (by omega)
          clear c4
          (first | rw [c4b0] | (simp only [i64_w, i32_w]; rw [c4b0]) | skip)
          by_cases c5 : 0 < (x0_1.length : Int)
          · rw [if_pos c5] at H
            have c5b0 : decide (0 < (x0_1.length : Int)) = true := decide_eq_true c5
            have c5b1 : decide (0 < x0_1.length) = true := decide_eq_true (by omega)
            clear c5
            by_cases c6 : (rd x0_1 0) = 48
            · rw [if_pos c6] at H
              have c6b0 : ((rd x0_1 0) == 48) = true := beq_iff_eq.mpr c6
              have c6b1 : ((rd x0_1 0) != 48) = false := bne_eq_false_iff_eq.mpr c6
              clear c6
              by_cases c7 : 1 ≤ (x0_1.length : Int)
              · rw [if_pos c7] at H
                have c7b0 := eq_true c7
                have c7b1 : decide (1 ≤ (x0_1.length : Int)) = true := decide_eq_true c7
                clear c7
                obtain ⟨y145, hy145⟩ : ∃ y_ : List Int, y_ = (x0_1.drop 1) := ⟨_, rfl⟩
                replace H : (spec_bare.l0 k1 y145 a1) = some (r1, r2) := by first | (rw [hy145]; with_reducible exact H) | (have H2_ := (Option.bind_some _ _).symm.trans H; rw [hy145]; with_reducible exact H2_) | (have H2_ := (Option.bind_some _ _).symm.trans H; with_reducible exact H2_) | with_reducible exact H | (rw [hy145]; exact H) | exact H
                have Ny145 := Aside0.mk hy145
                clear hy145
                have H' := Aside0.mk H
                clear H
                obtain ⟨Ao8, co8, eo8⟩ := Kd.V_slice HO_0.out
                subst eo8
                have p144 : 0 ≤ (0 : Int) := (by omega)
                have q144 : 0 < (x0_1.length : Int) := of_decide_eq_true (by first | (with_reducible assumption) | assumption)
                obtain ⟨ad144, e144, hx144_0⟩ := Kd.at_int (Kd.V_reads' HO_0.out).2.2 0 p144 q144
                cases e144
                have qi144 : (0 < x0_1.length) = True := eq_true (by omega)
                (try rw [show ((0 : Int)).toNat = 0 from rfl] at hx144_0)
                (try rw [Addr.add_zero'] at hx144_0)
                replace p144 := eq_true p144
                replace q144 := eq_true q144
                have q9 : (1 : Int) ≤ ((x0_1.length : Int) : Int) := of_decide_eq_true (by first | (with_reducible assumption) | assumption)
                obtain ⟨i09, hi09, _, hsz9, _⟩ := info_parts info5
                have hroom9 : x0_1.length ≤ co8 := (Kd.V_reads' HO_0.out).2.1
                have hC9 : Kd.F (Kd.int .u8) _ _ (some ad144) x0_1.length x0_1 := (Kd.V_at (base := w.heap.size) HO_0.out).2.2
                have hcut9 := cut_from (P := Tryz.prog) 36 5 .i64 Tryz.underlying36 hi09 1 hsz9 (some ad144) x0_1.length co8 1 (by omega) q9
                have hr9 := Kd.F_cut (m := (1 : Int).toNat) (c := co8) hC9 (by omega) hroom9
                obtain ⟨A9, hA9⟩ : ∃ A1_, A1_ = (if co8 = (1 : Int).toNat then (some ad144) else ((some ad144) : Option Addr).map (·.add ((1 : Int).toNat * 1))) := ⟨_, rfl⟩
                obtain ⟨c9, hc9⟩ : ∃ c1_, c1_ = co8 - (1 : Int).toNat := ⟨_, rfl⟩
                have hy9 : y145.length = x0_1.length - (1 : Int).toNat := (by rw [Ny145.out, List.length_drop] <;> omega)
                rw [show (x0_1).drop (1 : Int).toNat = y145 from Ny145.out.symm] at hr9
                replace hr9 : Kd.F (Kd.int .u8) _ _ A9 y145.length y145 := (by rw [hA9]; exact hr9)
                rw [← hy9, ← hA9, ← hc9] at hcut9
                have HO149 := Aside0.mk (show Kd.V (Kd.int .u8) 5 _ w.heap.size _ (.slice A9 y145.length c9) y145 from Kd.V_mk (by rw [hy9, hc9]; exact Nat.sub_le_sub_right hroom9 _) hr9)
                have HC149 := Aside0.mk (show y145.length ≤ c9 from by rw [hy9, hc9]; exact Nat.sub_le_sub_right hroom9 _)
                clear hr9 hC9 hroom9 hi09 hsz9 hc9
                have KY9 := Aside0.mk hy9
                have KA9 := Aside0.mk hA9
                clear hy9 hA9
                replace q9 := eq_true q9
                go_wp2
                go_roundg k1
                case measure => have := HK1.out; omega
                case rel => exact ⟨(y145), H', ⟨by have := HK1.out; omega⟩, ⟨by (with_reducible repeat (first | apply Kd.V_alloc | apply Kd.V_drewN | apply Kd.V_drew)); first | exact HO149.out | exact own_to HO149.out⟩, ⟨by repeat (first | (with_reducible first | exact HB.out | apply below_alloc | apply pw_below_drewN | apply below_drew1) | exact HB.out)⟩⟩
              · rw [if_neg c7] at H
                exact absurd H (by simp)
            · rw [if_neg c6] at H
              have c6b0 : ((rd x0_1 0) == 48) = false := beq_eq_false_iff_ne.mpr c6
              have c6b1 : ((rd x0_1 0) != 48) = true := bne_iff_ne.mpr c6
              have H' := Aside0.mk H
              clear H
              obtain ⟨Ao10, co10, eo10⟩ := Kd.V_slice HO_0.out
              subst eo10
              have p144 : 0 ≤ (0 : Int) := (by omega)
              have q144 : 0 < (x0_1.length : Int) := of_decide_eq_true (by first | (with_reducible assumption) | assumption)
              obtain ⟨ad144, e144, hx144_0⟩ := Kd.at_int (Kd.V_reads' HO_0.out).2.2 0 p144 q144
              cases e144
              have qi144 : (0 < x0_1.length) = True := eq_true (by omega)
              (try rw [show ((0 : Int)).toNat = 0 from rfl] at hx144_0)
              (try rw [Addr.add_zero'] at hx144_0)
              replace p144 := eq_true p144
              replace q144 := eq_true q144
              go_wp2
              go_meet
              case rel => exact ⟨_, (x0_1), H', ⟨by have := HK1.out; first | omega | exact Nat.le_refl _⟩, ⟨by (with_reducible repeat (first | apply Kd.V_alloc | apply Kd.V_drewN | apply Kd.V_drew)); first | exact HO_0.out | exact own_to HO_0.out⟩, ⟨by repeat (first | (with_reducible first | exact HB.out | apply below_alloc | apply pw_below_drewN | apply below_drew1) | exact HB.out)⟩⟩
          · rw [if_neg c5] at H
            exact absurd H (by simp)
        · rw [if_neg c4] at H
          have c4b0 : decide (0 < (x0_1.length : Int)) = false := decide_eq_false c4
          have c4b1 : decide (0 < x0_1.length) = false := decide_eq_false (by omega)
          clear c4
          (first | rw [c4b0] | (simp only [i64_w, i32_w]; rw [c4b0]) | skip)
          have H' := Aside0.mk H
          clear H
          obtain ⟨Ao11, co11, eo11⟩ := Kd.V_slice HO_0.out
          subst eo11
          go_wp2
          go_meet
          case rel => exact ⟨_, (x0_1), H', ⟨by have := HK1.out; first | omega | exact Nat.le_refl _⟩, ⟨by (with_reducible repeat (first | apply Kd.V_alloc | apply Kd.V_drewN | apply Kd.V_drew)); first | exact HO_0.out | exact own_to HO_0.out⟩, ⟨by repeat (first | (with_reducible first | exact HB.out | apply below_alloc | apply pw_below_drewN | apply below_drew1) | exact HB.out)⟩⟩
  case rest =>
    clear HC3
    try clear c1
    try clear p1
    try clear q1
    try clear hx1
    try clear qi1
    try clear p2
    try clear c4
    try clear c4b0
    try clear c4b1
    try clear c5
    try clear c5b0
    try clear c5b1
    try clear c6
    try clear c6b0
    try clear c6b1
    try clear c7
    try clear c7b0
    try clear c7b1
    try clear c9
    try clear q9
    try clear hx144_0
    try clear p144
    try clear p2
    try clear q144
    try clear q9
    obtain ⟨kq, x0_2, HA, HJ2, HO_0, HB⟩ := hcut
    cases kq with
    | zero => exact absurd HA.out (by simp [spec_bare.j1])
    | succ kj2 =>
      have H := HA.out
      clear HA
      simp only [spec_bare.j1] at H
      have H' := Aside0.mk H
      clear H
      go_wp2
      (try simp only [Act.put, List.setIfInBounds_toArray, List.set_cons_succ, List.set_cons_zero])
      go_loopg [0, 1] kj2 (fun kq v0 v1 w' => ∃ (x0_2 : List Int) (x1_2 : Int), v1 = .int .i64 x1_2 ∧ Aside0 (spec_bare.l1 kq x0_2 x1_2 = some (r1, r2)) ∧ Aside0 (kq ≤ kj2) ∧ Aside0 (Kd.V (Kd.int .u8) 5 w' w.heap.size (fun k_ => (P0_ k_ ∨ w.heap.size ≤ k_)) v0 x0_2) ∧ Aside0 (Below w.heap.size w w'))
      case atStart => exact ⟨(x0_2), (a1), (by first | rfl | (simp; done) | (simp [*]; done)), H', ⟨Nat.le_refl _⟩, ⟨by (with_reducible repeat (first | apply Kd.V_alloc | apply Kd.V_drewN | apply Kd.V_drew)); first | exact HO_0.out | exact own_to HO_0.out⟩, ⟨by repeat (first | (with_reducible first | exact HB.out | apply below_alloc | apply pw_below_drewN | apply below_drew1) | exact HB.out)⟩⟩
      case round =>
        clear H'
        try clear c1
        try clear p1
        try clear q1
        try clear hx1
        try clear qi1
        try clear p2
        try clear c4
        try clear c4b0
        try clear c4b1
        try clear c5
        try clear c5b0
        try clear c5b1
        try clear c6
        try clear c6b0
        try clear c6b1
        try clear c7
        try clear c7b0
        try clear c7b1
        try clear c9
        try clear q9
        try clear hx144_0
        try clear p1
        try clear p144
        try clear p2
        try clear q1
        try clear q144
        try clear q9
        obtain ⟨x0_2, x1_2, rfl, HA, HK2, HO_0, HB⟩ := hrel
        cases gk with
        | zero => exact absurd HA.out (by simp [spec_bare.l1])
        | succ k2 =>
          have H := HA.out
          clear HA
          simp only [spec_bare.l1] at H
          by_cases c12 : (x0_2.length : Int) > 0
          · rw [if_pos c12] at H
            have c12b0 : decide (0 < (x0_2.length : Int)) = true := decide_eq_true c12
            have c12b1 : decide (0 < x0_2.length) = true := decide_eq_true (by omega)
            clear c12
            obtain ⟨ji13, hji13⟩ : ∃ j_ : Int, (wrap64 ((x0_2.length : Int) - 1)) = j_ := ⟨_, rfl⟩
            replace H : (if 0 ≤ (ji13) then (if (ji13) < (x0_2.length : Int) then (if (rd x0_2 (ji13)) = 48 then (if (ji13) ≤ (x0_2.length : Int) then (spec_bare.l1 k2 (x0_2.take ((ji13) : Int).toNat) (wrap64 (x1_2 + 1))) else (none)) else (if (x0_2.length : Int) = 0 then (some (strOfNums x0_2, 0)) else (some (strOfNums x0_2, x1_2)))) else (none)) else (none)) = some (r1, r2) := by first | (rw [hji13] at H; exact H) | (simp only [hji13] at H ⊢; exact H)
            have hji13w : (IntKind.i64.wrap ((x0_2.length : Int) - 1)) = ji13 := (i64_w _).trans hji13
            by_cases c14 : 0 ≤ (ji13)
            · rw [if_pos c14] at H
              have c14b0 : decide (0 ≤ (ji13)) = true := decide_eq_true c14
              clear c14
              by_cases c15 : (ji13) < (x0_2.length : Int)
              · rw [if_pos c15] at H
                have c15b0 : decide ((ji13) < (x0_2.length : Int)) = true := decide_eq_true c15
                clear c15
                by_cases c16 : (rd x0_2 (ji13)) = 48
                · rw [if_pos c16] at H
                  have c16b0 : ((rd x0_2 (ji13)) == 48) = true := beq_iff_eq.mpr c16
                  have c16b1 : ((rd x0_2 (ji13)) != 48) = false := bne_eq_false_iff_eq.mpr c16
                  clear c16
                  have c17b0 := eq_true (of_decide_eq_true (by first | (with_reducible assumption) | assumption) : 0 ≤ (ji13))
                  by_cases c18 : (ji13) ≤ (x0_2.length : Int)
                  · rw [if_pos c18] at H
                    have c18b0 := eq_true c18
                    have c18b1 : decide ((ji13) ≤ (x0_2.length : Int)) = true := decide_eq_true c18
                    clear c18
                    obtain ⟨y151, hy151⟩ : ∃ y_ : List Int, y_ = (x0_2.take ((ji13) : Int).toNat) := ⟨_, rfl⟩
                    replace H : (spec_bare.l1 k2 y151 (wrap64 (x1_2 + 1))) = some (r1, r2) := by first | (rw [hy151]; with_reducible exact H) | (have H2_ := (Option.bind_some _ _).symm.trans H; rw [hy151]; with_reducible exact H2_) | (have H2_ := (Option.bind_some _ _).symm.trans H; with_reducible exact H2_) | with_reducible exact H | (rw [hy151]; exact H) | exact H
                    have Ny151 := Aside0.mk hy151
                    clear hy151
                    have H' := Aside0.mk H
                    clear H
                    obtain ⟨Ao19, co19, eo19⟩ := Kd.V_slice HO_0.out
                    subst eo19
                    have p150 : 0 ≤ ((ji13) : Int) := of_decide_eq_true (by first | (with_reducible assumption) | assumption)
                    have q150 : (ji13) < (x0_2.length : Int) := of_decide_eq_true (by first | (with_reducible assumption) | assumption)
                    obtain ⟨ad150, e150, hx150_0⟩ := Kd.at_int (Kd.V_reads' HO_0.out).2.2 (ji13) p150 q150
                    cases e150
                    replace p150 := eq_true p150
                    replace q150 := eq_true q150
                    have q20 : ((ji13) : Int) ≤ ((x0_2.length : Int) : Int) := of_decide_eq_true (by first | (with_reducible assumption) | assumption)
                    obtain ⟨i020, hi020, _, hsz20, _⟩ := info_parts info5
                    have hroom20 : x0_2.length ≤ co19 := (Kd.V_reads' HO_0.out).2.1
                    have hC20 : Kd.F (Kd.int .u8) _ _ (some ad150) x0_2.length x0_2 := (Kd.V_at (base := w.heap.size) HO_0.out).2.2
                    have hcut20 := cut_to (P := Tryz.prog) 36 5 .i64 Tryz.underlying36 hi020 (some ad150) x0_2.length co19 (ji13) (of_decide_eq_true (by first | (with_reducible assumption) | assumption)) q20 hroom20
                    have hr20 := Kd.F_take (m := ((ji13) : Int).toNat) hC20 (by omega)
                    have hy20 : y151.length = ((ji13) : Int).toNat := (by rw [Ny151.out, List.length_take]; omega)
                    rw [← Ny151.out] at hr20
                    rw [← hy20] at hcut20
                    have HO155 := Aside0.mk (show Kd.V (Kd.int .u8) 5 _ w.heap.size _ (.slice (some ad150) y151.length co19) y151 from Kd.V_mk (by omega) hr20)
                    have HC155 := Aside0.mk (show y151.length ≤ co19 from by omega)
                    clear hr20 hC20 hroom20 hi020 hsz20
                    have KY20 := Aside0.mk hy20
                    clear hy20
                    replace q20 := eq_true q20
                    go_wp2
                    go_roundg k2
                    case measure => have := HJ2.out; have := HK2.out; omega
                    case rel => exact ⟨(y151), (wrap64 (x1_2 + 1)), (by first | rfl | (simp; done) | (simp [*]; done)), H', ⟨by have := HJ2.out; have := HK2.out; omega⟩, ⟨by (with_reducible repeat (first | apply Kd.V_alloc | apply Kd.V_drewN | apply Kd.V_drew)); first | exact HO155.out | exact own_to HO155.out⟩, ⟨by repeat (first | (with_reducible first | exact HB.out | apply below_alloc | apply pw_below_drewN | apply below_drew1) | exact HB.out)⟩⟩
                  · rw [if_neg c18] at H
                    exact absurd H (by simp)
                · rw [if_neg c16] at H
                  have c16b0 : ((rd x0_2 (ji13)) == 48) = false := beq_eq_false_iff_ne.mpr c16
                  have c16b1 : ((rd x0_2 (ji13)) != 48) = true := bne_iff_ne.mpr c16
                  by_cases c21 : (x0_2.length : Int) = 0
                  · rw [if_pos c21] at H
                    have c21b0 : ((x0_2.length : Int) == 0) = true := beq_iff_eq.mpr c21
                    have c21b1 : ((x0_2.length : Int) != 0) = false := bne_eq_false_iff_eq.mpr c21
                    clear c21
                    simp only [Option.some.injEq, Prod.mk.injEq] at H
                    obtain ⟨rfl, rfl⟩ := H
                    obtain ⟨Ao22, co22, eo22⟩ := Kd.V_slice HO_0.out
                    subst eo22
                    have p150 : 0 ≤ ((ji13) : Int) := of_decide_eq_true (by first | (with_reducible assumption) | assumption)
                    have q150 : (ji13) < (x0_2.length : Int) := of_decide_eq_true (by first | (with_reducible assumption) | assumption)
                    obtain ⟨ad150, e150, hx150_0⟩ := Kd.at_int (Kd.V_reads' HO_0.out).2.2 (ji13) p150 q150
                    cases e150
                    replace p150 := eq_true p150
                    replace q150 := eq_true q150
                    have hcv23 := Kd.C_string (P := Tryz.prog) (c := co22) Tryz.underlying36 Tryz.underlying5 Tryz.underlying9 (Kd.V_reads' HO_0.out).2.2
                    go_wp2
                    go_ret2
                    exact ⟨by first | rfl | (simp [errW_none, errW_some] <;> rfl) | (simp only [← hji13]; first | rfl | (simp [errW_none, errW_some] <;> rfl)) | (simp [*, errW_none, errW_some] <;> rfl), by repeat (first | (with_reducible first | exact HB.out | apply below_alloc | apply pw_below_drewN | apply below_drew1) | exact HB.out)⟩
                  · rw [if_neg c21] at H
                    have c21b0 : ((x0_2.length : Int) == 0) = false := beq_eq_false_iff_ne.mpr c21
                    have c21b1 : ((x0_2.length : Int) != 0) = true := bne_iff_ne.mpr c21
                    have c21b2 : ¬ (x0_2 = []) := fun h_ => c21 (by rw [h_]; rfl)
                    simp only [Option.some.injEq, Prod.mk.injEq] at H
                    obtain ⟨rfl, rfl⟩ := H
                    obtain ⟨Ao24, co24, eo24⟩ := Kd.V_slice HO_0.out
                    subst eo24
                    have p150 : 0 ≤ ((ji13) : Int) := of_decide_eq_true (by first | (with_reducible assumption) | assumption)
                    have q150 : (ji13) < (x0_2.length : Int) := of_decide_eq_true (by first | (with_reducible assumption) | assumption)
                    obtain ⟨ad150, e150, hx150_0⟩ := Kd.at_int (Kd.V_reads' HO_0.out).2.2 (ji13) p150 q150
                    cases e150
                    replace p150 := eq_true p150
                    replace q150 := eq_true q150
                    have hcv25 := Kd.C_string (P := Tryz.prog) (c := co24) Tryz.underlying36 Tryz.underlying5 Tryz.underlying9 (Kd.V_reads' HO_0.out).2.2
                    go_wp2
                    go_ret2
                    exact ⟨by first | rfl | (simp [errW_none, errW_some] <;> rfl) | (simp only [← hji13]; first | rfl | (simp [errW_none, errW_some] <;> rfl)) | (simp [*, errW_none, errW_some] <;> rfl), by repeat (first | (with_reducible first | exact HB.out | apply below_alloc | apply pw_below_drewN | apply below_drew1) | exact HB.out)⟩
              · rw [if_neg c15] at H
                exact absurd H (by simp)
            · rw [if_neg c14] at H
              exact absurd H (by simp)
          · rw [if_neg c12] at H
            have c12b0 : decide (0 < (x0_2.length : Int)) = false := decide_eq_false c12
            have c12b1 : decide (0 < x0_2.length) = false := decide_eq_false (by omega)
            clear c12
            by_cases c26 : (x0_2.length : Int) = 0
            · rw [if_pos c26] at H
              have c26b0 : ((x0_2.length : Int) == 0) = true := beq_iff_eq.mpr c26
              have c26b1 : ((x0_2.length : Int) != 0) = false := bne_eq_false_iff_eq.mpr c26
              clear c26
              simp only [Option.some.injEq, Prod.mk.injEq] at H
              obtain ⟨rfl, rfl⟩ := H
              obtain ⟨Ao27, co27, eo27⟩ := Kd.V_slice HO_0.out
              subst eo27
              have hcv28 := Kd.C_string (P := Tryz.prog) (c := co27) Tryz.underlying36 Tryz.underlying5 Tryz.underlying9 (Kd.V_reads' HO_0.out).2.2
              go_wp2
              go_ret2
              exact ⟨by first | rfl | (simp [errW_none, errW_some] <;> rfl) | (simp [*, errW_none, errW_some] <;> rfl), by repeat (first | (with_reducible first | exact HB.out | apply below_alloc | apply pw_below_drewN | apply below_drew1) | exact HB.out)⟩
            · rw [if_neg c26] at H
              have c26b0 : ((x0_2.length : Int) == 0) = false := beq_eq_false_iff_ne.mpr c26
              have c26b1 : ((x0_2.length : Int) != 0) = true := bne_iff_ne.mpr c26
              have c26b2 : ¬ (x0_2 = []) := fun h_ => c26 (by rw [h_]; rfl)
              simp only [Option.some.injEq, Prod.mk.injEq] at H
              obtain ⟨rfl, rfl⟩ := H
              obtain ⟨Ao29, co29, eo29⟩ := Kd.V_slice HO_0.out
              subst eo29
              have hcv30 := Kd.C_string (P := Tryz.prog) (c := co29) Tryz.underlying36 Tryz.underlying5 Tryz.underlying9 (Kd.V_reads' HO_0.out).2.2
              go_wp2
              go_ret2
              exact ⟨by first | rfl | (simp [errW_none, errW_some] <;> rfl) | (simp [*, errW_none, errW_some] <;> rfl), by repeat (first | (with_reducible first | exact HB.out | apply below_alloc | apply pw_below_drewN | apply below_drew1) | exact HB.out)⟩
end Go.Proofs.YtjemobfhlfejlaaGreatDoor.PFnFjFloatNear
