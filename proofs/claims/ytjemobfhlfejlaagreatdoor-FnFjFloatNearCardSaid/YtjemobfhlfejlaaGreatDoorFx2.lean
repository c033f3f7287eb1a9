/- Functions of the reference, printed out of the translation and walked. No condition but what each lemma states. -/
import Derived.Test.YtjemobfhlfejlaaGreatDoorFx0
set_option linter.unusedVariables false
set_option linter.unusedSimpArgs false
namespace Go.Proofs.YtjemobfhlfejlaaGreatDoor.PFnFjFloatNear
open Go.RowKit Go.Proofs.YtjemobfhlfejlaaGreatDoorW.PrintWords Go.Proofs.YtjemobfhlfejlaaGreatDoorW.PrintLast Go.Proofs.YtjemobfhlfejlaaGreatDoorW.PrintMore
attribute [local go_sem] max2_int min2_int max_two min_two max_three min_three max_four min_four
mutual
def spec_signed.j0 : Nat → ByteArray → Bool → Bool → Option (Int × Bool)
  | 0, _, _, _ => none
  | k + 1, x0, x4, x18 => if x18 = true then (if 1 ≤ (x0.size : Int) then (spec_signed.j1 k (x0.extract 1 x0.size) x4) else (none)) else (spec_signed.j1 k x0 x4)
def spec_signed.j1 : Nat → ByteArray → Bool → Option (Int × Bool)
  | 0, _, _ => none
  | k + 1, x0, x4 => spec_signed.l0 k x0 x4 0 0 0
def spec_signed.l0 : Nat → ByteArray → Bool → Int → Int → Int → Option (Int × Bool)
  | 0, _, _, _, _, _ => none
  | k + 1, x0, x4, x5, x6, x7 => if x7 < (x0.size : Int) then (if x6 > 0 then (spec_signed.j3 k x0 x4 x5 x6 x7 true) else (if 0 ≤ x7 then (spec_signed.j3 k x0 x4 x5 x6 x7 ((bt x0 x7) != 48)) else (none))) else (if x4 = true then (some (wrap64 (-x5), true)) else (some (x5, true)))
def spec_signed.j3 : Nat → ByteArray → Bool → Int → Int → Int → Bool → Option (Int × Bool)
  | 0, _, _, _, _, _, _ => none
  | k + 1, x0, x4, x5, x6, x7, x34 => if x34 = true then (if (wrap64 (x6 + 1)) > 15 then (some (0, false)) else (if 0 ≤ x7 then (if x7 < (x0.size : Int) then (spec_signed.l0 k x0 x4 (wrap64 ((wrap64 (x5 * 10)) + (((bt x0 x7) - 48) % 256))) (wrap64 (x6 + 1)) (wrap64 (x7 + 1))) else (none)) else (none))) else (if x6 > 15 then (some (0, false)) else (if 0 ≤ x7 then (if x7 < (x0.size : Int) then (spec_signed.l0 k x0 x4 (wrap64 ((wrap64 (x5 * 10)) + (((bt x0 x7) - 48) % 256))) x6 (wrap64 (x7 + 1))) else (none)) else (none)))
end
def spec_signed.f (k : Nat) (a0 : ByteArray) : Option (Int × Bool) := if 0 < (a0.size : Int) then (if (bt a0 0) = 45 then (spec_signed.j0 k a0 ((bt a0 0) == 45) true) else (spec_signed.j0 k a0 ((bt a0 0) == 45) ((bt a0 0) == 43))) else (none)
set_option maxHeartbeats 8000000 in
set_option maxRecDepth 100000 in
theorem spec_signed.calls (k : Nat) (a0 : ByteArray) (r1 : Int) (r2 : Bool) (w : World) (h : spec_signed.f k a0 = some (r1, r2)) :
    Calls Tryz.prog 17 #[.string a0] w fun e w' => e = .returned (.tuple #[.int .i64 r1, .bool r2]) ∧ Drawn0 w w' := by
  have H : (if 0 < (a0.size : Int) then (if (bt a0 0) = 45 then (spec_signed.j0 k a0 ((bt a0 0) == 45) true) else (spec_signed.j0 k a0 ((bt a0 0) == 45) ((bt a0 0) == 43))) else (none)) = some (r1, r2) := h
  clear h
  by_cases c2 : 0 < (a0.size : Int)
  · rw [if_pos c2] at H
    have c2b0 : decide (0 < (a0.size : Int)) = true := decide_eq_true c2
    have c2b1 : decide (0 < a0.size) = true := decide_eq_true (by omega)
    clear c2
    have HC4 := Aside0.mk H
    clear H
    have p3 : 0 ≤ (0 : Int) := (by omega)
    have q3 : 0 < a0.size := (by have : (0 : Int) < (a0.size : Int) := of_decide_eq_true (by first | (with_reducible assumption) | assumption); omega)
    have hx3 : ∀ h : 0 < a0.size, ((a0[0]'h).toNat : Int) = bt a0 0 := bt_at a0 0
    clear p3
    have qi3 : (0 < (a0.size : Int)) = True := eq_true (of_decide_eq_true (by first | (with_reducible assumption) | assumption))
    replace q3 := eq_true q3
    go_enter Tryz.func17, Tryz.ntmps17
    go_upto_region 2 with (fail)
    go_cut [4, 18] (fun v4 v18 wc => ∃ (kq : Nat) (x18_3 : Bool), v4 = .bool ((bt a0 0) == 45) ∧ v18 = .bool x18_3 ∧ Aside0 (spec_signed.j0 kq a0 ((bt a0 0) == 45) x18_3 = some (r1, r2)) ∧ Aside0 (kq ≤ k) ∧ Drawn0 w wc)
    case first =>
      have H := HC4.out
      clear HC4
      by_cases c6 : (bt a0 0) = 45
      · rw [if_pos c6] at H
        have c6b0 : ((bt a0 0) == 45) = true := beq_iff_eq.mpr c6
        have c6b1 : ((bt a0 0) != 45) = false := bne_eq_false_iff_eq.mpr c6
        clear c6
        (first | rw [c6b0] | (simp only [i64_w, i32_w]; rw [c6b0]) | skip)
        have H' := Aside0.mk H
        clear H
        have p5 : 0 ≤ (0 : Int) := (by omega)
        have q5 : 0 < a0.size := (by have : (0 : Int) < (a0.size : Int) := of_decide_eq_true (by first | (with_reducible assumption) | assumption); omega)
        have hx5 : ∀ h : 0 < a0.size, ((a0[0]'h).toNat : Int) = bt a0 0 := bt_at a0 0
        clear p5
        have qi5 : (0 < (a0.size : Int)) = True := eq_true (of_decide_eq_true (by first | (with_reducible assumption) | assumption))
        replace q5 := eq_true q5
        go_wp2
        go_meet
        case rel => exact ⟨_, (true), (by first | rfl | (simp; done) | (simp [*]; done)), (by first | rfl | (simp; done) | (simp [*]; done)), H', ⟨by first | omega | exact Nat.le_refl _⟩, by repeat (first | exact Drawn0.refl _ | apply Drawn0.step)⟩
      · rw [if_neg c6] at H
        have c6b0 : ((bt a0 0) == 45) = false := beq_eq_false_iff_ne.mpr c6
        have c6b1 : ((bt a0 0) != 45) = true := bne_iff_ne.mpr c6
        (first | rw [c6b0] | (simp only [i64_w, i32_w]; rw [c6b0]) | skip)
        have H' := Aside0.mk H
        clear H
        have p5 : 0 ≤ (0 : Int) := (by omega)
        have q5 : 0 < a0.size := (by have : (0 : Int) < (a0.size : Int) := of_decide_eq_true (by first | (with_reducible assumption) | assumption); omega)
        have hx5 : ∀ h : 0 < a0.size, ((a0[0]'h).toNat : Int) = bt a0 0 := bt_at a0 0
        clear p5
        have qi5 : (0 < (a0.size : Int)) = True := eq_true (of_decide_eq_true (by first | (with_reducible assumption) | assumption))
        replace q5 := eq_true q5
        have p7 : 0 ≤ (0 : Int) := (by omega)
        have q7 : 0 < a0.size := (by have : (0 : Int) < (a0.size : Int) := of_decide_eq_true (by first | (with_reducible assumption) | assumption); omega)
        have hx7 : ∀ h : 0 < a0.size, ((a0[0]'h).toNat : Int) = bt a0 0 := bt_at a0 0
        clear p7
        have qi7 : (0 < (a0.size : Int)) = True := eq_true (of_decide_eq_true (by first | (with_reducible assumption) | assumption))
        replace q7 := eq_true q7
        go_wp2
        go_meet
        case rel => exact ⟨_, (((bt a0 0) == 43)), (by first | rfl | (simp; done) | (simp [*]; done)), (by first | rfl | (simp; done) | (simp [*]; done)), H', ⟨by first | omega | exact Nat.le_refl _⟩, by repeat (first | exact Drawn0.refl _ | apply Drawn0.step)⟩
    case rest =>
      clear HC4
      try clear c1
      try clear c2
      try clear c2b0
      try clear c2b1
      try clear p2
      try clear p3
      try clear q3
      try clear hx3
      try clear qi3
      try clear p5
      try clear q5
      try clear hx5
      try clear qi5
      try clear c6
      try clear c6b0
      try clear c6b1
      try clear p7
      try clear q7
      try clear hx7
      try clear qi7
      try clear p3
      try clear p5
      try clear p7
      try clear q3
      try clear q5
      try clear q7
      obtain ⟨kq, x18_3, rfl, rfl, HA, HJ3, ⟨mc3, rfl⟩⟩ := hcut
      cases kq with
      | zero => exact absurd HA.out (by simp [spec_signed.j0])
      | succ kj3 =>
        have H := HA.out
        clear HA
        simp only [spec_signed.j0] at H
        have HC8 := Aside0.mk H
        clear H
        go_upto_if 18 with (fail)
        go_cut [0] (fun v0 wc => ∃ (kq : Nat) (x0_7 : ByteArray), v0 = .string x0_7 ∧ Aside0 (spec_signed.j1 kq x0_7 ((bt a0 0) == 45) = some (r1, r2)) ∧ Aside0 (kq ≤ kj3) ∧ Drawn0 w wc)
        case first =>
          have H := HC8.out
          clear HC8
          by_cases c9 : x18_3 = true
          · subst c9
            rw [if_pos rfl] at H
            by_cases c10 : 1 ≤ (a0.size : Int)
            · rw [if_pos c10] at H
              have c10b0 := eq_true c10
              have c10b1 : decide (1 ≤ (a0.size : Int)) = true := decide_eq_true c10
              clear c10
              have H' := Aside0.mk H
              clear H
              go_wp2
              go_meet
              case rel => exact ⟨_, (a0.extract 1 a0.size), (by first | rfl | (simp; done) | (simp [*]; done)), H', ⟨by have := HJ3.out; first | omega | exact Nat.le_refl _⟩, by repeat (first | exact Drawn0.refl _ | apply Drawn0.step)⟩
            · rw [if_neg c10] at H
              exact absurd H (by simp)
          · replace c9 := Bool.eq_false_iff.mpr c9
            subst c9
            rw [if_neg (show ¬ (false = true) by decide)] at H
            have H' := Aside0.mk H
            clear H
            go_wp2
            go_meet
            case rel => exact ⟨_, (a0), (by first | rfl | (simp; done) | (simp [*]; done)), H', ⟨by have := HJ3.out; first | omega | exact Nat.le_refl _⟩, by repeat (first | exact Drawn0.refl _ | apply Drawn0.step)⟩
        case rest =>
          clear HC8
          try clear c1
          try clear c2
          try clear c2b0
          try clear c2b1
          try clear p2
          try clear c3
          try clear p3
          try clear q3
          try clear hx3
          try clear qi3
          try clear p5
          try clear q5
          try clear hx5
          try clear qi5
          try clear c6
          try clear c6b0
          try clear c6b1
          try clear p7
          try clear q7
          try clear hx7
          try clear qi7
          try clear c9
          try clear c10
          try clear c10b0
          try clear c10b1
          try clear p2
          try clear p3
          try clear p5
          try clear p7
          try clear q3
          try clear q5
          try clear q7
          obtain ⟨kq, x0_7, rfl, HA, HJ7, ⟨mc7, rfl⟩⟩ := hcut
          cases kq with
          | zero => exact absurd HA.out (by simp [spec_signed.j1])
          | succ kj7 =>
            have H := HA.out
            clear HA
            simp only [spec_signed.j1] at H
            have H' := Aside0.mk H
            clear H
            go_wp2
            (try simp only [Act.put, List.setIfInBounds_toArray, List.set_cons_succ, List.set_cons_zero])
            go_loopg [5, 6, 7] kj7 (fun kq v5 v6 v7 w' => ∃ (x5_3 : Int) (x6_3 : Int) (x7_3 : Int), v5 = .int .i64 x5_3 ∧ v6 = .int .i64 x6_3 ∧ v7 = .int .i64 x7_3 ∧ Aside0 (spec_signed.l0 kq x0_7 ((bt a0 0) == 45) x5_3 x6_3 x7_3 = some (r1, r2)) ∧ Aside0 (kq ≤ kj7) ∧ Drawn0 w w')
            case atStart => exact ⟨(0), (0), (0), (by first | rfl | (simp; done) | (simp [*]; done)), (by first | rfl | (simp; done) | (simp [*]; done)), (by first | rfl | (simp; done) | (simp [*]; done)), H', ⟨Nat.le_refl _⟩, by repeat (first | exact Drawn0.refl _ | apply Drawn0.step)⟩
            case round =>
              clear H'
              try clear c1
              try clear c2
              try clear c2b0
              try clear c2b1
              try clear p2
              try clear c3
              try clear p3
              try clear q3
              try clear hx3
              try clear qi3
              try clear p5
              try clear q5
              try clear hx5
              try clear qi5
              try clear c6
              try clear c6b0
              try clear c6b1
              try clear c7
              try clear p7
              try clear q7
              try clear hx7
              try clear qi7
              try clear c9
              try clear c10
              try clear c10b0
              try clear c10b1
              try clear p2
              try clear p3
              try clear p5
              try clear p7
              try clear q3
              try clear q5
              try clear q7
              obtain ⟨x5_3, x6_3, x7_3, rfl, rfl, rfl, HA, HK3, ⟨m3, rfl⟩⟩ := hrel
              cases gk with
              | zero => exact absurd HA.out (by simp [spec_signed.l0])
              | succ k3 =>
                have H := HA.out
                clear HA
                simp only [spec_signed.l0] at H
                by_cases c11 : x7_3 < (x0_7.size : Int)
                · rw [if_pos c11] at H
                  have c11b0 : decide (x7_3 < (x0_7.size : Int)) = true := decide_eq_true c11
                  clear c11
                  have HC12 := Aside0.mk H
                  clear H
                  go_upto_region 8 with (fail)
                  go_cut [34] (fun v34 wc => ∃ (kq : Nat) (x34_11 : Bool), v34 = .bool x34_11 ∧ Aside0 (spec_signed.j3 kq x0_7 ((bt a0 0) == 45) x5_3 x6_3 x7_3 x34_11 = some (r1, r2)) ∧ Aside0 (kq ≤ k3) ∧ Drawn0 w wc)
                  case first =>
                    have H := HC12.out
                    clear HC12
                    by_cases c13 : x6_3 > 0
                    · rw [if_pos c13] at H
                      have c13b0 : decide (0 < x6_3) = true := decide_eq_true c13
                      clear c13
                      (first | rw [c13b0] | (simp only [i64_w, i32_w]; rw [c13b0]) | skip)
                      have H' := Aside0.mk H
                      clear H
                      go_wp2
                      go_meet
                      case rel => exact ⟨_, (true), (by first | rfl | (simp; done) | (simp [*]; done)), H', ⟨by have := HJ3.out; have := HJ7.out; have := HK3.out; first | omega | exact Nat.le_refl _⟩, by repeat (first | exact Drawn0.refl _ | apply Drawn0.step)⟩
                    · rw [if_neg c13] at H
                      have c13b0 : decide (0 < x6_3) = false := decide_eq_false c13
                      clear c13
                      (first | rw [c13b0] | (simp only [i64_w, i32_w]; rw [c13b0]) | skip)
                      by_cases c14 : 0 ≤ x7_3
                      · rw [if_pos c14] at H
                        have c14b0 : decide (0 ≤ x7_3) = true := decide_eq_true c14
                        clear c14
                        have H' := Aside0.mk H
                        clear H
                        have p15 : 0 ≤ (x7_3 : Int) := of_decide_eq_true (by first | (with_reducible assumption) | assumption)
                        have q15 : x7_3 < (x0_7.size : Int) := of_decide_eq_true (by first | (with_reducible assumption) | assumption)
                        have hx15 := bt_at x0_7 x7_3
                        replace p15 := eq_true p15
                        replace q15 := eq_true q15
                        go_wp2
                        go_meet
                        case rel => exact ⟨_, (((bt x0_7 x7_3) != 48)), (by first | rfl | (simp; done) | (simp [*]; done)), H', ⟨by have := HJ3.out; have := HJ7.out; have := HK3.out; first | omega | exact Nat.le_refl _⟩, by repeat (first | exact Drawn0.refl _ | apply Drawn0.step)⟩
                      · rw [if_neg c14] at H
                        exact absurd H (by simp)
                  case rest =>
                    clear HC12
                    try clear c1
                    try clear p1
                    try clear q1
                    try clear hx1
                    try clear c2
                    try clear c2b0
                    try clear c2b1
                    try clear p2
                    try clear c3
                    try clear p3
                    try clear q3
                    try clear hx3
                    try clear qi3
                    try clear p5
                    try clear q5
                    try clear hx5
                    try clear qi5
                    try clear c6
                    try clear c6b0
                    try clear c6b1
                    try clear c7
                    try clear p7
                    try clear q7
                    try clear hx7
                    try clear qi7
                    try clear c9
                    try clear c10
                    try clear c10b0
                    try clear c10b1
                    try clear c11
                    try clear c11b0
                    try clear c13
                    try clear c13b0
                    try clear c14
                    try clear c14b0
                    try clear p15
                    try clear q15
                    try clear hx15
                    try clear p15
                    try clear p2
                    try clear p3
                    try clear p5
                    try clear p7
                    try clear q15
                    try clear q3
                    try clear q5
                    try clear q7
                    obtain ⟨kq, x34_11, rfl, HA, HJ11, ⟨mc11, rfl⟩⟩ := hcut
                    cases kq with
                    | zero => exact absurd HA.out (by simp [spec_signed.j3])
                    | succ kj11 =>
                      have H := HA.out
                      clear HA
                      simp only [spec_signed.j3] at H
                      by_cases c16 : x34_11 = true
                      · subst c16
                        rw [if_pos rfl] at H
                        by_cases c17 : (wrap64 (x6_3 + 1)) > 15
                        · rw [if_pos c17] at H
                          have c17b0 : decide (15 < (wrap64 (x6_3 + 1))) = true := decide_eq_true c17
                          clear c17
                          simp only [Option.some.injEq, Prod.mk.injEq] at H
                          obtain ⟨rfl, rfl⟩ := H
                          go_wp2
                          go_ret2
                          exact ⟨by first | rfl | (simp; done) | (simp [*]; done), by repeat (first | exact Drawn0.refl _ | apply Drawn0.step)⟩
                        · rw [if_neg c17] at H
                          have c17b0 : decide (15 < (wrap64 (x6_3 + 1))) = false := decide_eq_false c17
                          clear c17
                          by_cases c18 : 0 ≤ x7_3
                          · rw [if_pos c18] at H
                            have c18b0 : decide (0 ≤ x7_3) = true := decide_eq_true c18
                            clear c18
                            by_cases c19 : x7_3 < (x0_7.size : Int)
                            · rw [if_pos c19] at H
                              have c19b0 : decide (x7_3 < (x0_7.size : Int)) = true := decide_eq_true c19
                              clear c19
                              have H' := Aside0.mk H
                              clear H
                              have p20 : 0 ≤ (x7_3 : Int) := of_decide_eq_true (by first | (with_reducible assumption) | assumption)
                              have q20 : x7_3 < (x0_7.size : Int) := of_decide_eq_true (by first | (with_reducible assumption) | assumption)
                              have hx20 := bt_at x0_7 x7_3
                              replace p20 := eq_true p20
                              replace q20 := eq_true q20
                              go_wp2
                              go_roundg kj11
                              case measure => have := HJ3.out; have := HJ7.out; have := HK3.out; have := HJ11.out; omega
                              case rel => exact ⟨(wrap64 ((wrap64 (x5_3 * 10)) + (((bt x0_7 x7_3) - 48) % 256))), (wrap64 (x6_3 + 1)), (wrap64 (x7_3 + 1)), (by first | rfl | (simp; done) | (simp [*]; done)), (by first | rfl | (simp; done) | (simp [*]; done)), (by first | rfl | (simp; done) | (simp [*]; done)), H', ⟨by have := HJ3.out; have := HJ7.out; have := HK3.out; have := HJ11.out; omega⟩, by repeat (first | exact Drawn0.refl _ | apply Drawn0.step)⟩
                            · rw [if_neg c19] at H
                              exact absurd H (by simp)
                          · rw [if_neg c18] at H
                            exact absurd H (by simp)
                      · replace c16 := Bool.eq_false_iff.mpr c16
                        subst c16
                        rw [if_neg (show ¬ (false = true) by decide)] at H
                        by_cases c21 : x6_3 > 15
                        · rw [if_pos c21] at H
                          have c21b0 : decide (15 < x6_3) = true := decide_eq_true c21
                          clear c21
                          simp only [Option.some.injEq, Prod.mk.injEq] at H
                          obtain ⟨rfl, rfl⟩ := H
                          go_wp2
                          go_ret2
                          exact ⟨by first | rfl | (simp; done) | (simp [*]; done), by repeat (first | exact Drawn0.refl _ | apply Drawn0.step)⟩
                        · rw [if_neg c21] at H
                          have c21b0 : decide (15 < x6_3) = false := decide_eq_false c21
                          clear c21
                          by_cases c22 : 0 ≤ x7_3
                          · rw [if_pos c22] at H
                            have c22b0 : decide (0 ≤ x7_3) = true := decide_eq_true c22
                            clear c22
                            by_cases c23 : x7_3 < (x0_7.size : Int)
                            · rw [if_pos c23] at H
                              have c23b0 : decide (x7_3 < (x0_7.size : Int)) = true := decide_eq_true c23
                              clear c23
                              have H' := Aside0.mk H
                              clear H
                              have p24 : 0 ≤ (x7_3 : Int) := of_decide_eq_true (by first | (with_reducible assumption) | assumption)
                              have q24 : x7_3 < (x0_7.size : Int) := of_decide_eq_true (by first | (with_reducible assumption) | assumption)
                              have hx24 := bt_at x0_7 x7_3
                              replace p24 := eq_true p24
                              replace q24 := eq_true q24
                              go_wp2
                              go_roundg kj11
                              case measure => have := HJ3.out; have := HJ7.out; have := HK3.out; have := HJ11.out; omega
                              case rel => exact ⟨(wrap64 ((wrap64 (x5_3 * 10)) + (((bt x0_7 x7_3) - 48) % 256))), (x6_3), (wrap64 (x7_3 + 1)), (by first | rfl | (simp; done) | (simp [*]; done)), (by first | rfl | (simp; done) | (simp [*]; done)), (by first | rfl | (simp; done) | (simp [*]; done)), H', ⟨by have := HJ3.out; have := HJ7.out; have := HK3.out; have := HJ11.out; omega⟩, by repeat (first | exact Drawn0.refl _ | apply Drawn0.step)⟩
                            · rw [if_neg c23] at H
                              exact absurd H (by simp)
                          · rw [if_neg c22] at H
                            exact absurd H (by simp)
                · rw [if_neg c11] at H
                  have c11b0 : decide (x7_3 < (x0_7.size : Int)) = false := decide_eq_false c11
                  clear c11
                  by_cases c25 : ((bt a0 0) == 45) = true
                  · rw [if_pos c25] at H
                    have c25b0 : ((bt a0 0) == 45) = true := c25
                    (try (have c25b1 : decide ((bt a0 0) = 45) = true := by simpa using c25))
                    (try (have c25b2 : ((bt a0 0) == 45) = true := by simpa using c25))
                    clear c25
                    simp only [Option.some.injEq, Prod.mk.injEq] at H
                    obtain ⟨rfl, rfl⟩ := H
                    go_wp2
                    go_ret2
                    exact ⟨by first | rfl | (simp; done) | (simp [*]; done), by repeat (first | exact Drawn0.refl _ | apply Drawn0.step)⟩
                  · rw [if_neg c25] at H
                    have c25b0 : ((bt a0 0) == 45) = false := by simpa using c25
                    (try (have c25b1 : decide ((bt a0 0) = 45) = false := by simpa using c25))
                    (try (have c25b2 : ((bt a0 0) == 45) = false := by simpa using c25))
                    (try (have c25b3 : ¬ ((bt a0 0) = 45) := by simpa using c25))
                    clear c25
                    simp only [Option.some.injEq, Prod.mk.injEq] at H
                    obtain ⟨rfl, rfl⟩ := H
                    go_wp2
                    go_ret2
                    exact ⟨by first | rfl | (simp; done) | (simp [*]; done), by repeat (first | exact Drawn0.refl _ | apply Drawn0.step)⟩
  · rw [if_neg c2] at H
    exact absurd H (by simp)
end Go.Proofs.YtjemobfhlfejlaaGreatDoor.PFnFjFloatNear
