/- Walks and plain laws on the way to FnFjFloatNear. No condition but what each lemma states. -/
import Derived.Test.YtjemobfhlfejlaaGreatDoorFbG
import Derived.Test.YtjemobfhlfejlaaGreatDoorFbA
import Derived.WalkLawsBesides
import Derived.Laws.FloatArith
set_option linter.unusedVariables false
set_option linter.unusedSimpArgs false
namespace Go.Proofs.YtjemobfhlfejlaaGreatDoor.Dc
open Go Go.RowKit
open Ie (fmul fdiv tab Wd)
structure TS (w : World) (B : Nat) : Prop where
  tb : TB w B
  op : w.cell? ⟨9, 0, none⟩ = some (.bool true)
  fp : ∃ lb lo c : Nat, lb < B ∧ w.cell? ⟨13, 0, none⟩ = some (.slice (some ⟨lb, lo, none⟩) 23 c) ∧ ∀ i, i < 23 → w.cell? ⟨lb, lo + i, none⟩ = some (.float .f64 (tab.getD i 0))
  pt : ∀ i, i < 696 → w.cell? ⟨14, i * 2, none⟩ = some (.int .u64 ((pmr i).1 : Int)) ∧ w.cell? ⟨14, i * 2 + 1, none⟩ = some (.int .u64 ((pmr i).2 : Int))
theorem TS.below {w w' : World} {B : Nat} (h : TS w B) (hb : Below B w w') : TS w' B := by
  have h10 := h.tb.lc.ten
  obtain ⟨lb, lo, c, p1, p2, p3⟩ := h.fp
  refine ⟨h.tb.below hb, (hb.cell (p := ⟨9, 0, none⟩) (by show 9 < B; omega)).trans h.op, ⟨lb, lo, c, p1, (hb.cell (p := ⟨13, 0, none⟩) (by show 13 < B; omega)).trans p2, fun i hi => (hb.cell (p := ⟨lb, lo + i, none⟩) p1).trans (p3 i hi)⟩, fun i hi => ?_⟩
  obtain ⟨a, b⟩ := h.pt i hi
  exact ⟨(hb.cell (p := ⟨14, i * 2, none⟩) (by show 14 < B; omega)).trans a, (hb.cell (p := ⟨14, i * 2 + 1, none⟩) (by show 14 < B; omega)).trans b⟩
theorem unary_neg_f (k : FloatKind) (b : Nat) : Op.unary .neg (.float k b) = pure (.float k (Op.negFloat k b)) := rfl
theorem mul_run {x y r : Nat} (h : Ieee.double.mul x y = some r) (w : World) : (binOp .mul 22 (.float .f64 x) (.float .f64 y)).run Tryz.prog w = .ok (.float .f64 r) w := run_float_arith w .mul 22 .f64 x y r h
theorem div_run {x y r : Nat} (h : Ieee.double.div x y = some r) (w : World) : (binOp .quo 22 (.float .f64 x) (.float .f64 y)).run Tryz.prog w = .ok (.float .f64 r) w := run_float_arith w .quo 22 .f64 x y r h
attribute [local go_sem] unary_neg_f
def aeF (m : Nat) (ng : Bool) : Nat := if ng then Op.negFloat .f64 (floatOfInt .f64 (m : Int)) else floatOfInt .f64 (m : Int)
def aeG (m : Nat) (p : Int) (ng : Bool) : Nat := if 22 < p then fmul (aeF m ng) (tab.getD (p - 22).toNat 0) else aeF m ng
def aeBig (g : Nat) : Bool := FloatKind.f64.format.order g 4831355200913801216 == some .gt || FloatKind.f64.format.order g 14054727237768577024 == some .lt
def aeR (m : Nat) (p : Int) (ng : Bool) : Option Nat :=
  if 2 ^ 52 ≤ m then none else if p = 0 then some (aeF m ng)
  else if 0 < p then (if p ≤ 37 then (if aeBig (aeG m p ng) then none else some (fmul (aeG m p ng) (tab.getD (if 22 < p then 22 else p.toNat) 0))) else none)
  else if -22 ≤ p then some (fdiv (aeF m ng) (tab.getD (-p).toNat 0)) else none
inductive IsAE : Option Nat → Ending → Prop
  | some (f : Nat) : IsAE (some f) (.returned (.tuple #[.float .f64 f, .bool true]))
  | none (f : Nat) : IsAE none (.returned (.tuple #[.float .f64 f, .bool false]))
theorem IsAE.yes {o : Option Nat} {f : Nat} (h : o = Option.some f) : IsAE o (.returned (.tuple #[.float .f64 f, .bool true])) := by subst h; exact .some f
theorem IsAE.no {o : Option Nat} {f : Nat} (h : o = Option.none) : IsAE o (.returned (.tuple #[.float .f64 f, .bool false])) := by subst h; exact .none f
theorem aeF_f (m : Nat) : aeF m false = floatOfInt .f64 (m : Int) := by unfold aeF; rw [if_neg (by decide)]
theorem aeF_t (m : Nat) : aeF m true = Op.negFloat .f64 (floatOfInt .f64 (m : Int)) := by unfold aeF; rw [if_pos rfl]
theorem aeF_wd {m : Nat} (ng : Bool) (m0 : m ≠ 0) (m1 : m < 2 ^ 64) : Wd (aeF m ng) ng (m : Rat) 1 := by
  cases ng
  · rw [aeF_f]; exact Ie.fi_word m0 m1
  · rw [aeF_t]; exact (Ie.fi_word m0 m1).neg
theorem m_rat {m : Nat} (m0 : m ≠ 0) (m1 : m < 2 ^ 64) : (1 : Rat) ≤ (m : Rat) ∧ (m : Rat) ≤ 18446744073709551616 := by
  constructor
  · have : ((1 : Nat) : Rat) ≤ (m : Rat) := Rat.natCast_le_natCast.mpr (by omega)
    exact this
  · have : (m : Rat) ≤ ((18446744073709551616 : Nat) : Rat) := Rat.natCast_le_natCast.mpr (by omega)
    exact this
theorem ten_rat {i : Nat} (h : i ≤ 22) : (1 : Rat) ≤ ((10 ^ i : Nat) : Rat) ∧ ((10 ^ i : Nat) : Rat) ≤ 10000000000000000000000 := by
  constructor
  · have : ((1 : Nat) : Rat) ≤ ((10 ^ i : Nat) : Rat) := Rat.natCast_le_natCast.mpr (Nat.pow_pos (by decide))
    exact this
  · have : ((10 ^ i : Nat) : Rat) ≤ ((10 ^ 22 : Nat) : Rat) := Rat.natCast_le_natCast.mpr (Nat.pow_le_pow_right (by decide) h)
    have e : ((10 ^ 22 : Nat) : Rat) = 10000000000000000000000 := by decide +kernel
    rw [e] at this; exact this
theorem ae_div {m : Nat} {p : Int} (ng : Bool) (m0 : m ≠ 0) (m1 : m < 2 ^ 64) (hp : p < 0) (h2 : -22 ≤ p) : Ieee.double.div (aeF m ng) (tab.getD (-p).toNat 0) = some (fdiv (aeF m ng) (tab.getD (-p).toNat 0)) ∧ Wd (fdiv (aeF m ng) (tab.getD (-p).toNat 0)) ng ((m : Rat) / ((10 ^ (-p).toNat : Nat) : Rat)) 3 := by
  obtain ⟨a, b⟩ := m_rat m0 m1
  have := (aeF_wd ng m0 m1).div (i := (-p).toNat) (by omega) (by decide +kernel) (by decide +kernel) (by grind) (by grind)
  have e : (1 : Rat) + 2 = 3 := by decide +kernel
  rw [e] at this
  exact this
theorem ae_mulG {m : Nat} {p : Int} (ng : Bool) (m0 : m ≠ 0) (m1 : m < 2 ^ 64) (hp : 22 < p) (h2 : p ≤ 37) : Ieee.double.mul (aeF m ng) (tab.getD (p - 22).toNat 0) = some (aeG m p ng) := by
  obtain ⟨a, b⟩ := m_rat m0 m1
  unfold aeG
  rw [if_pos hp]
  exact ((aeF_wd ng m0 m1).mul (i := (p - 22).toNat) (by omega) (by decide +kernel) (by decide +kernel) (by grind) (by grind)).1
theorem aeG_wd {m : Nat} {p : Int} (ng : Bool) (m0 : m ≠ 0) (m1 : m < 2 ^ 64) (hp : 0 < p) (h2 : p ≤ 37) : Wd (aeG m p ng) ng ((m : Rat) * ((10 ^ (p - 22).toNat : Nat) : Rat)) (21 / 10) := by
  obtain ⟨a, b⟩ := m_rat m0 m1
  by_cases c : 22 < p
  · unfold aeG
    rw [if_pos c]
    have := ((aeF_wd ng m0 m1).mul (i := (p - 22).toNat) (by omega) (by decide +kernel) (by decide +kernel) (by grind) (by grind)).2
    have e : (1 : Rat) + 11 / 10 = 21 / 10 := by decide +kernel
    rw [e] at this
    exact this
  · unfold aeG
    rw [if_neg c, show (p - 22).toNat = 0 by omega]
    obtain ⟨z, h1, h2, h3, h4, h5⟩ := (aeF_wd ng m0 m1).ex
    have e : ((10 ^ 0 : Nat) : Rat) = 1 := by decide +kernel
    rw [e, Rat.mul_one]
    have u := Ie.u53
    rw [u] at h4 h5
    exact ⟨z, h1, h2, h3, by rw [u]; grind, by rw [u]; grind⟩
theorem ae_mulR {m : Nat} {p : Int} (ng : Bool) (m0 : m ≠ 0) (m1 : m < 2 ^ 64) (hp : 0 < p) (h2 : p ≤ 37) : Ieee.double.mul (aeG m p ng) (tab.getD (if 22 < p then 22 else p.toNat) 0) = some (fmul (aeG m p ng) (tab.getD (if 22 < p then 22 else p.toNat) 0)) ∧ Wd (fmul (aeG m p ng) (tab.getD (if 22 < p then 22 else p.toNat) 0)) ng ((m : Rat) * ((10 ^ p.toNat : Nat) : Rat)) (32 / 10) := by
  obtain ⟨a, b⟩ := m_rat m0 m1
  obtain ⟨c, d⟩ := ten_rat (i := (p - 22).toNat) (by omega)
  have w := aeG_wd ng m0 m1 hp h2
  have lo : (1 : Rat) ≤ (m : Rat) * ((10 ^ (p - 22).toNat : Nat) : Rat) := by
    have := Rat.mul_le_mul_of_nonneg_left c (show (0 : Rat) ≤ (m : Rat) by grind); grind
  have hi : (m : Rat) * ((10 ^ (p - 22).toNat : Nat) : Rat) ≤ 18446744073709551616 * 10000000000000000000000 := by
    have q := Rat.mul_le_mul_of_nonneg_left d (show (0 : Rat) ≤ (m : Rat) by grind)
    grind
  have q := w.mul (i := if 22 < p then 22 else p.toNat) (by split <;> omega) (by decide +kernel) (by decide +kernel) (by grind) (by grind)
  refine ⟨q.1, ?_⟩
  have e : (21 : Rat) / 10 + 11 / 10 = 32 / 10 := by decide +kernel
  have e2 : (m : Rat) * ((10 ^ (p - 22).toNat : Nat) : Rat) * ((10 ^ (if 22 < p then 22 else p.toNat) : Nat) : Rat) = (m : Rat) * ((10 ^ p.toNat : Nat) : Rat) := by
    rw [Rat.mul_assoc, ← Rat.natCast_mul, ← Nat.pow_add, show (p - 22).toNat + (if 22 < p then 22 else p.toNat) = p.toNat by split <;> omega]
  have := q.2
  rw [e, e2] at this
  exact this
set_option maxHeartbeats 2000000 in
set_option maxRecDepth 100000 in
theorem exact_any {w : World} {B : Nat} (h : TS w B) (m : Nat) (p : Int) (ng : Bool) (m0 : m ≠ 0) (m1 : m < 18446744073709551616) (p0 : -200000 ≤ p) (p1 : p ≤ 200000) :
    Calls Tryz.prog 91 #[.int .u64 (m : Int), .int .i64 p, .bool ng] w fun e w' => IsAE (aeR m p ng) e ∧ ∃ q, w' = w.drewN q := by
  have hu := Tryz.underlying140
  have c50 := h.tb.mb
  obtain ⟨lb, lo, c, b1, c8, b3⟩ := h.fp
  have H := Lib.hid h; clear h
  have HB := Lib.hid b3; clear b3
  have k22 := HB.out 22 (by omega)
  obtain ⟨t22, ht22⟩ : ∃ t, t = tab.getD 22 0 := ⟨_, rfl⟩
  rw [← ht22] at k22
  have HT22 := Lib.hid ht22; clear ht22
  have M1 := Lib.hid m1
  have mr0 : 0 ≤ (m : Int) := by omega
  obtain ⟨F, hF⟩ : ∃ F, F = aeF m ng := ⟨_, rfl⟩
  obtain ⟨o, ho⟩ : ∃ o, o = aeR m p ng := ⟨_, rfl⟩
  rw [← ho]
  unfold aeR aeG at ho
  rw [← hF] at ho
  have hwd := aeF_wd ng m0 m1
  rw [← hF] at hwd
  have HWD := Lib.hid hwd; clear hwd
  have HO := Lib.hid ho; clear ho
  have M0 := Lib.hid m0; clear m0
  by_cases hbig : 4503599627370496 ≤ m
  · have hor : o = none := by rw [HO.out, if_pos hbig]
    have HOR := Lib.hid hor; clear hor
    have tb : ((m : Int) / 4503599627370496 != 0) = true := bne_iff_ne.mpr (by omega)
    have HBIG := Lib.hid hbig; clear hbig hF m1
    go_enter Tryz.func91, Tryz.ntmps91
    go_wp2_with fail
    all_goals
      go_ret2
      exact ⟨IsAE.no HOR.out, 0, rfl⟩
  · have tb : ((m : Int) / 4503599627370496 != 0) = false := by rw [bne_eq_false_iff_eq]; omega
    have HBIG : Hid (¬ 2 ^ 52 ≤ m) := Lib.hid hbig
    clear hbig
    cases ng with
    | false =>
      have e1 : floatOfInt .f64 (m : Int) = F := by rw [hF, aeF_f]
      have HF := Lib.hid hF; clear hF m1
      rcases Int.lt_trichotomy p 0 with hp | hp | hp
      · have t0 : (p == 0) = false := beq_eq_false_iff_ne.mpr (by omega)
        have t1 : decide (0 < p) = false := decide_eq_false (by omega)
        have t2 : decide (p < 0) = true := decide_eq_true hp
        by_cases h2 : -22 ≤ p
        · have t3 : decide (-22 ≤ p) = true := decide_eq_true h2
          have hq := (ae_div false M0.out M1.out hp h2).1
          have hf := HB.out (-p).toNat (by omega)
          obtain ⟨T, hT⟩ : ∃ T, T = tab.getD (-p).toNat 0 := ⟨_, rfl⟩
          rw [← hT] at hf hq
          rw [← HF.out] at hq
          obtain ⟨R, hR⟩ : ∃ R, R = fdiv F T := ⟨_, rfl⟩
          rw [← hR] at hq
          have hor : o = some R := by
            rw [HO.out, if_neg HBIG.out, if_neg (by omega), if_neg (by omega), if_pos h2, ← hT, ← hR]
          have HOR := Lib.hid hor; clear hor
          have HT := Lib.hid hT; clear hT
          have HR := Lib.hid hR; clear hR
          have gq := div_run hq
          have HQ := Lib.hid hq; clear hq
          have q0 : 0 ≤ -p := by omega
          have q1 : -p < 23 := by omega
          go_enter Tryz.func91, Tryz.ntmps91
          go_wp2_with fail
          all_goals
            go_ret2
            exact ⟨IsAE.yes HOR.out, 0, rfl⟩
        · have t3 : decide (-22 ≤ p) = false := decide_eq_false h2
          have hor : o = none := by
            rw [HO.out, if_neg HBIG.out, if_neg (by omega), if_neg (by omega), if_neg h2]
          have HOR := Lib.hid hor; clear hor
          go_enter Tryz.func91, Tryz.ntmps91
          go_wp2_with fail
          all_goals
            go_ret2
            exact ⟨IsAE.no HOR.out, 0, rfl⟩
      · subst hp
        have hor : o = some F := by
          rw [HO.out, if_neg HBIG.out, if_pos rfl]
        have HOR := Lib.hid hor; clear hor
        go_enter Tryz.func91, Tryz.ntmps91
        go_wp2_with fail
        all_goals
          go_ret2
          exact ⟨IsAE.yes HOR.out, 0, rfl⟩
      · have t0 : (p == 0) = false := beq_eq_false_iff_ne.mpr (by omega)
        have t1 : decide (0 < p) = true := decide_eq_true hp
        have t2 : decide (p < 0) = false := decide_eq_false (by omega)
        by_cases h2 : p ≤ 37
        · have t3 : decide (p ≤ 37) = true := decide_eq_true h2
          have hr := (ae_mulR false M0.out M1.out hp h2).1
          obtain ⟨G, hG⟩ : ∃ G, G = aeG m p false := ⟨_, rfl⟩
          rw [← hG] at hr
          by_cases h3 : 22 < p
          · have t4 : decide (22 < p) = true := decide_eq_true h3
            have hg := ae_mulG false M0.out M1.out h3 h2
            rw [← HF.out, ← hG] at hg
            have hf := HB.out (p - 22).toNat (by omega)
            obtain ⟨T, hT⟩ : ∃ T, T = tab.getD (p - 22).toNat 0 := ⟨_, rfl⟩
            rw [← hT] at hf hg
            rw [if_pos h3, ← HT22.out] at hr
            obtain ⟨R, hR⟩ : ∃ R, R = fmul G t22 := ⟨_, rfl⟩
            rw [← hR] at hr
            have hor : o = if aeBig G then none else some R := by
              rw [HO.out, if_neg HBIG.out, if_neg (by omega), if_pos hp, if_pos h2, if_pos h3]
              have hG2 := hG; unfold aeG at hG2; rw [← HF.out, if_pos h3] at hG2
              rw [← hG2, if_pos h3, ← HT22.out, ← hR]
            unfold aeBig at hor
            have HOR := Lib.hid hor; clear hor
            have HT := Lib.hid hT; clear hT
            have HR := Lib.hid hR; clear hR
            have HG := Lib.hid hG; clear hG
            have gq := mul_run hg
            have gr := mul_run hr
            have HQ := Lib.hid hg; clear hg
            have HQ2 := Lib.hid hr; clear hr
            have q0 : 0 ≤ p - 22 := by omega
            have q1 : p - 22 < 23 := by omega
            obtain ⟨x1, hx1⟩ : ∃ x, (FloatKind.f64.format.order G 4831355200913801216 == some Ordering.gt) = x := ⟨_, rfl⟩
            obtain ⟨x2, hx2⟩ : ∃ x, (FloatKind.f64.format.order G 14054727237768577024 == some Ordering.lt) = x := ⟨_, rfl⟩
            rw [hx1, hx2] at HOR
            cases x1
            · cases x2
              · have HOS := Lib.hid (show o = some R from HOR.out); clear HOR
                go_enter Tryz.func91, Tryz.ntmps91
                go_wp2_with fail
                all_goals
                  go_ret2
                  exact ⟨IsAE.yes HOS.out, 0, rfl⟩
              · have HOS := Lib.hid (show o = none from HOR.out); clear HOR
                go_enter Tryz.func91, Tryz.ntmps91
                go_wp2_with fail
                all_goals
                  go_ret2
                  exact ⟨IsAE.no HOS.out, 0, rfl⟩
            · have HOS : Hid (o = none) := Lib.hid (by rw [HOR.out]; cases x2 <;> rfl); clear HOR
              go_enter Tryz.func91, Tryz.ntmps91
              go_wp2_with fail
              all_goals
                go_ret2
                exact ⟨IsAE.no HOS.out, 0, rfl⟩
          · have t4 : decide (22 < p) = false := decide_eq_false h3
            have hGF : G = F := by rw [hG, HF.out]; unfold aeG; rw [if_neg h3]
            have hf := HB.out p.toNat (by omega)
            obtain ⟨T, hT⟩ : ∃ T, T = tab.getD p.toNat 0 := ⟨_, rfl⟩
            rw [if_neg h3] at hr
            rw [← hT] at hf hr
            rw [hGF] at hr
            obtain ⟨R, hR⟩ : ∃ R, R = fmul F T := ⟨_, rfl⟩
            rw [← hR] at hr
            have hor : o = if aeBig F then none else some R := by
              rw [HO.out, if_neg HBIG.out, if_neg (by omega), if_pos hp, if_pos h2, if_neg h3, if_neg h3, ← hT, ← hR]
            unfold aeBig at hor
            have HOR := Lib.hid hor; clear hor
            have HT := Lib.hid hT; clear hT
            have HR := Lib.hid hR; clear hR
            have HG := Lib.hid hG; clear hG
            have HGF := Lib.hid hGF; clear hGF
            have gr := mul_run hr
            have HQ2 := Lib.hid hr; clear hr
            have q0 : 0 ≤ p := by omega
            have q1 : p < 23 := by omega
            obtain ⟨x1, hx1⟩ : ∃ x, (FloatKind.f64.format.order F 4831355200913801216 == some Ordering.gt) = x := ⟨_, rfl⟩
            obtain ⟨x2, hx2⟩ : ∃ x, (FloatKind.f64.format.order F 14054727237768577024 == some Ordering.lt) = x := ⟨_, rfl⟩
            rw [hx1, hx2] at HOR
            cases x1
            · cases x2
              · have HOS := Lib.hid (show o = some R from HOR.out); clear HOR
                go_enter Tryz.func91, Tryz.ntmps91
                go_wp2_with fail
                all_goals
                  go_ret2
                  exact ⟨IsAE.yes HOS.out, 0, rfl⟩
              · have HOS := Lib.hid (show o = none from HOR.out); clear HOR
                go_enter Tryz.func91, Tryz.ntmps91
                go_wp2_with fail
                all_goals
                  go_ret2
                  exact ⟨IsAE.no HOS.out, 0, rfl⟩
            · have HOS : Hid (o = none) := Lib.hid (by rw [HOR.out]; cases x2 <;> rfl); clear HOR
              go_enter Tryz.func91, Tryz.ntmps91
              go_wp2_with fail
              all_goals
                go_ret2
                exact ⟨IsAE.no HOS.out, 0, rfl⟩
        · have t3 : decide (p ≤ 37) = false := decide_eq_false h2
          have hor : o = none := by
            rw [HO.out, if_neg HBIG.out, if_neg (by omega), if_pos hp, if_neg h2]
          have HOR := Lib.hid hor; clear hor
          go_enter Tryz.func91, Tryz.ntmps91
          go_wp2_with fail
          all_goals
            go_ret2
            exact ⟨IsAE.no HOR.out, 0, rfl⟩
    | true =>
      obtain ⟨F0, hF0⟩ : ∃ F0, floatOfInt .f64 (m : Int) = F0 := ⟨_, rfl⟩
      have e1 : Op.negFloat .f64 F0 = F := by rw [← hF0, hF, aeF_t]
      have HF := Lib.hid hF; clear hF m1
      rcases Int.lt_trichotomy p 0 with hp | hp | hp
      · have t0 : (p == 0) = false := beq_eq_false_iff_ne.mpr (by omega)
        have t1 : decide (0 < p) = false := decide_eq_false (by omega)
        have t2 : decide (p < 0) = true := decide_eq_true hp
        by_cases h2 : -22 ≤ p
        · have t3 : decide (-22 ≤ p) = true := decide_eq_true h2
          have hq := (ae_div true M0.out M1.out hp h2).1
          have hf := HB.out (-p).toNat (by omega)
          obtain ⟨T, hT⟩ : ∃ T, T = tab.getD (-p).toNat 0 := ⟨_, rfl⟩
          rw [← hT] at hf hq
          rw [← HF.out] at hq
          obtain ⟨R, hR⟩ : ∃ R, R = fdiv F T := ⟨_, rfl⟩
          rw [← hR] at hq
          have hor : o = some R := by
            rw [HO.out, if_neg HBIG.out, if_neg (by omega), if_neg (by omega), if_pos h2, ← hT, ← hR]
          have HOR := Lib.hid hor; clear hor
          have HT := Lib.hid hT; clear hT
          have HR := Lib.hid hR; clear hR
          have gq := div_run hq
          have HQ := Lib.hid hq; clear hq
          have q0 : 0 ≤ -p := by omega
          have q1 : -p < 23 := by omega
          go_enter Tryz.func91, Tryz.ntmps91
          go_wp2_with fail
          all_goals
            go_ret2
            exact ⟨IsAE.yes HOR.out, 0, rfl⟩
        · have t3 : decide (-22 ≤ p) = false := decide_eq_false h2
          have hor : o = none := by
            rw [HO.out, if_neg HBIG.out, if_neg (by omega), if_neg (by omega), if_neg h2]
          have HOR := Lib.hid hor; clear hor
          go_enter Tryz.func91, Tryz.ntmps91
          go_wp2_with fail
          all_goals
            go_ret2
            exact ⟨IsAE.no HOR.out, 0, rfl⟩
      · subst hp
        have hor : o = some F := by
          rw [HO.out, if_neg HBIG.out, if_pos rfl]
        have HOR := Lib.hid hor; clear hor
        go_enter Tryz.func91, Tryz.ntmps91
        go_wp2_with fail
        all_goals
          go_ret2
          exact ⟨IsAE.yes HOR.out, 0, rfl⟩
      · have t0 : (p == 0) = false := beq_eq_false_iff_ne.mpr (by omega)
        have t1 : decide (0 < p) = true := decide_eq_true hp
        have t2 : decide (p < 0) = false := decide_eq_false (by omega)
        by_cases h2 : p ≤ 37
        · have t3 : decide (p ≤ 37) = true := decide_eq_true h2
          have hr := (ae_mulR true M0.out M1.out hp h2).1
          obtain ⟨G, hG⟩ : ∃ G, G = aeG m p true := ⟨_, rfl⟩
          rw [← hG] at hr
          by_cases h3 : 22 < p
          · have t4 : decide (22 < p) = true := decide_eq_true h3
            have hg := ae_mulG true M0.out M1.out h3 h2
            rw [← HF.out, ← hG] at hg
            have hf := HB.out (p - 22).toNat (by omega)
            obtain ⟨T, hT⟩ : ∃ T, T = tab.getD (p - 22).toNat 0 := ⟨_, rfl⟩
            rw [← hT] at hf hg
            rw [if_pos h3, ← HT22.out] at hr
            obtain ⟨R, hR⟩ : ∃ R, R = fmul G t22 := ⟨_, rfl⟩
            rw [← hR] at hr
            have hor : o = if aeBig G then none else some R := by
              rw [HO.out, if_neg HBIG.out, if_neg (by omega), if_pos hp, if_pos h2, if_pos h3]
              have hG2 := hG; unfold aeG at hG2; rw [← HF.out, if_pos h3] at hG2
              rw [← hG2, if_pos h3, ← HT22.out, ← hR]
            unfold aeBig at hor
            have HOR := Lib.hid hor; clear hor
            have HT := Lib.hid hT; clear hT
            have HR := Lib.hid hR; clear hR
            have HG := Lib.hid hG; clear hG
            have gq := mul_run hg
            have gr := mul_run hr
            have HQ := Lib.hid hg; clear hg
            have HQ2 := Lib.hid hr; clear hr
            have q0 : 0 ≤ p - 22 := by omega
            have q1 : p - 22 < 23 := by omega
            obtain ⟨x1, hx1⟩ : ∃ x, (FloatKind.f64.format.order G 4831355200913801216 == some Ordering.gt) = x := ⟨_, rfl⟩
            obtain ⟨x2, hx2⟩ : ∃ x, (FloatKind.f64.format.order G 14054727237768577024 == some Ordering.lt) = x := ⟨_, rfl⟩
            rw [hx1, hx2] at HOR
            cases x1
            · cases x2
              · have HOS := Lib.hid (show o = some R from HOR.out); clear HOR
                go_enter Tryz.func91, Tryz.ntmps91
                go_wp2_with fail
                all_goals
                  go_ret2
                  exact ⟨IsAE.yes HOS.out, 0, rfl⟩
              · have HOS := Lib.hid (show o = none from HOR.out); clear HOR
                go_enter Tryz.func91, Tryz.ntmps91
                go_wp2_with fail
                all_goals
                  go_ret2
                  exact ⟨IsAE.no HOS.out, 0, rfl⟩
            · have HOS : Hid (o = none) := Lib.hid (by rw [HOR.out]; cases x2 <;> rfl); clear HOR
              go_enter Tryz.func91, Tryz.ntmps91
              go_wp2_with fail
              all_goals
                go_ret2
                exact ⟨IsAE.no HOS.out, 0, rfl⟩
          · have t4 : decide (22 < p) = false := decide_eq_false h3
            have hGF : G = F := by rw [hG, HF.out]; unfold aeG; rw [if_neg h3]
            have hf := HB.out p.toNat (by omega)
            obtain ⟨T, hT⟩ : ∃ T, T = tab.getD p.toNat 0 := ⟨_, rfl⟩
            rw [if_neg h3] at hr
            rw [← hT] at hf hr
            rw [hGF] at hr
            obtain ⟨R, hR⟩ : ∃ R, R = fmul F T := ⟨_, rfl⟩
            rw [← hR] at hr
            have hor : o = if aeBig F then none else some R := by
              rw [HO.out, if_neg HBIG.out, if_neg (by omega), if_pos hp, if_pos h2, if_neg h3, if_neg h3, ← hT, ← hR]
            unfold aeBig at hor
            have HOR := Lib.hid hor; clear hor
            have HT := Lib.hid hT; clear hT
            have HR := Lib.hid hR; clear hR
            have HG := Lib.hid hG; clear hG
            have HGF := Lib.hid hGF; clear hGF
            have gr := mul_run hr
            have HQ2 := Lib.hid hr; clear hr
            have q0 : 0 ≤ p := by omega
            have q1 : p < 23 := by omega
            obtain ⟨x1, hx1⟩ : ∃ x, (FloatKind.f64.format.order F 4831355200913801216 == some Ordering.gt) = x := ⟨_, rfl⟩
            obtain ⟨x2, hx2⟩ : ∃ x, (FloatKind.f64.format.order F 14054727237768577024 == some Ordering.lt) = x := ⟨_, rfl⟩
            rw [hx1, hx2] at HOR
            cases x1
            · cases x2
              · have HOS := Lib.hid (show o = some R from HOR.out); clear HOR
                go_enter Tryz.func91, Tryz.ntmps91
                go_wp2_with fail
                all_goals
                  go_ret2
                  exact ⟨IsAE.yes HOS.out, 0, rfl⟩
              · have HOS := Lib.hid (show o = none from HOR.out); clear HOR
                go_enter Tryz.func91, Tryz.ntmps91
                go_wp2_with fail
                all_goals
                  go_ret2
                  exact ⟨IsAE.no HOS.out, 0, rfl⟩
            · have HOS : Hid (o = none) := Lib.hid (by rw [HOR.out]; cases x2 <;> rfl); clear HOR
              go_enter Tryz.func91, Tryz.ntmps91
              go_wp2_with fail
              all_goals
                go_ret2
                exact ⟨IsAE.no HOS.out, 0, rfl⟩
        · have t3 : decide (p ≤ 37) = false := decide_eq_false h2
          have hor : o = none := by
            rw [HO.out, if_neg HBIG.out, if_neg (by omega), if_pos hp, if_neg h2]
          have HOR := Lib.hid hor; clear hor
          go_enter Tryz.func91, Tryz.ntmps91
          go_wp2_with fail
          all_goals
            go_ret2
            exact ⟨IsAE.no HOR.out, 0, rfl⟩
end Go.Proofs.YtjemobfhlfejlaaGreatDoor.Dc
