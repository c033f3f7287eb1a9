/- Walks and plain laws on the way to FnFjFloatNear. No condition but what each lemma states. -/
import Ieee.Arith
import Derived.Laws.FloatArith
set_option linter.unusedVariables false
set_option linter.unusedSimpArgs false
namespace Go.Proofs.YtjemobfhlfejlaaGreatDoor.Ie
open Ieee
theorem cut_near (neg : Bool) (n drop : Nat) : 2 * (Toward.even.cut neg n drop * 2 ^ drop) ≤ 2 * n + 2 ^ drop ∧ 2 * n ≤ 2 * (Toward.even.cut neg n drop * 2 ^ drop) + 2 ^ drop := by
  by_cases hd : drop ≤ n.log2 + 2
  · have e : min drop (n.log2 + 2) = drop := Nat.min_eq_left hd
    unfold Toward.cut
    simp only [e, Nat.one_shiftLeft]
    have g : 0 < 2 ^ drop := Nat.two_pow_pos _
    generalize 2 ^ drop = G at *
    have q := Nat.div_add_mod n G
    have r := Nat.mod_lt n g
    generalize n / G = a at *
    generalize n % G = b at *
    by_cases h : (decide (G < 2 * b) || G == 2 * b && a % 2 == 1) = true
    · rw [h]
      have h2 : G ≤ 2 * b := by
        simp only [Bool.or_eq_true, decide_eq_true_eq, Bool.and_eq_true, beq_iff_eq] at h
        omega
      have : (a + true.toNat) * G = G * a + G := by show (a + 1) * G = _; rw [Nat.add_mul, Nat.one_mul, Nat.mul_comm]
      rw [this]; omega
    · rw [Bool.not_eq_true] at h
      rw [h]
      have h2 : 2 * b ≤ G := by
        simp only [Bool.or_eq_false_iff, decide_eq_false_iff_not] at h
        omega
      have : (a + false.toNat) * G = G * a := by show (a + 0) * G = _; rw [Nat.add_zero, Nat.mul_comm]
      rw [this]; omega
  · have e : min drop (n.log2 + 2) = n.log2 + 2 := Nat.min_eq_right (by omega)
    have l := @Nat.lt_log2_self n
    have z : Toward.even.cut neg n drop = 0 := by
      unfold Toward.cut
      simp only [e, Nat.one_shiftLeft]
      have p : n < 2 ^ (n.log2 + 2) := Nat.lt_of_lt_of_le l (Nat.pow_le_pow_right (by decide) (by omega))
      have p2 : 2 * n < 2 ^ (n.log2 + 2) := by rw [Nat.pow_succ]; omega
      rw [Nat.div_eq_of_lt p, Nat.mod_eq_of_lt p]
      have : (decide (2 ^ (n.log2 + 2) < 2 * n) || 2 ^ (n.log2 + 2) == 2 * n && 0 % 2 == 1) = false := by
        simp only [Bool.or_eq_false_iff, decide_eq_false_iff_not]
        refine ⟨by omega, ?_⟩
        simp
      rw [this]; rfl
    rw [z]
    have : 2 ^ (n.log2 + 1 + 1) ≤ 2 ^ drop := Nat.pow_le_pow_right (by decide) (by omega)
    rw [Nat.pow_succ] at this
    omega
def rv (r : Nat) : Rat := if r < 2 ^ 52 then (r : Rat) * 2 ^ (-1074 : Int) else ((2 ^ 52 + r % 2 ^ 52 : Nat) : Rat) * 2 ^ (((r / 2 ^ 52 : Nat) : Int) - 1075)
theorem rv_mk (l k : Nat) (h : k ≤ 2 ^ 53) (h2 : 2 ^ 52 ≤ k ∨ l = 0) : rv (l * 2 ^ 52 + k) = (k : Rat) * 2 ^ ((l : Int) - 1074) := by
  unfold rv
  by_cases a : l * 2 ^ 52 + k < 2 ^ 52
  · have l0 : l = 0 := by omega
    subst l0
    rw [if_pos a, show 0 * 2 ^ 52 + k = k by omega, show (((0 : Nat) : Int) - 1074) = -1074 by decide]
  · rw [if_neg a]
    by_cases b : k = 2 ^ 53
    · subst b
      have e1 : (l * 2 ^ 52 + 2 ^ 53) % 2 ^ 52 = 0 := by omega
      have e2 : (l * 2 ^ 52 + 2 ^ 53) / 2 ^ 52 = l + 2 := by omega
      rw [e1, e2]
      have : (((l + 2 : Nat) : Int) - 1075) = ((l : Int) - 1074) + 1 := by omega
      rw [this, Rat.zpow_add (by decide)]
      have e3 : ((2 ^ 53 : Nat) : Rat) = ((2 ^ 52 + 0 : Nat) : Rat) * 2 := by decide +kernel
      rw [e3]
      have e4 : (2 : Rat) ^ (1 : Int) = 2 := by decide +kernel
      rw [e4]
      grind
    · have e1 : 2 ^ 52 + (l * 2 ^ 52 + k) % 2 ^ 52 = k := by omega
      have e2 : (l * 2 ^ 52 + k) / 2 ^ 52 = l + 1 := by omega
      rw [e1, e2]
      have : (((l + 1 : Nat) : Int) - 1075) = ((l : Int) - 1074) := by omega
      rw [this]
theorem two_pos (e : Int) : (0 : Rat) < 2 ^ e := Rat.zpow_pos (by decide)
theorem two_add (a b : Int) : (2 : Rat) ^ (a + b) = 2 ^ a * 2 ^ b := Rat.zpow_add (by decide) a b
theorem two_nat (n : Nat) : ((2 ^ n : Nat) : Rat) = 2 ^ (n : Int) := by
  rw [Rat.zpow_natCast]
  induction n with
  | zero => rfl
  | succ n ih => rw [Nat.pow_succ, Rat.natCast_mul, ih, Rat.pow_succ]; rfl
theorem nearest_rung (neg : Bool) (mag : Nat) (place : Int) (h : mag ≠ 0) : ∃ l k : Nat, double.nearest neg mag place = double.word neg (min (l * 2 ^ 52 + k) double.infRung) ∧ k ≤ 2 ^ 53 ∧ (2 ^ 52 ≤ k ∨ l = 0) ∧ (l : Int) = max (place + mag.log2 - 52) (-1074) + 1074 ∧ 2 * ((k : Rat) * 2 ^ ((l : Int) - 1074)) ≤ 2 * ((mag : Rat) * 2 ^ place) + 2 ^ ((l : Int) - 1074) ∧ 2 * ((mag : Rat) * 2 ^ place) ≤ 2 * ((k : Rat) * 2 ^ ((l : Int) - 1074)) + 2 ^ ((l : Int) - 1074) := by
  have lp : double.leastPlace = -1074 := by decide +kernel
  have fb : double.fractionBits = 52 := rfl
  have bi : double.binade = 2 ^ 52 := rfl
  unfold Format.nearest
  rw [if_neg h, lp, fb, bi]
  dsimp only
  generalize hL : max (place + mag.log2 - ((52 : Nat) : Int)) (-1074) = last
  have hL' : max (place + mag.log2 - 52) (-1074) = last := hL
  obtain ⟨l, hl⟩ : ∃ l : Nat, last = (l : Int) - 1074 := ⟨(last + 1074).toNat, by omega⟩
  subst hl
  have e1 : ((l : Int) - 1074 - -1074).toNat = l := by omega
  rw [e1, Nat.shiftLeft_eq]
  generalize hs : (place - ((l : Int) - 1074)).toNat = sh
  generalize hd : ((l : Int) - 1074 - place).toNat = dr
  have lo := Nat.log2_self_le h
  have hi := @Nat.lt_log2_self mag
  have cn := cut_near neg (mag * 2 ^ sh) dr
  generalize Toward.even.cut neg (mag * 2 ^ sh) dr = k at *
  have key : ((mag * 2 ^ sh : Nat) : Rat) * 2 ^ ((l : Int) - 1074 - dr) = (mag : Rat) * 2 ^ place := by
    rw [Rat.natCast_mul, two_nat, Rat.mul_assoc, ← two_add]
    have : (sh : Int) + ((l : Int) - 1074 - dr) = place := by omega
    rw [this]
  have ky2 : ((2 ^ dr : Nat) : Rat) * 2 ^ ((l : Int) - 1074 - dr) = 2 ^ ((l : Int) - 1074) := by
    rw [two_nat, ← two_add]
    have : (dr : Int) + ((l : Int) - 1074 - dr) = (l : Int) - 1074 := by omega
    rw [this]
  have up : mag * 2 ^ sh < 2 ^ (53 + dr) := by
    have : mag * 2 ^ sh < 2 ^ (mag.log2 + 1) * 2 ^ sh := Nat.mul_lt_mul_of_pos_right hi (Nat.two_pow_pos _)
    rw [← Nat.pow_add] at this
    exact Nat.lt_of_lt_of_le this (Nat.pow_le_pow_right (by decide) (by omega))
  have g := Nat.two_pow_pos dr
  refine ⟨l, k, rfl, ?_, ?_, by omega, ?_, ?_⟩
  · have u : 2 * (k * 2 ^ dr) < 2 * ((2 ^ 53 + 1) * 2 ^ dr) := by
      rw [Nat.pow_add] at up
      rw [Nat.add_mul]; omega
    have := Nat.lt_of_mul_lt_mul_right (Nat.lt_of_mul_lt_mul_left u)
    omega
  · by_cases z : l = 0
    · exact Or.inr z
    · left
      have lw : 2 ^ (52 + dr) ≤ mag * 2 ^ sh := by
        have : 2 ^ mag.log2 * 2 ^ sh ≤ mag * 2 ^ sh := Nat.mul_le_mul_right _ lo
        rw [← Nat.pow_add] at this
        exact Nat.le_trans (Nat.pow_le_pow_right (by decide) (by omega)) this
      have u : 2 * ((2 ^ 52 - 1) * 2 ^ dr) < 2 * (k * 2 ^ dr) := by
        rw [Nat.pow_add] at lw
        rw [Nat.sub_mul]; omega
      have := Nat.lt_of_mul_lt_mul_right (Nat.lt_of_mul_lt_mul_left u)
      omega
  · have q : ((2 * (k * 2 ^ dr) : Nat) : Rat) ≤ ((2 * (mag * 2 ^ sh) + 2 ^ dr : Nat) : Rat) := Rat.natCast_le_natCast.mpr cn.1
    have := Rat.mul_le_mul_of_nonneg_right q (Rat.le_of_lt (two_pos ((l : Int) - 1074 - dr)))
    simp only [Rat.natCast_add, Rat.natCast_mul, Rat.add_mul, Rat.mul_assoc] at this key
    rw [ky2, key] at this
    exact this
  · have q : ((2 * (mag * 2 ^ sh) : Nat) : Rat) ≤ ((2 * (k * 2 ^ dr) + 2 ^ dr : Nat) : Rat) := Rat.natCast_le_natCast.mpr cn.2
    have := Rat.mul_le_mul_of_nonneg_right q (Rat.le_of_lt (two_pos ((l : Int) - 1074 - dr)))
    simp only [Rat.natCast_add, Rat.natCast_mul, Rat.add_mul, Rat.mul_assoc] at this key
    rw [ky2, key] at this
    exact this
theorem rv_pos (r : Nat) (h : 2 ^ 52 ≤ r) : 0 < rv r := by
  unfold rv
  rw [if_neg (by omega)]
  exact Rat.mul_pos (by exact_mod_cast (by omega : 0 < 2 ^ 52 + r % 2 ^ 52)) (two_pos _)
theorem rv_step (r : Nat) (h : 2 ^ 52 ≤ r) : rv r + rv r * 2 ^ (-53 : Int) ≤ rv (r + 1) := by
  obtain ⟨l, k, rfl, hk⟩ : ∃ l k, r = l * 2 ^ 52 + k ∧ 2 ^ 52 ≤ k ∧ k < 2 ^ 53 := ⟨r / 2 ^ 52 - 1, 2 ^ 52 + r % 2 ^ 52, by omega, by omega, by omega⟩
  rw [Nat.add_assoc, rv_mk l k (by omega) (Or.inl hk.1), rv_mk l (k + 1) (by omega) (Or.inl (by omega))]
  have p := two_pos ((l : Int) - 1074)
  generalize (2 : Rat) ^ ((l : Int) - 1074) = q at *
  have a : (k : Rat) * 2 ^ (-53 : Int) ≤ 1 := by
    have : (k : Rat) ≤ ((2 ^ 53 : Nat) : Rat) := Rat.natCast_le_natCast.mpr (by omega)
    have := Rat.mul_le_mul_of_nonneg_right this (Rat.le_of_lt (two_pos (-53)))
    rw [two_nat, ← two_add] at this
    exact this
  have b := Rat.mul_le_mul_of_nonneg_right a (Rat.le_of_lt p)
  rw [Rat.natCast_add, Rat.add_mul]
  have e : (k : Rat) * q * 2 ^ (-53 : Int) = (k : Rat) * 2 ^ (-53 : Int) * q := by rw [Rat.mul_assoc, Rat.mul_comm q, Rat.mul_assoc]
  rw [e]
  exact Rat.add_le_add_left.mpr b
theorem rv_steps (r : Nat) (h : 2 ^ 52 ≤ r) (n : Nat) : rv r + (n : Rat) * (rv r * 2 ^ (-53 : Int)) ≤ rv (r + n) ∧ rv r ≤ rv (r + n) := by
  have u := two_pos (-53)
  have p := rv_pos r h
  induction n with
  | zero => rw [Nat.add_zero]; constructor <;> grind
  | succ n ih =>
    obtain ⟨i1, i2⟩ := ih
    have s := rv_step (r + n) (by omega)
    have m := Rat.mul_le_mul_of_nonneg_right i2 (Rat.le_of_lt u)
    have z := Rat.mul_pos p u
    rw [← Nat.add_assoc, Rat.natCast_add, Rat.add_mul]
    have o : ((1 : Nat) : Rat) * (rv r * 2 ^ (-53 : Int)) = rv r * 2 ^ (-53 : Int) := Rat.one_mul _
    rw [o]
    constructor <;> grind
theorem near_up {r R : Nat} {v : Rat} (hr : 2 ^ 52 ≤ r) (hv : 0 < v) (h1 : v - 8 * (v * 2 ^ (-53 : Int)) ≤ rv r) (h2 : rv R ≤ v + v * 2 ^ (-53 : Int)) : R ≤ r + 10 := by
  apply Classical.byContradiction
  intro c
  obtain ⟨n, rfl⟩ : ∃ n, R = r + (11 + n) := ⟨R - r - 11, by omega⟩
  have s1 := (rv_steps r hr 11).1
  have s2 := (rv_steps (r + 11) (by omega) n).2
  rw [Nat.add_assoc] at s2
  have u : (2 : Rat) ^ (-53 : Int) = 1 / 9007199254740992 := by decide +kernel
  rw [u] at *
  have o : ((11 : Nat) : Rat) = 11 := rfl
  rw [o] at s1
  grind
theorem near_down {r R : Nat} {v : Rat} (hR : 2 ^ 52 ≤ R) (hv : 0 < v) (h1 : rv r ≤ v + 8 * (v * 2 ^ (-53 : Int))) (h2 : v - v * 2 ^ (-53 : Int) ≤ rv R) : r ≤ R + 10 := by
  apply Classical.byContradiction
  intro c
  obtain ⟨n, rfl⟩ : ∃ n, r = R + (11 + n) := ⟨r - R - 11, by omega⟩
  have s1 := (rv_steps R hR 11).1
  have s2 := (rv_steps (R + 11) (by omega) n).2
  rw [Nat.add_assoc] at s2
  have u : (2 : Rat) ^ (-53 : Int) = 1 / 9007199254740992 := by decide +kernel
  rw [u] at *
  have o : ((11 : Nat) : Rat) = 11 := rfl
  rw [o] at s1
  grind
theorem nearest_rel (neg : Bool) (mag : Nat) (place : Int) (h : mag ≠ 0) (h1 : -1022 ≤ place + mag.log2) (h2 : place + mag.log2 < 1023) : ∃ r : Nat, double.nearest neg mag place = double.word neg r ∧ 2 ^ 52 ≤ r ∧ r < double.infRung ∧ rv r ≤ (mag : Rat) * 2 ^ place + (mag : Rat) * 2 ^ place * 2 ^ (-53 : Int) ∧ (mag : Rat) * 2 ^ place - (mag : Rat) * 2 ^ place * 2 ^ (-53 : Int) ≤ rv r := by
  obtain ⟨l, k, e, b1, b2, b3, b4, b5⟩ := nearest_rung neg mag place h
  have inf : double.infRung = 2047 * 2 ^ 52 := by decide +kernel
  have hl : (l : Int) = place + mag.log2 + 1022 := by omega
  have small : (2 : Rat) ^ ((l : Int) - 1074) * 2 ^ (52 : Int) ≤ (mag : Rat) * 2 ^ place := by
    rw [← two_add]
    have : (l : Int) - 1074 + 52 = mag.log2 + place := by omega
    rw [this, two_add, ← two_nat]
    exact Rat.mul_le_mul_of_nonneg_right (Rat.natCast_le_natCast.mpr (Nat.log2_self_le h)) (Rat.le_of_lt (two_pos _))
  have k52 : 2 ^ 52 ≤ k := by
    rcases b2 with b2 | b2
    · exact b2
    · subst b2
      apply Classical.byContradiction
      intro c
      have c1 : ((k + 1 : Nat) : Rat) ≤ ((2 ^ 52 : Nat) : Rat) := Rat.natCast_le_natCast.mpr (by omega)
      have c2 := Rat.mul_le_mul_of_nonneg_right c1 (Rat.le_of_lt (two_pos (((0 : Nat) : Int) - 1074)))
      rw [two_nat, Rat.natCast_add, Rat.add_mul, Rat.mul_comm (2 ^ ((52 : Nat) : Int))] at c2
      have p := two_pos (((0 : Nat) : Int) - 1074)
      have o : ((1 : Nat) : Rat) = 1 := rfl
      have o2 : ((52 : Nat) : Int) = 52 := rfl
      rw [o, o2] at c2
      grind
  refine ⟨l * 2 ^ 52 + k, ?_, by omega, ?_, ?_, ?_⟩
  · rw [e, Nat.min_eq_left]
    rw [inf]
    omega
  · rw [inf]
    omega
  · rw [rv_mk l k b1 (Or.inl k52)]
    have u : (2 : Rat) ^ (-53 : Int) = 1 / 9007199254740992 := by decide +kernel
    have u2 : (2 : Rat) ^ (52 : Int) = 4503599627370496 := by decide +kernel
    rw [u2] at small
    rw [u]
    grind
  · rw [rv_mk l k b1 (Or.inl k52)]
    have u : (2 : Rat) ^ (-53 : Int) = 1 / 9007199254740992 := by decide +kernel
    have u2 : (2 : Rat) ^ (52 : Int) = 4503599627370496 := by decide +kernel
    rw [u2] at small
    rw [u]
    grind
theorem read_word (neg : Bool) (r : Nat) (h1 : 2 ^ 52 ≤ r) (h2 : r < double.infRung) : ∃ (m : Nat) (e : Int), double.read (double.word neg r) = .number neg m e ∧ 2 ^ 52 ≤ m ∧ m < 2 ^ 53 ∧ rv r = (m : Rat) * 2 ^ e ∧ e = ((r / 2 ^ 52 : Nat) : Int) - 1075 := by
  have inf : double.infRung = 2047 * 2 ^ 52 := by decide +kernel
  have sw : double.signWeight = 2 ^ 63 := by decide +kernel
  have bi : double.binade = 2 ^ 52 := rfl
  have lp : double.leastPlace = -1074 := by decide +kernel
  have hw : double.word neg r / double.signWeight % 2 = neg.toNat ∧ double.word neg r % double.signWeight = r := by
    unfold Format.word
    rw [sw]
    rw [inf] at h2
    cases neg
    · rw [if_neg (by decide)]
      constructor
      · rw [Nat.div_eq_of_lt (by omega)]; rfl
      · exact Nat.mod_eq_of_lt (by omega)
    · rw [if_pos rfl]
      constructor
      · rw [Nat.add_div_left _ (by decide), Nat.div_eq_of_lt (by omega)]; rfl
      · rw [Nat.add_mod_left]; exact Nat.mod_eq_of_lt (by omega)
  refine ⟨2 ^ 52 + r % 2 ^ 52, ((r / 2 ^ 52 : Nat) : Int) - 1075, ?_, by omega, by omega, ?_, rfl⟩
  · unfold Format.read
    dsimp only
    rw [hw.1, hw.2, bi, lp, if_neg (by omega), if_pos h2]
    have e1 : ((r / 2 ^ 52 - 1 : Nat) : Int) = ((r / 2 ^ 52 : Nat) : Int) - 1 := by omega
    have e2 : (neg.toNat == 1) = neg := by cases neg <;> rfl
    rw [e1, e2]
    have e3 : (-1074 : Int) + (((r / 2 ^ 52 : Nat) : Int) - 1) = ((r / 2 ^ 52 : Nat) : Int) - 1075 := by omega
    rw [e3]
  · unfold rv
    rw [if_neg (by omega)]
theorem log_bounds (m : Nat) (e : Int) (h : m ≠ 0) : (2 : Rat) ^ (e + m.log2) ≤ (m : Rat) * 2 ^ e ∧ (m : Rat) * 2 ^ e < 2 ^ (e + m.log2 + 1) := by
  constructor
  · rw [Int.add_comm, two_add, ← two_nat]
    exact Rat.mul_le_mul_of_nonneg_right (Rat.natCast_le_natCast.mpr (Nat.log2_self_le h)) (Rat.le_of_lt (two_pos _))
  · have : e + (m.log2 : Int) + 1 = ((m.log2 + 1 : Nat) : Int) + e := by omega
    rw [this, two_add, ← two_nat]
    exact Rat.mul_lt_mul_of_pos_right (Rat.natCast_lt_natCast.mpr (Nat.lt_log2_self)) (two_pos _)
theorem two_lt {a b : Int} (h : (2 : Rat) ^ a < 2 ^ b) : a < b := by
  apply Classical.byContradiction
  intro c
  obtain ⟨n, hn⟩ : ∃ n : Nat, a = b + n := ⟨(a - b).toNat, by omega⟩
  rw [hn, two_add, ← two_nat] at h
  have : ((1 : Nat) : Rat) ≤ ((2 ^ n : Nat) : Rat) := Rat.natCast_le_natCast.mpr (Nat.two_pow_pos n)
  have := Rat.mul_le_mul_of_nonneg_left this (Rat.le_of_lt (two_pos b))
  have o : ((1 : Nat) : Rat) = 1 := rfl
  rw [o] at this
  grind
theorem nearest_in (neg : Bool) (mag : Nat) (place : Int) (h1 : (2 : Rat) ^ (-1022 : Int) ≤ (mag : Rat) * 2 ^ place) (h2 : (mag : Rat) * 2 ^ place < 2 ^ (1023 : Int)) : ∃ r : Nat, double.nearest neg mag place = double.word neg r ∧ 2 ^ 52 ≤ r ∧ r < double.infRung ∧ rv r ≤ (mag : Rat) * 2 ^ place + (mag : Rat) * 2 ^ place * 2 ^ (-53 : Int) ∧ (mag : Rat) * 2 ^ place - (mag : Rat) * 2 ^ place * 2 ^ (-53 : Int) ≤ rv r := by
  have h : mag ≠ 0 := by
    rintro rfl
    have := two_pos (-1022)
    have z : ((0 : Nat) : Rat) * 2 ^ place = 0 := Rat.zero_mul _
    rw [z] at h1
    grind
  obtain ⟨l1, l2⟩ := log_bounds mag place h
  have a1 := two_lt (Std.lt_of_le_of_lt h1 l2)
  have a2 := two_lt (Std.lt_of_le_of_lt l1 h2)
  exact nearest_rel neg mag place h (by omega) (by omega)
theorem mul_near (s t : Bool) (r q : Nat) (a1 : 2 ^ 52 ≤ r) (a2 : r < double.infRung) (b1 : 2 ^ 52 ≤ q) (b2 : q < double.infRung) (h1 : (2 : Rat) ^ (-1022 : Int) ≤ rv r * rv q) (h2 : rv r * rv q < 2 ^ (1023 : Int)) : ∃ z : Nat, double.mul (double.word s r) (double.word t q) = some (double.word (s ^^ t) z) ∧ 2 ^ 52 ≤ z ∧ z < double.infRung ∧ rv z ≤ rv r * rv q + rv r * rv q * 2 ^ (-53 : Int) ∧ rv r * rv q - rv r * rv q * 2 ^ (-53 : Int) ≤ rv z := by
  obtain ⟨m, e, c1, c2, c3, c4, c5⟩ := read_word s r a1 a2
  obtain ⟨n, f, d1, d2, d3, d4, d5⟩ := read_word t q b1 b2
  have v : rv r * rv q = ((m * n : Nat) : Rat) * 2 ^ (e + f) := by
    rw [c4, d4, two_add, Rat.natCast_mul]
    grind
  rw [v] at h1 h2 ⊢
  obtain ⟨z, z1, z2, z3, z4, z5⟩ := nearest_in (s ^^ t) (m * n) (e + f) h1 h2
  refine ⟨z, ?_, z2, z3, z4, z5⟩
  unfold Format.mul
  rw [c1, d1]
  show some (double.nearest (s ^^ t) (m * n) (e + f)) = _
  rw [z1]
theorem div_near (s t : Bool) (r q : Nat) (a1 : 2 ^ 52 ≤ r) (a2 : r < double.infRung) (b1 : 2 ^ 52 ≤ q) (b2 : q < double.infRung) (h1 : (2 : Rat) ^ (-1021 : Int) * rv q ≤ rv r) (h2 : rv r < 2 ^ (1022 : Int) * rv q) : ∃ z : Nat, double.div (double.word s r) (double.word t q) = some (double.word (s ^^ t) z) ∧ 2 ^ 52 ≤ z ∧ z < double.infRung ∧ rv z * rv q ≤ rv r + rv r * (7 / 4 * 2 ^ (-53 : Int)) ∧ rv r - rv r * (7 / 4 * 2 ^ (-53 : Int)) ≤ rv z * rv q := by
  obtain ⟨m, e, c1, c2, c3, c4, c5⟩ := read_word s r a1 a2
  obtain ⟨n, f, d1, d2, d3, d4, d5⟩ := read_word t q b1 b2
  have n0 : n ≠ 0 := by omega
  have m0 : m ≠ 0 := by omega
  generalize hmo : double.fractionBits + 2 + n.log2 - m.log2 = mo
  have hmo' : 54 + n.log2 - m.log2 = mo := hmo
  generalize hD : m <<< mo = D
  generalize hqq : 2 * (D / n) + (D % n != 0).toNat = qq
  have dm := Nat.div_add_mod D n
  have ml := Nat.mod_lt D (Nat.pos_of_ne_zero n0)
  have q1 : qq * n ≤ 2 * D + n ∧ 2 * D ≤ qq * n + n := by
    have x : qq * n = 2 * (n * (D / n)) + (D % n != 0).toNat * n := by
      rw [← hqq, Nat.add_mul, Nat.mul_assoc, Nat.mul_comm (D / n)]
    by_cases z : D % n = 0
    · have : (D % n != 0) = false := by rw [z]; rfl
      rw [this] at x
      have y : false.toNat * n = 0 := Nat.zero_mul _
      rw [y] at x
      omega
    · have : (D % n != 0) = true := by simp only [bne_iff_ne]; exact z
      rw [this] at x
      have y : true.toNat * n = n := Nat.one_mul _
      rw [y] at x
      omega
  have q2 : 2 ^ 54 * n ≤ 2 * D := by
    have x := @Nat.lt_log2_self n
    have y := Nat.log2_self_le m0
    have lm : m.log2 ≤ 52 + 0 + 1 := by
      have : 2 ^ m.log2 < 2 ^ 53 := Nat.lt_of_le_of_lt y c3
      have := (Nat.pow_lt_pow_iff_right (by decide)).mp this
      omega
    have : 2 ^ m.log2 * 2 ^ mo ≤ D := by
      rw [← hD, Nat.shiftLeft_eq]; exact Nat.mul_le_mul_right _ y
    rw [← Nat.pow_add, show m.log2 + mo = 53 + (n.log2 + 1) by omega, Nat.pow_add] at this
    omega
  have pr : (D : Rat) * 2 ^ (e - mo) = rv r := by
    rw [← hD, Nat.shiftLeft_eq, Rat.natCast_mul, two_nat, Rat.mul_assoc, ← two_add, c4]
    have : (mo : Int) + (e - mo) = e := by omega
    rw [this]
  have half : (2 : Rat) ^ (e - mo) = 2 * 2 ^ (e - mo - 1) := by
    have : e - (mo : Int) = 1 + (e - mo - 1) := by omega
    conv => lhs; rw [this, two_add]
    rfl
  have pq : (qq : Rat) * 2 ^ (e - f - mo - 1) * rv q = (qq : Rat) * (n : Rat) * 2 ^ (e - mo - 1) := by
    rw [d4]
    have : e - (mo : Int) - 1 = (e - f - mo - 1) + f := by omega
    rw [this, two_add]
    grind
  have w := two_pos (e - mo - 1)
  have g1 : (qq : Rat) * (n : Rat) ≤ 2 * (D : Rat) + n := by
    have : ((qq * n : Nat) : Rat) ≤ ((2 * D + n : Nat) : Rat) := Rat.natCast_le_natCast.mpr q1.1
    rw [Rat.natCast_add, Rat.natCast_mul, Rat.natCast_mul] at this
    exact this
  have g2 : 2 * (D : Rat) ≤ (qq : Rat) * (n : Rat) + n := by
    have : ((2 * D : Nat) : Rat) ≤ ((qq * n + n : Nat) : Rat) := Rat.natCast_le_natCast.mpr q1.2
    rw [Rat.natCast_add, Rat.natCast_mul, Rat.natCast_mul] at this
    exact this
  have g3 : 18014398509481984 * (n : Rat) ≤ 2 * (D : Rat) := by
    have : ((2 ^ 54 * n : Nat) : Rat) ≤ ((2 * D : Nat) : Rat) := Rat.natCast_le_natCast.mpr q2
    rw [Rat.natCast_mul, Rat.natCast_mul] at this
    exact this
  have k1 := Rat.mul_le_mul_of_nonneg_right g1 (Rat.le_of_lt w)
  have k2 := Rat.mul_le_mul_of_nonneg_right g2 (Rat.le_of_lt w)
  have k3 := Rat.mul_le_mul_of_nonneg_right g3 (Rat.le_of_lt w)
  rw [half] at pr
  have u : (2 : Rat) ^ (-53 : Int) = 1 / 9007199254740992 := by decide +kernel
  have pos := rv_pos q b1
  have posr := rv_pos r a1
  generalize hQ : (qq : Rat) * 2 ^ (e - f - mo - 1) = Q at pq
  have Q1 : Q * rv q ≤ rv r + rv r * (1 / 18014398509481984) := by grind
  have Q2 : rv r ≤ Q * rv q + rv r * (1 / 18014398509481984) := by grind
  have in1 : (2 : Rat) ^ (-1022 : Int) ≤ Q := by
    apply Classical.byContradiction
    intro c
    have c' := Rat.mul_lt_mul_of_pos_right (Rat.not_le.mp c) pos
    have x : (2 : Rat) ^ (-1021 : Int) = 2 * 2 ^ (-1022 : Int) := by
      have : (-1021 : Int) = 1 + -1022 := rfl
      rw [this, two_add]; rfl
    rw [x] at h1
    grind
  have in2 : Q < (2 : Rat) ^ (1023 : Int) := by
    apply Classical.byContradiction
    intro c
    have c' := Rat.mul_le_mul_of_nonneg_right (Rat.not_lt.mp c) (Rat.le_of_lt pos)
    have x : (2 : Rat) ^ (1023 : Int) = 2 * 2 ^ (1022 : Int) := by
      have : (1023 : Int) = 1 + 1022 := rfl
      rw [this, two_add]; rfl
    rw [x] at c'
    grind
  rw [← hQ] at in1 in2
  obtain ⟨z, z1, z2, z3, z4, z5⟩ := nearest_in (s ^^ t) qq (e - f - mo - 1) in1 in2
  rw [hQ, u] at z4 z5
  rw [u]
  refine ⟨z, ?_, z2, z3, ?_, ?_⟩
  · unfold Format.div
    rw [c1, d1]
    unfold Datum.quotient
    dsimp only
    rw [if_neg n0, hmo, hD, hqq]
    show some (double.nearest (s ^^ t) qq (e - f - mo - 1)) = _
    rw [z1]
  · have := Rat.mul_le_mul_of_nonneg_right z4 (Rat.le_of_lt pos)
    grind
  · have := Rat.mul_le_mul_of_nonneg_right z5 (Rat.le_of_lt pos)
    grind
theorem int_near (n : Nat) (h : n ≠ 0) (h2 : n < 2 ^ 64) : ∃ z : Nat, double.write (.number false n 0) = double.word false z ∧ 2 ^ 52 ≤ z ∧ z < double.infRung ∧ rv z ≤ (n : Rat) + (n : Rat) * 2 ^ (-53 : Int) ∧ (n : Rat) - (n : Rat) * 2 ^ (-53 : Int) ≤ rv z := by
  have v : (n : Rat) * 2 ^ (0 : Int) = n := by rw [Rat.zpow_zero, Rat.mul_one]
  have n1 : ((1 : Nat) : Rat) ≤ n := Rat.natCast_le_natCast.mpr (by omega)
  have n2 : (n : Rat) < ((2 ^ 64 : Nat) : Rat) := Rat.natCast_lt_natCast.mpr h2
  have x1 : (2 : Rat) ^ (-1022 : Int) ≤ ((1 : Nat) : Rat) := by decide +kernel
  have x2 : ((2 ^ 64 : Nat) : Rat) < (2 : Rat) ^ (1023 : Int) := by decide +kernel
  obtain ⟨z, z1, z2, z3, z4, z5⟩ := nearest_in false n 0 (by rw [v]; exact Rat.le_trans x1 n1) (by rw [v]; exact Std.lt_trans n2 x2)
  rw [v] at z4 z5
  exact ⟨z, z1, z2, z3, z4, z5⟩
end Go.Proofs.YtjemobfhlfejlaaGreatDoor.Ie
namespace Go.Proofs.YtjemobfhlfejlaaGreatDoor.Ie
open Ieee
def tab : List Nat := [4607182418800017408,4621819117588971520,4636737291354636288,4652007308841189376,4666723172467343360,4681608360884174848,4696837146684686336,4711630319722168320,4726483295884279808,4741671816366391296,4756540486875873280,4771362005757984768,4786511204640096256,4801453603149578240,4816244402031689728,4831355200913801216,4846369599423283200,4861130398305394688,4876203697187506176,4891288408196988160,4906019910204099648,4921056587992461136,4936209963552724370,4950912855330343670,4965913770331839924,4981134201117475473,4995809153217856309,5010775143622804482,5026061058026967681,5040708725286295329,5055640609639927018,5070927765361438756]
def post : List Nat := [4607182418800017408,5085611494797045271,5564284217833028085,6043257259031049059,6521906365687930162,7000496887210966211,7479368607221621995,7958223736346011545,8436737289693151036,8915514139102383430]
def negt : List Nat := [4607182418800017408,4128101167230658355,3649340653511681853,3170840353250979498,2691949749288605597,2213095475689254516,1734519108376626298,1255832114822727210,776877706278891331,298220099847875929,2024]
def ftab : List Nat := [4607182418800017408,4621819117588971520,4636737291354636288,4652007308841189376,4666723172467343360,4681608360884174848,4696837146684686336,4711630319722168320,4726483295884279808,4741671816366391296,4756540486875873280,4771362005757984768,4786511204640096256,4801453603149578240,4816244402031689728,4831355200913801216,4846369599423283200]
def Near1 (r : Nat) (v : Rat) : Prop := 2 ^ 52 ≤ r ∧ r < 2047 * 2 ^ 52 ∧ rv r ≤ v + v * 2 ^ (-53 : Int) ∧ v - v * 2 ^ (-53 : Int) ≤ rv r
instance (r : Nat) (v : Rat) : Decidable (Near1 r v) := inferInstanceAs (Decidable (_ ∧ _ ∧ _ ∧ _))
end Go.Proofs.YtjemobfhlfejlaaGreatDoor.Ie
namespace Go.Proofs.YtjemobfhlfejlaaGreatDoor.Ie
open Ieee Go
theorem inf_is : double.infRung = 2047 * 2 ^ 52 := by decide +kernel
theorem sw_is : double.signWeight = 2 ^ 63 := by decide +kernel
theorem word_f (z : Nat) : double.word false z = z := rfl
theorem word_t (z : Nat) : double.word true z = 2 ^ 63 + z := by unfold Format.word; rw [if_pos rfl, sw_is]
structure Wd (x : Nat) (ng : Bool) (v : Rat) (c : Rat) : Prop where
  ex : ∃ z, x = double.word ng z ∧ 2 ^ 52 ≤ z ∧ z < 2047 * 2 ^ 52 ∧ rv z ≤ v + c * (v * 2 ^ (-53 : Int)) ∧ v - c * (v * 2 ^ (-53 : Int)) ≤ rv z
theorem fi_word {m : Nat} (m0 : m ≠ 0) (m1 : m < 2 ^ 64) : Wd (floatOfInt .f64 (m : Int)) false (m : Rat) 1 := by
  obtain ⟨z, h1, h2, h3, h4, h5⟩ := int_near m m0 m1
  have e : floatOfInt .f64 (m : Int) = double.write (.number false m 0) := by
    show double.write (.number (decide ((m : Int) < 0)) (m : Int).natAbs 0) = _
    rw [decide_eq_false (by omega), Int.natAbs_natCast]
  exact ⟨z, by rw [e, h1], h2, by rw [← inf_is]; exact h3, by rw [Rat.one_mul]; exact h4, by rw [Rat.one_mul]; exact h5⟩
theorem neg_word {z : Nat} (h : z < 2 ^ 63) : Op.negFloat .f64 (double.word false z) = double.word true z := by
  rw [word_f, word_t]
  show z ^^^ 2 ^ 63 = _
  have d1 : (z ^^^ 2 ^ 63) / 2 ^ 63 = 1 := by
    rw [Nat.xor_div_two_pow, Nat.div_eq_of_lt h]
    decide
  have d2 : (z ^^^ 2 ^ 63) % 2 ^ 63 = z := by
    rw [Nat.xor_mod_two_pow, Nat.mod_self, Nat.xor_zero, Nat.mod_eq_of_lt h]
  have := Nat.div_add_mod (z ^^^ 2 ^ 63) (2 ^ 63)
  omega
theorem Wd.neg {x : Nat} {v c : Rat} (h : Wd x false v c) : Wd (Op.negFloat .f64 x) true v c := by
  obtain ⟨z, h1, h2, h3, h4, h5⟩ := h.ex
  exact ⟨z, by rw [h1, neg_word (by omega)], h2, h3, h4, h5⟩
def fmul (x y : Nat) : Nat := (double.mul x y).getD 0
def fdiv (x y : Nat) : Nat := (double.div x y).getD 0
theorem tab_exact : ∀ i, i < 23 → 2 ^ 52 ≤ tab.getD i 0 ∧ tab.getD i 0 < 2047 * 2 ^ 52 ∧ rv (tab.getD i 0) = ((10 ^ i : Nat) : Rat) := by decide +kernel
theorem u53 : (2 : Rat) ^ (-53 : Int) = 1 / 9007199254740992 := by decide +kernel
theorem Wd.mul {x : Nat} {ng : Bool} {v c : Rat} (h : Wd x ng v c) {i : Nat} (hi : i < 23) (c0 : 0 ≤ c) (c1 : c ≤ 4) (v0 : 1 / 1000 ≤ v) (v1 : v ≤ 1000000000000000000000000000000000000000000000000000000000000) :
    double.mul x (tab.getD i 0) = some (fmul x (tab.getD i 0)) ∧ Wd (fmul x (tab.getD i 0)) ng (v * ((10 ^ i : Nat) : Rat)) (c + 11 / 10) := by
  obtain ⟨z, h1, h2, h3, h4, h5⟩ := h.ex
  obtain ⟨t1, t2, t3⟩ := tab_exact i hi
  have p1 : (1 : Rat) ≤ ((10 ^ i : Nat) : Rat) := by
    have : ((1 : Nat) : Rat) ≤ ((10 ^ i : Nat) : Rat) := Rat.natCast_le_natCast.mpr (Nat.pow_pos (by decide))
    exact this
  have p2 : ((10 ^ i : Nat) : Rat) ≤ 10000000000000000000000 := by
    have : ((10 ^ i : Nat) : Rat) ≤ ((10 ^ 22 : Nat) : Rat) := Rat.natCast_le_natCast.mpr (Nat.pow_le_pow_right (by decide) (by omega))
    have e : ((10 ^ 22 : Nat) : Rat) = 10000000000000000000000 := by decide +kernel
    rw [e] at this; exact this
  rw [u53] at h4 h5
  generalize hp : ((10 ^ i : Nat) : Rat) = p at *
  have vp : 0 < v := by grind
  have pp : 0 < p := by grind
  have A3 : rv z ≤ v * (1 + c * (1 / 9007199254740992)) := by grind
  have A4 : v * (1 - c * (1 / 9007199254740992)) ≤ rv z := by grind
  have z1 : rv z * p ≤ v * p * (1 + c * (1 / 9007199254740992)) := by
    have := Rat.mul_le_mul_of_nonneg_right A3 (Rat.le_of_lt pp); grind
  have z2 : v * p * (1 - c * (1 / 9007199254740992)) ≤ rv z * p := by
    have := Rat.mul_le_mul_of_nonneg_right A4 (Rat.le_of_lt pp); grind
  have w1 : v ≤ v * p := by have := Rat.mul_le_mul_of_nonneg_left p1 (Rat.le_of_lt vp); grind
  have w2 : v * p ≤ 1000000000000000000000000000000000000000000000000000000000000 * 10000000000000000000000 := by
    have a := Rat.mul_le_mul_of_nonneg_right v1 (Rat.le_of_lt pp)
    have b := Rat.mul_le_mul_of_nonneg_left p2 (show (0 : Rat) ≤ 1000000000000000000000000000000000000000000000000000000000000 by decide +kernel)
    grind
  generalize hw : v * p = W at *
  have wp : 0 < W := by grind
  have cw1 : W * (c * (1 / 9007199254740992)) ≤ W * (4 * (1 / 9007199254740992)) := Rat.mul_le_mul_of_nonneg_left (by grind) (Rat.le_of_lt wp)
  have cw0 : 0 ≤ W * (c * (1 / 9007199254740992)) := Rat.mul_nonneg (Rat.le_of_lt wp) (by grind)
  have lo : (2 : Rat) ^ (-1022 : Int) ≤ 1 / 10000 := by decide +kernel
  have hi2 : (20000000000000000000000000000000000000000000000000000000000000000000000000000000000 : Rat) < 2 ^ (1023 : Int) := by decide +kernel
  obtain ⟨y, y1, y2, y3, y4, y5⟩ := mul_near ng false z (tab.getD i 0) h2 (by rw [inf_is]; exact h3) t1 (by rw [inf_is]; exact t2) (by rw [t3]; grind) (by rw [t3]; grind)
  rw [Bool.xor_false] at y1
  rw [t3, u53] at y4 y5
  have e1 : double.mul x (tab.getD i 0) = some (double.word ng y) := by rw [h1]; exact y1
  have e2 : fmul x (tab.getD i 0) = double.word ng y := by unfold fmul; rw [e1]; rfl
  refine ⟨by rw [e2, e1], y, e2, y2, by rw [← inf_is]; exact y3, ?_, ?_⟩
  · rw [u53]; grind
  · rw [u53]; grind
theorem Wd.div {x : Nat} {ng : Bool} {v c : Rat} (h : Wd x ng v c) {i : Nat} (hi : i < 23) (c0 : 0 ≤ c) (c1 : c ≤ 4) (v0 : 1 / 1000 ≤ v) (v1 : v ≤ 1000000000000000000000000000000000000000000000000000000000000) :
    double.div x (tab.getD i 0) = some (fdiv x (tab.getD i 0)) ∧ Wd (fdiv x (tab.getD i 0)) ng (v / ((10 ^ i : Nat) : Rat)) (c + 2) := by
  obtain ⟨z, h1, h2, h3, h4, h5⟩ := h.ex
  obtain ⟨t1, t2, t3⟩ := tab_exact i hi
  have p1 : (1 : Rat) ≤ ((10 ^ i : Nat) : Rat) := by
    have : ((1 : Nat) : Rat) ≤ ((10 ^ i : Nat) : Rat) := Rat.natCast_le_natCast.mpr (Nat.pow_pos (by decide))
    exact this
  have p2 : ((10 ^ i : Nat) : Rat) ≤ 10000000000000000000000 := by
    have : ((10 ^ i : Nat) : Rat) ≤ ((10 ^ 22 : Nat) : Rat) := Rat.natCast_le_natCast.mpr (Nat.pow_le_pow_right (by decide) (by omega))
    have e : ((10 ^ 22 : Nat) : Rat) = 10000000000000000000000 := by decide +kernel
    rw [e] at this; exact this
  rw [u53] at h4 h5
  generalize hp : ((10 ^ i : Nat) : Rat) = p at *
  have vp : 0 < v := by grind
  have pp : 0 < p := by grind
  have A3 : rv z ≤ v * (1 + c * (1 / 9007199254740992)) := by grind
  have A4 : v * (1 - c * (1 / 9007199254740992)) ≤ rv z := by grind
  have cw1 : v * (c * (1 / 9007199254740992)) ≤ v * (4 * (1 / 9007199254740992)) := Rat.mul_le_mul_of_nonneg_left (by grind) (Rat.le_of_lt vp)
  have cw0 : 0 ≤ v * (c * (1 / 9007199254740992)) := Rat.mul_nonneg (Rat.le_of_lt vp) (by grind)
  have lo : (2 : Rat) ^ (-1021 : Int) * 10000000000000000000000 ≤ 1 / 10000 := by decide +kernel
  have lo0 : (0 : Rat) < 2 ^ (-1021 : Int) := two_pos _
  have hi2 : (2000000000000000000000000000000000000000000000000000000000000 : Rat) < 2 ^ (1022 : Int) := by decide +kernel
  have g1 : (2 : Rat) ^ (-1021 : Int) * p ≤ 2 ^ (-1021 : Int) * 10000000000000000000000 := Rat.mul_le_mul_of_nonneg_left p2 (Rat.le_of_lt lo0)
  have g2 : (2 : Rat) ^ (1022 : Int) ≤ 2 ^ (1022 : Int) * p := by
    have := Rat.mul_le_mul_of_nonneg_left p1 (Rat.le_of_lt (two_pos 1022)); grind
  obtain ⟨y, y1, y2, y3, y4, y5⟩ := div_near ng false z (tab.getD i 0) h2 (by rw [inf_is]; exact h3) t1 (by rw [inf_is]; exact t2) (by rw [t3]; grind) (by rw [t3]; grind)
  rw [Bool.xor_false] at y1
  rw [t3, u53] at y4 y5
  have e1 : double.div x (tab.getD i 0) = some (double.word ng y) := by rw [h1]; exact y1
  have e2 : fdiv x (tab.getD i 0) = double.word ng y := by unfold fdiv; rw [e1]; rfl
  have q1 : v / p * p = v := by rw [Rat.div_mul_cancel (by grind)]
  generalize hq : v / p = Q at *
  have r1 : rv y * p ≤ (Q + (c + 2) * (Q * (1 / 9007199254740992))) * p := by
    have e : (Q + (c + 2) * (Q * (1 / 9007199254740992))) * p = Q * p + (c + 2) * (Q * p * (1 / 9007199254740992)) := by grind
    rw [e, q1]; clear e q1 hq hp; grind
  have r2 : (Q - (c + 2) * (Q * (1 / 9007199254740992))) * p ≤ rv y * p := by
    have e : (Q - (c + 2) * (Q * (1 / 9007199254740992))) * p = Q * p - (c + 2) * (Q * p * (1 / 9007199254740992)) := by grind
    rw [e, q1]; clear e q1 hq hp; grind
  refine ⟨by rw [e2, e1], y, e2, y2, by rw [← inf_is]; exact y3, ?_, ?_⟩
  · rw [u53]; exact Rat.le_of_mul_le_mul_right r1 pp
  · rw [u53]; exact Rat.le_of_mul_le_mul_right r2 pp
end Go.Proofs.YtjemobfhlfejlaaGreatDoor.Ie
namespace Go.Proofs.YtjemobfhlfejlaaGreatDoor.Dc
def dv (f : Nat → Nat) (i : Nat) : Nat → Nat
  | 0 => 0
  | c + 1 => dv f i c * 10 + f (i + c)
theorem p10 (n : Nat) : 0 < 10 ^ n := Nat.pow_pos (by decide)
theorem dv_lt {f : Nat → Nat} {i c : Nat} (h : ∀ j, i ≤ j → j < i + c → f j ≤ 9) : dv f i c < 10 ^ c := by
  induction c with
  | zero => simp [dv]
  | succ c ih =>
    have h1 := ih (fun j a b => h j a (by omega))
    have h2 := h (i + c) (by omega) (by omega)
    rw [dv, Nat.pow_succ]; omega
theorem dv_front (f : Nat → Nat) (i c : Nat) : dv f i (c + 1) = f i * 10 ^ c + dv f (i + 1) c := by
  induction c with
  | zero => simp [dv]
  | succ c ih =>
    rw [dv, ih, dv, Nat.add_mul, Nat.pow_succ, Nat.mul_assoc, Nat.add_assoc, show i + 1 + c = i + (c + 1) by omega]
theorem dv_add (f : Nat → Nat) (i a b : Nat) : dv f i (a + b) = dv f i a * 10 ^ b + dv f (i + a) b := by
  induction b with
  | zero => simp [dv]
  | succ b ih =>
    rw [← Nat.add_assoc, dv, ih, dv, Nat.add_mul, Nat.pow_succ, Nat.mul_assoc, Nat.add_assoc, Nat.add_assoc i a b]
theorem dv_congr {f g : Nat → Nat} {i c : Nat} (h : ∀ j, i ≤ j → j < i + c → f j = g j) : dv f i c = dv g i c := by
  induction c with
  | zero => rfl
  | succ c ih => rw [dv, dv, ih (fun j a b => h j a (by omega)), h (i + c) (by omega) (by omega)]
theorem dv_ge {f : Nat → Nat} {i c : Nat} (h : 1 ≤ f i) : 10 ^ c ≤ dv f i (c + 1) := by
  rw [dv_front]
  have : 1 * 10 ^ c ≤ f i * 10 ^ c := Nat.mul_le_mul_right _ h
  omega
theorem dv_pre {f : Nat → Nat} {i n j : Nat} (h : ∀ k, i ≤ k → k < i + n → f k ≤ 9) (hj : j ≤ n) : dv f i j = dv f i n / 10 ^ (n - j) := by
  obtain ⟨b, rfl⟩ : ∃ b, n = j + b := ⟨n - j, by omega⟩
  have h2 := dv_lt (f := f) (i := i + j) (c := b) (fun k a b => h k (by omega) (by omega))
  rw [dv_add, show j + b - j = b by omega, Nat.add_comm, Nat.add_mul_div_right _ _ (p10 b), Nat.div_eq_of_lt h2, Nat.zero_add]
theorem dv_dig {f : Nat → Nat} {n j : Nat} (h : ∀ k, k < n → f k ≤ 9) (hj : j < n) : f j = dv f 0 n / 10 ^ (n - 1 - j) % 10 := by
  have h1 := dv_pre (f := f) (i := 0) (n := n) (j := j + 1) (fun k _ b => h k (by omega)) hj
  rw [dv, Nat.zero_add] at h1
  rw [show n - 1 - j = n - (j + 1) by omega, ← h1, Nat.add_comm, Nat.add_mul_mod_self_right, Nat.mod_eq_of_lt (by have := h j hj; omega)]
def dlen (N : Nat) : Nat := if N = 0 then 0 else dlen (N / 10) + 1
termination_by N
decreasing_by omega
theorem dlen_zero : dlen 0 = 0 := by rw [dlen, if_pos rfl]
theorem dlen_pos {N : Nat} (h : N ≠ 0) : dlen N = dlen (N / 10) + 1 := by rw [dlen, if_neg h]
theorem dlen_bd (N : Nat) : N < 10 ^ dlen N ∧ (N ≠ 0 → 10 ^ (dlen N - 1) ≤ N) := by
  induction N using Nat.strongRecOn with
  | _ N ih =>
    by_cases h : N = 0
    · subst h; rw [dlen_zero]; exact ⟨by decide, fun h => absurd rfl h⟩
    · obtain ⟨a, b⟩ := ih (N / 10) (by omega)
      rw [dlen_pos h, Nat.pow_succ]
      refine ⟨by omega, fun _ => ?_⟩
      rw [Nat.add_sub_cancel]
      by_cases h2 : N / 10 = 0
      · rw [h2, dlen_zero]; omega
      · have c := b h2
        have : dlen (N / 10) = (dlen (N / 10) - 1) + 1 := by rw [dlen_pos h2]; rfl
        rw [this, Nat.pow_succ]; omega
theorem dlen_hi (N : Nat) : N < 10 ^ dlen N := (dlen_bd N).1
theorem dlen_lo {N : Nat} (h : N ≠ 0) : 10 ^ (dlen N - 1) ≤ N := (dlen_bd N).2 h
theorem ten_lt {a b : Nat} (h : 10 ^ a < 10 ^ b) : a < b := (Nat.pow_lt_pow_iff_right (by decide)).mp h
theorem dlen_is {N n : Nat} (h0 : 1 ≤ n) (h1 : 10 ^ (n - 1) ≤ N) (h2 : N < 10 ^ n) : dlen N = n := by
  have hN : N ≠ 0 := by have := p10 (n - 1); omega
  have a := ten_lt (Nat.lt_of_le_of_lt (dlen_lo hN) h2)
  have b := ten_lt (Nat.lt_of_le_of_lt h1 (dlen_hi N))
  have c := dlen_pos hN
  omega
theorem dlen_mul {N : Nat} (h : N ≠ 0) (j : Nat) : dlen (N * 10 ^ j) = dlen N + j := by
  have c := dlen_pos h
  apply dlen_is (by omega)
  · rw [show dlen N + j - 1 = dlen N - 1 + j by omega, Nat.pow_add]; exact Nat.mul_le_mul_right _ (dlen_lo h)
  · rw [Nat.pow_add]; exact Nat.mul_lt_mul_of_pos_right (dlen_hi N) (p10 j)
def tz (N : Nat) : Nat := if N ≠ 0 ∧ N % 10 = 0 then tz (N / 10) + 1 else 0
termination_by N
decreasing_by omega
theorem tz_is {z : Nat} : ∀ {N M : Nat}, N = M * 10 ^ z → M % 10 ≠ 0 → tz N = z := by
  induction z with
  | zero =>
    intro N M h hM
    rw [Nat.pow_zero, Nat.mul_one] at h
    subst h
    rw [tz, if_neg (by omega)]
  | succ z ih =>
    intro N M h hM
    rw [Nat.pow_succ, ← Nat.mul_assoc] at h
    have hp : 0 < M * 10 ^ z := Nat.mul_pos (by omega) (p10 z)
    rw [tz, if_pos (by omega), ih (M := M) (by omega) hM]
theorem tz_ex (N : Nat) (h : N ≠ 0) : ∃ M, N = M * 10 ^ tz N ∧ M % 10 ≠ 0 := by
  induction N using Nat.strongRecOn with
  | _ N ih =>
    by_cases c : N % 10 = 0
    · obtain ⟨M, h1, h2⟩ := ih (N / 10) (by omega) (by omega)
      have e : tz N = tz (N / 10) + 1 := by rw [tz, if_pos ⟨h, c⟩]
      exact ⟨M, by rw [e, Nat.pow_succ, ← Nat.mul_assoc, ← h1]; omega, h2⟩
    · have e : tz N = 0 := by rw [tz, if_neg (by omega)]
      exact ⟨N, by rw [e]; simp, c⟩
structure S3 where
  n : Nat
  e : Int
  t : Bool
def cut (M : Nat) (F : Int) (tr : Bool) : S3 := ⟨M / 10 ^ (dlen M - 800) / 10 ^ tz (M / 10 ^ (dlen M - 800)), F + ((dlen M - 800 : Nat) : Int) + (tz (M / 10 ^ (dlen M - 800)) : Int), tr || decide (M % 10 ^ (dlen M - 800) ≠ 0)⟩
theorem cut_is {M N t z : Nat} (F : Int) (tr : Bool) (ht : t = dlen M - 800) (hN : N % 10 ≠ 0) (h : M / 10 ^ t = N * 10 ^ z) : cut M F tr = ⟨N, F + t + z, tr || decide (M % 10 ^ t ≠ 0)⟩ := by
  unfold cut
  rw [← ht, tz_is h hN, h, Nat.mul_div_cancel _ (p10 z)]
theorem S3.ext' {a b : S3} (h1 : a.n = b.n) (h2 : a.e = b.e) (h3 : a.t = b.t) : a = b := by cases a; cases b; simp_all
theorem cut_ex {M : Nat} (hM : M ≠ 0) (F : Int) (tr : Bool) : ∃ N z : Nat, N % 10 ≠ 0 ∧ M / 10 ^ (dlen M - 800) = N * 10 ^ z ∧ cut M F tr = ⟨N, F + ((dlen M - 800 : Nat) : Int) + z, tr || decide (M % 10 ^ (dlen M - 800) ≠ 0)⟩ := by
  have hl := dlen_lo hM
  have hp := dlen_pos hM
  have hQ : M / 10 ^ (dlen M - 800) ≠ 0 := by
    have : 10 ^ (dlen M - 800) ≤ M := Nat.le_trans (Nat.pow_le_pow_right (by decide) (by omega)) hl
    have := Nat.div_pos this (p10 _)
    omega
  obtain ⟨N, h1, h2⟩ := tz_ex _ hQ
  exact ⟨N, tz (M / 10 ^ (dlen M - 800)), h2, h1, cut_is F tr rfl h2 h1⟩
theorem cut_scale {M : Nat} (hM : M ≠ 0) (F : Int) (tr : Bool) (j : Nat) : cut (M * 10 ^ j) (F - j) tr = cut M F tr := by
  obtain ⟨N, z, h1, h2, h3⟩ := cut_ex hM F tr
  have hl := dlen_mul hM j
  rw [h3]
  by_cases c : dlen M ≤ 800
  · have e0 : dlen M - 800 = 0 := by omega
    rw [e0, Nat.pow_zero, Nat.div_one] at h2
    obtain ⟨t, ht⟩ : ∃ t, t = dlen M + j - 800 := ⟨_, rfl⟩
    obtain ⟨u, hu⟩ : ∃ u, j = t + u := ⟨j - t, by omega⟩
    have hd : M * 10 ^ j = N * 10 ^ (z + u) * 10 ^ t := by
      have e : z + j = z + u + t := by omega
      rw [h2, Nat.mul_assoc, Nat.mul_assoc, ← Nat.pow_add, ← Nat.pow_add, e]
    rw [cut_is (N := N) (t := t) (z := z + u) (F - j) tr (by rw [hl]; exact ht) h1 (by rw [hd, Nat.mul_div_cancel _ (p10 t)])]
    apply S3.ext'
    · rfl
    · show F - (j : Int) + (t : Int) + ((z + u : Nat) : Int) = F + ((dlen M - 800 : Nat) : Int) + (z : Int)
      omega
    · show (tr || decide (M * 10 ^ j % 10 ^ t ≠ 0)) = (tr || decide (M % 10 ^ (dlen M - 800) ≠ 0))
      rw [hd, Nat.mul_mod_left, e0, Nat.pow_zero, Nat.mod_one]
  · obtain ⟨t, ht⟩ : ∃ t, t = dlen M - 800 := ⟨_, rfl⟩
    rw [← ht] at h2 ⊢
    have e1 : M * 10 ^ j / 10 ^ (t + j) = N * 10 ^ z := by rw [Nat.pow_add, Nat.mul_div_mul_right _ _ (p10 j), h2]
    have e2 : M * 10 ^ j % 10 ^ (t + j) = M % 10 ^ t * 10 ^ j := by rw [Nat.pow_add, Nat.mul_mod_mul_right]
    rw [cut_is (N := N) (t := t + j) (z := z) (F - j) tr (by rw [hl]; omega) h1 e1]
    apply S3.ext'
    · rfl
    · show F - (j : Int) + ((t + j : Nat) : Int) + (z : Int) = F + (t : Int) + (z : Int)
      omega
    · show (tr || decide (M * 10 ^ j % 10 ^ (t + j) ≠ 0)) = (tr || decide (M % 10 ^ t ≠ 0))
      rw [e2]
      congr 1
      have := p10 j
      rw [decide_eq_decide]
      constructor
      · intro h h'; rw [h', Nat.zero_mul] at h; exact h rfl
      · intro h; exact Nat.mul_ne_zero h (by omega)
theorem cut_same {M A x y : Nat} (hM : M ≠ 0) (hA : A ≠ 0) (F G : Int) (tr : Bool) (h : A * 10 ^ y = M * 10 ^ x) (hf : G - y = F - x) : cut A G tr = cut M F tr := by
  rw [← cut_scale hA G tr y, ← cut_scale hM F tr x, h, hf]
end Go.Proofs.YtjemobfhlfejlaaGreatDoor.Dc
namespace Go.Proofs.YtjemobfhlfejlaaGreatDoor.Dc
def bt (s : ByteArray) (i : Nat) : Nat := if h : i < s.size then s[i].toNat else 0
theorem bt_is {s : ByteArray} {i : Nat} (h : i < s.size) : bt s i = s[i].toNat := by unfold bt; rw [dif_pos h]
def IsD (c : Nat) : Prop := 48 ≤ c ∧ c ≤ 57
structure Tok (s : ByteArray) (i0 i1 i2 j0 : Nat) (ng es : Bool) : Prop where
  sg : (ng = true ∧ i0 = 1 ∧ bt s 0 = 45) ∨ (ng = false ∧ i0 = 0)
  lt1 : i0 < i1
  dg1 : ∀ i, i0 ≤ i → i < i1 → IsD (bt s i)
  fr : i2 = i1 ∨ (bt s i1 = 46 ∧ i1 + 1 < i2)
  dg2 : ∀ i, i1 < i → i < i2 → IsD (bt s i)
  ex : (i2 = s.size ∧ j0 = i2) ∨ (i2 < s.size ∧ (bt s i2 = 101 ∨ bt s i2 = 69) ∧ j0 < s.size ∧ ((j0 = i2 + 1 ∧ es = false) ∨ (j0 = i2 + 2 ∧ bt s (i2 + 1) = 43 ∧ es = false) ∨ (j0 = i2 + 2 ∧ bt s (i2 + 1) = 45 ∧ es = true)))
  dg3 : ∀ i, j0 ≤ i → i < s.size → IsD (bt s i)
def mv (s : ByteArray) (i0 : Nat) : Nat → Nat
  | 0 => 0
  | c + 1 => if bt s (i0 + c) = 46 then mv s i0 c else mv s i0 c * 10 + (bt s (i0 + c) - 48)
def frl (i1 i2 : Nat) : Nat := i2 - i1 - 1
def exv (s : ByteArray) (j0 : Nat) : Nat := dv (fun k => bt s k - 48) j0 (s.size - j0)
def tkP (s : ByteArray) (i1 i2 j0 : Nat) (es : Bool) : Int := (if es then -(exv s j0 : Int) else (exv s j0 : Int)) - (frl i1 i2 : Int)
def tkM (s : ByteArray) (i0 i2 : Nat) : Nat := mv s i0 (i2 - i0)
section
variable {s : ByteArray} {i0 i1 i2 j0 : Nat} {ng es : Bool}
theorem Tok.le2 (h : Tok s i0 i1 i2 j0 ng es) : i1 ≤ i2 := by rcases h.fr with c | c <;> omega
theorem Tok.leS (h : Tok s i0 i1 i2 j0 ng es) : i2 ≤ s.size := by rcases h.ex with c | c <;> omega
theorem Tok.i0le (h : Tok s i0 i1 i2 j0 ng es) : i0 ≤ 1 := by rcases h.sg with c | c <;> omega
theorem Tok.le0 (h : Tok s i0 i1 i2 j0 ng es) : i0 < s.size := by have := h.le2; have := h.leS; have := h.lt1; omega
theorem Tok.at_ (h : Tok s i0 i1 i2 j0 ng es) {i : Nat} (h0 : i0 ≤ i) (h2 : i < i2) : IsD (bt s i) ∨ (i = i1 ∧ bt s i = 46) := by
  rcases Nat.lt_trichotomy i i1 with c | c | c
  · exact .inl (h.dg1 i h0 c)
  · rcases h.fr with d | d
    · omega
    · exact .inr ⟨c, by rw [c]; exact d.1⟩
  · exact .inl (h.dg2 i c h2)
theorem mv_dig {i : Nat} (h0 : i0 ≤ i) (hd : IsD (bt s i)) : mv s i0 (i + 1 - i0) = mv s i0 (i - i0) * 10 + (bt s i - 48) := by
  rw [show i + 1 - i0 = (i - i0) + 1 by omega, mv, show i0 + (i - i0) = i by omega, if_neg (by have := hd.1; have := hd.2; omega)]
theorem mv_dot {i : Nat} (h0 : i0 ≤ i) (hd : bt s i = 46) : mv s i0 (i + 1 - i0) = mv s i0 (i - i0) := by
  rw [show i + 1 - i0 = (i - i0) + 1 by omega, mv, show i0 + (i - i0) = i by omega, if_pos hd]
theorem mv_lt (c : Nat) (h : ∀ k, k < c → bt s (i0 + k) ≤ 57) : mv s i0 c < 10 ^ c := by
  induction c with
  | zero => simp [mv]
  | succ c ih =>
    have h1 := ih (fun k hk => h k (by omega))
    have h2 := h c (by omega)
    rw [mv, Nat.pow_succ]
    split <;> omega
end
structure Rd (A nd nm m : Nat) (tr : Bool) : Prop where
  nd_ : nd = dlen A
  nm_ : nm = min nd 19
  m_ : m = A / 10 ^ (nd - 19)
  tr_ : tr = decide (A % 10 ^ (nd - 19) ≠ 0)
theorem Rd.zero : Rd 0 0 0 0 false := ⟨dlen_zero.symm, rfl, rfl, rfl⟩
theorem dlen_step {A c : Nat} (hc : c ≤ 9) (h : A ≠ 0 ∨ c ≠ 0) : dlen (A * 10 + c) = dlen A + 1 := by
  rw [dlen_pos (by omega), show (A * 10 + c) / 10 = A by omega]
theorem Rd.pad {A nd nm m c : Nat} {tr : Bool} (h : Rd A nd nm m tr) (hn : nd = 0) (hc : c = 0) : A * 10 + c = A := by
  have h1 := h.nd_
  by_cases hA : A = 0
  · omega
  · have := dlen_pos hA; omega
theorem Rd.nz {A nd nm m c : Nat} {tr : Bool} (h : Rd A nd nm m tr) (hn : ¬ (nd = 0 ∧ c = 0)) : A ≠ 0 ∨ c ≠ 0 := by
  have h1 := h.nd_
  by_cases hA : A = 0
  · subst hA; rw [dlen_zero] at h1; omega
  · exact .inl hA
theorem Rd.put {A nd nm m c : Nat} {tr : Bool} (h : Rd A nd nm m tr) (hc : c ≤ 9) (hz : ¬ (nd = 0 ∧ c = 0)) (hn : nm < 19) : Rd (A * 10 + c) (nd + 1) (nm + 1) (m * 10 + c) tr := by
  obtain ⟨h1, h2, h3, h4⟩ := h
  have e := dlen_step hc (Rd.nz ⟨h1, h2, h3, h4⟩ hz)
  have z1 : nd - 19 = 0 := by omega
  have z2 : nd + 1 - 19 = 0 := by omega
  rw [z1, Nat.pow_zero, Nat.div_one] at h3
  rw [z1, Nat.pow_zero, Nat.mod_one] at h4
  exact ⟨by rw [e, h1], by omega, by rw [z2, Nat.pow_zero, Nat.div_one, h3], by rw [z2, Nat.pow_zero, Nat.mod_one]; exact h4⟩
theorem Rd.drop {A nd nm m c : Nat} {tr : Bool} (h : Rd A nd nm m tr) (hc : c ≤ 9) (hz : ¬ (nd = 0 ∧ c = 0)) (hn : ¬ nm < 19) : Rd (A * 10 + c) (nd + 1) nm m (tr || decide (c ≠ 0)) := by
  obtain ⟨h1, h2, h3, h4⟩ := h
  have e := dlen_step hc (Rd.nz ⟨h1, h2, h3, h4⟩ hz)
  have z2 : nd + 1 - 19 = (nd - 19) + 1 := by omega
  have pg := p10 (nd - 19)
  refine ⟨by rw [e, h1], by omega, ?_, ?_⟩
  · rw [z2, Nat.pow_succ, Nat.mul_comm (10 ^ (nd - 19)), ← Nat.div_div_eq_div_mul, show (A * 10 + c) / 10 = A by omega, h3]
  · have q : (A * 10 + c) % 10 ^ (nd + 1 - 19) = A % 10 ^ (nd - 19) * 10 + c := by
      rw [z2, Nat.pow_succ, Nat.mul_comm (10 ^ (nd - 19)), Nat.mod_mul, show (A * 10 + c) / 10 = A by omega]
      omega
    rw [q, h4, Bool.eq_iff_iff]
    simp only [Bool.or_eq_true, decide_eq_true_eq]
    omega
theorem Rd.m18 {A nd nm m : Nat} {tr : Bool} (h : Rd A nd nm m tr) (hn : nm < 19) : m < 10 ^ 18 := by
  obtain ⟨h1, h2, h3, h4⟩ := h
  have z1 : nd - 19 = 0 := by omega
  rw [z1, Nat.pow_zero, Nat.div_one] at h3
  have := dlen_hi A
  rw [← h1] at this
  rw [h3]
  exact Nat.lt_of_lt_of_le this (Nat.pow_le_pow_right (by decide) (by omega))
theorem Rd.m19 {A nd nm m : Nat} {tr : Bool} (h : Rd A nd nm m tr) : m < 10 ^ 19 := by
  obtain ⟨h1, h2, h3, h4⟩ := h
  have hh := dlen_hi A
  rw [← h1] at hh
  rw [h3, Nat.div_lt_iff_lt_mul (p10 _), ← Nat.pow_add]
  exact Nat.lt_of_lt_of_le hh (Nat.pow_le_pow_right (by decide) (by omega))
end Go.Proofs.YtjemobfhlfejlaaGreatDoor.Dc
