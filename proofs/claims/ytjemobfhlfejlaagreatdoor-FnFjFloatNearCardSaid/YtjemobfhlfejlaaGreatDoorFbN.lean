/- Walks and plain laws on the way to FnFjFloatNear. No condition but what each lemma states. -/
import Derived.Test.YtjemobfhlfejlaaGreatDoorFbJ
import Derived.Test.YtjemobfhlfejlaaGreatDoorFbM
import Derived.Test.YtjemobfhlfejlaaGreatDoorFbK
set_option linter.unusedVariables false
set_option linter.unusedSimpArgs false
namespace Go.Proofs.YtjemobfhlfejlaaGreatDoor.Dc
open Ie (rv rv_mk two_pos two_add two_nat two_lt Wd u53 inf_is)
def sv (S : S3) : Rat := (S.n : Rat) * 10 ^ S.e
def dl : Rat := 10 ^ (-790 : Int)
theorem dl_pos : 0 < dl := ten_pos _
theorem nat_pos {n : Nat} (h : n ≠ 0) : (0 : Rat) < (n : Rat) := by
  have : ((0 : Nat) : Rat) < (n : Rat) := cast_lt (by omega)
  exact this
theorem k799 {q : Nat} (h : q = 799) : (1 : Rat) ≤ dl * ((10 ^ q : Nat) : Rat) := by
  rw [ten_nat]
  unfold dl
  rw [← ten_add]
  subst h
  decide +kernel
theorem cut_near {M : Nat} (hM : M ≠ 0) (F : Int) (tr : Bool) : (cut M F tr).n ≠ 0 ∧ sv (cut M F tr) ≤ (M : Rat) * 10 ^ F ∧ (M : Rat) * 10 ^ F ≤ sv (cut M F tr) + dl * ((M : Rat) * 10 ^ F) := by
  obtain ⟨N, z, h1, h2, h3⟩ := cut_ex hM F tr
  rw [h3]
  obtain ⟨t, ht⟩ : ∃ t, t = dlen M - 800 := ⟨_, rfl⟩
  rw [← ht] at h2 ⊢
  have hv : sv ⟨N, F + (t : Int) + (z : Int), tr || decide (M % 10 ^ t ≠ 0)⟩ = ((M / 10 ^ t : Nat) : Rat) * 10 ^ (F + t) := by
    show (N : Rat) * 10 ^ (F + (t : Int) + (z : Int)) = _
    rw [h2, mulR, ten_nat, ten_add (F + t) z]
    grind
  refine ⟨by show N ≠ 0; omega, ?_, ?_⟩
  · rw [hv, Int.add_comm, ten_add, ← ten_nat, ← Rat.mul_assoc, ← mulR]
    exact Rat.mul_le_mul_of_nonneg_right (cast_le (Nat.div_mul_le_self M _)) (Rat.le_of_lt (ten_pos F))
  · rw [hv]
    have hm := Nat.div_add_mod M (10 ^ t)
    have e1 : (M : Rat) * 10 ^ F = ((M / 10 ^ t : Nat) : Rat) * 10 ^ (F + t) + ((M % 10 ^ t : Nat) : Rat) * 10 ^ F := by
      conv => lhs; rw [← hm]
      rw [natR, mulR, ten_nat, ten_add]
      clear hm hv ht h1 h2 h3
      grind
    have e2 : ((M % 10 ^ t : Nat) : Rat) ≤ dl * (M : Rat) := by
      have hml := Nat.mod_lt M (p10 t)
      rcases Nat.eq_zero_or_pos t with c | c
      · have : M % 10 ^ t = 0 := by rw [c]; omega
        rw [this]
        have := Rat.mul_nonneg (Rat.le_of_lt dl_pos) (Rat.le_of_lt (nat_pos hM))
        exact this
      · have hl := dlen_lo hM
        obtain ⟨q, hq⟩ : ∃ q, q = 799 := ⟨_, rfl⟩
        have hd : dlen M - 1 = q + t := by omega
        rw [hd, Nat.pow_add] at hl
        have a := cast_le hl
        rw [mulR] at a
        have b := cast_le (Nat.le_of_lt hml)
        have c2 := Rat.mul_le_mul_of_nonneg_left a (Rat.le_of_lt dl_pos)
        have k2 := Rat.mul_le_mul_of_nonneg_right (k799 hq) (show (0 : Rat) ≤ ((10 ^ t : Nat) : Rat) from Rat.le_of_lt (nat_pos (by have := p10 t; omega)))
        rw [Rat.one_mul, Rat.mul_assoc] at k2
        exact Rat.le_trans b (Rat.le_trans k2 c2)
    have e3 := Rat.mul_le_mul_of_nonneg_right e2 (Rat.le_of_lt (ten_pos F))
    rw [Rat.mul_assoc] at e3
    clear e2 hm hv ht h1 h2 h3
    rw [e1] at e3 ⊢
    clear e1
    exact Rat.add_le_add_left.mpr e3
def tv (t : S3 × Int) : Rat := sv t.1 * 2 ^ t.2
theorem five_two (k : Nat) : ((5 ^ k : Nat) : Rat) * 2 ^ (k : Int) = 10 ^ (k : Int) := by
  rw [← ten_nat, ← two_nat, ← mulR]
  congr 1
  rw [← Nat.mul_pow]
theorem f1_near {t : S3 × Int} (h : t.1.n ≠ 0) : (f1 t).1.n ≠ 0 ∧ tv (f1 t) ≤ tv t ∧ tv t ≤ tv (f1 t) + dl * tv t := by
  unfold f1
  generalize powt (dpS t.1).toNat = k
  have hM : t.1.n * 5 ^ k ≠ 0 := Nat.mul_ne_zero h (by have := Nat.pow_pos (n := k) (show 0 < 5 by decide); omega)
  obtain ⟨a, b, c⟩ := cut_near hM (t.1.e - k) t.1.t
  refine ⟨a, ?_⟩
  show sv (cut (t.1.n * 5 ^ k) (t.1.e - k) t.1.t) * 2 ^ (t.2 + (k : Int)) ≤ tv t ∧ tv t ≤ sv (cut (t.1.n * 5 ^ k) (t.1.e - k) t.1.t) * 2 ^ (t.2 + (k : Int)) + dl * tv t
  have e : ((t.1.n * 5 ^ k : Nat) : Rat) * 10 ^ (t.1.e - k) * 2 ^ (t.2 + (k : Int)) = tv t := by
    unfold tv sv
    rw [mulR, two_add, show t.1.e - (k : Int) = t.1.e + -(k : Int) by omega, ten_add]
    have f := five_two k
    have g := ten_neg (k : Int)
    generalize ((5 ^ k : Nat) : Rat) = A at *
    generalize (2 : Rat) ^ (k : Int) = B at *
    generalize (10 : Rat) ^ (k : Int) = C at *
    generalize (10 : Rat) ^ (-(k : Int)) = D at *
    have : (t.1.n : Rat) * A * (10 ^ t.1.e * D) * (2 ^ t.2 * B) = (t.1.n : Rat) * 10 ^ t.1.e * 2 ^ t.2 * (A * B * D) := by grind
    rw [this, f, g, Rat.mul_one]
  have tp := Rat.le_of_lt (two_pos (t.2 + (k : Int)))
  have g1 := Rat.mul_le_mul_of_nonneg_right b tp
  have g2 := Rat.mul_le_mul_of_nonneg_right c tp
  rw [e] at g1
  rw [Rat.add_mul, Rat.mul_assoc dl, e] at g2
  exact ⟨g1, g2⟩
theorem f2_near {t : S3 × Int} (h : t.1.n ≠ 0) : (f2 t).1.n ≠ 0 ∧ tv (f2 t) ≤ tv t ∧ tv t ≤ tv (f2 t) + dl * tv t ∧ sv (f2 t).1 ≤ sv t.1 * 2 ^ (powt (-dpS t.1).toNat : Int) := by
  unfold f2
  generalize powt (-dpS t.1).toNat = k
  have hM : t.1.n * 2 ^ k ≠ 0 := Nat.mul_ne_zero h (by have := Nat.pow_pos (n := k) (show 0 < 2 by decide); omega)
  obtain ⟨a, b, c⟩ := cut_near hM t.1.e t.1.t
  refine ⟨a, ?_⟩
  show sv (cut (t.1.n * 2 ^ k) t.1.e t.1.t) * 2 ^ (t.2 - (k : Int)) ≤ tv t ∧ tv t ≤ sv (cut (t.1.n * 2 ^ k) t.1.e t.1.t) * 2 ^ (t.2 - (k : Int)) + dl * tv t ∧ sv (cut (t.1.n * 2 ^ k) t.1.e t.1.t) ≤ sv t.1 * 2 ^ (k : Int)
  have e0 : ((t.1.n * 2 ^ k : Nat) : Rat) * 10 ^ t.1.e = sv t.1 * 2 ^ (k : Int) := by
    unfold sv
    rw [mulR, two_nat]; grind
  have e : ((t.1.n * 2 ^ k : Nat) : Rat) * 10 ^ t.1.e * 2 ^ (t.2 - (k : Int)) = tv t := by
    rw [e0]
    unfold tv
    rw [Rat.mul_assoc, ← two_add, show (k : Int) + (t.2 - (k : Int)) = t.2 by omega]
  have tp := Rat.le_of_lt (two_pos (t.2 - (k : Int)))
  have g1 := Rat.mul_le_mul_of_nonneg_right b tp
  have g2 := Rat.mul_le_mul_of_nonneg_right c tp
  rw [e] at g1
  rw [Rat.add_mul, Rat.mul_assoc dl, e] at g2
  rw [e0] at b
  exact ⟨g1, g2, b⟩
theorem it_near {P : S3 × Int → Prop} {f : S3 × Int → S3 × Int} {s t : S3 × Int} {j : Nat} (hf : ∀ t : S3 × Int, t.1.n ≠ 0 → (f t).1.n ≠ 0 ∧ tv (f t) ≤ tv t ∧ tv t ≤ tv (f t) + dl * tv t) (hs : s.1.n ≠ 0) (h : Rch P f s t j) :
    t.1.n ≠ 0 ∧ tv t ≤ tv s ∧ tv s ≤ tv t + (j : Rat) * (dl * tv s) := by
  have key : ∀ j, (it f s j).1.n ≠ 0 ∧ tv (it f s j) ≤ tv s ∧ tv s ≤ tv (it f s j) + (j : Rat) * (dl * tv s) := by
    intro j
    induction j with
    | zero => exact ⟨hs, Rat.le_refl, by show tv s ≤ tv s + ((0 : Nat) : Rat) * _; have : ((0 : Nat) : Rat) = 0 := rfl; rw [this]; grind⟩
    | succ j ih =>
      obtain ⟨a, b, c⟩ := ih
      obtain ⟨d, e, g⟩ := hf _ a
      refine ⟨d, Rat.le_trans e b, ?_⟩
      have k := Rat.mul_le_mul_of_nonneg_left b (Rat.le_of_lt dl_pos)
      rw [natR]
      have o : ((1 : Nat) : Rat) = 1 := rfl
      rw [o]
      show tv s ≤ tv (f (it f s j)) + ((j : Rat) + 1) * (dl * tv s)
      grind
  rw [h.is]
  exact key j
theorem dp_size {S : S3} (h : S.n ≠ 0) : (10 : Rat) ^ (dpS S - 1) ≤ sv S ∧ sv S < 10 ^ dpS S := by
  have lo := cast_le (dlen_lo h)
  have hi := cast_lt (dlen_hi S.n)
  rw [ten_nat] at lo hi
  have hp := dlen_pos h
  unfold sv dpS
  have t := ten_pos S.e
  constructor
  · have := Rat.mul_le_mul_of_nonneg_right lo (Rat.le_of_lt t)
    rw [← ten_add, show ((dlen S.n - 1 : Nat) : Int) + S.e = S.e + (dlen S.n : Int) - 1 by omega] at this
    exact this
  · have := Rat.mul_lt_mul_of_pos_right hi t
    rw [← ten_add, Int.add_comm] at this
    exact this
theorem powt_ten : ∀ j : Fin 10, (2 : Rat) ^ (powt j.val : Int) ≤ if j.val = 0 then 2 else 10 ^ (j.val : Int) := by decide +kernel
theorem f2_one {t : S3 × Int} (h : t.1.n ≠ 0) (h1 : sv t.1 < 1) (hp : P2 t) : sv (f2 t).1 < 1 := by
  obtain ⟨_, _, _, a⟩ := f2_near h
  obtain ⟨b, c⟩ := dp_size h
  have sp : 0 < sv t.1 := Rat.mul_pos (nat_pos h) (ten_pos _)
  rcases hp with hp | ⟨hp, hl⟩
  · obtain ⟨j, hj⟩ : ∃ j : Nat, -dpS t.1 = (j : Int) := ⟨(-dpS t.1).toNat, by omega⟩
    have ej : (-dpS t.1).toNat = j := by omega
    rw [ej] at a
    have k : (2 : Rat) ^ (powt j : Int) ≤ 10 ^ (j : Int) := by
      by_cases c9 : 9 ≤ j
      · rw [powt_big c9]
        have k9 : (2 : Rat) ^ ((27 : Nat) : Int) ≤ 10 ^ ((9 : Nat) : Int) := by decide +kernel
        have : (10 : Rat) ^ ((9 : Nat) : Int) ≤ 10 ^ (j : Int) := by
          rw [← ten_nat, ← ten_nat]; exact cast_le (Nat.pow_le_pow_right (by decide) c9)
        exact Rat.le_trans k9 this
      · have := powt_ten ⟨j, by omega⟩
        rw [if_neg (by show ¬ j = 0; omega)] at this
        exact this
    have d := Rat.mul_lt_mul_of_pos_right c (ten_pos (j : Int))
    rw [← ten_add, show dpS t.1 + (j : Int) = 0 by omega, Rat.zpow_zero] at d
    have e := Rat.mul_le_mul_of_nonneg_left k (Rat.le_of_lt sp)
    exact Std.lt_of_le_of_lt (Rat.le_trans a e) d
  · rw [hp] at a
    have ej : (-(0 : Int)).toNat = 0 := rfl
    rw [ej] at a
    have k : (2 : Rat) ^ (powt 0 : Int) = 2 := by decide +kernel
    rw [k] at a
    have lp := dlen_pos h
    have ld : t.1.n < 5 * 10 ^ (dlen t.1.n - 1) := by
      have : t.1.n / 10 ^ (dlen t.1.n - 1) < 5 := hl
      exact (Nat.div_lt_iff_lt_mul (p10 _)).mp this
    have ld2 := cast_lt ld
    rw [mulR, ten_nat] at ld2
    have g := Rat.mul_lt_mul_of_pos_right ld2 (ten_pos t.1.e)
    have e5 : ((5 : Nat) : Rat) = 5 := rfl
    have eT : (10 : Rat) ^ (((dlen t.1.n - 1 : Nat)) : Int) * 10 ^ t.1.e = 1 / 10 := by
      rw [← ten_add]
      have : ((dlen t.1.n - 1 : Nat) : Int) + t.1.e = -1 := by unfold dpS at hp; omega
      rw [this]; decide +kernel
    rw [e5, Rat.mul_assoc, eT] at g
    have : sv t.1 < 1 / 2 := by unfold sv; grind
    grind
theorem run_one {s t : S3 × Int} {j : Nat} (hs : s.1.n ≠ 0) (h1 : sv s.1 < 1) (h : Rch P2 f2 s t j) : sv t.1 < 1 := by
  have key : ∀ i, i ≤ j → (it f2 s i).1.n ≠ 0 ∧ sv (it f2 s i).1 < 1 := by
    intro i
    induction i with
    | zero => exact fun _ => ⟨hs, h1⟩
    | succ i ih =>
      intro hi
      obtain ⟨a, b⟩ := ih (by omega)
      exact ⟨(f2_near a).1, f2_one a b (h.run i (by omega))⟩
  rw [h.is]
  exact (key j (Nat.le_refl _)).2
theorem run_near {S : S3} {t : S3 × Int} (hS : S.n ≠ 0) (h : RunTo S t) : t.1.n ≠ 0 ∧ sv t.1 < 1 ∧ 1 / 2 ≤ sv t.1 ∧ tv t ≤ sv S ∧ sv S ≤ tv t + 40000 * (dl * sv S) := by
  obtain ⟨t1, j1, j2, a1, a2, a3, b1, b2, b3⟩ := h
  obtain ⟨c1, c2, c3⟩ := it_near (s := (S, 0)) (fun t h => f1_near h) hS a1
  obtain ⟨d1, d2, d3⟩ := it_near (fun t h => ⟨(f2_near h).1, (f2_near h).2.1, (f2_near h).2.2.1⟩) c1 b1
  have e0 : tv (S, 0) = sv S := by show sv S * 2 ^ (0 : Int) = sv S; rw [Rat.zpow_zero, Rat.mul_one]
  rw [e0] at c2 c3
  have lt1 : sv t1.1 < 1 := by
    obtain ⟨x, y⟩ := dp_size c1
    have hp : dpS t1.1 ≤ 0 := Int.not_lt.mp a2
    rcases Int.lt_or_eq_of_le hp with q | q
    · have : (10 : Rat) ^ dpS t1.1 ≤ 1 := by
        apply Classical.byContradiction
        intro c
        have c' := Rat.not_le.mp c
        have e : (10 : Rat) ^ (0 : Int) = 1 := Rat.zpow_zero _
        rw [← e] at c'
        have := ten_lt' c'
        omega
      exact Std.lt_of_lt_of_le y this
    · rw [q, Rat.zpow_zero] at y; exact y
  have lt2 := run_one c1 lt1 b1
  refine ⟨d1, lt2, ?_, Rat.le_trans d2 c2, ?_⟩
  · obtain ⟨x, y⟩ := dp_size d1
    have hp : dpS t.1 ≤ 0 := by
      have e : (10 : Rat) ^ (0 : Int) = 1 := Rat.zpow_zero _
      have := ten_lt' (Std.lt_of_le_of_lt x (by rw [e]; exact lt2))
      omega
    have hp0 : dpS t.1 = 0 := by
      apply Classical.byContradiction
      intro c
      exact b2 (.inl (by omega))
    have hl : 5 ≤ ldS t.1 := by
      apply Classical.byContradiction
      intro c
      exact b2 (.inr ⟨hp0, by omega⟩)
    have lp := dlen_pos d1
    have ld : 5 * 10 ^ (dlen t.1.n - 1) ≤ t.1.n := (Nat.le_div_iff_mul_le (p10 _)).mp hl
    have ld2 := cast_le ld
    rw [mulR, ten_nat] at ld2
    have g := Rat.mul_le_mul_of_nonneg_right ld2 (Rat.le_of_lt (ten_pos t.1.e))
    have e5 : ((5 : Nat) : Rat) = 5 := rfl
    have eT : (10 : Rat) ^ (((dlen t.1.n - 1 : Nat)) : Int) * 10 ^ t.1.e = 1 / 10 := by
      rw [← ten_add]
      have : ((dlen t.1.n - 1 : Nat) : Int) + t.1.e = -1 := by unfold dpS at hp0; omega
      rw [this]; decide +kernel
    rw [e5, Rat.mul_assoc, eT] at g
    unfold sv; grind
  · have k1 := cast_le a3
    have k2 := cast_le b3
    have e2 : ((20000 : Nat) : Rat) = 20000 := rfl
    rw [e2] at k1 k2
    have sp : 0 ≤ sv S := Rat.mul_nonneg (Rat.le_of_lt (nat_pos hS)) (Rat.le_of_lt (ten_pos _))
    have w := Rat.mul_nonneg (Rat.le_of_lt dl_pos) sp
    have m1 := Rat.mul_le_mul_of_nonneg_right k1 w
    have w2 : dl * tv t1 ≤ dl * sv S := Rat.mul_le_mul_of_nonneg_left c2 (Rat.le_of_lt dl_pos)
    have m2 := Rat.mul_le_mul_of_nonneg_left w2 (show (0 : Rat) ≤ (j2 : Rat) by have : ((0 : Nat) : Rat) ≤ (j2 : Rat) := cast_le (Nat.zero_le _); exact this)
    have m3 := Rat.mul_le_mul_of_nonneg_right k2 w
    grind
end Go.Proofs.YtjemobfhlfejlaaGreatDoor.Dc
namespace Go.Proofs.YtjemobfhlfejlaaGreatDoor.Dc
open Ie (rv rv_mk two_pos two_add two_nat two_lt Wd u53 inf_is)
theorem cut_ge {M K : Nat} {F : Int} (hM : M ≠ 0) (tr : Bool) (hK : (K : Rat) ≤ (M : Rat) * 10 ^ F) (hF : 800 < dlen M → F + ((dlen M - 800 : Nat) : Int) ≤ 0) : (K : Rat) ≤ sv (cut M F tr) := by
  obtain ⟨N, z, h1, h2, h3⟩ := cut_ex hM F tr
  rw [h3]
  obtain ⟨t, ht⟩ : ∃ t, t = dlen M - 800 := ⟨_, rfl⟩
  rw [← ht] at h2 hF ⊢
  have hv : sv ⟨N, F + (t : Int) + (z : Int), tr || decide (M % 10 ^ t ≠ 0)⟩ = ((M / 10 ^ t : Nat) : Rat) * 10 ^ (F + t) := by
    show (N : Rat) * 10 ^ (F + (t : Int) + (z : Int)) = _
    rw [h2, mulR, ten_nat, ten_add (F + t) z]
    grind
  rw [hv]
  rcases Nat.eq_zero_or_pos t with c | c
  · rw [c, Nat.pow_zero, Nat.div_one]
    have : F + ((0 : Nat) : Int) = F := by omega
    rw [this]; exact hK
  · have hg := hF (by omega)
    obtain ⟨g, hg2⟩ : ∃ g : Nat, -(F + (t : Int)) = (g : Int) := ⟨(-(F + (t : Int))).toNat, by omega⟩
    have a := Rat.mul_le_mul_of_nonneg_right hK (Rat.le_of_lt (ten_pos (((g + t : Nat)) : Int)))
    rw [Rat.mul_assoc, ← ten_add, show F + ((g + t : Nat) : Int) = 0 by omega, Rat.zpow_zero, Rat.mul_one, ← ten_nat, ← mulR] at a
    have b : K * 10 ^ (g + t) ≤ M := Rat.natCast_le_natCast.mp a
    rw [Nat.pow_add, ← Nat.mul_assoc] at b
    have d := (Nat.le_div_iff_mul_le (p10 t)).mpr b
    have e := Rat.mul_le_mul_of_nonneg_right (cast_le d) (Rat.le_of_lt (ten_pos (F + t)))
    rw [mulR, ten_nat, Rat.mul_assoc, ← ten_add, show (g : Int) + (F + (t : Int)) = 0 by omega, Rat.zpow_zero, Rat.mul_one] at e
    exact e
theorem ip_near (S : S3) : (ipS S : Rat) ≤ sv S ∧ sv S < (ipS S : Rat) + 1 := by
  unfold ipS sv
  by_cases c : 0 ≤ S.e
  · rw [if_pos c]
    obtain ⟨k, hk⟩ : ∃ k : Nat, S.e = (k : Int) := ⟨S.e.toNat, by omega⟩
    rw [hk, Int.toNat_natCast, mulR, ten_nat]
    constructor
    · exact Rat.le_refl
    · grind
  · rw [if_neg c]
    obtain ⟨k, hk⟩ : ∃ k : Nat, -S.e = (k : Int) := ⟨(-S.e).toNat, by omega⟩
    have e : (-S.e).toNat = k := by omega
    rw [e]
    have hk2 : S.e = -(k : Int) := by omega
    rw [hk2]
    have q := ten_neg (k : Int)
    have t := ten_pos (-(k : Int))
    have a := cast_le (Nat.div_mul_le_self S.n (10 ^ k))
    have b := cast_lt (Nat.lt_div_mul_add (a := S.n) (p10 k))
    rw [mulR, ten_nat] at a
    rw [natR, mulR, ten_nat] at b
    have a' := Rat.mul_le_mul_of_nonneg_right a (Rat.le_of_lt t)
    have b' := Rat.mul_lt_mul_of_pos_right b t
    rw [Rat.mul_assoc, q, Rat.mul_one] at a'
    rw [Rat.add_mul, Rat.mul_assoc, q, Rat.mul_one] at b'
    exact ⟨a', b'⟩
theorem rint_bd (S : S3) : ipS S ≤ rintS S ∧ rintS S ≤ ipS S + 1 := by
  unfold rintS
  have : (rupS S).toNat ≤ 1 := by cases rupS S <;> decide
  omega
theorem slow_near {S : S3} {t : S3 × Int} (ng : Bool) (hS : S.n ≠ 0) (lo : (10 : Rat) ^ (-285 : Int) ≤ sv S) (hi : sv S ≤ 10 ^ (285 : Int)) (h : RunTo S t) : Good t ∧ Wd (fbR t ng) ng (sv S) 3 := by
  obtain ⟨n0, v1, v2, r1, r2⟩ := run_near hS h
  obtain ⟨V, hV⟩ : ∃ V, V = sv S := ⟨_, rfl⟩
  obtain ⟨v, hv⟩ : ∃ v, v = sv t.1 := ⟨_, rfl⟩
  obtain ⟨x, hx⟩ : ∃ x, x = t.2 := ⟨_, rfl⟩
  have htv : tv t = v * 2 ^ x := by rw [hv, hx]; rfl
  rw [← hV] at lo hi r1 r2 ⊢
  rw [← hv] at v1 v2
  rw [htv] at r1 r2
  have Vp : 0 < V := Std.lt_of_lt_of_le (ten_pos _) lo
  have dt : 100000 * dl * 9007199254740992 ≤ 1 / 1000 := by unfold dl; decide +kernel
  have dp := dl_pos
  have dV : dl * V * (100000 * 9007199254740992) ≤ 1 / 1000 * V := by
    have := Rat.mul_le_mul_of_nonneg_right dt (Rat.le_of_lt Vp); grind
  have dV0 : 0 ≤ dl * V := Rat.mul_nonneg (Rat.le_of_lt dp) (Rat.le_of_lt Vp)
  have xp := two_pos x
  have u1 : v * 2 ^ x < 2 ^ x := by have := Rat.mul_lt_mul_of_pos_right v1 xp; rw [Rat.one_mul] at this; exact this
  have u2 : 1 / 2 * 2 ^ x ≤ v * 2 ^ x := Rat.mul_le_mul_of_nonneg_right v2 (Rat.le_of_lt xp)
  have x0 : -948 < x := by
    apply two_lt
    have k : (2 : Rat) ^ (-948 : Int) < 1 / 2 * 10 ^ (-285 : Int) := by decide +kernel
    grind
  have x1 : x < 948 := by
    apply two_lt
    have k : 2 * (10 : Rat) ^ (285 : Int) < 2 ^ (948 : Int) := by decide +kernel
    grind
  obtain ⟨M, hM⟩ : ∃ M, M = t.1.n * 2 ^ 53 := ⟨_, rfl⟩
  have M0 : M ≠ 0 := by rw [hM]; omega
  have k53 : ((2 ^ 53 : Nat) : Rat) = 9007199254740992 := by decide +kernel
  have k52 : ((2 ^ 52 : Nat) : Rat) = 4503599627370496 := by decide +kernel
  have vM : (M : Rat) * 10 ^ t.1.e = v * 9007199254740992 := by rw [hM, mulR, k53, hv]; unfold sv; grind
  obtain ⟨c1, c2, c3⟩ := cut_near M0 t.1.e t.1.t
  have lM : (dlen M : Int) + t.1.e ≤ 16 := by
    have a := cast_le (dlen_lo M0)
    rw [ten_nat] at a
    have b := Rat.mul_le_mul_of_nonneg_right a (Rat.le_of_lt (ten_pos t.1.e))
    rw [← ten_add, vM] at b
    have k : (9007199254740992 : Rat) < 10 ^ (16 : Int) := by decide +kernel
    have := ten_lt' (Std.lt_of_le_of_lt b (show v * 9007199254740992 < 10 ^ (16 : Int) by grind))
    have := dlen_pos M0
    omega
  have c4 := cut_ge (K := 2 ^ 52) M0 t.1.t (by rw [vM, k52]; grind) (fun hh => by omega)
  rw [k52] at c4
  obtain ⟨S', hS'⟩ : ∃ S', S' = cut M t.1.e t.1.t := ⟨_, rfl⟩
  rw [← hS'] at c1 c2 c3 c4
  rw [vM] at c2 c3
  obtain ⟨i1, i2⟩ := ip_near S'
  obtain ⟨m1, m2⟩ := rint_bd S'
  obtain ⟨w, hw⟩ : ∃ w, w = sv S' := ⟨_, rfl⟩
  rw [← hw] at c2 c3 c4 i1 i2
  have q1 : 2 ^ 52 < ipS S' + 1 := by
    have : ((2 ^ 52 : Nat) : Rat) < ((ipS S' + 1 : Nat) : Rat) := by
      rw [k52, natR]; have o : ((1 : Nat) : Rat) = 1 := rfl; rw [o]; grind
    exact Rat.natCast_lt_natCast.mp this
  have q2 : ipS S' < 2 ^ 53 := by
    have : ((ipS S' : Nat) : Rat) < ((2 ^ 53 : Nat) : Rat) := by rw [k53]; grind
    exact Rat.natCast_lt_natCast.mp this
  have dS := dp_size c1
  rw [← hw] at dS
  have dd : dpS S' = 16 := by
    have k15 : (10 : Rat) ^ (15 : Int) < 4503599627370496 := by decide +kernel
    have k16 : (9007199254740992 : Rat) < 10 ^ (16 : Int) := by decide +kernel
    have a := ten_lt' (Std.lt_of_lt_of_le k15 (Rat.le_trans c4 (Rat.le_of_lt dS.2)))
    have b := ten_lt' (Std.lt_of_le_of_lt dS.1 (show w < 10 ^ (16 : Int) by grind))
    omega
  have hSc : cut (t.1.n * 2 ^ 53) t.1.e t.1.t = S' := by rw [hS', hM]
  refine ⟨⟨by omega, by omega, by rw [hSc]; omega, by rw [hSc]; omega, by rw [hSc]; omega, by rw [hSc]; omega⟩, ?_⟩
  have hfb : fbR t ng = sgn ng + ((1074 - (53 - x)).toNat * 2 ^ 52 + rintS S') := by
    unfold fbR
    rw [hSc, ← hx, show (1074 - (53 - x)).toNat = (x + 1021).toNat by omega]
    show _ + sgn ng = _
    omega
  rw [hfb]
  have mm1 := cast_le m1
  have mm2 := cast_le m2
  rw [natR] at mm2
  have o : ((1 : Nat) : Rat) = 1 := rfl
  rw [o] at mm2
  generalize (ipS S' : Rat) = ip at *
  generalize hr : (rintS S' : Rat) = m at *
  have e53 : (2 : Rat) ^ x = 9007199254740992 * 2 ^ (x - 53) := by
    have : (9007199254740992 : Rat) = 2 ^ (53 : Int) := by decide +kernel
    rw [this, ← two_add, show 53 + (x - 53) = x by omega]
  have ap := two_pos (x - 53)
  rw [e53] at r1 r2 u1 u2
  obtain ⟨A, hA⟩ : ∃ A, A = (2 : Rat) ^ (x - 53) := ⟨_, rfl⟩
  rw [← hA] at r1 r2 u1 u2 ap
  have eA : (2 : Rat) ^ (-(53 - x)) = A := by rw [hA, show -(53 - x) = x - 53 by omega]
  have s1 : m * A ≤ (v * 9007199254740992 + 1) * A := Rat.mul_le_mul_of_nonneg_right (by grind) (Rat.le_of_lt ap)
  have vb : dl * (v * 9007199254740992) ≤ 1 / 1000 := by
    have := Rat.mul_le_mul_of_nonneg_left (show v * 9007199254740992 ≤ 9007199254740992 by grind) (Rat.le_of_lt dp)
    grind
  have s2 : v * 9007199254740992 * A ≤ (m + 1 + 1 / 1000) * A := Rat.mul_le_mul_of_nonneg_right (by grind) (Rat.le_of_lt ap)
  have V2 : V ≤ 2 * (v * (9007199254740992 * A)) := by grind
  have V3 : V ≤ 2 * (9007199254740992 * A) := by grind
  have s3 : 40000 * (dl * V) ≤ 1 / 1000 * A := by
    have a := Rat.mul_le_mul_of_nonneg_left V3 (Rat.le_of_lt dp)
    have b := Rat.mul_le_mul_of_nonneg_right dt (Rat.le_of_lt ap)
    grind
  have g1 : m * A ≤ V + 101 / 100 * A := by grind
  have g2 : V ≤ m * A + 101 / 100 * A := by grind
  have fin := rung_near (m := rintS S') (X := 53 - x) (W := V) ng (by omega) (by omega) (by omega) (by omega) (.inr (by omega)) (c := 101 / 100) (by decide +kernel) (by decide +kernel) (by rw [eA, hr]; exact g1) (by rw [eA, hr]; exact g2)
  obtain ⟨z, f1, f2, f3, f4, f5⟩ := fin.ex
  refine ⟨z, f1, f2, f3, ?_, ?_⟩
  · rw [u53] at f4 ⊢; grind
  · rw [u53] at f5 ⊢; grind
theorem wd_more {f : Nat} {ng : Bool} {W V c c' : Rat} (h : Wd f ng W c) (hp : 0 ≤ W) (c0 : 0 ≤ c) (c1 : c ≤ 10) (h1 : W ≤ V) (h2 : V ≤ W + W * (1 / 1000000000000000000)) (hc : c + 1 ≤ c') : Wd f ng V c' := by
  obtain ⟨z, f1, f2, f3, f4, f5⟩ := h.ex
  have a : c * W ≤ c * V := Rat.mul_le_mul_of_nonneg_left h1 c0
  have b : c * V ≤ c * (W + W * (1 / 1000000000000000000)) := Rat.mul_le_mul_of_nonneg_left h2 c0
  have e : c * (W + W * (1 / 1000000000000000000)) = c * W + c * W * (1 / 1000000000000000000) := by grind
  have f : c * W ≤ 10 * W := Rat.mul_le_mul_of_nonneg_right c1 hp
  have g : (c + 1) * V ≤ c' * V := Rat.mul_le_mul_of_nonneg_right hc (by grind)
  refine ⟨z, f1, f2, f3, ?_, ?_⟩
  · rw [u53] at f4 ⊢; grind
  · rw [u53] at f5 ⊢; grind
end Go.Proofs.YtjemobfhlfejlaaGreatDoor.Dc
namespace Go.Proofs.YtjemobfhlfejlaaGreatDoor.Dc
open Ie (rv rv_mk two_pos two_add two_nat two_lt Wd u53 inf_is)
theorem parts {M : Nat} {P : Int} (hM : M ≠ 0) : (rfM M : Rat) * 10 ^ rfP M P ≤ (M : Rat) * 10 ^ P ∧ (M : Rat) * 10 ^ P ≤ (rfM M : Rat) * 10 ^ rfP M P + (rfM M : Rat) * 10 ^ rfP M P * (1 / 1000000000000000000) ∧ (rfT M = false → (M : Rat) * 10 ^ P = (rfM M : Rat) * 10 ^ rfP M P) := by
  obtain ⟨t, ht⟩ : ∃ t, t = dlen M - 19 := ⟨_, rfl⟩
  have e1 : rfM M = M / 10 ^ t := by unfold rfM; rw [← ht]
  have e2 : rfP M P = P + (t : Int) := by unfold rfP; rw [← ht]
  have e3 : rfT M = decide (M % 10 ^ t ≠ 0) := by unfold rfT; rw [← ht]
  have hl := dlen_lo hM
  have hd := Nat.div_add_mod M (10 ^ t)
  have hm := Nat.mod_lt M (p10 t)
  have hbig : M % 10 ^ t = 0 ∨ 10 ^ 18 ≤ M / 10 ^ t := by
    rcases Nat.eq_zero_or_pos t with c | c
    · left; rw [c, Nat.pow_zero, Nat.mod_one]
    · right
      rw [Nat.le_div_iff_mul_le (p10 t), ← Nat.pow_add]
      have : 18 + t = dlen M - 1 := by omega
      rw [this]; exact hl
  rw [e1, e2, e3]
  generalize M / 10 ^ t = m at *
  generalize M % 10 ^ t = r at *
  have hv : (M : Rat) * 10 ^ P = (m : Rat) * 10 ^ (P + (t : Int)) + (r : Rat) * 10 ^ P := by
    rw [← hd, natR, mulR, ten_nat, ten_add]
    clear hd hbig
    generalize (10 : Rat) ^ (t : Int) = A
    generalize (10 : Rat) ^ P = B
    grind
  have hr0 : (0 : Rat) ≤ (r : Rat) * 10 ^ P := Rat.mul_nonneg (by have : ((0 : Nat) : Rat) ≤ (r : Rat) := cast_le (Nat.zero_le _); exact this) (Rat.le_of_lt (ten_pos P))
  rw [hv]
  refine ⟨by grind, ?_, fun h => ?_⟩
  · rcases hbig with c | c
    · rw [c]
      have z : ((0 : Nat) : Rat) = 0 := rfl
      have m0 : (0 : Rat) ≤ (m : Rat) * 10 ^ (P + (t : Int)) := Rat.mul_nonneg (by have : ((0 : Nat) : Rat) ≤ (m : Rat) := cast_le (Nat.zero_le _); exact this) (Rat.le_of_lt (ten_pos _))
      rw [z]; grind
    · have a := cast_le (Nat.le_of_lt hm)
      rw [ten_nat] at a
      have a2 := Rat.mul_le_mul_of_nonneg_right a (Rat.le_of_lt (ten_pos P))
      rw [← ten_add, Int.add_comm] at a2
      have b := cast_le c
      have k : ((10 ^ 18 : Nat) : Rat) = 1000000000000000000 := by decide +kernel
      rw [k] at b
      have b2 := Rat.mul_le_mul_of_nonneg_right b (Rat.le_of_lt (ten_pos (P + (t : Int))))
      grind
  · have : r = 0 := by
      have := of_decide_eq_false h
      omega
    rw [this]
    have z : ((0 : Nat) : Rat) = 0 := rfl
    rw [z]; grind
theorem sizes {M : Nat} {P : Int} (hM : M ≠ 0) (lo : (10 : Rat) ^ (-281 : Int) ≤ (M : Rat) * 10 ^ P) (hi : (M : Rat) * 10 ^ P ≤ 10 ^ (281 : Int)) :
    -301 ≤ rfP M P ∧ rfP M P ≤ 281 ∧ (10 : Rat) ^ (-290 : Int) ≤ (rfM M : Rat) * 10 ^ rfP M P ∧ (rfM M : Rat) * 10 ^ rfP M P ≤ 10 ^ (290 : Int) ∧ (10 : Rat) ^ (-290 : Int) ≤ ((rfM M + 1 : Nat) : Rat) * 10 ^ rfP M P ∧ ((rfM M + 1 : Nat) : Rat) * 10 ^ rfP M P ≤ 10 ^ (290 : Int) := by
  obtain ⟨a, b, _⟩ := parts (P := P) hM
  obtain ⟨r0, r1⟩ := rfM_bd hM
  have m1 := cast_le (show 1 ≤ rfM M by omega)
  have m2 := cast_le (Nat.le_of_lt r1)
  have o : ((1 : Nat) : Rat) = 1 := rfl
  rw [o] at m1
  rw [ten_nat] at m2
  rw [natR, o]
  generalize (M : Rat) * 10 ^ P = V at *
  generalize hm : (rfM M : Rat) = m at *
  have tp := ten_pos (rfP M P)
  have k1 : (10 : Rat) ^ (-282 : Int) * 2 ≤ 10 ^ (-281 : Int) := by decide +kernel
  have k2 : (10 : Rat) ^ (-290 : Int) ≤ 10 ^ (-282 : Int) := by decide +kernel
  have k3 : 2 * (10 : Rat) ^ (281 : Int) ≤ 10 ^ (290 : Int) := by decide +kernel
  have k4 : (0 : Rat) < 10 ^ (281 : Int) := ten_pos _
  have g1 := Rat.mul_le_mul_of_nonneg_right m1 (Rat.le_of_lt tp)
  have g2 := Rat.mul_le_mul_of_nonneg_right m2 (Rat.le_of_lt tp)
  rw [← ten_add] at g2
  have wlo : (10 : Rat) ^ (-282 : Int) ≤ m * 10 ^ rfP M P := by grind
  have p1 : rfP M P < 282 := ten_lt' (by
    have k5 : (10 : Rat) ^ (281 : Int) < 10 ^ (282 : Int) := by decide +kernel
    grind)
  have p0 : -283 < ((19 : Nat) : Int) + rfP M P := ten_lt' (by
    have k5 : (10 : Rat) ^ (-283 : Int) < 10 ^ (-282 : Int) := by decide +kernel
    grind)
  refine ⟨by omega, by omega, by grind, by grind, by grind, by grind⟩
theorem rng_of {M : Nat} {P : Int} (hM : M ≠ 0) (lo : (10 : Rat) ^ (-281 : Int) ≤ (M : Rat) * 10 ^ P) (hi : (M : Rat) * 10 ^ P ≤ 10 ^ (281 : Int)) : Rng M P := by
  obtain ⟨p0, p1, w0, w1, y0, y1⟩ := sizes hM lo hi
  obtain ⟨r0, r1⟩ := rfM_bd hM
  obtain ⟨a1, a2, _⟩ := pf_near false r0 (by omega) (by omega) (by omega) w0 w1
  obtain ⟨b1, b2, _⟩ := pf_near false (d := rfM M + 1) (by omega) (by omega) (by omega) (by omega) y0 y1
  have ds := dp_size (S := ⟨M, P, false⟩) hM
  have hs : sv ⟨M, P, false⟩ = (M : Rat) * 10 ^ P := rfl
  have hd : dpS ⟨M, P, false⟩ = P + dlen M := rfl
  rw [hs, hd] at ds
  have k1 : (10 : Rat) ^ (281 : Int) < 10 ^ (282 : Int) := by decide +kernel
  have k2 : (10 : Rat) ^ (-282 : Int) < 10 ^ (-281 : Int) := by decide +kernel
  have d1 := ten_lt' (Std.lt_of_le_of_lt (Rat.le_trans ds.1 hi) k1)
  have d0 := ten_lt' (Std.lt_of_lt_of_le k2 (Rat.le_trans lo (Rat.le_of_lt ds.2)))
  have k3 : (10 : Rat) ^ (-285 : Int) ≤ 10 ^ (-281 : Int) := by decide +kernel
  have k4 : (10 : Rat) ^ (281 : Int) ≤ 10 ^ (285 : Int) := by decide +kernel
  exact ⟨hM, by omega, by omega, a1, a2, b1, b2, by omega, by omega, fun t h => (slow_near (S := ⟨M, P, false⟩) false hM (by rw [hs]; exact Rat.le_trans k3 lo) (by rw [hs]; exact Rat.le_trans hi k4) h).1⟩
theorem pfis_near {M : Nat} {P : Int} {ng : Bool} {f : Nat} (hM : M ≠ 0) (lo : (10 : Rat) ^ (-281 : Int) ≤ (M : Rat) * 10 ^ P) (hi : (M : Rat) * 10 ^ P ≤ 10 ^ (281 : Int)) (h : PFIs M P ng f) : Wd f ng ((M : Rat) * 10 ^ P) 5 := by
  obtain ⟨p0, p1, w0, w1, y0, y1⟩ := sizes hM lo hi
  obtain ⟨r0, r1⟩ := rfM_bd hM
  obtain ⟨q1, q2, q3⟩ := parts (P := P) hM
  obtain ⟨a1, a2, a3⟩ := pf_near ng r0 (by omega) (by omega) (by omega) w0 w1
  have wp : 0 ≤ (rfM M : Rat) * 10 ^ rfP M P := Rat.le_trans (Rat.le_of_lt (ten_pos _)) w0
  have c3 : (0 : Rat) ≤ 3 := by decide +kernel
  cases c : rfT M with
  | true =>
    obtain ⟨b1, b2⟩ := h.2 c
    cases d : Go.Op.floatEq .f64 (sgn ng + pfR (rfM M) (rfP M P)) (sgn ng + pfR (rfM M + 1) (rfP M P)) with
    | true =>
      rw [b1 d]
      exact wd_more a3 wp (by decide +kernel) (by decide +kernel) q1 q2 (by decide +kernel)
    | false =>
      obtain ⟨t, e1, e2⟩ := b2 d
      rw [e2]
      have k3 : (10 : Rat) ^ (-285 : Int) ≤ 10 ^ (-281 : Int) := by decide +kernel
      have k4 : (10 : Rat) ^ (281 : Int) ≤ 10 ^ (285 : Int) := by decide +kernel
      have hs : sv ⟨M, P, false⟩ = (M : Rat) * 10 ^ P := rfl
      have s := (slow_near (S := ⟨M, P, false⟩) ng hM (by rw [hs]; exact Rat.le_trans k3 lo) (by rw [hs]; exact Rat.le_trans hi k4) e1).2
      rw [hs] at s
      have vp : 0 ≤ (M : Rat) * 10 ^ P := Rat.le_trans wp q1
      exact wd_more s vp (by decide +kernel) (by decide +kernel) Rat.le_refl (by grind) (by decide +kernel)
  | false =>
    obtain ⟨b1, b2⟩ := h.1 c
    rw [q3 c]
    have up : ∀ {g : Nat} {cc : Rat}, 0 ≤ cc → cc ≤ 4 → Wd g ng ((rfM M : Rat) * 10 ^ rfP M P) cc → Wd g ng ((rfM M : Rat) * 10 ^ rfP M P) 5 := fun h0 h1 hw => wd_more hw wp h0 (by grind) Rat.le_refl (by grind) (by grind)
    cases d : aeR (rfM M) (rfP M P) ng with
    | none => rw [b2 d]; exact up (by decide +kernel) (by decide +kernel) a3
    | some g =>
      rw [b1 g d]
      generalize rfM M = m at *
      generalize rfP M P = p at *
      unfold aeR at d
      have m64 : m < 2 ^ 64 := by omega
      split at d
      · cases d
      · split at d
        · rename_i hp
          subst hp
          obtain rfl := Option.some.inj d
          rw [Rat.zpow_zero, Rat.mul_one] at up ⊢
          exact up (by decide +kernel) (by decide +kernel) (aeF_wd ng r0 m64)
        · split at d
          · rename_i hp
            split at d
            · rename_i h37
              split at d
              · cases d
              · obtain rfl := Option.some.inj d
                have q := (ae_mulR ng r0 m64 hp h37).2
                rw [ten_nat, show ((p.toNat : Nat) : Int) = p by omega] at q
                exact up (by decide +kernel) (by decide +kernel) q
            · cases d
          · rename_i hp0 hp1
            split at d
            · rename_i h22
              obtain rfl := Option.some.inj d
              have q := (ae_div ng r0 m64 (by omega) h22).2
              have e : (m : Rat) / ((10 ^ (-p).toNat : Nat) : Rat) = (m : Rat) * 10 ^ p := by
                rw [ten_nat, show (((-p).toNat : Nat) : Int) = -p by omega, Rat.div_def, ← Rat.zpow_neg, Int.neg_neg]
              rw [e] at q
              exact up (by decide +kernel) (by decide +kernel) q
            · cases d
end Go.Proofs.YtjemobfhlfejlaaGreatDoor.Dc
namespace Go.Proofs.YtjemobfhlfejlaaGreatDoor.Dc
open Ie (fmul fdiv tab post negt ftab powUp powDn Wd rv two_pos u53 inf_is mul_near Near3 rv_pos)
theorem ftab_tab : ∀ i, i < 17 → ftab.getD i 0 = tab.getD i 0 := by decide +kernel
theorem powZ_near {e : Int} (e0 : -300 ≤ e) (e1 : e ≤ 300) : Near3 (powZ e) ((10 : Rat) ^ e) := by
  unfold powZ
  by_cases c : 0 ≤ e
  · rw [if_pos c]
    obtain ⟨n, hn⟩ : ∃ n : Nat, e = (n : Int) := ⟨e.toNat, by omega⟩
    have := (Ie.powUp_is n (by omega)).2
    rw [ten_nat] at this
    rw [hn, Int.toNat_natCast]; exact this
  · rw [if_neg c]
    obtain ⟨n, hn⟩ : ∃ n : Nat, -e = (n : Int) := ⟨(-e).toNat, by omega⟩
    have := (Ie.powDn_is n (by omega)).2
    rw [ten_nat] at this
    have e2 : (1 : Rat) / 10 ^ (n : Int) = 10 ^ e := by
      have q := ten_neg (n : Int)
      rw [show e = -(n : Int) by omega]
      have p := ten_pos (n : Int)
      generalize (10 : Rat) ^ (n : Int) = A at *
      generalize (10 : Rat) ^ (-(n : Int)) = B at *
      have : 1 / A * A = 1 := Rat.div_mul_cancel (by grind)
      have h1 : 1 / A = 1 / A * (A * B) := by rw [q, Rat.mul_one]
      rw [h1, ← Rat.mul_assoc, this, Rat.one_mul]
    rw [e2] at this
    rw [hn, Int.toNat_natCast]; exact this
theorem wd_pow {x p : Nat} {ng : Bool} {v y V : Rat} (h : Wd x ng v 3) (hp : Near3 p y) (hv : v * y = V) (v0 : 0 < v) (y0 : 0 < y) (lo : (10 : Rat) ^ (-281 : Int) ≤ V) (hi : V ≤ 10 ^ (281 : Int)) :
    Ieee.double.mul x p = some (fmul x p) ∧ Wd (fmul x p) ng V 8 := by
  obtain ⟨z, h1, h2, h3, h4, h5⟩ := h.ex
  obtain ⟨b1, b2, b3, b4⟩ := hp
  rw [u53] at h4 h5 b3 b4
  have pr := rv_pos z h2
  have pp := rv_pos p b1
  have pv : 0 < V := by rw [← hv]; exact Rat.mul_pos v0 y0
  have A3 : rv z ≤ v * (1 + 3 * (1 / 9007199254740992)) := by grind
  have A4 : v * (1 - 3 * (1 / 9007199254740992)) ≤ rv z := by grind
  have B3 : rv p ≤ y * (1 + 3 * (1 / 9007199254740992)) := by grind
  have B4 : y * (1 - 3 * (1 / 9007199254740992)) ≤ rv p := by grind
  have M1 : rv z * rv p ≤ V * ((1 + 3 * (1 / 9007199254740992)) * (1 + 3 * (1 / 9007199254740992))) := by
    have m1 := Rat.mul_le_mul_of_nonneg_right A3 (Rat.le_of_lt pp)
    have m2 := Rat.mul_le_mul_of_nonneg_left B3 (show (0 : Rat) ≤ v * (1 + 3 * (1 / 9007199254740992)) by grind)
    have := Rat.le_trans m1 m2
    rw [← hv]
    grind
  have M2 : V * ((1 - 3 * (1 / 9007199254740992)) * (1 - 3 * (1 / 9007199254740992))) ≤ rv z * rv p := by
    have m1 := Rat.mul_le_mul_of_nonneg_left B4 (show (0 : Rat) ≤ v * (1 - 3 * (1 / 9007199254740992)) by grind)
    have m2 := Rat.mul_le_mul_of_nonneg_right A4 (Rat.le_of_lt pp)
    have := Rat.le_trans m1 m2
    rw [← hv]
    grind
  have k1 : 2 * (2 : Rat) ^ (-1022 : Int) ≤ 10 ^ (-281 : Int) := by decide +kernel
  have k2 : 2 * (10 : Rat) ^ (281 : Int) < 2 ^ (1023 : Int) := by decide +kernel
  obtain ⟨w, y1, y2, y3, y4, y5⟩ := mul_near ng false z p h2 (by rw [inf_is]; exact h3) b1 (by rw [inf_is]; exact b2) (by grind) (by grind)
  rw [Bool.xor_false] at y1
  rw [u53] at y4 y5
  have e1 : Ieee.double.mul x p = some (Ieee.double.word ng w) := by rw [h1]; exact y1
  have e2 : fmul x p = Ieee.double.word ng w := by unfold fmul; rw [e1]; rfl
  refine ⟨by rw [e2, e1], w, e2, y2, by rw [← inf_is]; exact y3, ?_, ?_⟩
  · rw [u53]; grind
  · rw [u53]; grind
section
variable {s : ByteArray} {i0 i1 i2 j0 : Nat} {ng es : Bool}
theorem tkM_lt (hk : Tok s i0 i1 i2 j0 ng es) {n : Nat} (hn : i2 - i0 ≤ n) : tkM s i0 i2 < 10 ^ n := by
  unfold tkM
  have := mv_lt (s := s) (i0 := i0) (i2 - i0) (fun k hk2 => by
    rcases hk.at_ (i := i0 + k) (by omega) (by omega) with r | r
    · exact r.2
    · have := r.2; omega)
  exact Nat.lt_of_lt_of_le this (Nat.pow_le_pow_right (by decide) hn)
theorem hdv_of (hk : Tok s i0 i1 i2 j0 ng es) (hM : tkM s i0 i2 ≠ 0) : i1 < i2 → ¬ 17 ≤ i2 - i0 → Ieee.double.div (Go.floatOfInt .f64 (tkM s i0 i2 : Int)) (ftab.getD (frl i1 i2) 0) = some (fdiv (Go.floatOfInt .f64 (tkM s i0 i2 : Int)) (ftab.getD (frl i1 i2) 0)) ∧ Wd (fdiv (Go.floatOfInt .f64 (tkM s i0 i2 : Int)) (ftab.getD (frl i1 i2) 0)) false ((tkM s i0 i2 : Rat) * 10 ^ (-(frl i1 i2 : Int))) 3 := by
  intro h1 h2
  have hl := tkM_lt hk (n := 16) (by omega)
  have fl : frl i1 i2 < 17 := by unfold frl; have := hk.lt1; omega
  obtain ⟨a, b⟩ := m_rat hM (by omega)
  rw [ftab_tab _ fl]
  have q := (Ie.fi_word hM (by omega)).div (i := frl i1 i2) (by omega) (by decide +kernel) (by decide +kernel) (by grind) (by grind)
  have e : (1 : Rat) + 2 = 3 := by decide +kernel
  rw [e, ten_nat, Rat.div_def, ← Rat.zpow_neg] at q
  exact q
theorem ffA_wd (hk : Tok s i0 i1 i2 j0 ng es) (hM : tkM s i0 i2 ≠ 0) (hns : ¬ ffSlow s i0 i1 i2 j0) : Wd (ffA s i0 i1 i2) false ((tkM s i0 i2 : Rat) * 10 ^ (-(frl i1 i2 : Int))) 3 := by
  unfold ffA
  by_cases c : i1 < i2
  · rw [if_pos c]
    exact (hdv_of hk hM c (fun h => hns (.inr (.inl ⟨c, h⟩)))).2
  · rw [if_neg c]
    have h18 : ¬ 19 ≤ i1 := fun h => hns (.inl h)
    have hl := tkM_lt hk (n := 18) (by omega)
    have z : frl i1 i2 = 0 := by unfold frl; omega
    rw [z]
    have e0 : (10 : Rat) ^ (-((0 : Nat) : Int)) = 1 := by decide +kernel
    rw [e0, Rat.mul_one]
    obtain ⟨a, b⟩ := m_rat hM (by omega)
    obtain ⟨w, h1, h2, h3, h4, h5⟩ := (Ie.fi_word hM (by omega)).ex
    rw [u53] at h4 h5
    exact ⟨w, h1, h2, h3, by rw [u53]; grind, by rw [u53]; grind⟩
theorem hmu_of (hk : Tok s i0 i1 i2 j0 ng es) (hM : tkM s i0 i2 ≠ 0) (lo : (10 : Rat) ^ (-281 : Int) ≤ (tkM s i0 i2 : Rat) * 10 ^ tkP s i1 i2 j0 es) (hi : (tkM s i0 i2 : Rat) * 10 ^ tkP s i1 i2 j0 es ≤ 10 ^ (281 : Int)) :
    ¬ ffSlow s i0 i1 i2 j0 → i2 < s.size → Ieee.double.mul (ffA s i0 i1 i2) (powZ (if es then -(exv s j0 : Int) else (exv s j0 : Int))) = some (fmul (ffA s i0 i1 i2) (powZ (if es then -(exv s j0 : Int) else (exv s j0 : Int)))) ∧ Wd (fmul (ffA s i0 i1 i2) (powZ (if es then -(exv s j0 : Int) else (exv s j0 : Int)))) false ((tkM s i0 i2 : Rat) * 10 ^ tkP s i1 i2 j0 es) 8 := by
  intro hns h2
  have w := ffA_wd hk hM hns
  have h3 : exv s j0 ≤ 300 := by
    apply Classical.byContradiction
    intro c
    exact hns (.inr (.inr ⟨h2, by omega⟩))
  have hn := powZ_near (e := if es then -(exv s j0 : Int) else (exv s j0 : Int)) (by split <;> omega) (by split <;> omega)
  have hP : tkP s i1 i2 j0 es = -(frl i1 i2 : Int) + (if es then -(exv s j0 : Int) else (exv s j0 : Int)) := by unfold tkP; omega
  have v0 : (0 : Rat) < (tkM s i0 i2 : Rat) * 10 ^ (-(frl i1 i2 : Int)) := Rat.mul_pos (nat_pos hM) (ten_pos _)
  exact wd_pow w hn (by rw [hP, ten_add, Rat.mul_assoc]) v0 (ten_pos _) lo hi
theorem ffis_near (hk : Tok s i0 i1 i2 j0 ng es) (hM : tkM s i0 i2 ≠ 0) (lo : (10 : Rat) ^ (-281 : Int) ≤ (tkM s i0 i2 : Rat) * 10 ^ tkP s i1 i2 j0 es) (hi : (tkM s i0 i2 : Rat) * 10 ^ tkP s i1 i2 j0 es ≤ 10 ^ (281 : Int)) {f : Nat} (h : FFIs s i0 i1 i2 j0 ng es f) : Wd f ng ((tkM s i0 i2 : Rat) * 10 ^ tkP s i1 i2 j0 es) 8 := by
  have vp : 0 ≤ (tkM s i0 i2 : Rat) * 10 ^ tkP s i1 i2 j0 es := Rat.le_trans (Rat.le_of_lt (ten_pos _)) lo
  by_cases c : ffSlow s i0 i1 i2 j0
  · exact wd_more (pfis_near hM lo hi (h.1 c)) vp (by decide +kernel) (by decide +kernel) Rat.le_refl (by grind) (by decide +kernel)
  · rw [h.2 c]
    have hB : Wd (ffB s i0 i1 i2 j0 es) false ((tkM s i0 i2 : Rat) * 10 ^ tkP s i1 i2 j0 es) 8 := by
      unfold ffB
      by_cases d : i2 < s.size
      · rw [if_pos d]; exact (hmu_of hk hM lo hi c d).2
      · rw [if_neg d]
        have hj : j0 = s.size := by
          rcases hk.ex with q | q
          · omega
          · omega
        have hz : exv s j0 = 0 := by unfold exv; rw [hj, Nat.sub_self]; rfl
        have hP : tkP s i1 i2 j0 es = -(frl i1 i2 : Int) := by unfold tkP; rw [hz]; cases es <;> simp
        rw [hP] at vp ⊢
        exact wd_more (ffA_wd hk hM c) vp (by decide +kernel) (by decide +kernel) Rat.le_refl (by grind) (by decide +kernel)
    unfold ffR
    cases ng
    · rw [if_neg (by decide)]; exact hB
    · rw [if_pos rfl]; exact hB.neg
end
end Go.Proofs.YtjemobfhlfejlaaGreatDoor.Dc
namespace Go.Proofs.YtjemobfhlfejlaaGreatDoor.Dc
open Go Go.RowKit
structure Midr (s : ByteArray) (i0 i1 i2 j0 : Nat) (ng es : Bool) : Prop where
  hk : Tok s i0 i1 i2 j0 ng es
  hs : s.size ≤ 800
  hM : tkM s i0 i2 ≠ 0
  lo : (10 : Rat) ^ (-281 : Int) ≤ (tkM s i0 i2 : Rat) * 10 ^ tkP s i1 i2 j0 es
  hi : (tkM s i0 i2 : Rat) * 10 ^ tkP s i1 i2 j0 es ≤ 10 ^ (281 : Int)
theorem pow_le_of {a b : Nat} (h : 10 ^ a < 10 ^ b) : a < b := (Nat.pow_lt_pow_iff_right (by decide)).mp h
theorem Midr.exv_lt {s : ByteArray} {i0 i1 i2 j0 : Nat} {ng es : Bool} (h : Midr s i0 i1 i2 j0 ng es) : exv s j0 < 10000 := by
  have r := rng_of h.hM h.lo h.hi
  have r0 := r.d0
  have r1 := r.d1
  have l2 := h.hk.leS
  have l1 := h.hk.lt1
  have hs := h.hs
  have ml := tkM_lt h.hk (n := 800) (by omega)
  have dl := dlen_lo h.hM
  have d8 := pow_le_of (Nat.lt_of_le_of_lt dl ml)
  have dp := dlen_pos h.hM
  have fl : frl i1 i2 ≤ 800 := by unfold frl; omega
  unfold tkP at r0 r1
  cases es
  · simp at r0 r1; omega
  · simp at r0 r1; omega
theorem ff26 {w : World} {B : Nat} (h : TF w B) (hB : B ≤ w.heap.size) {s : ByteArray} {i0 i1 i2 j0 : Nat} {ng es : Bool} (m : Midr s i0 i1 i2 j0 ng es) :
    Calls Tryz.prog 26 #[.string s] w fun e w' => IsFF s i0 i1 i2 j0 ng es e ∧ Below w.heap.size w w' :=
  ff_any h hB m.hs m.hk m.exv_lt (rng_of m.hM m.lo m.hi) (fun a b => (hdv_of m.hk m.hM a b).1) (fun a b => (hmu_of m.hk m.hM m.lo m.hi a b).1)
theorem type_any {w : World} {g : Nat} (h4 : w.cell? ⟨g, 4, none⟩ = some (.int .i64 4)) : Calls Tryz.prog 25 #[.pointer (some ⟨g, 0, none⟩)] w fun e w' => e = .returned (.int .i64 4) ∧ w' = w := by
  go_enter Tryz.func25, Tryz.ntmps25
  go_wp2_with fail
  go_ret
  exact ⟨rfl, rfl⟩
set_option maxHeartbeats 4000000 in
set_option maxRecDepth 100000 in
theorem float64_any {w : World} {B : Nat} (h : TF w B) (hB : B ≤ w.heap.size) {s : ByteArray} {i0 i1 i2 j0 : Nat} {ng es : Bool} (m : Midr s i0 i1 i2 j0 ng es) {g : Nat} (h3 : w.cell? ⟨g, 3, none⟩ = some (.string s)) (h4 : w.cell? ⟨g, 4, none⟩ = some (.int .i64 4)) :
    Calls Tryz.prog 14 #[.pointer (some ⟨g, 0, none⟩)] w fun e w' => IsFF s i0 i1 i2 j0 ng es e ∧ Below w.heap.size w w' := by
  have FC := Lib.hid (ff26 h hB m)
  have TC := Lib.hid (type_any h4)
  clear h hB m
  go_enter Tryz.func14, Tryz.ntmps14
  go_wp2_with (first | (go_at_call 25; (with_reducible refine TC.out.mono ?_); rintro e w' ⟨rfl, rfl⟩) | (go_at_call 26; (with_reducible refine FC.out.mono ?_); rintro e w2 ⟨⟨f, hf⟩, hb⟩; have HF := Lib.hid hf; have HBT := Lib.hid hb; clear hf hb))
  go_ret2
  exact ⟨.mk f HF.out, HBT.out⟩
set_option maxHeartbeats 4000000 in
set_option maxRecDepth 100000 in
theorem newnum_any {w : World} {b : Nat} {s : ByteArray} (hc : w.cell? ⟨b, 1, none⟩ = some (.slice none 0 0)) (hf : w.frozen? ⟨b, 1, none⟩ = false) :
    Calls Tryz.prog 15 #[.pointer (some ⟨b, 0, none⟩), .string s] w fun e w' => ∃ g, e = .returned (.pointer (some ⟨g, 0, none⟩)) ∧ w'.cell? ⟨g, 3, none⟩ = some (.string s) ∧ w'.cell? ⟨g, 4, none⟩ = some (.int .i64 4) ∧ Below b w w' := by
  have GC := Lib.hid (get_any hc hf)
  have hlt := World.block_lt_of_cell? w _ hc
  have HLT := Lib.hid hlt
  clear hc hf hlt
  go_enter Tryz.func15, Tryz.ntmps15
  go_wp2_with (go_at_call 27; (with_reducible refine GC.out.mono ?_); rintro e w' ⟨g, rfl, hg, ⟨x, y, q3, q4⟩, f3, f4, hb⟩; have HBT := Lib.hid hb; have HG := Lib.hid hg; clear hb hg)
  go_ret
  refine ⟨g, rfl, ?_, ?_, ?_⟩
  · exact World.cell?_setCell_same' _ _ _ (by simp [go_sem, q3, q4])
  · simp [go_sem, q3, q4]
  · have := HG.out
    have := HLT.out
    exact (HBT.out.setCell (by show b ≤ g; omega) _).setCell (by show b ≤ g; omega) _
end Go.Proofs.YtjemobfhlfejlaaGreatDoor.Dc
namespace Go.Proofs.YtjemobfhlfejlaaGreatDoor.Dc
open Go Go.RowKit
inductive IsFj (s : ByteArray) (i0 i1 i2 j0 : Nat) (ng es : Bool) : Ending → Prop
  | mk (f : Nat) (h : FFIs s i0 i1 i2 j0 ng es f) : IsFj s i0 i1 i2 j0 ng es (.returned (.tuple #[.float .f64 f, .bool true]))
set_option maxHeartbeats 4000000 in
set_option maxRecDepth 100000 in
theorem numfloat_any {w : World} {B : Nat} (h : TF w B) (hB : B ≤ w.heap.size) {s : ByteArray} {i0 i1 i2 j0 : Nat} {ng es : Bool} (m : Midr s i0 i1 i2 j0 ng es) :
    Calls Tryz.prog 7 #[.string s] w fun e w' => IsFj s i0 i1 i2 j0 ng es e ∧ Below w.heap.size w w' := by
  obtain ⟨w1, hw1⟩ : ∃ w1, w.alloc (Obj.cells #[.slice none 0 0, .slice none 0 0] 49) = w1 := ⟨_, rfl⟩
  have b1 : Below w.heap.size w w1 := by rw [← hw1]; exact (Below.refl _ _).alloc (Nat.le_refl _) _
  have c1 : w1.cell? ⟨w.heap.size, 1, none⟩ = some (.slice none 0 0) := by rw [← hw1, World.cell?_alloc_new]; rfl
  have f1 : w1.frozen? ⟨w.heap.size, 1, none⟩ = false := by rw [← hw1, frozen?_alloc_cells]; exact fz_past rfl (Nat.le_refl _)
  have NC := Lib.hid (newnum_any (s := s) c1 f1)
  have FC := Lib.hid (fun (W : World) (hb : Below w.heap.size w1 W) (g : Nat) (h3 : W.cell? ⟨g, 3, none⟩ = some (.string s)) (h4 : W.cell? ⟨g, 4, none⟩ = some (.int .i64 4)) => float64_any (w := W) (h.below ((b1.trans hb).mono hB)) (Nat.le_trans hB (b1.trans hb).size) m h3 h4)
  have B1 := Lib.hid b1
  clear h hB m b1 c1 f1
  go_enter Tryz.func7, Tryz.ntmps7
  go_upto_region 2 with (fail)
  clear hw1
  go_wp2_with (first | (go_at_call 15; (with_reducible refine NC.out.mono ?_); rintro e w' ⟨g, rfl, q3, q4, hb⟩; have HBT := Lib.hid hb; have FG := Lib.hid (FC.out w' hb g q3 q4); clear hb q3 q4) | (go_at_call 14; (with_reducible refine FG.out.mono ?_); rintro e w2 ⟨⟨f, hf⟩, hb⟩; have HF := Lib.hid hf; have HBT2 := Lib.hid hb; clear hf hb))
  go_quiet (fail)
  go_wp2_with fail
  go_ret2
  exact ⟨.mk f HF.out, ((B1.out.trans HBT.out).trans (HBT2.out.mono (B1.out.trans HBT.out).size)).trans ⟨rfl, rfl, rfl, Nat.le_refl _, fun _ _ => rfl⟩⟩
theorem b2s_any {w : World} {B : Nat} {A : Option Addr} {n c : Nat} {s : ByteArray} (hr : (convert 36 9 (.slice A n c)).run Tryz.prog w = .ok (.string s) w) : Calls Tryz.prog 23 #[.slice A n c] w fun e w' => e = .returned (.string s) ∧ w' = w := by
  go_enter Tryz.func23, Tryz.ntmps23
  go_wp2_with fail
  go_ret
  exact ⟨rfl, rfl⟩
theorem reset_any {w : World} {b : Nat} (hc : w.cell? ⟨b, 1, none⟩ = some (.slice none 0 0)) (hf : w.frozen? ⟨b, 1, none⟩ = false) :
    Calls Tryz.prog 21 #[.pointer (some ⟨b, 1, none⟩)] w fun e w' => e = .returned (.tuple #[]) ∧ w' = w.setCell ⟨b, 1, none⟩ (.slice none 0 0) := by
  go_enter Tryz.func21, Tryz.ntmps21
  go_wp2_with fail
  go_loopg [10] 0 (fun g v10 wc => v10 = .int .i64 0 ∧ Hid (wc = w))
  case atStart => exact ⟨rfl, Lib.hid rfl⟩
  case round =>
    obtain ⟨rfl, hw⟩ := hrel
    obtain rfl := hw.out
    go_wp2_with fail
    go_end0
    exact ⟨rfl, rfl⟩
theorem skip_any {w : World} {s : ByteArray} (h : s.size = 0 ∨ 32 < bt s 0) : Calls Tryz.prog 20 #[.string s] w fun e w' => e = .returned (.string s) ∧ w' = w := by
  by_cases c : s.size = 0
  · have t1 : ((s.size : Int) == 0) = true := beq_iff_eq.mpr (by omega)
    go_enter Tryz.func20, Tryz.ntmps20
    go_wp2_with fail
    go_ret
    exact ⟨rfl, rfl⟩
  · have e0 : 0 < s.size := by omega
    have t1 : ((s.size : Int) == 0) = false := beq_eq_false_iff_ne.mpr (by omega)
    have hb := bt_is e0
    have t2 : decide ((32 : Int) < (s[0].toNat : Int)) = true := decide_eq_true (by omega)
    have t3 : decide (32 < s[0].toNat) = true := decide_eq_true (by omega)
    have t0 : ¬ s = ByteArray.empty := fun h => by rw [h] at e0; simp at e0
    clear hb h
    go_enter Tryz.func20, Tryz.ntmps20
    go_wp2_with fail
    go_ret
    exact ⟨rfl, rfl⟩
set_option maxHeartbeats 4000000 in
set_option maxRecDepth 100000 in
theorem rawnum_any {w : World} {s : ByteArray} (hs : s.size ≤ 800) (hn : NumStr s) : Calls Tryz.prog 37 #[.string s] w fun e w' => e = .returned (.tuple #[.string s, .string ⟨#[]⟩, .nilIface]) ∧ w' = w := by
  have ss : (s.size : Int) ≤ 800 := by omega
  have HN := Lib.hid hn; clear hn hs
  go_enter Tryz.func37, Tryz.ntmps37
  go_wp2_with fail
  go_loopg [0, 11] s.size (fun g v0 v11 wc => ∃ k : Nat, v0 = .string s ∧ v11 = .int .i64 (k : Int) ∧ Hid (k + g = s.size) ∧ Hid (wc = w))
  case atStart => exact ⟨0, rfl, rfl, Lib.hid (Nat.zero_add _), Lib.hid rfl⟩
  case round =>
    obtain ⟨k, rfl, rfl, hk, hw⟩ := hrel
    obtain rfl := hw.out
    have x0 : 0 ≤ (k : Int) := by omega
    have x1 : (k : Int) ≤ (s.size : Int) := by have := hk.out; omega
    rcases Nat.eq_zero_or_pos gk with g0 | gp
    · have t1 : decide (k < s.size) = false := decide_eq_false (by have := hk.out; omega)
      have t2 : decide ((k : Int) < (s.size : Int)) = false := decide_eq_false (by have := hk.out; omega)
      go_wp2_with fail
      go_ret3
      exact ⟨rfl, rfl⟩
    · have hlt : k < s.size := by have := hk.out; omega
      have t1 : decide (k < s.size) = true := decide_eq_true hlt
      have t2 : decide ((k : Int) < (s.size : Int)) = true := decide_eq_true (by omega)
      have hc := isN_cases (HN.out k hlt)
      obtain ⟨c, hcc⟩ : ∃ c, s[k].toNat = c := ⟨_, rfl⟩
      rw [hcc] at hc
      rcases hc with h | h | h | h | h | h
      · have hI : (s[k].toNat : Int) = (43 : Int) := by omega
        clear hcc h
        go_wp2_with fail
        go_roundg (gk - 1)
        case measure => omega
        case rel => exact ⟨k + 1, rfl, by go_num, Lib.hid (by have := hk.out; omega), Lib.hid rfl⟩
      · have hI : (s[k].toNat : Int) = (45 : Int) := by omega
        clear hcc h
        go_wp2_with fail
        go_roundg (gk - 1)
        case measure => omega
        case rel => exact ⟨k + 1, rfl, by go_num, Lib.hid (by have := hk.out; omega), Lib.hid rfl⟩
      · have hI : (s[k].toNat : Int) = (46 : Int) := by omega
        clear hcc h
        go_wp2_with fail
        go_roundg (gk - 1)
        case measure => omega
        case rel => exact ⟨k + 1, rfl, by go_num, Lib.hid (by have := hk.out; omega), Lib.hid rfl⟩
      · have p48 : decide ((48 : Int) ≤ (s[k].toNat : Int)) = true := decide_eq_true (by omega)
        have p57 : decide ((s[k].toNat : Int) ≤ 57) = true := decide_eq_true (by omega)
        clear hcc h
        go_wp2_with fail
        go_roundg (gk - 1)
        case measure => omega
        case rel => exact ⟨k + 1, rfl, by go_num, Lib.hid (by have := hk.out; omega), Lib.hid rfl⟩
      · have hI : (s[k].toNat : Int) = (69 : Int) := by omega
        clear hcc h
        go_wp2_with fail
        go_roundg (gk - 1)
        case measure => omega
        case rel => exact ⟨k + 1, rfl, by go_num, Lib.hid (by have := hk.out; omega), Lib.hid rfl⟩
      · have hI : (s[k].toNat : Int) = (101 : Int) := by omega
        clear hcc h
        go_wp2_with fail
        go_roundg (gk - 1)
        case measure => omega
        case rel => exact ⟨k + 1, rfl, by go_num, Lib.hid (by have := hk.out; omega), Lib.hid rfl⟩
end Go.Proofs.YtjemobfhlfejlaaGreatDoor.Dc
namespace Go.Proofs.YtjemobfhlfejlaaGreatDoor.Dc
open Go Go.RowKit
theorem Tok.head {s : ByteArray} {i0 i1 i2 j0 : Nat} {ng es : Bool} (h : Tok s i0 i1 i2 j0 ng es) : 0 < s.size ∧ (bt s 0 = 45 ∨ (48 ≤ bt s 0 ∧ bt s 0 ≤ 57)) := by
  refine ⟨by have := h.le0; omega, ?_⟩
  rcases h.sg with c | c
  · exact .inl c.2.2
  · have := h.dg1 0 (by omega) (by have := h.lt1; omega)
    exact .inr this
set_option maxHeartbeats 4000000 in
set_option maxRecDepth 100000 in
theorem parseval_any {w : World} {b : Nat} {s : ByteArray} (hs : s.size ≤ 800) (hn : NumStr s) (h0 : 0 < s.size) (hb0 : bt s 0 = 45 ∨ (48 ≤ bt s 0 ∧ bt s 0 ≤ 57)) (hc : w.cell? ⟨b, 1, none⟩ = some (.slice none 0 0)) (hf : w.frozen? ⟨b, 1, none⟩ = false) :
    Calls Tryz.prog 22 #[.pointer (some ⟨b, 1, none⟩), .string s, .int .i64 0] w fun e w' => ∃ g, e = .returned (.tuple #[.pointer (some ⟨g, 0, none⟩), .string ⟨#[]⟩, .nilIface]) ∧ w'.cell? ⟨g, 3, none⟩ = some (.string s) ∧ w'.cell? ⟨g, 4, none⟩ = some (.int .i64 4) ∧ Below b w w' := by
  have GC := Lib.hid (get_any hc hf)
  have RC := Lib.hid (rawnum_any (w := w) hs hn)
  have HLT := Lib.hid (World.block_lt_of_cell? w _ hc)
  rw [bt_is h0] at hb0
  obtain ⟨c, hcc⟩ : ∃ c : Int, (s[0].toNat : Int) = c := ⟨_, rfl⟩
  have n1 : (c == 123) = false := beq_eq_false_iff_ne.mpr (by omega)
  have n2 : (c == 91) = false := beq_eq_false_iff_ne.mpr (by omega)
  have n3 : (c == 34) = false := beq_eq_false_iff_ne.mpr (by omega)
  have n4 : (c == 116) = false := beq_eq_false_iff_ne.mpr (by omega)
  have n5 : (c == 102) = false := beq_eq_false_iff_ne.mpr (by omega)
  have n6 : (c == 110) = false := beq_eq_false_iff_ne.mpr (by omega)
  have t0 : ((s.size : Int) == 0) = false := beq_eq_false_iff_ne.mpr (by omega)
  have i0 : (0 : Int) < (s.size : Int) := by omega
  have e0 : ¬ s = ByteArray.empty := fun h => by rw [h] at h0; simp at h0
  clear hb0 hs hn hc hf
  go_enter Tryz.func22, Tryz.ntmps22
  go_wp2_with (first | (go_at_call 37; (with_reducible refine RC.out.mono ?_); rintro e w' ⟨rfl, rfl⟩) | (go_at_call 27; (with_reducible refine GC.out.mono ?_); rintro e w' ⟨g, rfl, hg, ⟨x, y, q3, q4⟩, f3, f4, hb⟩; have HBT := Lib.hid hb; have HG := Lib.hid hg; clear hb hg))
  go_ret3
  refine ⟨g, rfl, ?_, ?_, ?_⟩
  · exact World.cell?_setCell_same' _ _ _ (by simp [go_sem, q3, q4])
  · simp [go_sem, q3, q4]
  · have := HG.out
    have := HLT.out
    exact (HBT.out.setCell (by show b ≤ g; omega) _).setCell (by show b ≤ g; omega) _
end Go.Proofs.YtjemobfhlfejlaaGreatDoor.Dc
