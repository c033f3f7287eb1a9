/- Walks and plain laws on the way to FnFjFloatNear. No condition but what each lemma states. -/
import Derived.Test.YtjemobfhlfejlaaGreatDoorFx6
import Derived.Test.YtjemobfhlfejlaaGreatDoorFbA
import Derived.Test.YtjemobfhlfejlaaGreatDoorProg
import Derived.WalkKit
import Derived.Below
import Derived.Lib.Hide
import Derived.Lib.SmallJoins
import Derived.Deep.LoopGhost
import Derived.Deep.QuietTactic
import Derived.BigQuiet
import Derived.Deep.CutBlock
import Derived.Deep.DeepCutAuto
import Derived.RowKit3
import Derived.KernelRfl
import Derived.IntWalk
set_option linter.unusedVariables false
set_option linter.unusedSimpArgs false
namespace Go.Proofs.YtjemobfhlfejlaaGreatDoor.Sp
open Go Go.RowKit Go.Proofs.YtjemobfhlfejlaaGreatDoorW.PrintWords Go.Proofs.YtjemobfhlfejlaaGreatDoorW.PrintLast Go.Proofs.YtjemobfhlfejlaaGreatDoorW.PrintMore Go.Proofs.YtjemobfhlfejlaaGreatDoor.PFnFjFloatNear
def nv : List Int → Nat
  | [] => 0
  | x :: xs => x.toNat + 4294967296 * nv xs
def Dg (xs : List Int) : Prop := ∀ x ∈ xs, 0 ≤ x ∧ x < 4294967296
structure Nm (xs : List Int) : Prop where
  dg : Dg xs
  top : xs ≠ [] → xs.getLast? ≠ some 0
theorem nv_app (xs ys : List Int) : nv (xs ++ ys) = nv xs + 4294967296 ^ xs.length * nv ys := by
  induction xs with
  | nil => simp [nv]
  | cons x xs ih =>
    rw [List.cons_append, nv, ih, nv, List.length_cons, Nat.pow_succ, Nat.mul_add, Nat.add_assoc]
    congr 2
    rw [← Nat.mul_assoc, Nat.mul_comm 4294967296]
theorem nv_lt {xs : List Int} (h : Dg xs) : nv xs < 4294967296 ^ xs.length := by
  induction xs with
  | nil => simp [nv]
  | cons x xs ih =>
    have h1 := h x (by simp)
    have h2 := ih (fun y hy => h y (by simp [hy]))
    rw [nv, List.length_cons, Nat.pow_succ]
    generalize 4294967296 ^ xs.length = A at *
    omega
theorem nv_ge {xs : List Int} (h : Nm xs) (hne : xs ≠ []) : 4294967296 ^ (xs.length - 1) ≤ nv xs := by
  obtain ⟨ys, y, rfl⟩ : ∃ ys y, xs = ys ++ [y] := ⟨xs.dropLast, xs.getLast hne, (List.dropLast_concat_getLast hne).symm⟩
  have ht := h.top hne
  rw [List.getLast?_concat] at ht
  have hy := h.dg y (by simp)
  have : 1 ≤ y.toNat := by
    have : y ≠ 0 := fun e => ht (by rw [e])
    omega
  rw [nv_app, List.length_append, List.length_singleton, Nat.add_sub_cancel, nv, nv, Nat.mul_zero, Nat.add_zero]
  have := Nat.mul_le_mul_left (4294967296 ^ ys.length) this
  omega
theorem rd_is (xs : List Int) (i : Nat) : rd xs (i : Int) = xs.getD i 0 := by unfold rd; rw [Int.toNat_natCast]
theorem dg_get {xs : List Int} (h : Dg xs) {i : Nat} (hi : i < xs.length) : 0 ≤ xs.getD i 0 ∧ xs.getD i 0 < 4294967296 := by
  rw [List.getD_eq_getElem?_getD, List.getElem?_eq_getElem hi]
  exact h _ (List.getElem_mem hi)
theorem take_next {xs : List Int} {i : Nat} (hi : i < xs.length) : xs.take (i + 1) = xs.take i ++ [xs.getD i 0] := by
  rw [List.take_succ_eq_append_getElem hi, List.getD_eq_getElem?_getD, List.getElem?_eq_getElem hi]
  rfl
theorem u64w {x : Int} (h0 : 0 ≤ x) (h1 : x < 18446744073709551616) : IntKind.u64.wrap x = x := by simp [IntKind.wrap, IntKind.bits, IntKind.signed]; omega
theorem nv_step {A c x m n u v N O a B : Nat} (hv : N * m + a = O + A * c) (q : B * v + u = n) (hn : n = c + x * m) : (N + A * (x + B * 0)) * m + a = O + A * (u + B * 0) + A * B * v := by
  have f1 : A * (B * v + u) = A * u + A * B * v := by rw [Nat.mul_add, Nat.mul_assoc, Nat.add_comm]
  have f2 : A * (c + x * m) = A * c + A * x * m := by rw [Nat.mul_add, Nat.mul_assoc]
  have f3 : (N + A * (x + B * 0)) * m = N * m + A * x * m := by rw [Nat.mul_zero, Nat.add_zero, Nat.add_mul]
  have f4 : A * (u + B * 0) = A * u := by rw [Nat.mul_zero, Nat.add_zero]
  rw [q, hn, f2] at f1
  rw [f3, f4]
  generalize A * x * m = X at *
  generalize A * u = Y at *
  generalize A * B * v = Z at *
  generalize A * c = W at *
  generalize N * m = V at *
  omega
theorem times_l0 {xs : List Int} {m : Nat} (hx : Nm xs) (hm : m < 4294967296) (hm1 : 1 ≤ m) (hl : xs.length < 1000000) (a : Nat) :
    ∀ d i : Nat, ∀ k : Nat, ∀ out : List Int, ∀ c : Nat, i + d = xs.length → d < k → out.length = i → Dg out → c < 4294967296 → (i = xs.length → 0 < i → c = 0 → out.getLast? ≠ some 0) →
      nv (xs.take i) * m + a = nv out + 4294967296 ^ i * c →
      ∃ r, spec_natural_times.l0 k xs (m : Int) out (c : Int) (i : Int) = some r ∧ nv r = nv xs * m + a ∧ Nm r ∧ r.length ≤ xs.length + 1 := by
  intro d
  induction d with
  | zero =>
    intro i k out c hi hk ho hd hc ht hv
    obtain ⟨k, rfl⟩ : ∃ m, k = m + 1 := ⟨k - 1, by omega⟩
    have hii : i = xs.length := by omega
    rw [hii, List.take_length] at hv
    simp only [spec_natural_times.l0]
    rw [if_neg (by omega)]
    by_cases c0 : c = 0
    · subst c0
      rw [if_neg (by omega)]
      refine ⟨out, rfl, by omega, ⟨hd, fun hne => ?_⟩, by omega⟩
      exact ht hii (by
        rcases Nat.eq_zero_or_pos i with e | e
        · exact absurd (List.length_eq_zero_iff.mp (by omega)) hne
        · exact e) rfl
    · rw [if_pos (by omega), if_pos (by omega)]
      have ec : (c : Int) % 4294967296 = (c : Int) := by omega
      rw [ec]
      refine ⟨out ++ [(c : Int)], rfl, ?_, ⟨fun y hy => ?_, fun _ => ?_⟩, by rw [List.length_append, List.length_singleton]; omega⟩
      · rw [nv_app, nv, nv, ho, hii, Int.toNat_natCast, Nat.mul_zero, Nat.add_zero]; omega
      · rcases List.mem_append.mp hy with h | h
        · exact hd y h
        · have := List.mem_singleton.mp h; omega
      · rw [List.getLast?_concat]
        intro h
        have := Option.some.inj h
        omega
  | succ d ih =>
    intro i k out c hi hk ho hd hc ht hv
    obtain ⟨k, rfl⟩ : ∃ m, k = m + 1 := ⟨k - 1, by omega⟩
    have hil : i < xs.length := by omega
    obtain ⟨x, hx0⟩ : ∃ x : Nat, xs.getD i 0 = (x : Int) := ⟨(xs.getD i 0).toNat, by have := dg_get hx.dg hil; omega⟩
    have xb : x < 4294967296 := by have := dg_get hx.dg hil; omega
    have pb : x * m ≤ 4294967295 * 4294967295 := Nat.mul_le_mul (by omega) (by omega)
    simp only [spec_natural_times.l0]
    rw [if_pos (by omega), if_pos (by omega), if_pos (by omega), rd_is, hx0]
    have w3 : IntKind.u64.wrap (x : Int) = (x : Int) := u64w (by omega) (by omega)
    have w4 : IntKind.u64.wrap (m : Int) = (m : Int) := u64w (by omega) (by omega)
    rw [w3, w4]
    have e1 : (x : Int) * (m : Int) = ((x * m : Nat) : Int) := by simp
    obtain ⟨n, hn⟩ : ∃ n, n = c + x * m := ⟨_, rfl⟩
    have e2 : (c : Int) + ((x * m : Nat) : Int) = (n : Int) := by omega
    have w1 : IntKind.u64.wrap ((x * m : Nat) : Int) = ((x * m : Nat) : Int) := u64w (by omega) (by omega)
    have w2 : IntKind.u64.wrap (n : Int) = (n : Int) := u64w (by omega) (by omega)
    rw [e1, w1]
    have e3 : (n : Int) % 4294967296 = ((n % 4294967296 : Nat) : Int) := by omega
    have e4 : (n : Int) / 4294967296 = ((n / 4294967296 : Nat) : Int) := by omega
    have e5 : wrap64 ((i : Int) + 1) = ((i + 1 : Nat) : Int) := by unfold wrap64; omega
    rw [e2, w2, e3, e4, e5]
    refine ih (i + 1) k _ _ (by omega) (by omega) (by rw [List.length_append, List.length_singleton]; omega) ?_ (by omega) ?_ ?_
    · intro y hy
      rcases List.mem_append.mp hy with h | h
      · exact hd y h
      · have := List.mem_singleton.mp h; omega
    · intro hlast _ hc0
      have hlen : xs.length - 1 = i := by rw [← hlast]; exact Nat.add_sub_cancel i 1
      rw [List.getLast?_concat]
      intro h
      have h1 := Option.some.inj h
      have n0 : n = 0 := by omega
      have xz : x * m = 0 := by omega
      rcases Nat.mul_eq_zero.mp xz with h | h
      · subst h
        refine hx.top (fun e => by rw [e] at hil; simp at hil) ?_
        rw [List.getLast?_eq_getElem?, hlen, List.getElem?_eq_getElem hil]
        rw [List.getD_eq_getElem?_getD, List.getElem?_eq_getElem hil] at hx0
        exact congrArg some hx0
      · omega
    · rw [take_next hil, nv_app, nv, nv, nv_app, nv, nv, List.length_take, Nat.min_eq_left (by omega), ho, hx0, Int.toNat_natCast, Int.toNat_natCast, Nat.pow_succ]
      exact nv_step hv (Nat.div_add_mod n 4294967296) hn
theorem times_f {xs : List Int} {m a : Nat} (hx : Nm xs) (hm : m < 4294967296) (hm1 : 1 ≤ m) (ha : a < 4294967296) (hl : xs.length < 1000000) {k : Nat} (hk : xs.length < k) :
    ∃ r, spec_natural_times.f k xs (m : Int) (a : Int) = some r ∧ nv r = nv xs * m + a ∧ Nm r ∧ r.length ≤ xs.length + 1 := by
  unfold spec_natural_times.f
  have e : wrap64 ((xs.length : Int) + 1) = ((xs.length + 1 : Nat) : Int) := by unfold wrap64; omega
  rw [e, if_pos (by omega), Int.toNat_natCast, if_pos (by omega), u64w (by omega) (by omega)]
  exact times_l0 hx hm hm1 hl a xs.length 0 k [] a (by omega) hk rfl (fun y hy => by simp at hy) ha (fun _ h => by omega) (by simp [nv])
theorem times_f0 {xs : List Int} {m : Nat} (hx : Nm xs) (hm : m < 4294967296) (hm1 : 1 ≤ m) (hl : xs.length < 1000000) {k : Nat} (hk : xs.length < k) :
    ∃ r, spec_natural_times.f k xs (m : Int) 0 = some r ∧ nv r = nv xs * m ∧ Nm r ∧ r.length ≤ xs.length + 1 := times_f (a := 0) hx hm hm1 (by decide) hl hk
theorem Nm.nil : Nm [] := ⟨fun y hy => by simp at hy, fun h => absurd rfl h⟩
def tdv (s : ByteArray) : Nat → Nat := Dc.dv (fun k => Dc.bt s k - 48) 0
theorem btI (s : ByteArray) (i : Nat) (h : i < s.size) : Go.Proofs.YtjemobfhlfejlaaGreatDoorW.PrintWords.bt s (i : Int) = ((Dc.bt s i : Nat) : Int) := by
  unfold Go.Proofs.YtjemobfhlfejlaaGreatDoorW.PrintWords.bt Dc.bt
  simp only [Int.toNat_natCast]
  rw [dif_pos h, dif_pos h]
theorem digits_l0 {s : ByteArray} (hs : s.size ≤ 1000) (hd : ∀ i, i < s.size → Dc.IsD (Dc.bt s i)) :
    ∀ d i : Nat, ∀ k : Nat, ∀ xs : List Int, i + d = s.size → 2000 + d < k → Nm xs → xs.length ≤ i → nv xs = tdv s i →
      ∃ r, spec_ofDigits.l0 k s xs (i : Int) = some r ∧ nv r = tdv s s.size ∧ Nm r ∧ r.length ≤ s.size := by
  intro d
  induction d with
  | zero =>
    intro i k xs hi hk hx hl hv
    obtain ⟨k, rfl⟩ : ∃ m, k = m + 1 := ⟨k - 1, by omega⟩
    simp only [spec_ofDigits.l0]
    rw [if_neg (by omega)]
    exact ⟨xs, rfl, by rw [hv, show i = s.size by omega], hx, by omega⟩
  | succ d ih =>
    intro i k xs hi hk hx hl hv
    obtain ⟨k, rfl⟩ : ∃ m, k = m + 1 := ⟨k - 1, by omega⟩
    simp only [spec_ofDigits.l0]
    rw [if_pos (by omega), if_pos (by omega), btI s i (by omega)]
    have hdi := hd i (by omega)
    obtain ⟨c, hc⟩ : ∃ c, c = Dc.bt s i - 48 := ⟨_, rfl⟩
    have c9 : c ≤ 9 := by have := hdi.2; omega
    have e : ((Dc.bt s i : Nat) : Int) - 48 = (c : Int) := by have := hdi.1; omega
    have e2 : (c : Int) % 256 = (c : Int) := by omega
    rw [e, e2]
    obtain ⟨r, h1, h2, h3, h4⟩ := times_f (xs := xs) (m := 10) (a := c) hx (by decide) (by decide) (by omega) (by omega) (k := k) (by omega)
    have h1' : spec_natural_times.f k xs 10 (c : Int) = some r := h1
    have e5 : wrap64 ((i : Int) + 1) = ((i + 1 : Nat) : Int) := by unfold wrap64; omega
    rw [h1', Option.bind_some, e5]
    refine ih (i + 1) k r (by omega) (by omega) h3 (Nat.le_trans h4 (Nat.add_le_add_right hl 1)) ?_
    rw [h2, hv]
    unfold tdv
    rw [Dc.dv, Nat.zero_add, hc]
theorem digits_f {s : ByteArray} (hs : s.size ≤ 1000) (hd : ∀ i, i < s.size → Dc.IsD (Dc.bt s i)) {k : Nat} (hk : 4000 ≤ k) :
    ∃ r, spec_ofDigits.f k s = some r ∧ nv r = tdv s s.size ∧ Nm r ∧ r.length ≤ s.size :=
  digits_l0 hs hd s.size 0 k [] (by omega) (by omega) Nm.nil (by simp) rfl
theorem tens_l1 : ∀ n : Nat, ∀ k : Nat, ∀ xs : List Int, 3000 + n < k → Nm xs → xs.length + n ≤ 3000 →
    ∃ r, spec_natural_tens.l1 k xs (n : Int) = some r ∧ nv r = nv xs * 10 ^ n ∧ Nm r ∧ r.length ≤ xs.length + n := by
  intro n
  induction n with
  | zero =>
    intro k xs hk hx hl
    obtain ⟨k, rfl⟩ : ∃ m, k = m + 1 := ⟨k - 1, by omega⟩
    simp only [spec_natural_tens.l1]
    rw [if_neg (by omega)]
    exact ⟨xs, rfl, by simp, hx, by omega⟩
  | succ n ih =>
    intro k xs hk hx hl
    obtain ⟨k, rfl⟩ : ∃ m, k = m + 1 := ⟨k - 1, by omega⟩
    simp only [spec_natural_tens.l1]
    rw [if_pos (by omega)]
    obtain ⟨r, h1, h2, h3, h4⟩ := times_f0 (xs := xs) (m := 10) hx (by decide) (by decide) (by omega) (k := k) (by omega)
    have h1' : spec_natural_times.f k xs 10 0 = some r := h1
    have e5 : wrap64 (((n + 1 : Nat) : Int) - 1) = (n : Int) := by unfold wrap64; omega
    rw [h1', Option.bind_some, e5]
    obtain ⟨q, g1, g2, g3, g4⟩ := ih k r (by omega) h3 (by omega)
    exact ⟨q, g1, by rw [g2, h2, Nat.pow_succ, Nat.mul_assoc, Nat.mul_comm 10], g3, by omega⟩
theorem tens_f : ∀ n : Nat, ∀ k : Nat, ∀ xs : List Int, 4000 + n < k → Nm xs → xs.length + n ≤ 3000 →
    ∃ r, spec_natural_tens.f k xs (n : Int) = some r ∧ nv r = nv xs * 10 ^ n ∧ Nm r ∧ r.length ≤ xs.length + n := by
  intro n
  induction n using Nat.strongRecOn with
  | _ n ih =>
    intro k xs hk hx hl
    obtain ⟨k, rfl⟩ : ∃ m, k = m + 1 := ⟨k - 1, by omega⟩
    unfold spec_natural_tens.f
    simp only [spec_natural_tens.l0]
    by_cases c : 9 ≤ n
    · rw [if_pos (by omega)]
      obtain ⟨r, h1, h2, h3, h4⟩ := times_f0 (xs := xs) (m := 1000000000) hx (by decide) (by decide) (by omega) (k := k) (by omega)
      have h1' : spec_natural_times.f k xs 1000000000 0 = some r := h1
      have e5 : wrap64 ((n : Int) - 9) = ((n - 9 : Nat) : Int) := by unfold wrap64; omega
      rw [h1', Option.bind_some, e5]
      obtain ⟨q, g1, g2, g3, g4⟩ := ih (n - 9) (by omega) k r (by omega) h3 (by omega)
      refine ⟨q, g1, ?_, g3, by omega⟩
      rw [g2, h2, Nat.mul_assoc]
      congr 1
      rw [show (1000000000 : Nat) = 10 ^ 9 from rfl, ← Nat.pow_add]
      congr 1
      omega
    · rw [if_neg (by omega)]
      exact tens_l1 n k xs (by omega) hx hl
end Go.Proofs.YtjemobfhlfejlaaGreatDoor.Sp
namespace Go.Proofs.YtjemobfhlfejlaaGreatDoor.Sp
open Go Go.RowKit Go.Proofs.YtjemobfhlfejlaaGreatDoorW.PrintWords Go.Proofs.YtjemobfhlfejlaaGreatDoorW.PrintLast Go.Proofs.YtjemobfhlfejlaaGreatDoorW.PrintMore Go.Proofs.YtjemobfhlfejlaaGreatDoor.PFnFjFloatNear
theorem nv_zero {xs : List Int} (h : Nm xs) (h0 : nv xs = 0) : xs = [] := by
  apply Classical.byContradiction
  intro c
  have := nv_ge h c
  have p : 0 < 4294967296 ^ (xs.length - 1) := Nat.pow_pos (by decide)
  omega
theorem nv_rep (n : Nat) (xs : List Int) : nv (List.replicate n 0 ++ xs) = 4294967296 ^ n * nv xs := by
  rw [nv_app, List.length_replicate]
  have : nv (List.replicate n 0) = 0 := by
    induction n with
    | zero => rfl
    | succ n ih => rw [List.replicate_succ, nv, ih]; rfl
  rw [this, Nat.zero_add]
theorem pow_big (n : Nat) : 4294967296 ^ (n / 32) * 2 ^ (n % 32) = 2 ^ n := by
  rw [show (4294967296 : Nat) = 2 ^ 32 from rfl, ← Nat.pow_mul, ← Nat.pow_add, Nat.div_add_mod]
theorem shift_f {xs : List Int} (hx : Nm xs) {n : Nat} (hn : n ≤ 3000) (hl : xs.length < 100000) {k : Nat} (hk : xs.length < k) :
    ∃ r, spec_natural_shift.f k xs (n : Int) = some r ∧ nv r = nv xs * 2 ^ n ∧ Nm r ∧ r.length ≤ xs.length + 1 + n / 32 := by
  unfold spec_natural_shift.f
  by_cases hz : xs.length = 0
  · rw [if_pos (by omega)]
    have : xs = [] := List.length_eq_zero_iff.mp hz
    subst this
    exact ⟨[], rfl, by simp [nv], hx, by simp⟩
  · rw [if_neg (by omega)]
    have e1 : Int.tmod (n : Int) 32 = ((n % 32 : Nat) : Int) := by rw [Int.tmod_eq_emod_of_nonneg (by omega)]; omega
    have e2 : Int.tdiv (n : Int) 32 = ((n / 32 : Nat) : Int) := by rw [Int.tdiv_eq_ediv_of_nonneg (by omega)]; omega
    have e3 : wrap64 ((n / 32 : Nat) : Int) = ((n / 32 : Nat) : Int) := by unfold wrap64; omega
    have pb : 2 ^ (n % 32) < 4294967296 := by
      have : 2 ^ (n % 32) ≤ 2 ^ 31 := Nat.pow_le_pow_right (by decide) (by omega)
      omega
    have pp : 1 ≤ 2 ^ (n % 32) := Nat.pow_pos (by decide)
    have e4 : shl .u32 1 ((n % 32 : Nat) : Int) = ((2 ^ (n % 32) : Nat) : Int) := by
      unfold shl
      rw [Int.toNat_natCast, show min (n % 32) IntKind.u32.bits = n % 32 by show min (n % 32) 32 = n % 32; omega, Int.one_mul]
      have : ((2 : Int) ^ (n % 32)) = ((2 ^ (n % 32) : Nat) : Int) := by simp
      rw [this]
      simp [IntKind.wrap, IntKind.bits, IntKind.signed]; omega
    rw [e1, e2, e3, e4, if_pos (by omega)]
    obtain ⟨r, h1, h2, h3, h4⟩ := times_f0 (xs := xs) (m := 2 ^ (n % 32)) hx pb pp (by omega) hk
    rw [h1, Option.bind_some, if_pos (by omega), if_pos (by rw [Int.toNat_natCast]; omega), Option.bind_some, Int.toNat_natCast, if_pos (by rw [List.length_replicate]; omega)]
    refine ⟨_, rfl, ?_, ⟨fun y hy => ?_, fun hne => ?_⟩, ?_⟩
    · rw [nv_rep, h2, ← pow_big n]; ac_rfl
    · rcases List.mem_append.mp hy with h | h
      · have := List.eq_of_mem_replicate h; omega
      · exact h3.dg y h
    · have hr : r ≠ [] := fun e => by
        rw [e] at h2
        have h0 : nv xs * 2 ^ (n % 32) = 0 := h2.symm
        rcases Nat.mul_eq_zero.mp h0 with h | h
        · exact hz (by rw [nv_zero hx h]; rfl)
        · omega
      rw [List.getLast?_append]
      have ht := h3.top hr
      cases hg : r.getLast? with
      | none => exact absurd (List.getLast?_eq_none_iff.mp hg) hr
      | some v => rw [hg] at ht; exact ht
    · rw [List.length_append, List.length_replicate]; omega
theorem ofWord_f {m : Nat} (hm : m < 18446744073709551616) {k : Nat} (hk : 3 < k) : ∃ r, spec_ofWord.f k (m : Int) = some r ∧ nv r = m ∧ Nm r ∧ r.length ≤ 2 := by
  obtain ⟨k, rfl⟩ : ∃ j, k = j + 3 := ⟨k - 3, by omega⟩
  unfold spec_ofWord.f
  obtain ⟨lo, hlo⟩ : ∃ lo, lo = m % 4294967296 := ⟨_, rfl⟩
  obtain ⟨hi, hhi⟩ : ∃ hi, hi = m / 4294967296 := ⟨_, rfl⟩
  have e1 : (m : Int) % 4294967296 = (lo : Int) := by omega
  have e2 : (m : Int) / 4294967296 % 4294967296 = (hi : Int) := by omega
  rw [e1, e2]
  have w2 : wrap64 ((([(lo : Int), (hi : Int)] : List Int).length : Int) - 1) = 1 := by unfold wrap64; simp
  have w1 : wrap64 ((([(lo : Int)] : List Int).length : Int) - 1) = 0 := by unfold wrap64; simp
  simp only [spec_ofWord.l0]
  rw [if_pos (by simp), w2, if_pos (by decide), if_pos (by simp)]
  have r1 : rd [(lo : Int), (hi : Int)] 1 = (hi : Int) := rfl
  rw [r1]
  by_cases hz : hi = 0
  · rw [if_pos (by omega), if_pos (by simp)]
    have t1 : ([(lo : Int), (hi : Int)] : List Int).take (1 : Int).toNat = [(lo : Int)] := rfl
    rw [t1, if_pos (by simp), w1, if_pos (by decide), if_pos (by simp)]
    have r0 : rd [(lo : Int)] 0 = (lo : Int) := rfl
    rw [r0]
    by_cases hz2 : lo = 0
    · rw [if_pos (by omega), if_pos (by simp)]
      have t0 : ([(lo : Int)] : List Int).take (0 : Int).toNat = [] := rfl
      rw [t0, if_neg (by simp)]
      exact ⟨[], rfl, by show 0 = m; omega, Nm.nil, by simp⟩
    · rw [if_neg (show ¬ (lo : Int) = 0 by omega)]
      refine ⟨_, rfl, by rw [nv, nv, Int.toNat_natCast]; omega, ⟨fun y hy => ?_, fun _ h => ?_⟩, by simp⟩
      · have := List.mem_singleton.mp hy; omega
      · simp at h; omega
  · rw [if_neg (by omega)]
    refine ⟨_, rfl, by rw [nv, nv, nv, Int.toNat_natCast, Int.toNat_natCast]; omega, ⟨fun y hy => ?_, fun _ h => ?_⟩, by simp⟩
    · simp at hy; omega
    · simp at h; omega
def sg (a b : Nat) : Int := if a < b then -1 else if b < a then 1 else 0
theorem against_l0 {xs ys : List Int} (hx : Dg xs) (hy : Dg ys) (hl : xs.length = ys.length) (hb : xs.length < 100000) :
    ∀ i k : Nat, i ≤ xs.length → i < k → nv (xs.drop i) = nv (ys.drop i) → spec_natural_against.l0 k xs ys ((i : Int) - 1) = some (sg (nv xs) (nv ys)) := by
  intro i
  induction i with
  | zero =>
    intro k hi hk hv
    obtain ⟨k, rfl⟩ : ∃ m, k = m + 1 := ⟨k - 1, by omega⟩
    simp only [spec_natural_against.l0]
    rw [if_neg (by omega)]
    rw [List.drop_zero, List.drop_zero] at hv
    unfold sg
    rw [hv, if_neg (Nat.lt_irrefl _), if_neg (Nat.lt_irrefl _)]
  | succ i ih =>
    intro k hi hk hv
    obtain ⟨k, rfl⟩ : ∃ m, k = m + 1 := ⟨k - 1, by omega⟩
    simp only [spec_natural_against.l0]
    have e : ((i + 1 : Nat) : Int) - 1 = (i : Int) := by omega
    rw [e, if_pos (by omega), if_pos (by omega), if_pos (by omega), if_pos (by omega), rd_is, rd_is]
    have dx := dg_get hx (i := i) (by omega)
    have dy := dg_get hy (i := i) (by omega)
    have tx : nv xs = nv (xs.take i) + 4294967296 ^ i * ((xs.getD i 0).toNat + 4294967296 * nv (xs.drop (i + 1))) := by
      conv => lhs; rw [← List.take_append_drop i xs]
      rw [nv_app, List.length_take, Nat.min_eq_left (by omega), List.drop_eq_getElem_cons (by omega), nv, List.getD_eq_getElem?_getD, List.getElem?_eq_getElem (by omega)]
      rfl
    have ty : nv ys = nv (ys.take i) + 4294967296 ^ i * ((ys.getD i 0).toNat + 4294967296 * nv (ys.drop (i + 1))) := by
      conv => lhs; rw [← List.take_append_drop i ys]
      rw [nv_app, List.length_take, Nat.min_eq_left (by omega), List.drop_eq_getElem_cons (by omega), nv, List.getD_eq_getElem?_getD, List.getElem?_eq_getElem (by omega)]
      rfl
    have lx := nv_lt (xs := xs.take i) (fun y h => hx y (List.mem_of_mem_take h))
    have ly := nv_lt (xs := ys.take i) (fun y h => hy y (List.mem_of_mem_take h))
    rw [List.length_take, Nat.min_eq_left (by omega)] at lx ly
    rw [hv] at tx
    by_cases c : xs.getD i 0 < ys.getD i 0
    · rw [if_pos c]
      have : nv xs < nv ys := by
        rw [tx, ty]
        have h1 : (xs.getD i 0).toNat + 4294967296 * nv (ys.drop (i + 1)) + 1 ≤ (ys.getD i 0).toNat + 4294967296 * nv (ys.drop (i + 1)) := by omega
        have h2 := Nat.mul_le_mul_left (4294967296 ^ i) h1
        rw [Nat.mul_add, Nat.mul_one] at h2
        generalize 4294967296 ^ i = A at *
        omega
      unfold sg
      rw [if_pos this]
    · rw [if_neg c]
      by_cases d : xs.getD i 0 > ys.getD i 0
      · rw [if_pos d]
        have : nv ys < nv xs := by
          rw [tx, ty]
          have h1 : (ys.getD i 0).toNat + 4294967296 * nv (ys.drop (i + 1)) + 1 ≤ (xs.getD i 0).toNat + 4294967296 * nv (ys.drop (i + 1)) := by omega
          have h2 := Nat.mul_le_mul_left (4294967296 ^ i) h1
          rw [Nat.mul_add, Nat.mul_one] at h2
          generalize 4294967296 ^ i = A at *
          omega
        unfold sg
        rw [if_neg (by omega), if_pos this]
      · rw [if_neg d]
        have ee : wrap64 ((i : Int) - 1) = (i : Int) - 1 := by unfold wrap64; omega
        rw [ee]
        refine ih k (by omega) (by omega) ?_
        rw [List.drop_eq_getElem_cons (show i < xs.length by omega), List.drop_eq_getElem_cons (show i < ys.length by omega), nv, nv, hv]
        have : xs[i] = ys[i] := by
          have a1 : xs.getD i 0 = xs[i] := by rw [List.getD_eq_getElem?_getD, List.getElem?_eq_getElem (by omega)]; rfl
          have a2 : ys.getD i 0 = ys[i] := by rw [List.getD_eq_getElem?_getD, List.getElem?_eq_getElem (by omega)]; rfl
          rw [← a1, ← a2]; omega
        rw [this]
theorem against_f {xs ys : List Int} (hx : Nm xs) (hy : Nm ys) (h1 : xs.length < 100000) (h2 : ys.length < 100000) {k : Nat} (hk : xs.length < k) : spec_natural_against.f k xs ys = some (sg (nv xs) (nv ys)) := by
  unfold spec_natural_against.f
  have less : ∀ {us bs : List Int}, Nm us → Nm bs → us.length < bs.length → nv us < nv bs := by
    intro us bs ha hb h
    have l := nv_lt ha.dg
    have g := nv_ge hb (fun e => by rw [e] at h; simp at h)
    have p : 4294967296 ^ us.length ≤ 4294967296 ^ (bs.length - 1) := Nat.pow_le_pow_right (by decide) (by omega)
    exact Nat.lt_of_lt_of_le l (Nat.le_trans p g)
  by_cases c : xs.length = ys.length
  · rw [if_pos (by omega)]
    have e : wrap64 ((xs.length : Int) - 1) = (xs.length : Int) - 1 := by unfold wrap64; omega
    rw [e]
    refine against_l0 hx.dg hy.dg c h1 xs.length k (Nat.le_refl _) hk ?_
    rw [List.drop_length, c, List.drop_length]
  · rw [if_neg (by omega)]
    by_cases d : xs.length < ys.length
    · rw [if_pos (by omega)]
      unfold sg
      rw [if_pos (less hx hy d)]
    · rw [if_neg (by omega)]
      have := less hy hx (by omega)
      unfold sg
      rw [if_neg (by omega), if_pos this]
end Go.Proofs.YtjemobfhlfejlaaGreatDoor.Sp
namespace Go.Proofs.YtjemobfhlfejlaaGreatDoor.Dc
def dig (x : Int) : Nat := (x - 48).toNat
def IsDig (x : Int) : Prop := 48 ≤ x ∧ x ≤ 57
def val : List Int → Nat
  | [] => 0
  | x :: b => dig x * 10 ^ b.length + val b
theorem dig_lt {x : Int} (h : IsDig x) : dig x ≤ 9 := by unfold dig; unfold IsDig at h; omega
theorem val_lt : ∀ {b : List Int}, (∀ x ∈ b, IsDig x) → val b < 10 ^ b.length
  | [], _ => by simp [val]
  | x :: b, h => by
    have h1 := dig_lt (h x (by simp))
    have h2 := val_lt (b := b) (fun y hy => h y (by simp [hy]))
    rw [val, List.length_cons, Nat.pow_succ]
    have h3 : dig x * 10 ^ b.length ≤ 9 * 10 ^ b.length := Nat.mul_le_mul_right _ h1
    omega
theorem val_ge {x : Int} {b : List Int} (h : 49 ≤ x) : 10 ^ b.length ≤ val (x :: b) := by
  rw [val]
  have h1 : 1 ≤ dig x := by unfold dig; omega
  have h2 : 1 * 10 ^ b.length ≤ dig x * 10 ^ b.length := Nat.mul_le_mul_right _ h1
  omega
def carry (k : Nat) (b : List Int) : Nat := val b * 2 ^ k / 10 ^ b.length
theorem carry_nil (k : Nat) : carry k [] = 0 := by simp [carry, val]
theorem carry_cons (k : Nat) (x : Int) (b : List Int) : carry k (x :: b) = (dig x * 2 ^ k + carry k b) / 10 := by
  have hp : 0 < 10 ^ b.length := Nat.pow_pos (by decide)
  unfold carry
  rw [val, List.length_cons, Nat.pow_succ, ← Nat.div_div_eq_div_mul]
  congr 1
  rw [Nat.add_mul, show dig x * 10 ^ b.length * 2 ^ k = (dig x * 2 ^ k) * 10 ^ b.length by rw [Nat.mul_assoc, Nat.mul_comm (10 ^ b.length), ← Nat.mul_assoc]]
  rw [Nat.add_comm, Nat.add_mul_div_right _ _ hp, Nat.add_comm]
theorem carry_lt {k : Nat} {b : List Int} (h : ∀ x ∈ b, IsDig x) : carry k b < 2 ^ k := by
  have hp : 0 < 10 ^ b.length := Nat.pow_pos (by decide)
  unfold carry
  rw [Nat.div_lt_iff_lt_mul hp, Nat.mul_comm (2 ^ k)]
  exact Nat.mul_lt_mul_of_pos_right (val_lt h) (Nat.pow_pos (by decide))
def pl : List Int → List Int → Bool
  | _, [] => false
  | [], _ :: _ => true
  | x :: b, y :: s => if x = y then pl b s else decide (x < y)
def Tail : List Int → Prop
  | [] => True
  | y :: s => 0 < val (y :: s) ∧ Tail s
theorem pl_true : ∀ {b s : List Int}, (∀ x ∈ b, IsDig x) → (∀ x ∈ s, IsDig x) → Tail s → pl b s = true → val b * 10 ^ s.length < val s * 10 ^ b.length
  | b, [], _, _, _, h => by simp [pl] at h
  | [], y :: s, _, _, ht, _ => by
    rw [show val [] = 0 from rfl, Nat.zero_mul]
    exact Nat.mul_pos ht.1 (by simp)
  | x :: b, y :: s, hb, hs, ht, h => by
    have vb := val_lt (b := b) (fun z hz => hb z (by simp [hz]))
    have hx := hb x (by simp)
    have hy := hs y (by simp)
    have pb : 0 < 10 ^ b.length := Nat.pow_pos (by decide)
    have ps : 0 < 10 ^ s.length := Nat.pow_pos (by decide)
    rw [pl] at h
    rw [val, val, List.length_cons, List.length_cons, Nat.pow_succ, Nat.pow_succ]
    by_cases hxy : x = y
    · rw [if_pos hxy] at h
      have ih := pl_true (fun z hz => hb z (by simp [hz])) (fun z hz => hs z (by simp [hz])) ht.2 h
      subst hxy
      have e1 : (dig x * 10 ^ b.length + val b) * (10 ^ s.length * 10) = dig x * 10 ^ b.length * 10 ^ s.length * 10 + val b * 10 ^ s.length * 10 := by rw [Nat.add_mul, Nat.mul_assoc, Nat.mul_assoc, Nat.mul_assoc, Nat.mul_assoc]
      have e2 : (dig x * 10 ^ s.length + val s) * (10 ^ b.length * 10) = dig x * 10 ^ b.length * 10 ^ s.length * 10 + val s * 10 ^ b.length * 10 := by
        rw [Nat.add_mul, ← Nat.mul_assoc, ← Nat.mul_assoc]
        congr 1
        rw [Nat.mul_assoc (dig x), Nat.mul_comm (10 ^ s.length), ← Nat.mul_assoc (dig x)]
      rw [e1, e2]
      omega
    · rw [if_neg hxy, decide_eq_true_eq] at h
      have hd : dig x + 1 ≤ dig y := by unfold dig; unfold IsDig at hx hy; omega
      have h1 : dig x * 10 ^ b.length + val b < (dig x + 1) * 10 ^ b.length := by rw [Nat.add_mul, Nat.one_mul]; omega
      have h2 : (dig x * 10 ^ b.length + val b) * (10 ^ s.length * 10) < (dig x + 1) * 10 ^ b.length * (10 ^ s.length * 10) := Nat.mul_lt_mul_of_pos_right h1 (by omega)
      have h3 : (dig x + 1) * 10 ^ b.length * (10 ^ s.length * 10) ≤ dig y * 10 ^ b.length * (10 ^ s.length * 10) := Nat.mul_le_mul_right _ (Nat.mul_le_mul_right _ hd)
      have h4 : dig y * 10 ^ b.length * (10 ^ s.length * 10) = dig y * 10 ^ s.length * (10 ^ b.length * 10) := by
        rw [Nat.mul_assoc, Nat.mul_assoc]
        congr 1
        rw [← Nat.mul_assoc, ← Nat.mul_assoc, Nat.mul_comm (10 ^ b.length)]
      have h5 : dig y * 10 ^ s.length * (10 ^ b.length * 10) ≤ (dig y * 10 ^ s.length + val s) * (10 ^ b.length * 10) := Nat.mul_le_mul_right _ (by omega)
      omega
theorem pl_false : ∀ {b s : List Int}, (∀ x ∈ b, IsDig x) → (∀ x ∈ s, IsDig x) → pl b s = false → val s * 10 ^ b.length ≤ val b * 10 ^ s.length
  | b, [], _, _, _ => by
    rw [show val [] = 0 from rfl, Nat.zero_mul]
    exact Nat.zero_le _
  | [], y :: s, _, _, h => by simp [pl] at h
  | x :: b, y :: s, hb, hs, h => by
    have vs := val_lt (b := s) (fun z hz => hs z (by simp [hz]))
    have hx := hb x (by simp)
    have hy := hs y (by simp)
    have pb : 0 < 10 ^ b.length := Nat.pow_pos (by decide)
    have ps : 0 < 10 ^ s.length := Nat.pow_pos (by decide)
    rw [pl] at h
    rw [val, val, List.length_cons, List.length_cons, Nat.pow_succ, Nat.pow_succ]
    by_cases hxy : x = y
    · rw [if_pos hxy] at h
      have ih := pl_false (fun z hz => hb z (by simp [hz])) (fun z hz => hs z (by simp [hz])) h
      subst hxy
      have e1 : (dig x * 10 ^ b.length + val b) * (10 ^ s.length * 10) = dig x * 10 ^ b.length * 10 ^ s.length * 10 + val b * 10 ^ s.length * 10 := by rw [Nat.add_mul, Nat.mul_assoc, Nat.mul_assoc, Nat.mul_assoc, Nat.mul_assoc]
      have e2 : (dig x * 10 ^ s.length + val s) * (10 ^ b.length * 10) = dig x * 10 ^ b.length * 10 ^ s.length * 10 + val s * 10 ^ b.length * 10 := by
        rw [Nat.add_mul, ← Nat.mul_assoc, ← Nat.mul_assoc]
        congr 1
        rw [Nat.mul_assoc (dig x), Nat.mul_comm (10 ^ s.length), ← Nat.mul_assoc (dig x)]
      rw [e1, e2]
      omega
    · rw [if_neg hxy, decide_eq_false_iff_not] at h
      have hd : dig y + 1 ≤ dig x := by unfold dig; unfold IsDig at hx hy; omega
      have h1 : dig y * 10 ^ s.length + val s ≤ (dig y + 1) * 10 ^ s.length := by rw [Nat.add_mul, Nat.one_mul]; omega
      have h2 : (dig y * 10 ^ s.length + val s) * (10 ^ b.length * 10) ≤ (dig y + 1) * 10 ^ s.length * (10 ^ b.length * 10) := Nat.mul_le_mul_right _ h1
      have h3 : (dig y + 1) * 10 ^ s.length * (10 ^ b.length * 10) ≤ dig x * 10 ^ s.length * (10 ^ b.length * 10) := Nat.mul_le_mul_right _ (Nat.mul_le_mul_right _ hd)
      have h4 : dig x * 10 ^ s.length * (10 ^ b.length * 10) = dig x * 10 ^ b.length * (10 ^ s.length * 10) := by
        rw [Nat.mul_assoc, Nat.mul_assoc]
        congr 1
        rw [← Nat.mul_assoc, ← Nat.mul_assoc, Nat.mul_comm (10 ^ b.length)]
      have h5 : dig x * 10 ^ b.length * (10 ^ s.length * 10) ≤ (dig x * 10 ^ b.length + val b) * (10 ^ s.length * 10) := Nat.mul_le_mul_right _ (by omega)
      omega
structure Cheat (k : Nat) (s : List Int) (delta : Nat) : Prop where
  digs : ∀ x ∈ s, IsDig x
  tail : Tail s
  is : val s = 5 ^ k
  pos : 1 ≤ s.length
  lo : 10 ^ (s.length - 1) ≤ 5 ^ k
  le : s.length ≤ k
  de : delta = k + 1 - s.length
theorem two_five (k : Nat) : 2 ^ k * 5 ^ k = 10 ^ k := by rw [← Nat.mul_pow]
theorem fills {k delta : Nat} {s : List Int} (c : Cheat k s delta) {b : List Int} {x : Int} (hx : 49 ≤ x) (h : ∀ y ∈ x :: b, IsDig y) :
    carry k (x :: b) < 10 ^ delta ∧ (pl (x :: b) s = false → 10 ^ (delta - 1) ≤ carry k (x :: b)) ∧
    (pl (x :: b) s = true → carry k (x :: b) < 10 ^ (delta - 1) ∧ (2 ≤ delta → 10 ^ (delta - 2) ≤ carry k (x :: b))) := by
  obtain ⟨c1, c2, c3, c4, c5, c6, c7⟩ := c
  have p5 : 0 < 5 ^ k := Nat.pow_pos (by decide)
  have pn : 0 < 10 ^ (x :: b).length := Nat.pow_pos (by decide)
  have pL : 0 < 10 ^ s.length := Nat.pow_pos (by decide)
  have hv := val_lt h
  have hg := val_ge (b := b) hx
  have tf := two_five k
  have hup : 5 ^ k < 10 ^ s.length := by rw [← c3]; exact val_lt c1
  have h2k : 2 ^ k ≤ 10 ^ delta := by
    have e : 10 ^ delta * 10 ^ (s.length - 1) = 10 ^ k := by rw [← Nat.pow_add]; congr 1; omega
    apply Nat.le_of_mul_le_mul_right _ p5
    rw [tf, ← e]
    exact Nat.mul_le_mul_left _ c5
  have ek : 10 ^ k = 10 ^ (delta - 1) * 10 ^ s.length := by rw [← Nat.pow_add]; congr 1; omega
  refine ⟨Nat.lt_of_lt_of_le (carry_lt h) h2k, fun hp => ?_, fun hp => ⟨?_, fun hd => ?_⟩⟩
  · have h1 := pl_false h c1 hp
    rw [c3] at h1
    unfold carry
    rw [Nat.le_div_iff_mul_le pn]
    apply Nat.le_of_mul_le_mul_right _ pL
    have h2 : 5 ^ k * 10 ^ (x :: b).length * 2 ^ k ≤ val (x :: b) * 10 ^ s.length * 2 ^ k := Nat.mul_le_mul_right _ h1
    have e1 : 5 ^ k * 10 ^ (x :: b).length * 2 ^ k = 10 ^ (delta - 1) * 10 ^ (x :: b).length * 10 ^ s.length := by
      rw [Nat.mul_right_comm, Nat.mul_comm (5 ^ k), tf, ek, Nat.mul_right_comm]
    rw [e1, Nat.mul_right_comm (val (x :: b))] at h2
    exact h2
  · have h1 := pl_true h c1 c2 hp
    rw [c3] at h1
    unfold carry
    rw [Nat.div_lt_iff_lt_mul pn]
    apply Nat.lt_of_mul_lt_mul_right (a := 10 ^ s.length)
    have h2 : val (x :: b) * 10 ^ s.length * 2 ^ k < 5 ^ k * 10 ^ (x :: b).length * 2 ^ k := Nat.mul_lt_mul_of_pos_right h1 (Nat.pow_pos (by decide))
    have e1 : 5 ^ k * 10 ^ (x :: b).length * 2 ^ k = 10 ^ (delta - 1) * 10 ^ (x :: b).length * 10 ^ s.length := by
      rw [Nat.mul_right_comm, Nat.mul_comm (5 ^ k), tf, ek, Nat.mul_right_comm]
    rw [e1, Nat.mul_right_comm (val (x :: b))] at h2
    exact h2
  · unfold carry
    rw [Nat.le_div_iff_mul_le pn]
    have h1 : 10 ^ (delta - 1) ≤ 2 ^ k := by
      apply Nat.le_of_mul_le_mul_right _ pL
      rw [← ek, ← tf]
      exact Nat.mul_le_mul_left _ (by omega)
    have h2 : 10 ^ (delta - 2) * 10 = 10 ^ (delta - 1) := by rw [← Nat.pow_succ]; congr 1; omega
    have h3 : 10 ^ b.length * 10 = 10 ^ (x :: b).length := by rw [← Nat.pow_succ]; rfl
    have h4 : 10 ^ b.length * 2 ^ k ≤ val (x :: b) * 2 ^ k := Nat.mul_le_mul_right _ hg
    have h5 : 10 ^ b.length * 10 ^ (delta - 1) ≤ 10 ^ b.length * 2 ^ k := Nat.mul_le_mul_left _ h1
    have h6 : 10 ^ (delta - 2) * 10 ^ (x :: b).length = 10 ^ b.length * 10 ^ (delta - 1) := by rw [← h2, ← h3, Nat.mul_comm (10 ^ (delta - 2)), Nat.mul_assoc, Nat.mul_comm 10]
    omega
end Go.Proofs.YtjemobfhlfejlaaGreatDoor.Dc
namespace Go.Proofs.YtjemobfhlfejlaaGreatDoor.Dc
open Go Go.RowKit
def dcells (a : List Int) (nd dp : Int) (ng tr : Bool) : Array Value := (a.map (Value.int .u8) ++ ([.int .i64 nd, .int .i64 dp, .bool ng, .bool tr] : List Value)).toArray
structure D (w : World) (b : Nat) (a : List Int) (nd dp : Int) (ng tr : Bool) : Prop where
  at_ : w.heap[b]? = some (.cells (dcells a nd dp ng tr) 149 (0, 0))
  len : a.length = 800
theorem dcells_d {a : List Int} (h : a.length = 800) (nd dp : Int) (ng tr : Bool) (i : Nat) (hi : i < 800) : (dcells a nd dp ng tr)[i]? = some (.int .u8 (a.getD i 0)) := by
  unfold dcells
  rw [List.getElem?_toArray, List.getElem?_append_left (by rw [List.length_map]; omega), List.getElem?_map, List.getD_eq_getElem?_getD, List.getElem?_eq_getElem (by omega)]
  rfl
theorem dcells_f {a : List Int} (h : a.length = 800) (nd dp : Int) (ng tr : Bool) (i : Nat) (v : Value) (hv : ([.int .i64 nd, .int .i64 dp, .bool ng, .bool tr] : List Value)[i]? = some v) : (dcells a nd dp ng tr)[800 + i]? = some v := by
  unfold dcells
  rw [List.getElem?_toArray, List.getElem?_append_right (by rw [List.length_map]; omega), List.length_map, h, Nat.add_sub_cancel_left]
  exact hv
section
variable {w : World} {b : Nat} {a : List Int} {nd dp : Int} {ng tr : Bool}
theorem D.cell (h : D w b a nd dp ng tr) (i : Nat) : w.cell? ⟨b, i, none⟩ = (dcells a nd dp ng tr)[i]? := by simp [World.cell?, h.at_]
theorem D.free (h : D w b a nd dp ng tr) (i : Nat) : w.frozen? ⟨b, i, none⟩ = false := by simp [World.frozen?, h.at_]
theorem D.d (h : D w b a nd dp ng tr) (i : Nat) (hi : i < 800) : w.cell? ⟨b, i, none⟩ = some (.int .u8 (a.getD i 0)) := (h.cell i).trans (dcells_d h.len _ _ _ _ i hi)
theorem D.nd_ (h : D w b a nd dp ng tr) : w.cell? ⟨b, 800, none⟩ = some (.int .i64 nd) := (h.cell 800).trans (dcells_f h.len _ _ _ _ 0 _ rfl)
theorem D.dp_ (h : D w b a nd dp ng tr) : w.cell? ⟨b, 801, none⟩ = some (.int .i64 dp) := (h.cell 801).trans (dcells_f h.len _ _ _ _ 1 _ rfl)
theorem D.ng_ (h : D w b a nd dp ng tr) : w.cell? ⟨b, 802, none⟩ = some (.bool ng) := (h.cell 802).trans (dcells_f h.len _ _ _ _ 2 _ rfl)
theorem D.tr_ (h : D w b a nd dp ng tr) : w.cell? ⟨b, 803, none⟩ = some (.bool tr) := (h.cell 803).trans (dcells_f h.len _ _ _ _ 3 _ rfl)
theorem D.set_d (h : D w b a nd dp ng tr) (i : Nat) (hi : i < 800) (x : Int) : D (w.setCell ⟨b, i, none⟩ (.int .u8 x)) b (a.set i x) nd dp ng tr := by
  refine ⟨(Joins.block_setCell h.at_ _).trans ?_, by rw [List.length_set]; exact h.len⟩
  congr 2
  unfold dcells
  have hl := h.len
  rw [List.setIfInBounds_toArray, List.set_append_left _ _ (by rw [List.length_map]; omega), List.map_set]
theorem D.set_f (h : D w b a nd dp ng tr) (i : Nat) (v : Value) (nd' dp' : Int) (ng' tr' : Bool) (hv : ([.int .i64 nd, .int .i64 dp, .bool ng, .bool tr] : List Value).set i v = [.int .i64 nd', .int .i64 dp', .bool ng', .bool tr']) : D (w.setCell ⟨b, 800 + i, none⟩ v) b a nd' dp' ng' tr' := by
  refine ⟨(Joins.block_setCell h.at_ _).trans ?_, h.len⟩
  congr 2
  unfold dcells
  have hl := h.len
  rw [List.setIfInBounds_toArray, List.set_append_right _ _ (by rw [List.length_map]; omega), List.length_map, hl, Nat.add_sub_cancel_left, hv]
theorem D.set_nd (h : D w b a nd dp ng tr) (x : Int) : D (w.setCell ⟨b, 800, none⟩ (.int .i64 x)) b a x dp ng tr := h.set_f 0 _ _ _ _ _ rfl
theorem D.set_dp (h : D w b a nd dp ng tr) (x : Int) : D (w.setCell ⟨b, 801, none⟩ (.int .i64 x)) b a nd x ng tr := h.set_f 1 _ _ _ _ _ rfl
theorem D.set_ng (h : D w b a nd dp ng tr) (x : Bool) : D (w.setCell ⟨b, 802, none⟩ (.bool x)) b a nd dp x tr := h.set_f 2 _ _ _ _ _ rfl
theorem D.set_tr (h : D w b a nd dp ng tr) (x : Bool) : D (w.setCell ⟨b, 803, none⟩ (.bool x)) b a nd dp ng x := h.set_f 3 _ _ _ _ _ rfl
theorem D.drewN (h : D w b a nd dp ng tr) (n : Nat) : D (w.drewN n) b a nd dp ng tr := ⟨h.at_, h.len⟩
theorem D.drew (h : D w b a nd dp ng tr) : D w.drew b a nd dp ng tr := ⟨h.at_, h.len⟩
end
structure Norm (a : List Int) (n : Nat) : Prop where
  pos : 1 ≤ n
  le : n ≤ 800
  digs : ∀ i, i < n → IsDig (a.getD i 0)
  lead : 49 ≤ a.getD 0 0
theorem Norm.less {a : List Int} {n m : Nat} (h : Norm a n) (h1 : 1 ≤ m) (h2 : m ≤ n) : Norm a m := ⟨h1, Nat.le_trans h2 h.le, fun i hi => h.digs i (by omega), h.lead⟩
end Go.Proofs.YtjemobfhlfejlaaGreatDoor.Dc
namespace Go.Proofs.YtjemobfhlfejlaaGreatDoor.Dc
open Go Go.RowKit
def nf (a : List Int) (i : Nat) : Nat := dig (a.getD i 0)
theorem Norm.nf9 {a : List Int} {n : Nat} (h : Norm a n) (j : Nat) (hj : j < n) : nf a j ≤ 9 := dig_lt (h.digs j hj)
theorem Norm.lo {a : List Int} {n : Nat} (h : Norm a n) : 10 ^ (n - 1) ≤ dv (nf a) 0 n := by
  obtain ⟨m, rfl⟩ : ∃ m, n = m + 1 := ⟨n - 1, by have := h.pos; omega⟩
  exact dv_ge (by unfold nf dig; have := h.lead; omega)
theorem Norm.hi {a : List Int} {n : Nat} (h : Norm a n) : dv (nf a) 0 n < 10 ^ n := dv_lt (fun j _ hj => h.nf9 j (by omega))
theorem Norm.len {a : List Int} {n : Nat} (h : Norm a n) : dlen (dv (nf a) 0 n) = n := dlen_is h.pos h.lo h.hi
set_option maxHeartbeats 2000000 in
set_option maxRecDepth 100000 in
theorem trim_any {w : World} {b : Nat} {a : List Int} {dp : Int} {ng tr : Bool} {n : Nat} (h : D w b a (n : Int) dp ng tr) (hn : Norm a n) :
    Calls Tryz.prog 118 #[.pointer (some ⟨b, 0, none⟩)] w fun e w' => e = .returned (.tuple #[]) ∧ (∃ m : Nat, m ≤ n ∧ Norm a m ∧ D w' b a (m : Int) dp ng tr ∧ dv (nf a) 0 n = dv (nf a) 0 m * 10 ^ (n - m) ∧ dv (nf a) 0 m % 10 ≠ 0) ∧ Below b w w' := by
  have H := Lib.hid h; clear h
  have HN := Lib.hid hn; clear hn
  have hu := Tryz.underlying149
  go_enter Tryz.func118, Tryz.ntmps118
  go_wp2
  go_loopg [] n (fun m w' => 1 ≤ m ∧ m ≤ n ∧ Hid (dv (nf a) 0 n = dv (nf a) 0 m * 10 ^ (n - m)) ∧ Hid (Norm a m) ∧ Hid (D w' b a (m : Int) dp ng tr) ∧ Hid (Below b w w'))
  case atStart => exact ⟨HN.out.pos, Nat.le_refl _, Lib.hid (by rw [Nat.sub_self]; simp), HN, H, Lib.hid (Below.refl _ _)⟩
  case round =>
    obtain ⟨h1, h2, hV, hN, hD, hB⟩ := hrel
    obtain ⟨m, rfl⟩ : ∃ m, gk = m + 1 := ⟨gk - 1, by omega⟩
    have c800 : wr.cell? ⟨b, 800, none⟩ = some (.int .i64 ((m : Int) + 1)) := hD.out.nd_
    obtain ⟨x, hx⟩ : ∃ x, x = a.getD m 0 := ⟨_, rfl⟩
    have cdig := hD.out.d m (by have := hN.out.le; omega)
    rw [← hx] at cdig
    have hX := Lib.hid hx; clear hx
    have fr := hD.out.free 800
    have i0 : 0 ≤ (m : Int) := by omega
    have i1 : (m : Int) < 800 := by have := hN.out.le; omega
    have g2 : ((m : Int) + 1 == 0) = false := beq_eq_false_iff_ne.mpr (by omega)
    have g1 : decide (0 < (m : Int) + 1) = true := decide_eq_true (by omega)
    by_cases c : x = 48
    · have c0 : (x == 48) = true := beq_iff_eq.mpr c
      have hC := Lib.hid c; clear c
      go_wp2
      go_quiet (fail)
      go_wp2
      go_roundg m
      case measure => omega
      case rel =>
        have h0 : 1 ≤ m := by
          rcases Nat.eq_zero_or_pos m with e | e
          · have := hN.out.lead
            rw [e] at hX
            have h3 := hX.out
            have h4 := hC.out
            omega
          · exact e
        exact ⟨h0, by omega, Lib.hid (by
          have e0 : nf a m = 0 := by unfold nf dig; have := hX.out; have := hC.out; omega
          have e1 : n - m = n - (m + 1) + 1 := by omega
          rw [hV.out, dv, Nat.zero_add, e0, e1, Nat.pow_succ]; simp only [Nat.add_zero, Nat.mul_assoc, Nat.mul_comm 10]), Lib.hid (hN.out.less h0 (by omega)), Lib.hid ((hD.out.drewN nq).set_nd _), Lib.hid ((hB.out.trans (Joins.below_draws b wr nq)).setCell (Nat.le_refl _) _)⟩
    · have c0 : (x == 48) = false := beq_eq_false_iff_ne.mpr c
      have hC := Lib.hid c; clear c
      go_wp2
      go_quiet (fail)
      go_wp2
      go_end0
      have hl : dv (nf a) 0 (m + 1) % 10 ≠ 0 := by
        have h9 := hN.out.nf9 m (by omega)
        have e0 : nf a m ≠ 0 := by unfold nf dig; have := hX.out; have := hC.out; have := (hN.out.digs m (by omega)).1; omega
        rw [dv, Nat.zero_add]; omega
      exact ⟨rfl, ⟨m + 1, h2, hN.out, hD.out.drewN nq, hV.out, hl⟩, hB.out.trans (Joins.below_draws b wr nq)⟩
end Go.Proofs.YtjemobfhlfejlaaGreatDoor.Dc
