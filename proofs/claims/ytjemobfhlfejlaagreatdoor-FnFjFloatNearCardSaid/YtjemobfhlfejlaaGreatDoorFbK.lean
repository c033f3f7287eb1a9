/- Walks and plain laws on the way to FnFjFloatNear. No condition but what each lemma states. -/
import Derived.Test.YtjemobfhlfejlaaGreatDoorFx1
import Derived.Test.YtjemobfhlfejlaaGreatDoorFbB
import Derived.Test.YtjemobfhlfejlaaGreatDoorFx8
import Derived.Test.YtjemobfhlfejlaaGreatDoorFbJ
import Derived.Laws.Externs
import Derived.Test.YtjemobfhlfejlaaGreatDoorFx6
import Derived.Laws.Strings
import Derived.Deep.AppendLies
import Derived.Test.YtjemobfhlfejlaaGreatDoorFbA
set_option linter.unusedVariables false
set_option linter.unusedSimpArgs false
namespace Go.Proofs.YtjemobfhlfejlaaGreatDoor.Sp
open Go Go.RowKit Go.Proofs.YtjemobfhlfejlaaGreatDoorW.PrintWords Go.Proofs.YtjemobfhlfejlaaGreatDoorW.PrintLast Go.Proofs.YtjemobfhlfejlaaGreatDoorW.PrintMore Go.Proofs.YtjemobfhlfejlaaGreatDoor.PFnFjFloatNear
section
variable {s : ByteArray} (hs : s.size < 4611686018427387904)
include hs
theorem take_f {a : Nat} (c : Nat) (hc : c ≠ 0) : spec_reader_take.f s (a : Int) (c : Int) = some (decide (a < s.size ∧ Dc.bt s a = c), s, ((if a < s.size ∧ Dc.bt s a = c then a + 1 else a : Nat) : Int)) := by
  unfold spec_reader_take.f
  by_cases h : a < s.size
  · rw [if_pos (by omega), if_pos (by omega), btI s a h]
    by_cases g : Dc.bt s a = c
    · rw [if_pos (by omega), if_pos ⟨h, g⟩, IntWalk.wrap64_in _ (by omega)]
      simp [h, g]
    · rw [if_neg (by omega), if_neg (fun q => g q.2)]
      simp [g]
  · rw [if_neg (by omega), if_neg (fun q => h q.1)]
    simp [h]
theorem here_f (a : Nat) : spec_reader_here.f s (a : Int) = some (((if a < s.size then Dc.bt s a else 0 : Nat) : Int), s, (a : Int)) := by
  have _ := hs
  unfold spec_reader_here.f
  by_cases h : a < s.size
  · rw [if_pos (by omega), if_pos (by omega), btI s a h, if_pos h]
  · rw [if_neg (by omega), if_neg h]
    rfl
theorem digitsR_l (x3 : Int) : ∀ (k a : Nat), s.size < a + k → a ≤ s.size → ∃ a' : Nat, spec_reader_digits.l0 k x3 ((if a < s.size then Dc.bt s a else 0 : Nat) : Int) s (a : Int) = some (decide ((a' : Int) > x3), s, (a' : Int)) ∧ a ≤ a' ∧ a' ≤ s.size ∧ ∀ i, a ≤ i → i < a' → Dc.IsD (Dc.bt s i)
  | 0, a, hk, ha => by omega
  | k + 1, a, hk, ha => by
    rw [spec_reader_digits.l0]
    by_cases h : a < s.size
    · rw [if_pos h]
      by_cases c1 : 48 ≤ Dc.bt s a
      · by_cases c2 : Dc.bt s a ≤ 57
        · rw [if_pos (by omega), if_pos (by omega), IntWalk.wrap64_in _ (by omega), show ((a : Int) + 1) = ((a + 1 : Nat) : Int) by omega, here_f hs]
          obtain ⟨a', e1, e2, e3, e4⟩ := digitsR_l x3 k (a + 1) (by omega) (by omega)
          refine ⟨a', e1, by omega, e3, fun i i1 i2 => ?_⟩
          rcases Nat.eq_or_lt_of_le i1 with c | c
          · subst c; exact ⟨c1, c2⟩
          · exact e4 i c i2
        · rw [if_pos (by omega), if_neg (by omega)]
          exact ⟨a, rfl, Nat.le_refl _, ha, fun i i1 i2 => by omega⟩
      · rw [if_neg (by omega)]
        exact ⟨a, rfl, Nat.le_refl _, ha, fun i i1 i2 => by omega⟩
    · rw [if_neg h, if_neg (by omega)]
      exact ⟨a, rfl, Nat.le_refl _, ha, fun i i1 i2 => by omega⟩
theorem digitsR_f {k a : Nat} (hk : s.size < k) (ha : a ≤ s.size) : ∃ a' : Nat, spec_reader_digits.f k s (a : Int) = some (decide (a < a'), s, (a' : Int)) ∧ a ≤ a' ∧ a' ≤ s.size ∧ ∀ i, a ≤ i → i < a' → Dc.IsD (Dc.bt s i) := by
  unfold spec_reader_digits.f
  obtain ⟨a', e1, e2⟩ := digitsR_l hs (a : Int) k a (by omega) ha
  refine ⟨a', ?_, e2⟩
  rw [here_f hs]
  show spec_reader_digits.l0 k _ _ _ _ = _
  rw [e1]
  simp
theorem j2_f {k a : Nat} (hk : s.size + 1 < k) (ha : a ≤ s.size) (x : Bool) : ∃ (b : Bool) (a' : Nat), spec_reader_number.j2 k x s (a : Int) = some (b, s, (a' : Int)) ∧ (b = true → a' = s.size →
    (x = false ∧ a = s.size) ∨ (x = true ∧ ∃ j0 es, j0 < s.size ∧ ((j0 = a ∧ es = false) ∨ (j0 = a + 1 ∧ Dc.bt s a = 43 ∧ es = false) ∨ (j0 = a + 1 ∧ Dc.bt s a = 45 ∧ es = true)) ∧ ∀ i, j0 ≤ i → i < s.size → Dc.IsD (Dc.bt s i))) := by
  obtain ⟨k, rfl⟩ : ∃ m, k = m + 1 := ⟨k - 1, by omega⟩
  rw [spec_reader_number.j2]
  cases x with
  | false =>
    rw [if_neg (by decide)]
    exact ⟨true, a, rfl, fun _ h => .inl ⟨rfl, h⟩⟩
  | true =>
    rw [if_pos rfl]
    have t1 := take_f hs (a := a) 43 (by decide)
    rw [show ((43 : Nat) : Int) = 43 from rfl] at t1
    rw [t1]
    simp only [Option.bind_some]
    by_cases c : a < s.size ∧ Dc.bt s a = 43
    · simp only [if_pos c, decide_eq_true c, if_true]
      obtain ⟨a', e1, e2, e3, e4⟩ := digitsR_f hs (k := k) (by omega) (a := a + 1) (by omega)
      rw [e1]
      simp only [Option.bind_some]
      refine ⟨_, a', rfl, fun hb h => .inr ⟨by trivial, a + 1, false, ?_, .inr (.inl ⟨rfl, c.2, rfl⟩), fun i i1 i2 => e4 i i1 (by omega)⟩⟩
      have := of_decide_eq_true hb
      omega
    · simp only [if_neg c, decide_eq_false c, Bool.false_eq_true, if_false]
      have t2 := take_f hs (a := a) 45 (by decide)
      rw [show ((45 : Nat) : Int) = 45 from rfl] at t2
      rw [t2]
      simp only [Option.bind_some]
      by_cases d : a < s.size ∧ Dc.bt s a = 45
      · simp only [if_pos d]
        obtain ⟨a', e1, e2, e3, e4⟩ := digitsR_f hs (k := k) (by omega) (a := a + 1) (by omega)
        rw [e1]
        simp only [Option.bind_some]
        refine ⟨_, a', rfl, fun hb h => .inr ⟨by trivial, a + 1, true, ?_, .inr (.inr ⟨rfl, d.2, rfl⟩), fun i i1 i2 => e4 i i1 (by omega)⟩⟩
        have := of_decide_eq_true hb
        omega
      · simp only [if_neg d]
        obtain ⟨a', e1, e2, e3, e4⟩ := digitsR_f hs (k := k) (by omega) (a := a) (by omega)
        rw [e1]
        simp only [Option.bind_some]
        refine ⟨_, a', rfl, fun hb h => .inr ⟨by trivial, a, false, ?_, .inl ⟨rfl, rfl⟩, fun i i1 i2 => e4 i i1 (by omega)⟩⟩
        have := of_decide_eq_true hb
        omega
def Tail (s : ByteArray) (i2 : Nat) : Prop := ∃ j0 es, ((i2 = s.size ∧ j0 = i2) ∨ (i2 < s.size ∧ (Dc.bt s i2 = 101 ∨ Dc.bt s i2 = 69) ∧ j0 < s.size ∧ ((j0 = i2 + 1 ∧ es = false) ∨ (j0 = i2 + 2 ∧ Dc.bt s (i2 + 1) = 43 ∧ es = false) ∨ (j0 = i2 + 2 ∧ Dc.bt s (i2 + 1) = 45 ∧ es = true)))) ∧ ∀ i, j0 ≤ i → i < s.size → Dc.IsD (Dc.bt s i)
theorem j1_f {k a : Nat} (hk : s.size + 2 < k) (ha : a ≤ s.size) (x : Bool) : ∃ (b : Bool) (a' : Nat), spec_reader_number.j1 k x s (a : Int) = some (b, s, (a' : Int)) ∧ (b = true → a' = s.size → x = false ∧ Tail s a) := by
  obtain ⟨k, rfl⟩ : ∃ m, k = m + 1 := ⟨k - 1, by omega⟩
  rw [spec_reader_number.j1]
  cases x with
  | true => exact ⟨false, a, rfl, by simp⟩
  | false =>
    rw [if_neg (by decide)]
    have t1 := take_f hs (a := a) 101 (by decide)
    rw [show ((101 : Nat) : Int) = 101 from rfl] at t1
    rw [t1]
    simp only [Option.bind_some]
    by_cases c : a < s.size ∧ Dc.bt s a = 101
    · simp only [if_pos c, decide_eq_true c, if_true]
      obtain ⟨b, a', e1, e2⟩ := j2_f hs (k := k) (by omega) (a := a + 1) (by omega) true
      rw [e1]
      refine ⟨b, a', rfl, fun hb h => ⟨by trivial, ?_⟩⟩
      rcases e2 hb h with ⟨q, _⟩ | ⟨_, j0, es, q1, q2, q3⟩
      · exact absurd q (by decide)
      · exact ⟨j0, es, .inr ⟨c.1, .inl c.2, q1, q2⟩, q3⟩
    · simp only [if_neg c, decide_eq_false c, Bool.false_eq_true, if_false]
      have t2 := take_f hs (a := a) 69 (by decide)
      rw [show ((69 : Nat) : Int) = 69 from rfl] at t2
      rw [t2]
      simp only [Option.bind_some]
      by_cases d : a < s.size ∧ Dc.bt s a = 69
      · simp only [if_pos d, decide_eq_true d]
        obtain ⟨b, a', e1, e2⟩ := j2_f hs (k := k) (by omega) (a := a + 1) (by omega) true
        rw [e1]
        refine ⟨b, a', rfl, fun hb h => ⟨by trivial, ?_⟩⟩
        rcases e2 hb h with ⟨q, _⟩ | ⟨_, j0, es, q1, q2, q3⟩
        · exact absurd q (by decide)
        · exact ⟨j0, es, .inr ⟨d.1, .inr d.2, q1, q2⟩, q3⟩
      · simp only [if_neg d, decide_eq_false d]
        obtain ⟨b, a', e1, e2⟩ := j2_f hs (k := k) (by omega) (a := a) ha false
        rw [e1]
        refine ⟨b, a', rfl, fun hb h => ⟨by trivial, ?_⟩⟩
        rcases e2 hb h with ⟨_, q⟩ | ⟨q, _⟩
        · exact ⟨a, false, .inl ⟨q, rfl⟩, fun i i1 i2 => by omega⟩
        · exact absurd q (by decide)
theorem j0_f {k a : Nat} (hk : s.size + 3 < k) (ha : a ≤ s.size) (x : Bool) : ∃ (b : Bool) (a' : Nat), spec_reader_number.j0 k x s (a : Int) = some (b, s, (a' : Int)) ∧ (b = true → a' = s.size → x = false ∧ ∃ i2, (i2 = a ∨ (Dc.bt s a = 46 ∧ a + 1 < i2)) ∧ (∀ i, a < i → i < i2 → Dc.IsD (Dc.bt s i)) ∧ Tail s i2) := by
  obtain ⟨k, rfl⟩ : ∃ m, k = m + 1 := ⟨k - 1, by omega⟩
  rw [spec_reader_number.j0]
  cases x with
  | true => exact ⟨false, a, rfl, by simp⟩
  | false =>
    rw [if_neg (by decide)]
    have t1 := take_f hs (a := a) 46 (by decide)
    rw [show ((46 : Nat) : Int) = 46 from rfl] at t1
    rw [t1]
    simp only [Option.bind_some]
    by_cases c : a < s.size ∧ Dc.bt s a = 46
    · simp only [if_pos c, decide_eq_true c, if_true]
      obtain ⟨a1, d1, d2, d3, d4⟩ := digitsR_f hs (k := k) (by omega) (a := a + 1) (by omega)
      rw [d1]
      simp only [Option.bind_some]
      obtain ⟨b, a', e1, e2⟩ := j1_f hs (k := k) (by omega) d3 (!decide (a + 1 < a1))
      rw [e1]
      refine ⟨b, a', rfl, fun hb h => ⟨by trivial, a1, ?_⟩⟩
      obtain ⟨q1, q2⟩ := e2 hb h
      have : a + 1 < a1 := by simpa using q1
      exact ⟨.inr ⟨c.2, this⟩, fun i i1 i2 => d4 i i1 i2, q2⟩
    · simp only [if_neg c, decide_eq_false c, Bool.false_eq_true, if_false]
      obtain ⟨b, a', e1, e2⟩ := j1_f hs (k := k) (by omega) ha false
      rw [e1]
      exact ⟨b, a', rfl, fun hb h => ⟨by trivial, a, .inl rfl, fun i i1 i2 => by omega, (e2 hb h).2⟩⟩
theorem number_f {k : Nat} (hk : s.size + 3 < k) : ∃ (b : Bool) (a' : Nat), spec_reader_number.f k s 0 = some (b, s, (a' : Int)) ∧ (b = true → a' = s.size → ∃ i0 i1 i2 j0 ng es, Dc.Tok s i0 i1 i2 j0 ng es) := by
  unfold spec_reader_number.f
  have t1 := take_f hs (a := 0) 45 (by decide)
  rw [show ((45 : Nat) : Int) = 45 from rfl, show ((0 : Nat) : Int) = 0 from rfl] at t1
  rw [t1]
  simp only [Option.bind_some]
  obtain ⟨i0, ng, hq, hi, hsg⟩ : ∃ (i0 : Nat) (ng : Bool), (if 0 < s.size ∧ Dc.bt s 0 = 45 then 0 + 1 else 0 : Nat) = i0 ∧ i0 ≤ s.size ∧ ((ng = true ∧ i0 = 1 ∧ Dc.bt s 0 = 45) ∨ (ng = false ∧ i0 = 0)) := by
    by_cases c : 0 < s.size ∧ Dc.bt s 0 = 45
    · exact ⟨1, true, by rw [if_pos c], c.1, .inl ⟨rfl, rfl, c.2⟩⟩
    · exact ⟨0, false, by rw [if_neg c], Nat.zero_le _, .inr ⟨rfl, rfl⟩⟩
  rw [hq]
  have t2 := take_f hs (a := i0) 48 (by decide)
  rw [show ((48 : Nat) : Int) = 48 from rfl] at t2
  rw [t2]
  simp only [Option.bind_some]
  by_cases c : i0 < s.size ∧ Dc.bt s i0 = 48
  · simp only [if_pos c, decide_eq_true c, if_true]
    obtain ⟨b, a', e1, e2⟩ := j0_f hs (k := k) (by omega) (a := i0 + 1) (by omega) false
    rw [e1]
    refine ⟨b, a', rfl, fun hb h => ?_⟩
    obtain ⟨_, i2, q1, q2, j0, es, q3, q4⟩ := e2 hb h
    exact ⟨i0, i0 + 1, i2, j0, ng, es, hsg, by omega, fun i a1 a2 => by have : i = i0 := by omega
                                                                        subst this; unfold Dc.IsD; omega, q1, q2, q3, q4⟩
  · simp only [if_neg c, decide_eq_false c, Bool.false_eq_true, if_false]
    obtain ⟨a1, d1, d2, d3, d4⟩ := digitsR_f hs (k := k) (by omega) hi
    rw [d1]
    simp only [Option.bind_some]
    obtain ⟨b, a', e1, e2⟩ := j0_f hs (k := k) (by omega) d3 (!decide (i0 < a1))
    rw [e1]
    refine ⟨b, a', rfl, fun hb h => ?_⟩
    obtain ⟨q0, i2, q1, q2, j0, es, q3, q4⟩ := e2 hb h
    exact ⟨i0, a1, i2, j0, ng, es, hsg, by simpa using q0, d4, q1, q2, q3, q4⟩
end
end Go.Proofs.YtjemobfhlfejlaaGreatDoor.Sp
namespace Go.Proofs.YtjemobfhlfejlaaGreatDoor.Sp
open Go Go.RowKit Go.Proofs.YtjemobfhlfejlaaGreatDoorW.PrintWords Go.Proofs.YtjemobfhlfejlaaGreatDoorW.PrintLast Go.Proofs.YtjemobfhlfejlaaGreatDoorW.PrintMore Go.Proofs.YtjemobfhlfejlaaGreatDoor.PFnFjFloatNear
def lv (xs : List Int) : Nat := xs.foldl (fun n x => n * 10 + (x - 48).toNat) 0
def Dgs (xs : List Int) : Prop := ∀ x ∈ xs, 48 ≤ x ∧ x ≤ 57
theorem lv_snoc (xs : List Int) (x : Int) : lv (xs ++ [x]) = lv xs * 10 + (x - 48).toNat := by simp [lv]
theorem lv_zero (xs : List Int) : lv (48 :: xs) = lv xs := by simp [lv]
theorem lv_take {xs : List Int} : ∀ n, n ≤ xs.length → lv (xs.take n) = Dc.dv (fun k => (xs.getD k 0 - 48).toNat) 0 n
  | 0, h => rfl
  | n + 1, h => by rw [take_next (by omega), lv_snoc, Dc.dv, lv_take n (by omega), Nat.zero_add]
theorem bt_nums {xs : List Int} (h : Dgs xs) {i : Nat} (hi : i < xs.length) : Dc.bt (strOfNums xs) i = (xs.getD i 0).toNat := by
  have hs : i < (strOfNums xs).size := by rw [strOfNums_size]; exact hi
  rw [Dc.bt_is hs]
  have h2 := h xs[i] (List.getElem_mem hi)
  have e : (strOfNums xs)[i] = UInt8.ofNat xs[i].toNat := by simp [strOfNums, ByteArray.getElem_eq_getElem_data]
  rw [e, List.getD_eq_getElem?_getD, List.getElem?_eq_getElem hi, Option.getD_some, UInt8.toNat_ofNat']
  omega
theorem dgs_at {xs : List Int} (h : Dgs xs) {i : Nat} (hi : i < xs.length) : 48 ≤ xs.getD i 0 ∧ xs.getD i 0 ≤ 57 := by
  rw [List.getD_eq_getElem?_getD, List.getElem?_eq_getElem hi, Option.getD_some]
  exact h _ (List.getElem_mem hi)
theorem tdv_nums {xs : List Int} (h : Dgs xs) : tdv (strOfNums xs) xs.length = lv xs := by
  have e := lv_take (xs := xs) xs.length (Nat.le_refl _)
  rw [List.take_length] at e
  rw [e]
  unfold tdv
  apply Dc.dv_congr
  intro j _ hj
  rw [bt_nums h (by omega)]
  have := dgs_at h (i := j) (by omega)
  omega
theorem dgs_str {xs : List Int} (h : Dgs xs) : ∀ i, i < (strOfNums xs).size → Dc.IsD (Dc.bt (strOfNums xs) i) := by
  intro i hi
  rw [strOfNums_size] at hi
  rw [bt_nums h hi]
  have := dgs_at h hi
  unfold Dc.IsD
  omega
structure Bare (xs : List Int) (a : Int) (ys : List Int) (b : Int) : Prop where
  dg : Dgs ys
  len : ys.length ≤ xs.length
  pw : ys ≠ [] → a ≤ b ∧ b ≤ a + xs.length ∧ lv ys * 10 ^ (b - a).toNat = lv xs
  zero : ys = [] → b = 0
theorem bare_l1 : ∀ (n : Nat) (k : Nat) (xs : List Int) (a : Int), xs.length ≤ n → n < k → Dgs xs → -4611686018427387904 ≤ a → a + xs.length ≤ 4611686018427387904 → xs.length < 4611686018427387904 →
    ∃ ys b, spec_bare.l1 k xs a = some (strOfNums ys, b) ∧ Bare xs a ys b := by
  intro n
  induction n with
  | zero =>
    intro k xs a hn hk hd a0 a1 hl
    obtain ⟨k, rfl⟩ : ∃ m, k = m + 1 := ⟨k - 1, by omega⟩
    obtain rfl : xs = [] := List.eq_nil_of_length_eq_zero (by omega)
    refine ⟨[], 0, ?_, ⟨hd, Nat.le_refl _, fun h => absurd rfl h, fun _ => rfl⟩⟩
    rw [spec_bare.l1]
    rfl
  | succ n ih =>
    intro k xs a hn hk hd a0 a1 hl
    obtain ⟨k, rfl⟩ : ∃ m, k = m + 1 := ⟨k - 1, by omega⟩
    rw [spec_bare.l1]
    by_cases h0 : xs.length = 0
    · obtain rfl : xs = [] := List.eq_nil_of_length_eq_zero h0
      exact ⟨[], 0, rfl, ⟨hd, Nat.le_refl _, fun h => absurd rfl h, fun _ => rfl⟩⟩
    · obtain ⟨m, hm⟩ : ∃ m, xs.length = m + 1 := ⟨xs.length - 1, by omega⟩
      have e : wrap64 ((xs.length : Int) - 1) = (m : Int) := by rw [IntWalk.wrap64_in _ (by omega)]; omega
      rw [if_pos (by omega), e, if_pos (by omega), if_pos (by omega), rd_is]
      by_cases c : xs.getD m 0 = 48
      · rw [if_pos c, if_pos (by omega), Int.toNat_natCast, IntWalk.wrap64_in _ (by omega)]
        have hsp : xs = xs.take m ++ [48] := by
          have := take_next (xs := xs) (i := m) (by omega)
          rw [c, ← hm, List.take_length] at this
          exact this
        have hlen : (xs.take m).length = m := by rw [List.length_take]; omega
        obtain ⟨ys, b, e1, e2⟩ := ih k (xs.take m) (a + 1) (by omega) (by omega) (fun x hx => hd x (List.mem_of_mem_take hx)) (by omega) (by omega) (by omega)
        refine ⟨ys, b, e1, ⟨e2.dg, by have := e2.len; omega, fun h => ?_, e2.zero⟩⟩
        obtain ⟨p1, p2, p3⟩ := e2.pw h
        refine ⟨by omega, by omega, ?_⟩
        have hx : lv xs = lv (xs.take m) * 10 := by
          have := congrArg lv hsp
          rw [lv_snoc] at this
          exact this
        rw [hx, ← p3, Nat.mul_assoc, ← Nat.pow_succ, show (b - a).toNat = (b - (a + 1)).toNat + 1 by omega]
      · rw [if_neg c, if_neg (by omega)]
        refine ⟨xs, a, rfl, ⟨hd, Nat.le_refl _, fun h => ⟨Int.le_refl _, by omega, ?_⟩, fun h => ?_⟩⟩
        · rw [Int.sub_self]; simp
        · rw [h] at h0; exact absurd rfl h0
theorem bare_l0 : ∀ (n : Nat) (k : Nat) (xs : List Int) (a : Int), xs.length ≤ n → 2 * n + 3 < k → Dgs xs → -4611686018427387904 ≤ a → a + xs.length ≤ 4611686018427387904 → xs.length < 4611686018427387904 →
    ∃ ys b, spec_bare.l0 k xs a = some (strOfNums ys, b) ∧ Bare xs a ys b := by
  intro n
  induction n with
  | zero =>
    intro k xs a hn hk hd a0 a1 hl
    obtain ⟨k, rfl⟩ : ∃ m, k = m + 2 := ⟨k - 2, by omega⟩
    obtain rfl : xs = [] := List.eq_nil_of_length_eq_zero (by omega)
    rw [spec_bare.l0, if_neg (by decide), spec_bare.j1]
    exact bare_l1 0 k [] a (by decide) (by omega) hd a0 a1 hl
  | succ n ih =>
    intro k xs a hn hk hd a0 a1 hl
    obtain ⟨k, rfl⟩ : ∃ m, k = m + 2 := ⟨k - 2, by omega⟩
    rw [spec_bare.l0]
    cases xs with
    | nil =>
      rw [if_neg (by decide), spec_bare.j1]
      exact bare_l1 0 k [] a (by decide) (by omega) hd a0 a1 hl
    | cons x xs =>
      rw [List.length_cons] at hn a1 hl
      rw [if_pos (by rw [List.length_cons]; omega), if_pos (by rw [List.length_cons]; omega), if_pos (show (1 : Int) ≤ ((x :: xs).length : Int) by rw [List.length_cons]; omega)]
      show ∃ ys b, (if x = 48 then spec_bare.l0 (k + 1) xs a else spec_bare.j1 (k + 1) (x :: xs) a) = _ ∧ _
      by_cases c : x = 48
      · rw [if_pos c]
        obtain ⟨ys, b, e1, e2⟩ := ih (k + 1) xs a (by omega) (by omega) (fun y hy => hd y (List.mem_cons_of_mem _ hy)) a0 (by omega) (by omega)
        refine ⟨ys, b, e1, ⟨e2.dg, by have := e2.len; rw [List.length_cons]; omega, fun h => ?_, e2.zero⟩⟩
        obtain ⟨p1, p2, p3⟩ := e2.pw h
        refine ⟨p1, by rw [List.length_cons]; omega, ?_⟩
        rw [c, lv_zero]
        exact p3
      · rw [if_neg c, spec_bare.j1]
        exact bare_l1 (n + 1) k (x :: xs) a (by rw [List.length_cons]; omega) (by omega) hd a0 (by rw [List.length_cons]; omega) (by rw [List.length_cons]; omega)
theorem bare_f {k : Nat} {xs : List Int} {a : Int} (hk : 2 * xs.length + 3 < k) (hd : Dgs xs) (a0 : -4611686018427387904 ≤ a) (a1 : a + xs.length ≤ 4611686018427387904) (hl : xs.length < 4611686018427387904) :
    ∃ ys b, spec_bare.f k xs a = some (strOfNums ys, b) ∧ Bare xs a ys b := bare_l0 xs.length k xs a (Nat.le_refl _) hk hd a0 a1 hl
end Go.Proofs.YtjemobfhlfejlaaGreatDoor.Sp
namespace Go.Proofs.YtjemobfhlfejlaaGreatDoor.Sp
open Go Go.RowKit Go.Proofs.YtjemobfhlfejlaaGreatDoorW.PrintWords Go.Proofs.YtjemobfhlfejlaaGreatDoorW.PrintLast Go.Proofs.YtjemobfhlfejlaaGreatDoorW.PrintMore Go.Proofs.YtjemobfhlfejlaaGreatDoor.PFnFjFloatNear
theorem bt_ext (s : ByteArray) (a : Nat) {i : Nat} (h : a + i < s.size) : Dc.bt (s.extract a s.size) i = Dc.bt s (a + i) := by
  have e : i < (s.extract a s.size).size := by rw [ByteArray.size_extract]; omega
  rw [Dc.bt_is e, Dc.bt_is h, ByteArray.getElem_extract]
theorem dv_shift {f g : Nat → Nat} : ∀ (n a b : Nat), (∀ i, i < n → f (a + i) = g (b + i)) → Dc.dv f a n = Dc.dv g b n
  | 0, a, b, h => rfl
  | n + 1, a, b, h => by rw [Dc.dv, Dc.dv, dv_shift n a b (fun i hi => h i (by omega)), h n (by omega)]
theorem exv_ext (s : ByteArray) (a j : Nat) (h : a ≤ s.size) : Dc.exv (s.extract a s.size) j = Dc.exv s (a + j) := by
  unfold Dc.exv
  have e : (s.extract a s.size).size = s.size - a := by rw [ByteArray.size_extract]; omega
  rw [e, show s.size - a - j = s.size - (a + j) by omega]
  apply dv_shift
  intro i hi
  rw [bt_ext s a (by omega)]
  congr 2
  omega
theorem two_of {k : Nat} (h : 2 ≤ k) : ∃ m, k = m + 2 := ⟨k - 2, (Nat.sub_add_cancel h).symm⟩
theorem one_of {k : Nat} (h : 1 ≤ k) : ∃ m, k = m + 1 := ⟨k - 1, (Nat.sub_add_cancel h).symm⟩
theorem w_succ (i : Nat) (h : i < 9223372036854775807) : wrap64 ((i : Int) + 1) = ((i + 1 : Nat) : Int) := by
  have q : wrap64 ((i : Int) + 1) = (i : Int) + 1 := IntWalk.wrap64_in _ (by omega)
  rw [q]; rfl
theorem w_negs (q : Nat) (h : q < 4611686018427387904) : wrap64 (-(q : Int) - 1) = -((q + 1 : Nat) : Int) := by
  have e : wrap64 (-(q : Int) - 1) = -(q : Int) - 1 := IntWalk.wrap64_in _ (by omega)
  rw [e]
  clear e h
  omega
theorem sub_step {i i1 : Nat} (h : i1 < i) : i + 1 - i1 - 1 = i - i1 - 1 + 1 := by omega
theorem sub_none {i i1 : Nat} (h : i ≤ i1) : i - i1 - 1 = 0 := by omega
theorem sub_one_ {i : Nat} : i + 1 - i - 1 = 0 := by omega
theorem to_dig {b : Nat} (h : 48 ≤ b) : (((b : Nat) : Int) - 48).toNat = b - 48 := by omega
theorem w_dig (n b : Nat) (hn : n < 1000000000000000) (g1 : 48 ≤ b) (g2 : b ≤ 57) : wrap64 (wrap64 ((n : Int) * 10) + ((b : Int) - 48) % 256) = ((n * 10 + (b - 48) : Nat) : Int) := by
  obtain ⟨v, rfl⟩ : ∃ v, b = v + 48 := ⟨b - 48, by omega⟩
  have e0 : wrap64 ((n : Int) * 10) = (n : Int) * 10 := IntWalk.wrap64_in _ (by omega)
  have e1 : (((v + 48 : Nat) : Int) - 48) % 256 = (v : Int) := by clear hn e0; omega
  have e2 : wrap64 ((n : Int) * 10 + (v : Int)) = (n : Int) * 10 + (v : Int) := IntWalk.wrap64_in _ (by omega)
  rw [e0, e1, e2, Nat.add_sub_cancel]
  rfl
theorem signed_step {t : ByteArray} (ht : t.size < 4611686018427387904) (neg : Bool) {k i n d : Nat} (hi : i < t.size) (g1 : 48 ≤ Dc.bt t i) (g2 : Dc.bt t i ≤ 57) (hn : n < 1000000000000000) (hd : d ≤ 15) (x : Bool) :
    spec_signed.j3 (k + 1) t neg (n : Int) (d : Int) (i : Int) x = if x then (if 15 < d + 1 then some (0, false) else spec_signed.l0 k t neg ((n * 10 + (Dc.bt t i - 48) : Nat) : Int) ((d + 1 : Nat) : Int) ((i + 1 : Nat) : Int)) else spec_signed.l0 k t neg ((n * 10 + (Dc.bt t i - 48) : Nat) : Int) (d : Int) ((i + 1 : Nat) : Int) := by
  have eb := btI t i hi
  have e2 := w_dig n _ hn g1 g2
  have e3 := w_succ i (by omega)
  have e4 := w_succ d (by omega)
  have i0 : 0 ≤ (i : Int) := by omega
  have i1 : (i : Int) < (t.size : Int) := by omega
  have d1 : ¬ (d : Int) > 15 := by omega
  rw [spec_signed.j3, eb, e2, e3, e4]
  clear eb e2 e3 e4 ht hn
  cases x with
  | true =>
    rw [if_pos rfl, if_pos rfl]
    by_cases c : 15 < d + 1
    · have c2 : ((d + 1 : Nat) : Int) > 15 := by omega
      rw [if_pos c2, if_pos c]
    · have c2 : ¬ ((d + 1 : Nat) : Int) > 15 := by omega
      rw [if_neg c2, if_neg c, if_pos i0, if_pos i1]
  | false => rw [if_neg (by decide), if_neg d1, if_pos i0, if_pos i1, if_neg (by decide)]
def SgIs (t : ByteArray) (neg : Bool) (r : Int × Bool) : Prop := r.2 = true → Dc.exv t 0 < 10 ^ 15 ∧ r.1 = if neg then -(Dc.exv t 0 : Int) else (Dc.exv t 0 : Int)
theorem signed_l0 {t : ByteArray} (ht : t.size < 4611686018427387904) (hd : ∀ i, i < t.size → Dc.IsD (Dc.bt t i)) (neg : Bool) : ∀ c k i n d : Nat, i + c = t.size → 2 * c + 1 < k → n = Dc.dv (fun k => Dc.bt t k - 48) 0 i → n < 10 ^ d → d ≤ 15 →
    ∃ r, spec_signed.l0 k t neg (n : Int) (d : Int) (i : Int) = some r ∧ SgIs t neg r := by
  intro c
  induction c with
  | zero =>
    intro k i n d hi hk hn hnd hd15
    obtain ⟨k, rfl⟩ := one_of (show 1 ≤ k by omega)
    have q : ¬ (i : Int) < (t.size : Int) := by omega
    rw [spec_signed.l0, if_neg q]
    have e : Dc.exv t 0 = n := by unfold Dc.exv; rw [hn, Nat.sub_zero, show t.size = i by omega]
    have hp : (10 : Nat) ^ d ≤ 10 ^ 15 := Nat.pow_le_pow_right (by decide) hd15
    have hl := Nat.lt_of_lt_of_le hnd hp
    unfold SgIs
    rw [e]
    cases neg with
    | true => exact ⟨_, rfl, fun _ => ⟨hl, by show wrap64 (-(n : Int)) = -(n : Int); exact IntWalk.wrap64_in _ (by omega)⟩⟩
    | false => exact ⟨_, rfl, fun _ => ⟨hl, rfl⟩⟩
  | succ c ih =>
    intro k i n d hi hk hn hnd hd15
    obtain ⟨k, rfl⟩ := two_of (show 2 ≤ k by omega)
    have hp : (10 : Nat) ^ d ≤ 10 ^ 15 := Nat.pow_le_pow_right (by decide) hd15
    have hl := Nat.lt_of_lt_of_le hnd hp
    have hit : i < t.size := by omega
    have hg := hd i hit
    have g1 := hg.1
    have g2 := hg.2
    have step := fun x => signed_step ht neg (k := k) hit g1 g2 (n := n) (by omega) hd15 x
    have eb := btI t i hit
    have hn2 : n * 10 + (Dc.bt t i - 48) = Dc.dv (fun k => Dc.bt t k - 48) 0 (i + 1) := by rw [Dc.dv, ← hn, Nat.zero_add]
    have q : (i : Int) < (t.size : Int) := by omega
    have q0 : 0 ≤ (i : Int) := by omega
    have hi2 : i + 1 + c = t.size := by omega
    have hk2 : 2 * c + 1 < k := by omega
    have hn3 : n * 10 + (Dc.bt t i - 48) < 10 ^ (d + 1) := by rw [Nat.pow_succ]; omega
    rw [spec_signed.l0, if_pos q]
    have IH := ih k (i + 1) (n * 10 + (Dc.bt t i - 48))
    clear ht ih hd hn hp
    have t1 : ∃ r, spec_signed.j3 (k + 1) t neg (n : Int) (d : Int) (i : Int) true = some r ∧ SgIs t neg r := by
      rw [step true, if_pos rfl]
      by_cases c15 : 15 < d + 1
      · rw [if_pos c15]
        exact ⟨_, rfl, fun h => by simp at h⟩
      · rw [if_neg c15]
        exact IH (d + 1) hi2 hk2 hn2 hn3 (by omega)
    by_cases c0 : 0 < d
    · have c1 : (d : Int) > 0 := by omega
      rw [if_pos c1]
      exact t1
    · have c1 : ¬ (d : Int) > 0 := by omega
      rw [if_neg c1, if_pos q0, eb]
      by_cases c48 : Dc.bt t i = 48
      · have e : ((((Dc.bt t i : Nat) : Int)) != 48) = false := bne_eq_false_iff_eq.mpr (by omega)
        obtain rfl : d = 0 := by omega
        have hn0 : n = 0 := by omega
        rw [e, step false, if_neg (by decide)]
        exact IH 0 hi2 hk2 hn2 (by rw [c48, hn0]; decide) (by decide)
      · have e : ((((Dc.bt t i : Nat) : Int)) != 48) = true := bne_iff_ne.mpr (by omega)
        rw [e]
        exact t1
theorem signed_f {t : ByteArray} (ht : t.size < 4611686018427387904) {j : Nat} {es : Bool} (hj : j < t.size)
    (hsg : (j = 0 ∧ es = false) ∨ (j = 1 ∧ Dc.bt t 0 = 43 ∧ es = false) ∨ (j = 1 ∧ Dc.bt t 0 = 45 ∧ es = true)) (hd : ∀ i, j ≤ i → i < t.size → Dc.IsD (Dc.bt t i)) {k : Nat} (hk : 2 * t.size + 4 < k) :
    ∃ r, spec_signed.f k t = some r ∧ (r.2 = true → Dc.exv t j < 10 ^ 15 ∧ r.1 = if es then -(Dc.exv t j : Int) else (Dc.exv t j : Int)) := by
  obtain ⟨k, rfl⟩ := two_of (show 2 ≤ k by omega)
  have eb := btI t 0 (by omega)
  rw [show ((0 : Nat) : Int) = 0 from rfl] at eb
  unfold spec_signed.f
  rw [if_pos (by omega), eb]
  have cut : ∀ neg : Bool, j = 1 → ∃ r, spec_signed.j0 (k + 2) t neg true = some r ∧ (r.2 = true → Dc.exv t j < 10 ^ 15 ∧ r.1 = if neg then -(Dc.exv t j : Int) else (Dc.exv t j : Int)) := by
    intro neg h1
    rw [spec_signed.j0, if_pos rfl, if_pos (by omega), spec_signed.j1]
    have es : (t.extract 1 t.size).size = t.size - 1 := by rw [ByteArray.size_extract]; omega
    have := signed_l0 (t := t.extract 1 t.size) (by omega) (fun i hi => by rw [bt_ext t 1 (by omega)]; exact hd _ (by omega) (by omega)) neg (t.size - 1) k 0 0 0 (by omega) (by omega) rfl (by decide) (by decide)
    unfold SgIs at this
    rw [exv_ext t 1 0 (by omega)] at this
    rw [h1]
    exact this
  rcases hsg with ⟨rfl, rfl⟩ | ⟨rfl, h43, rfl⟩ | ⟨rfl, h45, rfl⟩
  · have g := hd 0 (Nat.le_refl _) hj
    have g1 := g.1
    rw [if_neg (by omega), show (((Dc.bt t 0 : Nat) : Int) == 45) = false from beq_eq_false_iff_ne.mpr (by omega), show (((Dc.bt t 0 : Nat) : Int) == 43) = false from beq_eq_false_iff_ne.mpr (by omega), spec_signed.j0, if_neg (by decide), spec_signed.j1]
    exact signed_l0 ht (fun i hi => hd i (Nat.zero_le _) hi) false t.size k 0 0 0 (by omega) (by omega) rfl (by decide) (by decide)
  · rw [if_neg (by omega), show (((Dc.bt t 0 : Nat) : Int) == 45) = false from beq_eq_false_iff_ne.mpr (by omega), show (((Dc.bt t 0 : Nat) : Int) == 43) = true from beq_iff_eq.mpr (by omega)]
    exact cut false rfl
  · rw [if_pos (by omega), show (((Dc.bt t 0 : Nat) : Int) == 45) = true from beq_iff_eq.mpr (by omega)]
    exact cut true rfl
def ValIs (s : ByteArray) (r : Bool × ByteArray × Int × Bool) : Prop := r.2.2.2 = true → ∃ i0 i1 i2 j0 ng es, Dc.Tok s i0 i1 i2 j0 ng es ∧ r.1 = ng ∧ Dc.exv s j0 < 10 ^ 15 ∧ (∀ i, i < r.2.1.size → Dc.IsD (Dc.bt r.2.1 i)) ∧ r.2.1.size ≤ s.size ∧
  -2305843009213693952 ≤ r.2.2.1 ∧ r.2.2.1 ≤ 2305843009213693952 ∧ (r.2.1.size ≠ 0 → (tdv r.2.1 r.2.1.size : Rat) * 10 ^ r.2.2.1 = (Dc.tkM s i0 i2 : Rat) * 10 ^ Dc.tkP s i1 i2 j0 es)
theorem ten_cut {a b : Int} (h : a ≤ b) (m : Nat) : (m : Rat) * 10 ^ b = ((m * 10 ^ (b - a).toNat : Nat) : Rat) * 10 ^ a := by
  rw [Rat.natCast_mul, Dc.ten_nat, show (((b - a).toNat : Nat) : Int) = b - a by omega, Rat.mul_assoc, ← Dc.ten_add, show b - a + a = b by omega]
section
variable {s : ByteArray} (hs : s.size ≤ 2147483647) {i0 i1 i2 j0 : Nat} {ng es : Bool} (hk : Dc.Tok s i0 i1 i2 j0 ng es)
include hs hk
theorem bare_val {xs : List Int} (hx : Dgs xs) (hl : xs.length ≤ s.size) (hv : lv xs = Dc.tkM s i0 i2) {k : Nat} (hkk : 2 * xs.length + 3 < k) (hE : Dc.exv s j0 < 10 ^ 15) {p : Int} (hp : p = Dc.tkP s i1 i2 j0 es) :
    ∃ r, ((spec_bare.f k xs p).bind fun bt166 => (some (ng, bt166.1, bt166.2, true))) = some r ∧ ValIs s r := by
  have f := hk.leS
  have b0 : -1152921504606846976 ≤ p := by rw [hp]; unfold Dc.tkP Dc.frl; cases es <;> simp <;> omega
  have b1 : p ≤ 1152921504606846976 := by rw [hp]; unfold Dc.tkP Dc.frl; cases es <;> simp <;> omega
  obtain ⟨ys, b, e1, e2⟩ := bare_f (k := k) (xs := xs) (a := p) hkk hx (by omega) (by omega) (by omega)
  rw [e1]
  refine ⟨_, rfl, fun _ => ⟨i0, i1, i2, j0, ng, es, hk, rfl, hE, dgs_str e2.dg, ?_, ?_, ?_, fun h => ?_⟩⟩
  · show (strOfNums ys).size ≤ _
    rw [strOfNums_size]; have := e2.len; omega
  · show _ ≤ b
    by_cases c : ys = []
    · rw [e2.zero c]; decide
    · have := e2.pw c; omega
  · show b ≤ _
    by_cases c : ys = []
    · rw [e2.zero c]; decide
    · have := e2.pw c; omega
  · show (tdv (strOfNums ys) (strOfNums ys).size : Rat) * 10 ^ b = _
    have c : ys ≠ [] := by
      rintro rfl
      exact h rfl
    obtain ⟨p1, p2, p3⟩ := e2.pw c
    rw [strOfNums_size, tdv_nums e2.dg, ten_cut p1, p3, hv, hp]
theorem value_end {xs : List Int} (hx : Dgs xs) (hl : xs.length ≤ s.size) (hv : lv xs = Dc.tkM s i0 i2) {k : Nat} (hkk : 2 * s.size + 5 < k) {p : Int} (hp : p = -(Dc.frl i1 i2 : Int)) (x8 : Bool) :
    ∃ r, spec_Value.j2 k s (i2 : Int) xs p x8 false ng (⟨#[]⟩ : ByteArray) 0 = some r ∧ ValIs s r := by
  obtain ⟨k, rfl⟩ := one_of (show 1 ≤ k by omega)
  rw [spec_Value.j2, if_neg (by decide)]
  have f := hk.leS
  rcases hk.ex with ⟨h1, h2⟩ | ⟨h1, h2, h3, h4⟩
  · rw [if_neg (by omega)]
    have hz : Dc.exv s j0 = 0 := by unfold Dc.exv; rw [h2, h1, Nat.sub_self]; rfl
    refine bare_val hs hk hx hl hv (by omega) (by rw [hz]; decide) ?_
    rw [hp]
    unfold Dc.tkP
    rw [hz]
    cases es <;> simp
  · have ei := w_succ i2 (by omega)
    have esz : (s.extract (i2 + 1) s.size).size = s.size - (i2 + 1) := by rw [ByteArray.size_extract]; omega
    rw [if_pos (by omega), ei, if_pos (by omega), if_pos (by omega), Int.toNat_natCast]
    obtain ⟨r, e1, e2⟩ := signed_f (t := s.extract (i2 + 1) s.size) (by omega) (j := j0 - (i2 + 1)) (es := es) (by omega)
      (by
        rcases h4 with c | c | c
        · exact .inl ⟨by omega, c.2⟩
        · refine .inr (.inl ⟨by omega, ?_, c.2.2⟩); rw [bt_ext s _ (by omega)]; exact c.2.1
        · refine .inr (.inr ⟨by omega, ?_, c.2.2⟩); rw [bt_ext s _ (by omega)]; exact c.2.1)
      (fun i a b => by rw [bt_ext s _ (by omega)]; exact hk.dg3 _ (by omega) (by omega)) (k := k) (by omega)
    rw [exv_ext s _ _ (by omega), show i2 + 1 + (j0 - (i2 + 1)) = j0 by omega] at e2
    rw [e1, Option.bind_some]
    by_cases c : r.2 = true
    · obtain ⟨q1, q2⟩ := e2 c
      rw [if_pos c]
      refine bare_val hs hk hx hl hv (by omega) q1 ?_
      rw [q2, hp]
      unfold Dc.tkP
      have : Dc.frl i1 i2 ≤ 2147483647 := by unfold Dc.frl; omega
      rw [IntWalk.wrap64_in _ (by cases es <;> simp <;> omega)]
      omega
    · rw [if_neg c]
      exact ⟨_, rfl, fun h => by simp at h⟩
theorem value_l0 : ∀ c k i : Nat, ∀ (xs : List Int) (q : Nat) (x8 : Bool), i + c = i2 → i0 ≤ i → 2 * s.size + 10 + 2 * c < k → Dgs xs → lv xs = Dc.mv s i0 (i - i0) → xs.length ≤ i → q = i - i1 - 1 → x8 = decide (i1 < i) →
    ∃ r, spec_Value.l0 k s (i : Int) xs (-(q : Int)) x8 ng (⟨#[]⟩ : ByteArray) 0 = some r ∧ ValIs s r := by
  have f := hk.leS
  intro c
  induction c with
  | zero =>
    intro k i xs q x8 hi hi0 hkk hx hv hl hq h8
    obtain ⟨k, rfl⟩ := one_of (show 1 ≤ k by omega)
    obtain rfl : i = i2 := by omega
    have fin := value_end hs hk (xs := xs) hx (Nat.le_trans hl f) hv (k := k) (by omega) (p := -(q : Int)) (by rw [hq]; rfl) x8
    have qq0 : 0 ≤ (i : Int) := by omega
    rw [spec_Value.l0]
    rcases hk.ex with ⟨h1, h2⟩ | ⟨h1, h2, h3, h4⟩
    · have qq : ¬ (i : Int) < (s.size : Int) := by omega
      rw [if_neg qq]; exact fin
    · have qq : (i : Int) < (s.size : Int) := by omega
      rw [if_pos qq, if_pos qq0, btI s i h1]
      rcases h2 with h2 | h2
      · rw [h2, if_pos (show ((101 : Nat) : Int) = 101 from rfl)]; exact fin
      · rw [h2, if_neg (by decide)]; exact fin
  | succ c ih =>
    intro k i xs q x8 hi hi0 hkk hx hv hl hq h8
    obtain ⟨k, rfl⟩ := two_of (show 2 ≤ k by omega)
    have il2 : i < i2 := by omega
    have ilS : i < s.size := by omega
    have eb := btI s i ilS
    have b63 : i < 9223372036854775807 := by omega
    have at_ := hk.at_ hi0 il2
    have bd : Dc.bt s i ≤ 57 := by rcases at_ with d | d; exact d.2; omega
    have n101 : ¬ ((Dc.bt s i : Nat) : Int) = 101 := by omega
    have n69 : (((Dc.bt s i : Nat) : Int) != 69) = true := bne_iff_ne.mpr (by omega)
    have q1 : (i : Int) < (s.size : Int) := by omega
    have q0 : 0 ≤ (i : Int) := by omega
    have xl : xs.length < 140737488355328 := by omega
    have q62 : q < 4611686018427387904 := by omega
    have a1 : i + 1 + c = i2 := by omega
    have a2 : i0 ≤ i + 1 := by omega
    have a3 : 2 * s.size + 10 + 2 * c < k := by omega
    have fr := hk.fr
    clear hs hkk hi ilS
    have IH := fun xs q x8 => ih k (i + 1) xs q x8 a1 a2 a3
    clear ih a1 a3
    rw [spec_Value.l0, if_pos q1, if_pos q0, eb, if_neg n101, n69, spec_Value.j2, if_pos rfl, if_pos q0, if_pos q1, eb, w_succ i b63]
    clear b63
    rcases at_ with d | ⟨rfl, d⟩
    · have d1 := d.1
      have hv2 : lv (xs ++ [((Dc.bt s i : Nat) : Int)]) = Dc.mv s i0 (i + 1 - i0) := by
        rw [lv_snoc, Dc.mv_dig hi0 d, hv, to_dig d1]
      have hx2 : Dgs (xs ++ [((Dc.bt s i : Nat) : Int)]) := by
        intro y hy
        rcases List.mem_append.mp hy with h | h
        · exact hx y h
        · rw [List.mem_singleton] at h; rw [h]; exact ⟨by omega, by omega⟩
      have hl2 : (xs ++ [((Dc.bt s i : Nat) : Int)]).length ≤ i + 1 := by rw [List.length_append]; exact Nat.add_le_add_right hl 1
      have n46 : ¬ ((Dc.bt s i : Nat) : Int) = 46 := by omega
      rw [if_neg n46, if_pos xl, Option.bind_some]
      by_cases c8 : i1 < i
      · have e8 : x8 = true := by rw [h8]; exact decide_eq_true c8
        rw [if_pos e8, w_negs q q62]
        exact IH _ (q + 1) x8 hx2 hv2 hl2 (by rw [hq]; exact (sub_step c8).symm) (by rw [e8]; exact (decide_eq_true (Nat.lt_succ_of_lt c8)).symm)
      · have e8 : ¬ x8 = true := by rw [h8, decide_eq_false c8]; decide
        rw [if_neg e8]
        have c9 : ¬ i = i1 := by
          rintro rfl
          rcases fr with r | r
          · omega
          · omega
        have cl : i + 1 ≤ i1 := by omega
        exact IH _ q x8 hx2 hv2 hl2 (by rw [hq, sub_none cl, sub_none (Nat.le_of_succ_le cl)]) (by rw [h8, decide_eq_false c8]; exact (decide_eq_false (Nat.not_lt.mpr cl)).symm)
    · rw [d, if_pos (show ((46 : Nat) : Int) = 46 from rfl)]
      exact IH _ q true hx (by rw [Dc.mv_dot hi0 d]; exact hv) (Nat.le_succ_of_le hl) (by rw [hq, sub_one_]; exact sub_none (Nat.le_refl _)) (decide_eq_true (Nat.lt_succ_self _)).symm
end
theorem isNumber_k {s : ByteArray} (hs : s.size < 4611686018427387904) {k : Nat} (hk : s.size + 3 < k) : ∃ b : Bool, spec_IsNumber.f k s = some b ∧ (b = true → ∃ i0 i1 i2 j0 ng es, Dc.Tok s i0 i1 i2 j0 ng es) := by
  obtain ⟨b, a', e1, e2⟩ := number_f hs (k := k) hk
  refine ⟨b && decide (a' = s.size), ?_, ?_⟩
  · unfold spec_IsNumber.f
    rw [e1]
    simp only [Option.bind_some]
    cases b with
    | false => rfl
    | true =>
      rw [if_pos rfl, Bool.true_and]
      congr 1
      rw [Bool.eq_iff_iff, beq_iff_eq, decide_eq_true_eq]
      omega
  · intro h
    rw [Bool.and_eq_true, decide_eq_true_eq] at h
    exact e2 h.1 h.2
theorem value_f {s : ByteArray} (hs : s.size ≤ 2147483647) : ∃ k r, spec_Value.f k s = some r ∧ ValIs s r := by
  refine ⟨4 * s.size + 20, ?_⟩
  obtain ⟨b, e1, e2⟩ := isNumber_k (s := s) (by omega) (k := 4 * s.size + 20) (by omega)
  unfold spec_Value.f
  rw [e1, Option.bind_some]
  cases b with
  | false => exact ⟨_, rfl, fun h => by simp at h⟩
  | true =>
    obtain ⟨i0, i1, i2, j0, ng, es, hk⟩ := e2 rfl
    have l0 := hk.le0
    have l2 := hk.le2
    have lS := hk.leS
    have eb := btI s 0 (by omega)
    rw [show ((0 : Nat) : Int) = 0 from rfl] at eb
    rw [if_pos rfl, if_pos (by omega), eb]
    have main : ∃ r, spec_Value.j0 (4 * s.size + 20) s (i0 : Int) ng (⟨#[]⟩ : ByteArray) 0 = some r ∧ ValIs s r := by
      rw [spec_Value.j0]
      have e1 : i0 + (i2 - i0) = i2 := by have := hk.lt1; omega
      have e2 : ¬ i1 < i0 := by have := hk.lt1; omega
      exact value_l0 hs hk (i2 - i0) _ i0 [] 0 false e1 (Nat.le_refl _) (by omega) (fun y hy => by simp at hy) (by rw [Nat.sub_self]; rfl) (Nat.zero_le _) (sub_none (Nat.not_lt.mp e2)).symm (decide_eq_false e2).symm
    rcases hk.sg with ⟨rfl, rfl, h45⟩ | ⟨rfl, rfl⟩
    · rw [if_pos (by omega)]; exact main
    · have := (hk.dg1 0 (Nat.le_refl _) (by have := hk.lt1; omega)).1
      rw [if_neg (by omega)]; exact main
end Go.Proofs.YtjemobfhlfejlaaGreatDoor.Sp
namespace Go.Proofs.YtjemobfhlfejlaaGreatDoor.Dc
open Go Go.RowKit
open Sp (NearTo tdv)
theorem ffb11 (x : Int) (w : World) : (callFunc 11 #[.int .u64 x]).run Tryz.prog w = .ok (.value (.float .f64 x.toNat)) w :=
  (run_callFunc_extern Tryz.func11 (by kernel_rfl) (by kernel_rfl) (by kernel_rfl) (e := Extern.MathFloatBits.float64frombits) (by kernel_rfl) _ w).trans rfl
theorem ffb12 (x : Nat) (w : World) : (callFunc 12 #[.float .f64 x]).run Tryz.prog w = .ok (.value (.int .u64 (x : Int))) w :=
  (run_callFunc_extern Tryz.func12 (by kernel_rfl) (by kernel_rfl) (by kernel_rfl) (e := Extern.MathFloatBits.float64bits) (by kernel_rfl) _ w).trans rfl
inductive IsNr (ng : Bool) (ds : ByteArray) (p : Int) : Ending → Prop
  | mk (R : Nat) (h : R ≤ 2047 * 2 ^ 52) (hN : ∀ V : Rat, (ds.size ≠ 0 → V = (tdv ds ds.size : Rat) * 10 ^ p) → NearTo V R) : IsNr ng ds p (.returned (.float .f64 (Ieee.double.word ng R)))
theorem near_no {V : Rat} {R : Nat} (h : R = 0 ∨ R = 2047 * 2 ^ 52) : NearTo V R := fun h1 h2 => by omega
set_option maxHeartbeats 4000000 in
set_option maxRecDepth 100000 in
theorem nearest_any {w : World} {ng : Bool} {ds : ByteArray} {p : Int} (hd : ∀ i, i < ds.size → IsD (bt ds i)) (hs : ds.size ≤ 800) (p0 : -2305843009213693952 ≤ p) (p1 : p ≤ 2305843009213693952) :
    Calls Tryz.prog 10 #[.agg #[.bool ng, .string ds, .int .i64 p]] w fun e w' => IsNr ng ds p e ∧ Below w.heap.size w w' := by
  have hu30 := Tryz.underlying30
  have hf := fun (x : Int) (W : World) => ffb11 x W
  have ss : (ds.size : Int) ≤ 800 := by omega
  have s0 : 0 ≤ (ds.size : Int) := by omega
  have fin : ∀ R : Nat, R ≤ 2047 * 2 ^ 52 → (∀ V : Rat, (ds.size ≠ 0 → V = (tdv ds ds.size : Rat) * 10 ^ p) → NearTo V R) → ∀ e, (e = .returned (.float .f64 (if ng then bits .or .u64 (R : Int) 9223372036854775808 else (R : Int)).toNat)) → IsNr ng ds p e := fun R hR hN e he => by
    rw [he]
    have : (if ng then bits .or .u64 (R : Int) 9223372036854775808 else (R : Int)).toNat = Ieee.double.word ng R := by
      cases ng
      · rfl
      · rw [if_pos rfl, Sp.or_sign (by omega), Int.toNat_natCast]
    rw [this]
    exact .mk R hR hN
  have FIN := Lib.hid fin; clear fin
  by_cases c0 : ds.size = 0
  · have F0 := Lib.hid (FIN.out 0 (by decide) (fun V _ => near_no (.inl rfl)))
    clear FIN
    obtain rfl : ds = ⟨#[]⟩ := by
      have : ds.data.size = 0 := c0
      have e : ds.data = #[] := Array.eq_empty_of_size_eq_zero this
      cases ds; cases e; rfl
    clear c0 hd hs ss s0
    go_enter Tryz.func10, Tryz.ntmps10
    cases ng with
    | false =>
      go_wp2_with fail
      go_ret
      exact ⟨F0.out _ rfl, (Below.refl _ _).alloc (Nat.le_refl _) _⟩
    | true =>
      go_wp2_with fail
      go_ret
      exact ⟨F0.out _ rfl, (Below.refl _ _).alloc (Nat.le_refl _) _⟩
  · have n0 : ¬ ds.toList = [] := fun h => by
      have e : ds.toList = ds.data.toList := ByteArray.toList_eq ds
      rw [e] at h
      have : ds.data = #[] := by simpa using h
      exact c0 (by show ds.data.size = 0; rw [this]; rfl)
    have n1 : ds.toList.isEmpty = false := by
      cases h : ds.toList with
      | nil => exact absurd h n0
      | cons _ _ => rfl
    have C0 := Lib.hid c0; clear c0
    have HD := Lib.hid hd; clear hd
    have HS := Lib.hid hs; clear hs
    go_enter Tryz.func10, Tryz.ntmps10
    by_cases c1 : p + (ds.size : Int) < -400
    · have t1 : decide (p + (ds.size : Int) < -400) = true := decide_eq_true c1
      have F0 := Lib.hid (FIN.out 0 (by decide) (fun V _ => near_no (.inl rfl)))
      clear FIN c1
      cases ng with
      | false =>
        go_wp2_with fail
        go_ret
        exact ⟨F0.out _ rfl, (Below.refl _ _).alloc (Nat.le_refl _) _⟩
      | true =>
        go_wp2_with fail
        go_ret
        exact ⟨F0.out _ rfl, (Below.refl _ _).alloc (Nat.le_refl _) _⟩
    · have t1 : decide (p + (ds.size : Int) < -400) = false := decide_eq_false c1
      by_cases c2 : 400 < p + (ds.size : Int)
      · have t2 : decide (400 < p + (ds.size : Int)) = true := decide_eq_true c2
        have F0 := Lib.hid (FIN.out (2047 * 2 ^ 52) (by decide) (fun V _ => near_no (.inr rfl)))
        clear FIN c1 c2
        cases ng with
        | false =>
          go_wp2_with fail
          go_ret
          exact ⟨F0.out _ rfl, (Below.refl _ _).alloc (Nat.le_refl _) _⟩
        | true =>
          go_wp2_with fail
          go_ret
          exact ⟨F0.out _ rfl, (Below.refl _ _).alloc (Nat.le_refl _) _⟩
      · have t2 : decide (400 < p + (ds.size : Int)) = false := decide_eq_false c2
        obtain ⟨k, R, hk, hR, hN⟩ := Sp.nearest_f HS.out HD.out (p := p) (by omega) (by omega) ng
        have NC := Lib.hid (fun W => PFnFjFloatNear.spec_nearest.calls k ng ds p (R : Int) W hk)
        have F0 := Lib.hid (FIN.out R hR (fun V hV => by rw [hV C0.out]; exact hN))
        have r0 : 0 ≤ (R : Int) := by omega
        have r1 : (R : Int) ≤ 9218868437227405312 := by omega
        clear FIN c1 c2 hk hR hN
        cases ng with
        | false =>
          go_wp2_with (go_at_call 19; (with_reducible refine (NC.out _).mono ?_); rintro e w' ⟨rfl, hb⟩; have HBT := Lib.hid hb; clear hb; have hc : w'.cell? ⟨w.heap.size, 0, none⟩ = some (.bool false) := (HBT.out.cell (by show w.heap.size < _; rw [World.size_alloc]; omega)).trans (by rw [World.cell?_alloc_new]; rfl))
          go_ret
          exact ⟨F0.out _ rfl, ((Below.refl _ _).alloc (Nat.le_refl _) _).trans (HBT.out.mono (by rw [World.size_alloc]; omega))⟩
        | true =>
          go_wp2_with (go_at_call 19; (with_reducible refine (NC.out _).mono ?_); rintro e w' ⟨rfl, hb⟩; have HBT := Lib.hid hb; clear hb; have hc : w'.cell? ⟨w.heap.size, 0, none⟩ = some (.bool true) := (HBT.out.cell (by show w.heap.size < _; rw [World.size_alloc]; omega)).trans (by rw [World.cell?_alloc_new]; rfl))
          go_ret
          exact ⟨F0.out _ rfl, ((Below.refl _ _).alloc (Nat.le_refl _) _).trans (HBT.out.mono (by rw [World.size_alloc]; omega))⟩
end Go.Proofs.YtjemobfhlfejlaaGreatDoor.Dc
namespace Go.Proofs.YtjemobfhlfejlaaGreatDoor.Dc
open Go Go.RowKit
open Sp (NearTo tdv)
inductive IsNt (s : ByteArray) : Ending → Prop
  | no (x : Nat) : IsNt s (.returned (.tuple #[.float .f64 x, .bool false]))
  | yes (i0 i1 i2 j0 : Nat) (ng es : Bool) (R : Nat) (hk : Tok s i0 i1 i2 j0 ng es) (hs : s.size ≤ 800) (hR : R ≤ 2047 * 2 ^ 52) (hN : NearTo ((tkM s i0 i2 : Rat) * 10 ^ tkP s i1 i2 j0 es) R) :
      IsNt s (.returned (.tuple #[.float .f64 (Ieee.double.word ng R), .bool true]))
set_option maxHeartbeats 4000000 in
set_option maxRecDepth 100000 in
theorem nearestTo_any {w : World} {s : ByteArray} (hs : s.size ≤ 2147483647) :
    Calls Tryz.prog 4 #[.string s] w fun e w' => IsNt s e ∧ Below w.heap.size w w' := by
  have hu30 := Tryz.underlying30
  have ss : (s.size : Int) ≤ 2147483647 := by omega
  obtain ⟨k, ⟨r1, r2, r3, r4⟩, hv, hi⟩ := Sp.value_f hs
  have VC := Lib.hid (fun W => PFnFjFloatNear.spec_Value.calls k s r1 r2 r3 r4 W hv)
  have HI := Lib.hid hi
  clear hi hv hs
  go_enter Tryz.func4, Tryz.ntmps4
  cases r4 with
  | false =>
    go_wp2_with (go_at_call 9; (with_reducible refine (VC.out _).mono ?_); rintro e w' ⟨rfl, hb⟩; have HBT := Lib.hid hb; clear hb)
    go_ret2
    exact ⟨.no _, (HBT.out).alloc HBT.out.size _⟩
  | true =>
    by_cases h8 : 800 < s.size
    · have t1 : decide (800 < s.size) = true := decide_eq_true h8
      have t2 : decide ((800 : Int) < (s.size : Int)) = true := decide_eq_true (by omega)
      clear h8
      go_wp2_with (go_at_call 9; (with_reducible refine (VC.out _).mono ?_); rintro e w' ⟨rfl, hb⟩; have HBT := Lib.hid hb; clear hb)
      go_ret2
      exact ⟨.no _, (HBT.out).alloc HBT.out.size _⟩
    · have t1 : decide (800 < s.size) = false := decide_eq_false h8
      have t2 : decide ((800 : Int) < (s.size : Int)) = false := decide_eq_false (by omega)
      obtain ⟨i0, i1, i2, j0, ng, es, hk, rfl, hE, hd, hsz, b0, b1, hval⟩ := HI.out rfl
      have H8 := Lib.hid (show s.size ≤ 800 by omega)
      have HK := Lib.hid hk
      have HV := Lib.hid hval
      have NC := Lib.hid (fun W => nearest_any (w := W) (ng := r1) (ds := r2) (p := r3) hd (Nat.le_trans hsz H8.out) b0 b1)
      clear HI hk hE hd hsz b0 b1 hval h8
      go_wp2_with (first | (go_at_call 9; (with_reducible refine (VC.out _).mono ?_); rintro e w' ⟨rfl, hb⟩; have HBT := Lib.hid hb; clear hb) | (go_at_call 10; (with_reducible refine (NC.out _).mono ?_); rintro e w2 ⟨⟨R, hR, hN⟩, hb⟩; have HBT2 := Lib.hid hb; have HR := Lib.hid hR; have HN := Lib.hid hN; clear hb hR hN))
      go_ret2
      exact ⟨.yes i0 i1 i2 j0 r1 es R HK.out H8.out HR.out (HN.out _ (fun h => (HV.out h).symm)), ((HBT.out).alloc HBT.out.size _).trans (HBT2.out.mono (by have := HBT.out.size; rw [World.size_alloc]; omega))⟩
theorem abs_any {w : World} (ng : Bool) {R : Nat} (h : R < 2 ^ 63) : Calls Tryz.prog 5 #[.float .f64 (Ieee.double.word ng R)] w fun e w' => e = .returned (.float .f64 R) ∧ w' = w := by
  have hf := fun (x : Int) => ffb11 x w
  have hg := fun (x : Nat) => ffb12 x w
  have ha := Sp.abs_bit ng h
  obtain ⟨W, hW⟩ : ∃ W, W = Ieee.double.word ng R := ⟨_, rfl⟩
  rw [← hW] at ha ⊢
  clear hW h
  go_enter Tryz.func5, Tryz.ntmps5
  go_wp2_with fail
  go_ret
  exact ⟨rfl, rfl⟩
end Go.Proofs.YtjemobfhlfejlaaGreatDoor.Dc
namespace Go.Proofs.YtjemobfhlfejlaaGreatDoor.Dc
open Go Go.RowKit Go.Proofs.YtjemobfhlfejlaaGreatDoorW.PrintWords
theorem fz_past {w : World} {g i n : Nat} (h : w.heap.size = n) (hg : n ≤ g) : w.frozen? ⟨g, i, none⟩ = false := by
  have e : w.heap[g]? = none := Array.getElem?_eq_none (by omega)
  unfold World.frozen?
  simp [e]
theorem info71 : (Tryz.prog.info? 71).map (fun i => (i.zero, i.size, i.bytes)) = some (some (.agg #[.slice none 0 0, .bool false, .slice none 0 0, .string ⟨#[]⟩, .int .i64 0]), 5, 80) := by kernel_rfl
set_option maxHeartbeats 4000000 in
set_option maxRecDepth 100000 in
theorem get_any {w : World} {b o : Nat} (hc : w.cell? ⟨b, o, none⟩ = some (.slice none 0 0)) (hf : w.frozen? ⟨b, o, none⟩ = false) :
    Calls Tryz.prog 27 #[.pointer (some ⟨b, o, none⟩)] w fun e w' => ∃ g, e = .returned (.pointer (some ⟨g, 0, none⟩)) ∧ w.heap.size ≤ g ∧ (∃ x y, w'.cell? ⟨g, 3, none⟩ = some x ∧ w'.cell? ⟨g, 4, none⟩ = some y) ∧ w'.frozen? ⟨g, 3, none⟩ = false ∧ w'.frozen? ⟨g, 4, none⟩ = false ∧ Below b w w' := by
  obtain ⟨i0, hi, hz0, hz1, hz2⟩ := info_parts info71
  have HI := Lib.hid hi; have HZ0 := Lib.hid hz0; have HZ1 := Lib.hid hz1; have HZ2 := Lib.hid hz2
  clear hi hz0 hz1 hz2
  have hlt := World.block_lt_of_cell? w _ hc
  go_enter Tryz.func27, Tryz.ntmps27
  go_wp2_with fail
  go_quiet (fail)
  obtain ⟨B, hB⟩ : ∃ B, w.heap.size = B := ⟨_, rfl⟩
  obtain ⟨w1, hw1⟩ : ∃ w1, w.drewN nq = w1 := ⟨_, rfl⟩
  have c1 : w1.cell? ⟨b, o, none⟩ = some (.slice none 0 0) := by rw [← hw1]; exact hc
  have f1 : w1.frozen? ⟨b, o, none⟩ = false := by rw [← hw1]; exact hf
  have b1 : Hid (Below b w w1) := Lib.hid (by rw [← hw1]; exact (Below.refl b w).trans ⟨rfl, rfl, rfl, Nat.le_refl _, fun _ _ => rfl⟩)
  have s1 : w1.heap.size = B := by rw [← hw1]; exact hB
  have hbB : b < B := by rw [← hB]; exact hlt
  have HWB := Lib.hid hB
  rw [hw1]
  clear hw1 hc hf hB hlt
  go_wp2_with fail
  obtain ⟨C, hC⟩ : ∃ C, (Question.appendCap 1 0 71).cut (w1.tape w1.drawn (Question.appendCap 1 0 71)) = C := ⟨_, rfl⟩
  rw [hC]
  obtain ⟨Z, hZ⟩ : ∃ Z, Builtin.zeroCells #[.slice none 0 0, .bool false, .slice none 0 0, .string ⟨#[]⟩, .int .i64 0] (C - 1) = Z := ⟨_, rfl⟩
  rw [hZ]
  obtain ⟨w5, hw5⟩ : ∃ w5, w1.setCell ⟨b, o, none⟩ (.slice (some ⟨B + 1, 0, none⟩) 1 C) = w5 := ⟨_, rfl⟩
  obtain ⟨w6, hw6⟩ : ∃ w6, w5.alloc (Obj.cells #[.slice none 0 0, .bool false, .slice none 0 0, .string ⟨#[]⟩, .int .i64 0] 71) = w6 := ⟨_, rfl⟩
  obtain ⟨w7, hw7⟩ : ∃ w7, (w6.alloc (Obj.cells (#[.slice none 0 0, .bool false, .slice none 0 0, .string ⟨#[]⟩, .int .i64 0] ++ Z) 71)).drew = w7 := ⟨_, rfl⟩
  rw [hw5, hw6, hw7]
  have s5 : w5.heap.size = B := by rw [← hw5, World.size_setCell]; exact s1
  have s6 : w6.heap.size = B + 1 := by rw [← hw6, World.size_alloc, s5]
  have s7 : w7.heap.size = B + 2 := by rw [← hw7]; show (w6.alloc _).heap.size = _; rw [World.size_alloc, s6]
  have c5 : w5.cell? ⟨b, o, none⟩ = some (.slice (some ⟨B + 1, 0, none⟩) 1 C) := by rw [← hw5]; exact World.cell?_setCell_same' _ _ _ (by rw [c1]; rfl)
  have bl : Below B w5 w7 := by rw [← hw7, ← hw6]; exact (((Below.refl B w5).alloc (by omega) _).alloc (by rw [World.size_alloc]; omega) _).drew
  have c7 : w7.cell? ⟨b, o, none⟩ = some (.slice (some ⟨B + 1, 0, none⟩) 1 C) := (bl.cell hbB).trans c5
  have f7 : w7.frozen? ⟨b, o, none⟩ = false := (bl.frozen hbB).trans (by rw [← hw5]; simp [go_sem, f1])
  have d3 : w7.cell? ⟨B + 1, 3, none⟩ = some (.string ⟨#[]⟩) := by rw [← hw7]; show (w6.alloc _).cell? _ = _; rw [World.cell?_alloc_at _ _ _ _ s6.symm]; exact (Array.getElem?_append_left (by simp)).trans rfl
  have d4 : w7.cell? ⟨B + 1, 4, none⟩ = some (.int .i64 0) := by rw [← hw7]; show (w6.alloc _).cell? _ = _; rw [World.cell?_alloc_at _ _ _ _ s6.symm]; exact (Array.getElem?_append_left (by simp)).trans rfl
  have g3 : w7.frozen? ⟨B + 1, 3, none⟩ = false := by rw [← hw7]; show (w6.alloc _).frozen? _ = _; rw [frozen?_alloc_cells, ← hw6, frozen?_alloc_cells]; exact fz_past s5 (by omega)
  have g4 : w7.frozen? ⟨B + 1, 4, none⟩ = false := by rw [← hw7]; show (w6.alloc _).frozen? _ = _; rw [frozen?_alloc_cells, ← hw6, frozen?_alloc_cells]; exact fz_past s5 (by omega)
  have bb : Hid (Below b w w7) := Lib.hid ((b1.out.trans (by rw [← hw5]; exact (Below.refl b w1).setCell (Nat.le_refl _) _)).trans (bl.mono (by omega)))
  clear hw5 hw6 hw7 hC hZ bl c5 c1 f1 s5 s6
  go_quiet (fail)
  go_wp2_with fail
  go_ret
  exact ⟨B + 1, rfl, by rw [HWB.out]; omega, ⟨_, _, d3, d4⟩, g3, g4, bb.out.trans ⟨rfl, rfl, rfl, Nat.le_refl _, fun _ _ => rfl⟩⟩
end Go.Proofs.YtjemobfhlfejlaaGreatDoor.Dc
namespace Go.Proofs.YtjemobfhlfejlaaGreatDoor.Dc
open Go Go.RowKit
inductive IsPF (M : Nat) (P : Int) (ng : Bool) : Ending → Prop
  | mk (f : Nat) (h : PFIs M P ng f) : IsPF M P ng (.returned (.tuple #[.float .f64 f, .nilIface]))
section
variable {w : World} {B : Nat} {s : ByteArray} {i0 i1 i2 j0 : Nat} {ng es : Bool}
set_option maxRecDepth 100000 in
theorem pfp_any (h : TS w B) (hB : B ≤ w.heap.size) (hs : s.size ≤ 800) (hk : Tok s i0 i1 i2 j0 ng es) (hE : exv s j0 < 10000) (hR : Rng (tkM s i0 i2) (tkP s i1 i2 j0 es)) :
    Calls Tryz.prog 68 #[.string s, .int .i64 64] w fun e w' => IsAF (tkM s i0 i2) (tkP s i1 i2 j0 es) ng s.size e ∧ Below w.heap.size w w' := by
  have A := Lib.hid (at64_any h hB hs hk hE hR)
  obtain ⟨M, hM⟩ : ∃ M, M = tkM s i0 i2 := ⟨_, rfl⟩
  obtain ⟨P, hP⟩ : ∃ P, P = tkP s i1 i2 j0 es := ⟨_, rfl⟩
  rw [← hM, ← hP] at A ⊢
  clear hM hP hR hE hk
  have H := Lib.hid h; clear h
  go_enter Tryz.func68, Tryz.ntmps68
  go_wp2_with (go_at_call 77; refine A.out.mono ?_; rintro e w' ⟨⟨f, hf⟩, hb⟩; have HF := Lib.hid hf; have HB := Lib.hid hb; clear hf hb)
  go_ret3
  exact ⟨.mk _ HF.out, HB.out⟩
set_option maxRecDepth 100000 in
theorem ipf_any (h : TS w B) (hB : B ≤ w.heap.size) (hs : s.size ≤ 800) (hk : Tok s i0 i1 i2 j0 ng es) (hE : exv s j0 < 10000) (hR : Rng (tkM s i0 i2) (tkP s i1 i2 j0 es)) :
    Calls Tryz.prog 61 #[.string s, .int .i64 64] w fun e w' => IsPF (tkM s i0 i2) (tkP s i1 i2 j0 es) ng e ∧ Below w.heap.size w w' := by
  have A := Lib.hid (pfp_any h hB hs hk hE hR)
  obtain ⟨M, hM⟩ : ∃ M, M = tkM s i0 i2 := ⟨_, rfl⟩
  obtain ⟨P, hP⟩ : ∃ P, P = tkP s i1 i2 j0 es := ⟨_, rfl⟩
  rw [← hM, ← hP] at A ⊢
  clear hM hP hR hE hk
  have H := Lib.hid h; clear h
  have t : ((s.size : Int) != (s.size : Int)) = false := by simp
  go_enter Tryz.func61, Tryz.ntmps61
  go_wp2_with (go_at_call 68; refine A.out.mono ?_; rintro e w' ⟨⟨f, hf⟩, hb⟩; have HF := Lib.hid hf; have HB := Lib.hid hb; clear hf hb)
  go_ret2
  exact ⟨.mk _ HF.out, HB.out⟩
set_option maxRecDepth 100000 in
theorem parsefloat_any (h : TS w B) (hB : B ≤ w.heap.size) (hs : s.size ≤ 800) (hk : Tok s i0 i1 i2 j0 ng es) (hE : exv s j0 < 10000) (hR : Rng (tkM s i0 i2) (tkP s i1 i2 j0 es)) :
    Calls Tryz.prog 39 #[.string s, .int .i64 64] w fun e w' => IsPF (tkM s i0 i2) (tkP s i1 i2 j0 es) ng e ∧ Below w.heap.size w w' := by
  have A := Lib.hid (ipf_any h hB hs hk hE hR)
  obtain ⟨M, hM⟩ : ∃ M, M = tkM s i0 i2 := ⟨_, rfl⟩
  obtain ⟨P, hP⟩ : ∃ P, P = tkP s i1 i2 j0 es := ⟨_, rfl⟩
  rw [← hM, ← hP] at A ⊢
  clear hM hP hR hE hk
  have H := Lib.hid h; clear h
  go_enter Tryz.func39, Tryz.ntmps39
  go_wp2_with (go_at_call 61; refine A.out.mono ?_; rintro e w' ⟨⟨f, hf⟩, hb⟩; have HF := Lib.hid hf; have HB := Lib.hid hb; clear hf hb)
  go_ret2
  exact ⟨.mk _ HF.out, HB.out⟩
end
end Go.Proofs.YtjemobfhlfejlaaGreatDoor.Dc
namespace Go.Proofs.YtjemobfhlfejlaaGreatDoor.Ie
open Ieee
def Near3 (r : Nat) (v : Rat) : Prop := 2 ^ 52 ≤ r ∧ r < 2047 * 2 ^ 52 ∧ rv r ≤ v + 3 * (v * 2 ^ (-53 : Int)) ∧ v - 3 * (v * 2 ^ (-53 : Int)) ≤ rv r
instance (r : Nat) (v : Rat) : Decidable (Near3 r v) := inferInstanceAs (Decidable (_ ∧ _ ∧ _ ∧ _))
def powUp (i : Nat) : Nat := (double.mul (post.getD (i / 32) 0) (tab.getD (i % 32) 0)).getD 0
def powDn (i : Nat) : Nat := (double.div (negt.getD (i / 32) 0) (tab.getD (i % 32) 0)).getD 0
theorem powUp_is : ∀ i, i < 301 → double.mul (post.getD (i / 32) 0) (tab.getD (i % 32) 0) = some (powUp i) ∧ Near3 (powUp i) ((10 ^ i : Nat) : Rat) := by decide +kernel
theorem powDn_is : ∀ i, i < 301 → double.div (negt.getD (i / 32) 0) (tab.getD (i % 32) 0) = some (powDn i) ∧ Near3 (powDn i) (1 / ((10 ^ i : Nat) : Rat)) := by decide +kernel
end Go.Proofs.YtjemobfhlfejlaaGreatDoor.Ie
