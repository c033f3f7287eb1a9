/- What the reader of the places answers: it always ends, and where it says yes there is a syntax tree whose place it answers. No condition but that the text has at most 4096 bytes, which is stated in each lemma. -/
import Derived.Test.YtffdebhaclkhjaaSx4
set_option linter.unusedVariables false
set_option linter.unusedSimpArgs false
namespace Go.Proofs.Ytffdebhaclkhjaa.PFnPrWholeDefault
open Go.RowKit Go.Proofs.YtffdebhaclkhjaaW.PrintWords

theorem w64 {x : Int} (h1 : -9223372036854775808 ≤ x) (h2 : x < 9223372036854775808) : wrap64 x = x := by unfold wrap64; omega
theorem bt_out (s : ByteArray) (i : Nat) (h : s.size ≤ i) : bt s (i : Int) = 0 := by
  unfold bt; rw [dif_neg]; simp only [Int.toNat_natCast]; omega
theorem bt_in {s : ByteArray} {i : Nat} {c : Int} (h : bt s (i : Int) = c) (hc : c ≠ 0) : i < s.size := by
  rcases Nat.lt_or_ge i s.size with h1 | h1
  · exact h1
  · rw [bt_out s i h1] at h; exact absurd h.symm hc
theorem Ev.is {α : Type} {g : Nat → Option α} {a : α} (h : ∀ k, g k = some a) : Ev g a := ⟨0, fun k _ => h k⟩
theorem Ev.two {α β : Type} {g : Nat → Option α} {f : Nat → α → Option β} {a : α} {r : β} (h : Ev g a) (k : Ev (fun n => f n a) r) : Ev (fun n => (g n).bind fun x => f n x) r := Ev.bind h k

def isB (c : Int) : Bool := c == 32 || c == 9 || c == 10 || c == 13
theorem isB_iff (c : Int) : isB c = true ↔ c = 32 ∨ c = 9 ∨ c = 10 ∨ c = 13 := by simp [isB, or_assoc]
theorem isB_le {c : Int} (h : isB c = true) : c ≤ 32 := by rw [isB_iff] at h; omega
theorem blank_f (c : Int) : spec_Blank.f c = some (isB c) := by
  unfold spec_Blank.f isB
  by_cases h1 : c = 32
  · simp [h1]
  · by_cases h2 : c = 9
    · simp [h2]
    · by_cases h3 : c = 10
      · simp [h3]
      · simp [h1, h2, h3]
/-- Blanks from i to j. -/
def Blk (s : ByteArray) (i j : Nat) : Prop := i ≤ j ∧ j ≤ s.size ∧ ∀ q, i ≤ q → q < j → isB (bt s (q : Int)) = true
theorem blanks_ev {s : ByteArray} (hn : s.size ≤ 4096) : ∀ m i, s.size - i = m → i ≤ s.size → ∃ j, Blk s i j ∧ (j < s.size → isB (bt s (j : Int)) = false) ∧ Ev (fun k => spec_reader_blanks.f k s (i : Int)) (s, (j : Int)) := by
  intro m
  induction m with
  | zero =>
    intro i hm hi
    refine ⟨i, ⟨Nat.le_refl _, hi, fun q h1 h2 => by omega⟩, fun h => by omega, Ev.step (f := fun _ => some (s, (i : Int))) (fun k => ?_) (Ev.now _)⟩
    rw [spec_reader_blanks.f, spec_reader_blanks.l0, if_neg (by omega)]
  | succ m ih =>
    intro i hm hi
    have hlt : i < s.size := by omega
    by_cases hb : isB (bt s (i : Int)) = true
    · obtain ⟨j, ⟨h1, h2, h3⟩, h4, h5⟩ := ih (i + 1) (by omega) (by omega)
      refine ⟨j, ⟨by omega, h2, fun q hq1 hq2 => ?_⟩, h4, Ev.step (f := fun k => spec_reader_blanks.f k s ((i + 1 : Nat) : Int)) (fun k => ?_) h5⟩
      · rcases Nat.eq_or_lt_of_le hq1 with h | h
        · rw [← h]; exact hb
        · exact h3 q h hq2
      · rw [spec_reader_blanks.f, spec_reader_blanks.l0, if_pos (by omega), if_pos (by omega), blank_f, Option.bind_some, if_pos hb, w64 (by omega) (by omega)]
        rfl
    · refine ⟨i, ⟨Nat.le_refl _, hi, fun q h1 h2 => by omega⟩, fun _ => by simpa using hb, Ev.step (f := fun _ => some (s, (i : Int))) (fun k => ?_) (Ev.now _)⟩
      rw [spec_reader_blanks.f, spec_reader_blanks.l0, if_pos (by omega), if_pos (by omega), blank_f, Option.bind_some, if_neg hb]
theorem here_f (s : ByteArray) (i : Nat) : spec_reader_here.f s (i : Int) = some (bt s (i : Int), s, (i : Int)) := by
  unfold spec_reader_here.f
  by_cases h : (i : Int) < (s.size : Int)
  · rw [if_pos h, if_pos (by omega)]
  · rw [if_neg h, bt_out s i (by omega)]
theorem take_f {s : ByteArray} (hn : s.size ≤ 4096) (i : Nat) (c : Int) (hc : c ≠ 0) : spec_reader_take.f s (i : Int) c = some (if bt s (i : Int) = c then (true, s, ((i + 1 : Nat) : Int)) else (false, s, (i : Int))) := by
  unfold spec_reader_take.f
  by_cases h : (i : Int) < (s.size : Int)
  · rw [if_pos h, if_pos (by omega)]
    by_cases h2 : bt s (i : Int) = c
    · rw [if_pos h2, if_pos h2, w64 (by omega) (by omega)]; rfl
    · rw [if_neg h2, if_neg h2]
  · rw [if_neg h, if_neg]
    intro h2
    exact h (by have := bt_in h2 hc; omega)
/-! ### strings -/
/-- Is the number of backslashes right before p (behind i) odd? -/
def odd (s : ByteArray) (i : Nat) : Nat → Bool
  | 0 => false
  | p + 1 => if i < p ∧ bt s (p : Int) = 92 then !odd s i p else false
def isHex (c : Int) : Bool := (decide (48 ≤ c) && decide (c ≤ 57)) || (decide (97 ≤ c) && decide (c ≤ 102)) || (decide (65 ≤ c) && decide (c ≤ 70))
theorem hex_ev (c : Int) : ∃ v, Ev (fun k => spec_hexDigit.f k c) (v, isHex c) := by
  by_cases h1 : 48 ≤ c ∧ c ≤ 57
  · refine ⟨(c - 48) % 256, Ev.step (f := fun _ => some ((c - 48) % 256, true)) (fun k => ?_) ?_⟩
    · rw [spec_hexDigit.f, if_pos h1.1, decide_eq_true h1.2, spec_hexDigit.j0, if_pos rfl]
    · rw [show isHex c = true by simp [isHex, h1]]; exact Ev.now _
  · have hj : ∀ k, spec_hexDigit.f (k + 1) c = (if 97 ≤ c then (spec_hexDigit.j1 k c (decide (c ≤ 102))) else (spec_hexDigit.j1 k c false)) := by
      intro k
      rw [spec_hexDigit.f]
      by_cases h2 : 48 ≤ c
      · rw [if_pos h2, decide_eq_false (by omega), spec_hexDigit.j0, if_neg (by simp)]
      · rw [if_neg h2, spec_hexDigit.j0, if_neg (by simp)]
    by_cases h2 : 97 ≤ c ∧ c ≤ 102
    · refine ⟨((c - 97) % 256) + 10, Ev.step (f := fun k => spec_hexDigit.j1 k c true) (fun k => ?_) (Ev.step (f := fun _ => some (((c - 97) % 256) + 10, isHex c)) (fun k => ?_) (Ev.now _))⟩
      · rw [hj, if_pos h2.1, decide_eq_true h2.2]
      · rw [spec_hexDigit.j1, if_pos rfl, show isHex c = true by simp [isHex, h2]]
    · have hj2 : ∀ k, spec_hexDigit.f (k + 1 + 1) c = (if 65 ≤ c then (if c ≤ 70 then (some (((c - 65) % 256) + 10, true)) else (some (0, false))) else (some (0, false))) := by
        intro k
        rw [hj]
        by_cases h3 : 97 ≤ c
        · rw [if_pos h3, decide_eq_false (by omega), spec_hexDigit.j1, if_neg (by simp)]
        · rw [if_neg h3, spec_hexDigit.j1, if_neg (by simp)]
      by_cases h3 : 65 ≤ c ∧ c ≤ 70
      · refine ⟨((c - 65) % 256) + 10, 2, fun k hk => ?_⟩
        obtain ⟨k, rfl⟩ : ∃ k', k = k' + 1 + 1 := ⟨k - 2, by omega⟩
        show spec_hexDigit.f (k + 1 + 1) c = _
        rw [hj2, if_pos h3.1, if_pos h3.2, show isHex c = true by simp [isHex, h3]]
      · refine ⟨0, 2, fun k hk => ?_⟩
        obtain ⟨k, rfl⟩ : ∃ k', k = k' + 1 + 1 := ⟨k - 2, by omega⟩
        have h4 : isHex c = false := by
          simp only [isHex, Bool.or_eq_false_iff, Bool.and_eq_false_iff, decide_eq_false_iff_not]
          omega
        show spec_hexDigit.f (k + 1 + 1) c = _
        rw [hj2, h4]
        by_cases h5 : 65 ≤ c
        · rw [if_pos h5, if_neg (by omega)]
        · rw [if_neg h5]
theorem isHex_no {c : Int} (h : isHex c = true) : c ≠ 34 ∧ c ≠ 92 ∧ c ≠ 0 := by
  simp only [isHex, Bool.or_eq_true, Bool.and_eq_true, decide_eq_true_eq] at h
  omega
theorem ev_pair {α β : Type} {g : Nat → Option α} {f : Nat → α → Option β} {a : α} {r : β} (h : ∀ k, g k = some a) (k : Ev (fun n => f n a) r) : Ev (fun n => (g n).bind (f n)) r := Ev.bind (Ev.is h) k
/-- The four digits behind a backslash and a u. -/
theorem hex4_ev {s : ByteArray} (hn : s.size ≤ 4096) : ∀ m d i, 4 - d = m → d ≤ 4 → i ≤ s.size → ∃ ok j, Ev (fun k => spec_reader_escape.l0 k (d : Nat) s (i : Int)) (ok, s, ((j : Nat) : Int)) ∧ i ≤ j ∧ j ≤ s.size ∧ (ok = true → j = i + m ∧ ∀ q, i ≤ q → q < j → isHex (bt s (q : Int)) = true) := by
  intro m
  induction m with
  | zero =>
    intro d i hd hd4 hi
    refine ⟨true, i, Ev.step (f := fun _ => some (true, s, (i : Int))) (fun k => ?_) (Ev.now _), Nat.le_refl _, hi, fun _ => ⟨rfl, fun q h1 h2 => by omega⟩⟩
    rw [spec_reader_escape.l0, if_neg (by omega)]
  | succ m ih =>
    intro d i hd hd4 hi
    obtain ⟨v, hv⟩ := hex_ev (bt s (i : Int))
    have hst : ∀ k, spec_reader_escape.l0 (k + 1) (d : Nat) s (i : Int) = (spec_hexDigit.f k (bt s (i : Int))).bind fun bt108 => (if bt108.2 = true then (spec_reader_escape.l0 k (wrap64 ((d : Int) + 1)) s (wrap64 ((i : Int) + 1))) else (some (false, s, (i : Int)))) := by
      intro k
      rw [spec_reader_escape.l0, if_pos (by omega), here_f, Option.bind_some]
    cases hx : isHex (bt s (i : Int)) with
    | false =>
      refine ⟨false, i, Ev.step hst (Ev.bind hv ?_), Nat.le_refl _, hi, fun h => by simp at h⟩
      simp only [hx]
      exact Ev.now _
    | true =>
      have hlt : i < s.size := bt_in rfl (isHex_no hx).2.2
      obtain ⟨ok, j, h1, h2, h3, h4⟩ := ih (d + 1) (i + 1) (by omega) (by omega) (by omega)
      refine ⟨ok, j, Ev.step hst (Ev.bind hv ?_), by omega, h3, fun h => ⟨by have := (h4 h).1; omega, fun q hq1 hq2 => ?_⟩⟩
      · simp only [hx, if_true]
        rw [w64 (by omega) (by omega), w64 (by omega) (by omega)]
        exact h1
      · rcases Nat.eq_or_lt_of_le hq1 with h5 | h5
        · rw [← h5]; exact hx
        · exact (h4 h).2 q h5 hq2
/-- What stands behind a backslash. -/
theorem escape_ev {s : ByteArray} (hn : s.size ≤ 4096) (b i : Nat) (hi : i ≤ s.size) (hb : b < i) (ho : odd s b i = true) : ∃ ok j, Ev (fun k => spec_reader_escape.f k s (i : Int)) (ok, s, ((j : Nat) : Int)) ∧ i ≤ j ∧ j ≤ s.size ∧ (ok = true → i < j ∧ odd s b j = false ∧ ∀ q, i ≤ q → q < j → bt s (q : Int) = 34 → odd s b q = true) := by
  generalize hc : bt s (i : Int) = c
  by_cases hs : c = 34 ∨ c = 92 ∨ c = 47 ∨ c = 98 ∨ c = 102 ∨ c = 110 ∨ c = 114 ∨ c = 116
  · have hlt : i < s.size := bt_in hc (by omega)
    refine ⟨true, i + 1, Ev.step (f := fun _ => some (true, s, ((i + 1 : Nat) : Int))) (fun k => ?_) (Ev.now _), by omega, hlt, fun _ => ⟨by omega, ?_, fun q h1 h2 _ => ?_⟩⟩
    · rw [spec_reader_escape.f, here_f, Option.bind_some, hc]
      have e : wrap64 ((i : Int) + 1) = ((i + 1 : Nat) : Int) := w64 (by omega) (by omega)
      rcases hs with rfl | rfl | rfl | rfl | rfl | rfl | rfl | rfl <;> simp [spec_reader_escape.j0, e]
    · rw [odd]
      by_cases h : b < i ∧ bt s (i : Int) = 92
      · rw [if_pos h, ho]; rfl
      · rw [if_neg h]
    · have : q = i := by omega
      rw [this]; exact ho
  · have hf : ∀ k, spec_reader_escape.f (k + 1) s (i : Int) = if c = 117 then (spec_reader_escape.l0 k 0 s (wrap64 ((i : Int) + 1))) else (some (false, s, (i : Int))) := by
      intro k
      rw [spec_reader_escape.f, here_f, Option.bind_some, hc]
      simp only [not_or] at hs
      obtain ⟨n1, n2, n3, n4, n5, n6, n7, n8⟩ := hs
      have n9 : (c == 116) = false := beq_eq_false_iff_ne.mpr n8
      simp only [if_neg n1, if_neg n2, if_neg n3, if_neg n4, if_neg n5, if_neg n6, if_neg n7, n9, spec_reader_escape.j0]
      rfl
    by_cases hu : c = 117
    · have hlt : i < s.size := bt_in hc (by omega)
      obtain ⟨ok, j, h1, h2, h3, h4⟩ := hex4_ev hn 4 0 (i + 1) rfl (by omega) (by omega)
      refine ⟨ok, j, Ev.step hf ?_, by omega, h3, fun h => ?_⟩
      · simp only [if_pos hu]
        rw [w64 (by omega) (by omega)]
        exact h1
      · obtain ⟨h5, h6⟩ := h4 h
        refine ⟨by omega, ?_, fun q q1 q2 q3 => ?_⟩
        · rw [h5, show i + 1 + 4 = (i + 4) + 1 by omega, odd, if_neg]
          intro hh
          exact (isHex_no (h6 (i + 4) (by omega) (by omega))).2.1 hh.2
        · rcases Nat.eq_or_lt_of_le q1 with h7 | h7
          · rw [← h7, hc, hu] at q3; exact absurd q3 (by decide)
          · exact absurd q3 (isHex_no (h6 q (by omega) q2)).1
    · refine ⟨false, i, Ev.step hf ?_, Nat.le_refl _, hi, fun h => by simp at h⟩
      simp only [if_neg hu]
      exact Ev.now _
/-- A string token from b to j. -/
def StrTok (s : ByteArray) (b j : Nat) : Prop := b + 2 ≤ j ∧ j ≤ s.size ∧ bt s (b : Int) = 34 ∧ bt s ((j - 1 : Nat) : Int) = 34 ∧ odd s b (j - 1) = false ∧ ∀ q, b < q → q < j - 1 → bt s (q : Int) = 34 → odd s b q = true
theorem quotedl_ev {s : ByteArray} (hn : s.size ≤ 4096) (b : Nat) (hb34 : bt s (b : Int) = 34) : ∀ m i, s.size - i ≤ m → b < i → i ≤ s.size → odd s b i = false → (∀ q, b < q → q < i → bt s (q : Int) = 34 → odd s b q = true) → ∃ ok j, Ev (fun k => spec_reader_quoted.l0 k s (i : Int)) (ok, s, ((j : Nat) : Int)) ∧ i ≤ j ∧ j ≤ s.size ∧ (ok = true → StrTok s b j) := by
  intro m
  induction m with
  | zero =>
    intro i hm hb hi ho hq
    refine ⟨false, i, Ev.step (f := fun _ => some (false, s, (i : Int))) (fun k => ?_) (Ev.now _), Nat.le_refl _, hi, fun h => by simp at h⟩
    rw [spec_reader_quoted.l0, if_neg (by omega)]
  | succ m ih =>
    intro i hm hb hi ho hq
    by_cases hlt : i < s.size
    · have e : wrap64 ((i : Int) + 1) = ((i + 1 : Nat) : Int) := w64 (by omega) (by omega)
      by_cases c34 : bt s (i : Int) = 34
      · refine ⟨true, i + 1, Ev.step (f := fun _ => some (true, s, ((i + 1 : Nat) : Int))) (fun k => ?_) (Ev.now _), by omega, hlt, fun _ => ⟨by omega, hlt, hb34, by simpa using c34, by simpa using ho, fun q h1 h2 h3 => hq q h1 (by omega) h3⟩⟩
        rw [spec_reader_quoted.l0, if_pos (by omega), if_pos (by omega), if_pos c34, e]
      · by_cases c32 : bt s (i : Int) < 32
        · refine ⟨false, i + 1, Ev.step (f := fun _ => some (false, s, ((i + 1 : Nat) : Int))) (fun k => ?_) (Ev.now _), by omega, hlt, fun h => by simp at h⟩
          rw [spec_reader_quoted.l0, if_pos (by omega), if_pos (by omega), if_neg c34, if_pos c32, e]
        · by_cases c92 : bt s (i : Int) = 92
          · have ho1 : odd s b (i + 1) = true := by rw [odd, if_pos ⟨hb, c92⟩, ho]; rfl
            obtain ⟨ok, j, h1, h2, h3, h4⟩ := escape_ev hn b (i + 1) hlt (by omega) ho1
            have hst : ∀ k, spec_reader_quoted.l0 (k + 1) s (i : Int) = (spec_reader_escape.f k s ((i + 1 : Nat) : Int)).bind fun bt110 => (if bt110.1 = true then (spec_reader_quoted.l0 k bt110.2.1 bt110.2.2) else (some (false, bt110.2.1, bt110.2.2))) := by
              intro k
              rw [spec_reader_quoted.l0, if_pos (by omega), if_pos (by omega), if_neg c34, if_neg c32, if_pos c92, e]
            cases ok with
            | false =>
              refine ⟨false, j, Ev.step hst (Ev.bind h1 ?_), by omega, h3, fun h => by simp at h⟩
              exact Ev.now _
            | true =>
              obtain ⟨h5, h6, h7⟩ := h4 rfl
              obtain ⟨ok2, j2, k1, k2, k3, k4⟩ := ih j (by omega) (by omega) h3 h6 (fun q q1 q2 q3 => by
                rcases Nat.lt_or_ge q i with h8 | h8
                · exact hq q q1 h8 q3
                · rcases Nat.eq_or_lt_of_le h8 with h9 | h9
                  · rw [← h9] at q3; exact absurd q3 c34
                  · exact h7 q (by omega) q2 q3)
              exact ⟨ok2, j2, Ev.step hst (Ev.bind h1 k1), by omega, k3, k4⟩
          · obtain ⟨ok, j, h1, h2, h3, h4⟩ := ih (i + 1) (by omega) (by omega) hlt (by rw [odd, if_neg (fun h => c92 h.2)]) (fun q q1 q2 q3 => by
                rcases Nat.lt_or_ge q i with h8 | h8
                · exact hq q q1 h8 q3
                · rw [show q = i by omega] at q3; exact absurd q3 c34)
            refine ⟨ok, j, Ev.step (f := fun k => spec_reader_quoted.l0 k s ((i + 1 : Nat) : Int)) (fun k => ?_) h1, by omega, h3, h4⟩
            rw [spec_reader_quoted.l0, if_pos (by omega), if_pos (by omega), if_neg c34, if_neg c32, if_neg c92, e]
    · refine ⟨false, i, Ev.step (f := fun _ => some (false, s, (i : Int))) (fun k => ?_) (Ev.now _), Nat.le_refl _, hi, fun h => by simp at h⟩
      rw [spec_reader_quoted.l0, if_neg (by omega)]
theorem quoted_ev {s : ByteArray} (hn : s.size ≤ 4096) (b : Nat) (h34 : bt s (b : Int) = 34) : ∃ ok j, Ev (fun k => spec_reader_quoted.f k s (b : Int)) (ok, s, ((j : Nat) : Int)) ∧ b < j ∧ j ≤ s.size ∧ (ok = true → StrTok s b j) := by
  have hlt : b < s.size := bt_in h34 (by decide)
  obtain ⟨ok, j, h1, h2, h3, h4⟩ := quotedl_ev hn b h34 _ (b + 1) (Nat.le_refl _) (by omega) hlt (by rw [odd, if_neg (fun h => Nat.lt_irrefl _ h.1)]) (fun q q1 q2 _ => by omega)
  refine ⟨ok, j, Ev.congr (fun k => ?_) h1, by omega, h3, h4⟩
  rw [spec_reader_quoted.f, w64 (by omega) (by omega)]
  rfl
/-! ### numbers and words -/
/-- A byte that does not end a number. -/
def numOK (c : Int) : Prop := 32 < c ∧ c ≠ 44 ∧ c ≠ 58 ∧ c ≠ 93 ∧ c ≠ 125
theorem digitsl_ev {s : ByteArray} (hn : s.size ≤ 4096) (b : Nat) : ∀ m i, s.size - i ≤ m → i ≤ s.size → b ≤ i → ∃ j, Ev (fun k => spec_reader_digits.l0 k (b : Int) (bt s (i : Int)) s (i : Int)) (decide (b < j), s, ((j : Nat) : Int)) ∧ i ≤ j ∧ j ≤ s.size ∧ (∀ q, i ≤ q → q < j → numOK (bt s (q : Int))) := by
  intro m
  induction m with
  | zero =>
    intro i hm hi hb
    refine ⟨i, Ev.step (f := fun _ => some (decide (b < i), s, (i : Int))) (fun k => ?_) (Ev.now _), Nat.le_refl _, hi, fun q h1 h2 => by omega⟩
    rw [spec_reader_digits.l0, bt_out s i (by omega), if_neg (by omega)]
    simp only [gt_iff_lt, Int.ofNat_lt]
  | succ m ih =>
    intro i hm hi hb
    by_cases hd : 48 ≤ bt s (i : Int) ∧ bt s (i : Int) ≤ 57
    · have hlt : i < s.size := bt_in rfl (by omega)
      obtain ⟨j, h1, h2, h3, h4⟩ := ih (i + 1) (by omega) hlt (by omega)
      refine ⟨j, Ev.step (f := fun k => spec_reader_digits.l0 k (b : Int) (bt s ((i + 1 : Nat) : Int)) s ((i + 1 : Nat) : Int)) (fun k => ?_) h1, by omega, h3, fun q q1 q2 => ?_⟩
      · rw [spec_reader_digits.l0, if_pos hd.1, if_pos hd.2, w64 (by omega) (by omega), show (i : Int) + 1 = ((i + 1 : Nat) : Int) from rfl, here_f, Option.bind_some]
      · rcases Nat.eq_or_lt_of_le q1 with h5 | h5
        · rw [← h5]; unfold numOK; omega
        · exact h4 q h5 q2
    · refine ⟨i, Ev.step (f := fun _ => some (decide (b < i), s, (i : Int))) (fun k => ?_) (Ev.now _), Nat.le_refl _, hi, fun q h1 h2 => by omega⟩
      rw [spec_reader_digits.l0]
      by_cases h1 : 48 ≤ bt s (i : Int)
      · rw [if_pos h1, if_neg (by omega)]; simp only [gt_iff_lt, Int.ofNat_lt]
      · rw [if_neg h1]; simp only [gt_iff_lt, Int.ofNat_lt]
theorem digits_ev {s : ByteArray} (hn : s.size ≤ 4096) (i : Nat) (hi : i ≤ s.size) : ∃ j, Ev (fun k => spec_reader_digits.f k s (i : Int)) (decide (i < j), s, ((j : Nat) : Int)) ∧ i ≤ j ∧ j ≤ s.size ∧ (∀ q, i ≤ q → q < j → numOK (bt s (q : Int))) := by
  obtain ⟨j, h1, h2⟩ := digitsl_ev hn i _ i (Nat.le_refl _) hi (Nat.le_refl _)
  refine ⟨j, Ev.congr (fun k => ?_) h1, h2⟩
  rw [spec_reader_digits.f, here_f, Option.bind_some]
theorem take_ev {s : ByteArray} (hn : s.size ≤ 4096) (i : Nat) (c : Int) (hc : numOK c) (hi : i ≤ s.size) : ∃ ok j, (∀ k : Nat, (fun _ : Nat => spec_reader_take.f s (i : Int) c) k = some (ok, s, ((j : Nat) : Int))) ∧ i ≤ j ∧ j ≤ s.size ∧ (∀ q, i ≤ q → q < j → numOK (bt s (q : Int))) ∧ (ok = true → i < j) := by
  by_cases h : bt s (i : Int) = c
  · have hlt : i < s.size := bt_in h (by unfold numOK at hc; omega)
    refine ⟨true, i + 1, fun k => ?_, by omega, hlt, fun q q1 q2 => ?_, fun _ => by omega⟩
    · simp only [take_f hn i c (by unfold numOK at hc; omega), if_pos h]
    · rw [show q = i by omega, h]; exact hc
  · refine ⟨false, i, fun k => ?_, Nat.le_refl _, hi, fun q q1 q2 => by omega, fun h => by simp at h⟩
    simp only [take_f hn i c (by unfold numOK at hc; omega), if_neg h]
/-- What a part of a number answers: it ends at j, and all its bytes go on. -/
def NumTo (s : ByteArray) (i : Nat) (g : Nat → Option (Bool × ByteArray × Int)) : Prop := ∃ ok j, Ev g (ok, s, ((j : Nat) : Int)) ∧ i ≤ j ∧ j ≤ s.size ∧ (∀ q, i ≤ q → q < j → numOK (bt s (q : Int)))
theorem NumTo.more {s : ByteArray} {i j : Nat} {g : Nat → Option (Bool × ByteArray × Int)} (hij : i ≤ j) (h : ∀ q, i ≤ q → q < j → numOK (bt s (q : Int))) (k : NumTo s j g) : NumTo s i g := by
  obtain ⟨ok, j2, h1, h2, h3, h4⟩ := k
  exact ⟨ok, j2, h1, by omega, h3, fun q q1 q2 => by
    rcases Nat.lt_or_ge q j with h5 | h5
    · exact h q q1 h5
    · exact h4 q h5 q2⟩
theorem NumTo.step {s : ByteArray} {i : Nat} {g f : Nat → Option (Bool × ByteArray × Int)} (h : ∀ k, g (k + 1) = f k) (k : NumTo s i f) : NumTo s i g := by
  obtain ⟨ok, j, h1, h2⟩ := k
  exact ⟨ok, j, Ev.step h h1, h2⟩
theorem NumTo.now {s : ByteArray} {i : Nat} (ok : Bool) (hi : i ≤ s.size) : NumTo s i (fun _ => some (ok, s, (i : Int))) := ⟨ok, i, Ev.now _, Nat.le_refl _, hi, fun q h1 h2 => by omega⟩
theorem NumTo.congr {s : ByteArray} {i : Nat} {g f : Nat → Option (Bool × ByteArray × Int)} (h : ∀ k, g k = f k) (k : NumTo s i f) : NumTo s i g := by
  obtain ⟨ok, j, h1, h2⟩ := k
  exact ⟨ok, j, Ev.congr h h1, h2⟩
theorem NumTo.take {s : ByteArray} (hn : s.size ≤ 4096) {i : Nat} (hi : i ≤ s.size) (c : Int) (hc : numOK c) {f : Nat → Bool × ByteArray × Int → Option (Bool × ByteArray × Int)}
    (h : ∀ ok j, i ≤ j → j ≤ s.size → (ok = true → i < j) → NumTo s j (fun k => f k (ok, s, (j : Int)))) : NumTo s i (fun k => (spec_reader_take.f s (i : Int) c).bind (f k)) := by
  obtain ⟨ok, j, h1, h2, h3, h4, h5⟩ := take_ev hn i c hc hi
  refine NumTo.more h2 h4 (NumTo.congr (fun k => ?_) (h ok j h2 h3 h5))
  have := h1 k
  simp only [this, Option.bind_some]
theorem NumTo.digits {s : ByteArray} (hn : s.size ≤ 4096) {i : Nat} (hi : i ≤ s.size) {f : Nat → Bool × ByteArray × Int → Option (Bool × ByteArray × Int)}
    (h : ∀ j, i ≤ j → j ≤ s.size → NumTo s j (fun k => f k (decide (i < j), s, (j : Int)))) : NumTo s i (fun k => (spec_reader_digits.f k s (i : Int)).bind (f k)) := by
  obtain ⟨j, h1, h2, h3, h4⟩ := digits_ev hn i hi
  obtain ⟨ok, j2, k1, k2, k3, k4⟩ := h j h2 h3
  exact NumTo.more h2 h4 ⟨ok, j2, Ev.bind h1 k1, k2, k3, k4⟩
theorem number_j2 {s : ByteArray} (hn : s.size ≤ 4096) (i : Nat) (hi : i ≤ s.size) (x : Bool) : NumTo s i (fun k => spec_reader_number.j2 k x s (i : Int)) := by
  cases x with
  | false => exact NumTo.step (fun k => by rw [spec_reader_number.j2, if_neg (by simp)]) (NumTo.now true hi)
  | true =>
    refine NumTo.step (fun k => by rw [spec_reader_number.j2, if_pos rfl]) (NumTo.take hn hi 43 (by unfold numOK; omega) fun ok j h1 h2 _ => ?_)
    cases ok with
    | true => exact NumTo.digits hn h2 fun j2 h3 h4 => NumTo.now _ h4
    | false => exact NumTo.take hn h2 45 (by unfold numOK; omega) fun ok j2 h3 h4 _ => NumTo.digits hn h4 fun j3 h5 h6 => NumTo.now _ h6
theorem number_j1 {s : ByteArray} (hn : s.size ≤ 4096) (i : Nat) (hi : i ≤ s.size) (x : Bool) : NumTo s i (fun k => spec_reader_number.j1 k x s (i : Int)) := by
  cases x with
  | true => exact NumTo.step (fun k => by rw [spec_reader_number.j1, if_pos rfl]) (NumTo.now false hi)
  | false =>
    refine NumTo.step (fun k => by rw [spec_reader_number.j1, if_neg (by simp)]) (NumTo.take hn hi 101 (by unfold numOK; omega) fun ok j h1 h2 _ => ?_)
    cases ok with
    | true => exact number_j2 hn j h2 true
    | false => exact NumTo.take hn h2 69 (by unfold numOK; omega) fun ok j2 h3 h4 _ => number_j2 hn j2 h4 ok
theorem number_j0 {s : ByteArray} (hn : s.size ≤ 4096) (i : Nat) (hi : i ≤ s.size) (x : Bool) : NumTo s i (fun k => spec_reader_number.j0 k x s (i : Int)) := by
  cases x with
  | true => exact NumTo.step (fun k => by rw [spec_reader_number.j0, if_pos rfl]) (NumTo.now false hi)
  | false =>
    refine NumTo.step (fun k => by rw [spec_reader_number.j0, if_neg (by simp)]) (NumTo.take hn hi 46 (by unfold numOK; omega) fun ok j h1 h2 _ => ?_)
    cases ok with
    | true => exact NumTo.digits hn h2 fun j2 h3 h4 => number_j1 hn j2 h4 _
    | false => exact number_j1 hn j h2 false
/-- A number is read: it has a byte where it is one. -/
theorem number_ev {s : ByteArray} (hn : s.size ≤ 4096) (i : Nat) (hi : i ≤ s.size) : ∃ ok j, Ev (fun k => spec_reader_number.f k s (i : Int)) (ok, s, ((j : Nat) : Int)) ∧ i ≤ j ∧ j ≤ s.size ∧ (ok = true → i < j ∧ ∀ q, i ≤ q → q < j → numOK (bt s (q : Int))) := by
  obtain ⟨ok1, j1, a1, a2, a3, a4, a5⟩ := take_ev hn i 45 (by unfold numOK; omega) hi
  obtain ⟨ok2, j2, b1, b2, b3, b4, b5⟩ := take_ev hn j1 48 (by unfold numOK; omega) a3
  have hu : ∀ k, spec_reader_number.f k s (i : Int) = (if ok2 = true then (spec_reader_number.j0 k false s (j2 : Int)) else ((spec_reader_digits.f k s (j2 : Int)).bind fun bt125 => (spec_reader_number.j0 k (!bt125.1) bt125.2.1 bt125.2.2))) := by
    intro k
    have e1 := a1 k
    have e2 := b1 k
    simp only at e1 e2
    rw [spec_reader_number.f, e1, Option.bind_some]
    simp only
    rw [e2, Option.bind_some]
  cases ok2 with
  | true =>
    obtain ⟨ok, j, h1, h2, h3, h4⟩ := number_j0 hn j2 b3 false
    refine ⟨ok, j, Ev.congr (fun k => by rw [hu, if_pos rfl]) h1, by omega, h3, fun _ => ⟨by have := b5 rfl; omega, fun q q1 q2 => ?_⟩⟩
    rcases Nat.lt_or_ge q j1 with c1 | c1
    · exact a4 q q1 c1
    · rcases Nat.lt_or_ge q j2 with c2 | c2
      · exact b4 q c1 c2
      · exact h4 q c2 q2
  | false =>
    obtain ⟨j3, d1, d2, d3, d4⟩ := digits_ev hn j2 b3
    obtain ⟨ok, j, h1, h2, h3, h4⟩ := number_j0 hn j3 d3 (!(decide (j2 < j3)))
    by_cases hd : j2 < j3
    · refine ⟨ok, j, Ev.congr (fun k => by rw [hu, if_neg (by simp)]) (Ev.bind d1 h1), by omega, h3, fun _ => ⟨by omega, fun q q1 q2 => ?_⟩⟩
      rcases Nat.lt_or_ge q j1 with c1 | c1
      · exact a4 q q1 c1
      · rcases Nat.lt_or_ge q j2 with c2 | c2
        · exact b4 q c1 c2
        · rcases Nat.lt_or_ge q j3 with c3 | c3
          · exact d4 q c2 c3
          · exact h4 q c3 q2
    · refine ⟨false, j3, Ev.congr (fun k => by rw [hu, if_neg (by simp)]) (Ev.bind d1 ?_), by omega, d3, fun h => by simp at h⟩
      rw [decide_eq_false hd]
      exact Ev.step (f := fun _ => some (false, s, (j3 : Int))) (fun k => by simp [spec_reader_number.j0]) (Ev.now _)
/-- The bytes from i on are the word's. -/
def IsWord (s : ByteArray) (i : Nat) (w : ByteArray) : Prop := i + w.size ≤ s.size ∧ (s.extract i (i + w.size)).toList = w.toList
theorem word_f {s : ByteArray} (hn : s.size ≤ 4096) (i : Nat) (hi : i ≤ s.size) (w : ByteArray) (hw : w.size ≤ 10) : ∃ ok j, spec_reader_word.f s (i : Int) w = some (ok, s, ((j : Nat) : Int)) ∧ i ≤ j ∧ j ≤ s.size ∧ (ok = true → j = i + w.size ∧ IsWord s i w) ∧ (ok = false → j = i) := by
  unfold spec_reader_word.f
  rw [w64 (by omega) (by omega), w64 (by omega) (by omega)]
  by_cases h : (s.size : Int) - (i : Int) < (w.size : Int)
  · exact ⟨false, i, by rw [if_pos h], Nat.le_refl _, hi, fun h => by simp at h, fun _ => rfl⟩
  · rw [if_neg h, if_pos (by omega), if_pos (by omega), if_pos (by omega)]
    have e1 : ((i : Int)).toNat = i := by omega
    have e2 : ((i : Int) + (w.size : Int)).toNat = i + w.size := by omega
    rw [e1, e2]
    by_cases h2 : (s.extract i (i + w.size)).toList = w.toList
    · exact ⟨true, i + w.size, by rw [if_pos h2]; rfl, by omega, by omega, fun _ => ⟨rfl, by omega, h2⟩, fun h => by simp at h⟩
    · exact ⟨false, i, by rw [if_neg h2], Nat.le_refl _, hi, fun h => by simp at h, fun _ => rfl⟩
end Go.Proofs.Ytffdebhaclkhjaa.PFnPrWholeDefault
