/- What the package's printer puts down for a value that is no array and no object, and for its tabs. No condition but that the text has at most 4096 bytes and that what is written stays below 2^46 bytes, stated in each lemma. -/
import Derived.Test.YtffdebhaclkhjaaLa1
import Derived.Test.YtffdebhaclkhjaaSx8
set_option linter.unusedVariables false
set_option linter.unusedSimpArgs false
namespace Go.Proofs.Ytffdebhaclkhjaa.PFnPrWholeDefault
open Go.RowKit Go.Proofs.YtffdebhaclkhjaaW.PrintWords
theorem rd_js (s : ByteArray) (i : Nat) : rd (bytesOf s) (i : Int) = bt s (i : Int) := by
  unfold rd bt bytesOf
  simp only [Int.toNat_natCast]
  by_cases h : i < s.size
  · rw [dif_pos h, List.getD_eq_getElem?_getD, List.getElem?_map, List.getElem?_eq_getElem (by rw [data_length]; exact h)]
    rfl
  · rw [dif_neg h, List.getD_eq_getElem?_getD, List.getElem?_eq_none (by rw [List.length_map, data_length]; omega)]
    rfl
theorem sl_take (s : ByteArray) (i j : Nat) : ((bytesOf s).take ((j : Int)).toNat).drop ((i : Int)).toNat = sl s i j := rfl
theorem js_lt {s : ByteArray} {i : Nat} (h : i < s.size) : (i : Int) < ((bytesOf s).length : Int) := by rw [bytesOf_length]; omega
theorem js_nlt {s : ByteArray} {i : Nat} (h : s.size ≤ i) : ¬ (i : Int) < ((bytesOf s).length : Int) := by rw [bytesOf_length]; omega
theorem js_le {s : ByteArray} {i : Nat} (h : i ≤ s.size) : (i : Int) ≤ ((bytesOf s).length : Int) := by rw [bytesOf_length]; omega
/-! ### strings -/
theorem fin_f {s : ByteArray} {l : List Int} {b e : Nat} {w : Int} (hw : w = (e : Int)) (hbe : b ≤ e) (he : e ≤ s.size) (hl : l.length + (e - b) < 140737488355328) (nl : Int) :
    (if 0 ≤ (b : Int) then (if (b : Int) ≤ w then (if w ≤ ((bytesOf s).length : Int) then ((some (((bytesOf s).take (w : Int).toNat).drop ((b : Int)).toNat : List Int)).bind fun y => (if l.length + y.length < 140737488355328 then (some ((l ++ y), w, nl, true)) else (none))) else (none)) else (none)) else (none) : Option (List Int × Int × Int × Bool)) = some (l ++ sl s b e, (e : Int), nl, true) := by
  subst hw
  rw [if_pos (by omega), if_pos (by omega), if_pos (js_le he), sl_take, Option.bind_some, if_pos (by rw [sl_length he]; exact hl)]
theorem str_l1 {s : ByteArray} (hn : s.size ≤ 4096) {l : List Int} {b i : Nat} (hi : i < s.size) (nl : Int) (r : List Int × Int × Int × Bool) (hl : l.length + (i + 1 - b) < 140737488355328) :
    ∀ q, b < q → q ≤ i → ∀ c : Nat, c + q ≤ 8192 →
      (((c % 2 == 1) != odd s b q) = true → Ev (fun k => pretty_appendPrettyString.l0 k l (bytesOf s) ((i + 1 : Nat) : Int) nl (b : Int)) r) →
      (((c % 2 == 1) != odd s b q) = false → r = (l ++ sl s b (i + 1), ((i + 1 : Nat) : Int), nl, true)) →
      Ev (fun k => pretty_appendPrettyString.l1 k l (bytesOf s) (i : Int) nl (b : Int) (c : Int) ((q - 1 : Nat) : Int)) r := by
  intro q
  induction q with
  | zero => intro h; omega
  | succ p ih =>
    intro hb hp c hc h1 h2
    have e1 : Aside0 (wrap64 ((i : Int) + 1) = ((i + 1 : Nat) : Int)) := ⟨w64 (by omega) (by omega)⟩
    have e2 : Aside0 (wrap64 ((c : Int) + 1) = ((c + 1 : Nat) : Int)) := ⟨w64 (by omega) (by omega)⟩
    have e3 : 1 ≤ p → Aside0 (wrap64 ((p : Int) - 1) = ((p - 1 : Nat) : Int)) := fun h => ⟨by rw [w64 (by omega) (by omega)]; omega⟩
    have em : ((c : Int).tmod 2 = 1) ↔ (c % 2 == 1) = true := by
      rw [Int.tmod_eq_emod_of_nonneg (by omega), beq_iff_eq]; omega
    have last : odd s b (p + 1) = false → Ev (fun _ : Nat => (if (Int.tmod (c : Int) 2) = 1 then (pretty_appendPrettyString.l0 0 l (bytesOf s) 0 nl (b : Int)) else (none : Option (List Int × Int × Int × Bool)))) r → True := fun _ _ => trivial
    have tail : odd s b (p + 1) = false → Ev (fun k => (if (Int.tmod (c : Int) 2) = 1 then (pretty_appendPrettyString.l0 k l (bytesOf s) (wrap64 ((i : Int) + 1)) nl (b : Int)) else (if 0 ≤ (b : Int) then (if (b : Int) ≤ (wrap64 ((i : Int) + 1)) then (if (wrap64 ((i : Int) + 1)) ≤ ((bytesOf s).length : Int) then ((some (((bytesOf s).take ((wrap64 ((i : Int) + 1)) : Int).toNat).drop ((b : Int) : Int).toNat : List Int)).bind fun y304 => (if l.length + y304.length < 140737488355328 then (some ((l ++ y304), wrap64 ((i : Int) + 1), nl, true)) else (none))) else (none)) else (none)) else (none)))) r := by
      intro ho
      rw [ho] at h1 h2
      by_cases hm : (c % 2 == 1) = true
      · simp only [if_pos (em.mpr hm), e1.out]
        exact h1 (by rw [hm]; rfl)
      · simp only [if_neg (fun h => hm (em.mp h))]
        have h3 := h2 (by simpa using hm)
        rw [h3]
        exact Ev.congr (fun k => fin_f e1.out (by omega) (by omega) hl nl) (Ev.now _)
    clear last
    show Ev (fun k => pretty_appendPrettyString.l1 k l (bytesOf s) (i : Int) nl (b : Int) (c : Int) ((p : Nat) : Int)) r
    by_cases hbp : b < p
    · by_cases h92 : bt s (p : Int) = 92
      · have ho : odd s b (p + 1) = !odd s b p := by rw [odd, if_pos ⟨hbp, h92⟩]
        have hpar : ∀ x : Bool, (((c + 1) % 2 == 1) != x) = ((c % 2 == 1) != !x) := by
          intro x
          have : ((c + 1) % 2 == 1) = !(c % 2 == 1) := by
            rcases Nat.mod_two_eq_zero_or_one c with h | h
            · rw [show (c + 1) % 2 = 1 by omega, h]; rfl
            · rw [show (c + 1) % 2 = 0 by omega, h]; rfl
          rw [this]; cases x <;> cases (c % 2 == 1) <;> rfl
        have k := ih hbp (by omega) (c + 1) (by omega) (fun h => h1 (by rw [ho, ← hpar]; exact h)) (fun h => h2 (by rw [ho, ← hpar]; exact h))
        refine Ev.step (fun k => ?_) k
        rw [pretty_appendPrettyString.l1]
        refine (if_pos (by omega)).trans ((if_pos (by omega)).trans ((if_pos (js_lt (by omega))).trans ((if_pos (by rw [rd_js]; exact h92)).trans ?_)))
        rw [e2.out, (e3 (by omega)).out]
      · refine Ev.step (fun k => ?_) (tail (by rw [odd, if_neg (fun h => h92 h.2)]))
        rw [pretty_appendPrettyString.l1]
        exact (if_pos (by omega)).trans ((if_pos (by omega)).trans ((if_pos (js_lt (by omega))).trans (if_neg (by rw [rd_js]; exact h92))))
    · refine Ev.step (fun k => ?_) (tail (by rw [odd, if_neg (fun h => hbp h.1)]))
      rw [pretty_appendPrettyString.l1]
      exact if_neg (by omega)
theorem str_ev {s : ByteArray} (hn : s.size ≤ 4096) {l : List Int} {b j : Nat} (h : StrTok s b j) (nl : Int) (hl : l.length + (j - b) < 140737488355328) : Ev (fun k => pretty_appendPrettyString.f k l (bytesOf s) (b : Int) nl) (l ++ sl s b j, (j : Int), nl, true) := by
  obtain ⟨a1, a2, a3, a4, a5, a6⟩ := h
  have go : ∀ m i, j - 1 - i = m → b < i → i ≤ j - 1 → Ev (fun k => pretty_appendPrettyString.l0 k l (bytesOf s) (i : Int) nl (b : Int)) (l ++ sl s b j, (j : Int), nl, true) := by
    intro m
    induction m with
    | zero =>
      intro i hm hb hi
      have hij : i = j - 1 := by omega
      have hj : i + 1 = j := by omega
      have e3 : Aside0 (wrap64 ((i : Int) - 1) = ((i - 1 : Nat) : Int)) := ⟨by rw [w64 (by omega) (by omega)]; omega⟩
      have h34 : bt s (i : Int) = 34 := by rw [hij]; exact a4
      have ho : odd s b i = false := by rw [hij]; exact a5
      have k := str_l1 hn (l := l) (b := b) (i := i) (by omega) nl (l ++ sl s b j, (j : Int), nl, true) (by omega) i hb (Nat.le_refl _) 0 (by omega) (fun h => by rw [ho] at h; simp at h) (fun _ => by rw [hj])
      refine Ev.step (fun k => ?_) k
      rw [pretty_appendPrettyString.l0]
      refine (if_pos (js_lt (by omega))).trans ((if_pos (by omega)).trans ((if_pos (by rw [rd_js]; exact h34)).trans ?_))
      rw [e3.out]; rfl
    | succ m ih =>
      intro i hm hb hi
      have e1 : Aside0 (wrap64 ((i : Int) + 1) = ((i + 1 : Nat) : Int)) := ⟨w64 (by omega) (by omega)⟩
      have e3 : Aside0 (wrap64 ((i : Int) - 1) = ((i - 1 : Nat) : Int)) := ⟨by rw [w64 (by omega) (by omega)]; omega⟩
      have nx := ih (i + 1) (by omega) (by omega) (by omega)
      by_cases h34 : bt s (i : Int) = 34
      · have ho := a6 i hb (by omega) h34
        have k := str_l1 hn (l := l) (b := b) (i := i) (by omega) nl (l ++ sl s b j, (j : Int), nl, true) (by omega) i hb (Nat.le_refl _) 0 (by omega) (fun _ => nx) (fun h => by rw [ho] at h; simp at h)
        refine Ev.step (fun k => ?_) k
        rw [pretty_appendPrettyString.l0]
        refine (if_pos (js_lt (by omega))).trans ((if_pos (by omega)).trans ((if_pos (by rw [rd_js]; exact h34)).trans ?_))
        rw [e3.out]; rfl
      · refine Ev.step (fun k => ?_) nx
        rw [pretty_appendPrettyString.l0]
        refine (if_pos (js_lt (by omega))).trans ((if_pos (by omega)).trans ((if_neg (by rw [rd_js]; exact h34)).trans ?_))
        rw [e1.out]
  refine Ev.congr (fun k => ?_) (go _ (b + 1) rfl (by omega) (by omega))
  rw [pretty_appendPrettyString.f, w64 (by omega) (by omega)]; rfl
/-! ### numbers -/
theorem num_ev {s : ByteArray} (hn : s.size ≤ 4096) {l : List Int} {b j : Nat} (hbj : b < j) (hj : j ≤ s.size) (ha : ∀ q, b ≤ q → q < j → numOK (bt s (q : Int))) (he : ¬ numOK (bt s (j : Int))) (nl : Int) (hl : l.length + (j - b) < 140737488355328) :
    Ev (fun k => pretty_appendPrettyNumber.f k l (bytesOf s) (b : Int) nl) (l ++ sl s b j, (j : Int), nl, true) := by
  have go : ∀ m i, j - i = m → b < i → i ≤ j → Ev (fun k => pretty_appendPrettyNumber.l0 k l (bytesOf s) (i : Int) nl (b : Int)) (l ++ sl s b j, (j : Int), nl, true) := by
    intro m
    induction m with
    | zero =>
      intro i hm hb hi
      obtain rfl : i = j := by omega
      have fin := fin_f (s := s) (l := l) (b := b) (e := i) rfl (by omega) hj hl nl
      refine Ev.step (f := fun _ => some (l ++ sl s b i, (i : Int), nl, true)) (fun k => ?_) (Ev.now _)
      rw [pretty_appendPrettyNumber.l0]
      by_cases hlt : i < s.size
      · refine (if_pos (js_lt hlt)).trans ((if_pos (by omega)).trans ?_)
        rw [rd_js]
        unfold numOK at he
        by_cases c1 : bt s (i : Int) ≤ 32
        · exact (if_pos c1).trans fin
        · refine (if_neg c1).trans ?_
          by_cases c2 : bt s (i : Int) = 44
          · exact (if_pos c2).trans fin
          · refine (if_neg c2).trans ?_
            by_cases c3 : bt s (i : Int) = 58
            · exact (if_pos c3).trans fin
            · refine (if_neg c3).trans ?_
              by_cases c4 : bt s (i : Int) = 93
              · exact (if_pos c4).trans fin
              · refine (if_neg c4).trans ?_
                by_cases c5 : bt s (i : Int) = 125
                · exact (if_pos c5).trans fin
                · exact absurd ⟨by omega, c2, c3, c4, c5⟩ he
      · exact (if_neg (js_nlt (by omega))).trans fin
    | succ m ih =>
      intro i hm hb hi
      have e1 : Aside0 (wrap64 ((i : Int) + 1) = ((i + 1 : Nat) : Int)) := ⟨w64 (by omega) (by omega)⟩
      obtain ⟨c1, c2, c3, c4, c5⟩ := ha i (by omega) (by omega)
      refine Ev.step (fun k => ?_) (ih (i + 1) (by omega) (by omega) (by omega))
      rw [pretty_appendPrettyNumber.l0]
      refine (if_pos (js_lt (by omega))).trans ((if_pos (by omega)).trans ?_)
      rw [rd_js]
      refine (if_neg (by omega)).trans ((if_neg c2).trans ((if_neg c3).trans ((if_neg c4).trans ((if_neg c5).trans ?_))))
      rw [e1.out]
  refine Ev.congr (fun k => ?_) (go _ (b + 1) rfl (by omega) (by omega))
  rw [pretty_appendPrettyNumber.f, w64 (by omega) (by omega)]; rfl
/-! ### tabs -/
theorem tabs_l0 (d : Nat) : ∀ m i (l : List Int), d - i = m → i ≤ d → l.length + (rep m [32, 32]).length < 140737488355328 → d ≤ 8192 → Ev (fun k => pretty_appendTabs.l0 k l (d : Int) (i : Int)) (l ++ rep m [32, 32]) := by
  intro m
  induction m with
  | zero =>
    intro i l hm hi hl hd
    refine Ev.step (f := fun _ => some (l ++ rep 0 [32, 32])) (fun k => ?_) (Ev.now _)
    rw [pretty_appendTabs.l0, if_neg (by omega)]
    simp [rep]
  | succ m ih =>
    intro i l hm hi hl hd
    have e1 : Aside0 (wrap64 ((i : Int) + 1) = ((i + 1 : Nat) : Int)) := ⟨w64 (by omega) (by omega)⟩
    rw [← rep_front, List.length_append] at hl
    have h := ih (i + 1) (l ++ [32, 32]) (by omega) (by omega) (by simp only [List.length_append]; omega) hd
    rw [List.append_assoc, rep_front] at h
    refine Ev.step (fun k => ?_) h
    rw [pretty_appendTabs.l0]
    refine (if_pos (by omega)).trans ((Option.bind_some _ _).trans ((if_pos (by omega)).trans ?_))
    rw [e1.out]
theorem tabs_l1 (I : ByteArray) (d : Nat) : ∀ m i (l : List Int), d - i = m → i ≤ d → l.length + (rep m (bytesOf I)).length < 140737488355328 → d ≤ 8192 → Ev (fun k => pretty_appendTabs.l1 k l I (d : Int) (i : Int)) (l ++ rep m (bytesOf I)) := by
  intro m
  induction m with
  | zero =>
    intro i l hm hi hl hd
    refine Ev.step (f := fun _ => some (l ++ rep 0 (bytesOf I))) (fun k => ?_) (Ev.now _)
    rw [pretty_appendTabs.l1, if_neg (by omega)]
    simp [rep]
  | succ m ih =>
    intro i l hm hi hl hd
    have e1 : Aside0 (wrap64 ((i : Int) + 1) = ((i + 1 : Nat) : Int)) := ⟨w64 (by omega) (by omega)⟩
    have hz : (bytesOf I).length = I.size := bytesOf_length I
    rw [← rep_front, List.length_append] at hl
    have h := ih (i + 1) (l ++ bytesOf I) (by omega) (by omega) (by simp only [List.length_append]; omega) hd
    rw [List.append_assoc, rep_front] at h
    refine Ev.step (fun k => ?_) h
    rw [pretty_appendTabs.l1]
    refine (if_pos (by omega)).trans ((if_pos (by omega)).trans ?_)
    rw [e1.out]
theorem tabs_j0 (I : ByteArray) (d : Nat) (hd : d ≤ 8192) (l : List Int) (hl : l.length + (rep d (bytesOf I)).length < 140737488355328) : Ev (fun k => pretty_appendTabs.j0 k l I (d : Int)) (l ++ rep d (bytesOf I)) := by
  have no : Ev (fun k => pretty_appendTabs.j1 k l I (d : Int) false) (l ++ rep d (bytesOf I)) := Ev.step (fun k => by rw [pretty_appendTabs.j1]; exact if_neg Bool.false_ne_true) (tabs_l1 I d d 0 l rfl (by omega) hl hd)
  by_cases h2 : I.size = 2
  · by_cases h32 : bt I 0 = 32
    · cases hb : (bt I 1 == 32) with
      | false =>
        refine Ev.step (fun k => ?_) no
        rw [pretty_appendTabs.j0, hb]
        exact (if_pos (by omega)).trans ((if_pos (by omega)).trans ((if_pos h32).trans (if_pos (by omega))))
      | true =>
        have e : bytesOf I = [32, 32] := by
          have hz : (bytesOf I).length = 2 := by rw [bytesOf_length, h2]
          have r0 : rd (bytesOf I) ((0 : Nat) : Int) = 32 := by rw [rd_js]; exact h32
          have r1 : rd (bytesOf I) ((1 : Nat) : Int) = 32 := by rw [rd_js]; exact eq_of_beq hb
          match hI : bytesOf I, hz with
          | [x, y], _ =>
            rw [hI] at r0 r1
            have r0' : x = 32 := r0
            have r1' : y = 32 := r1
            rw [r0', r1']
        rw [e] at hl ⊢
        refine Ev.step (f := fun k => pretty_appendTabs.j1 k l I (d : Int) true) (fun k => ?_) (Ev.step (fun k => ?_) (tabs_l0 d d 0 l rfl (by omega) hl hd))
        · rw [pretty_appendTabs.j0, hb]
          exact (if_pos (by omega)).trans ((if_pos (by omega)).trans ((if_pos h32).trans (if_pos (by omega))))
        · rw [pretty_appendTabs.j1]; rfl
    · refine Ev.step (fun k => ?_) no
      rw [pretty_appendTabs.j0]
      exact (if_pos (by omega)).trans ((if_pos (by omega)).trans (if_neg h32))
  · refine Ev.step (fun k => ?_) no
    rw [pretty_appendTabs.j0]
    exact if_neg (by omega)
theorem tabs_ev (p I : ByteArray) (d : Nat) (hd : d ≤ 8192) (l : List Int) (hl : l.length + (tb (bytesOf p) (bytesOf I) d).length < 140737488355328) : Ev (fun k => pretty_appendTabs.f k l p I (d : Int)) (l ++ tb (bytesOf p) (bytesOf I) d) := by
  have hz : (bytesOf p).length = p.size := bytesOf_length p
  unfold tb at hl ⊢
  rw [List.length_append] at hl
  have h := tabs_j0 I d hd (l ++ bytesOf p) (by rw [List.length_append]; omega)
  rw [List.append_assoc] at h
  by_cases h0 : (p.size : Int) = 0
  · have e : bytesOf p = [] := List.eq_nil_of_length_eq_zero (by omega)
    rw [e, List.append_nil] at h
    rw [e]
    exact Ev.congr (fun k => by rw [pretty_appendTabs.f]; exact if_pos h0) h
  · exact Ev.congr (fun k => by rw [pretty_appendTabs.f]; exact (if_neg h0).trans (if_pos (by omega))) h
/-! ### a value's way -/
section
variable {s : ByteArray} {l : List Int} {pr : Bool} {p ind_ : ByteArray} {wd tabs nl mx : Int} {r : List Int × Int × Int × Bool}
theorem nan_no {i : Nat} (hi : i < s.size) (h1 : bt s (i : Int) ≠ 105) (h2 : bt s (i : Int) ≠ 73) (h3 : bt s (i : Int) ≠ 43) (h4 : bt s (i : Int) ≠ 78) (h5 : bt s (i : Int) = 110 → i + 1 < s.size ∧ bt s ((i + 1 : Nat) : Int) = 117) : pretty_isNaNOrInf.f ((bytesOf s).drop ((i : Int)).toNat) = some false := by
  have e0 : rd ((bytesOf s).drop ((i : Int)).toNat) 0 = bt s (i : Int) := by
    rw [← rd_js]; unfold rd; simp [List.getD_eq_getElem?_getD]
  have e1 : rd ((bytesOf s).drop ((i : Int)).toNat) 1 = bt s ((i + 1 : Nat) : Int) := by
    rw [← rd_js]; unfold rd; simp [List.getD_eq_getElem?_getD]
  have el : ((bytesOf s).drop ((i : Int)).toNat).length = s.size - i := by rw [List.length_drop, bytesOf_length, Int.toNat_natCast]
  unfold pretty_isNaNOrInf.f
  rw [e0, e1, el, if_pos (by omega), if_neg h1, if_neg h2, if_neg h3, if_neg h4]
  by_cases h : bt s (i : Int) = 110
  · obtain ⟨h6, h7⟩ := h5 h
    rw [if_pos h, if_pos (by omega), if_pos (by omega), h7]; rfl
  · rw [if_neg h]
theorem any_f {i : Int} {js : List Int} (h : Ev (fun k => pretty_appendPrettyAny.l0 k l js i pr wd p ind_ false tabs nl mx) r) : Ev (fun k => pretty_appendPrettyAny.f k l js i pr wd p ind_ tabs nl mx) r :=
  Ev.step (fun k => by rw [pretty_appendPrettyAny.f]) h
theorem any_blank (hn : s.size ≤ 4096) {i : Nat} (hi : i < s.size) (hb : bt s (i : Int) ≤ 32) (h : Ev (fun k => pretty_appendPrettyAny.l0 k l (bytesOf s) ((i + 1 : Nat) : Int) pr wd p ind_ false tabs nl mx) r) : Ev (fun k => pretty_appendPrettyAny.l0 k l (bytesOf s) (i : Int) pr wd p ind_ false tabs nl mx) r := by
  have e1 : Aside0 (wrap64 ((i : Int) + 1) = ((i + 1 : Nat) : Int)) := ⟨w64 (by omega) (by omega)⟩
  refine Ev.step (fun k => ?_) h
  rw [pretty_appendPrettyAny.l0]
  refine (if_neg Bool.false_ne_true).trans ((if_pos (js_lt hi)).trans ((if_pos (by omega)).trans ((if_pos (by rw [rd_js]; exact hb)).trans ?_)))
  rw [e1.out]
theorem any_blk (hn : s.size ≤ 4096) {q : Nat} (h : Ev (fun k => pretty_appendPrettyAny.l0 k l (bytesOf s) (q : Int) pr wd p ind_ false tabs nl mx) r) : ∀ m i, q - i = m → Blk s i q → Ev (fun k => pretty_appendPrettyAny.l0 k l (bytesOf s) (i : Int) pr wd p ind_ false tabs nl mx) r := by
  intro m
  induction m with
  | zero =>
    intro i hm hb
    have h1 := hb.1
    have e : i = q := by omega
    rw [e]
    exact h
  | succ m ih =>
    intro i hm hb
    obtain ⟨h1, h2, h3⟩ := hb
    exact any_blank hn (by omega) (isB_le (h3 i (Nat.le_refl _) (by omega))) (ih (i + 1) (by omega) ⟨by omega, h2, fun q' a b => h3 q' (by omega) b⟩)
/-- Up to what stands behind the tests of numbers. -/
theorem any_j1 (hn : s.size ≤ 4096) {i : Nat} (hi : i < s.size) (h0 : 32 < bt s (i : Int)) (h34 : bt s (i : Int) ≠ 34) (h45 : bt s (i : Int) ≠ 45) (h48 : ¬ (48 ≤ bt s (i : Int) ∧ bt s (i : Int) ≤ 57)) (hN : pretty_isNaNOrInf.f ((bytesOf s).drop ((i : Int)).toNat) = some false)
    (h : Ev (fun k => pretty_appendPrettyAny.j1 k l (bytesOf s) (i : Int) pr wd p ind_ false tabs nl mx false) r) : Ev (fun k => pretty_appendPrettyAny.l0 k l (bytesOf s) (i : Int) pr wd p ind_ false tabs nl mx) r := by
  refine Ev.step (fun k => ?_) h
  rw [pretty_appendPrettyAny.l0]
  refine (if_neg Bool.false_ne_true).trans ((if_pos (js_lt hi)).trans ((if_pos (by omega)).trans ?_))
  rw [rd_js]
  refine (if_neg (by omega)).trans ((if_neg h34).trans ?_)
  by_cases h1 : 48 ≤ bt s (i : Int)
  · refine (if_pos h1).trans ((if_neg (fun h => h48 ⟨h1, h⟩)).trans ((if_neg h45).trans ((if_pos (js_le (by omega))).trans ?_)))
    rw [hN, Option.bind_some]
  · refine (if_neg h1).trans ((if_neg h45).trans ((if_pos (js_le (by omega))).trans ?_))
    rw [hN, Option.bind_some]
theorem any_num (hn : s.size ≤ 4096) {i : Nat} (hi : i < s.size) (h0 : bt s (i : Int) = 45 ∨ (48 ≤ bt s (i : Int) ∧ bt s (i : Int) ≤ 57)) (h : Ev (fun k => pretty_appendPrettyNumber.f k l (bytesOf s) (i : Int) nl) r) : Ev (fun k => pretty_appendPrettyAny.l0 k l (bytesOf s) (i : Int) pr wd p ind_ false tabs nl mx) r := by
  refine Ev.step (f := fun k => pretty_appendPrettyAny.j1 k l (bytesOf s) (i : Int) pr wd p ind_ false tabs nl mx true) (fun k => ?_) (Ev.step (fun k => ?_) (Ev.bind (f := fun _ x => some x) h (Ev.now r)))
  · rw [pretty_appendPrettyAny.l0]
    refine (if_neg Bool.false_ne_true).trans ((if_pos (js_lt hi)).trans ((if_pos (by omega)).trans ?_))
    rw [rd_js]
    refine (if_neg (by omega)).trans ((if_neg (by omega)).trans ?_)
    rcases h0 with h0 | h0
    · exact (if_neg (by omega)).trans (if_pos h0)
    · exact (if_pos (by omega)).trans (if_pos h0.2)
  · rw [pretty_appendPrettyAny.j1]; rfl
theorem any_str {i : Nat} (hi : i < s.size) (h0 : bt s (i : Int) = 34) (h : Ev (fun k => pretty_appendPrettyString.f k l (bytesOf s) (i : Int) nl) r) : Ev (fun k => pretty_appendPrettyAny.l0 k l (bytesOf s) (i : Int) pr wd p ind_ false tabs nl mx) r := by
  refine Ev.step (fun k => ?_) (Ev.bind (f := fun _ x => some x) h (Ev.now r))
  rw [pretty_appendPrettyAny.l0]
  refine (if_neg Bool.false_ne_true).trans ((if_pos (js_lt hi)).trans ((if_pos (by omega)).trans ?_))
  rw [rd_js]
  exact (if_neg (by omega)).trans (if_pos h0)
theorem any_obj (hn : s.size ≤ 4096) {i : Nat} (hi : i < s.size) (h0 : bt s (i : Int) = 123) (h : Ev (fun k => pretty_appendPrettyObject.f k l (bytesOf s) (i : Int) 123 125 pr wd p ind_ tabs nl mx) r) : Ev (fun k => pretty_appendPrettyAny.l0 k l (bytesOf s) (i : Int) pr wd p ind_ false tabs nl mx) r := by
  refine any_j1 hn hi (by omega) (by omega) (by omega) (by omega) (nan_no hi (by omega) (by omega) (by omega) (by omega) (fun h => by omega)) ?_
  refine Ev.step (fun k => ?_) (Ev.bind (f := fun _ x => some x) h (Ev.now r))
  rw [pretty_appendPrettyAny.j1]
  refine (if_neg Bool.false_ne_true).trans ((if_neg Bool.false_ne_true).trans ((if_pos (by omega)).trans ((if_pos (js_lt hi)).trans ?_)))
  rw [rd_js]
  exact if_pos h0
theorem any_arr (hn : s.size ≤ 4096) {i : Nat} (hi : i < s.size) (h0 : bt s (i : Int) = 91) (h : Ev (fun k => pretty_appendPrettyObject.f k l (bytesOf s) (i : Int) 91 93 pr wd p ind_ tabs nl mx) r) : Ev (fun k => pretty_appendPrettyAny.l0 k l (bytesOf s) (i : Int) pr wd p ind_ false tabs nl mx) r := by
  refine any_j1 hn hi (by omega) (by omega) (by omega) (by omega) (nan_no hi (by omega) (by omega) (by omega) (by omega) (fun h => by omega)) ?_
  refine Ev.step (fun k => ?_) (Ev.bind (f := fun _ x => some x) h (Ev.now r))
  rw [pretty_appendPrettyAny.j1]
  refine (if_neg Bool.false_ne_true).trans ((if_neg Bool.false_ne_true).trans ((if_pos (by omega)).trans ((if_pos (js_lt hi)).trans ?_)))
  rw [rd_js]
  exact (if_neg (by omega)).trans (if_pos h0)
/-- A comma or a colon is passed over. -/
theorem any_pass (hn : s.size ≤ 4096) {i : Nat} (hi : i < s.size) (h0 : bt s (i : Int) = 44 ∨ bt s (i : Int) = 58) (h : Ev (fun k => pretty_appendPrettyAny.l0 k l (bytesOf s) ((i + 1 : Nat) : Int) pr wd p ind_ false tabs nl mx) r) : Ev (fun k => pretty_appendPrettyAny.l0 k l (bytesOf s) (i : Int) pr wd p ind_ false tabs nl mx) r := by
  have e1 : Aside0 (wrap64 ((i : Int) + 1) = ((i + 1 : Nat) : Int)) := ⟨w64 (by omega) (by omega)⟩
  refine any_j1 hn hi (by omega) (by omega) (by omega) (by omega) (nan_no hi (by omega) (by omega) (by omega) (by omega) (fun h => by omega)) ?_
  refine Ev.step (fun k => ?_) h
  rw [pretty_appendPrettyAny.j1]
  refine (if_neg Bool.false_ne_true).trans ((if_neg Bool.false_ne_true).trans ((if_pos (by omega)).trans ((if_pos (js_lt hi)).trans ?_)))
  rw [rd_js]
  refine (if_neg (by omega)).trans ((if_neg (by omega)).trans ((if_neg (by omega)).trans ((if_neg (by omega)).trans ((if_neg (by omega)).trans ?_))))
  rw [e1.out]
end
theorem word_at {s : ByteArray} {i : Nat} {w : ByteArray} (h : IsWord s i w) : sl s i (i + w.size) = bytesOf w := by
  rw [← bytesOf_extract]
  unfold bytesOf
  have := h.2
  rw [ByteArray.toList_eq, ByteArray.toList_eq] at this
  rw [this]
end Go.Proofs.Ytffdebhaclkhjaa.PFnPrWholeDefault
