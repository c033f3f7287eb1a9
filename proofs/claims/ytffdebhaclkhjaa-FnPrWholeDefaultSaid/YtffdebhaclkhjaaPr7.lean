/- What the package's printer puts down for a syntax tree that stands in the text: on one line, or laid out. No condition but that the text has at most 4096 bytes and that what is written stays below 2^46 bytes, stated in each lemma. -/
import Derived.Test.YtffdebhaclkhjaaPr6
set_option linter.unusedVariables false
set_option linter.unusedSimpArgs false
namespace Go.Proofs.Ytffdebhaclkhjaa.PFnPrWholeDefault
open Go.RowKit Go.Proofs.YtffdebhaclkhjaaW.PrintWords
/-- What stands behind an element that ends at e. -/
def Es.rest (s : ByteArray) (r : Es) (e j : Nat) : Prop := ∃ q, Blk s e q ∧ ((bt s (q : Int) = 93 ∧ r = .nil ∧ j = q + 1) ∨ (bt s (q : Int) = 44 ∧ ∃ p', Blk s (q + 1) p' ∧ r.wf s p' j))
def Ms.rest (s : ByteArray) (r : Ms) (e j : Nat) : Prop := ∃ q, Blk s e q ∧ ((bt s (q : Int) = 125 ∧ r = .nil ∧ j = q + 1) ∨ (bt s (q : Int) = 44 ∧ ∃ p', Blk s (q + 1) p' ∧ r.wf s p' j))
theorem blk_term {s : ByteArray} {e q : Nat} (h : Blk s e q) (hq : ¬ numOK (bt s (q : Int))) : ¬ numOK (bt s (e : Int)) := by
  obtain ⟨h1, h2, h3⟩ := h
  rcases Nat.eq_or_lt_of_le h1 with h4 | h4
  · rw [h4]; exact hq
  · have := isB_le (h3 e (Nat.le_refl _) h4)
    unfold numOK; omega
theorem Es.rest_term {s : ByteArray} {r : Es} {e j : Nat} (h : r.rest s e j) : ¬ numOK (bt s (e : Int)) := by
  obtain ⟨q, h1, h2⟩ := h
  refine blk_term h1 ?_
  rcases h2 with h2 | h2 <;> rw [h2.1] <;> unfold numOK <;> omega
theorem Ms.rest_term {s : ByteArray} {r : Ms} {e j : Nat} (h : r.rest s e j) : ¬ numOK (bt s (e : Int)) := by
  obtain ⟨q, h1, h2⟩ := h
  refine blk_term h1 ?_
  rcases h2 with h2 | h2 <;> rw [h2.1] <;> unfold numOK <;> omega
/-- The first byte of a value. -/
theorem T.start {s : ByteArray} : ∀ {t : T}, t.wf s → 32 < bt s (t.i : Int) ∧ bt s (t.i : Int) ≠ 93 ∧ bt s (t.i : Int) ≠ 125
  | .leaf kd i j, h => by
    rw [T.wf] at h
    show 32 < bt s (i : Int) ∧ bt s (i : Int) ≠ 93 ∧ bt s (i : Int) ≠ 125
    rcases h.2.2 with ⟨_, h⟩ | ⟨_, h, h2⟩ | ⟨_, h, h2⟩ | ⟨_, h, h2⟩ | ⟨_, h, h2⟩
    · have := h.2.2.1; omega
    · omega
    · have b0 : bt s (i : Int) = 110 := word_bt h2 0 (by decide)
      omega
    · have b0 : bt s (i : Int) = 102 := word_bt h2 0 (by decide)
      omega
    · have b0 : bt s (i : Int) = 116 := word_bt h2 0 (by decide)
      omega
  | .arr i j es, h => by rw [T.wf] at h; have := h.1; show 32 < bt s (i : Int) ∧ _; simp only [T.i]; omega
  | .obj i j ms, h => by rw [T.wf] at h; have := h.1; show 32 < bt s (i : Int) ∧ _; simp only [T.i]; omega
/-- It ends in no blank. -/
def NB (l : List Int) : Prop := ∃ a c, l = a ++ [c] ∧ c ≠ 32
theorem NB.app {a b : List Int} (h : NB b) : NB (a ++ b) := by
  obtain ⟨x, c, rfl, hc⟩ := h
  exact ⟨a ++ x, c, by simp, hc⟩
theorem NB.one {c : Int} (h : c ≠ 32) : NB [c] := ⟨[], c, rfl, h⟩
theorem NB.cons {c : Int} {b : List Int} (h : NB b) : NB (c :: b) := NB.app (a := [c]) h
theorem sl_nb {s : ByteArray} {i j : Nat} (hij : i < j) (hj : j ≤ s.size) (h : bt s ((j - 1 : Nat) : Int) ≠ 32) : NB (sl s i j) := by
  have hz := sl_length (s := s) (i := i) hj
  have hne : sl s i j ≠ [] := by intro h; rw [h] at hz; simp at hz; omega
  refine ⟨(sl s i j).dropLast, (sl s i j).getLast hne, (List.dropLast_concat_getLast hne).symm, ?_⟩
  have e := sl_get s i j (j - 1 - i) (by omega)
  rw [show i + (j - 1 - i) = j - 1 by omega] at e
  rw [List.getD_eq_getElem?_getD, List.getElem?_eq_getElem (by omega), Option.getD_some] at e
  rw [List.getLast_eq_getElem]
  simp only [hz, show j - i - 1 = j - 1 - i by omega, e]
  exact h
theorem word_nb {s : ByteArray} {i : Nat} {w : ByteArray} (h : IsWord s i w) (hw : NB (bytesOf w)) : NB (sl s i (i + w.size)) := by rw [word_at h]; exact hw
theorem T.body_nb {s : ByteArray} (hn : s.size ≤ 4096) : ∀ (t : T) (d col : Nat), t.wf s → NB (t.body s d col)
  | .leaf kd i j, d, col, h => by
    rw [T.wf] at h
    obtain ⟨h1, h2, h3⟩ := h
    rw [T.body]
    rcases h3 with ⟨_, h⟩ | ⟨_, h, h4⟩ | ⟨_, h, h4⟩ | ⟨_, h, h4⟩ | ⟨_, h, h4⟩
    · exact sl_nb h1 h2 (by rw [h.2.2.2.1]; omega)
    · have := h4 (j - 1) (by omega) (by omega)
      exact sl_nb h1 h2 (by unfold numOK at this; omega)
    · subst h; exact word_nb h4 ⟨[110, 117, 108], 108, rfl, by omega⟩
    · subst h; exact word_nb h4 ⟨[102, 97, 108, 115], 101, rfl, by omega⟩
    · subst h; exact word_nb h4 ⟨[116, 114, 117], 101, rfl, by omega⟩
  | .arr i j .nil, d, col, h => by rw [T.body]; exact ⟨[91], 93, rfl, by omega⟩
  | .arr i j (.cons t r), d, col, h => by
    rw [T.body]
    split
    · rw [T.line]; exact NB.cons (NB.app (NB.one (by omega)))
    · exact NB.cons (NB.cons (NB.app (NB.app (NB.app (NB.cons (NB.app (NB.one (by omega))))))))
  | .obj i j .nil, d, col, h => by rw [T.body]; exact ⟨[123], 125, rfl, by omega⟩
  | .obj i j (.cons ni nj t r), d, col, h => by
    rw [T.body]
    exact NB.cons (NB.cons (NB.app (NB.app (NB.cons (NB.cons (NB.app (NB.app (NB.cons (NB.app (NB.one (by omega)))))))))))
/-! ### on one line -/
def OneLine (s : ByteArray) (t : T) : Prop := ∀ (l : List Int) (p ind_ : ByteArray) (tabs nl mx : Int), mx ≠ -1 → ¬ numOK (bt s (t.j : Int)) → l.length + (t.line s).length < 70368744177664 →
  ∃ l' i', Ev (fun k => pretty_appendPrettyAny.l0 k l (bytesOf s) (t.i : Int) false 80 p ind_ false tabs nl mx) (l ++ l', i', nl, !t.has) ∧ (t.has = false → l' = t.line s ∧ i' = (t.j : Int))
def ArrLine (s : ByteArray) (i j : Nat) (es : Es) : Prop := ∀ (l : List Int) (p ind_ : ByteArray) (tabs nl mx : Int), mx ≠ -1 → l.length + (T.line s (.arr i j es)).length < 70368744177664 →
  ∃ l' i', Ev (fun k => pretty_appendPrettyObject.f k l (bytesOf s) (i : Int) 91 93 false 80 p ind_ tabs nl mx) (l ++ l', i', nl, !es.has) ∧ (es.has = false → l' = T.line s (.arr i j es) ∧ i' = (j : Int))
def RestLine (s : ByteArray) (r : Es) : Prop := ∀ (e j n : Nat) (l : List Int) (p ind_ : ByteArray) (tabs nl mx : Int), mx ≠ -1 → 0 < n → n + (s.size - e) ≤ 4097 → r.rest s e j → l.length + (r.lineR s).length + 1 < 70368744177664 →
  ∃ l' i', Ev (fun k => pretty_appendPrettyObject.l0 k l (bytesOf s) (e : Int) 91 93 false 80 p ind_ false tabs nl mx (n : Int) false) (l ++ l', i', nl, !r.has) ∧ (r.has = false → l' = r.lineR s ++ [93] ∧ i' = (j : Int))
theorem restLine_nil {s : ByteArray} (hn : s.size ≤ 4096) : RestLine s .nil := by
  intro e j n l p ind_ tabs nl mx hmx hn0 hnb hr hl
  obtain ⟨q, h1, h2⟩ := hr
  rw [Es.lineR] at hl ⊢
  rw [Es.has]
  rcases h2 with ⟨h3, _, h4⟩ | ⟨_, p', _, h⟩
  · subst h4
    have hq := bt_in h3 (by decide)
    exact ⟨[93], _, ol_blk hn (ol_close_line hn hq (by omega) h3 (by simp only [List.length_nil] at hl; omega)) _ e rfl h1, fun _ => ⟨rfl, rfl⟩⟩
  · rw [Es.wf] at h; exact h.elim
theorem restLine_cons {s : ByteArray} (hn : s.size ≤ 4096) {t : T} {r : Es} (ht : OneLine s t) (hR : RestLine s r) : RestLine s (.cons t r) := by
  intro e j n l p ind_ tabs nl mx hmx hn0 hnb hr hl
  obtain ⟨q, h1, h2⟩ := hr
  rcases h2 with ⟨_, h, _⟩ | ⟨h3, p', h4, h5⟩
  · exact absurd h (by simp)
  · rw [Es.wf] at h5
    obtain ⟨hwf, hti, hrest⟩ := h5
    have hrest : r.rest s t.j j := hrest
    have hq := bt_in h3 (by decide)
    have hwo := T.wf_ok hn t hwf
    have h11 := h1.1
    have h41 := h4.1
    rw [Es.lineR] at hl ⊢
    simp only [List.length_cons, List.length_append] at hl
    obtain ⟨l1, i1, ha, hb⟩ := ht (l ++ [44] ++ [32]) p ind_ (wrap64 (tabs + 1)) nl mx hmx (Es.rest_term hrest) (by simp only [List.length_append, List.length_cons, List.length_nil]; omega)
    rw [hti] at ha
    have hany := any_f (any_pass hn hq (.inl h3) (any_blk hn ha _ (q + 1) rfl h4))
    rw [Es.has]
    cases hh : t.has with
    | true =>
      rw [hh] at hany
      refine ⟨44 :: 32 :: l1, i1, ?_, fun h => by simp at h⟩
      have e1 : l ++ 44 :: 32 :: l1 = l ++ [44] ++ [32] ++ l1 := by simp
      rw [e1]
      exact ol_blk hn (arr_enterN hn hq (by omega) (by omega) (by omega) (by omega) (j6_flat (j7_arr (j8_no hany hmx)))) _ e rfl h1
    | false =>
      obtain ⟨rfl, rfl⟩ := hb hh
      rw [hh] at hany
      obtain ⟨l2, i2, hc, hd⟩ := hR t.j j (n + 1) (l ++ [44] ++ [32] ++ t.line s) p ind_ tabs nl mx hmx (by omega) (by omega) hrest (by simp only [List.length_append, List.length_cons, List.length_nil]; omega)
      refine ⟨44 :: 32 :: (t.line s ++ l2), i2, ?_, fun h => ?_⟩
      · have e1 : l ++ 44 :: 32 :: (t.line s ++ l2) = l ++ [44] ++ [32] ++ t.line s ++ l2 := by simp
        rw [e1]
        exact ol_blk hn (arr_enterN hn hq (by omega) (by omega) (by omega) (by omega) (j6_flat (j7_arr (j8_go hany (.inr rfl) (by omega) (by omega) hc)))) _ e rfl h1
      · obtain ⟨rfl, h6⟩ := hd (by simpa using h)
        exact ⟨by simp, h6⟩
theorem arrLine_in {s : ByteArray} (hn : s.size ≤ 4096) {i : Nat} (hi : i < s.size) {l : List Int} {p ind_ : ByteArray} {tabs nl mx : Int} {r : List Int × Int × Int × Bool} (hmx : mx ≠ -1) (hl : l.length < 140737488355328)
    (h : Ev (fun k => pretty_appendPrettyObject.l0 k (l ++ [91]) (bytesOf s) ((i + 1 : Nat) : Int) 91 93 false 80 p ind_ false tabs nl mx 0 false) r) : Ev (fun k => pretty_appendPrettyObject.f k l (bytesOf s) (i : Int) 91 93 false 80 p ind_ tabs nl mx) r := by
  refine Ev.step (f := fun k => pretty_appendPrettyObject.j0 k l (bytesOf s) (i : Int) 91 93 false 80 p ind_ false tabs nl mx false) (fun k => ?_) (Ev.step (fun k => ?_) (obj_j1 hn hi hl h))
  · rw [pretty_appendPrettyObject.f]
    exact (if_pos (by omega)).trans (if_neg Bool.false_ne_true)
  · rw [pretty_appendPrettyObject.j0]
    exact (if_neg Bool.false_ne_true).trans ((if_neg Bool.false_ne_true).trans ((if_neg hmx).trans (if_neg (by omega))))
theorem objLine_no {s : ByteArray} {i : Int} {l : List Int} {p ind_ : ByteArray} {tabs nl mx : Int} (hmx : mx ≠ -1) : Ev (fun k => pretty_appendPrettyObject.f k l (bytesOf s) i 123 125 false 80 p ind_ tabs nl mx) (l, i, nl, false) := by
  refine Ev.step (f := fun k => pretty_appendPrettyObject.j0 k l (bytesOf s) i 123 125 false 80 p ind_ false tabs nl mx false) (fun k => ?_) (Ev.step (fun k => ?_) (Ev.now _))
  · rw [pretty_appendPrettyObject.f]
    exact (if_pos (by omega)).trans (if_neg Bool.false_ne_true)
  · rw [pretty_appendPrettyObject.j0]
    exact (if_neg Bool.false_ne_true).trans ((if_neg Bool.false_ne_true).trans ((if_neg hmx).trans (if_pos rfl)))
theorem arrLine_nil {s : ByteArray} (hn : s.size ≤ 4096) {i j : Nat} (h : T.wf s (.arr i j .nil)) : ArrLine s i j .nil := by
  intro l p ind_ tabs nl mx hmx hl
  rw [T.wf] at h
  obtain ⟨h1, h2, p0, h3, h4⟩ := h
  rw [T.line, Es.line] at hl ⊢
  simp only [List.length_cons, List.length_append, List.length_nil] at hl
  rw [Es.has]
  rcases h4 with ⟨h5, h6, _⟩ | h5
  · subst h6
    have hq := bt_in h5 (by decide)
    have h31 := h3.1
    refine ⟨[91, 93], _, arrLine_in hn (by omega) hmx (by omega) (ol_blk hn ?_ _ (i + 1) rfl h3), fun _ => ⟨rfl, rfl⟩⟩
    have e1 : l ++ [91, 93] = l ++ [91] ++ [93] := by simp
    rw [e1]
    exact ol_close_line hn hq (by omega) h5 (by simp only [List.length_append, List.length_cons, List.length_nil]; omega)
  · rw [Es.wf] at h5; exact h5.elim
theorem arrLine_cons {s : ByteArray} (hn : s.size ≤ 4096) {i j : Nat} {t : T} {r : Es} (h : T.wf s (.arr i j (.cons t r))) (ht : OneLine s t) (hR : RestLine s r) : ArrLine s i j (.cons t r) := by
  intro l p ind_ tabs nl mx hmx hl
  rw [T.wf] at h
  obtain ⟨h1, h2, p0, h3, h4⟩ := h
  rw [T.line, Es.line] at hl ⊢
  simp only [List.length_cons, List.length_append, List.length_nil] at hl
  rcases h4 with ⟨_, _, h6⟩ | h5
  · exact absurd h6 (by simp)
  · rw [Es.wf] at h5
    obtain ⟨hwf, hti, hrest⟩ := h5
    have hrest : r.rest s t.j j := hrest
    obtain ⟨b1, b2, b3⟩ := T.start hwf
    rw [hti] at b1 b2
    have hwo := T.wf_ok hn t hwf
    have h31 := h3.1
    obtain ⟨l1, i1, ha, hb⟩ := ht (l ++ [91]) p ind_ (wrap64 (tabs + 1)) nl mx hmx (Es.rest_term hrest) (by simp only [List.length_append, List.length_cons, List.length_nil]; omega)
    rw [hti] at ha
    have hany := any_f ha
    rw [Es.has]
    cases hh : t.has with
    | true =>
      rw [hh] at hany
      refine ⟨91 :: l1, i1, ?_, fun h => by simp at h⟩
      have e1 : l ++ 91 :: l1 = l ++ [91] ++ l1 := by simp
      rw [e1]
      exact arrLine_in hn (by omega) hmx (by omega) (ol_blk hn (arr_enter0 hn (by omega) b1 b2 (j6_flat (j7_arr (j8_no hany hmx)))) _ (i + 1) rfl h3)
    | false =>
      obtain ⟨rfl, rfl⟩ := hb hh
      rw [hh] at hany
      obtain ⟨l2, i2, hc, hd⟩ := hR t.j j 1 (l ++ [91] ++ t.line s) p ind_ tabs nl mx hmx (by omega) (by omega) hrest (by simp only [List.length_append, List.length_cons, List.length_nil]; omega)
      refine ⟨91 :: (t.line s ++ l2), i2, ?_, fun h => ?_⟩
      · have e1 : l ++ 91 :: (t.line s ++ l2) = l ++ [91] ++ t.line s ++ l2 := by simp
        rw [e1]
        exact arrLine_in hn (by omega) hmx (by omega) (ol_blk hn (arr_enter0 hn (by omega) b1 b2 (j6_flat (j7_arr (j8_go (m := 0) hany (.inr rfl) (by omega) (by omega) hc)))) _ (i + 1) rfl h3)
      · obtain ⟨rfl, h6⟩ := hd (by simpa using h)
        exact ⟨by simp, h6⟩
theorem leaf_line {s : ByteArray} (hn : s.size ≤ 4096) {kd : Int} {i j : Nat} (h : T.wf s (.leaf kd i j)) : OneLine s (.leaf kd i j) := by
  intro l p ind_ tabs nl mx hmx hterm hl
  rw [T.wf] at h
  rw [T.line, sl_length h.2.1] at hl
  rw [T.has, T.line]
  exact ⟨sl s i j, _, any_leaf hn h.1 h.2.1 h.2.2 hterm (by omega), fun _ => ⟨rfl, rfl⟩⟩
theorem obj_line {s : ByteArray} (hn : s.size ≤ 4096) {i j : Nat} {ms : Ms} (h : T.wf s (.obj i j ms)) : OneLine s (.obj i j ms) := by
  intro l p ind_ tabs nl mx hmx hterm hl
  rw [T.wf] at h
  have hi := bt_in h.1 (by decide)
  rw [T.has]
  refine ⟨[], (i : Int), ?_, fun h => by simp at h⟩
  rw [List.append_nil]
  exact any_obj hn hi h.1 (objLine_no hmx)
theorem arr_line {s : ByteArray} (hn : s.size ≤ 4096) {i j : Nat} {es : Es} (h : T.wf s (.arr i j es)) (ha : ArrLine s i j es) : OneLine s (.arr i j es) := by
  intro l p ind_ tabs nl mx hmx hterm hl
  rw [T.wf] at h
  have hi := bt_in h.1 (by decide)
  rw [T.has]
  obtain ⟨l', i', h1, h2⟩ := ha l p ind_ tabs nl mx hmx hl
  exact ⟨l', i', any_arr hn hi h.1 h1, h2⟩
theorem Es.wf_first {s : ByteArray} {t : T} {r : Es} {p j : Nat} (h : (Es.cons t r).wf s p j) : t.wf s := by rw [Es.wf] at h; exact h.1
mutual
theorem T.lm {s : ByteArray} (hn : s.size ≤ 4096) : ∀ t : T, t.wf s → OneLine s t
  | .leaf kd i j, h => leaf_line hn h
  | .obj i j ms, h => obj_line hn h
  | .arr i j es, h => arr_line hn h (Es.al hn es i j h)
theorem Es.al {s : ByteArray} (hn : s.size ≤ 4096) : ∀ (es : Es) (i j : Nat), T.wf s (.arr i j es) → ArrLine s i j es
  | .nil, i, j, h => arrLine_nil hn h
  | .cons t r, i, j, h => by
    have h0 := h
    rw [T.wf] at h0
    obtain ⟨_, _, p0, _, h4⟩ := h0
    rcases h4 with ⟨_, _, h6⟩ | h5
    · exact absurd h6 (by simp)
    · rw [Es.wf] at h5
      obtain ⟨hwf, hti, q, hq, h7⟩ := h5
      refine arrLine_cons hn h (T.lm hn t hwf) ?_
      rcases h7 with ⟨_, h8, _⟩ | ⟨_, p', _, h8⟩
      · subst h8; exact restLine_nil hn
      · exact Es.rl hn r p' j h8
theorem Es.rl {s : ByteArray} (hn : s.size ≤ 4096) : ∀ (r : Es) (p j : Nat), r.wf s p j → RestLine s r
  | .nil, p, j, h => restLine_nil hn
  | .cons t r, p, j, h => by
    rw [Es.wf] at h
    obtain ⟨hwf, hti, q, hq, h7⟩ := h
    refine restLine_cons hn (T.lm hn t hwf) ?_
    rcases h7 with ⟨_, h8, _⟩ | ⟨_, p', _, h8⟩
    · subst h8; exact restLine_nil hn
    · exact Es.rl hn r p' j h8
end
end Go.Proofs.Ytffdebhaclkhjaa.PFnPrWholeDefault
