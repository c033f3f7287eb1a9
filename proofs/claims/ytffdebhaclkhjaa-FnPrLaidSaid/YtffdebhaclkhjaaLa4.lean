/- What the package's printer puts down, with a width of 0, for a syntax tree that stands in the text. No condition but that the text has at most 4096 bytes and that what is written stays below 2^46 bytes, stated in each lemma. -/
import Derived.Test.YtffdebhaclkhjaaLa3
set_option linter.unusedVariables false
set_option linter.unusedSimpArgs false
namespace Go.Proofs.Ytffdebhaclkhjaa.PFnPrWholeDefault
open Go.RowKit Go.Proofs.YtffdebhaclkhjaaW.PrintWords
/-- What stands behind an element that ends at e. -/
def Es.rest (s : ByteArray) (r : Es) (e j : Nat) : Prop := ∃ q, Blk s e q ∧ ((bt s (q : Int) = 93 ∧ r = .nil ∧ j = q + 1) ∨ (bt s (q : Int) = 44 ∧ ∃ p', Blk s (q + 1) p' ∧ r.wf s p' j))
def Ms.rest (s : ByteArray) (r : Ms) (e j : Nat) : Prop := ∃ q, Blk s e q ∧ ((bt s (q : Int) = 125 ∧ r = .nil ∧ j = q + 1) ∨ (bt s (q : Int) = 44 ∧ ∃ p', Blk s (q + 1) p' ∧ r.wf s p' j))
theorem blk_term {s : ByteArray} {e q : Nat} (h : Blk s e q) (hq : ¬ numOK (bt s (q : Int))) : ¬ numOK (bt s (e : Int)) := by
  obtain ⟨h1, h2, h3⟩ := h
  rcases Nat.eq_or_lt_of_le h1 with h4 | h4
  · rw [h4]; exact hq
  · have := isB_le (h3 e (Nat.le_refl _) h4)
    unfold numOK; omega
theorem Es.rest_term {s : ByteArray} {r : Es} {e j : Nat} (h : r.rest s e j) : ¬ numOK (bt s (e : Int)) := by
  obtain ⟨q, h1, h2⟩ := h
  refine blk_term h1 ?_
  rcases h2 with h2 | h2 <;> rw [h2.1] <;> unfold numOK <;> omega
theorem Ms.rest_term {s : ByteArray} {r : Ms} {e j : Nat} (h : r.rest s e j) : ¬ numOK (bt s (e : Int)) := by
  obtain ⟨q, h1, h2⟩ := h
  refine blk_term h1 ?_
  rcases h2 with h2 | h2 <;> rw [h2.1] <;> unfold numOK <;> omega
/-- The first byte of a value. -/
theorem T.start {s : ByteArray} : ∀ {t : T}, t.wf s → 32 < bt s (t.i : Int) ∧ bt s (t.i : Int) ≠ 93 ∧ bt s (t.i : Int) ≠ 125
  | .leaf kd i j, h => by
    rw [T.wf] at h
    show 32 < bt s (i : Int) ∧ bt s (i : Int) ≠ 93 ∧ bt s (i : Int) ≠ 125
    rcases h.2.2 with ⟨_, h⟩ | ⟨_, h, h2⟩ | ⟨_, h, h2⟩ | ⟨_, h, h2⟩ | ⟨_, h, h2⟩
    · have := h.2.2.1; omega
    · omega
    · have b0 : bt s (i : Int) = 110 := word_bt h2 0 (by decide)
      omega
    · have b0 : bt s (i : Int) = 102 := word_bt h2 0 (by decide)
      omega
    · have b0 : bt s (i : Int) = 116 := word_bt h2 0 (by decide)
      omega
  | .arr i j es, h => by rw [T.wf] at h; have := h.1; show 32 < bt s (i : Int) ∧ _; simp only [T.i]; omega
  | .obj i j ms, h => by rw [T.wf] at h; have := h.1; show 32 < bt s (i : Int) ∧ _; simp only [T.i]; omega
/-- It ends in no blank. -/
def NB (l : List Int) : Prop := ∃ a c, l = a ++ [c] ∧ c ≠ 32
theorem NB.app {a b : List Int} (h : NB b) : NB (a ++ b) := by
  obtain ⟨x, c, rfl, hc⟩ := h
  exact ⟨a ++ x, c, by simp, hc⟩
theorem NB.one {c : Int} (h : c ≠ 32) : NB [c] := ⟨[], c, rfl, h⟩
theorem NB.cons {c : Int} {b : List Int} (h : NB b) : NB (c :: b) := NB.app (a := [c]) h
theorem sl_nb {s : ByteArray} {i j : Nat} (hij : i < j) (hj : j ≤ s.size) (h : bt s ((j - 1 : Nat) : Int) ≠ 32) : NB (sl s i j) := by
  have hz := sl_length (s := s) (i := i) hj
  have hne : sl s i j ≠ [] := by intro h; rw [h] at hz; simp at hz; omega
  refine ⟨(sl s i j).dropLast, (sl s i j).getLast hne, (List.dropLast_concat_getLast hne).symm, ?_⟩
  have e := sl_get s i j (j - 1 - i) (by omega)
  rw [show i + (j - 1 - i) = j - 1 by omega] at e
  rw [List.getD_eq_getElem?_getD, List.getElem?_eq_getElem (by omega), Option.getD_some] at e
  rw [List.getLast_eq_getElem]
  simp only [hz, show j - i - 1 = j - 1 - i by omega, e]
  exact h
theorem word_nb {s : ByteArray} {i : Nat} {w : ByteArray} (h : IsWord s i w) (hw : NB (bytesOf w)) : NB (sl s i (i + w.size)) := by rw [word_at h]; exact hw
theorem T.lb_nb {s : ByteArray} {P I : List Int} (hn : s.size ≤ 4096) : ∀ (t : T) (d : Nat), t.wf s → NB (t.lb s P I d)
  | .leaf kd i j, d, h => by
    rw [T.wf] at h
    obtain ⟨h1, h2, h3⟩ := h
    rw [T.lb]
    rcases h3 with ⟨_, h⟩ | ⟨_, h, h4⟩ | ⟨_, h, h4⟩ | ⟨_, h, h4⟩ | ⟨_, h, h4⟩
    · exact sl_nb h1 h2 (by rw [h.2.2.2.1]; omega)
    · have := h4 (j - 1) (by omega) (by omega)
      exact sl_nb h1 h2 (by unfold numOK at this; omega)
    · subst h; exact word_nb h4 ⟨[110, 117, 108], 108, rfl, by omega⟩
    · subst h; exact word_nb h4 ⟨[102, 97, 108, 115], 101, rfl, by omega⟩
    · subst h; exact word_nb h4 ⟨[116, 114, 117], 101, rfl, by omega⟩
  | .arr i j .nil, d, h => by rw [T.lb]; exact ⟨[91], 93, rfl, by omega⟩
  | .arr i j (.cons t r), d, h => by
    rw [T.lb]
    exact NB.cons (NB.cons (NB.app (NB.app (NB.app (NB.cons (NB.app (NB.one (by omega))))))))
  | .obj i j .nil, d, h => by rw [T.lb]; exact ⟨[123], 125, rfl, by omega⟩
  | .obj i j (.cons ni nj t r), d, h => by
    rw [T.lb]
    exact NB.cons (NB.cons (NB.app (NB.app (NB.cons (NB.cons (NB.app (NB.app (NB.cons (NB.app (NB.one (by omega)))))))))))
section
variable {s p ind_ : ByteArray}
variable (s p ind_) in
def LaidOut (t : T) : Prop := ∀ (d : Nat) (l : List Int) (nl : Int), ¬ numOK (bt s (t.j : Int)) → d + (t.j - t.i) ≤ 4097 → l.length + (t.lb s (bytesOf p) (bytesOf ind_) d).length < 70368744160000 →
  ∃ nl' ok, Ev (fun k => pretty_appendPrettyAny.l0 k l (bytesOf s) (t.i : Int) true 0 p ind_ false (d : Int) nl (-1)) (l ++ t.lb s (bytesOf p) (bytesOf ind_) d, (t.j : Int), nl', ok)
variable (s p ind_) in
def RestOut (r : Es) : Prop := ∀ (e j n d : Nat) (l : List Int) (nl : Int), NB l → 0 < n → n + (s.size - e) ≤ 4097 → r.rest s e j → d + 1 + (j - e) ≤ 4097 → l.length + (r.lbR s (bytesOf p) (bytesOf ind_) (d + 1) ++ (10 :: (tb (bytesOf p) (bytesOf ind_) d ++ [93]))).length < 70368744160000 →
  ∃ nl', Ev (fun k => pretty_appendPrettyObject.l0 k l (bytesOf s) (e : Int) 91 93 true 0 p ind_ false (d : Int) nl (-1) (n : Int) false) (l ++ (r.lbR s (bytesOf p) (bytesOf ind_) (d + 1) ++ (10 :: (tb (bytesOf p) (bytesOf ind_) d ++ [93]))), (j : Int), nl', true)
variable (s p ind_) in
def RestOutM (r : Ms) : Prop := ∀ (e j n d : Nat) (l : List Int) (nl : Int), NB l → 0 < n → n + (s.size - e) ≤ 4097 → r.rest s e j → d + 1 + (j - e) ≤ 4097 → l.length + (r.lbR s (bytesOf p) (bytesOf ind_) (d + 1) ++ (10 :: (tb (bytesOf p) (bytesOf ind_) d ++ [125]))).length < 70368744160000 →
  ∃ nl', Ev (fun k => pretty_appendPrettyObject.l0 k l (bytesOf s) (e : Int) 123 125 true 0 p ind_ false (d : Int) nl (-1) (n : Int) false) (l ++ (r.lbR s (bytesOf p) (bytesOf ind_) (d + 1) ++ (10 :: (tb (bytesOf p) (bytesOf ind_) d ++ [125]))), (j : Int), nl', false)
theorem tab1 {d : Nat} (h : d ≤ 8192) : Aside0 (wrap64 ((d : Int) + 1) = ((d + 1 : Nat) : Int)) := ⟨w64 (by omega) (by omega)⟩
theorem Es.rest_lt (hn : s.size ≤ 4096) {r : Es} {e j : Nat} (h : r.rest s e j) : e < j := by
  obtain ⟨q2, hq2, hq3⟩ := h
  have := hq2.1
  rcases hq3 with ⟨_, _, h⟩ | ⟨_, p2, hp2, h⟩
  · omega
  · have := (Es.wf_ok hn _ _ _ h).2.1
    have := hp2.1
    omega
theorem Ms.rest_lt (hn : s.size ≤ 4096) {r : Ms} {e j : Nat} (h : r.rest s e j) : e < j := by
  obtain ⟨q2, hq2, hq3⟩ := h
  have := hq2.1
  rcases hq3 with ⟨_, _, h⟩ | ⟨_, p2, hp2, h⟩
  · omega
  · have := (Ms.wf_ok hn _ _ _ h).2.1
    have := hp2.1
    omega
theorem restOut_nil (hn : s.size ≤ 4096) : RestOut s p ind_ .nil := by
  intro e j n d l nl hnb hn0 hnn hr hd hl
  obtain ⟨q, h1, h2⟩ := hr
  rw [Es.lbR] at hl ⊢
  rw [List.nil_append] at hl ⊢
  simp only [List.length_cons, List.length_append, List.length_nil] at hl
  obtain ⟨a, c, rfl, hc⟩ := hnb
  simp only [List.length_cons, List.length_append, List.length_nil] at hl
  rcases h2 with ⟨h3, _, h4⟩ | ⟨_, p', _, h⟩
  · subst h4
    have hq := bt_in h3 (by decide)
    exact ⟨_, ol_blk hn (ol_closeN hn hq (by omega) (by omega) h3 hc (by omega) (by omega) (by omega)) _ e rfl h1⟩
  · rw [Es.wf] at h; exact h.elim
theorem restOutM_nil (hn : s.size ≤ 4096) : RestOutM s p ind_ .nil := by
  intro e j n d l nl hnb hn0 hnn hr hd hl
  obtain ⟨q, h1, h2⟩ := hr
  rw [Ms.lbR] at hl ⊢
  rw [List.nil_append] at hl ⊢
  simp only [List.length_cons, List.length_append, List.length_nil] at hl
  obtain ⟨a, c, rfl, hc⟩ := hnb
  simp only [List.length_cons, List.length_append, List.length_nil] at hl
  rcases h2 with ⟨h3, _, h4⟩ | ⟨_, p', _, h⟩
  · subst h4
    have hq := bt_in h3 (by decide)
    exact ⟨_, ol_blk hn (ol_closeN hn hq (by omega) (by omega) h3 hc (by omega) (by omega) (by omega)) _ e rfl h1⟩
  · rw [Ms.wf] at h; exact h.elim
theorem restOut_cons (hn : s.size ≤ 4096) {t : T} {r : Es} (ht : LaidOut s p ind_ t) (hR : RestOut s p ind_ r) : RestOut s p ind_ (.cons t r) := by
  intro e j n d l nl hnb hn0 hnn hr hd hl
  obtain ⟨q, h1, h2⟩ := hr
  rcases h2 with ⟨_, h, _⟩ | ⟨h3, p', h4, h5⟩
  · exact absurd h (by simp)
  · rw [Es.wf] at h5
    obtain ⟨hwf, hti, hrest⟩ := h5
    have hrest : r.rest s t.j j := hrest
    have hq := bt_in h3 (by decide)
    have hwo := T.wf_ok hn t hwf
    have h11 := h1.1
    have h41 := h4.1
    have hj := Es.rest_lt hn hrest
    rw [Es.lbR] at hl ⊢
    simp only [List.length_cons, List.length_append, List.length_nil] at hl
    have e5 := tab1 (d := d) (by omega)
    obtain ⟨nl1, ok1, ha⟩ := ht (d + 1) (l ++ [44] ++ [10] ++ tb (bytesOf p) (bytesOf ind_) (d + 1)) (((l ++ [44] ++ [32]).length : Nat) : Int) (Es.rest_term hrest) (by omega) (by simp only [List.length_append, List.length_cons, List.length_nil]; omega)
    rw [hti] at ha
    have hany := any_f (any_pass hn hq (.inl h3) (any_blk hn ha _ (q + 1) rfl h4))
    obtain ⟨nl2, hc⟩ := hR t.j j (n + 1) d (l ++ [44] ++ [10] ++ tb (bytesOf p) (bytesOf ind_) (d + 1) ++ t.lb s (bytesOf p) (bytesOf ind_) (d + 1)) nl1 (NB.app (T.lb_nb hn t _ hwf)) (by omega) (by omega) hrest (by omega) (by simp only [List.length_append, List.length_cons, List.length_nil]; omega)
    refine ⟨nl2, ?_⟩
    have e1 : l ++ (44 :: 10 :: (tb (bytesOf p) (bytesOf ind_) (d + 1) ++ (t.lb s (bytesOf p) (bytesOf ind_) (d + 1) ++ r.lbR s (bytesOf p) (bytesOf ind_) (d + 1))) ++ 10 :: (tb (bytesOf p) (bytesOf ind_) d ++ [93])) = l ++ [44] ++ [10] ++ tb (bytesOf p) (bytesOf ind_) (d + 1) ++ t.lb s (bytesOf p) (bytesOf ind_) (d + 1) ++ (r.lbR s (bytesOf p) (bytesOf ind_) (d + 1) ++ 10 :: (tb (bytesOf p) (bytesOf ind_) d ++ [93])) := by simp
    rw [e1]
    exact ol_blk hn (arr_enterN hn hq (by omega) (by omega) (by omega) (by omega) (by omega) (j6_over (by omega) (by simp only [List.length_append, List.length_cons, List.length_nil]; omega) (j7_arr (j8_go (by rw [e5.out]; exact hany) (.inl rfl) (by omega) (by omega) hc)))) _ e rfl h1
theorem restOutM_cons (hn : s.size ≤ 4096) {ni nj : Nat} {t : T} {r : Ms} (ht : LaidOut s p ind_ t) (hR : RestOutM s p ind_ r) : RestOutM s p ind_ (.cons ni nj t r) := by
  intro e j n d l nl hnb hn0 hnn hr hd hl
  obtain ⟨q, h1, h2⟩ := hr
  rcases h2 with ⟨_, h, _⟩ | ⟨h3, p', h4, h5⟩
  · exact absurd h (by simp)
  · rw [Ms.wf] at h5
    obtain ⟨rfl, hs, c, hc1, hc2, v, hv, hwf, hti, hrest⟩ := h5
    have hrest : r.rest s t.j j := hrest
    have hq := bt_in h3 (by decide)
    have hcq := bt_in hc2 (by decide)
    have hwo := T.wf_ok hn t hwf
    have h11 := h1.1
    have h41 := h4.1
    have hc11 := hc1.1
    have hv1 := hv.1
    have hs1 := hs.1
    have hs2 := hs.2.1
    have hj := Ms.rest_lt hn hrest
    have hsl := sl_length (s := s) (i := ni) hs2
    rw [Ms.lbR] at hl ⊢
    simp only [List.length_cons, List.length_append, List.length_nil, hsl] at hl
    have e5 := tab1 (d := d) (by omega)
    obtain ⟨nl1, ok1, ha⟩ := ht (d + 1) (l ++ [44] ++ [10] ++ tb (bytesOf p) (bytesOf ind_) (d + 1) ++ sl s ni nj ++ [58] ++ [32]) (((l ++ [44]).length : Nat) : Int) (Ms.rest_term hrest) (by omega) (by simp only [List.length_append, List.length_cons, List.length_nil, hsl]; omega)
    rw [hti] at ha
    have hany := any_f (any_blk hn (any_pass hn hcq (.inr hc2) (any_blk hn ha _ (c + 1) rfl hv)) _ nj rfl hc1)
    obtain ⟨nl2, hc⟩ := hR t.j j (n + 1) d (l ++ [44] ++ [10] ++ tb (bytesOf p) (bytesOf ind_) (d + 1) ++ sl s ni nj ++ [58] ++ [32] ++ t.lb s (bytesOf p) (bytesOf ind_) (d + 1)) nl1 (NB.app (T.lb_nb hn t _ hwf)) (by omega) (by omega) hrest (by omega) (by simp only [List.length_append, List.length_cons, List.length_nil, hsl]; omega)
    refine ⟨nl2, ?_⟩
    have e1 : l ++ (44 :: 10 :: (tb (bytesOf p) (bytesOf ind_) (d + 1) ++ (sl s ni nj ++ (58 :: 32 :: (t.lb s (bytesOf p) (bytesOf ind_) (d + 1) ++ r.lbR s (bytesOf p) (bytesOf ind_) (d + 1))))) ++ 10 :: (tb (bytesOf p) (bytesOf ind_) d ++ [125])) = l ++ [44] ++ [10] ++ tb (bytesOf p) (bytesOf ind_) (d + 1) ++ sl s ni nj ++ [58] ++ [32] ++ t.lb s (bytesOf p) (bytesOf ind_) (d + 1) ++ (r.lbR s (bytesOf p) (bytesOf ind_) (d + 1) ++ 10 :: (tb (bytesOf p) (bytesOf ind_) d ++ [125])) := by simp
    rw [e1]
    exact ol_blk hn (obj_pass hn hq h3 (ol_blk hn (obj_enterN hn (by omega) hs.2.2.1 (by omega) (by omega) (by omega) (j6_new (by omega) (by omega) (by omega) (j7_obj hn hs (by simp only [List.length_append, List.length_cons, List.length_nil]; omega) (j8_go (by rw [e5.out]; exact hany) (.inl rfl) (by omega) (by omega) hc)))) _ (q + 1) rfl h4)) _ e rfl h1
theorem obj_f0 {i op cl : Int} {l : List Int} {pr : Bool} {d nl mx : Int} {r : List Int × Int × Int × Bool} (h : Ev (fun k => pretty_appendPrettyObject.j1 k l (bytesOf s) i op cl pr 0 p ind_ false d nl mx) r) :
    Ev (fun k => pretty_appendPrettyObject.f k l (bytesOf s) i op cl pr 0 p ind_ d nl mx) r :=
  Ev.step (fun k => by rw [pretty_appendPrettyObject.f]; exact if_neg (by omega)) h
theorem leaf_out (hn : s.size ≤ 4096) {kd : Int} {i j : Nat} (h : T.wf s (.leaf kd i j)) : LaidOut s p ind_ (.leaf kd i j) := by
  intro d l nl hterm hd hl
  rw [T.wf] at h
  rw [T.lb, sl_length h.2.1] at hl
  rw [T.lb]
  exact ⟨_, _, any_leaf hn h.1 h.2.1 h.2.2 hterm (by omega)⟩
theorem objNil_out (hn : s.size ≤ 4096) {i j : Nat} (h : T.wf s (.obj i j .nil)) : LaidOut s p ind_ (.obj i j .nil) := by
  intro d l nl hterm hd hl
  rw [T.wf] at h
  obtain ⟨h1, h2, p0, h3, h4⟩ := h
  have hi := bt_in h1 (by decide)
  rw [T.lb] at hl ⊢
  simp only [List.length_cons, List.length_nil] at hl
  rcases h4 with ⟨h5, h6, _⟩ | h5
  · subst h6
    have hq := bt_in h5 (by decide)
    have e1 : l ++ [123, 125] = l ++ [123] ++ [125] := by simp
    rw [e1]
    exact ⟨_, _, any_obj hn hi h1 (obj_f0 (obj_j1 hn hi (by omega) (ol_blk hn (ol_close0 hn hq (by omega) h5 (by omega)) _ (i + 1) rfl h3)))⟩
  · rw [Ms.wf] at h5; exact h5.elim
theorem arrNil_out (hn : s.size ≤ 4096) {i j : Nat} (h : T.wf s (.arr i j .nil)) : LaidOut s p ind_ (.arr i j .nil) := by
  intro d l nl hterm hd hl
  rw [T.wf] at h
  obtain ⟨h1, h2, p0, h3, h4⟩ := h
  have hi := bt_in h1 (by decide)
  rw [T.lb] at hl ⊢
  simp only [List.length_cons, List.length_nil] at hl
  rcases h4 with ⟨h5, h6, _⟩ | h5
  · subst h6
    have hq := bt_in h5 (by decide)
    have e1 : l ++ [91, 93] = l ++ [91] ++ [93] := by simp
    rw [e1]
    exact ⟨_, _, any_arr hn hi h1 (obj_f0 (obj_j1 hn hi (by omega) (ol_blk hn (ol_close0 hn hq (by omega) h5 (by omega)) _ (i + 1) rfl h3)))⟩
  · rw [Es.wf] at h5; exact h5.elim
theorem objCons_out (hn : s.size ≤ 4096) {i j ni nj : Nat} {t : T} {r : Ms} (h : T.wf s (.obj i j (.cons ni nj t r))) (ht : LaidOut s p ind_ t) (hR : RestOutM s p ind_ r) : LaidOut s p ind_ (.obj i j (.cons ni nj t r)) := by
  intro d l nl hterm hd hl
  have hjs := (T.wf_ok hn _ h).2.2
  rw [T.wf] at h
  obtain ⟨h1, h2, p0, h3, h4⟩ := h
  have hi := bt_in h1 (by decide)
  simp only [T.i, T.j] at hd hjs ⊢
  rcases h4 with ⟨_, _, h6⟩ | h5
  · exact absurd h6 (by simp)
  · rw [Ms.wf] at h5
    obtain ⟨rfl, hs, c, hc1, hc2, v, hv, hwf, hti, hrest⟩ := h5
    have hrest : r.rest s t.j j := hrest
    have hcq := bt_in hc2 (by decide)
    have hwo := T.wf_ok hn t hwf
    have h31 := h3.1
    have hc11 := hc1.1
    have hv1 := hv.1
    have hs1 := hs.1
    have hs2 := hs.2.1
    have hj := Ms.rest_lt hn hrest
    have hsl := sl_length (s := s) (i := ni) hs2
    rw [T.lb] at hl ⊢
    simp only [List.length_cons, List.length_append, List.length_nil, hsl] at hl
    have e5 := tab1 (d := d) (by omega)
    obtain ⟨nl1, ok1, ha⟩ := ht (d + 1) (l ++ [123] ++ [10] ++ tb (bytesOf p) (bytesOf ind_) (d + 1) ++ sl s ni nj ++ [58] ++ [32]) (((l ++ [123]).length : Nat) : Int) (Ms.rest_term hrest) (by omega) (by simp only [List.length_append, List.length_cons, List.length_nil, hsl]; omega)
    rw [hti] at ha
    have hany := any_f (any_blk hn (any_pass hn hcq (.inr hc2) (any_blk hn ha _ (c + 1) rfl hv)) _ nj rfl hc1)
    obtain ⟨nl2, hc⟩ := hR t.j j 1 d (l ++ [123] ++ [10] ++ tb (bytesOf p) (bytesOf ind_) (d + 1) ++ sl s ni nj ++ [58] ++ [32] ++ t.lb s (bytesOf p) (bytesOf ind_) (d + 1)) nl1 (NB.app (T.lb_nb hn t _ hwf)) (by omega) (by omega) hrest (by omega) (by simp only [List.length_append, List.length_cons, List.length_nil, hsl]; omega)
    refine ⟨nl2, false, ?_⟩
    have e1 : l ++ 123 :: 10 :: (tb (bytesOf p) (bytesOf ind_) (d + 1) ++ (sl s ni nj ++ (58 :: 32 :: (t.lb s (bytesOf p) (bytesOf ind_) (d + 1) ++ (r.lbR s (bytesOf p) (bytesOf ind_) (d + 1) ++ 10 :: (tb (bytesOf p) (bytesOf ind_) d ++ [125])))))) = l ++ [123] ++ [10] ++ tb (bytesOf p) (bytesOf ind_) (d + 1) ++ sl s ni nj ++ [58] ++ [32] ++ t.lb s (bytesOf p) (bytesOf ind_) (d + 1) ++ (r.lbR s (bytesOf p) (bytesOf ind_) (d + 1) ++ 10 :: (tb (bytesOf p) (bytesOf ind_) d ++ [125])) := by simp
    rw [e1]
    exact any_obj hn hi h1 (obj_f0 (obj_j1 hn hi (by omega) (ol_blk hn (obj_enter0 hn (by omega) hs.2.2.1 (j6_new (by omega) (by omega) (by omega) (j7_obj hn hs (by simp only [List.length_append, List.length_cons, List.length_nil]; omega) (j8_go (m := 0) (by rw [e5.out]; exact hany) (.inl rfl) (by omega) (by omega) hc)))) _ (i + 1) rfl h3)))
theorem arrCons_out (hn : s.size ≤ 4096) {i j : Nat} {t : T} {r : Es} (h : T.wf s (.arr i j (.cons t r))) (ht : LaidOut s p ind_ t) (hR : RestOut s p ind_ r) : LaidOut s p ind_ (.arr i j (.cons t r)) := by
  intro d l nl hterm hd hl
  have hjs := (T.wf_ok hn _ h).2.2
  rw [T.wf] at h
  obtain ⟨h1, h2, p0, h3, h4⟩ := h
  have hi := bt_in h1 (by decide)
  simp only [T.i, T.j] at hd hjs ⊢
  rcases h4 with ⟨_, _, h6⟩ | h5
  · exact absurd h6 (by simp)
  · rw [Es.wf] at h5
    obtain ⟨hwf, hti, hrest⟩ := h5
    have hrest : r.rest s t.j j := hrest
    have hwo := T.wf_ok hn t hwf
    obtain ⟨b1, b2, b3⟩ := T.start hwf
    rw [hti] at b1 b2
    have h31 := h3.1
    have hj := Es.rest_lt hn hrest
    rw [T.lb] at hl ⊢
    simp only [List.length_cons, List.length_append, List.length_nil] at hl
    have e5 := tab1 (d := d) (by omega)
    obtain ⟨nl1, ok1, ha⟩ := ht (d + 1) (l ++ [91] ++ [10] ++ tb (bytesOf p) (bytesOf ind_) (d + 1)) (((l ++ [91]).length : Nat) : Int) (Es.rest_term hrest) (by omega) (by simp only [List.length_append, List.length_cons, List.length_nil]; omega)
    rw [hti] at ha
    have hany := any_f ha
    obtain ⟨nl2, hc⟩ := hR t.j j 1 d (l ++ [91] ++ [10] ++ tb (bytesOf p) (bytesOf ind_) (d + 1) ++ t.lb s (bytesOf p) (bytesOf ind_) (d + 1)) nl1 (NB.app (T.lb_nb hn t _ hwf)) (by omega) (by omega) hrest (by omega) (by simp only [List.length_append, List.length_cons, List.length_nil]; omega)
    refine ⟨nl2, true, ?_⟩
    have e1 : l ++ 91 :: 10 :: (tb (bytesOf p) (bytesOf ind_) (d + 1) ++ (t.lb s (bytesOf p) (bytesOf ind_) (d + 1) ++ (r.lbR s (bytesOf p) (bytesOf ind_) (d + 1) ++ 10 :: (tb (bytesOf p) (bytesOf ind_) d ++ [93])))) = l ++ [91] ++ [10] ++ tb (bytesOf p) (bytesOf ind_) (d + 1) ++ t.lb s (bytesOf p) (bytesOf ind_) (d + 1) ++ (r.lbR s (bytesOf p) (bytesOf ind_) (d + 1) ++ 10 :: (tb (bytesOf p) (bytesOf ind_) d ++ [93])) := by simp
    rw [e1]
    exact any_arr hn hi h1 (obj_f0 (obj_j1 hn hi (by omega) (ol_blk hn (arr_enter0 hn (by omega) b1 b2 (j6_new (by omega) (by omega) (by omega) (j7_arr (j8_go (m := 0) (by rw [e5.out]; exact hany) (.inl rfl) (by omega) (by omega) hc)))) _ (i + 1) rfl h3)))
mutual
theorem T.pm (hn : s.size ≤ 4096) : ∀ t : T, t.wf s → LaidOut s p ind_ t
  | .leaf kd i j, h => leaf_out hn h
  | .obj i j .nil, h => objNil_out hn h
  | .arr i j .nil, h => arrNil_out hn h
  | .arr i j (.cons t r), h => by
    have h0 := h
    rw [T.wf] at h0
    obtain ⟨_, _, p0, _, h4⟩ := h0
    rcases h4 with ⟨_, _, h6⟩ | h5
    · exact absurd h6 (by simp)
    · rw [Es.wf] at h5
      obtain ⟨hwf, hti, q, hq, h7⟩ := h5
      refine arrCons_out hn h (T.pm hn t hwf) ?_
      rcases h7 with ⟨_, h8, _⟩ | ⟨_, p', _, h8⟩
      · subst h8; exact restOut_nil hn
      · exact Es.pm hn r p' j h8
  | .obj i j (.cons ni nj t r), h => by
    have h0 := h
    rw [T.wf] at h0
    obtain ⟨_, _, p0, _, h4⟩ := h0
    rcases h4 with ⟨_, _, h6⟩ | h5
    · exact absurd h6 (by simp)
    · rw [Ms.wf] at h5
      obtain ⟨_, _, c, _, _, v, _, hwf, hti, q, hq, h7⟩ := h5
      refine objCons_out hn h (T.pm hn t hwf) ?_
      rcases h7 with ⟨_, h8, _⟩ | ⟨_, p', _, h8⟩
      · subst h8; exact restOutM_nil hn
      · exact Ms.pm hn r p' j h8
theorem Es.pm (hn : s.size ≤ 4096) : ∀ (r : Es) (p0 j : Nat), r.wf s p0 j → RestOut s p ind_ r
  | .nil, p0, j, h => restOut_nil hn
  | .cons t r, p0, j, h => by
    rw [Es.wf] at h
    obtain ⟨hwf, hti, q, hq, h7⟩ := h
    refine restOut_cons hn (T.pm hn t hwf) ?_
    rcases h7 with ⟨_, h8, _⟩ | ⟨_, p', _, h8⟩
    · subst h8; exact restOut_nil hn
    · exact Es.pm hn r p' j h8
theorem Ms.pm (hn : s.size ≤ 4096) : ∀ (r : Ms) (p0 j : Nat), r.wf s p0 j → RestOutM s p ind_ r
  | .nil, p0, j, h => restOutM_nil hn
  | .cons ni nj t r, p0, j, h => by
    rw [Ms.wf] at h
    obtain ⟨_, _, c, _, _, v, _, hwf, hti, q, hq, h7⟩ := h
    refine restOutM_cons hn (T.pm hn t hwf) ?_
    rcases h7 with ⟨_, h8, _⟩ | ⟨_, p', _, h8⟩
    · subst h8; exact restOutM_nil hn
    · exact Ms.pm hn r p' j h8
end
end
end Go.Proofs.Ytffdebhaclkhjaa.PFnPrWholeDefault
