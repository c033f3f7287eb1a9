/- What the package's printer puts down, laid out, for a syntax tree that stands in the text. No condition but that the text has at most 4096 bytes and that what is written stays below 2^46 bytes, stated in each lemma. -/
import Derived.Test.YtffdebhaclkhjaaPr7
set_option linter.unusedVariables false
set_option linter.unusedSimpArgs false
namespace Go.Proofs.Ytffdebhaclkhjaa.PFnPrWholeDefault
open Go.RowKit Go.Proofs.YtffdebhaclkhjaaW.PrintWords
def LaidOut (s : ByteArray) (t : T) : Prop := ∀ (d nl : Nat) (l : List Int), nl ≤ l.length → ¬ numOK (bt s (t.j : Int)) → d + (t.j - t.i) ≤ 4097 → l.length + (t.body s d (l.length - nl)).length < 70368744160000 →
  ∃ nl' ok, Ev (fun k => pretty_appendPrettyAny.l0 k l (bytesOf s) (t.i : Int) true 80 (⟨#[]⟩ : ByteArray) (⟨#[32, 32]⟩ : ByteArray) false (d : Int) (nl : Int) (-1)) (l ++ t.body s d (l.length - nl), (t.j : Int), nl', ok)
def RestOut (s : ByteArray) (r : Es) : Prop := ∀ (e j n d : Nat) (l : List Int) (nl : Int), NB l → 0 < n → n + (s.size - e) ≤ 4097 → r.rest s e j → d + 1 + (j - e) ≤ 4097 → l.length + (r.bodyR s (d + 1) ++ (10 :: (ind d ++ [93]))).length < 70368744160000 →
  ∃ nl', Ev (fun k => pretty_appendPrettyObject.l0 k l (bytesOf s) (e : Int) 91 93 true 80 (⟨#[]⟩ : ByteArray) (⟨#[32, 32]⟩ : ByteArray) false (d : Int) nl (-1) (n : Int) false) (l ++ (r.bodyR s (d + 1) ++ (10 :: (ind d ++ [93]))), (j : Int), nl', true)
def RestOutM (s : ByteArray) (r : Ms) : Prop := ∀ (e j n d : Nat) (l : List Int) (nl : Int), NB l → 0 < n → n + (s.size - e) ≤ 4097 → r.rest s e j → d + 1 + (j - e) ≤ 4097 → l.length + (r.bodyR s (d + 1) ++ (10 :: (ind d ++ [125]))).length < 70368744160000 →
  ∃ nl', Ev (fun k => pretty_appendPrettyObject.l0 k l (bytesOf s) (e : Int) 123 125 true 80 (⟨#[]⟩ : ByteArray) (⟨#[32, 32]⟩ : ByteArray) false (d : Int) nl (-1) (n : Int) false) (l ++ (r.bodyR s (d + 1) ++ (10 :: (ind d ++ [125]))), (j : Int), nl', false)
theorem tab1 {d : Nat} (h : d ≤ 8192) : Aside0 (wrap64 ((d : Int) + 1) = ((d + 1 : Nat) : Int)) := ⟨w64 (by omega) (by omega)⟩
theorem restOut_nil {s : ByteArray} (hn : s.size ≤ 4096) : RestOut s .nil := by
  intro e j n d l nl hnb hn0 hnn hr hd hl
  obtain ⟨q, h1, h2⟩ := hr
  rw [Es.bodyR] at hl ⊢
  rw [List.nil_append] at hl ⊢
  simp only [List.length_cons, List.length_append, List.length_nil, ind_length] at hl
  obtain ⟨a, c, rfl, hc⟩ := hnb
  simp only [List.length_cons, List.length_append, List.length_nil] at hl
  rcases h2 with ⟨h3, _, h4⟩ | ⟨_, p', _, h⟩
  · subst h4
    have hq := bt_in h3 (by decide)
    exact ⟨_, ol_blk hn (ol_closeN hn hq (by omega) (by omega) h3 hc (by omega) (by omega) (by omega)) _ e rfl h1⟩
  · rw [Es.wf] at h; exact h.elim
theorem restOutM_nil {s : ByteArray} (hn : s.size ≤ 4096) : RestOutM s .nil := by
  intro e j n d l nl hnb hn0 hnn hr hd hl
  obtain ⟨q, h1, h2⟩ := hr
  rw [Ms.bodyR] at hl ⊢
  rw [List.nil_append] at hl ⊢
  simp only [List.length_cons, List.length_append, List.length_nil, ind_length] at hl
  obtain ⟨a, c, rfl, hc⟩ := hnb
  simp only [List.length_cons, List.length_append, List.length_nil] at hl
  rcases h2 with ⟨h3, _, h4⟩ | ⟨_, p', _, h⟩
  · subst h4
    have hq := bt_in h3 (by decide)
    exact ⟨_, ol_blk hn (ol_closeN hn hq (by omega) (by omega) h3 hc (by omega) (by omega) (by omega)) _ e rfl h1⟩
  · rw [Ms.wf] at h; exact h.elim
theorem restOut_cons {s : ByteArray} (hn : s.size ≤ 4096) {t : T} {r : Es} (ht : LaidOut s t) (hR : RestOut s r) : RestOut s (.cons t r) := by
  intro e j n d l nl hnb hn0 hnn hr hd hl
  obtain ⟨q, h1, h2⟩ := hr
  rcases h2 with ⟨_, h, _⟩ | ⟨h3, p', h4, h5⟩
  · exact absurd h (by simp)
  · have hw := Es.wf_ok hn _ _ _ h5
    rw [Es.wf] at h5
    obtain ⟨hwf, hti, hrest⟩ := h5
    have hrest : r.rest s t.j j := hrest
    have hq := bt_in h3 (by decide)
    have hwo := T.wf_ok hn t hwf
    have h11 := h1.1
    have h41 := h4.1
    have hj : t.j < j := by
      obtain ⟨q2, hq2, hq3⟩ := hrest
      have := hq2.1
      rcases hq3 with ⟨_, _, h⟩ | ⟨_, p2, hp2, h⟩
      · omega
      · have := (Es.wf_ok hn _ _ _ h).2.1
        have := hp2.1
        omega
    rw [Es.bodyR] at hl ⊢
    simp only [List.length_cons, List.length_append, List.length_nil, ind_length] at hl
    have e5 := tab1 (d := d) (by omega)
    have hcol : (l ++ [44] ++ [10] ++ ind (d + 1)).length - (l ++ [44] ++ [32]).length = 2 * (d + 1) := by simp only [List.length_append, List.length_cons, List.length_nil, ind_length]; omega
    obtain ⟨nl1, ok1, ha⟩ := ht (d + 1) (l ++ [44] ++ [32]).length (l ++ [44] ++ [10] ++ ind (d + 1)) (by simp only [List.length_append, List.length_cons, List.length_nil, ind_length]; omega) (Es.rest_term hrest) (by omega) (by rw [hcol]; simp only [List.length_append, List.length_cons, List.length_nil, ind_length]; omega)
    rw [hti, hcol] at ha
    have hany := any_f (any_pass hn hq (.inl h3) (any_blk hn ha _ (q + 1) rfl h4))
    obtain ⟨nl2, hc⟩ := hR t.j j (n + 1) d (l ++ [44] ++ [10] ++ ind (d + 1) ++ t.body s (d + 1) (2 * (d + 1))) nl1 (NB.app (T.body_nb hn t _ _ hwf)) (by omega) (by omega) hrest (by omega) (by simp only [List.length_append, List.length_cons, List.length_nil, ind_length]; omega)
    refine ⟨nl2, ?_⟩
    have e1 : l ++ (44 :: 10 :: (ind (d + 1) ++ (t.body s (d + 1) (2 * (d + 1)) ++ r.bodyR s (d + 1))) ++ 10 :: (ind d ++ [93])) = l ++ [44] ++ [10] ++ ind (d + 1) ++ t.body s (d + 1) (2 * (d + 1)) ++ (r.bodyR s (d + 1) ++ 10 :: (ind d ++ [93])) := by simp
    rw [e1]
    exact ol_blk hn (arr_enterN hn hq (by omega) (by omega) (by omega) (by omega) (j6_over (by omega) (by simp only [List.length_append, List.length_cons, List.length_nil]; omega) (j7_arr (j8_go (by rw [e5.out]; exact hany) (.inl rfl) (by omega) (by omega) hc)))) _ e rfl h1
theorem restOutM_cons {s : ByteArray} (hn : s.size ≤ 4096) {ni nj : Nat} {t : T} {r : Ms} (ht : LaidOut s t) (hR : RestOutM s r) : RestOutM s (.cons ni nj t r) := by
  intro e j n d l nl hnb hn0 hnn hr hd hl
  obtain ⟨q, h1, h2⟩ := hr
  rcases h2 with ⟨_, h, _⟩ | ⟨h3, p', h4, h5⟩
  · exact absurd h (by simp)
  · rw [Ms.wf] at h5
    obtain ⟨rfl, hs, c, hc1, hc2, v, hv, hwf, hti, hrest⟩ := h5
    have hrest : r.rest s t.j j := hrest
    have hq := bt_in h3 (by decide)
    have hcq := bt_in hc2 (by decide)
    have hwo := T.wf_ok hn t hwf
    have h11 := h1.1
    have h41 := h4.1
    have hc11 := hc1.1
    have hv1 := hv.1
    have hs1 := hs.1
    have hs2 := hs.2.1
    have hj : t.j < j := by
      obtain ⟨q2, hq2, hq3⟩ := hrest
      have := hq2.1
      rcases hq3 with ⟨_, _, h⟩ | ⟨_, p2, hp2, h⟩
      · omega
      · have := (Ms.wf_ok hn _ _ _ h).2.1
        have := hp2.1
        omega
    have hsl := sl_length (s := s) (i := ni) hs2
    rw [Ms.bodyR] at hl ⊢
    simp only [List.length_cons, List.length_append, List.length_nil, ind_length, hsl] at hl
    have e5 := tab1 (d := d) (by omega)
    have hcol : (l ++ [44] ++ [10] ++ ind (d + 1) ++ sl s ni nj ++ [58] ++ [32]).length - (l ++ [44]).length = 2 * (d + 1) + (nj - ni) + 3 := by simp only [List.length_append, List.length_cons, List.length_nil, ind_length, hsl]; omega
    obtain ⟨nl1, ok1, ha⟩ := ht (d + 1) (l ++ [44]).length (l ++ [44] ++ [10] ++ ind (d + 1) ++ sl s ni nj ++ [58] ++ [32]) (by simp only [List.length_append, List.length_cons, List.length_nil, ind_length]; omega) (Ms.rest_term hrest) (by omega) (by rw [hcol]; simp only [List.length_append, List.length_cons, List.length_nil, ind_length, hsl]; omega)
    rw [hti, hcol] at ha
    have hany := any_f (any_blk hn (any_pass hn hcq (.inr hc2) (any_blk hn ha _ (c + 1) rfl hv)) _ nj rfl hc1)
    obtain ⟨nl2, hc⟩ := hR t.j j (n + 1) d (l ++ [44] ++ [10] ++ ind (d + 1) ++ sl s ni nj ++ [58] ++ [32] ++ t.body s (d + 1) (2 * (d + 1) + (nj - ni) + 3)) nl1 (NB.app (T.body_nb hn t _ _ hwf)) (by omega) (by omega) hrest (by omega) (by simp only [List.length_append, List.length_cons, List.length_nil, ind_length, hsl]; omega)
    refine ⟨nl2, ?_⟩
    have e1 : l ++ (44 :: 10 :: (ind (d + 1) ++ (sl s ni nj ++ (58 :: 32 :: (t.body s (d + 1) (2 * (d + 1) + (nj - ni) + 3) ++ r.bodyR s (d + 1))))) ++ 10 :: (ind d ++ [125])) = l ++ [44] ++ [10] ++ ind (d + 1) ++ sl s ni nj ++ [58] ++ [32] ++ t.body s (d + 1) (2 * (d + 1) + (nj - ni) + 3) ++ (r.bodyR s (d + 1) ++ 10 :: (ind d ++ [125])) := by simp
    rw [e1]
    exact ol_blk hn (obj_pass hn hq h3 (ol_blk hn (obj_enterN hn (by omega) hs.2.2.1 (by omega) (by omega) (j6_new (by omega) (by omega) (by omega) (j7_obj hn hs (by simp only [List.length_append, List.length_cons, List.length_nil, ind_length]; omega) (j8_go (by rw [e5.out]; exact hany) (.inl rfl) (by omega) (by omega) hc)))) _ (q + 1) rfl h4)) _ e rfl h1
/-- An array's own way: the one line is tried, where there is room. -/
theorem arr_f {s : ByteArray} {i j nl : Nat} {es : Es} {l B : List Int} {d : Int} (hnl : nl ≤ l.length) (hal : ArrLine s i j es) (hsm : (T.line s (.arr i j es)).length ≤ 8194) (hl : l.length < 70368744160000)
    (h1 : ¬ ((l.length - nl) + 3 < 80 ∧ es.has = false ∧ (T.line s (.arr i j es)).length + (l.length - nl) ≤ 80) → ∃ nl' ok, Ev (fun k => pretty_appendPrettyObject.j1 k l (bytesOf s) (i : Int) 91 93 true 80 (⟨#[]⟩ : ByteArray) (⟨#[32, 32]⟩ : ByteArray) false d (nl : Int) (-1)) (l ++ B, (j : Int), nl', ok))
    (h2 : ((l.length - nl) + 3 < 80 ∧ es.has = false ∧ (T.line s (.arr i j es)).length + (l.length - nl) ≤ 80) → B = T.line s (.arr i j es)) :
    ∃ nl' ok, Ev (fun k => pretty_appendPrettyObject.f k l (bytesOf s) (i : Int) 91 93 true 80 (⟨#[]⟩ : ByteArray) (⟨#[32, 32]⟩ : ByteArray) d (nl : Int) (-1)) (l ++ B, (j : Int), nl', ok) := by
  have e1 : Aside0 (wrap64 (80 - wrap64 ((l.length : Int) - (nl : Int))) = 80 - ((l.length - nl : Nat) : Int)) := ⟨by rw [w64 (x := (l.length : Int) - (nl : Int)) (by omega) (by omega), w64 (by omega) (by omega)]; omega⟩
  have f0 : ∀ {r}, Ev (fun k => pretty_appendPrettyObject.j0 k l (bytesOf s) (i : Int) 91 93 true 80 (⟨#[]⟩ : ByteArray) (⟨#[32, 32]⟩ : ByteArray) false d (nl : Int) (-1) true) r → Ev (fun k => pretty_appendPrettyObject.f k l (bytesOf s) (i : Int) 91 93 true 80 (⟨#[]⟩ : ByteArray) (⟨#[32, 32]⟩ : ByteArray) d (nl : Int) (-1)) r := by
    intro r h
    refine Ev.step (fun k => ?_) h
    rw [pretty_appendPrettyObject.f]
    exact (if_pos (by omega)).trans ((if_pos rfl).trans (if_pos rfl))
  by_cases hroom : 80 - ((l.length - nl : Nat) : Int) > 3
  · obtain ⟨l', i', ha, hb⟩ := hal l (⟨#[]⟩ : ByteArray) (⟨#[]⟩ : ByteArray) 0 0 (80 - ((l.length - nl : Nat) : Int)) (by omega) (by omega)
    have ftake : (l ++ l').take (((l.length : Nat) : Int)).toNat = l := by rw [Int.toNat_natCast, List.take_left]
    have fle : ((l.length : Nat) : Int) ≤ ((l ++ l').length : Int) := by rw [List.length_append]; omega
    have f1 : ∀ {r}, Ev (fun k => (if (!es.has) = true then (if (wrap64 (((l ++ l').length : Int) - (l.length : Int))) ≤ (80 - ((l.length - nl : Nat) : Int)) then (some (l ++ l', i', (nl : Int), true)) else (if 0 ≤ (l.length : Int) then (if (l.length : Int) ≤ ((l ++ l').length : Int) then (pretty_appendPrettyObject.j1 k ((l ++ l').take ((l.length : Int) : Int).toNat) (bytesOf s) (i : Int) 91 93 true 80 (⟨#[]⟩ : ByteArray) (⟨#[32, 32]⟩ : ByteArray) false d (nl : Int) (-1)) else (none)) else (none))) else (if 0 ≤ (l.length : Int) then (if (l.length : Int) ≤ ((l ++ l').length : Int) then (pretty_appendPrettyObject.j1 k ((l ++ l').take ((l.length : Int) : Int).toNat) (bytesOf s) (i : Int) 91 93 true 80 (⟨#[]⟩ : ByteArray) (⟨#[32, 32]⟩ : ByteArray) false d (nl : Int) (-1)) else (none)) else (none)))) r → Ev (fun k => pretty_appendPrettyObject.f k l (bytesOf s) (i : Int) 91 93 true 80 (⟨#[]⟩ : ByteArray) (⟨#[32, 32]⟩ : ByteArray) d (nl : Int) (-1)) r := by
      intro r h
      refine f0 (Ev.step (fun k => ?_) (Ev.bind (f := fun k (y : List Int × Int × Int × Bool) => if y.2.2.2 = true then (if (wrap64 ((y.1.length : Int) - (l.length : Int))) ≤ (80 - ((l.length - nl : Nat) : Int)) then (some (y.1, y.2.1, (nl : Int), true)) else (if 0 ≤ (l.length : Int) then (if (l.length : Int) ≤ (y.1.length : Int) then (pretty_appendPrettyObject.j1 k (y.1.take ((l.length : Int) : Int).toNat) (bytesOf s) (i : Int) 91 93 true 80 (⟨#[]⟩ : ByteArray) (⟨#[32, 32]⟩ : ByteArray) false d (nl : Int) (-1)) else (none)) else (none))) else (if 0 ≤ (l.length : Int) then (if (l.length : Int) ≤ (y.1.length : Int) then (pretty_appendPrettyObject.j1 k (y.1.take ((l.length : Int) : Int).toNat) (bytesOf s) (i : Int) 91 93 true 80 (⟨#[]⟩ : ByteArray) (⟨#[32, 32]⟩ : ByteArray) false d (nl : Int) (-1)) else (none)) else (none))) ha h))
      rw [pretty_appendPrettyObject.j0, e1.out]
      exact (if_neg Bool.false_ne_true).trans ((if_pos rfl).trans (if_pos hroom))
    cases hh : es.has with
    | true =>
      obtain ⟨nl', ok, h3⟩ := h1 (by rw [hh]; simp)
      refine ⟨nl', ok, f1 (Ev.congr (fun k => ?_) h3)⟩
      rw [hh, ftake]
      exact (if_neg (by decide)).trans ((if_pos (by omega)).trans (if_pos fle))
    | false =>
      obtain ⟨rfl, rfl⟩ := hb hh
      have e2 : Aside0 (wrap64 (((l ++ T.line s (.arr i j es)).length : Int) - (l.length : Int)) = ((T.line s (.arr i j es)).length : Int)) := ⟨by rw [List.length_append, w64 (by omega) (by omega)]; omega⟩
      by_cases hfit : (T.line s (.arr i j es)).length + (l.length - nl) ≤ 80
      · rw [h2 ⟨by omega, hh, hfit⟩]
        refine ⟨(nl : Int), true, f1 (Ev.congr (fun k => ?_) (Ev.now _))⟩
        rw [hh, e2.out]
        exact (if_pos rfl).trans (if_pos (by omega))
      · obtain ⟨nl', ok, h3⟩ := h1 (fun h => hfit h.2.2)
        refine ⟨nl', ok, f1 (Ev.congr (fun k => ?_) h3)⟩
        rw [hh, ftake, e2.out]
        exact (if_pos rfl).trans ((if_neg (by omega)).trans ((if_pos (by omega)).trans (if_pos fle)))
  · obtain ⟨nl', ok, h3⟩ := h1 (fun h => hroom (by omega))
    refine ⟨nl', ok, f0 (Ev.step (fun k => ?_) h3)⟩
    rw [pretty_appendPrettyObject.j0, e1.out]
    exact (if_neg Bool.false_ne_true).trans ((if_pos rfl).trans (if_neg hroom))
theorem leaf_out {s : ByteArray} (hn : s.size ≤ 4096) {kd : Int} {i j : Nat} (h : T.wf s (.leaf kd i j)) : LaidOut s (.leaf kd i j) := by
  intro d nl l hnl hterm hd hl
  rw [T.wf] at h
  rw [T.body, sl_length h.2.1] at hl
  rw [T.body]
  exact ⟨_, _, any_leaf hn h.1 h.2.1 h.2.2 hterm (by omega)⟩
theorem obj_f {s : ByteArray} {i : Int} {l : List Int} {d nl : Int} {r : List Int × Int × Int × Bool} (h : Ev (fun k => pretty_appendPrettyObject.j1 k l (bytesOf s) i 123 125 true 80 (⟨#[]⟩ : ByteArray) (⟨#[32, 32]⟩ : ByteArray) false d nl (-1)) r) :
    Ev (fun k => pretty_appendPrettyObject.f k l (bytesOf s) i 123 125 true 80 (⟨#[]⟩ : ByteArray) (⟨#[32, 32]⟩ : ByteArray) d nl (-1)) r := by
  refine Ev.step (f := fun k => pretty_appendPrettyObject.j0 k l (bytesOf s) i 123 125 true 80 (⟨#[]⟩ : ByteArray) (⟨#[32, 32]⟩ : ByteArray) false d nl (-1) false) (fun k => ?_) (Ev.step (fun k => ?_) h)
  · rw [pretty_appendPrettyObject.f]
    exact (if_pos (by omega)).trans ((if_pos rfl).trans (if_neg (by omega)))
  · rw [pretty_appendPrettyObject.j0]
    exact (if_neg Bool.false_ne_true).trans ((if_neg Bool.false_ne_true).trans (if_pos rfl))
theorem objNil_out {s : ByteArray} (hn : s.size ≤ 4096) {i j : Nat} (h : T.wf s (.obj i j .nil)) : LaidOut s (.obj i j .nil) := by
  intro d nl l hnl hterm hd hl
  rw [T.wf] at h
  obtain ⟨h1, h2, p0, h3, h4⟩ := h
  have hi := bt_in h1 (by decide)
  rw [T.body] at hl ⊢
  simp only [List.length_cons, List.length_nil] at hl
  rcases h4 with ⟨h5, h6, _⟩ | h5
  · subst h6
    have hq := bt_in h5 (by decide)
    have e1 : l ++ [123, 125] = l ++ [123] ++ [125] := by simp
    rw [e1]
    exact ⟨_, _, any_obj hn hi h1 (obj_f (obj_j1 hn hi (by omega) (ol_blk hn (ol_close0 hn hq (by omega) h5 (by omega)) _ (i + 1) rfl h3)))⟩
  · rw [Ms.wf] at h5; exact h5.elim
theorem objCons_out {s : ByteArray} (hn : s.size ≤ 4096) {i j ni nj : Nat} {t : T} {r : Ms} (h : T.wf s (.obj i j (.cons ni nj t r))) (ht : LaidOut s t) (hR : RestOutM s r) : LaidOut s (.obj i j (.cons ni nj t r)) := by
  intro d nl l hnl hterm hd hl
  have hjs := (T.wf_ok hn _ h).2.2.1
  rw [T.wf] at h
  obtain ⟨h1, h2, p0, h3, h4⟩ := h
  have hi := bt_in h1 (by decide)
  simp only [T.i, T.j] at hd hjs ⊢
  rcases h4 with ⟨_, _, h6⟩ | h5
  · exact absurd h6 (by simp)
  · rw [Ms.wf] at h5
    obtain ⟨rfl, hs, c, hc1, hc2, v, hv, hwf, hti, hrest⟩ := h5
    have hrest : r.rest s t.j j := hrest
    have hcq := bt_in hc2 (by decide)
    have hwo := T.wf_ok hn t hwf
    have h31 := h3.1
    have hc11 := hc1.1
    have hv1 := hv.1
    have hs1 := hs.1
    have hs2 := hs.2.1
    have hj : t.j < j := by
      obtain ⟨q2, hq2, hq3⟩ := hrest
      have := hq2.1
      rcases hq3 with ⟨_, _, h⟩ | ⟨_, p2, hp2, h⟩
      · omega
      · have := (Ms.wf_ok hn _ _ _ h).2.1
        have := hp2.1
        omega
    have hsl := sl_length (s := s) (i := ni) hs2
    rw [T.body] at hl ⊢
    simp only [List.length_cons, List.length_append, List.length_nil, ind_length, hsl] at hl
    have e5 := tab1 (d := d) (by omega)
    have hcol : (l ++ [123] ++ [10] ++ ind (d + 1) ++ sl s ni nj ++ [58] ++ [32]).length - (l ++ [123]).length = 2 * (d + 1) + (nj - ni) + 3 := by simp only [List.length_append, List.length_cons, List.length_nil, ind_length, hsl]; omega
    obtain ⟨nl1, ok1, ha⟩ := ht (d + 1) (l ++ [123]).length (l ++ [123] ++ [10] ++ ind (d + 1) ++ sl s ni nj ++ [58] ++ [32]) (by simp only [List.length_append, List.length_cons, List.length_nil, ind_length]; omega) (Ms.rest_term hrest) (by omega) (by rw [hcol]; simp only [List.length_append, List.length_cons, List.length_nil, ind_length, hsl]; omega)
    rw [hti, hcol] at ha
    have hany := any_f (any_blk hn (any_pass hn hcq (.inr hc2) (any_blk hn ha _ (c + 1) rfl hv)) _ nj rfl hc1)
    obtain ⟨nl2, hc⟩ := hR t.j j 1 d (l ++ [123] ++ [10] ++ ind (d + 1) ++ sl s ni nj ++ [58] ++ [32] ++ t.body s (d + 1) (2 * (d + 1) + (nj - ni) + 3)) nl1 (NB.app (T.body_nb hn t _ _ hwf)) (by omega) (by omega) hrest (by omega) (by simp only [List.length_append, List.length_cons, List.length_nil, ind_length, hsl]; omega)
    refine ⟨nl2, false, ?_⟩
    have e1 : l ++ 123 :: 10 :: (ind (d + 1) ++ (sl s ni nj ++ (58 :: 32 :: (t.body s (d + 1) (2 * (d + 1) + (nj - ni) + 3) ++ (r.bodyR s (d + 1) ++ 10 :: (ind d ++ [125])))))) = l ++ [123] ++ [10] ++ ind (d + 1) ++ sl s ni nj ++ [58] ++ [32] ++ t.body s (d + 1) (2 * (d + 1) + (nj - ni) + 3) ++ (r.bodyR s (d + 1) ++ 10 :: (ind d ++ [125])) := by simp
    rw [e1]
    exact any_obj hn hi h1 (obj_f (obj_j1 hn hi (by omega) (ol_blk hn (obj_enter0 hn (by omega) hs.2.2.1 (j6_new (by omega) (by omega) (by omega) (j7_obj hn hs (by simp only [List.length_append, List.length_cons, List.length_nil, ind_length]; omega) (j8_go (m := 0) (by rw [e5.out]; exact hany) (.inl rfl) (by omega) (by omega) hc)))) _ (i + 1) rfl h3)))
theorem arrNil_out {s : ByteArray} (hn : s.size ≤ 4096) {i j : Nat} (h : T.wf s (.arr i j .nil)) : LaidOut s (.arr i j .nil) := by
  intro d nl l hnl hterm hd hl
  have hal := Es.al hn .nil i j h
  have hline : T.line s (.arr i j .nil) = [91, 93] := by rw [T.line, Es.line]; rfl
  rw [T.wf] at h
  obtain ⟨h1, h2, p0, h3, h4⟩ := h
  have hi := bt_in h1 (by decide)
  rw [T.body] at hl ⊢
  simp only [List.length_cons, List.length_nil] at hl
  rcases h4 with ⟨h5, h6, _⟩ | h5
  · subst h6
    have hq := bt_in h5 (by decide)
    obtain ⟨nl', ok, hf⟩ := arr_f (B := [91, 93]) (d := (d : Int)) hnl hal (by rw [hline]; simp) (by omega) (fun _ => ⟨nl, true, by
      have e1 : l ++ [91, 93] = l ++ [91] ++ [93] := by simp
      rw [e1]
      exact obj_j1 hn hi (by omega) (ol_blk hn (ol_close0 hn hq (by omega) h5 (by omega)) _ (i + 1) rfl h3)⟩) (fun _ => hline.symm)
    exact ⟨nl', ok, any_arr hn hi h1 hf⟩
  · rw [Es.wf] at h5; exact h5.elim
theorem arrCons_out {s : ByteArray} (hn : s.size ≤ 4096) {i j : Nat} {t : T} {r : Es} (h : T.wf s (.arr i j (.cons t r))) (ht : LaidOut s t) (hR : RestOut s r) : LaidOut s (.arr i j (.cons t r)) := by
  intro d nl l hnl hterm hd hl
  have hal := Es.al hn (.cons t r) i j h
  have hwo0 := T.wf_ok hn _ h
  have hjs := hwo0.2.2.1
  have hline := hwo0.2.2.2
  rw [T.wf] at h
  obtain ⟨h1, h2, p0, h3, h4⟩ := h
  have hi := bt_in h1 (by decide)
  simp only [T.i, T.j] at hd hjs hline ⊢
  rcases h4 with ⟨_, _, h6⟩ | h5
  · exact absurd h6 (by simp)
  · rw [Es.wf] at h5
    obtain ⟨hwf, hti, hrest⟩ := h5
    have hrest : r.rest s t.j j := hrest
    have hwo := T.wf_ok hn t hwf
    obtain ⟨b1, b2, b3⟩ := T.start hwf
    rw [hti] at b1 b2
    have h31 := h3.1
    have hj : t.j < j := by
      obtain ⟨q2, hq2, hq3⟩ := hrest
      have := hq2.1
      rcases hq3 with ⟨_, _, h⟩ | ⟨_, p2, hp2, h⟩
      · omega
      · have := (Es.wf_ok hn _ _ _ h).2.1
        have := hp2.1
        omega
    rw [T.body] at hl ⊢
    have e5 := tab1 (d := d) (by omega)
    obtain ⟨nl', ok, hf⟩ := arr_f (B := if (l.length - nl) + 3 < 80 ∧ (t.has || r.has) = false ∧ (T.line s (.arr i j (.cons t r))).length + (l.length - nl) ≤ 80 then T.line s (.arr i j (.cons t r)) else 91 :: 10 :: (ind (d + 1) ++ (t.body s (d + 1) (2 * (d + 1) + 1) ++ (r.bodyR s (d + 1) ++ (10 :: (ind d ++ [93])))))) (d := (d : Int)) hnl hal (by omega) (by omega) (fun hno => by
      rw [Es.has] at hno
      rw [if_neg hno] at hl ⊢
      simp only [List.length_cons, List.length_append, List.length_nil, ind_length] at hl
      have hcol : (l ++ [91] ++ [10] ++ ind (d + 1)).length - (l ++ [91]).length = 2 * (d + 1) + 1 := by simp only [List.length_append, List.length_cons, List.length_nil, ind_length]; omega
      obtain ⟨nl1, ok1, ha⟩ := ht (d + 1) (l ++ [91]).length (l ++ [91] ++ [10] ++ ind (d + 1)) (by simp only [List.length_append, List.length_cons, List.length_nil, ind_length]; omega) (Es.rest_term hrest) (by omega) (by rw [hcol]; simp only [List.length_append, List.length_cons, List.length_nil, ind_length]; omega)
      rw [hti, hcol] at ha
      have hany := any_f ha
      obtain ⟨nl2, hc⟩ := hR t.j j 1 d (l ++ [91] ++ [10] ++ ind (d + 1) ++ t.body s (d + 1) (2 * (d + 1) + 1)) nl1 (NB.app (T.body_nb hn t _ _ hwf)) (by omega) (by omega) hrest (by omega) (by simp only [List.length_append, List.length_cons, List.length_nil, ind_length]; omega)
      refine ⟨nl2, true, ?_⟩
      have e1 : l ++ 91 :: 10 :: (ind (d + 1) ++ (t.body s (d + 1) (2 * (d + 1) + 1) ++ (r.bodyR s (d + 1) ++ 10 :: (ind d ++ [93])))) = l ++ [91] ++ [10] ++ ind (d + 1) ++ t.body s (d + 1) (2 * (d + 1) + 1) ++ (r.bodyR s (d + 1) ++ 10 :: (ind d ++ [93])) := by simp
      rw [e1]
      exact obj_j1 hn hi (by omega) (ol_blk hn (arr_enter0 hn (by omega) b1 b2 (j6_new (by omega) (by omega) (by omega) (j7_arr (j8_go (m := 0) (by rw [e5.out]; exact hany) (.inl rfl) (by omega) (by omega) hc)))) _ (i + 1) rfl h3)) (fun hyes => by
      rw [Es.has] at hyes
      rw [if_pos hyes])
    exact ⟨nl', ok, any_arr hn hi h1 hf⟩
mutual
theorem T.pm {s : ByteArray} (hn : s.size ≤ 4096) : ∀ t : T, t.wf s → LaidOut s t
  | .leaf kd i j, h => leaf_out hn h
  | .obj i j .nil, h => objNil_out hn h
  | .arr i j .nil, h => arrNil_out hn h
  | .arr i j (.cons t r), h => by
    have h0 := h
    rw [T.wf] at h0
    obtain ⟨_, _, p0, _, h4⟩ := h0
    rcases h4 with ⟨_, _, h6⟩ | h5
    · exact absurd h6 (by simp)
    · rw [Es.wf] at h5
      obtain ⟨hwf, hti, q, hq, h7⟩ := h5
      refine arrCons_out hn h (T.pm hn t hwf) ?_
      rcases h7 with ⟨_, h8, _⟩ | ⟨_, p', _, h8⟩
      · subst h8; exact restOut_nil hn
      · exact Es.pm hn r p' j h8
  | .obj i j (.cons ni nj t r), h => by
    have h0 := h
    rw [T.wf] at h0
    obtain ⟨_, _, p0, _, h4⟩ := h0
    rcases h4 with ⟨_, _, h6⟩ | h5
    · exact absurd h6 (by simp)
    · rw [Ms.wf] at h5
      obtain ⟨_, _, c, _, _, v, _, hwf, hti, q, hq, h7⟩ := h5
      refine objCons_out hn h (T.pm hn t hwf) ?_
      rcases h7 with ⟨_, h8, _⟩ | ⟨_, p', _, h8⟩
      · subst h8; exact restOutM_nil hn
      · exact Ms.pm hn r p' j h8
theorem Es.pm {s : ByteArray} (hn : s.size ≤ 4096) : ∀ (r : Es) (p j : Nat), r.wf s p j → RestOut s r
  | .nil, p, j, h => restOut_nil hn
  | .cons t r, p, j, h => by
    rw [Es.wf] at h
    obtain ⟨hwf, hti, q, hq, h7⟩ := h
    refine restOut_cons hn (T.pm hn t hwf) ?_
    rcases h7 with ⟨_, h8, _⟩ | ⟨_, p', _, h8⟩
    · subst h8; exact restOut_nil hn
    · exact Es.pm hn r p' j h8
theorem Ms.pm {s : ByteArray} (hn : s.size ≤ 4096) : ∀ (r : Ms) (p j : Nat), r.wf s p j → RestOutM s r
  | .nil, p, j, h => restOutM_nil hn
  | .cons ni nj t r, p, j, h => by
    rw [Ms.wf] at h
    obtain ⟨_, _, c, _, _, v, _, hwf, hti, q, hq, h7⟩ := h
    refine restOutM_cons hn (T.pm hn t hwf) ?_
    rcases h7 with ⟨_, h8, _⟩ | ⟨_, p', _, h8⟩
    · subst h8; exact restOutM_nil hn
    · exact Ms.pm hn r p' j h8
end
end Go.Proofs.Ytffdebhaclkhjaa.PFnPrWholeDefault
