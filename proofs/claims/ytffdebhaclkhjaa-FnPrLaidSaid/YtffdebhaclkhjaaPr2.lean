/- Syntax trees with places, and the reader: it always ends, and where it says yes there is a tree whose place it answers. No condition but that the text has at most 4096 bytes, stated in each lemma. -/
import Derived.Test.YtffdebhaclkhjaaPr1
set_option linter.unusedVariables false
set_option linter.unusedSimpArgs false
namespace Go.Proofs.Ytffdebhaclkhjaa.PFnPrWholeDefault
open Go.RowKit Go.Proofs.YtffdebhaclkhjaaW.PrintWords
mutual
/-- A value of JSON, with its places. -/
inductive T where
  | leaf (kd : Int) (i j : Nat)
  | arr (i j : Nat) (es : Es)
  | obj (i j : Nat) (ms : Ms)
inductive Es where
  | nil
  | cons (t : T) (r : Es)
inductive Ms where
  | nil
  | cons (ni nj : Nat) (t : T) (r : Ms)
end
mutual
def T.s : T → S28
  | .leaf kd i j => ⟨kd, (i : Int), (j : Int), [], []⟩
  | .arr i j es => ⟨5, (i : Int), (j : Int), [], es.l⟩
  | .obj i j ms => ⟨6, (i : Int), (j : Int), ms.names, ms.l⟩
def Es.l : Es → List S28
  | .nil => []
  | .cons t r => t.s :: r.l
def Ms.l : Ms → List S28
  | .nil => []
  | .cons ni nj t r => t.s :: r.l
def Ms.names : Ms → List S55
  | .nil => []
  | .cons ni nj t r => ⟨(ni : Int), (nj : Int)⟩ :: r.names
end
def T.i : T → Nat
  | .leaf kd i j => i
  | .arr i j es => i
  | .obj i j ms => i
def T.j : T → Nat
  | .leaf kd i j => j
  | .arr i j es => j
  | .obj i j ms => j
def wNull : ByteArray := ⟨#[110, 117, 108, 108]⟩
def wFalse : ByteArray := ⟨#[102, 97, 108, 115, 101]⟩
def wTrue : ByteArray := ⟨#[116, 114, 117, 101]⟩
def LeafOK (s : ByteArray) (kd : Int) (i j : Nat) : Prop :=
  (kd = 4 ∧ StrTok s i j) ∨ (kd = 3 ∧ (bt s (i : Int) = 45 ∨ (48 ≤ bt s (i : Int) ∧ bt s (i : Int) ≤ 57)) ∧ ∀ q, i ≤ q → q < j → numOK (bt s (q : Int))) ∨
    (kd = 0 ∧ j = i + 4 ∧ IsWord s i wNull) ∨ (kd = 1 ∧ j = i + 5 ∧ IsWord s i wFalse) ∨ (kd = 2 ∧ j = i + 4 ∧ IsWord s i wTrue)
mutual
def T.wf (s : ByteArray) : T → Prop
  | .leaf kd i j => i < j ∧ j ≤ s.size ∧ LeafOK s kd i j
  | .arr i j es => bt s (i : Int) = 91 ∧ i < j ∧ ∃ p, Blk s (i + 1) p ∧ ((bt s (p : Int) = 93 ∧ j = p + 1 ∧ es = .nil) ∨ es.wf s p j)
  | .obj i j ms => bt s (i : Int) = 123 ∧ i < j ∧ ∃ p, Blk s (i + 1) p ∧ ((bt s (p : Int) = 125 ∧ j = p + 1 ∧ ms = .nil) ∨ ms.wf s p j)
def Es.wf (s : ByteArray) : Es → Nat → Nat → Prop
  | .nil, _, _ => False
  | .cons t r, p, j => t.wf s ∧ t.i = p ∧ ∃ q, Blk s t.j q ∧ ((bt s (q : Int) = 93 ∧ r = .nil ∧ j = q + 1) ∨ (bt s (q : Int) = 44 ∧ ∃ p', Blk s (q + 1) p' ∧ r.wf s p' j))
def Ms.wf (s : ByteArray) : Ms → Nat → Nat → Prop
  | .nil, _, _ => False
  | .cons ni nj t r, p, j => ni = p ∧ StrTok s ni nj ∧ ∃ c, Blk s nj c ∧ bt s (c : Int) = 58 ∧ ∃ v, Blk s (c + 1) v ∧ t.wf s ∧ t.i = v ∧
      ∃ q, Blk s t.j q ∧ ((bt s (q : Int) = 125 ∧ r = .nil ∧ j = q + 1) ∨ (bt s (q : Int) = 44 ∧ ∃ p', Blk s (q + 1) p' ∧ r.wf s p' j))
end
/-- What the reader of a value does at i. -/
def ValAt (s : ByteArray) (i : Nat) : Prop := ∃ kd b e nm kids ok j, Ev (fun k => spec_reader_value.f k s (i : Int)) (kd, b, e, nm, kids, ok, s, ((j : Nat) : Int)) ∧ i ≤ j ∧ j ≤ s.size ∧
  (ok = true → i < j ∧ ∃ t : T, t.wf s ∧ t.s = ⟨kd, b, e, nm, kids⟩ ∧ t.i = i ∧ t.j = j)
theorem elements_ev {s : ByteArray} (hn : s.size ≤ 4096) (i0 : Nat) (H : ∀ p, i0 < p → p ≤ s.size → ValAt s p) : ∀ m p, s.size - p ≤ m → i0 < p → p ≤ s.size → ∀ x4 : List S28, x4.length + (s.size - p) ≤ 4096 →
    ∃ l ok j, Ev (fun k => spec_reader_elements.l0 k x4 s (p : Int)) (l, ok, s, ((j : Nat) : Int)) ∧ p ≤ j ∧ j ≤ s.size ∧ (ok = true → p < j ∧ ∃ es : Es, es.wf s p j ∧ l = x4 ++ es.l) := by
  intro m
  induction m with
  | zero =>
    intro p hm hp hps x4 hx
    obtain ⟨kd, b, e, nm, kids, ok, j, hv, h1, h2, h3⟩ := H p hp hps
    cases ok with
    | true => obtain ⟨h4, _⟩ := h3 rfl; exact absurd h4 (by omega)
    | false => exact ⟨[], false, j, Ev.step (fun k => by rw [spec_reader_elements.l0]) (Ev.bind hv (Ev.now _)), h1, h2, fun h => by simp at h⟩
  | succ m ih =>
    intro p hm hp hps x4 hx
    obtain ⟨kd, b, e, nm, kids, ok, j, hv, h1, h2, h3⟩ := H p hp hps
    cases ok with
    | false => exact ⟨[], false, j, Ev.step (fun k => by rw [spec_reader_elements.l0]) (Ev.bind hv (Ev.now _)), h1, h2, fun h => by simp at h⟩
    | true =>
      obtain ⟨h4, t, ht, hts, hti, htj⟩ := h3 rfl
      obtain ⟨q, hq, _, hqe⟩ := blanks_ev hn _ j rfl h2
      have hq1 := hq.1
      have hq2 := hq.2.1
      have hy : x4 ++ [(⟨kd, b, e, nm, kids⟩ : S28)] = x4 ++ [t.s] := by rw [hts]
      by_cases c93 : bt s (q : Int) = 93
      · have hlt := bt_in c93 (by decide)
        refine ⟨x4 ++ [t.s], true, q + 1, Ev.step (fun k => by rw [spec_reader_elements.l0]) (Ev.bind hv ?_), by omega, by omega, fun _ => ⟨by omega, .cons t .nil, ?_, by simp [Es.l]⟩⟩
        · simp only [if_true, Option.bind_some]
          refine Ev.congr (fun k => by rw [if_pos (show x4.length < 1954687338268 by omega)]) (Ev.bind hqe ?_)
          simp only [take_f hn q 93 (by decide), if_pos c93, Option.bind_some, if_true, hy]
          exact Ev.now _
        · rw [Es.wf]; exact ⟨ht, hti, q, htj ▸ hq, .inl ⟨c93, rfl, rfl⟩⟩
      · by_cases c44 : bt s (q : Int) = 44
        · have hlt := bt_in c44 (by decide)
          obtain ⟨p', hp', _, hpe⟩ := blanks_ev hn _ (q + 1) rfl hlt
          have hp1 := hp'.1
          have hp2 := hp'.2.1
          obtain ⟨l, ok, j2, k1, k2, k3, k4⟩ := ih p' (by omega) (by omega) hp2 (x4 ++ [t.s]) (by simp only [List.length_append, List.length_cons, List.length_nil]; omega)
          refine ⟨l, ok, j2, Ev.step (fun k => by rw [spec_reader_elements.l0]) (Ev.bind hv ?_), by omega, k3, fun h => ?_⟩
          · simp only [if_true, Option.bind_some]
            refine Ev.congr (fun k => by rw [if_pos (show x4.length < 1954687338268 by omega)]) (Ev.bind hqe ?_)
            simp only [take_f hn q 93 (by decide), if_neg c93, Option.bind_some, take_f hn q 44 (by decide), if_pos c44, if_true, hy]
            exact Ev.bind hpe k1
          · obtain ⟨k5, es, k6, k7⟩ := k4 h
            refine ⟨by omega, .cons t es, ?_, by rw [k7, Es.l]; simp⟩
            rw [Es.wf]; exact ⟨ht, hti, q, htj ▸ hq, .inr ⟨c44, p', hp', k6⟩⟩
        · refine ⟨[], false, q, Ev.step (fun k => by rw [spec_reader_elements.l0]) (Ev.bind hv ?_), by omega, by omega, fun h => by simp at h⟩
          simp only [if_true, Option.bind_some]
          refine Ev.congr (fun k => by rw [if_pos (show x4.length < 1954687338268 by omega)]) (Ev.bind hqe ?_)
          simp only [take_f hn q 93 (by decide), if_neg c93, Option.bind_some, take_f hn q 44 (by decide), if_neg c44, hy]
          exact Ev.now _
theorem members_no {s : ByteArray} (k : Nat) (x5 : List S55) (x6 : List S28) (x7 : Int) (j : Int) : spec_reader_members.j1 (k + 1) x5 x6 x7 true s j = some ([], [], false, s, j) := by
  rw [spec_reader_members.j1, if_pos rfl]
theorem members_ev {s : ByteArray} (hn : s.size ≤ 4096) (i0 : Nat) (H : ∀ p, i0 < p → p ≤ s.size → ValAt s p) : ∀ m p, s.size - p ≤ m → i0 < p → p ≤ s.size → ∀ (x5 : List S55) (x6 : List S28), x5.length + (s.size - p) ≤ 4096 → x6.length = x5.length →
    ∃ nm l ok j, Ev (fun k => spec_reader_members.l0 k x5 x6 s (p : Int)) (nm, l, ok, s, ((j : Nat) : Int)) ∧ p ≤ j ∧ j ≤ s.size ∧ (ok = true → p < j ∧ ∃ ms : Ms, ms.wf s p j ∧ nm = x5 ++ ms.names ∧ l = x6 ++ ms.l) := by
  intro m
  induction m with
  | zero =>
    intro p hm hp hps x5 x6 hx hx6
    refine ⟨[], [], false, p, Ev.step (fun k => by rw [spec_reader_members.l0, here_f, Option.bind_some, bt_out s p (by omega), if_neg (show ¬ ((0 : Int) = 34) by decide)]) (Ev.step (fun k => members_no k x5 x6 (p : Int) (p : Int)) (Ev.now _)), Nat.le_refl _, hps, fun h => by simp at h⟩
  | succ m ih =>
    intro p hm hp hps x5 x6 hx hx6
    by_cases c34 : bt s (p : Int) = 34
    · have hplt := bt_in c34 (by decide)
      obtain ⟨qok, nj, hq, n1, n2, n3⟩ := quoted_ev hn p c34
      have st1 : ∀ k, spec_reader_members.l0 (k + 1) x5 x6 s (p : Int) = ((spec_reader_quoted.f k s (p : Int)).bind fun bt160 => (spec_reader_members.j1 k x5 x6 (p : Int) (!bt160.1) bt160.2.1 bt160.2.2)) := by
        intro k
        rw [spec_reader_members.l0, here_f, Option.bind_some, if_pos c34]
      cases qok with
      | false => exact ⟨[], [], false, nj, Ev.step st1 (Ev.bind hq (Ev.step (fun k => members_no k x5 x6 (p : Int) (nj : Int)) (Ev.now _))), by omega, n2, fun h => by simp at h⟩
      | true =>
        have hstr := n3 rfl
        obtain ⟨c, hc, _, hce⟩ := blanks_ev hn _ nj rfl n2
        have hc1 := hc.1
        have hc2 := hc.2.1
        have go : ∀ {r}, Ev (fun k => (spec_reader_take.f s (c : Int) 58).bind fun bt168 => (if bt168.1 = true then ((spec_reader_blanks.f k bt168.2.1 bt168.2.2).bind fun bt171 => ((spec_reader_value.f k bt171.1 bt171.2).bind fun bt173 => (if bt173.2.2.2.2.2.1 = true then (if x6.length < 1954687338268 then ((some (x6 ++ [(⟨bt173.1, bt173.2.1, bt173.2.2.1, bt173.2.2.2.1, bt173.2.2.2.2.1⟩ : S28)] : List (S28))).bind fun y186 => ((spec_reader_blanks.f k bt173.2.2.2.2.2.2.1 bt173.2.2.2.2.2.2.2).bind fun bt189 => ((spec_reader_take.f bt189.1 bt189.2 125).bind fun bt191 => (if bt191.1 = true then (some (x5 ++ [(⟨(p : Int), (nj : Int)⟩ : S55)], y186, true, bt191.2.1, bt191.2.2)) else ((spec_reader_take.f bt191.2.1 bt191.2.2 44).bind fun bt194 => (if bt194.1 = true then ((spec_reader_blanks.f k bt194.2.1 bt194.2.2).bind fun bt197 => (spec_reader_members.l0 k (x5 ++ [(⟨(p : Int), (nj : Int)⟩ : S55)]) y186 bt197.1 bt197.2)) else (some (([] : List (S55)), ([] : List (S28)), false, bt194.2.1, bt194.2.2)))))))) else (none)) else (some (([] : List (S55)), ([] : List (S28)), false, bt173.2.2.2.2.2.2.1, bt173.2.2.2.2.2.2.2))))) else (some (([] : List (S55)), ([] : List (S28)), false, bt168.2.1, bt168.2.2)))) r → Ev (fun k => spec_reader_members.l0 k x5 x6 s (p : Int)) r := by
          intro r h
          refine Ev.step st1 (Ev.bind hq (Ev.step (fun k => by
            show spec_reader_members.j1 (k + 1) x5 x6 (p : Int) false s (nj : Int) = _
            rw [spec_reader_members.j1, if_neg (by simp), if_pos (show x5.length < 8796093022208 by omega), Option.bind_some]) (Ev.bind hce h)))
        by_cases c58 : bt s (c : Int) = 58
        · have hclt := bt_in c58 (by decide)
          obtain ⟨v, hv, _, hve⟩ := blanks_ev hn _ (c + 1) rfl hclt
          have hv1 := hv.1
          have hv2 := hv.2.1
          obtain ⟨kd, b, e, nm, kids, ok, j, hval, h1, h2, h3⟩ := H v (by omega) hv2
          have go2 : ∀ {r}, Ev (fun k => (if ok = true then (if x6.length < 1954687338268 then ((some (x6 ++ [(⟨kd, b, e, nm, kids⟩ : S28)] : List (S28))).bind fun y186 => ((spec_reader_blanks.f k s (j : Int)).bind fun bt189 => ((spec_reader_take.f bt189.1 bt189.2 125).bind fun bt191 => (if bt191.1 = true then (some (x5 ++ [(⟨(p : Int), (nj : Int)⟩ : S55)], y186, true, bt191.2.1, bt191.2.2)) else ((spec_reader_take.f bt191.2.1 bt191.2.2 44).bind fun bt194 => (if bt194.1 = true then ((spec_reader_blanks.f k bt194.2.1 bt194.2.2).bind fun bt197 => (spec_reader_members.l0 k (x5 ++ [(⟨(p : Int), (nj : Int)⟩ : S55)]) y186 bt197.1 bt197.2)) else (some (([] : List (S55)), ([] : List (S28)), false, bt194.2.1, bt194.2.2)))))))) else (none)) else (some (([] : List (S55)), ([] : List (S28)), false, s, (j : Int))))) r → Ev (fun k => spec_reader_members.l0 k x5 x6 s (p : Int)) r := by
            intro r h
            refine go ?_
            simp only [take_f hn c 58 (by decide), if_pos c58, Option.bind_some, if_true]
            exact Ev.bind hve (Ev.bind hval h)
          cases ok with
          | false => exact ⟨[], [], false, j, go2 (Ev.now _), by omega, h2, fun h => by simp at h⟩
          | true =>
            obtain ⟨h4, t, ht, hts, hti, htj⟩ := h3 rfl
            obtain ⟨q, hq, _, hqe⟩ := blanks_ev hn _ j rfl h2
            have hq1 := hq.1
            have hq2 := hq.2.1
            have go3 : ∀ {r}, Ev (fun k => (spec_reader_take.f s (q : Int) 125).bind fun bt191 => (if bt191.1 = true then (some (x5 ++ [(⟨(p : Int), (nj : Int)⟩ : S55)], x6 ++ [t.s], true, bt191.2.1, bt191.2.2)) else ((spec_reader_take.f bt191.2.1 bt191.2.2 44).bind fun bt194 => (if bt194.1 = true then ((spec_reader_blanks.f k bt194.2.1 bt194.2.2).bind fun bt197 => (spec_reader_members.l0 k (x5 ++ [(⟨(p : Int), (nj : Int)⟩ : S55)]) (x6 ++ [t.s]) bt197.1 bt197.2)) else (some (([] : List (S55)), ([] : List (S28)), false, bt194.2.1, bt194.2.2)))))) r → Ev (fun k => spec_reader_members.l0 k x5 x6 s (p : Int)) r := by
              intro r h
              refine go2 ?_
              simp only [if_true, if_pos (show x6.length < 1954687338268 by omega), Option.bind_some]
              rw [← hts]
              exact Ev.bind hqe h
            by_cases c125 : bt s (q : Int) = 125
            · have hlt := bt_in c125 (by decide)
              refine ⟨x5 ++ [(⟨(p : Int), (nj : Int)⟩ : S55)], x6 ++ [t.s], true, q + 1, go3 ?_, by omega, by omega, fun _ => ⟨by omega, .cons p nj t .nil, ?_, by simp [Ms.names], by simp [Ms.l]⟩⟩
              · simp only [take_f hn q 125 (by decide), if_pos c125, Option.bind_some, if_true]
                exact Ev.now _
              · rw [Ms.wf]; exact ⟨rfl, hstr, c, hc, c58, v, hv, ht, hti, q, htj ▸ hq, .inl ⟨c125, rfl, rfl⟩⟩
            · by_cases c44 : bt s (q : Int) = 44
              · have hlt := bt_in c44 (by decide)
                obtain ⟨p', hp', _, hpe⟩ := blanks_ev hn _ (q + 1) rfl hlt
                have hp1 := hp'.1
                have hp2 := hp'.2.1
                obtain ⟨nm2, l, ok, j2, k1, k2, k3, k4⟩ := ih p' (by omega) (by omega) hp2 (x5 ++ [(⟨(p : Int), (nj : Int)⟩ : S55)]) (x6 ++ [t.s]) (by simp only [List.length_append, List.length_cons, List.length_nil]; omega) (by simp only [List.length_append, List.length_cons, List.length_nil]; omega)
                refine ⟨nm2, l, ok, j2, go3 ?_, by omega, k3, fun h => ?_⟩
                · simp only [take_f hn q 125 (by decide), if_neg c125, Option.bind_some, take_f hn q 44 (by decide), if_pos c44, if_true]
                  exact Ev.bind hpe k1
                · obtain ⟨k5, ms, k6, k7, k8⟩ := k4 h
                  refine ⟨by omega, .cons p nj t ms, ?_, by rw [k7, Ms.names]; simp, by rw [k8, Ms.l]; simp⟩
                  rw [Ms.wf]; exact ⟨rfl, hstr, c, hc, c58, v, hv, ht, hti, q, htj ▸ hq, .inr ⟨c44, p', hp', k6⟩⟩
              · refine ⟨[], [], false, q, go3 ?_, by omega, by omega, fun h => by simp at h⟩
                simp only [take_f hn q 125 (by decide), if_neg c125, Option.bind_some, take_f hn q 44 (by decide), if_neg c44]
                exact Ev.now _
        · refine ⟨[], [], false, c, go ?_, by omega, by omega, fun h => by simp at h⟩
          simp only [take_f hn c 58 (by decide), if_neg c58, Option.bind_some]
          exact Ev.now _
    · refine ⟨[], [], false, p, Ev.step (fun k => by rw [spec_reader_members.l0, here_f, Option.bind_some, if_neg c34]) (Ev.step (fun k => members_no k x5 x6 (p : Int) (p : Int)) (Ev.now _)), Nat.le_refl _, hps, fun h => by simp at h⟩
theorem value_word {s : ByteArray} (hn : s.size ≤ 4096) (i : Nat) (hi : i ≤ s.size) (h : ∀ k, spec_reader_value.f (k + 1) s (i : Int) = spec_reader_value.j0 k true false s (i : Int) 0 (i : Int) 0) : ValAt s i := by
  obtain ⟨ok1, j1, a1, a2, a3, a4, a5⟩ := word_f hn i hi wNull (by decide)
  have go : ∀ {r}, Ev (fun k => (spec_reader_word.f s (i : Int) wNull).bind fun bt256 => (if bt256.1 = true then (some (0, (i : Int), bt256.2.2, ([] : List (S55)), ([] : List (S28)), true, bt256.2.1, bt256.2.2)) else ((spec_reader_word.f bt256.2.1 bt256.2.2 wFalse).bind fun bt259 => (if bt259.1 = true then (some (1, (i : Int), bt259.2.2, ([] : List (S55)), ([] : List (S28)), true, bt259.2.1, bt259.2.2)) else ((spec_reader_word.f bt259.2.1 bt259.2.2 wTrue).bind fun bt262 => (if bt262.1 = true then (some (2, (i : Int), bt262.2.2, ([] : List (S55)), ([] : List (S28)), true, bt262.2.1, bt262.2.2)) else (some (0, (i : Int), bt262.2.2, ([] : List (S55)), ([] : List (S28)), false, bt262.2.1, bt262.2.2)))))))) r → Ev (fun k => spec_reader_value.f k s (i : Int)) r := by
    intro r hh
    exact Ev.step h (Ev.step (fun k => by rw [spec_reader_value.j0, if_neg (by simp)]; rfl) hh)
  cases ok1 with
  | true =>
    obtain ⟨b1, b2⟩ := a4 rfl
    have b3 : wNull.size = 4 := rfl
    refine ⟨0, (i : Int), (j1 : Int), [], [], true, j1, go ?_, a2, a3, fun _ => ⟨by omega, .leaf 0 i j1, ?_, rfl, rfl, rfl⟩⟩
    · simp only [a1, Option.bind_some, if_true]; exact Ev.now _
    · rw [T.wf]; exact ⟨by omega, a3, .inr (.inr (.inl ⟨rfl, by omega, b2⟩))⟩
  | false =>
    have e1 := a5 rfl
    subst e1
    obtain ⟨ok2, j2, c1, c2, c3, c4, c5⟩ := word_f hn j1 hi wFalse (by decide)
    cases ok2 with
    | true =>
      obtain ⟨b1, b2⟩ := c4 rfl
      have b3 : wFalse.size = 5 := rfl
      refine ⟨1, (j1 : Int), (j2 : Int), [], [], true, j2, go ?_, c2, c3, fun _ => ⟨by omega, .leaf 1 j1 j2, ?_, rfl, rfl, rfl⟩⟩
      · simp only [a1, c1, Option.bind_some, if_true, Bool.false_eq_true, if_false]; exact Ev.now _
      · rw [T.wf]; exact ⟨by omega, c3, .inr (.inr (.inr (.inl ⟨rfl, by omega, b2⟩)))⟩
    | false =>
      have e2 := c5 rfl
      subst e2
      obtain ⟨ok3, j3, d1, d2, d3, d4, d5⟩ := word_f hn j2 hi wTrue (by decide)
      cases ok3 with
      | true =>
        obtain ⟨b1, b2⟩ := d4 rfl
        have b3 : wTrue.size = 4 := rfl
        refine ⟨2, (j2 : Int), (j3 : Int), [], [], true, j3, go ?_, d2, d3, fun _ => ⟨by omega, .leaf 2 j2 j3, ?_, rfl, rfl, rfl⟩⟩
        · simp only [a1, c1, d1, Option.bind_some, if_true, Bool.false_eq_true, if_false]; exact Ev.now _
        · rw [T.wf]; exact ⟨by omega, d3, .inr (.inr (.inr (.inr ⟨rfl, by omega, b2⟩)))⟩
      | false =>
        refine ⟨0, (j2 : Int), (j3 : Int), [], [], false, j3, go ?_, d2, d3, fun h => by simp at h⟩
        simp only [a1, c1, d1, Option.bind_some, Bool.false_eq_true, if_false]; exact Ev.now _
theorem value_number {s : ByteArray} (hn : s.size ≤ 4096) (i : Nat) (hi : i ≤ s.size) (hc : bt s (i : Int) = 45 ∨ (48 ≤ bt s (i : Int) ∧ bt s (i : Int) ≤ 57)) (h : ∀ k, spec_reader_value.f (k + 1) s (i : Int) = spec_reader_value.j0 k true true s (i : Int) 0 (i : Int) 0) : ValAt s i := by
  obtain ⟨ok, j, h1, h2, h3, h4⟩ := number_ev hn i hi
  refine ⟨3, (i : Int), (j : Int), [], [], ok, j, Ev.step h (Ev.step (fun k => by rw [spec_reader_value.j0, if_pos rfl]) (Ev.bind h1 (Ev.now _))), h2, h3, fun hk => ?_⟩
  obtain ⟨h5, h6⟩ := h4 hk
  refine ⟨h5, .leaf 3 i j, ?_, rfl, rfl, rfl⟩
  rw [T.wf]; exact ⟨h5, h3, .inr (.inl ⟨rfl, hc, h6⟩)⟩
theorem value_ev {s : ByteArray} (hn : s.size ≤ 4096) : ∀ m i, s.size - i ≤ m → i ≤ s.size → ValAt s i := by
  intro m
  induction m with
  | zero =>
    intro i hm hi
    refine value_word hn i hi (fun k => ?_)
    rw [spec_reader_value.f, here_f, Option.bind_some, bt_out s i (by omega)]
    rfl
  | succ m ih =>
    intro i hm hi
    by_cases c123 : bt s (i : Int) = 123
    · have hlt := bt_in c123 (by decide)
      obtain ⟨p, hp, _, hpe⟩ := blanks_ev hn _ (i + 1) rfl hlt
      have hp1 := hp.1
      have hp2 := hp.2.1
      have go : ∀ {r}, Ev (fun k => (spec_reader_take.f s (p : Int) 125).bind fun bt154 => (if bt154.1 = true then (some (([] : List (S55)), ([] : List (S28)), true, bt154.2.1, bt154.2.2)) else (spec_reader_members.l0 k ([] : List (S55)) ([] : List (S28)) bt154.2.1 bt154.2.2))) r → Ev (fun k => spec_reader_members.f k s (i : Int)) r := by
        intro r h
        refine Ev.step (fun k => by rw [spec_reader_members.f, w64 (by omega) (by omega)]; rfl) (Ev.bind hpe ?_)
        exact h
      have top : ∀ {nm l ok} {j : Nat}, Ev (fun k => spec_reader_members.f k s (i : Int)) (nm, l, ok, s, (j : Int)) → Ev (fun k => spec_reader_value.f k s (i : Int)) (6, (i : Int), (j : Int), nm, l, ok, s, (j : Int)) := by
        intro nm l ok j h
        exact Ev.step (fun k => by rw [spec_reader_value.f, here_f, Option.bind_some, if_pos c123]) (Ev.bind h (Ev.now _))
      by_cases c125 : bt s (p : Int) = 125
      · have hplt := bt_in c125 (by decide)
        refine ⟨6, (i : Int), ((p + 1 : Nat) : Int), [], [], true, p + 1, top (go ?_), by omega, by omega, fun _ => ⟨by omega, .obj i (p + 1) .nil, ?_, by simp [T.s, Ms.l, Ms.names], rfl, rfl⟩⟩
        · simp only [take_f hn p 125 (by decide), if_pos c125, Option.bind_some, if_true]; exact Ev.now _
        · rw [T.wf]; exact ⟨c123, by omega, p, hp, .inl ⟨c125, rfl, rfl⟩⟩
      · obtain ⟨nm, l, ok, j, k1, k2, k3, k4⟩ := members_ev hn i (fun p q1 q2 => ih p (by omega) q2) _ p (Nat.le_refl _) (by omega) hp2 [] [] (by simp only [List.length_nil]; omega) rfl
        refine ⟨6, (i : Int), (j : Int), nm, l, ok, j, top (go ?_), by omega, k3, fun hk => ?_⟩
        · simp only [take_f hn p 125 (by decide), if_neg c125, Option.bind_some]; exact k1
        · obtain ⟨k5, ms, k6, k7, k8⟩ := k4 hk
          refine ⟨by omega, .obj i j ms, ?_, by simp [T.s, k7, k8], rfl, rfl⟩
          rw [T.wf]; exact ⟨c123, by omega, p, hp, .inr k6⟩
    · by_cases c91 : bt s (i : Int) = 91
      · have hlt := bt_in c91 (by decide)
        obtain ⟨p, hp, _, hpe⟩ := blanks_ev hn _ (i + 1) rfl hlt
        have hp1 := hp.1
        have hp2 := hp.2.1
        have go : ∀ {r}, Ev (fun k => (spec_reader_take.f s (p : Int) 93).bind fun bt201 => (if bt201.1 = true then (some (([] : List (S28)), true, bt201.2.1, bt201.2.2)) else (spec_reader_elements.l0 k ([] : List (S28)) bt201.2.1 bt201.2.2))) r → Ev (fun k => spec_reader_elements.f k s (i : Int)) r := by
          intro r h
          refine Ev.step (fun k => by rw [spec_reader_elements.f, w64 (by omega) (by omega)]; rfl) (Ev.bind hpe ?_)
          exact h
        have top : ∀ {l ok} {j : Nat}, Ev (fun k => spec_reader_elements.f k s (i : Int)) (l, ok, s, (j : Int)) → Ev (fun k => spec_reader_value.f k s (i : Int)) (5, (i : Int), (j : Int), [], l, ok, s, (j : Int)) := by
          intro l ok j h
          exact Ev.step (fun k => by rw [spec_reader_value.f, here_f, Option.bind_some, if_neg c123, if_pos c91]) (Ev.bind h (Ev.now _))
        by_cases c93 : bt s (p : Int) = 93
        · have hplt := bt_in c93 (by decide)
          refine ⟨5, (i : Int), ((p + 1 : Nat) : Int), [], [], true, p + 1, top (go ?_), by omega, by omega, fun _ => ⟨by omega, .arr i (p + 1) .nil, ?_, by simp [T.s, Es.l], rfl, rfl⟩⟩
          · simp only [take_f hn p 93 (by decide), if_pos c93, Option.bind_some, if_true]; exact Ev.now _
          · rw [T.wf]; exact ⟨c91, by omega, p, hp, .inl ⟨c93, rfl, rfl⟩⟩
        · obtain ⟨l, ok, j, k1, k2, k3, k4⟩ := elements_ev hn i (fun p q1 q2 => ih p (by omega) q2) _ p (Nat.le_refl _) (by omega) hp2 [] (by simp only [List.length_nil]; omega)
          refine ⟨5, (i : Int), (j : Int), [], l, ok, j, top (go ?_), by omega, k3, fun hk => ?_⟩
          · simp only [take_f hn p 93 (by decide), if_neg c93, Option.bind_some]; exact k1
          · obtain ⟨k5, es, k6, k7⟩ := k4 hk
            refine ⟨by omega, .arr i j es, ?_, by simp [T.s, k7], rfl, rfl⟩
            rw [T.wf]; exact ⟨c91, by omega, p, hp, .inr k6⟩
      · by_cases c34 : bt s (i : Int) = 34
        · obtain ⟨ok, j, h1, h2, h3, h4⟩ := quoted_ev hn i c34
          refine ⟨4, (i : Int), (j : Int), [], [], ok, j, Ev.step (fun k => by rw [spec_reader_value.f, here_f, Option.bind_some, if_neg c123, if_neg c91, if_pos c34]) (Ev.bind h1 (Ev.now _)), by omega, h3, fun hk => ⟨h2, .leaf 4 i j, ?_, rfl, rfl, rfl⟩⟩
          rw [T.wf]; exact ⟨h2, h3, .inl ⟨rfl, h4 hk⟩⟩
        · by_cases c45 : bt s (i : Int) = 45
          · exact value_number hn i hi (.inl c45) (fun k => by rw [spec_reader_value.f, here_f, Option.bind_some, if_neg c123, if_neg c91, if_neg c34, if_pos c45])
          · by_cases c48 : 48 ≤ bt s (i : Int) ∧ bt s (i : Int) ≤ 57
            · exact value_number hn i hi (.inr c48) (fun k => by rw [spec_reader_value.f, here_f, Option.bind_some, if_neg c123, if_neg c91, if_neg c34, if_neg c45, if_pos c48.1]; simp only [decide_eq_true c48.2])
            · refine value_word hn i hi (fun k => ?_)
              rw [spec_reader_value.f, here_f, Option.bind_some, if_neg c123, if_neg c91, if_neg c34, if_neg c45]
              by_cases h1 : 48 ≤ bt s (i : Int)
              · rw [if_pos h1]; simp only [decide_eq_false (show ¬ bt s (i : Int) ≤ 57 by omega)]
              · rw [if_neg h1]
/-- The law's own reader: it ends; where it says yes there is a tree that fills the text but for blanks, and the text is short. -/
theorem places_ev (s : ByteArray) : ∃ kd b e nm kids ok, Ev (fun k => laws_prPlaces.f k s) (kd, b, e, nm, kids, ok) ∧ (ok = true → s.size ≤ 4096 ∧ ∃ (t : T), t.wf s ∧ t.s = ⟨kd, b, e, nm, kids⟩ ∧ Blk s 0 t.i ∧ Blk s t.j s.size) := by
  by_cases hn : (s.size : Int) > 4096
  · refine ⟨0, 0, 0, [], [], false, Ev.congr (fun k => by rw [laws_prPlaces.f, if_pos hn]) (Ev.now _), fun h => by simp at h⟩
  · have hn2 : s.size ≤ 4096 := by omega
    obtain ⟨i, hi, _, hie⟩ := blanks_ev hn2 _ 0 rfl (Nat.zero_le _)
    obtain ⟨kd, b, e, nm, kids, ok, j, hv, h1, h2, h3⟩ := value_ev hn2 _ i (Nat.le_refl _) hi.2.1
    have go : ∀ {r}, Ev (fun k => (if ok = true then ((spec_reader_blanks.f k s (j : Int)).bind fun bt282 => (if bt282.2 = (s.size : Int) then (some (kd, b, e, nm, kids, true)) else (some (0, 0, 0, ([] : List (S55)), ([] : List (S28)), false)))) else (some (0, 0, 0, ([] : List (S55)), ([] : List (S28)), false)))) r → Ev (fun k => laws_prPlaces.f k s) r := by
      intro r h
      have h2 : Ev (fun k => spec_Places.f k s) r := Ev.congr (fun k => by rw [spec_Places.f]; rfl) (Ev.bind hie (Ev.bind hv h))
      exact Ev.congr (fun k => by rw [laws_prPlaces.f, if_neg hn]) (Ev.bind h2 (Ev.now _))
    cases ok with
    | false => exact ⟨0, 0, 0, [], [], false, go (Ev.now _), fun h => by simp at h⟩
    | true =>
      obtain ⟨h4, t, ht, hts, hti, htj⟩ := h3 rfl
      obtain ⟨q, hq, _, hqe⟩ := blanks_ev hn2 _ j rfl h2
      by_cases hqs : q = s.size
      · refine ⟨kd, b, e, nm, kids, true, go ?_, fun _ => ⟨hn2, t, ht, hts, hti ▸ hi, by rw [htj]; exact hqs ▸ hq⟩⟩
        simp only [if_true]
        refine Ev.bind hqe ?_
        simp only [hqs, if_true]
        exact Ev.now _
      · refine ⟨0, 0, 0, [], [], false, go ?_, fun h => by simp at h⟩
        simp only [if_true]
        refine Ev.bind hqe ?_
        simp only [show ¬ ((q : Int) = (s.size : Int)) by omega, if_false]
        exact Ev.now _
end Go.Proofs.Ytffdebhaclkhjaa.PFnPrWholeDefault
