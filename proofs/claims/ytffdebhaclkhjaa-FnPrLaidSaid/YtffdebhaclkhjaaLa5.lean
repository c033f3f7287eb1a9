/- With a width of 0 and without sorting PrettyOptions writes a JSON text of at most 2^12 bytes line by line as the reference says: the printed law answers true, whatever the text and the options. No condition. -/
import Derived.Test.YtffdebhaclkhjaaLa4
import Derived.Test.YtffdebhaclkhjaaLx3
set_option linter.unusedVariables false
set_option linter.unusedSimpArgs false
namespace Go.Proofs.Ytffdebhaclkhjaa.PFnPrWholeDefault
open Go.RowKit Go.Proofs.YtffdebhaclkhjaaW.PrintWords
theorem strOfNums_append (a b : List Int) : strOfNums (a ++ b) = strOfNums a ++ strOfNums b := by
  apply ByteArray.ext
  simp [strOfNums]
theorem strOfNums_bytesOf (a : ByteArray) : strOfNums (bytesOf a) = a := by
  apply ByteArray.ext
  unfold strOfNums bytesOf
  apply Array.toList_inj.mp
  rw [List.map_map]
  have e : ((fun n : Int => UInt8.ofNat n.toNat) ∘ fun b : UInt8 => ((b.toNat : Nat) : Int)) = id := by
    funext b
    simp
  rw [e, List.map_id]
/-! ### the options' own test -/
theorem one_l1 {x : ByteArray} (hx : x.size ≤ 2147483647) {l : List ByteArray} {n i : Int} {b0 : Bool} (h0 : Ev (fun k => laws_prOneLine.l0 k l n (wrap64 (i + 1))) b0) :
    ∀ m q, x.size - q = m → q ≤ x.size → ∃ b, Ev (fun k => laws_prOneLine.l1 k x (q : Int) l n i) b ∧ (b = true → x.size ≤ 64 ∧ b0 = true) := by
  intro m
  induction m with
  | zero =>
    intro q hm hq
    by_cases h64 : (x.size : Int) > 64
    · exact ⟨false, Ev.step (fun k => by rw [laws_prOneLine.l1]; exact (if_neg (by omega)).trans (if_pos h64)) (Ev.now _), fun h => by simp at h⟩
    · exact ⟨b0, Ev.step (fun k => by rw [laws_prOneLine.l1]; exact (if_neg (by omega)).trans (if_neg h64)) h0, fun h => ⟨by omega, h⟩⟩
  | succ m ih =>
    intro q hm hq
    by_cases h10 : bt x (q : Int) = 10
    · exact ⟨false, Ev.step (fun k => by rw [laws_prOneLine.l1]; exact (if_pos (by omega)).trans ((if_pos (by omega)).trans (if_pos h10))) (Ev.now _), fun h => by simp at h⟩
    · have e1 : Aside0 (wrap64 ((q : Int) + 1) = ((q + 1 : Nat) : Int)) := ⟨w64 (by omega) (by omega)⟩
      obtain ⟨b, h1, h2⟩ := ih (q + 1) (by omega) (by omega)
      refine ⟨b, Ev.step (fun k => ?_) h1, h2⟩
      rw [laws_prOneLine.l1]
      refine (if_pos (by omega)).trans ((if_pos (by omega)).trans ((if_neg h10).trans ?_))
      rw [e1.out]
theorem one_ev (w : Int) (p i : ByteArray) (b : Bool) (hp : p.size ≤ 2147483647) (hi : i.size ≤ 2147483647) : ∃ r, Ev (fun k => laws_prOneLine.f k w p i b) r ∧ (r = true → p.size ≤ 64 ∧ i.size ≤ 64) := by
  have e1 : Aside0 (wrap64 ((0 : Int) + 1) = 1) := ⟨w64 (by omega) (by omega)⟩
  have e2 : Aside0 (wrap64 ((1 : Int) + 1) = 2) := ⟨w64 (by omega) (by omega)⟩
  have h2 : Ev (fun k => laws_prOneLine.l0 k [p, i] 2 (wrap64 (1 + 1))) true := by
    rw [e2.out]
    exact Ev.step (fun k => by rw [laws_prOneLine.l0]; exact if_neg (by omega)) (Ev.now _)
  obtain ⟨b1, h3, h4⟩ := one_l1 hi h2 _ 0 rfl (by omega)
  have h5 : Ev (fun k => laws_prOneLine.l0 k [p, i] 2 (wrap64 (0 + 1))) b1 := by
    rw [e1.out]
    exact Ev.step (fun k => by rw [laws_prOneLine.l0]; exact (if_pos (by omega)).trans ((if_pos (by omega)).trans (if_pos (by simp)))) h3
  obtain ⟨b2, h6, h7⟩ := one_l1 hp h5 _ 0 rfl (by omega)
  refine ⟨b2, Ev.congr (f := fun k => laws_prOneLine.l0 k [p, i] 2 0) (fun _ => rfl) (Ev.step (fun k => by rw [laws_prOneLine.l0]; exact (if_pos (by omega)).trans ((if_pos (by omega)).trans (if_pos (by simp)))) h6), fun h => ?_⟩
  obtain ⟨h8, h9⟩ := h7 h
  exact ⟨h8, (h4 h9).1⟩
theorem opts_ev {s p i : ByteArray} (hn : s.size ≤ 4096) (hp : p.size ≤ 64) (hi : i.size ≤ 64) {t : T} (hwf : t.wf s) (hb0 : Blk s 0 t.i) (hb1 : Blk s t.j s.size) :
    Ev (fun k => pretty_PrettyOpts.f k (bytesOf s) 0 p i) (bytesOf p ++ t.lb s (bytesOf p) (bytesOf i) 0 ++ [10]) := by
  have hwo := T.wf_ok hn t hwf
  have zp : (bytesOf p).length = p.size := bytesOf_length p
  have zi : (bytesOf i).length = i.size := bytesOf_length i
  have hbb := T.bb (P := bytesOf p) (I := bytesOf i) hn (by omega) (by omega) t 0 hwf (by omega)
  obtain ⟨c, w, hcw, _⟩ := T.lb_nb (P := bytesOf p) (I := bytesOf i) hn t 0 hwf
  have hpos : 0 < (t.lb s (bytesOf p) (bytesOf i) 0).length := by rw [hcw]; simp
  have hterm : ¬ numOK (bt s (t.j : Int)) := blk_term hb1 (by rw [bt_out s _ (Nat.le_refl _)]; unfold numOK; omega)
  have any : ∀ l : List Int, l.length ≤ 64 → ∃ nl' ok, Ev (fun k => pretty_appendPrettyAny.f k l (bytesOf s) 0 true 0 p i 0 0 (-1)) (l ++ t.lb s (bytesOf p) (bytesOf i) 0, (t.j : Int), nl', ok) := by
    intro l hl
    obtain ⟨nl', ok', ha⟩ := T.pm (p := p) (ind_ := i) hn t hwf 0 l 0 hterm (by omega) (by omega)
    exact ⟨nl', ok', any_f (any_blk hn ha _ 0 rfl hb0)⟩
  have tail : ∀ (l : List Int) (nl' : Int) (ok : Bool), l.length ≤ 64 → Ev (fun _ : Nat => (fun bt551 : List Int × Int × Int × Bool => if (bt551.1.length : Int) > 0 then (if bt551.1.length < 140737488355328 then (some (bt551.1 ++ [10])) else (none)) else (some bt551.1)) (l ++ t.lb s (bytesOf p) (bytesOf i) 0, (t.j : Int), nl', ok)) (l ++ t.lb s (bytesOf p) (bytesOf i) 0 ++ [10]) := by
    intro l nl' ok hl
    have hz : (l ++ t.lb s (bytesOf p) (bytesOf i) 0).length = l.length + (t.lb s (bytesOf p) (bytesOf i) 0).length := List.length_append
    exact Ev.congr (fun k => (if_pos (show ((l ++ t.lb s (bytesOf p) (bytesOf i) 0).length : Int) > 0 by omega)).trans (if_pos (show (l ++ t.lb s (bytesOf p) (bytesOf i) 0).length < 140737488355328 by omega))) (Ev.now _)
  by_cases h0 : (p.size : Int) = 0
  · have e : bytesOf p = [] := List.eq_nil_of_length_eq_zero (by omega)
    obtain ⟨nl', ok, ha⟩ := any [] (by simp)
    have ht := tail [] nl' ok (by simp)
    have er : bytesOf p ++ t.lb s (bytesOf p) (bytesOf i) 0 ++ [10] = [] ++ t.lb s (bytesOf p) (bytesOf i) 0 ++ [10] := by rw [e]
    rw [er]
    exact Ev.congr (fun k => by
      rw [pretty_PrettyOpts.f]
      exact (if_pos (Int.natCast_nonneg _)).trans ((if_pos (by rw [bytesOf_length, Int.toNat_natCast]; omega)).trans ((Option.bind_some _ _).trans (if_pos h0)))) (Ev.bind ha ht)
  · obtain ⟨nl', ok, ha⟩ := any ([] ++ bytesOf p) (by rw [List.nil_append]; omega)
    have ht := tail ([] ++ bytesOf p) nl' ok (by rw [List.nil_append]; omega)
    have er : bytesOf p ++ t.lb s (bytesOf p) (bytesOf i) 0 ++ [10] = [] ++ bytesOf p ++ t.lb s (bytesOf p) (bytesOf i) 0 ++ [10] := by rw [List.nil_append]
    rw [er]
    exact Ev.congr (fun k => by
      rw [pretty_PrettyOpts.f]
      exact (if_pos (Int.natCast_nonneg _)).trans ((if_pos (by rw [bytesOf_length, Int.toNat_natCast]; omega)).trans ((Option.bind_some _ _).trans ((if_neg h0).trans (if_pos (by simp only [List.length_nil]; omega)))))) (Ev.bind ha ht)
theorem laid_pure (s : ByteArray) (w : Int) (p i : ByteArray) (b : Bool) : ∃ k, laws_FnPrLaid.f k s w p i b = some true := by
  suffices h : Ev (fun k => laws_FnPrLaid.f k s w p i b) true by
    obtain ⟨K, h⟩ := h
    exact ⟨K, h K (Nat.le_refl _)⟩
  have yes0 : Ev (fun k => laws_FnPrLaid.j0 k s true w p i b) true := Ev.step (fun k => by rw [laws_FnPrLaid.j0]; exact if_pos rfl) (Ev.now _)
  have yes1 : ∀ (a0 a1 a2 : Int) (a3 : List S55) (a4 : List S28), Ev (fun k => laws_FnPrLaid.j1 k s true w p i b a0 a1 a2 a3 a4) true := fun a0 a1 a2 a3 a4 => Ev.step (fun k => by rw [laws_FnPrLaid.j1]; exact if_pos rfl) (Ev.now _)
  by_cases hbig : (s.size : Int) > 2147483647
  · exact Ev.congr (fun k => by rw [laws_FnPrLaid.f, if_pos hbig]) yes0
  refine Ev.congr (fun k => by rw [laws_FnPrLaid.f, if_neg hbig]) ?_
  by_cases hp0 : (p.size : Int) > 2147483647
  · exact Ev.congr (fun k => by rw [laws_zzFits7.f, if_pos hp0]; rfl) yes0
  by_cases hi0 : (i.size : Int) > 2147483647
  · exact Ev.congr (fun k => by rw [laws_zzFits7.f, if_neg hp0, if_pos hi0]; rfl) yes0
  refine Ev.congr (fun k => by rw [laws_zzFits7.f, if_neg hp0, if_neg hi0]; rfl) (g := fun k => (laws_zzFits7.f w p i b).bind fun t => laws_FnPrLaid.j0 k s (!t) w p i b) (f := fun k => laws_FnPrLaid.j0 k s false w p i b) ?_
  obtain ⟨kd, b0, e, nm, kids, ok, hpl, hk⟩ := places_ev s
  refine Ev.step (fun k => by rw [laws_FnPrLaid.j0]; exact if_neg Bool.false_ne_true) (Ev.bind hpl ?_)
  cases ok with
  | false => exact Ev.congr (fun k => if_neg Bool.false_ne_true) (yes1 _ _ _ _ _)
  | true =>
    refine Ev.congr (fun k => if_pos rfl) ?_
    by_cases hw : w = 0
    · subst hw
      refine Ev.congr (fun k => if_pos rfl) ?_
      cases b with
      | true => exact Ev.congr (fun k => if_pos rfl) (yes1 _ _ _ _ _)
      | false =>
        obtain ⟨r, h1, h2⟩ := one_ev 0 p i false (by omega) (by omega)
        refine Ev.congr (fun k => if_neg Bool.false_ne_true) (Ev.bind h1 ?_)
        cases r with
        | false => exact yes1 _ _ _ _ _
        | true =>
          obtain ⟨hp, hi⟩ := h2 rfl
          obtain ⟨hn, t, hwf, hts, hb0, hb1⟩ := hk rfl
          have hwo := T.wf_ok hn t hwf
          have zp : (bytesOf p).length = p.size := bytesOf_length p
          have zi : (bytesOf i).length = i.size := bytesOf_length i
          have hbb := T.bb (P := bytesOf p) (I := bytesOf i) hn (by omega) (by omega) t 0 hwf (by omega)
          have hopt := opts_ev hn hp hi hwf hb0 hb1
          have hpre : Ev (fun k => impl_PrPretty.f k s 0 p i false) (strOfNums (bytesOf p ++ t.lb s (bytesOf p) (bytesOf i) 0 ++ [10])) :=
            Ev.congr (fun k => by rw [impl_PrPretty.f]; exact (if_neg Bool.false_ne_true).trans (if_pos (by omega))) (Ev.bind (f := fun _ t => some (strOfNums t)) hopt (Ev.now _))
          have hlay := T.lays t hwo.1 0 [] p i (show bytesOf p = tb (bytesOf p) (bytesOf i) 0 by unfold tb; rw [rep, List.append_nil]) rfl (by simp only [List.length_nil]; omega)
          rw [hts, List.nil_append] at hlay
          have hz : (p ++ strOfNums (t.lb s (bytesOf p) (bytesOf i) 0)).size = p.size + (t.lb s (bytesOf p) (bytesOf i) 0).length := by rw [ByteArray.size_append, strOfNums_size]
          have hlaid : Ev (fun k => spec_Laid.f k s kd b0 e nm kids p i) ((p ++ strOfNums (t.lb s (bytesOf p) (bytesOf i) 0)) ++ (⟨#[10]⟩ : ByteArray)) := by
            refine Ev.congr (fun k => by rw [spec_Laid.f]) (Ev.bind hlay ?_)
            exact Ev.congr (fun k => (if_pos (by rw [strOfNums_size]; omega)).trans (if_pos (by rw [hz]; omega))) (Ev.now _)
          have heq : strOfNums (bytesOf p ++ t.lb s (bytesOf p) (bytesOf i) 0 ++ [10]) = (p ++ strOfNums (t.lb s (bytesOf p) (bytesOf i) 0)) ++ (⟨#[10]⟩ : ByteArray) := by
            rw [strOfNums_append, strOfNums_append, strOfNums_bytesOf]
            rfl
          refine Ev.step (fun k => by rw [laws_FnPrLaid.j1]; exact if_neg (by decide)) (Ev.bind hpre (Ev.bind hlaid ?_))
          rw [heq]
          exact Ev.congr (fun k => by rw [beq_self_eq_true]) (Ev.now _)
    · exact Ev.congr (fun k => if_neg hw) (yes1 _ _ _ _ _)
end Go.Proofs.Ytffdebhaclkhjaa.PFnPrWholeDefault
