/- Pretty of a JSON text of at most 2^12 bytes writes it as the reference's layout says, with a width of 80, no prefix and an indent of two spaces: the printed law answers true. Condition: the text has at most 140737488351232 bytes, as its statement says. -/
import Derived.Test.YtffdebhaclkhjaaPr8
import Derived.Test.YtffdebhaclkhjaaSx16
namespace Go.Proofs.Ytffdebhaclkhjaa.Pure
open Go.RowKit Go.Proofs.Ytffdebhaclkhjaa.PFnPrWholeDefault Go.Proofs.YtffdebhaclkhjaaW.PrintWords Go.Proofs.YtffdebhaclkhjaaW.PrintLast
theorem strOfNums_append (a b : List Int) : strOfNums (a ++ b) = strOfNums a ++ strOfNums b := by
  apply ByteArray.ext
  simp [strOfNums]
theorem FnPrWholeDefault : laws_FnPrWholeDefault.Pure := by
  intro s hs
  suffices h : Ev (fun k => laws_FnPrWholeDefault.f k s) true by
    obtain ⟨K, h⟩ := h
    exact ⟨K, h K (Nat.le_refl _)⟩
  by_cases hbig : (s.size : Int) > 2147483647
  · exact Ev.congr (fun k => by rw [laws_FnPrWholeDefault.f, if_pos hbig]) (Ev.now _)
  · obtain ⟨kd, b, e, nm, kids, ok, hp, hk⟩ := places_ev s
    refine Ev.congr (fun k => by rw [laws_FnPrWholeDefault.f, if_neg hbig]) (Ev.bind hp ?_)
    cases ok with
    | false => exact Ev.congr (fun k => if_neg Bool.false_ne_true) (Ev.now _)
    | true =>
      obtain ⟨hn, t, hwf, hts, hb0, hb1⟩ := hk rfl
      have hwo := T.wf_ok hn t hwf
      have hbb := T.bb hn t 0 0 hwf (by omega)
      obtain ⟨c, w, hcw, _⟩ := T.body_nb hn t 0 0 hwf
      have hpos : 0 < (t.body s 0 0).length := by rw [hcw]; simp
      have hterm : ¬ numOK (bt s (t.j : Int)) := blk_term hb1 (by rw [bt_out s _ (Nat.le_refl _)]; unfold numOK; omega)
      obtain ⟨nl', ok', ha⟩ := T.pm hn t hwf 0 0 [] (Nat.le_refl _) hterm (by omega) (by simp only [List.length_nil, Nat.sub_self]; omega)
      have hany := any_f (any_blk hn ha _ 0 rfl hb0)
      simp only [List.nil_append, List.length_nil, Nat.sub_self] at hany
      have hopt : Ev (fun k => pretty_PrettyOptions.f k (bytesOf s)) (t.body s 0 0 ++ [10]) := by
        refine Ev.congr (fun k => by
          rw [pretty_PrettyOptions.f]
          exact (if_pos (Int.natCast_nonneg _)).trans ((if_pos (by rw [bytesOf_length, Int.toNat_natCast]; omega)).trans ((Option.bind_some _ _).trans (if_pos rfl)))) (Ev.bind hany ?_)
        exact Ev.congr (fun k => (if_pos (show ((t.body s 0 0).length : Int) > 0 by omega)).trans (if_pos (show (t.body s 0 0).length < 140737488355328 by omega))) (Ev.now _)
      have hpre : Ev (fun k => impl_PrDefault.f k s) (strOfNums (t.body s 0 0 ++ [10])) := by
        refine Ev.congr (fun k => by rw [impl_PrDefault.f]; exact if_pos (by omega)) (Ev.bind (f := fun _ t578 => some (strOfNums t578)) ?_ (Ev.now _))
        exact Ev.congr (fun k => by rw [pretty_Pretty.f]) (Ev.bind (f := fun _ t572 => some t572) hopt (Ev.now _))
      have hlay := T.layout s (⟨#[]⟩ : ByteArray) t hwo.1 0 0 [] (⟨#[]⟩ : ByteArray) rfl (by omega) (by simp only [List.length_nil]; omega)
      rw [hts] at hlay
      have hlaid : Ev (fun k => spec_Layout_Laid.f k (⟨#[]⟩ : ByteArray) (⟨#[32, 32]⟩ : ByteArray) 80 s kd b e nm kids) (((⟨#[]⟩ : ByteArray) ++ strOfNums (t.body s 0 0)) ++ (⟨#[10]⟩ : ByteArray)) := by
        refine Ev.congr (fun k => by rw [spec_Layout_Laid.f]; rfl) (Ev.bind hlay ?_)
        have hz : ((⟨#[]⟩ : ByteArray) ++ strOfNums (t.body s 0 0)).size = (t.body s 0 0).length := by rw [ByteArray.size_append, strOfNums_size]; exact Nat.zero_add _
        exact Ev.congr (fun k => (if_pos (show (⟨#[]⟩ : ByteArray).size + (strOfNums (t.body s 0 0)).size ≤ 9223372036854775807 by rw [strOfNums_size]; show 0 + _ ≤ _; omega)).trans (if_pos (by
          show ((⟨#[]⟩ : ByteArray) ++ strOfNums (t.body s 0 0)).size + 1 ≤ 9223372036854775807
          rw [hz]; omega))) (Ev.now _)
      have heq : strOfNums (t.body s 0 0 ++ [10]) = ((⟨#[]⟩ : ByteArray) ++ strOfNums (t.body s 0 0)) ++ (⟨#[10]⟩ : ByteArray) := by
        rw [strOfNums_append, show ((⟨#[]⟩ : ByteArray) ++ strOfNums (t.body s 0 0)) = strOfNums (t.body s 0 0) from ByteArray.empty_append]
        rfl
      refine Ev.congr (fun k => if_pos rfl) (Ev.bind hpre (Ev.bind hlaid ?_))
      rw [heq]
      exact Ev.congr (fun k => by rw [beq_self_eq_true]) (Ev.now _)
end Go.Proofs.Ytffdebhaclkhjaa.Pure
