/- FnFjFloatNear: for every input the law returns true and its argument reads as it read. Its condition: the listed variables lie as the program's text lays them (the card ties them). -/
import Derived.Test.YtjemobfhlfejlaaGreatDoorRows
import Derived.Test.YtjemobfhlfejlaaGreatDoorTie
import Derived.Test.YtjemobfhlfejlaaGreatDoorCards
import Derived.Test.YtjemobfhlfejlaaGreatDoorFbO
import Derived.Test.YtjemobfhlfejlaaGreatDoorFbP
import Derived.WalkKit
import Derived.ProofKit
import Derived.OpenShut
import Derived.ShutString
import Derived.ChangeOld
import Derived.Below
import Derived.SizedLaws
set_option linter.unusedVariables false
set_option linter.unusedSimpArgs false
namespace Go.Proofs.YtjemobfhlfejlaaGreatDoor.fnFjFloatNear
open Go Go.ChangeShapes Go.WideShapes Go.ChangeAt Go.RowKit
open Go.ChangeMaps (open_string shut_string)
theorem own : ownKnob Tryz.prog.godebug = none := by kernel_rfl
abbrev L : List (String × DataW Unit) := Rows.fnFjFloatNearRow.laid
theorem laid_h {W : World} (h : laidMetH Tryz.prog L W) : laidMet Tryz.prog L W := by
  unfold laidMetH at h
  have e : (L.filter fun x => x.2.handleName?.isSome) = [] := by kernel_rfl
  rw [e] at h
  exact h
theorem h_laid {W : World} (h : laidMet Tryz.prog L W) : laidMetH Tryz.prog L W := by
  unfold laidMetH
  have e : (L.filter fun x => x.2.handleName?.isSome) = [] := by kernel_rfl
  rw [e]
  exact h
theorem ms_of {W : World} (h : laidMetH Tryz.prog L W) : Dc.TF W W.heap.size := by
  obtain ⟨ps, hl, _⟩ := laid_h h
  have lc := Dc.lc_laid hl (by unfold L Rows.fnFjFloatNearRow; simp)
  obtain ⟨f0, f1, f2⟩ := Dc.fi_laid hl (by unfold L Rows.fnFjFloatNearRow; simp)
  exact ⟨⟨⟨lc, f0, f1, f2, Dc.pw_laid hl (by unfold L Rows.fnFjFloatNearRow; simp)⟩, Dc.op_laid hl (by unfold L Rows.fnFjFloatNearRow; simp), Dc.fp_laid hl (by unfold L Rows.fnFjFloatNearRow; simp), Dc.pt_laid hl (by unfold L Rows.fnFjFloatNearRow; simp)⟩, Dc.ff_laid hl (by unfold L Rows.fnFjFloatNearRow; simp), Dc.po_laid hl (by unfold L Rows.fnFjFloatNearRow; simp), Dc.ta_laid hl (by unfold L Rows.fnFjFloatNearRow; simp), Dc.ne_laid hl (by unfold L Rows.fnFjFloatNearRow; simp)⟩
set_option maxRecDepth 100000 in
theorem lifted (os : Os) (started : os.Started) (H : Type) (enc : TypeId × Value → H) :
    ReturnsInHanded {} Tryz.checked os 3 .any (fun w args => (Rows.fnFjFloatNearSpec.pre enc Tryz.prog Tryz.f3 [] false w args ∧ laidMetH Tryz.prog L w) ∧ sizedMet enc Tryz.prog Tryz.f3 (OpenSpec.ofChange Rows.fnFjFloatNearSpec) false w args)
      (Rows.fnFjFloatNearSpec.post enc Tryz.prog Tryz.f3 false true false false) := by
  refine returnsInHanded_of_change_and (C := Tryz.checked) (X := fun w _ => laidMetH Tryz.prog L w) (fun _ _ _ hh h => h.of_heap hh) own started (by kernel_rfl) Tryz.func3
    (ChangeSpec.witness_shaped (enc := enc) (C := Tryz.checked) (os := os) (X := fun w _ => laidMetH Tryz.prog L w) false (Wit.ww os) #[.string ByteArray.empty] 8 rfl (Wit.ww_shaped os _) (by kernel_rfl) (by kernel_rfl) (by kernel_rfl) (h_laid (Wit.ww_laid os _))) ?_
  intro W base args ds gs before hval0 hW hcnd hsz0 hL _
  have hsz : (DataW.weightsEach Tryz.prog (Tryz.f3.params.toList ++ Rows.fnFjFloatNearSpec.plain.varTypes Tryz.prog) (ds ++ gs)).all (· ≤ reachBytes) = true := hsz0
  have hval : ∀ (j : Nat) t v, Tryz.f3.params[j]? = some t → args[j]? = some v → Value.okWide Tryz.prog W .any base t v := hval0
  have hW' := hW
  obtain ⟨p, q, hA0, hV, rfl, hfz, hnd⟩ := hW
  have hA : DataW.TrodAll enc Tryz.prog W 0 (fun _ => true) true Tryz.f3.params.toList args.toList ds p := hA0
  rw [Tryz.params3] at hA hval hsz
  obtain ⟨v0, vs0, d0, ds0, p0, q0, hargs, rfl, rfl, h0, r0⟩ := trodAll_cons hA
  obtain ⟨rfl, rfl, rfl⟩ := trodAll_nil r0
  obtain rfl : args = #[v0] := by cases args; simp_all
  obtain ⟨rfl, rfl⟩ := trodVars_none hV
  obtain ⟨a0, rfl, rfl, rfl, y0⟩ := open_string Tryz.underlying9 (hval 0 9 v0 rfl rfl) h0
  have w0 : a0.size ≤ 140737488351232 := by
    have z := sized_string hsz (j := 0) (t := 9) rfl rfl
    rw [Array.length_toList] at z
    exact z
  clear hA0 hval0 hsz0 hsz
  refine (Dc.law_any (ms_of hL) (Nat.le_refl _) a0).mono fun e W' ⟨he, bel⟩ => ?_
  subst he
  exact ⟨_, rfl, _, _, _, [], _, [], hW', trodAll_mk1 (shut_bool Tryz.underlying4 _), (trodAll_cons_mk (shut_string Tryz.underlying9 y0) trodAll_mk0), rfl, bel.frame _, fun h => by cases h⟩
theorem over : Rows.fnFjFloatNearRow.holds Tryz.pinned (OpenSpec.ofChange Rows.fnFjFloatNearSpec) :=
  OpenClaim.holds_of_wide 3 Tryz.f3 rfl rfl rfl rfl rfl rfl rfl ⟨rfl, rfl, rfl, rfl, rfl⟩ rfl rfl rfl rfl rfl (by kernel_rfl) Tryz.func3 (by kernel_rfl)
    (of_decide_eq_true (by kernel_rfl)) (by unfold Func.isWrapper; first | (rw [if_pos (by decide +kernel)]; kernel_rfl) | (rw [if_neg (by decide +kernel)]; exact ⟨rfl, rfl⟩))
    (fun os started H enc _ => lifted os started H enc)
theorem proved : Rows.FnFjFloatNearSaid := over
end Go.Proofs.YtjemobfhlfejlaaGreatDoor.fnFjFloatNear
namespace Go.Proofs.YtjemobfhlfejlaaGreatDoor
open Go
theorem fnFjFloatNear_holds : Rows.FnFjFloatNearCardSaid :=
  Claim7.holds_tied_plain_at .later [] [.data, .data, .widerDeep, .widerDeep, .data, .data, .data, .data, .data, .data, .data, .data, .sentinel, .sentinel, .data, .pinned, .pinned] true (true, "8ec3049e533f4e768d321ab52e435b5e691532e0089a518e26fdfe2038af7ba9") true
    fnFjFloatNear.proved (fun _ h => by cases h) (by kernel_rfl) (fun _ h => by cases h) fnFjFloatNear_row_tie rfl ⟨rfl, rfl⟩ (by kernel_rfl) rfl
    (fun f fn hf hfn => by
      obtain rfl : f = 3 := Option.some.inj ((show Tryz.prog.funcNamed "pub-tetrapla/laws.FnFjFloatNear" = some 3 by kernel_rfl).symm.trans hf) |>.symm
      obtain rfl : fn = Tryz.f3 := (Option.some.inj (Tryz.func3.symm.trans hfn)).symm
      exact ⟨by kernel_rfl, fun j t ht => by
        rw [Tryz.params3] at ht
        have h9 : t = 9 := by
          rcases j with _ | j
          · simpa using ht.symm
          · simp at ht
        subst h9
        exact (show Tryz.prog.wantsStandIn 9 = false by kernel_rfl)⟩)
    (by kernel_rfl)
#print axioms fnFjFloatNear_holds
end Go.Proofs.YtjemobfhlfejlaaGreatDoor
