/- With a width of 0, without sorting, PrettyOptions writes each member and each element on a line of its own as the reference says: for every text and all options the law returns true and its arguments read as they did. Condition: none beyond the given statement's. -/
import Derived.Test.YtffdebhaclkhjaaRows
import Derived.Test.YtffdebhaclkhjaaWit
import Derived.Test.YtffdebhaclkhjaaLa5
import Derived.WalkKit
import Derived.ProofKit
import Derived.OpenShut
import Derived.ShutString
import Derived.ChangeOld
import Derived.Below
import Derived.SizedLaws
import Derived.Lib.SmallJoins
namespace Go.Proofs.Ytffdebhaclkhjaa.fnPrLaid
open Go.ChangeShapes Go.WideShapes Go.ChangeAt Go.RowKit
open Go.ChangeMaps (open_string shut_string)
set_option linter.unusedVariables false
theorem cells23 : Try.prog.cellsOf 23 = 4 := by kernel_rfl
theorem own : ownKnob Try.prog.godebug = none := by kernel_rfl
theorem opts_read {H : Type} {enc : TypeId × Value → H} (W : World) (b : Nat) (sp : Nat → Bool) (hd : Bool) (n : Int) (p i : ByteArray) (o : Bool) (wn : (Lit.int .i64 n).wf = true) (wp : p.size ≤ maxLen) (wi : i.size ≤ maxLen) :
    DataW.Trod enc Try.prog W b sp hd 23 (.agg #[.int .i64 n, .string p, .string i, .bool o]) (.agg [.lit (.int .i64 n), .lit (.string p.data.toList), .lit (.string i.data.toList), .lit (.bool o)]) [] := by
  simpa using Joins.shut_agg4 (enc := enc) (w := W) (base := b) (spare := sp) (held := hd) (y0 := (.lit (.int .i64 n), [])) (y1 := (.lit (.string p.data.toList), [])) (y2 := (.lit (.string i.data.toList), [])) (y3 := (.lit (.bool o), [])) Try.underlying23 (by kernel_rfl) cells23
    (Joins.field_of_Trod (shut_int Try.underlying3 wn) rfl) (Joins.field_of_Trod (shut_string Try.underlying9 wp) rfl) (Joins.field_of_Trod (shut_string Try.underlying9 wi) rfl) (Joins.field_of_Trod (shut_bool Try.underlying4 o) rfl)
set_option maxRecDepth 100000 in
theorem lifted (os : Os) (started : os.Started) (H : Type) (enc : TypeId × Value → H) :
    ReturnsInHanded {} Try.checked os 3 .any (Rows.fnPrLaidSpec.pre6 enc Try.prog Try.f3 Rows.fnPrLaidRow.domain false) (Rows.fnPrLaidSpec.post enc Try.prog Try.f3 false true false false) := by
  refine returnsInHanded_of_change_sized (C := Try.checked) own started (by kernel_rfl) Try.func3
    (Wit.wit (enc := enc) (C := Try.checked) false ⟨#[], #[.string ByteArray.empty, .agg #[.int .i64 0, .string ByteArray.empty, .string ByteArray.empty, .bool false]], []⟩ 8 (by kernel_rfl) (by kernel_rfl) (by kernel_rfl) (by kernel_rfl) (by kernel_rfl)) ?_
  intro W base args ds gs before hval0 hW hcnd hsz0 _
  have hval : ∀ (j : Nat) t v, Try.f3.params[j]? = some t → args[j]? = some v → Value.okWide Try.prog W .any base t v := hval0
  have hW' := hW
  obtain ⟨p, q, hA0, hV, rfl, hfz, hnd⟩ := hW
  have hA : DataW.TrodAll enc Try.prog W 0 (fun _ => true) true Try.f3.params.toList args.toList ds p := hA0
  rw [Try.params3] at hA hval
  obtain ⟨v0, v1, d0, d1, p0, p1, rfl, rfl, rfl, h0, h1⟩ := trodAll_two hA
  obtain ⟨rfl, rfl⟩ := trodVars_none hV
  obtain ⟨a0, rfl, rfl, rfl, y0⟩ := open_string Try.underlying9 (hval 0 9 v0 rfl rfl) h0
  obtain ⟨c0, c1, c2, c3, z0, z1, z2, z3, m, rfl, rfl, rfl, e0, e1, e2, e3⟩ := Joins.open_agg4 Try.underlying23 (by kernel_rfl) cells23 (hval 1 23 v1 rfl rfl) h1
  obtain ⟨a1_0, g0, rfl, w0⟩ := DataW.trod_int Try.underlying3 e0
  obtain ⟨a1_1, g1, rfl, w1⟩ := DataW.trod_string Try.underlying9 e1
  obtain ⟨a1_2, g2, rfl, w2⟩ := DataW.trod_string Try.underlying9 e2
  obtain ⟨a1_3, g3, rfl⟩ := DataW.trod_bool Try.underlying4 e3
  simp at g0 g1 g2 g3
  subst g0 g1 g2 g3
  clear hA0 hval0 hsz0
  obtain ⟨k, hk⟩ := PFnPrWholeDefault.laid_pure a0 a1_0 a1_1 a1_2 a1_3
  refine (PFnPrWholeDefault.laws_FnPrLaid.calls k a0 a1_0 a1_1 a1_2 a1_3 true W hk).mono fun e W' ⟨he, bel⟩ => ?_
  subst he
  exact ⟨_, rfl, _, _, _, [], _, [], hW', trodAll_mk1 (shut_bool Try.underlying4 _), trodAll_mk2 (shut_string Try.underlying9 y0) (opts_read _ _ _ _ a1_0 a1_1 a1_2 a1_3 w0 w1 w2), rfl, bel.frame _, fun h => by cases h⟩
theorem over : Rows.fnPrLaidRow.holds Try.pinned (OpenSpec.ofChange Rows.fnPrLaidSpec) :=
  OpenClaim.holds_of_wide 3 Try.f3 rfl rfl rfl rfl rfl rfl rfl ⟨rfl, rfl, rfl, rfl, rfl⟩ rfl rfl rfl rfl rfl (by kernel_rfl) Try.func3 (by kernel_rfl)
    (of_decide_eq_true (by kernel_rfl)) (by unfold Func.isWrapper; first | (rw [if_pos (by decide +kernel)]; kernel_rfl) | (rw [if_neg (by decide +kernel)]; exact ⟨rfl, rfl⟩))
    (fun os started H enc _ => lifted os started H enc)
theorem proved : Rows.FnPrLaidSaid := over
#print axioms proved
end Go.Proofs.Ytffdebhaclkhjaa.fnPrLaid
namespace Go.Proofs.Ytffdebhaclkhjaa
/-- The row, under a short name, for the claim. -/
theorem fnPrLaid_holds : Rows.FnPrLaidSaid := fnPrLaid.proved
end Go.Proofs.Ytffdebhaclkhjaa
