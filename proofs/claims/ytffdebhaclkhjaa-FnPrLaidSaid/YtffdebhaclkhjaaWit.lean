/- A start that fits the rows of a program whose variables hold long tables: the witness of Derived.Handed, with a check of the variables' cells that goes along each row once. No condition but what each lemma states. -/
import Derived.Test.YtffdebhaclkhjaaRows
import Derived.Handed
import Derived.KernelRfl
namespace Go.Proofs.Ytffdebhaclkhjaa.Wit
open Go
def okL (P : Program) : List TypeId → List Value → Bool
  | [], [] => true
  | u :: us, v :: vs => Cell.okB P u v && okL P us vs
  | _, _ => false
theorem okL_len {P : Program} : ∀ {us : List TypeId} {vs : List Value}, okL P us vs = true → vs.length = us.length
  | [], [], _ => rfl
  | u :: us, v :: vs, h => by
    simp only [okL, Bool.and_eq_true] at h
    simp only [List.length_cons, okL_len h.2]
  | [], _ :: _, h => by simp [okL] at h
  | _ :: _, [], h => by simp [okL] at h
theorem okL_get {P : Program} : ∀ {us : List TypeId} {vs : List Value}, okL P us vs = true → ∀ (i : Nat) v, vs[i]? = some v → ∃ u, us[i]? = some u ∧ Cell.okB P u v = true
  | [], [], _, i, v, h => by simp at h
  | u :: us, w :: vs, h, 0, v, hv => by
    simp only [okL, Bool.and_eq_true] at h
    simp only [List.getElem?_cons_zero, Option.some.injEq] at hv
    subst hv
    exact ⟨u, rfl, h.1⟩
  | u :: us, w :: vs, h, i + 1, v, hv => by
    simp only [okL, Bool.and_eq_true] at h
    rw [List.getElem?_cons_succ] at hv ⊢
    exact okL_get h.2 i v hv
  | [], _ :: _, h, _, _, _ => by simp [okL] at h
  | _ :: _, [], h, _, _, _ => by simp [okL] at h
def rowL (P : Program) (t : TypeId) (cs : List Value) : Bool :=
  match P.cellTypes P.depth t with
  | some ts => okL P ts cs
  | none => false
theorem rowL_ok {P : Program} {w : World} {r : Reach} {base : Nat} {t : TypeId} {cs : Array Value} (h : rowL P t cs.toList = true) : Row.ok P w r base t cs := by
  unfold rowL at h
  split at h
  · rename_i ts hts
    have hl := okL_len h
    rw [Array.length_toList] at hl
    refine ⟨ts, hts, ⟨1, by omega⟩, fun i v hv => ?_⟩
    have hi : i < cs.size := (Array.getElem?_eq_some_iff.1 hv).1
    rw [← Array.getElem?_toList] at hv
    obtain ⟨u, hu, hc⟩ := okL_get h i v hv
    exact ⟨u, by rw [Nat.mod_eq_of_lt (by omega)]; exact hu, Cell.ok_of_okB hc⟩
  · cases h
def sameL : List Value → List Value → Bool
  | [], [] => true
  | _ :: a, _ :: b => sameL a b
  | _, _ => false
theorem sameL_len : ∀ {a b : List Value}, sameL a b = true → a.length = b.length
  | [], [], _ => rfl
  | _ :: a, _ :: b, h => by simp only [List.length_cons, sameL_len (a := a) (b := b) h]
  | [], _ :: _, h => by simp [sameL] at h
  | _ :: _, [], h => by simp [sameL] at h
def oneL (P : Program) (w : World) (g : Nat) : Bool :=
  match ((begin P (fun _ _ => 0) default).world.heap[g]?).bind Obj.row? with
  | none => true
  | some (zero, t) =>
    match w.heap[g]? with
    | some (.cells cs t' frozen) => decide (t' = t) && decide (frozen = (0, 0)) && sameL cs.toList zero.toList && (!P.buildable t || rowL P t cs.toList)
    | _ => false
theorem shaped {P : Program} {w : World} (hv : (List.range P.globals.size).all (oneL P w) = true)
    (hr : (w.heap.toList.drop P.globals.size).take ((begin P (fun _ _ => 0) default).world.heap.size - P.globals.size) = (begin P (fun _ _ => 0) default).world.heap.toList.drop P.globals.size) : w.Shaped P := by
  refine ⟨fun g zero t hg hz => ?_, fun k h1 h2 => ?_⟩
  case refine_2 =>
    have := congrArg (·[k - P.globals.size]?) hr
    simp only [List.getElem?_take, List.getElem?_drop, Array.getElem?_toList] at this
    rw [if_pos (by omega), Nat.add_sub_cancel' h1] at this
    exact this
  simp only [List.all_eq_true, List.mem_range] at hv
  have := hv g hg
  unfold oneL at this
  rw [hz] at this
  simp only at this
  split at this
  · rename_i cs t' fr hw
    simp only [Bool.and_eq_true, decide_eq_true_eq, Bool.or_eq_true, Bool.not_eq_true'] at this
    obtain ⟨⟨⟨rfl, rfl⟩, hs⟩, hb⟩ := this
    refine ⟨cs, hw, by have := sameL_len hs; rwa [Array.length_toList, Array.length_toList] at this, fun hbuild => ?_⟩
    rcases hb with hb | hb
    · rw [hbuild] at hb; cases hb
    · exact rowL_ok hb
  · cases this
theorem wit {H : Type} {enc : TypeId × Value → H} {C : Checked} {os : Os} {f : FuncId} {fn : Func} {s : ChangeSpec} {conds : List PathCond} {apart : Bool} (modest : Bool) (i : Input) (fuel : Nat)
    (hv : (List.range C.prog.globals.size).all (oneL C.prog (World.plainHolding C.prog os i)) = true)
    (hr : ((World.plainHolding C.prog os i).heap.toList.drop C.prog.globals.size).take ((begin C.prog (fun _ _ => 0) default).world.heap.size - C.prog.globals.size) = (begin C.prog (fun _ _ => 0) default).world.heap.toList.drop C.prog.globals.size)
    (hok : Input.okWideB C.prog (World.plainHolding C.prog os i) f ⟨#[], i.args, []⟩ = true)
    (hpre : s.preB enc C.prog fn conds apart (World.plainHolding C.prog os i).memory i.args fuel = true)
    (hsz : s.sizedB enc C.prog fn apart (World.plainHolding C.prog os i).memory i.args fuel = true) :
    ∃ (w : World) (tape : Tape) (i : Input), w.os = os ∧ (w.forCall tape i).Shaped C.prog ∧ i.vars = [] ∧ Input.okWide C.prog (w.forCall tape i) .any w.heap.size f i ∧
      s.pre6 enc C.prog fn conds apart (w.forCall tape i).memory i.args ∧ ({ modest := modest } : Assume).holds C.prog (lone (Frame.enter C.prog f i.args .normal) [] (w.forCall tape i)) :=
  ⟨World.holding C.prog os i, fun _ _ => 0, ⟨#[], i.args, []⟩, rfl, shaped hv hr, (Input.okWide_of_okWideB (base := 0) hok).1, (Input.okWide_of_okWideB hok).2, ⟨ChangeSpec.pre_of_preB hpre, sizedMet_of_sizedB hsz⟩, by
    simp only [Assume.holds]
    exact ⟨by simp, by simp, fun _ => Modest.zero, by simp, by simp⟩⟩
end Go.Proofs.Ytffdebhaclkhjaa.Wit
