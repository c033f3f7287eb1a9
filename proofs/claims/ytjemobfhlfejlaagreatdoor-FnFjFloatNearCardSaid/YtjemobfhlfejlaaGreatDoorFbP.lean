/- Walks and plain laws on the way to FnFjFloatNear. No condition but what each lemma states. -/
import Derived.Test.YtjemobfhlfejlaaGreatDoorRows
import Derived.LaidMore
import Derived.Handed
import Derived.KernelRfl
set_option linter.unusedVariables false
set_option linter.unusedSimpArgs false
namespace Go.Proofs.YtjemobfhlfejlaaGreatDoor.Wit
open Go
def okL (P : Program) (w : World) : List TypeId → List Value → Bool
  | [], [] => true
  | u :: us, v :: vs => Cell.okRefB P w u v && okL P w us vs
  | _, _ => false
theorem okL_len {P : Program} {w : World} : ∀ {us : List TypeId} {vs : List Value}, okL P w us vs = true → vs.length = us.length
  | [], [], _ => rfl
  | u :: us, v :: vs, h => by
    simp only [okL, Bool.and_eq_true] at h
    simp only [List.length_cons, okL_len h.2]
  | [], _ :: _, h => by simp [okL] at h
  | _ :: _, [], h => by simp [okL] at h
theorem okL_get {P : Program} {w : World} : ∀ {us : List TypeId} {vs : List Value}, okL P w us vs = true → ∀ (i : Nat) v, vs[i]? = some v → ∃ u, us[i]? = some u ∧ Cell.okRefB P w u v = true
  | [], [], _, i, v, h => by simp at h
  | u :: us, x :: vs, h, 0, v, hv => by
    simp only [okL, Bool.and_eq_true] at h
    simp only [List.getElem?_cons_zero, Option.some.injEq] at hv
    subst hv
    exact ⟨u, rfl, h.1⟩
  | u :: us, x :: vs, h, i + 1, v, hv => by
    simp only [okL, Bool.and_eq_true] at h
    rw [List.getElem?_cons_succ] at hv ⊢
    exact okL_get h.2 i v hv
  | [], _ :: _, h, _, _, _ => by simp [okL] at h
  | _ :: _, [], h, _, _, _ => by simp [okL] at h
def rowL (P : Program) (w : World) (t : TypeId) (cs : List Value) : Bool :=
  match P.cellTypes P.depth t with
  | some ts => okL P w ts cs
  | none => false
theorem rowL_ok {P : Program} {w : World} {base : Nat} {t : TypeId} {cs : Array Value} (h : rowL P w t cs.toList = true) : Row.ok P w .any base t cs := by
  unfold rowL at h
  split at h
  · rename_i ts hts
    have hl := okL_len h
    rw [Array.length_toList] at hl
    refine ⟨ts, hts, ⟨1, by omega⟩, fun i v hv => ?_⟩
    have hi : i < cs.size := (Array.getElem?_eq_some_iff.1 hv).1
    rw [← Array.getElem?_toList] at hv
    obtain ⟨u, hu, hc⟩ := okL_get h i v hv
    exact ⟨u, by rw [Nat.mod_eq_of_lt (by omega)]; exact hu, Cell.ok_of_okRefB hc⟩
  · cases h
def sameL : List Value → List Value → Bool
  | [], [] => true
  | _ :: a, _ :: b => sameL a b
  | _, _ => false
theorem sameL_len : ∀ {a b : List Value}, sameL a b = true → a.length = b.length
  | [], [], _ => rfl
  | _ :: a, _ :: b, h => by simp only [List.length_cons, sameL_len (a := a) (b := b) h]
  | [], _ :: _, h => by simp [sameL] at h
  | _ :: _, [], h => by simp [sameL] at h
def oneL (P : Program) (w : World) (g : Nat) : Bool :=
  match ((begin P (fun _ _ => 0) default).world.heap[g]?).bind Obj.row? with
  | none => true
  | some (zero, t) =>
    match w.heap[g]? with
    | some (.cells cs t' frozen) => decide (t' = t) && decide (frozen = (0, 0)) && sameL cs.toList zero.toList && (!P.buildable t || rowL P w t cs.toList)
    | _ => false
theorem shaped {P : Program} {w : World} (hv : (List.range P.globals.size).all (oneL P w) = true)
    (hr : (w.heap.toList.drop P.globals.size).take ((begin P (fun _ _ => 0) default).world.heap.size - P.globals.size) = (begin P (fun _ _ => 0) default).world.heap.toList.drop P.globals.size) : w.Shaped P := by
  refine ⟨fun g zero t hg hz => ?_, fun k h1 h2 => ?_⟩
  case refine_2 =>
    have := congrArg (·[k - P.globals.size]?) hr
    simp only [List.getElem?_take, List.getElem?_drop, Array.getElem?_toList] at this
    rw [if_pos (by omega), Nat.add_sub_cancel' h1] at this
    exact this
  simp only [List.all_eq_true, List.mem_range] at hv
  have := hv g hg
  unfold oneL at this
  rw [hz] at this
  simp only at this
  split at this
  · rename_i cs t' fr hw
    simp only [Bool.and_eq_true, decide_eq_true_eq, Bool.or_eq_true, Bool.not_eq_true'] at this
    obtain ⟨⟨⟨rfl, rfl⟩, hs⟩, hb⟩ := this
    refine ⟨cs, hw, by have := sameL_len hs; rwa [Array.length_toList, Array.length_toList] at this, fun hbuild => ?_⟩
    rcases hb with hb | hb
    · rw [hbuild] at hb; cases hb
    · exact rowL_ok hb
  · cases this
def runB (P : Program) (w : World) (r : Nat × Nat) : Bool :=
  match w.heap[r.1]? with
  | some (.cells c _ (0, 0)) => c.toList.all fun v => match v with | .iface u x => Value.okWideB P w u x | _ => true
  | _ => false
theorem row_mem {b n : Nat} {p : MemPlace} (h : p ∈ MemPlace.row ⟨b, 0, none⟩ n) : ∃ i, p = .cell b i := by
  unfold MemPlace.row at h
  obtain ⟨i, _, rfl⟩ := List.mem_map.1 h
  exact ⟨i, by simp⟩
theorem row_nodup (b n : Nat) : (MemPlace.row ⟨b, 0, none⟩ n).Nodup := by
  unfold MemPlace.row
  refine List.Pairwise.map _ (fun i j hij h => hij ?_) List.nodup_range
  injection h with _ h
  simpa using h
theorem runs_nodup : ∀ {rs : List (Nat × Nat)}, (rs.map (·.1)).Nodup → (rs.flatMap fun r => MemPlace.row ⟨r.1, 0, none⟩ r.2).Nodup
  | [], _ => List.nodup_nil
  | r :: rs, h => by
    rw [List.map_cons, List.nodup_cons] at h
    rw [List.flatMap_cons, List.nodup_append]
    refine ⟨row_nodup _ _, runs_nodup h.2, fun a ha b hb e => h.1 ?_⟩
    obtain ⟨i, h1⟩ := row_mem ha
    obtain ⟨s, hs, h2⟩ := List.mem_flatMap.1 hb
    obtain ⟨j, h3⟩ := row_mem h2
    rw [h1, h3] at e
    injection e with e _
    exact List.mem_map.2 ⟨s, hs, e.symm⟩
theorem laid_runs {P : Program} {w : World} {l : List (String × DataW Unit)} {rs : List (Nat × Nat)} (fuel : Nat) (h : DataW.laidRun P w fuel (l.map (·.1)) = some (l, rs.flatMap fun r => MemPlace.row ⟨r.1, 0, none⟩ r.2)) (hn : (rs.map (·.1)).Nodup) (hr : rs.all (runB P w) = true) : laidMet P l w := by
  refine ⟨_, DataW.LaidVars_of_laidRun h, runs_nodup hn, fun b off hp => ?_⟩
  obtain ⟨r, hrm, hp⟩ := List.mem_flatMap.1 hp
  obtain ⟨i, h1⟩ := row_mem hp
  injection h1 with h1 _
  have := List.all_eq_true.1 hr _ hrm
  unfold runB at this
  rw [← h1] at this
  split at this
  · rename_i c t hh
    refine ⟨⟨c, t, hh⟩, fun u v hc => ?_⟩
    unfold World.cell? at hc
    rw [hh] at hc
    simp only [Option.isSome_none, Bool.false_eq_true, if_false] at hc
    have hm : Value.iface u v ∈ c.toList := by rw [← Array.getElem?_toList] at hc; exact List.mem_of_getElem? hc
    exact Value.okWide_of_okWideB (List.all_eq_true.1 this _ hm)
  · cases this
def flat1 : DataW Unit → Value
  | .lit (.int k z) => .int k z
  | .lit (.float k b) => .float k b
  | .lit (.bool b) => .bool b
  | .lit (.string l) => .string ⟨l.toArray⟩
  | _ => undef
def flat2 : DataW Unit → List Value
  | .agg ds => ds.map flat1
  | d => [flat1 d]
def rowOf : DataW Unit → List Value
  | .agg ds => ds.flatMap flat2
  | .slice ds _ => ds.flatMap flat2
  | d => [flat1 d]
def lenOf : DataW Unit → Nat
  | .slice ds _ => ds.length
  | _ => 0
def errOf : DataW Unit → List Value
  | .iface _ (.ptr (.agg ds)) => ds.map flat1
  | _ => []
def blk (d : DataW Unit) (t : TypeId) : Obj := .cells (rowOf d).toArray t (0, 0)
def slc (d : DataW Unit) (b : Nat) (t : TypeId) : Obj := .cells #[.slice (some ⟨b, 0, none⟩) (lenOf d) (lenOf d)] t (0, 0)
def errv (b : Nat) : Obj := .cells #[.iface 84 (.pointer (some ⟨b, 0, none⟩))] 44 (0, 0)
open Rows in
def vars : List Obj := [.cells #[.bool false] 4 (0, 0), blk laid_pub_tetrapla_pub_fastjson_fastfloat_float64pow10 91, blk laid_math_pow10postab32 112, blk laid_math_pow10tab 113, blk laid_math_pow10negtab32 114, errv 24, errv 25, .cells #[.int .i64 0] 3 (0, 0), blk laid_internal_strconv_float32info 140, blk laid_internal_strconv_optimize 4, blk laid_internal_strconv_float64info 140, slc laid_internal_strconv_float32pow10 28 157, slc laid_internal_strconv_powtab 26 171, slc laid_internal_strconv_float64pow10 27 173, blk laid_internal_strconv_pow10Tab 178, slc laid_internal_strconv_leftcheats 29 189, blk laid_internal_strconv_uint64pow10 192, blk laid_math_bits_deBruijn32tab 197, blk laid_math_bits_deBruijn64tab 198]
open Rows in
def more : List Obj := [.cells (errOf laid_strconv_ErrSyntax).toArray 86 (0, 0), .cells (errOf laid_strconv_ErrRange).toArray 86 (0, 0), blk laid_internal_strconv_powtab 3, blk laid_internal_strconv_float64pow10 22, blk laid_internal_strconv_float32pow10 126, blk laid_internal_strconv_leftcheats 188]
noncomputable def ww (os : Os) : World :=
  { World.holding Tryz.prog os ⟨#[], #[], []⟩ with heap := (vars ++ ((World.holding Tryz.prog os ⟨#[], #[], []⟩).heap.toList.drop 19) ++ more).toArray }
def runs : List (Nat × Nat) := [(17, 32), (18, 64), (8, 3), (10, 3), (9, 1), (12, 1), (26, 9), (13, 1), (27, 23), (11, 1), (28, 11), (16, 20), (3, 32), (2, 10), (4, 11), (6, 1), (25, 1), (5, 1), (24, 1), (1, 17), (15, 1), (29, 122), (14, 1392)]
theorem ww_shaped (os : Os) (args : Array Value) : ((ww os).forCall (fun _ _ => 0) ⟨#[], args, []⟩).Shaped Tryz.prog :=
  shaped (by kernel_rfl) (by kernel_rfl)
theorem ww_laid (os : Os) (args : Array Value) : laidMet Tryz.prog Rows.fnFjFloatNearRow.laid ((ww os).forCall (fun _ _ => 0) ⟨#[], args, []⟩).memory :=
  laid_runs (rs := runs) 8 (by kernel_rfl) (by decide) (by kernel_rfl)
end Go.Proofs.YtjemobfhlfejlaaGreatDoor.Wit
