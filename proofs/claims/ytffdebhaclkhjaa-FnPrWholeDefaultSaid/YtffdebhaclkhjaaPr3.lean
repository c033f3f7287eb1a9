/- What the places' own writer puts down for a syntax tree. No condition but that places lie in the text and that what is written stays below 2^46 bytes, stated in each lemma. -/
import Derived.Test.YtffdebhaclkhjaaPr2
import Derived.Test.YtffdebhaclkhjaaSx15
set_option linter.unusedVariables false
set_option linter.unusedSimpArgs false
namespace Go.Proofs.Ytffdebhaclkhjaa.PFnPrWholeDefault
open Go.RowKit Go.Proofs.YtffdebhaclkhjaaW.PrintWords
/-- The text's bytes from i to j. -/
def sl (s : ByteArray) (i j : Nat) : List Int := ((bytesOf s).take j).drop i
theorem sl_length {s : ByteArray} {i j : Nat} (h : j ≤ s.size) : (sl s i j).length = j - i := by
  unfold sl; rw [List.length_drop, List.length_take, bytesOf_length]; omega
theorem bytesOf_extract (s : ByteArray) (i j : Nat) : bytesOf (s.extract i j) = sl s i j := by
  unfold sl bytesOf
  rw [← List.map_take, ← List.map_drop, ByteArray.data_extract, Array.toList_extract, List.extract_eq_take_drop, List.drop_take]
theorem extract_size {s : ByteArray} {i j : Nat} (h : j ≤ s.size) : (s.extract i j).size = j - i := by
  rw [← bytesOf_length, bytesOf_extract, sl_length h]
theorem bytesOf_append (a b : ByteArray) : bytesOf (a ++ b) = bytesOf a ++ bytesOf b := by
  simp [bytesOf]
mutual
/-- Is there an object in it? -/
def T.has : T → Bool
  | .leaf _ _ _ => false
  | .arr _ _ es => es.has
  | .obj _ _ _ => true
def Es.has : Es → Bool
  | .nil => false
  | .cons t r => t.has || r.has
end
mutual
/-- The value on one line. -/
def T.line (s : ByteArray) : T → List Int
  | .leaf _ i j => sl s i j
  | .obj i j _ => sl s i j
  | .arr _ _ es => 91 :: (es.line s ++ [93])
def Es.line (s : ByteArray) : Es → List Int
  | .nil => []
  | .cons t r => t.line s ++ r.lineR s
def Es.lineR (s : ByteArray) : Es → List Int
  | .nil => []
  | .cons t r => 44 :: 32 :: (t.line s ++ r.lineR s)
end
mutual
def T.ok (s : ByteArray) : T → Prop
  | .leaf kd i j => i ≤ j ∧ j ≤ s.size ∧ kd ≠ 5 ∧ kd ≠ 6
  | .arr i j es => i ≤ j ∧ j ≤ s.size ∧ es.l.length ≤ 4096 ∧ (es.line s).length ≤ 8192 ∧ es.ok s
  | .obj i j ms => i ≤ j ∧ j ≤ s.size ∧ ms.l.length ≤ 4096 ∧ ms.ok s
def Es.ok (s : ByteArray) : Es → Prop
  | .nil => True
  | .cons t r => t.ok s ∧ r.ok s
def Ms.ok (s : ByteArray) : Ms → Prop
  | .nil => True
  | .cons ni nj t r => ni ≤ nj ∧ nj ≤ s.size ∧ t.ok s ∧ r.ok s
end
theorem rd_mid (a : List S28) (x : S28) (b : List S28) : rd_T28 (a ++ x :: b) (a.length : Int) = x := by simp [rd_T28]
theorem rd_mid55 (a : List S55) (x : S55) (b : List S55) : rd_T55 (a ++ x :: b) (a.length : Int) = x := by simp [rd_T55]
theorem objs_true (x0 x1 x2 : Int) (x3 : List S55) : ∀ (r a : List S28), (a ++ r).length ≤ 4096 → Ev (fun k => spec_objects.l0 k true ((a ++ r).length : Int) (a.length : Int) x0 x1 x2 x3 (a ++ r)) true
  | [], a, h => Ev.step (f := fun _ => some true) (fun k => by rw [spec_objects.l0, if_neg (by simp)]) (Ev.now _)
  | t :: r, a, h => by
    have e : (a ++ [t]) ++ r = a ++ t :: r := by simp
    have ih := objs_true x0 x1 x2 x3 r (a ++ [t]) (by rw [e]; exact h)
    rw [e] at ih
    have hl : a.length < (a ++ t :: r).length := by simp
    refine Ev.step (fun k => ?_) ih
    rw [spec_objects.l0, if_pos (by omega), if_pos rfl, w64 (by omega) (by omega)]
    simp
mutual
theorem T.objs (s : ByteArray) : ∀ t : T, t.ok s → Ev (fun k => spec_objects.f k t.s.f0 t.s.f1 t.s.f2 t.s.f3 t.s.f4) t.has
  | .leaf kd i j, h => by
    rw [T.ok] at h
    have hk : (kd == 6) = false := beq_eq_false_iff_ne.mpr h.2.2.2
    refine Ev.step (f := fun k => spec_objects.l0 k false 0 0 kd i j [] []) (fun k => ?_) (Ev.step (f := fun _ => some false) (fun k => ?_) ?_)
    · simp only [T.s]; rw [spec_objects.f, hk]; rfl
    · rw [spec_objects.l0, if_neg (by omega)]
    · rw [T.has]; exact Ev.now _
  | .arr i j es, h => by
    rw [T.ok] at h
    have := Es.objs s es [] 5 i j [] h.2.2.2.2 (by simpa using h.2.2.1)
    rw [T.has]
    refine Ev.step (fun k => ?_) this
    simp only [T.s]
    rw [spec_objects.f]
    rfl
  | .obj i j ms, h => by
    rw [T.ok] at h
    have := objs_true 6 i j ms.names ms.l [] (by simpa using h.2.2.1)
    rw [T.has]
    refine Ev.step (fun k => ?_) this
    simp only [T.s]
    rw [spec_objects.f]
    rfl
theorem Es.objs (s : ByteArray) : ∀ (es : Es) (a : List S28) (x0 x1 x2 : Int) (x3 : List S55), es.ok s → (a ++ es.l).length ≤ 4096 → Ev (fun k => spec_objects.l0 k false ((a ++ es.l).length : Int) (a.length : Int) x0 x1 x2 x3 (a ++ es.l)) es.has
  | .nil, a, x0, x1, x2, x3, h, hl => by
    rw [Es.has]
    exact Ev.step (f := fun _ => some false) (fun k => by rw [spec_objects.l0, if_neg (by simp [Es.l])]) (Ev.now _)
  | .cons t r, a, x0, x1, x2, x3, h, hl => by
    rw [Es.ok] at h
    rw [Es.l] at hl ⊢
    have e : (a ++ [t.s]) ++ r.l = a ++ t.s :: r.l := by simp
    have hlt : a.length < (a ++ t.s :: r.l).length := by simp
    have ht := T.objs s t h.1
    have e2 : wrap64 ((a.length : Int) + 1) = ((a ++ [t.s]).length : Int) := by rw [w64 (by omega) (by omega)]; simp
    have st : ∀ k, spec_objects.l0 (k + 1) false ((a ++ t.s :: r.l).length : Int) (a.length : Int) x0 x1 x2 x3 (a ++ t.s :: r.l) = (spec_objects.f k t.s.f0 t.s.f1 t.s.f2 t.s.f3 t.s.f4).bind fun t628 => (spec_objects.l0 k t628 ((a ++ t.s :: r.l).length : Int) ((a ++ [t.s]).length : Int) x0 x1 x2 x3 (a ++ t.s :: r.l)) := by
      intro k
      rw [spec_objects.l0, if_pos (by omega), if_neg (by simp), if_pos (by omega), if_pos (by omega), rd_mid, e2]
    rw [Es.has]
    refine Ev.step st (Ev.bind ht ?_)
    cases hb : t.has with
    | true =>
      have := objs_true x0 x1 x2 x3 r.l (a ++ [t.s]) (by rw [e]; exact hl)
      rw [e] at this
      exact this
    | false =>
      have := Es.objs s r (a ++ [t.s]) x0 x1 x2 x3 h.2 (by rw [e]; exact hl)
      rw [e] at this
      exact this
end
theorem line_slice {s : ByteArray} {l : List Int} {i j : Nat} (hij : i ≤ j) (hj : j ≤ s.size) (hl : l.length + (sl s i j).length < 70368744177664) {kd : Int} (hk : kd ≠ 5) (nm : List S55) (kids : List S28) : Ev (fun k => spec_lineTo.f k l s kd (i : Int) (j : Int) nm kids) (l ++ sl s i j) := by
  refine Ev.step (f := fun _ => some (l ++ sl s i j)) (fun k => ?_) (Ev.now _)
  rw [sl_length hj] at hl
  rw [spec_lineTo.f, if_neg hk, if_pos (by omega), if_pos (by omega), if_pos (by omega), Int.toNat_natCast, Int.toNat_natCast, extract_size hj, if_pos (by omega), bytesOf_extract]
mutual
theorem T.lineTo (s : ByteArray) : ∀ (t : T) (l : List Int), t.ok s → l.length + (t.line s).length < 70368744177664 → Ev (fun k => spec_lineTo.f k l s t.s.f0 t.s.f1 t.s.f2 t.s.f3 t.s.f4) (l ++ t.line s)
  | .leaf kd i j, l, h, hl => by
    rw [T.ok] at h
    rw [T.line] at hl ⊢
    simp only [T.s]
    exact line_slice h.1 h.2.1 hl h.2.2.1 _ _
  | .obj i j ms, l, h, hl => by
    rw [T.ok] at h
    rw [T.line] at hl ⊢
    simp only [T.s]
    exact line_slice h.1 h.2.1 hl (by decide) _ _
  | .arr i j .nil, l, h, hl => by
    rw [T.line, Es.line] at hl ⊢
    simp only [List.length_cons, List.length_append, List.length_nil] at hl
    simp only [T.s, Es.l]
    refine Ev.step (f := fun k => spec_lineTo.l0 k (l ++ [91]) s 0 0 5 i j [] []) (fun k => ?_) (Ev.step (f := fun _ => some (l ++ 91 :: ([] ++ [93]))) (fun k => ?_) (Ev.now _))
    · rw [spec_lineTo.f, if_pos rfl, if_pos (by omega)]; rfl
    · rw [spec_lineTo.l0, if_neg (by omega), if_pos (by simp only [List.length_append, List.length_cons, List.length_nil]; omega)]; simp
  | .arr i j (.cons t r), l, h, hl => by
    rw [T.ok, Es.ok, Es.l] at h
    rw [T.line, Es.line] at hl ⊢
    simp only [List.length_cons, List.length_append, List.length_nil] at hl
    obtain ⟨_, _, hle, _, h1, h2⟩ := h
    have ht := T.lineTo s t (l ++ [91]) h1 (by simp only [List.length_append, List.length_cons, List.length_nil]; omega)
    have hr := Es.lineToR s r [t.s] (l ++ [91] ++ t.line s) 5 i j [] h2 (by simp) (by simpa using hle) (by simp only [List.length_append, List.length_cons, List.length_nil]; omega)
    have hle2 : (t.s :: r.l).length ≤ 4096 := hle
    simp only [T.s, Es.l]
    refine Ev.step (f := fun k => spec_lineTo.l0 k (l ++ [91]) s ((t.s :: r.l).length : Int) 0 5 i j [] (t.s :: r.l)) (fun k => ?_) (Ev.step (fun k => ?_) (Ev.bind (f := fun k t647 => spec_lineTo.l0 k t647 s ((t.s :: r.l).length : Int) 1 5 i j [] (t.s :: r.l)) ht ?_))
    · rw [spec_lineTo.f, if_pos rfl, if_pos (by omega)]
    · have e0 : rd_T28 (t.s :: r.l) 0 = t.s := rfl
      have hpos : (0 : Int) < ((t.s :: r.l).length : Int) := by simp only [List.length_cons]; omega
      rw [spec_lineTo.l0, if_pos hpos, if_neg (by omega), if_pos (by omega), if_pos hpos, e0, show wrap64 (0 + 1) = 1 from w64 (by omega) (by omega)]
    · have e : l ++ 91 :: (t.line s ++ r.lineR s ++ [93]) = (l ++ [91] ++ t.line s) ++ (r.lineR s ++ [93]) := by simp
      rw [e]
      exact hr
theorem Es.lineToR (s : ByteArray) : ∀ (es : Es) (a : List S28) (l : List Int) (x0 x1 x2 : Int) (x3 : List S55), es.ok s → a ≠ [] → (a ++ es.l).length ≤ 4096 → l.length + (es.lineR s ++ [93]).length < 70368744177664 → Ev (fun k => spec_lineTo.l0 k l s ((a ++ es.l).length : Int) (a.length : Int) x0 x1 x2 x3 (a ++ es.l)) (l ++ (es.lineR s ++ [93]))
  | .nil, a, l, x0, x1, x2, x3, h, ha, hle, hl => by
    rw [Es.lineR] at hl ⊢
    simp only [List.length_cons, List.length_append, List.length_nil] at hl
    exact Ev.step (f := fun _ => some (l ++ ([] ++ [93]))) (fun k => by rw [spec_lineTo.l0, if_neg (by simp [Es.l]), if_pos (by omega)]; rfl) (Ev.now _)
  | .cons t r, a, l, x0, x1, x2, x3, h, ha, hle, hl => by
    rw [Es.ok] at h
    rw [Es.lineR] at hl ⊢
    rw [Es.l] at hle ⊢
    simp only [List.length_cons, List.length_append, List.length_nil] at hl
    have e : (a ++ [t.s]) ++ r.l = a ++ t.s :: r.l := by simp
    have hlt : a.length < (a ++ t.s :: r.l).length := by simp
    have hpos : 0 < a.length := List.length_pos_iff.mpr ha
    have ht := T.lineTo s t (l ++ [44, 32]) h.1 (by simp only [List.length_append, List.length_cons, List.length_nil]; omega)
    have hr := Es.lineToR s r (a ++ [t.s]) (l ++ [44, 32] ++ t.line s) x0 x1 x2 x3 h.2 (by simp) (by rw [e]; exact hle) (by simp only [List.length_append, List.length_cons, List.length_nil]; omega)
    rw [e] at hr
    have e2 : wrap64 ((a.length : Int) + 1) = ((a ++ [t.s]).length : Int) := by rw [w64 (by omega) (by omega)]; simp
    refine Ev.step (fun k => ?_) (Ev.bind (f := fun k t643 => spec_lineTo.l0 k t643 s ((a ++ t.s :: r.l).length : Int) ((a ++ [t.s]).length : Int) x0 x1 x2 x3 (a ++ t.s :: r.l)) ht ?_)
    · rw [spec_lineTo.l0, if_pos (by omega), if_pos (by omega), Option.bind_some, if_pos (by simp only [List.length_cons, List.length_nil]; omega), if_pos (by omega), if_pos (by omega), rd_mid, e2]
    · have e3 : l ++ (44 :: 32 :: (t.line s ++ r.lineR s) ++ [93]) = (l ++ [44, 32] ++ t.line s) ++ (r.lineR s ++ [93]) := by simp
      rw [e3]
      exact hr
end
def ind (d : Nat) : List Int := List.replicate (2 * d) 32
theorem ind_length (d : Nat) : (ind d).length = 2 * d := by simp [ind]
mutual
/-- The value laid out d deep, its first byte in column col. -/
def T.body (s : ByteArray) : T → Nat → Nat → List Int
  | .leaf _ i j, d, col => sl s i j
  | .arr i j .nil, d, col => [91, 93]
  | .arr i j (.cons t r), d, col =>
    if col + 3 < 80 ∧ (t.has || r.has) = false ∧ (T.line s (.arr i j (.cons t r))).length + col ≤ 80 then T.line s (.arr i j (.cons t r))
    else 91 :: 10 :: (ind (d + 1) ++ (t.body s (d + 1) (2 * (d + 1) + 1) ++ (r.bodyR s (d + 1) ++ (10 :: (ind d ++ [93])))))
  | .obj i j .nil, d, col => [123, 125]
  | .obj i j (.cons ni nj t r), d, col => 123 :: 10 :: (ind (d + 1) ++ (sl s ni nj ++ (58 :: 32 :: (t.body s (d + 1) (2 * (d + 1) + (nj - ni) + 3) ++ (r.bodyR s (d + 1) ++ (10 :: (ind d ++ [125])))))))
def Es.bodyR (s : ByteArray) : Es → Nat → List Int
  | .nil, d => []
  | .cons t r, d => 44 :: 10 :: (ind d ++ (t.body s d (2 * d) ++ r.bodyR s d))
def Ms.bodyR (s : ByteArray) : Ms → Nat → List Int
  | .nil, d => []
  | .cons ni nj t r, d => 44 :: 10 :: (ind d ++ (sl s ni nj ++ (58 :: 32 :: (t.body s d (2 * d + (nj - ni) + 3) ++ r.bodyR s d))))
end
theorem bare_leaf {s : ByteArray} {l : List Int} {i j : Nat} {kd : Int} (hij : i ≤ j) (hj : j ≤ s.size) (h5 : kd ≠ 5) (h6 : kd ≠ 6) (hl : l.length + (sl s i j).length < 70368744177664) (nm : List S55) (kids : List S28) : Ev (fun k => spec_bareTo.f k l s kd (i : Int) (j : Int) nm kids) (l ++ sl s i j) := by
  rw [sl_length hj] at hl
  refine Ev.step (f := fun k => spec_bareTo.j0 k l s true kd i j nm kids) (fun k => ?_) (Ev.step (f := fun _ => some (l ++ sl s i j)) (fun k => ?_) (Ev.now _))
  · rw [spec_bareTo.f, if_neg h5, bne_iff_ne.mpr h6]
  · rw [spec_bareTo.j0, if_pos rfl, if_pos (by omega), if_pos (by omega), if_pos (by omega), Int.toNat_natCast, Int.toNat_natCast, extract_size hj, if_pos (by omega), bytesOf_extract]
theorem bare_j1 {s : ByteArray} {l : List Int} (hl : l.length + 2 < 70368744177664) (a b kd i j : Int) (nm : List S55) : Ev (fun k => spec_bareTo.j1 k l s a b kd i j nm []) (l ++ [a, b]) := by
  refine Ev.step (f := fun k => spec_bareTo.l0 k (l ++ [a]) s b 0 0 kd i j nm []) (fun k => ?_) (Ev.step (f := fun _ => some (l ++ [a, b])) (fun k => ?_) (Ev.now _))
  · rw [spec_bareTo.j1, if_pos (by omega)]; rfl
  · rw [spec_bareTo.l0, if_neg (by omega), if_pos (by simp only [List.length_append, List.length_cons, List.length_nil]; omega)]; simp
theorem bare_arr {s : ByteArray} {l : List Int} (hl : l.length + 2 < 70368744177664) (i j : Int) (nm : List S55) : Ev (fun k => spec_bareTo.f k l s 5 i j nm []) (l ++ [91, 93]) :=
  Ev.step (f := fun k => spec_bareTo.j0 k l s false 5 i j nm []) (fun k => by rw [spec_bareTo.f, if_pos rfl]) (Ev.step (f := fun k => spec_bareTo.j1 k l s 91 93 5 i j nm []) (fun k => by rw [spec_bareTo.j0, if_neg (by simp), if_neg (by decide)]) (bare_j1 hl _ _ _ _ _ _))
theorem bare_obj {s : ByteArray} {l : List Int} (hl : l.length + 2 < 70368744177664) (i j : Int) (nm : List S55) : Ev (fun k => spec_bareTo.f k l s 6 i j nm []) (l ++ [123, 125]) :=
  Ev.step (f := fun k => spec_bareTo.j0 k l s false 6 i j nm []) (fun k => by rw [spec_bareTo.f, if_neg (by decide)]; rfl) (Ev.step (f := fun k => spec_bareTo.j1 k l s 123 125 6 i j nm []) (fun k => by rw [spec_bareTo.j0, if_neg (by simp), if_pos rfl]) (bare_j1 hl _ _ _ _ _ _))
theorem layout_bare {s : ByteArray} {l r : List Int} {p : ByteArray} {kd i j : Int} {nm : List S55} {a4 : ByteArray} {col : Int} (h : Ev (fun k => spec_bareTo.f k l s kd i j nm []) r) : Ev (fun k => spec_Layout_value.f k p ⟨#[32, 32]⟩ 80 l s kd i j nm [] a4 col) r :=
  Ev.step (fun k => by rw [spec_Layout_value.f, if_pos (by rfl)]) (Ev.bind h (Ev.now _))
theorem two_sp : bytesOf (⟨#[32, 32]⟩ : ByteArray) = [32, 32] := rfl
theorem ind_more {a : ByteArray} {d : Nat} (h : bytesOf a = ind d) : bytesOf (a ++ ⟨#[32, 32]⟩) = ind (d + 1) := by
  rw [bytesOf_append, h, two_sp]
  unfold ind
  show List.replicate (2 * d) (32 : Int) ++ List.replicate 2 32 = _
  rw [List.replicate_append_replicate]
  rfl
theorem ind_size {a : ByteArray} {d : Nat} (h : bytesOf a = ind d) : a.size = 2 * d := by rw [← bytesOf_length, h, ind_length]
/-- The places' writer, at a value. -/
def Lays (s p : ByteArray) (t : T) : Prop := ∀ (d col : Nat) (l : List Int) (a4 : ByteArray), bytesOf a4 = ind d → col < 140737488355328 → l.length + (t.body s d col).length < 70368744177664 →
  Ev (fun k => spec_Layout_value.f k p ⟨#[32, 32]⟩ 80 l s t.s.f0 t.s.f1 t.s.f2 t.s.f3 t.s.f4 a4 (col : Int)) (l ++ t.body s d col)
def LaysR (s p : ByteArray) (es : Es) : Prop := ∀ (d : Nat) (a : List S28) (l : List Int) (a4 a5 : ByteArray) (c : Int) (x0 x1 x2 : Int) (x3 : List S55), bytesOf a4 = ind d → bytesOf a5 = ind (d + 1) → a ≠ [] → (a ++ es.l).length ≤ 4096 → l.length + (es.bodyR s (d + 1) ++ (10 :: (ind d ++ [93]))).length < 70368744177664 →
  Ev (fun k => spec_Layout_elements.l0 k l s a4 a5 c ((a ++ es.l).length : Int) (a.length : Int) p ⟨#[32, 32]⟩ 80 x0 x1 x2 x3 (a ++ es.l)) (l ++ (es.bodyR s (d + 1) ++ (10 :: (ind d ++ [93]))))
def LaysM (s p : ByteArray) (ms : Ms) : Prop := ∀ (d : Nat) (a : List S28) (b : List S55) (l : List Int) (a4 a5 : ByteArray) (x0 x1 x2 : Int), bytesOf a4 = ind d → bytesOf a5 = ind (d + 1) → a ≠ [] → b.length = a.length → (a ++ ms.l).length ≤ 4096 → l.length + (ms.bodyR s (d + 1) ++ (10 :: (ind d ++ [125]))).length < 70368744177664 →
  Ev (fun k => spec_Layout_value.l0 k l s a4 a5 ((a ++ ms.l).length : Int) (a.length : Int) p ⟨#[32, 32]⟩ 80 x0 x1 x2 (b ++ ms.names) (a ++ ms.l)) (l ++ (ms.bodyR s (d + 1) ++ (10 :: (ind d ++ [125]))))
theorem laysR_nil (s p : ByteArray) : LaysR s p .nil := by
  intro d a l a4 a5 c x0 x1 x2 x3 h4 h5 ha hle hl
  rw [Es.bodyR] at hl ⊢
  simp only [List.nil_append, List.length_cons, List.length_append, List.length_nil, ind_length] at hl
  refine Ev.step (f := fun _ => some (l ++ ([] ++ (10 :: (ind d ++ [93]))))) (fun k => ?_) (Ev.now _)
  rw [spec_Layout_elements.l0, if_neg (by simp [Es.l]), if_pos (by omega), Option.bind_some, if_pos (by rw [ind_size h4]; simp only [List.length_append, List.length_cons, List.length_nil]; omega), Option.bind_some, if_pos (by simp only [List.length_append, List.length_cons, List.length_nil, h4, ind_length]; omega), h4]
  simp
theorem laysR_cons {s p : ByteArray} {t : T} {r : Es} (ht : Lays s p t) (hr : LaysR s p r) : LaysR s p (.cons t r) := by
  intro d a l a4 a5 c x0 x1 x2 x3 h4 h5 ha hle hl
  rw [Es.bodyR] at hl ⊢
  rw [Es.l] at hle ⊢
  simp only [List.cons_append, List.append_assoc, List.length_cons, List.length_append, List.length_nil, ind_length] at hl
  have e : (a ++ [t.s]) ++ r.l = a ++ t.s :: r.l := by simp
  have hlt : a.length < (a ++ t.s :: r.l).length := by simp
  have hpos : 0 < a.length := List.length_pos_iff.mpr ha
  have h1 := ht (d + 1) (2 * (d + 1)) (l ++ [44] ++ [10] ++ ind (d + 1)) a5 h5 (by omega) (by simp only [List.length_append, List.length_cons, List.length_nil, ind_length]; omega)
  have h2 := hr d (a ++ [t.s]) (l ++ [44] ++ [10] ++ ind (d + 1) ++ t.body s (d + 1) (2 * (d + 1))) a4 a5 (a5.size : Int) x0 x1 x2 x3 h4 h5 (by simp) (by rw [e]; exact hle) (by simp only [List.cons_append, List.append_assoc, List.length_append, List.length_cons, List.length_nil, ind_length]; omega)
  rw [e] at h2
  have e2 : Aside0 (wrap64 ((a.length : Int) + 1) = ((a ++ [t.s]).length : Int)) := ⟨by rw [w64 (by omega) (by omega)]; simp⟩
  refine Ev.step (fun k => ?_) (Ev.bind (f := fun k t668 => spec_Layout_elements.l0 k t668 s a4 a5 (a5.size : Int) ((a ++ t.s :: r.l).length : Int) ((a ++ [t.s]).length : Int) p ⟨#[32, 32]⟩ 80 x0 x1 x2 x3 (a ++ t.s :: r.l)) h1 ?_)
  · rw [spec_Layout_elements.l0, if_pos (by omega), if_pos (by omega), if_pos (by omega), Option.bind_some, if_pos (by simp only [List.length_append, List.length_cons, List.length_nil]; omega), Option.bind_some, if_pos (by rw [ind_size h5]; simp only [List.length_append, List.length_cons, List.length_nil]; omega), if_pos (by omega), if_pos (by omega), rd_mid, e2.out, h5, ind_size h5]
  · have e3 : l ++ (44 :: 10 :: (ind (d + 1) ++ (t.body s (d + 1) (2 * (d + 1)) ++ r.bodyR s (d + 1))) ++ 10 :: (ind d ++ [93])) = (l ++ [44] ++ [10] ++ ind (d + 1) ++ t.body s (d + 1) (2 * (d + 1))) ++ (r.bodyR s (d + 1) ++ 10 :: (ind d ++ [93])) := by simp
    rw [e3]
    exact h2
theorem laysM_nil (s p : ByteArray) : LaysM s p .nil := by
  intro d a b l a4 a5 x0 x1 x2 h4 h5 ha hb hle hl
  rw [Ms.bodyR] at hl ⊢
  simp only [List.nil_append, List.length_cons, List.length_append, List.length_nil, ind_length] at hl
  refine Ev.step (f := fun _ => some (l ++ ([] ++ (10 :: (ind d ++ [125]))))) (fun k => ?_) (Ev.now _)
  rw [spec_Layout_value.l0, if_neg (by simp [Ms.l]), if_pos (by omega), Option.bind_some, if_pos (by rw [ind_size h4]; simp only [List.length_append, List.length_cons, List.length_nil]; omega), Option.bind_some, if_pos (by simp only [List.length_append, List.length_cons, List.length_nil, h4, ind_length]; omega), h4]
  simp
theorem laysM_cons {s p : ByteArray} {ni nj : Nat} {t : T} {r : Ms} (hij : ni ≤ nj) (hj : nj ≤ s.size) (ht : Lays s p t) (hr : LaysM s p r) : LaysM s p (.cons ni nj t r) := by
  intro d a b l a4 a5 x0 x1 x2 h4 h5 ha hb hle hl
  have hsl := sl_length (s := s) (i := ni) hj
  rw [Ms.bodyR] at hl ⊢
  rw [Ms.l] at hle ⊢
  rw [Ms.names]
  simp only [List.cons_append, List.append_assoc, List.length_cons, List.length_append, List.length_nil, ind_length, hsl] at hl
  have e : (a ++ [t.s]) ++ r.l = a ++ t.s :: r.l := by simp
  have e' : (b ++ [(⟨(ni : Int), (nj : Int)⟩ : S55)]) ++ r.names = b ++ (⟨(ni : Int), (nj : Int)⟩ : S55) :: r.names := by simp
  have hlt : a.length < (a ++ t.s :: r.l).length := by simp
  have hpos : 0 < a.length := List.length_pos_iff.mpr ha
  have h1 := ht (d + 1) (2 * (d + 1) + (nj - ni) + 3) (l ++ [44] ++ [10] ++ ind (d + 1) ++ sl s ni nj ++ [58, 32]) a5 h5 (by omega) (by simp only [List.length_append, List.length_cons, List.length_nil, ind_length, hsl]; omega)
  have h2 := hr d (a ++ [t.s]) (b ++ [⟨(ni : Int), (nj : Int)⟩]) (l ++ [44] ++ [10] ++ ind (d + 1) ++ sl s ni nj ++ [58, 32] ++ t.body s (d + 1) (2 * (d + 1) + (nj - ni) + 3)) a4 a5 x0 x1 x2 h4 h5 (by simp) (by simp [hb]) (by rw [e]; exact hle) (by simp only [List.cons_append, List.append_assoc, List.length_append, List.length_cons, List.length_nil, ind_length, hsl]; omega)
  rw [e, e'] at h2
  have e2 : Aside0 (wrap64 ((a.length : Int) + 1) = ((a ++ [t.s]).length : Int)) := ⟨by rw [w64 (by omega) (by omega)]; simp⟩
  have rdb : rd_T55 (b ++ (⟨(ni : Int), (nj : Int)⟩ : S55) :: r.names) (a.length : Int) = ⟨(ni : Int), (nj : Int)⟩ := by rw [← hb]; exact rd_mid55 _ _ _
  have hblt : (a.length : Int) < ((b ++ (⟨(ni : Int), (nj : Int)⟩ : S55) :: r.names).length : Int) := by rw [← hb]; simp only [List.length_append, List.length_cons]; omega
  have e4 : Aside0 (wrap64 ((wrap64 ((a5.size : Int) + ((nj - ni : Nat) : Int))) + 3) = ((2 * (d + 1) + (nj - ni) + 3 : Nat) : Int)) := ⟨by
    rw [ind_size h5, w64 (x := ((2 * (d + 1) : Nat) : Int) + ((nj - ni : Nat) : Int)) (by omega) (by omega), w64 (by omega) (by omega)]; omega⟩
  refine Ev.step (fun k => ?_) (Ev.bind (f := fun k t729 => spec_Layout_value.l0 k t729 s a4 a5 ((a ++ t.s :: r.l).length : Int) ((a ++ [t.s]).length : Int) p ⟨#[32, 32]⟩ 80 x0 x1 x2 (b ++ (⟨(ni : Int), (nj : Int)⟩ : S55) :: r.names) (a ++ t.s :: r.l)) h1 ?_)
  · have q1 : (((⟨(ni : Int), (nj : Int)⟩ : S55).f0 : Int)).toNat = ni := Int.toNat_natCast ni
    have q2 : (((⟨(ni : Int), (nj : Int)⟩ : S55).f1 : Int)).toNat = nj := Int.toNat_natCast nj
    rw [spec_Layout_value.l0]
    refine (if_pos (by omega)).trans ((if_pos (by omega)).trans ((if_pos (by omega)).trans ((Option.bind_some _ _).trans ((if_pos (by omega)).trans ((if_pos hblt).trans ?_)))))
    rw [rdb, rd_mid, e2.out]
    refine (if_pos (Int.natCast_nonneg ni)).trans ((if_pos (Int.ofNat_le.mpr hij)).trans ((if_pos (Int.ofNat_le.mpr hj)).trans ?_))
    rw [q1, q2, bytesOf_extract, extract_size hj, e4.out, h5]
    refine (if_pos (by simp only [List.length_append, List.length_cons, List.length_nil]; omega)).trans ((Option.bind_some _ _).trans ((if_pos (by rw [ind_size h5]; simp only [List.length_append, List.length_cons, List.length_nil]; omega)).trans ((Option.bind_some _ _).trans ?_)))
    refine (if_pos (by simp only [List.length_append, List.length_cons, List.length_nil, ind_length]; omega)).trans ((Option.bind_some _ _).trans ((Option.bind_some _ _).trans ((if_pos (by simp only [List.length_append, List.length_cons, List.length_nil, ind_length, hsl]; omega)).trans ((if_pos (by omega)).trans rfl))))
  · have e3 : l ++ (44 :: 10 :: (ind (d + 1) ++ (sl s ni nj ++ 58 :: 32 :: (t.body s (d + 1) (2 * (d + 1) + (nj - ni) + 3) ++ r.bodyR s (d + 1)))) ++ 10 :: (ind d ++ [125])) = (l ++ [44] ++ [10] ++ ind (d + 1) ++ sl s ni nj ++ [58, 32] ++ t.body s (d + 1) (2 * (d + 1) + (nj - ni) + 3)) ++ (r.bodyR s (d + 1) ++ 10 :: (ind d ++ [125])) := by simp
    rw [e3]
    exact h2
/-- The writer's road that does not fit a line: an array's. -/
theorem lay_arr {s p : ByteArray} {t : T} {r : Es} (i j : Int) (ht : Lays s p t) (hr : LaysR s p r) (hle : (t.s :: r.l).length ≤ 4096) (d : Nat) (l : List Int) (a4 : ByteArray) (h4 : bytesOf a4 = ind d)
    (hl : l.length + (91 :: 10 :: (ind (d + 1) ++ (t.body s (d + 1) (2 * (d + 1) + 1) ++ (r.bodyR s (d + 1) ++ (10 :: (ind d ++ [93])))))).length < 70368744177664) :
    Ev (fun k => spec_Layout_value.j1 k l s a4 p ⟨#[32, 32]⟩ 80 5 i j [] (t.s :: r.l)) (l ++ (91 :: 10 :: (ind (d + 1) ++ (t.body s (d + 1) (2 * (d + 1) + 1) ++ (r.bodyR s (d + 1) ++ (10 :: (ind d ++ [93]))))))) := by
  simp only [List.length_cons, List.length_append, List.length_nil, ind_length] at hl
  have h5 := ind_more h4
  have z4 := ind_size h4
  have z5 := ind_size h5
  have hpos : (0 : Int) < ((t.s :: r.l).length : Int) := by simp only [List.length_cons]; omega
  have hN : ((t.s :: r.l).length : Int) = (([t.s] ++ r.l).length : Int) := rfl
  have h1 := ht (d + 1) (2 * (d + 1) + 1) (l ++ [91] ++ [10] ++ ind (d + 1)) (a4 ++ ⟨#[32, 32]⟩) h5 (by omega) (by simp only [List.length_append, List.length_cons, List.length_nil, ind_length]; omega)
  have h2 := hr d [t.s] (l ++ [91] ++ [10] ++ ind (d + 1) ++ t.body s (d + 1) (2 * (d + 1) + 1)) a4 (a4 ++ ⟨#[32, 32]⟩) ((2 * (d + 1) + 1 : Nat) : Int) 5 i j [] h4 h5 (by simp) hle (by simp only [List.cons_append, List.append_assoc, List.length_append, List.length_cons, List.length_nil, ind_length]; omega)
  have e1 : Aside0 (wrap64 (0 + 1) = 1) := ⟨w64 (by omega) (by omega)⟩
  have e4 : Aside0 (wrap64 (((a4 ++ ⟨#[32, 32]⟩ : ByteArray).size : Int) + 1) = ((2 * (d + 1) + 1 : Nat) : Int)) := ⟨by rw [z5, w64 (by omega) (by omega)]; omega⟩
  have go : Ev (fun k => spec_Layout_elements.l0 k (l ++ [91]) s a4 (a4 ++ ⟨#[32, 32]⟩) ((2 * (d + 1) + 1 : Nat) : Int) ((t.s :: r.l).length : Int) 0 p ⟨#[32, 32]⟩ 80 5 i j [] (t.s :: r.l)) (l ++ (91 :: 10 :: (ind (d + 1) ++ (t.body s (d + 1) (2 * (d + 1) + 1) ++ (r.bodyR s (d + 1) ++ (10 :: (ind d ++ [93]))))))) := by
    refine Ev.step (fun k => ?_) (Ev.bind (f := fun k t678 => spec_Layout_elements.l0 k t678 s a4 (a4 ++ ⟨#[32, 32]⟩) ((2 * (d + 1) + 1 : Nat) : Int) ((t.s :: r.l).length : Int) 1 p ⟨#[32, 32]⟩ 80 5 i j [] (t.s :: r.l)) h1 ?_)
    · have e0 : rd_T28 (t.s :: r.l) 0 = t.s := rfl
      rw [spec_Layout_elements.l0]
      refine (if_pos hpos).trans ((if_neg (by omega)).trans ((if_pos (by simp only [List.length_append, List.length_cons, List.length_nil]; omega)).trans ((Option.bind_some _ _).trans ((if_pos (by rw [z5]; simp only [List.length_append, List.length_cons, List.length_nil]; omega)).trans ((if_pos (by omega)).trans ((if_pos hpos).trans ?_))))))
      rw [e0, h5, e1.out]
    · have e3 : l ++ (91 :: 10 :: (ind (d + 1) ++ (t.body s (d + 1) (2 * (d + 1) + 1) ++ (r.bodyR s (d + 1) ++ 10 :: (ind d ++ [93]))))) = (l ++ [91] ++ [10] ++ ind (d + 1) ++ t.body s (d + 1) (2 * (d + 1) + 1)) ++ (r.bodyR s (d + 1) ++ 10 :: (ind d ++ [93])) := by simp
      rw [e3]
      exact h2
  have el : Ev (fun k => spec_Layout_elements.f k p ⟨#[32, 32]⟩ 80 l s 5 i j [] (t.s :: r.l) a4) (l ++ (91 :: 10 :: (ind (d + 1) ++ (t.body s (d + 1) (2 * (d + 1) + 1) ++ (r.bodyR s (d + 1) ++ (10 :: (ind d ++ [93]))))))) := by
    refine Ev.step (fun k => ?_) go
    rw [spec_Layout_elements.f]
    refine (if_pos (by rw [z4]; show 2 * d + 2 ≤ _; omega)).trans ((if_pos (by omega)).trans ?_)
    rw [e4.out]
  refine Ev.step (fun k => ?_) (Ev.bind (f := fun _ x => some x) el (Ev.now _))
  rw [spec_Layout_value.j1]
  exact if_pos rfl
/-- An object's. -/
theorem lay_obj {s p : ByteArray} {ni nj : Nat} {t : T} {r : Ms} (i j : Int) (hij : ni ≤ nj) (hj : nj ≤ s.size) (ht : Lays s p t) (hr : LaysM s p r) (hle : (t.s :: r.l).length ≤ 4096) (d : Nat) (l : List Int) (a4 : ByteArray) (h4 : bytesOf a4 = ind d)
    (hl : l.length + (123 :: 10 :: (ind (d + 1) ++ (sl s ni nj ++ (58 :: 32 :: (t.body s (d + 1) (2 * (d + 1) + (nj - ni) + 3) ++ (r.bodyR s (d + 1) ++ (10 :: (ind d ++ [125])))))))).length < 70368744177664) :
    Ev (fun k => spec_Layout_value.j1 k l s a4 p ⟨#[32, 32]⟩ 80 6 i j (⟨(ni : Int), (nj : Int)⟩ :: r.names) (t.s :: r.l)) (l ++ (123 :: 10 :: (ind (d + 1) ++ (sl s ni nj ++ (58 :: 32 :: (t.body s (d + 1) (2 * (d + 1) + (nj - ni) + 3) ++ (r.bodyR s (d + 1) ++ (10 :: (ind d ++ [125]))))))))) := by
  have hsl := sl_length (s := s) (i := ni) hj
  simp only [List.length_cons, List.length_append, List.length_nil, ind_length, hsl] at hl
  have h5 := ind_more h4
  have z4 := ind_size h4
  have z5 := ind_size h5
  have hpos : (0 : Int) < ((t.s :: r.l).length : Int) := by simp only [List.length_cons]; omega
  have hpos2 : (0 : Int) < (((⟨(ni : Int), (nj : Int)⟩ : S55) :: r.names).length : Int) := by simp only [List.length_cons]; omega
  have h1 := ht (d + 1) (2 * (d + 1) + (nj - ni) + 3) (l ++ [123] ++ [10] ++ ind (d + 1) ++ sl s ni nj ++ [58, 32]) (a4 ++ ⟨#[32, 32]⟩) h5 (by omega) (by simp only [List.length_append, List.length_cons, List.length_nil, ind_length, hsl]; omega)
  have h2 := hr d [t.s] [⟨(ni : Int), (nj : Int)⟩] (l ++ [123] ++ [10] ++ ind (d + 1) ++ sl s ni nj ++ [58, 32] ++ t.body s (d + 1) (2 * (d + 1) + (nj - ni) + 3)) a4 (a4 ++ ⟨#[32, 32]⟩) 6 i j h4 h5 (by simp) rfl hle (by simp only [List.cons_append, List.append_assoc, List.length_append, List.length_cons, List.length_nil, ind_length, hsl]; omega)
  have e1 : Aside0 (wrap64 (0 + 1) = 1) := ⟨w64 (by omega) (by omega)⟩
  have e4 : Aside0 (wrap64 ((wrap64 (((a4 ++ ⟨#[32, 32]⟩ : ByteArray).size : Int) + ((nj - ni : Nat) : Int))) + 3) = ((2 * (d + 1) + (nj - ni) + 3 : Nat) : Int)) := ⟨by
    rw [z5, w64 (x := ((2 * (d + 1) : Nat) : Int) + ((nj - ni : Nat) : Int)) (by omega) (by omega), w64 (by omega) (by omega)]; omega⟩
  have q1 : (((⟨(ni : Int), (nj : Int)⟩ : S55).f0 : Int)).toNat = ni := Int.toNat_natCast ni
  have q2 : (((⟨(ni : Int), (nj : Int)⟩ : S55).f1 : Int)).toNat = nj := Int.toNat_natCast nj
  have e0 : rd_T28 (t.s :: r.l) 0 = t.s := rfl
  have e0' : rd_T55 ((⟨(ni : Int), (nj : Int)⟩ : S55) :: r.names) 0 = ⟨(ni : Int), (nj : Int)⟩ := rfl
  have go : Ev (fun k => spec_Layout_value.l0 k (l ++ [123]) s a4 (a4 ++ ⟨#[32, 32]⟩) ((t.s :: r.l).length : Int) 0 p ⟨#[32, 32]⟩ 80 6 i j (⟨(ni : Int), (nj : Int)⟩ :: r.names) (t.s :: r.l)) (l ++ (123 :: 10 :: (ind (d + 1) ++ (sl s ni nj ++ (58 :: 32 :: (t.body s (d + 1) (2 * (d + 1) + (nj - ni) + 3) ++ (r.bodyR s (d + 1) ++ (10 :: (ind d ++ [125]))))))))) := by
    refine Ev.step (fun k => ?_) (Ev.bind (f := fun k t750 => spec_Layout_value.l0 k t750 s a4 (a4 ++ ⟨#[32, 32]⟩) ((t.s :: r.l).length : Int) 1 p ⟨#[32, 32]⟩ 80 6 i j (⟨(ni : Int), (nj : Int)⟩ :: r.names) (t.s :: r.l)) h1 ?_)
    · rw [spec_Layout_value.l0]
      refine (if_pos hpos).trans ((if_neg (by omega)).trans ((if_pos (by omega)).trans ((if_pos hpos2).trans ?_)))
      rw [e0, e0', e1.out]
      refine (if_pos (Int.natCast_nonneg ni)).trans ((if_pos (Int.ofNat_le.mpr hij)).trans ((if_pos (Int.ofNat_le.mpr hj)).trans ?_))
      rw [q1, q2, bytesOf_extract, extract_size hj, e4.out, h5]
      refine (if_pos (by simp only [List.length_append, List.length_cons, List.length_nil]; omega)).trans ((Option.bind_some _ _).trans ((if_pos (by rw [z5]; simp only [List.length_append, List.length_cons, List.length_nil]; omega)).trans ((Option.bind_some _ _).trans ?_)))
      refine (if_pos (by simp only [List.length_append, List.length_cons, List.length_nil, ind_length]; omega)).trans ((Option.bind_some _ _).trans ((Option.bind_some _ _).trans ((if_pos (by simp only [List.length_append, List.length_cons, List.length_nil, ind_length, hsl]; omega)).trans ((if_pos hpos).trans rfl))))
    · have e3 : l ++ (123 :: 10 :: (ind (d + 1) ++ (sl s ni nj ++ 58 :: 32 :: (t.body s (d + 1) (2 * (d + 1) + (nj - ni) + 3) ++ (r.bodyR s (d + 1) ++ 10 :: (ind d ++ [125])))))) = (l ++ [123] ++ [10] ++ ind (d + 1) ++ sl s ni nj ++ [58, 32] ++ t.body s (d + 1) (2 * (d + 1) + (nj - ni) + 3)) ++ (r.bodyR s (d + 1) ++ 10 :: (ind d ++ [125])) := by simp
      rw [e3]
      exact h2
  refine Ev.step (fun k => ?_) go
  rw [spec_Layout_value.j1]
  exact (if_neg (by decide)).trans ((if_pos (by rw [z4]; show 2 * d + 2 ≤ _; omega)).trans (if_pos (by omega)))
/-- The head of the writer at a value that has parts. -/
theorem lay_head {s p : ByteArray} {l res : List Int} {kd i j : Int} {nm : List S55} {x : S28} {xs : List S28} {a4 : ByteArray} {col : Nat} (hc : col < 140737488355328)
    (h : Ev (fun k => if (80 - (col : Int)) > 3 then ((spec_objects.f k kd i j nm (x :: xs)).bind fun t695 => (spec_Layout_value.j0 k l s a4 (80 - (col : Int)) (!t695) p ⟨#[32, 32]⟩ 80 kd i j nm (x :: xs))) else (spec_Layout_value.j0 k l s a4 (80 - (col : Int)) false p ⟨#[32, 32]⟩ 80 kd i j nm (x :: xs))) res) :
    Ev (fun k => spec_Layout_value.f k p ⟨#[32, 32]⟩ 80 l s kd i j nm (x :: xs) a4 (col : Int)) res := by
  have e : Aside0 (wrap64 (80 - (col : Int)) = 80 - (col : Int)) := ⟨w64 (by omega) (by omega)⟩
  refine Ev.step (fun k => ?_) h
  rw [spec_Layout_value.f, e.out]
  exact (if_neg (by simp only [List.length_cons]; omega)).trans (if_pos (by omega))
theorem lay_j0no {s p : ByteArray} {l res : List Int} {kd i j c : Int} {nm : List S55} {xs : List S28} {a4 : ByteArray}
    (h : Ev (fun k => spec_Layout_value.j1 k l s a4 p ⟨#[32, 32]⟩ 80 kd i j nm xs) res) : Ev (fun k => spec_Layout_value.j0 k l s a4 c false p ⟨#[32, 32]⟩ 80 kd i j nm xs) res :=
  Ev.step (fun k => by rw [spec_Layout_value.j0]; exact if_neg (by simp)) h
theorem lay_j0yes {s p : ByteArray} {l res ln : List Int} {kd i j c : Int} {nm : List S55} {xs : List S28} {a4 : ByteArray} (hln : Ev (fun k => spec_lineTo.f k [] s kd i j nm xs) ln) (hl : l.length + ln.length < 140737488355328)
    (h : ¬ (ln.length : Int) ≤ c → Ev (fun k => spec_Layout_value.j1 k l s a4 p ⟨#[32, 32]⟩ 80 kd i j nm xs) res) (h2 : (ln.length : Int) ≤ c → res = l ++ ln) : Ev (fun k => spec_Layout_value.j0 k l s a4 c true p ⟨#[32, 32]⟩ 80 kd i j nm xs) res := by
  refine Ev.step (fun k => by rw [spec_Layout_value.j0]; exact if_pos rfl) (Ev.bind hln ?_)
  by_cases hc : (ln.length : Int) ≤ c
  · simp only [if_pos hc, if_pos hl]
    rw [h2 hc]
    exact Ev.now _
  · simp only [if_neg hc]
    exact h hc
mutual
theorem T.layout (s p : ByteArray) : ∀ t : T, t.ok s → Lays s p t
  | .leaf kd i j, h => by
    intro d col l a4 h4 hc hl
    rw [T.ok] at h
    rw [T.body] at hl ⊢
    exact layout_bare (bare_leaf h.1 h.2.1 h.2.2.1 h.2.2.2 hl _ _)
  | .arr i j .nil, h => by
    intro d col l a4 h4 hc hl
    rw [T.body] at hl ⊢
    exact layout_bare (bare_arr hl _ _ _)
  | .obj i j .nil, h => by
    intro d col l a4 h4 hc hl
    rw [T.body] at hl ⊢
    exact layout_bare (bare_obj hl _ _ _)
  | .arr i j (.cons t r), h => by
    intro d col l a4 h4 hc hl
    have hok := h
    rw [T.ok, Es.ok, Es.l] at h
    obtain ⟨_, _, hle, hln, h1, h2⟩ := h
    have ob := T.objs s (.arr i j (.cons t r)) hok
    have hlen : (T.line s (.arr i j (.cons t r))).length ≤ 8194 := by
      rw [T.line]; simp only [List.length_cons, List.length_append, List.length_nil]; omega
    have ln := T.lineTo s (.arr i j (.cons t r)) [] hok (by simp only [List.length_nil]; omega)
    rw [List.nil_append] at ln
    have lay := lay_arr (p := p) (t := t) (r := r) (i : Int) (j : Int) (T.layout s p t h1) (Es.layoutR s p r h2) hle d l a4 h4
    refine lay_head hc ?_
    rw [T.body] at hl ⊢
    rw [T.has, Es.has] at ob
    by_cases hcol : (80 - (col : Int)) > 3
    · simp only [if_pos hcol]
      refine Ev.bind ob ?_
      cases hb : (t.has || r.has) with
      | true =>
        rw [hb] at hl
        rw [if_neg (fun hh => by simp at hh)] at hl ⊢
        exact lay_j0no (lay hl)
      | false =>
        rw [hb] at hl
        by_cases hfit : (T.line s (.arr i j (.cons t r))).length + col ≤ 80
        · rw [if_pos ⟨by omega, rfl, hfit⟩] at hl ⊢
          exact lay_j0yes ln (by omega) (fun hn => absurd (by omega) hn) (fun _ => rfl)
        · rw [if_neg (fun hh => hfit hh.2.2)] at hl ⊢
          exact lay_j0yes ln (by omega) (fun _ => lay hl) (fun hn => absurd (by omega) hfit)
    · simp only [if_neg hcol]
      rw [if_neg (fun hh => hcol (by have := hh.1; omega))] at hl ⊢
      exact lay_j0no (lay hl)
  | .obj i j (.cons ni nj t r), h => by
    intro d col l a4 h4 hc hl
    have hok := h
    rw [T.ok, Ms.ok, Ms.l] at h
    obtain ⟨_, _, hle, h3, h4', h1, h2⟩ := h
    have ob := T.objs s (.obj i j (.cons ni nj t r)) hok
    have lay := lay_obj (p := p) (t := t) (r := r) (i : Int) (j : Int) h3 h4' (T.layout s p t h1) (Ms.layoutR s p r h2) hle d l a4 h4
    refine lay_head hc ?_
    rw [T.body] at hl ⊢
    rw [T.has] at ob
    by_cases hcol : (80 - (col : Int)) > 3
    · simp only [if_pos hcol]
      exact Ev.bind ob (lay_j0no (lay hl))
    · simp only [if_neg hcol]
      exact lay_j0no (lay hl)
theorem Es.layoutR (s p : ByteArray) : ∀ es : Es, es.ok s → LaysR s p es
  | .nil, _ => laysR_nil s p
  | .cons t r, h => by
    rw [Es.ok] at h
    exact laysR_cons (T.layout s p t h.1) (Es.layoutR s p r h.2)
theorem Ms.layoutR (s p : ByteArray) : ∀ ms : Ms, ms.ok s → LaysM s p ms
  | .nil, _ => laysM_nil s p
  | .cons ni nj t r, h => by
    rw [Ms.ok] at h
    exact laysM_cons h.1 h.2.1 (T.layout s p t h.2.2.1) (Ms.layoutR s p r h.2.2.2)
end
end Go.Proofs.Ytffdebhaclkhjaa.PFnPrWholeDefault
