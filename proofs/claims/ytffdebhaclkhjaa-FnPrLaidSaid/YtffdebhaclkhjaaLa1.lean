/- The layout with a line for each part, a prefix and an indent: what the reference writes for a syntax tree that stands in the text. No condition but that the text has at most 4096 bytes and that what is written stays below 2^46 bytes, stated in each lemma. -/
import Derived.Test.YtffdebhaclkhjaaPr2
import Derived.Test.YtffdebhaclkhjaaLx2
set_option linter.unusedVariables false
set_option linter.unusedSimpArgs false
namespace Go.Proofs.Ytffdebhaclkhjaa.PFnPrWholeDefault
open Go.RowKit Go.Proofs.YtffdebhaclkhjaaW.PrintWords
/-- The text's bytes from i to j. -/
def sl (s : ByteArray) (i j : Nat) : List Int := ((bytesOf s).take j).drop i
theorem sl_length {s : ByteArray} {i j : Nat} (h : j ≤ s.size) : (sl s i j).length = j - i := by
  unfold sl; rw [List.length_drop, List.length_take, bytesOf_length]; omega
theorem bytesOf_extract (s : ByteArray) (i j : Nat) : bytesOf (s.extract i j) = sl s i j := by
  unfold sl bytesOf
  rw [← List.map_take, ← List.map_drop, ByteArray.data_extract, Array.toList_extract, List.extract_eq_take_drop, List.drop_take]
theorem extract_size {s : ByteArray} {i j : Nat} (h : j ≤ s.size) : (s.extract i j).size = j - i := by
  rw [← bytesOf_length, bytesOf_extract, sl_length h]
theorem bytesOf_append (a b : ByteArray) : bytesOf (a ++ b) = bytesOf a ++ bytesOf b := by
  simp [bytesOf]
theorem rd_mid (a : List S28) (x : S28) (b : List S28) : rd_T28 (a ++ x :: b) (a.length : Int) = x := by simp [rd_T28]
theorem rd_mid55 (a : List S55) (x : S55) (b : List S55) : rd_T55 (a ++ x :: b) (a.length : Int) = x := by simp [rd_T55]
/-! ### a line's beginning -/
def rep : Nat → List Int → List Int
  | 0, _ => []
  | d + 1, I => rep d I ++ I
theorem rep_front (I : List Int) : ∀ d, I ++ rep d I = rep (d + 1) I
  | 0 => by simp [rep]
  | d + 1 => by
    rw [rep, ← List.append_assoc, rep_front I d]
    rfl
theorem rep_le {I : List Int} (h : I.length ≤ 64) : ∀ d, (rep d I).length ≤ 64 * d
  | 0 => by simp [rep]
  | d + 1 => by
    rw [rep, List.length_append]
    have := rep_le h d
    omega
def tb (P I : List Int) (d : Nat) : List Int := P ++ rep d I
theorem tb_succ (P I : List Int) (d : Nat) : tb P I d ++ I = tb P I (d + 1) := by
  unfold tb; rw [List.append_assoc]; rfl
theorem tb_len (P I : List Int) (d : Nat) : (tb P I (d + 1)).length = (tb P I d).length + I.length := by
  rw [← tb_succ, List.length_append]
theorem tb_le {P I : List Int} (hP : P.length ≤ 64) (hI : I.length ≤ 64) (d : Nat) : (tb P I d).length ≤ 64 + 64 * d := by
  unfold tb
  rw [List.length_append]
  have := rep_le hI d
  omega
/-! ### what is written -/
section
variable (s : ByteArray) (P I : List Int)
mutual
def T.lb : T → Nat → List Int
  | .leaf _ i j, d => sl s i j
  | .arr i j .nil, d => [91, 93]
  | .arr i j (.cons t r), d => 91 :: 10 :: (tb P I (d + 1) ++ (t.lb (d + 1) ++ (r.lbR (d + 1) ++ (10 :: (tb P I d ++ [93])))))
  | .obj i j .nil, d => [123, 125]
  | .obj i j (.cons ni nj t r), d => 123 :: 10 :: (tb P I (d + 1) ++ (sl s ni nj ++ (58 :: 32 :: (t.lb (d + 1) ++ (r.lbR (d + 1) ++ (10 :: (tb P I d ++ [125])))))))
def Es.lbR : Es → Nat → List Int
  | .nil, d => []
  | .cons t r, d => 44 :: 10 :: (tb P I d ++ (t.lb d ++ r.lbR d))
def Ms.lbR : Ms → Nat → List Int
  | .nil, d => []
  | .cons ni nj t r, d => 44 :: 10 :: (tb P I d ++ (sl s ni nj ++ (58 :: 32 :: (t.lb d ++ r.lbR d))))
end
mutual
def T.ok : T → Prop
  | .leaf kd i j => i ≤ j ∧ j ≤ s.size ∧ kd ≠ 5 ∧ kd ≠ 6
  | .arr i j es => es.l.length ≤ 4096 ∧ es.ok
  | .obj i j ms => ms.l.length ≤ 4096 ∧ ms.ok
def Es.ok : Es → Prop
  | .nil => True
  | .cons t r => t.ok ∧ r.ok
def Ms.ok : Ms → Prop
  | .nil => True
  | .cons ni nj t r => ni ≤ nj ∧ nj ≤ s.size ∧ t.ok ∧ r.ok
end
end
mutual
theorem T.wf_ok {s : ByteArray} (hn : s.size ≤ 4096) : ∀ t : T, t.wf s → t.ok s ∧ t.i < t.j ∧ t.j ≤ s.size
  | .leaf kd i j, h => by
    rw [T.wf] at h
    obtain ⟨h1, h2, h3⟩ := h
    refine ⟨?_, h1, h2⟩
    rw [T.ok]
    unfold LeafOK at h3
    rcases h3 with h | h | h | h | h <;> exact ⟨by omega, h2, by omega, by omega⟩
  | .arr i j es, h => by
    rw [T.wf] at h
    obtain ⟨h1, h2, p, ⟨hp1, hp2, _⟩, h3⟩ := h
    rcases h3 with ⟨h4, h5, h6⟩ | h4
    · have := bt_in h4 (by decide)
      subst h6
      refine ⟨?_, h2, by simp only [T.j]; omega⟩
      rw [T.ok, Es.l, Es.ok]; exact ⟨by simp, trivial⟩
    · obtain ⟨k1, k2, k3, k4⟩ := Es.wf_ok hn es p j h4
      exact ⟨by rw [T.ok]; exact ⟨by omega, k1⟩, h2, k3⟩
  | .obj i j ms, h => by
    rw [T.wf] at h
    obtain ⟨h1, h2, p, ⟨hp1, hp2, _⟩, h3⟩ := h
    rcases h3 with ⟨h4, h5, h6⟩ | h4
    · have := bt_in h4 (by decide)
      subst h6
      refine ⟨?_, h2, by simp only [T.j]; omega⟩
      rw [T.ok, Ms.l, Ms.ok]; exact ⟨by simp, trivial⟩
    · obtain ⟨k1, k2, k3, k4⟩ := Ms.wf_ok hn ms p j h4
      exact ⟨by rw [T.ok]; exact ⟨by omega, k1⟩, h2, k3⟩
theorem Es.wf_ok {s : ByteArray} (hn : s.size ≤ 4096) : ∀ (es : Es) (p j : Nat), es.wf s p j → es.ok s ∧ p < j ∧ j ≤ s.size ∧ es.l.length ≤ j - p
  | .nil, p, j, h => by rw [Es.wf] at h; exact h.elim
  | .cons t r, p, j, h => by
    rw [Es.wf] at h
    obtain ⟨ht, hti, q, ⟨hq1, hq2, _⟩, h3⟩ := h
    obtain ⟨k1, k2, k3⟩ := T.wf_ok hn t ht
    rw [Es.ok, Es.l]
    rcases h3 with ⟨h4, h5, h6⟩ | ⟨h4, p', ⟨hp1, hp2, _⟩, h5⟩
    · have := bt_in h4 (by decide)
      subst h5
      rw [Es.ok, Es.l]
      exact ⟨⟨k1, trivial⟩, by omega, by omega, by simp only [List.length_cons, List.length_nil]; omega⟩
    · obtain ⟨m1, m2, m3, m4⟩ := Es.wf_ok hn r p' j h5
      exact ⟨⟨k1, m1⟩, by omega, m3, by simp only [List.length_cons]; omega⟩
theorem Ms.wf_ok {s : ByteArray} (hn : s.size ≤ 4096) : ∀ (ms : Ms) (p j : Nat), ms.wf s p j → ms.ok s ∧ p < j ∧ j ≤ s.size ∧ ms.l.length ≤ j - p
  | .nil, p, j, h => by rw [Ms.wf] at h; exact h.elim
  | .cons ni nj t r, p, j, h => by
    rw [Ms.wf] at h
    obtain ⟨hni, hs, c, ⟨hc1, hc2, _⟩, hc3, v, ⟨hv1, hv2, _⟩, ht, hti, q, ⟨hq1, hq2, _⟩, h3⟩ := h
    obtain ⟨s1, s2, _⟩ := hs
    obtain ⟨k1, k2, k3⟩ := T.wf_ok hn t ht
    rw [Ms.ok, Ms.l]
    rcases h3 with ⟨h4, h5, h6⟩ | ⟨h4, p', ⟨hp1, hp2, _⟩, h5⟩
    · have := bt_in h4 (by decide)
      subst h5
      rw [Ms.ok, Ms.l]
      exact ⟨⟨by omega, s2, k1, trivial⟩, by omega, by omega, by simp only [List.length_cons, List.length_nil]; omega⟩
    · obtain ⟨m1, m2, m3, m4⟩ := Ms.wf_ok hn r p' j h5
      exact ⟨⟨by omega, s2, k1, m1⟩, by omega, m3, by simp only [List.length_cons]; omega⟩
end
section
variable {s : ByteArray} {P I : List Int}
mutual
theorem T.bb (hn : s.size ≤ 4096) (hP : P.length ≤ 64) (hI : I.length ≤ 64) : ∀ (t : T) (d : Nat), t.wf s → d + (t.j - t.i) ≤ 4097 → (t.lb s P I d).length ≤ 600000 * (t.j - t.i)
  | .leaf kd i j, d, h, hd => by
    rw [T.wf] at h
    rw [T.lb, sl_length h.2.1]; simp only [T.i, T.j]; omega
  | .arr i j .nil, d, h, hd => by
    rw [T.wf] at h
    have := h.2.1
    rw [T.lb]; simp only [List.length_cons, List.length_nil, T.i, T.j]; omega
  | .obj i j .nil, d, h, hd => by
    rw [T.wf] at h
    have := h.2.1
    rw [T.lb]; simp only [List.length_cons, List.length_nil, T.i, T.j]; omega
  | .arr i j (.cons t r), d, h, hd => by
    rw [T.wf] at h
    obtain ⟨h1, h2, p, ⟨hp1, hp2, _⟩, h3⟩ := h
    have t1 := tb_le hP hI d
    have t2 := tb_le hP hI (d + 1)
    rw [T.lb]
    simp only [T.i, T.j] at hd ⊢
    rcases h3 with ⟨_, _, h6⟩ | h4
    · exact absurd h6 (by simp)
    · rw [Es.wf] at h4
      obtain ⟨ht, hti, q, ⟨hq1, hq2, _⟩, h3⟩ := h4
      obtain ⟨k1, k2, k3⟩ := T.wf_ok hn t ht
      simp only [List.length_cons, List.length_append, List.length_nil]
      rcases h3 with ⟨h4, h5, h6⟩ | ⟨h4, p', ⟨hp3, hp4, _⟩, h5⟩
      · subst h5
        have b1 := T.bb hn hP hI t (d + 1) ht (by omega)
        rw [Es.lbR]; simp only [List.length_nil]; omega
      · obtain ⟨m1, m2, m3, m4⟩ := Es.wf_ok hn r p' j h5
        have b1 := T.bb hn hP hI t (d + 1) ht (by omega)
        have b2 := Es.bb hn hP hI r p' j (d + 1) h5 (by omega)
        omega
  | .obj i j (.cons ni nj t r), d, h, hd => by
    rw [T.wf] at h
    obtain ⟨h1, h2, p, ⟨hp1, hp2, _⟩, h3⟩ := h
    have t1 := tb_le hP hI d
    have t2 := tb_le hP hI (d + 1)
    rw [T.lb]
    simp only [T.i, T.j] at hd ⊢
    rcases h3 with ⟨_, _, h6⟩ | h4
    · exact absurd h6 (by simp)
    · rw [Ms.wf] at h4
      obtain ⟨hni, hs, c, ⟨hc1, hc2, _⟩, hc3, v, ⟨hv1, hv2, _⟩, ht, hti, q, ⟨hq1, hq2, _⟩, h3⟩ := h4
      obtain ⟨s1, s2, _⟩ := hs
      obtain ⟨k1, k2, k3⟩ := T.wf_ok hn t ht
      simp only [List.length_cons, List.length_append, List.length_nil, sl_length s2]
      rcases h3 with ⟨h4, h5, h6⟩ | ⟨h4, p', ⟨hp3, hp4, _⟩, h5⟩
      · subst h5
        have b1 := T.bb hn hP hI t (d + 1) ht (by omega)
        rw [Ms.lbR]; simp only [List.length_nil]; omega
      · obtain ⟨m1, m2, m3, m4⟩ := Ms.wf_ok hn r p' j h5
        have b1 := T.bb hn hP hI t (d + 1) ht (by omega)
        have b2 := Ms.bb hn hP hI r p' j (d + 1) h5 (by omega)
        omega
theorem Es.bb (hn : s.size ≤ 4096) (hP : P.length ≤ 64) (hI : I.length ≤ 64) : ∀ (es : Es) (p j d : Nat), es.wf s p j → d + (j - p) ≤ 4097 → (es.lbR s P I d).length ≤ 600000 * (j - p - 1) + 2 + (64 + 64 * d)
  | .nil, p, j, d, h, hd => by rw [Es.wf] at h; exact h.elim
  | .cons t r, p, j, d, h, hd => by
    rw [Es.wf] at h
    obtain ⟨ht, hti, q, ⟨hq1, hq2, _⟩, h3⟩ := h
    obtain ⟨k1, k2, k3⟩ := T.wf_ok hn t ht
    have t1 := tb_le hP hI d
    rw [Es.lbR]
    simp only [List.length_cons, List.length_append, List.length_nil]
    rcases h3 with ⟨h4, h5, h6⟩ | ⟨h4, p', ⟨hp3, hp4, _⟩, h5⟩
    · subst h5
      have b1 := T.bb hn hP hI t d ht (by omega)
      rw [Es.lbR]; simp only [List.length_nil]; omega
    · obtain ⟨m1, m2, m3, m4⟩ := Es.wf_ok hn r p' j h5
      have b1 := T.bb hn hP hI t d ht (by omega)
      have b2 := Es.bb hn hP hI r p' j d h5 (by omega)
      omega
theorem Ms.bb (hn : s.size ≤ 4096) (hP : P.length ≤ 64) (hI : I.length ≤ 64) : ∀ (ms : Ms) (p j d : Nat), ms.wf s p j → d + (j - p) ≤ 4097 → (ms.lbR s P I d).length ≤ 600000 * (j - p - 1) + 2 + (64 + 64 * d)
  | .nil, p, j, d, h, hd => by rw [Ms.wf] at h; exact h.elim
  | .cons ni nj t r, p, j, d, h, hd => by
    rw [Ms.wf] at h
    obtain ⟨hni, hs, c, ⟨hc1, hc2, _⟩, hc3, v, ⟨hv1, hv2, _⟩, ht, hti, q, ⟨hq1, hq2, _⟩, h3⟩ := h
    obtain ⟨s1, s2, _⟩ := hs
    obtain ⟨k1, k2, k3⟩ := T.wf_ok hn t ht
    have t1 := tb_le hP hI d
    rw [Ms.lbR]
    simp only [List.length_cons, List.length_append, List.length_nil, sl_length s2]
    rcases h3 with ⟨h4, h5, h6⟩ | ⟨h4, p', ⟨hp3, hp4, _⟩, h5⟩
    · subst h5
      have b1 := T.bb hn hP hI t d ht (by omega)
      rw [Ms.lbR]; simp only [List.length_nil]; omega
    · obtain ⟨m1, m2, m3, m4⟩ := Ms.wf_ok hn r p' j h5
      have b1 := T.bb hn hP hI t d ht (by omega)
      have b2 := Ms.bb hn hP hI r p' j d h5 (by omega)
      omega
end
/-! ### the writer -/
theorem bare_leaf {l : List Int} {i j : Nat} {kd : Int} (hij : i ≤ j) (hj : j ≤ s.size) (h5 : kd ≠ 5) (h6 : kd ≠ 6) (hl : l.length + (sl s i j).length < 70368744177664) (nm : List S55) (kids : List S28) : Ev (fun k => spec_bareTo.f k l s kd (i : Int) (j : Int) nm kids) (l ++ sl s i j) := by
  rw [sl_length hj] at hl
  refine Ev.step (f := fun k => spec_bareTo.j0 k l s true kd i j nm kids) (fun k => ?_) (Ev.step (f := fun _ => some (l ++ sl s i j)) (fun k => ?_) (Ev.now _))
  · rw [spec_bareTo.f, if_neg h5, bne_iff_ne.mpr h6]
  · rw [spec_bareTo.j0, if_pos rfl, if_pos (by omega), if_pos (by omega), if_pos (by omega), Int.toNat_natCast, Int.toNat_natCast, extract_size hj, if_pos (by omega), bytesOf_extract]
theorem bare_j1 {l : List Int} (hl : l.length + 2 < 70368744177664) (a b kd i j : Int) (nm : List S55) : Ev (fun k => spec_bareTo.j1 k l s a b kd i j nm []) (l ++ [a, b]) := by
  refine Ev.step (f := fun k => spec_bareTo.l0 k (l ++ [a]) s b 0 0 kd i j nm []) (fun k => ?_) (Ev.step (f := fun _ => some (l ++ [a, b])) (fun k => ?_) (Ev.now _))
  · rw [spec_bareTo.j1, if_pos (by omega)]; rfl
  · rw [spec_bareTo.l0, if_neg (by omega), if_pos (by simp only [List.length_append, List.length_cons, List.length_nil]; omega)]; simp
theorem bare_arr {l : List Int} (hl : l.length + 2 < 70368744177664) (i j : Int) (nm : List S55) : Ev (fun k => spec_bareTo.f k l s 5 i j nm []) (l ++ [91, 93]) :=
  Ev.step (f := fun k => spec_bareTo.j0 k l s false 5 i j nm []) (fun k => by rw [spec_bareTo.f, if_pos rfl]) (Ev.step (f := fun k => spec_bareTo.j1 k l s 91 93 5 i j nm []) (fun k => by rw [spec_bareTo.j0, if_neg (by simp), if_neg (by decide)]) (bare_j1 hl _ _ _ _ _ _))
theorem bare_obj {l : List Int} (hl : l.length + 2 < 70368744177664) (i j : Int) (nm : List S55) : Ev (fun k => spec_bareTo.f k l s 6 i j nm []) (l ++ [123, 125]) :=
  Ev.step (f := fun k => spec_bareTo.j0 k l s false 6 i j nm []) (fun k => by rw [spec_bareTo.f, if_neg (by decide)]; rfl) (Ev.step (f := fun k => spec_bareTo.j1 k l s 123 125 6 i j nm []) (fun k => by rw [spec_bareTo.j0, if_neg (by simp), if_pos rfl]) (bare_j1 hl _ _ _ _ _ _))
theorem laid_bare {l r : List Int} {kd i j : Int} {nm : List S55} {a3 a4 : ByteArray} (h : Ev (fun k => spec_bareTo.f k l s kd i j nm []) r) : Ev (fun k => spec_laidTo.f k l s kd i j nm [] a3 a4) r :=
  Ev.step (fun k => by rw [spec_laidTo.f, if_pos (by rfl)]) (Ev.bind (f := fun _ x => some x) h (Ev.now _))
variable (s P I) in
def Lays (t : T) : Prop := ∀ (d : Nat) (l : List Int) (a3 a4 : ByteArray), bytesOf a3 = tb P I d → bytesOf a4 = I → l.length + (t.lb s P I d).length < 70368744177664 →
  Ev (fun k => spec_laidTo.f k l s t.s.f0 t.s.f1 t.s.f2 t.s.f3 t.s.f4 a3 a4) (l ++ t.lb s P I d)
variable (s P I) in
def LaysR (es : Es) : Prop := ∀ (d : Nat) (a : List S28) (l : List Int) (a3 a4 : ByteArray) (x1 x2 : Int) (x3 : List S55), bytesOf a3 = tb P I d → bytesOf a4 = I → a ≠ [] → (a ++ es.l).length ≤ 4096 → l.length + (es.lbR s P I (d + 1) ++ (10 :: (tb P I d ++ [93]))).length < 70368744177664 →
  Ev (fun k => spec_laidTo.l0 k l s a3 a4 false 93 ((a ++ es.l).length : Int) (a.length : Int) 5 x1 x2 x3 (a ++ es.l)) (l ++ (es.lbR s P I (d + 1) ++ (10 :: (tb P I d ++ [93]))))
variable (s P I) in
def LaysM (ms : Ms) : Prop := ∀ (d : Nat) (a : List S28) (b : List S55) (l : List Int) (a3 a4 : ByteArray) (x1 x2 : Int), bytesOf a3 = tb P I d → bytesOf a4 = I → a ≠ [] → b.length = a.length → (a ++ ms.l).length ≤ 4096 → l.length + (ms.lbR s P I (d + 1) ++ (10 :: (tb P I d ++ [125]))).length < 70368744177664 →
  Ev (fun k => spec_laidTo.l0 k l s a3 a4 false 125 ((a ++ ms.l).length : Int) (a.length : Int) 6 x1 x2 (b ++ ms.names) (a ++ ms.l)) (l ++ (ms.lbR s P I (d + 1) ++ (10 :: (tb P I d ++ [125]))))
theorem laid_end {l : List Int} {a3 a4 : ByteArray} {d : Nat} {cl x0 x1 x2 n : Int} {x3 : List S55} {kids : List S28} (h3 : bytesOf a3 = tb P I d) (hl : l.length + (10 :: (tb P I d ++ [cl])).length < 70368744177664) :
    Ev (fun k => spec_laidTo.l0 k l s a3 a4 false cl n n x0 x1 x2 x3 kids) (l ++ (10 :: (tb P I d ++ [cl]))) := by
  have z3 : a3.size = (tb P I d).length := by rw [← h3, bytesOf_length]
  simp only [List.length_cons, List.length_append, List.length_nil] at hl
  refine Ev.step (fun k => ?_) (Ev.now _)
  rw [spec_laidTo.l0]
  refine (if_neg Bool.false_ne_true).trans ((if_neg (Int.lt_irrefl _)).trans ((if_pos (by omega)).trans ((Option.bind_some _ _).trans ((if_pos (by simp only [List.length_append, List.length_cons, List.length_nil]; omega)).trans ((Option.bind_some _ _).trans ?_)))))
  rw [h3]
  refine (if_pos (by simp only [List.length_append, List.length_cons, List.length_nil]; omega)).trans ?_
  simp
theorem laysR_nil : LaysR s P I .nil := by
  intro d a l a3 a4 x1 x2 x3 h3 h4 ha hle hl
  rw [Es.lbR] at hl ⊢
  rw [Es.l, List.append_nil]
  exact laid_end h3 hl
theorem laysM_nil : LaysM s P I .nil := by
  intro d a b l a3 a4 x1 x2 h3 h4 ha hb hle hl
  rw [Ms.lbR] at hl ⊢
  rw [Ms.l, List.append_nil]
  exact laid_end h3 hl
theorem laysR_cons {t : T} {r : Es} (ht : Lays s P I t) (hr : LaysR s P I r) : LaysR s P I (.cons t r) := by
  intro d a l a3 a4 x1 x2 x3 h3 h4 ha hle hl
  rw [Es.lbR] at hl ⊢
  rw [Es.l] at hle ⊢
  simp only [List.length_cons, List.length_append, List.length_nil, tb_len] at hl
  have e : (a ++ [t.s]) ++ r.l = a ++ t.s :: r.l := by simp
  have hlt : a.length < (a ++ t.s :: r.l).length := by simp
  have hpos : 0 < a.length := List.length_pos_iff.mpr ha
  have z3 : a3.size = (tb P I d).length := by rw [← h3, bytesOf_length]
  have z4 : a4.size = I.length := by rw [← h4, bytesOf_length]
  have h5 : bytesOf (a3 ++ a4) = tb P I (d + 1) := by rw [bytesOf_append, h3, h4, tb_succ]
  have h1 := ht (d + 1) (l ++ [44] ++ [10] ++ tb P I d ++ I) (a3 ++ a4) a4 h5 h4 (by simp only [List.length_append, List.length_cons, List.length_nil]; omega)
  have h2 := hr d (a ++ [t.s]) (l ++ [44] ++ [10] ++ tb P I d ++ I ++ t.lb s P I (d + 1)) a3 a4 x1 x2 x3 h3 h4 (by simp) (by rw [e]; exact hle) (by simp only [List.length_append, List.length_cons, List.length_nil]; omega)
  rw [e] at h2
  have e2 : Aside0 (wrap64 ((a.length : Int) + 1) = ((a ++ [t.s]).length : Int)) := ⟨by rw [w64 (by omega) (by omega)]; simp⟩
  refine Ev.step (fun k => ?_) (Ev.bind (f := fun k t702 => spec_laidTo.l0 k t702 s a3 a4 false 93 ((a ++ t.s :: r.l).length : Int) ((a ++ [t.s]).length : Int) 5 x1 x2 x3 (a ++ t.s :: r.l)) h1 ?_)
  · rw [spec_laidTo.l0]
    refine (if_neg Bool.false_ne_true).trans ((if_pos (by omega)).trans ((if_pos (by omega)).trans ((if_pos (by omega)).trans ((Option.bind_some _ _).trans ((if_pos (by simp only [List.length_append, List.length_cons, List.length_nil]; omega)).trans ((Option.bind_some _ _).trans ?_))))))
    rw [h3, h4, e2.out, rd_mid]
    exact (if_pos (by simp only [List.length_append, List.length_cons, List.length_nil]; omega)).trans ((Option.bind_some _ _).trans ((if_pos (by simp only [List.length_append, List.length_cons, List.length_nil]; omega)).trans ((Option.bind_some _ _).trans ((if_neg (by omega)).trans ((if_pos (by omega)).trans ((if_pos (by omega)).trans (if_pos (by omega))))))))
  · have e3 : l ++ (44 :: 10 :: (tb P I (d + 1) ++ (t.lb s P I (d + 1) ++ r.lbR s P I (d + 1))) ++ 10 :: (tb P I d ++ [93])) = (l ++ [44] ++ [10] ++ tb P I d ++ I ++ t.lb s P I (d + 1)) ++ (r.lbR s P I (d + 1) ++ 10 :: (tb P I d ++ [93])) := by rw [← tb_succ]; simp
    rw [e3]
    exact h2
theorem laysM_cons {ni nj : Nat} {t : T} {r : Ms} (hij : ni ≤ nj) (hj : nj ≤ s.size) (ht : Lays s P I t) (hr : LaysM s P I r) : LaysM s P I (.cons ni nj t r) := by
  intro d a b l a3 a4 x1 x2 h3 h4 ha hb hle hl
  have hsl := sl_length (s := s) (i := ni) hj
  rw [Ms.lbR] at hl ⊢
  rw [Ms.l] at hle ⊢
  rw [Ms.names]
  simp only [List.length_cons, List.length_append, List.length_nil, tb_len, hsl] at hl
  have e : (a ++ [t.s]) ++ r.l = a ++ t.s :: r.l := by simp
  have eb : (b ++ [(⟨(ni : Int), (nj : Int)⟩ : S55)]) ++ r.names = b ++ (⟨(ni : Int), (nj : Int)⟩ : S55) :: r.names := by simp
  have hlt : a.length < (a ++ t.s :: r.l).length := by simp
  have hblt : (a.length : Int) < ((b ++ (⟨(ni : Int), (nj : Int)⟩ : S55) :: r.names).length : Int) := by simp only [List.length_append, List.length_cons]; omega
  have hpos : 0 < a.length := List.length_pos_iff.mpr ha
  have z3 : a3.size = (tb P I d).length := by rw [← h3, bytesOf_length]
  have z4 : a4.size = I.length := by rw [← h4, bytesOf_length]
  have h5 : bytesOf (a3 ++ a4) = tb P I (d + 1) := by rw [bytesOf_append, h3, h4, tb_succ]
  have h1 := ht (d + 1) (l ++ [44] ++ [10] ++ tb P I d ++ I ++ sl s ni nj ++ [58, 32]) (a3 ++ a4) a4 h5 h4 (by simp only [List.length_append, List.length_cons, List.length_nil, hsl]; omega)
  have h2 := hr d (a ++ [t.s]) (b ++ [⟨(ni : Int), (nj : Int)⟩]) (l ++ [44] ++ [10] ++ tb P I d ++ I ++ sl s ni nj ++ [58, 32] ++ t.lb s P I (d + 1)) a3 a4 x1 x2 h3 h4 (by simp) (by simp [hb]) (by rw [e]; exact hle) (by simp only [List.length_append, List.length_cons, List.length_nil, hsl]; omega)
  rw [e, eb] at h2
  have e2 : Aside0 (wrap64 ((a.length : Int) + 1) = ((a ++ [t.s]).length : Int)) := ⟨by rw [w64 (by omega) (by omega)]; simp⟩
  have rdb : rd_T55 (b ++ (⟨(ni : Int), (nj : Int)⟩ : S55) :: r.names) (a.length : Int) = ⟨(ni : Int), (nj : Int)⟩ := by rw [← hb]; exact rd_mid55 _ _ _
  have q1 : (((⟨(ni : Int), (nj : Int)⟩ : S55).f0 : Int)).toNat = ni := Int.toNat_natCast ni
  have q2 : (((⟨(ni : Int), (nj : Int)⟩ : S55).f1 : Int)).toNat = nj := Int.toNat_natCast nj
  refine Ev.step (fun k => ?_) (Ev.bind (f := fun k t698 => spec_laidTo.l0 k t698 s a3 a4 false 125 ((a ++ t.s :: r.l).length : Int) ((a ++ [t.s]).length : Int) 6 x1 x2 (b ++ (⟨(ni : Int), (nj : Int)⟩ : S55) :: r.names) (a ++ t.s :: r.l)) h1 ?_)
  · rw [spec_laidTo.l0]
    refine (if_neg Bool.false_ne_true).trans ((if_pos (by omega)).trans ((if_pos (by omega)).trans ((if_pos (by omega)).trans ((Option.bind_some _ _).trans ((if_pos (by simp only [List.length_append, List.length_cons, List.length_nil]; omega)).trans ((Option.bind_some _ _).trans ?_))))))
    rw [h3, h4, e2.out, rd_mid, rdb]
    refine (if_pos (by simp only [List.length_append, List.length_cons, List.length_nil]; omega)).trans ((Option.bind_some _ _).trans ((if_pos (by simp only [List.length_append, List.length_cons, List.length_nil]; omega)).trans ((Option.bind_some _ _).trans ((if_pos rfl).trans ((if_pos (by omega)).trans ((if_pos hblt).trans ((if_pos (Int.natCast_nonneg ni)).trans ((if_pos (Int.ofNat_le.mpr hij)).trans ((if_pos (Int.ofNat_le.mpr hj)).trans ?_)))))))))
    rw [q1, q2, bytesOf_extract, extract_size hj]
    exact (if_pos (by simp only [List.length_append, List.length_cons, List.length_nil]; omega)).trans ((Option.bind_some _ _).trans ((Option.bind_some _ _).trans ((if_pos (by simp only [List.length_append, List.length_cons, List.length_nil, hsl]; omega)).trans ((if_pos (by omega)).trans (if_pos (by omega))))))
  · have e3 : l ++ (44 :: 10 :: (tb P I (d + 1) ++ (sl s ni nj ++ 58 :: 32 :: (t.lb s P I (d + 1) ++ r.lbR s P I (d + 1)))) ++ 10 :: (tb P I d ++ [125])) = (l ++ [44] ++ [10] ++ tb P I d ++ I ++ sl s ni nj ++ [58, 32] ++ t.lb s P I (d + 1)) ++ (r.lbR s P I (d + 1) ++ 10 :: (tb P I d ++ [125])) := by rw [← tb_succ]; simp
    rw [e3]
    exact h2
theorem lay_arr {t : T} {r : Es} (i j : Int) (ht : Lays s P I t) (hr : LaysR s P I r) (hle : (t.s :: r.l).length ≤ 4096) (d : Nat) (l : List Int) (a3 a4 : ByteArray) (h3 : bytesOf a3 = tb P I d) (h4 : bytesOf a4 = I)
    (hl : l.length + (91 :: 10 :: (tb P I (d + 1) ++ (t.lb s P I (d + 1) ++ (r.lbR s P I (d + 1) ++ (10 :: (tb P I d ++ [93])))))).length < 70368744177664) :
    Ev (fun k => spec_laidTo.f k l s 5 i j [] (t.s :: r.l) a3 a4) (l ++ (91 :: 10 :: (tb P I (d + 1) ++ (t.lb s P I (d + 1) ++ (r.lbR s P I (d + 1) ++ (10 :: (tb P I d ++ [93]))))))) := by
  simp only [List.length_cons, List.length_append, List.length_nil, tb_len] at hl
  have z3 : a3.size = (tb P I d).length := by rw [← h3, bytesOf_length]
  have z4 : a4.size = I.length := by rw [← h4, bytesOf_length]
  have h5 : bytesOf (a3 ++ a4) = tb P I (d + 1) := by rw [bytesOf_append, h3, h4, tb_succ]
  have hpos : (0 : Int) < ((t.s :: r.l).length : Int) := by simp only [List.length_cons]; omega
  have h1 := ht (d + 1) (l ++ [91] ++ [10] ++ tb P I d ++ I) (a3 ++ a4) a4 h5 h4 (by simp only [List.length_append, List.length_cons, List.length_nil]; omega)
  have h2 := hr d [t.s] (l ++ [91] ++ [10] ++ tb P I d ++ I ++ t.lb s P I (d + 1)) a3 a4 i j [] h3 h4 (by simp) hle (by simp only [List.length_append, List.length_cons, List.length_nil]; omega)
  have e1 : Aside0 (wrap64 (0 + 1) = 1) := ⟨w64 (by omega) (by omega)⟩
  have e0 : rd_T28 (t.s :: r.l) 0 = t.s := rfl
  refine Ev.step (f := fun k => spec_laidTo.j0 k l s a3 a4 false 91 93 5 i j [] (t.s :: r.l)) (fun k => ?_) (Ev.step (f := fun k => spec_laidTo.l0 k (l ++ [91]) s a3 a4 false 93 ((t.s :: r.l).length : Int) 0 5 i j [] (t.s :: r.l)) (fun k => ?_) (Ev.step (fun k => ?_) (Ev.bind (f := fun k t730 => spec_laidTo.l0 k t730 s a3 a4 false 93 ((t.s :: r.l).length : Int) 1 5 i j [] (t.s :: r.l)) h1 ?_)))
  · rw [spec_laidTo.f]
    exact (if_neg (by omega)).trans (if_neg (by omega))
  · rw [spec_laidTo.j0]
    exact (if_neg Bool.false_ne_true).trans (if_pos (by omega))
  · rw [spec_laidTo.l0]
    refine (if_neg Bool.false_ne_true).trans ((if_pos hpos).trans ((if_neg (by omega)).trans ((if_pos (by simp only [List.length_append, List.length_cons, List.length_nil]; omega)).trans ((Option.bind_some _ _).trans ?_))))
    rw [h3, h4, e1.out, e0]
    exact (if_pos (by simp only [List.length_append, List.length_cons, List.length_nil]; omega)).trans ((Option.bind_some _ _).trans ((if_pos (by simp only [List.length_append, List.length_cons, List.length_nil]; omega)).trans ((Option.bind_some _ _).trans ((if_neg (by omega)).trans ((if_pos (by omega)).trans ((if_pos hpos).trans (if_pos (by omega))))))))
  · have e3 : l ++ (91 :: 10 :: (tb P I (d + 1) ++ (t.lb s P I (d + 1) ++ (r.lbR s P I (d + 1) ++ 10 :: (tb P I d ++ [93]))))) = (l ++ [91] ++ [10] ++ tb P I d ++ I ++ t.lb s P I (d + 1)) ++ (r.lbR s P I (d + 1) ++ 10 :: (tb P I d ++ [93])) := by rw [← tb_succ]; simp
    rw [e3]
    exact h2
theorem lay_obj {ni nj : Nat} {t : T} {r : Ms} (i j : Int) (hij : ni ≤ nj) (hj : nj ≤ s.size) (ht : Lays s P I t) (hr : LaysM s P I r) (hle : (t.s :: r.l).length ≤ 4096) (d : Nat) (l : List Int) (a3 a4 : ByteArray) (h3 : bytesOf a3 = tb P I d) (h4 : bytesOf a4 = I)
    (hl : l.length + (123 :: 10 :: (tb P I (d + 1) ++ (sl s ni nj ++ (58 :: 32 :: (t.lb s P I (d + 1) ++ (r.lbR s P I (d + 1) ++ (10 :: (tb P I d ++ [125])))))))).length < 70368744177664) :
    Ev (fun k => spec_laidTo.f k l s 6 i j (⟨(ni : Int), (nj : Int)⟩ :: r.names) (t.s :: r.l) a3 a4) (l ++ (123 :: 10 :: (tb P I (d + 1) ++ (sl s ni nj ++ (58 :: 32 :: (t.lb s P I (d + 1) ++ (r.lbR s P I (d + 1) ++ (10 :: (tb P I d ++ [125]))))))))) := by
  have hsl := sl_length (s := s) (i := ni) hj
  simp only [List.length_cons, List.length_append, List.length_nil, tb_len, hsl] at hl
  have z3 : a3.size = (tb P I d).length := by rw [← h3, bytesOf_length]
  have z4 : a4.size = I.length := by rw [← h4, bytesOf_length]
  have h5 : bytesOf (a3 ++ a4) = tb P I (d + 1) := by rw [bytesOf_append, h3, h4, tb_succ]
  have hpos : (0 : Int) < ((t.s :: r.l).length : Int) := by simp only [List.length_cons]; omega
  have hpos2 : (0 : Int) < (((⟨(ni : Int), (nj : Int)⟩ : S55) :: r.names).length : Int) := by simp only [List.length_cons]; omega
  have h1 := ht (d + 1) (l ++ [123] ++ [10] ++ tb P I d ++ I ++ sl s ni nj ++ [58, 32]) (a3 ++ a4) a4 h5 h4 (by simp only [List.length_append, List.length_cons, List.length_nil, hsl]; omega)
  have h2 := hr d [t.s] [⟨(ni : Int), (nj : Int)⟩] (l ++ [123] ++ [10] ++ tb P I d ++ I ++ sl s ni nj ++ [58, 32] ++ t.lb s P I (d + 1)) a3 a4 i j h3 h4 (by simp) rfl hle (by simp only [List.length_append, List.length_cons, List.length_nil, hsl]; omega)
  have e1 : Aside0 (wrap64 (0 + 1) = 1) := ⟨w64 (by omega) (by omega)⟩
  have e0 : rd_T28 (t.s :: r.l) 0 = t.s := rfl
  have e0' : rd_T55 ((⟨(ni : Int), (nj : Int)⟩ : S55) :: r.names) 0 = ⟨(ni : Int), (nj : Int)⟩ := rfl
  have q1 : (((⟨(ni : Int), (nj : Int)⟩ : S55).f0 : Int)).toNat = ni := Int.toNat_natCast ni
  have q2 : (((⟨(ni : Int), (nj : Int)⟩ : S55).f1 : Int)).toNat = nj := Int.toNat_natCast nj
  refine Ev.step (f := fun k => spec_laidTo.j0 k l s a3 a4 false 123 125 6 i j (⟨(ni : Int), (nj : Int)⟩ :: r.names) (t.s :: r.l)) (fun k => ?_) (Ev.step (f := fun k => spec_laidTo.l0 k (l ++ [123]) s a3 a4 false 125 ((t.s :: r.l).length : Int) 0 6 i j (⟨(ni : Int), (nj : Int)⟩ :: r.names) (t.s :: r.l)) (fun k => ?_) (Ev.step (fun k => ?_) (Ev.bind (f := fun k t726 => spec_laidTo.l0 k t726 s a3 a4 false 125 ((t.s :: r.l).length : Int) 1 6 i j (⟨(ni : Int), (nj : Int)⟩ :: r.names) (t.s :: r.l)) h1 ?_)))
  · rw [spec_laidTo.f]
    exact (if_neg (by omega)).trans (if_pos rfl)
  · rw [spec_laidTo.j0]
    exact (if_neg Bool.false_ne_true).trans (if_pos (by omega))
  · rw [spec_laidTo.l0]
    refine (if_neg Bool.false_ne_true).trans ((if_pos hpos).trans ((if_neg (by omega)).trans ((if_pos (by simp only [List.length_append, List.length_cons, List.length_nil]; omega)).trans ((Option.bind_some _ _).trans ?_))))
    rw [h3, h4, e1.out, e0, e0']
    refine (if_pos (by simp only [List.length_append, List.length_cons, List.length_nil]; omega)).trans ((Option.bind_some _ _).trans ((if_pos (by simp only [List.length_append, List.length_cons, List.length_nil]; omega)).trans ((Option.bind_some _ _).trans ((if_pos rfl).trans ((if_pos (by omega)).trans ((if_pos hpos2).trans ((if_pos (Int.natCast_nonneg ni)).trans ((if_pos (Int.ofNat_le.mpr hij)).trans ((if_pos (Int.ofNat_le.mpr hj)).trans ?_)))))))))
    rw [q1, q2, bytesOf_extract, extract_size hj]
    exact (if_pos (by simp only [List.length_append, List.length_cons, List.length_nil]; omega)).trans ((Option.bind_some _ _).trans ((Option.bind_some _ _).trans ((if_pos (by simp only [List.length_append, List.length_cons, List.length_nil, hsl]; omega)).trans ((if_pos hpos).trans (if_pos (by omega))))))
  · have e3 : l ++ (123 :: 10 :: (tb P I (d + 1) ++ (sl s ni nj ++ 58 :: 32 :: (t.lb s P I (d + 1) ++ (r.lbR s P I (d + 1) ++ 10 :: (tb P I d ++ [125])))))) = (l ++ [123] ++ [10] ++ tb P I d ++ I ++ sl s ni nj ++ [58, 32] ++ t.lb s P I (d + 1)) ++ (r.lbR s P I (d + 1) ++ 10 :: (tb P I d ++ [125])) := by rw [← tb_succ]; simp
    rw [e3]
    exact h2
mutual
theorem T.lays : ∀ t : T, t.ok s → Lays s P I t
  | .leaf kd i j, h => by
    intro d l a3 a4 h3 h4 hl
    rw [T.ok] at h
    rw [T.lb] at hl ⊢
    exact laid_bare (bare_leaf h.1 h.2.1 h.2.2.1 h.2.2.2 hl _ _)
  | .arr i j .nil, h => by
    intro d l a3 a4 h3 h4 hl
    rw [T.lb] at hl ⊢
    exact laid_bare (bare_arr hl _ _ _)
  | .obj i j .nil, h => by
    intro d l a3 a4 h3 h4 hl
    rw [T.lb] at hl ⊢
    exact laid_bare (bare_obj hl _ _ _)
  | .arr i j (.cons t r), h => by
    intro d l a3 a4 h3 h4 hl
    rw [T.ok, Es.ok, Es.l] at h
    rw [T.lb] at hl ⊢
    exact lay_arr (i : Int) (j : Int) (T.lays t h.2.1) (Es.laysR r h.2.2) h.1 d l a3 a4 h3 h4 hl
  | .obj i j (.cons ni nj t r), h => by
    intro d l a3 a4 h3 h4 hl
    rw [T.ok, Ms.ok, Ms.l] at h
    rw [T.lb] at hl ⊢
    exact lay_obj (i : Int) (j : Int) h.2.1 h.2.2.1 (T.lays t h.2.2.2.1) (Ms.laysM r h.2.2.2.2) h.1 d l a3 a4 h3 h4 hl
theorem Es.laysR : ∀ es : Es, es.ok s → LaysR s P I es
  | .nil, _ => laysR_nil
  | .cons t r, h => by
    rw [Es.ok] at h
    exact laysR_cons (T.lays t h.1) (Es.laysR r h.2)
theorem Ms.laysM : ∀ ms : Ms, ms.ok s → LaysM s P I ms
  | .nil, _ => laysM_nil
  | .cons ni nj t r, h => by
    rw [Ms.ok] at h
    exact laysM_cons h.1 h.2.1 (T.lays t h.2.2.1) (Ms.laysM r h.2.2.2)
end
end
end Go.Proofs.Ytffdebhaclkhjaa.PFnPrWholeDefault
