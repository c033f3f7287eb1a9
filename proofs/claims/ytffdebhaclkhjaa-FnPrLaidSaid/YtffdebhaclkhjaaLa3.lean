/- The steps of the package's printer at arrays and objects. No condition but that the text has at most 4096 bytes and that what is written stays below 2^46 bytes, stated in each lemma. -/
import Derived.Test.YtffdebhaclkhjaaLa2
set_option linter.unusedVariables false
set_option linter.unusedSimpArgs false
namespace Go.Proofs.Ytffdebhaclkhjaa.PFnPrWholeDefault
open Go.RowKit Go.Proofs.YtffdebhaclkhjaaW.PrintWords
theorem rd_end (a : List Int) (c : Int) : rd (a ++ [c]) (a.length : Int) = c := by
  unfold rd; simp [List.getD_eq_getElem?_getD]
theorem set_end (a : List Int) (c d : Int) : (a ++ [c]).set (((a.length : Nat) : Int)).toNat d = a ++ [d] := by
  rw [Int.toNat_natCast, List.set_append_right _ _ (Nat.le_refl _), Nat.sub_self]; rfl
theorem len_end (a : List Int) (c : Int) (h : a.length < 140737488355328) : Aside0 (wrap64 (((a ++ [c]).length : Int) - 1) = (a.length : Int)) := ⟨by
  rw [List.length_append, w64 (by simp only [List.length_cons, List.length_nil]; omega) (by simp only [List.length_cons, List.length_nil]; omega)]; simp only [List.length_cons, List.length_nil]; omega⟩
/-! ### words -/
theorem sl_get (s : ByteArray) (i j q : Nat) (h : i + q < j) : (sl s i j).getD q 0 = bt s ((i + q : Nat) : Int) := by
  rw [← rd_js]
  unfold sl rd
  rw [List.getD_eq_getElem?_getD, List.getD_eq_getElem?_getD, List.getElem?_drop, List.getElem?_take_of_lt h, Int.toNat_natCast]
theorem word_bt {s : ByteArray} {i : Nat} {w : ByteArray} (h : IsWord s i w) (q : Nat) (hq : q < w.size) : bt s ((i + q : Nat) : Int) = bt w (q : Int) := by
  rw [← sl_get s i (i + w.size) q (by omega), word_at h, ← rd_js]
  rfl
section
variable {s : ByteArray} {l : List Int} {pr : Bool} {p ind_ : ByteArray} {wd tabs nl mx : Int}
theorem any_leaf (hn : s.size ≤ 4096) {kd : Int} {i j : Nat} (hij : i < j) (hj : j ≤ s.size) (h : LeafOK s kd i j) (he : ¬ numOK (bt s (j : Int))) (hl : l.length + (j - i) < 140737488355328) :
    Ev (fun k => pretty_appendPrettyAny.l0 k l (bytesOf s) (i : Int) pr wd p ind_ false tabs nl mx) (l ++ sl s i j, (j : Int), nl, true) := by
  rcases h with ⟨_, h⟩ | ⟨_, h, h2⟩ | ⟨_, h, h2⟩ | ⟨_, h, h2⟩ | ⟨_, h, h2⟩
  · exact any_str (by omega) h.2.2.1 (str_ev hn h nl hl)
  · exact any_num hn (by omega) h (num_ev hn hij hj h2 he nl hl)
  · subst h
    have b0 : bt s (i : Int) = 110 := word_bt h2 0 (by decide)
    have b1 : bt s ((i + 1 : Nat) : Int) = 117 := word_bt h2 1 (by decide)
    have e1 : Aside0 (wrap64 ((i : Int) + 4) = ((i + 4 : Nat) : Int)) := ⟨w64 (by omega) (by omega)⟩
    have ew : sl s i (i + 4) = [110, 117, 108, 108] := word_at h2
    refine any_j1 hn (by omega) (by omega) (by omega) (by omega) (by omega) (nan_no (by omega) (by omega) (by omega) (by omega) (by omega) (fun _ => ⟨by omega, b1⟩)) ?_
    rw [ew]
    refine Ev.step (fun k => ?_) (Ev.now _)
    rw [pretty_appendPrettyAny.j1]
    refine (if_neg Bool.false_ne_true).trans ((if_neg Bool.false_ne_true).trans ((if_pos (by omega)).trans ((if_pos (js_lt (by omega))).trans ?_)))
    rw [rd_js, e1.out]
    exact (if_neg (by omega)).trans ((if_neg (by omega)).trans ((if_neg (by omega)).trans ((if_neg (by omega)).trans ((if_pos b0).trans ((Option.bind_some _ _).trans (if_pos (by simp only [List.length_cons, List.length_nil]; omega)))))))
  · subst h
    have b0 : bt s (i : Int) = 102 := word_bt h2 0 (by decide)
    have e1 : Aside0 (wrap64 ((i : Int) + 5) = ((i + 5 : Nat) : Int)) := ⟨w64 (by omega) (by omega)⟩
    have ew : sl s i (i + 5) = [102, 97, 108, 115, 101] := word_at h2
    refine any_j1 hn (by omega) (by omega) (by omega) (by omega) (by omega) (nan_no (by omega) (by omega) (by omega) (by omega) (by omega) (fun _ => by omega)) ?_
    rw [ew]
    refine Ev.step (fun k => ?_) (Ev.now _)
    rw [pretty_appendPrettyAny.j1]
    refine (if_neg Bool.false_ne_true).trans ((if_neg Bool.false_ne_true).trans ((if_pos (by omega)).trans ((if_pos (js_lt (by omega))).trans ?_)))
    rw [rd_js, e1.out]
    exact (if_neg (by omega)).trans ((if_neg (by omega)).trans ((if_neg (by omega)).trans ((if_pos b0).trans ((Option.bind_some _ _).trans (if_pos (by simp only [List.length_cons, List.length_nil]; omega))))))
  · subst h
    have b0 : bt s (i : Int) = 116 := word_bt h2 0 (by decide)
    have e1 : Aside0 (wrap64 ((i : Int) + 4) = ((i + 4 : Nat) : Int)) := ⟨w64 (by omega) (by omega)⟩
    have ew : sl s i (i + 4) = [116, 114, 117, 101] := word_at h2
    refine any_j1 hn (by omega) (by omega) (by omega) (by omega) (by omega) (nan_no (by omega) (by omega) (by omega) (by omega) (by omega) (fun _ => by omega)) ?_
    rw [ew]
    refine Ev.step (fun k => ?_) (Ev.now _)
    rw [pretty_appendPrettyAny.j1]
    refine (if_neg Bool.false_ne_true).trans ((if_neg Bool.false_ne_true).trans ((if_pos (by omega)).trans ((if_pos (js_lt (by omega))).trans ?_)))
    rw [rd_js, e1.out]
    exact (if_neg (by omega)).trans ((if_neg (by omega)).trans ((if_pos b0).trans ((Option.bind_some _ _).trans (if_pos (by simp only [List.length_cons, List.length_nil]; omega)))))
end
/-! ### the loop over parts -/
section
variable {s : ByteArray} {l : List Int} {op cl : Int} {pr : Bool} {p ind_ : ByteArray} {wd tabs nl mx n : Int} {r : List Int × Int × Int × Bool}
theorem ol_blank (hn : s.size ≤ 4096) {i : Nat} (hi : i < s.size) (hb : bt s (i : Int) ≤ 32) (h : Ev (fun k => pretty_appendPrettyObject.l0 k l (bytesOf s) ((i + 1 : Nat) : Int) op cl pr wd p ind_ false tabs nl mx n false) r) :
    Ev (fun k => pretty_appendPrettyObject.l0 k l (bytesOf s) (i : Int) op cl pr wd p ind_ false tabs nl mx n false) r := by
  have e1 : Aside0 (wrap64 ((i : Int) + 1) = ((i + 1 : Nat) : Int)) := ⟨w64 (by omega) (by omega)⟩
  refine Ev.step (fun k => ?_) h
  rw [pretty_appendPrettyObject.l0]
  refine (if_neg Bool.false_ne_true).trans ((if_neg Bool.false_ne_true).trans ((if_pos (js_lt hi)).trans ((if_pos (by omega)).trans ((if_pos (by rw [rd_js]; exact hb)).trans ?_))))
  rw [e1.out]
theorem ol_blk (hn : s.size ≤ 4096) {q : Nat} (h : Ev (fun k => pretty_appendPrettyObject.l0 k l (bytesOf s) (q : Int) op cl pr wd p ind_ false tabs nl mx n false) r) : ∀ m i, q - i = m → Blk s i q →
    Ev (fun k => pretty_appendPrettyObject.l0 k l (bytesOf s) (i : Int) op cl pr wd p ind_ false tabs nl mx n false) r := by
  intro m
  induction m with
  | zero =>
    intro i hm hb
    have h1 := hb.1
    have e : i = q := by omega
    rw [e]
    exact h
  | succ m ih =>
    intro i hm hb
    obtain ⟨h1, h2, h3⟩ := hb
    exact ol_blank hn (by omega) (isB_le (h3 i (Nat.le_refl _) (by omega))) (ih (i + 1) (by omega) ⟨by omega, h2, fun q' a b => h3 q' (by omega) b⟩)
theorem ol_close_line (hn : s.size ≤ 4096) {q : Nat} (hi : q < s.size) (h32 : 32 < cl) (hc : bt s (q : Int) = cl) (hl : l.length < 140737488355328) :
    Ev (fun k => pretty_appendPrettyObject.l0 k l (bytesOf s) (q : Int) op cl false wd p ind_ false tabs nl mx n false) (l ++ [cl], ((q + 1 : Nat) : Int), nl, (op != 123)) := by
  have e1 : Aside0 (wrap64 ((q : Int) + 1) = ((q + 1 : Nat) : Int)) := ⟨w64 (by omega) (by omega)⟩
  refine Ev.step (fun k => ?_) (Ev.now _)
  rw [pretty_appendPrettyObject.l0, rd_js, e1.out]
  exact (if_neg Bool.false_ne_true).trans ((if_neg Bool.false_ne_true).trans ((if_pos (js_lt hi)).trans ((if_pos (by omega)).trans ((if_neg (by omega)).trans ((if_pos hc).trans ((if_neg Bool.false_ne_true).trans (if_pos hl)))))))
theorem ol_j4 (hn : s.size ≤ 4096) {q : Nat} (hi : q < s.size) (h32 : 32 < cl) (hc : bt s (q : Int) = cl)
    (h : Ev (fun k => pretty_appendPrettyObject.j4 k l (q : Int) op cl p ind_ false tabs nl n false false) r) :
    Ev (fun k => pretty_appendPrettyObject.l0 k l (bytesOf s) (q : Int) op cl true wd p ind_ false tabs nl mx n false) r := by
  refine Ev.step (fun k => ?_) h
  rw [pretty_appendPrettyObject.l0, rd_js]
  exact (if_neg Bool.false_ne_true).trans ((if_neg Bool.false_ne_true).trans ((if_pos (js_lt hi)).trans ((if_pos (by omega)).trans ((if_neg (by omega)).trans ((if_pos hc).trans ((if_pos rfl).trans (ite_self _)))))))
/-- Nothing stands between the brackets. -/
theorem ol_close0 (hn : s.size ≤ 4096) {q : Nat} (hi : q < s.size) (h32 : 32 < cl) (hc : bt s (q : Int) = cl) {a : List Int} (hl : a.length + 1 < 140737488355328) :
    Ev (fun k => pretty_appendPrettyObject.l0 k (a ++ [op]) (bytesOf s) (q : Int) op cl true wd p ind_ false tabs nl mx 0 false) (a ++ [op] ++ [cl], ((q + 1 : Nat) : Int), nl, (op != 123)) := by
  have e1 : Aside0 (wrap64 ((q : Int) + 1) = ((q + 1 : Nat) : Int)) := ⟨w64 (by omega) (by omega)⟩
  have e2 := len_end a op (by omega)
  refine ol_j4 hn hi h32 hc (Ev.step (fun k => ?_) (Ev.now _))
  rw [pretty_appendPrettyObject.j4, e2.out, rd_end, e1.out]
  exact (if_neg Bool.false_ne_true).trans ((if_neg Bool.false_ne_true).trans ((if_neg Bool.false_ne_true).trans ((if_neg (by omega)).trans ((if_pos (by omega)).trans ((if_pos (by simp only [List.length_append, List.length_cons, List.length_nil]; omega)).trans ((if_pos rfl).trans (if_pos (by simp only [List.length_append, List.length_cons, List.length_nil]; omega))))))))
/-- Behind the last part. -/
theorem ol_closeN (hn : s.size ≤ 4096) {q : Nat} (hi : q < s.size) (h32 : 32 < cl) (hop : op ≠ 10) (hc : bt s (q : Int) = cl) {a : List Int} {c : Int} (hc32 : c ≠ 32) {d : Nat} (hd : d ≤ 8192) (hn0 : 0 < n) (hl : a.length + 3 + (tb (bytesOf p) (bytesOf ind_) d).length < 140737488355328) :
    Ev (fun k => pretty_appendPrettyObject.l0 k (a ++ [c]) (bytesOf s) (q : Int) op cl true wd p ind_ false (d : Int) nl mx n false) (a ++ [c] ++ (10 :: (tb (bytesOf p) (bytesOf ind_) d ++ [cl])), ((q + 1 : Nat) : Int), ((a ++ [c]).length : Int), (op != 123)) := by
  have e1 : Aside0 (wrap64 ((q : Int) + 1) = ((q + 1 : Nat) : Int)) := ⟨w64 (by omega) (by omega)⟩
  have e2 := len_end a c (by omega)
  have e3 := len_end (a ++ [c]) 10 (by simp only [List.length_append, List.length_cons, List.length_nil]; omega)
  have ht := tabs_ev p ind_ d hd (a ++ [c] ++ [10]) (by simp only [List.length_append, List.length_cons, List.length_nil]; omega)
  refine ol_j4 hn hi h32 hc (Ev.step (fun k => ?_) (Ev.bind (f := fun k t422 => (if t422.length < 140737488355328 then (some ((t422 ++ [cl]), ((q + 1 : Nat) : Int), ((a ++ [c]).length : Int), (op != 123))) else (none))) ht ?_))
  · rw [pretty_appendPrettyObject.j4, e2.out, rd_end, e1.out]
    refine (if_neg Bool.false_ne_true).trans ((if_neg Bool.false_ne_true).trans ((if_neg Bool.false_ne_true).trans ((if_pos hn0).trans ((if_pos (by omega)).trans ((if_pos (by simp only [List.length_append, List.length_cons, List.length_nil]; omega)).trans ((if_neg hc32).trans ((if_pos (by simp only [List.length_append, List.length_cons, List.length_nil]; omega)).trans ((Option.bind_some _ _).trans ?_))))))))
    rw [e3.out, rd_end]
    exact (if_pos (by omega)).trans ((if_pos (by simp only [List.length_append, List.length_cons, List.length_nil]; omega)).trans (if_neg (fun h => hop h.symm)))
  · have e : a ++ [c] ++ (10 :: (tb (bytesOf p) (bytesOf ind_) d ++ [cl])) = (a ++ [c] ++ [10] ++ tb (bytesOf p) (bytesOf ind_) d) ++ [cl] := by simp
    rw [e]
    exact Ev.congr (fun k => if_pos (by simp only [List.length_append, List.length_cons, List.length_nil]; omega)) (Ev.now _)
/-! ### into a part -/
theorem arr_enter0 (hn : s.size ≤ 4096) {i : Nat} (hi : i < s.size) (h32 : 32 < bt s (i : Int)) (h93 : bt s (i : Int) ≠ 93) (h : Ev (fun k => pretty_appendPrettyObject.j6 k l (bytesOf s) (i : Int) 91 93 pr wd p ind_ false tabs nl mx 0 false) r) :
    Ev (fun k => pretty_appendPrettyObject.l0 k l (bytesOf s) (i : Int) 91 93 pr wd p ind_ false tabs nl mx 0 false) r := by
  refine Ev.step (f := fun k => pretty_appendPrettyObject.j5 k l (bytesOf s) (i : Int) 91 93 pr wd p ind_ false tabs nl mx 0 false true) (fun k => ?_) (Ev.step (fun k => ?_) h)
  · rw [pretty_appendPrettyObject.l0, rd_js]
    exact (if_neg Bool.false_ne_true).trans ((if_neg Bool.false_ne_true).trans ((if_pos (js_lt hi)).trans ((if_pos (by omega)).trans ((if_neg (by omega)).trans ((if_neg h93).trans (if_pos rfl))))))
  · rw [pretty_appendPrettyObject.j5]
    exact (if_neg Bool.false_ne_true).trans ((if_neg Bool.false_ne_true).trans ((if_pos rfl).trans (if_neg (by omega))))
theorem arr_enterN (hn : s.size ≤ 4096) {i : Nat} (hi : i < s.size) (h32 : 32 < bt s (i : Int)) (h93 : bt s (i : Int) ≠ 93) (hwd : wd ≠ -1) (hn0 : 0 < n) (hl : l.length + 1 < 140737488355328) (h : Ev (fun k => pretty_appendPrettyObject.j6 k (l ++ [44] ++ [32]) (bytesOf s) (i : Int) 91 93 pr wd p ind_ false tabs nl mx n false) r) :
    Ev (fun k => pretty_appendPrettyObject.l0 k l (bytesOf s) (i : Int) 91 93 pr wd p ind_ false tabs nl mx n false) r := by
  refine Ev.step (f := fun k => pretty_appendPrettyObject.j5 k l (bytesOf s) (i : Int) 91 93 pr wd p ind_ false tabs nl mx n false true) (fun k => ?_) (Ev.step (fun k => ?_) h)
  · rw [pretty_appendPrettyObject.l0, rd_js]
    exact (if_neg Bool.false_ne_true).trans ((if_neg Bool.false_ne_true).trans ((if_pos (js_lt hi)).trans ((if_pos (by omega)).trans ((if_neg (by omega)).trans ((if_neg h93).trans (if_pos rfl))))))
  · rw [pretty_appendPrettyObject.j5]
    exact (if_neg Bool.false_ne_true).trans ((if_neg Bool.false_ne_true).trans ((if_pos rfl).trans ((if_pos hn0).trans ((if_pos (by omega)).trans ((Option.bind_some _ _).trans ((if_neg hwd).trans ((if_pos rfl).trans (if_pos (by simp only [List.length_append, List.length_cons, List.length_nil]; omega)))))))))
theorem obj_j5 (hn : s.size ≤ 4096) {i : Nat} (hi : i < s.size) {b : Bool} (h32 : 32 < bt s (i : Int)) (h125 : bt s (i : Int) ≠ 125) (hb : (bt s (i : Int) == 34) = b) (h : Ev (fun k => pretty_appendPrettyObject.j5 k l (bytesOf s) (i : Int) 123 125 pr wd p ind_ false tabs nl mx n false b) r) :
    Ev (fun k => pretty_appendPrettyObject.l0 k l (bytesOf s) (i : Int) 123 125 pr wd p ind_ false tabs nl mx n false) r := by
  refine Ev.step (fun k => ?_) h
  rw [pretty_appendPrettyObject.l0, rd_js, hb]
  exact (if_neg Bool.false_ne_true).trans ((if_neg Bool.false_ne_true).trans ((if_pos (js_lt hi)).trans ((if_pos (by omega)).trans ((if_neg (by omega)).trans ((if_neg h125).trans (if_neg (by omega)))))))
theorem obj_enter0 (hn : s.size ≤ 4096) {i : Nat} (hi : i < s.size) (h34 : bt s (i : Int) = 34) (h : Ev (fun k => pretty_appendPrettyObject.j6 k l (bytesOf s) (i : Int) 123 125 pr wd p ind_ false tabs nl mx 0 false) r) :
    Ev (fun k => pretty_appendPrettyObject.l0 k l (bytesOf s) (i : Int) 123 125 pr wd p ind_ false tabs nl mx 0 false) r := by
  refine obj_j5 hn hi (by omega) (by omega) (b := true) (by rw [h34]; rfl) (Ev.step (fun k => ?_) h)
  rw [pretty_appendPrettyObject.j5]
  exact (if_neg Bool.false_ne_true).trans ((if_neg Bool.false_ne_true).trans ((if_pos rfl).trans (if_neg (by omega))))
theorem obj_enterN (hn : s.size ≤ 4096) {i : Nat} (hi : i < s.size) (h34 : bt s (i : Int) = 34) (hwd : wd ≠ -1) (hn0 : 0 < n) (hl : l.length < 140737488355328) (h : Ev (fun k => pretty_appendPrettyObject.j6 k (l ++ [44]) (bytesOf s) (i : Int) 123 125 pr wd p ind_ false tabs nl mx n false) r) :
    Ev (fun k => pretty_appendPrettyObject.l0 k l (bytesOf s) (i : Int) 123 125 pr wd p ind_ false tabs nl mx n false) r := by
  refine obj_j5 hn hi (by omega) (by omega) (b := true) (by rw [h34]; rfl) (Ev.step (fun k => ?_) h)
  rw [pretty_appendPrettyObject.j5]
  exact (if_neg Bool.false_ne_true).trans ((if_neg Bool.false_ne_true).trans ((if_pos rfl).trans ((if_pos hn0).trans ((if_pos hl).trans ((Option.bind_some _ _).trans ((if_neg hwd).trans (if_neg (by omega))))))))
theorem obj_pass (hn : s.size ≤ 4096) {i : Nat} (hi : i < s.size) (h44 : bt s (i : Int) = 44) (h : Ev (fun k => pretty_appendPrettyObject.l0 k l (bytesOf s) ((i + 1 : Nat) : Int) 123 125 pr wd p ind_ false tabs nl mx n false) r) :
    Ev (fun k => pretty_appendPrettyObject.l0 k l (bytesOf s) (i : Int) 123 125 pr wd p ind_ false tabs nl mx n false) r := by
  have e1 : Aside0 (wrap64 ((i : Int) + 1) = ((i + 1 : Nat) : Int)) := ⟨w64 (by omega) (by omega)⟩
  refine obj_j5 hn hi (by omega) (by omega) (b := false) (by rw [h44]; rfl) (Ev.step (fun k => ?_) h)
  rw [pretty_appendPrettyObject.j5, e1.out]
  exact (if_neg Bool.false_ne_true).trans ((if_neg Bool.false_ne_true).trans (if_neg Bool.false_ne_true))
/-! ### a new line -/
theorem j6_flat {i : Int} (h : Ev (fun k => pretty_appendPrettyObject.j7 k l (bytesOf s) i op cl false wd p ind_ false tabs nl mx n false) r) :
    Ev (fun k => pretty_appendPrettyObject.j6 k l (bytesOf s) i op cl false wd p ind_ false tabs nl mx n false) r :=
  Ev.step (fun k => by rw [pretty_appendPrettyObject.j6]; exact (if_neg Bool.false_ne_true).trans ((if_neg Bool.false_ne_true).trans (if_neg Bool.false_ne_true))) h
theorem j6_new {i : Int} {a : List Int} {c : Int} (hc : c ≠ 32) {d : Nat} (hd : d ≤ 8190) (hl : a.length + 4 + (tb (bytesOf p) (bytesOf ind_) (d + 1)).length < 140737488355328)
    (h : Ev (fun k => pretty_appendPrettyObject.j7 k (a ++ [c] ++ [10] ++ tb (bytesOf p) (bytesOf ind_) (d + 1)) (bytesOf s) i op cl true wd p ind_ false (d : Int) ((a ++ [c]).length : Int) mx n false) r) :
    Ev (fun k => pretty_appendPrettyObject.j6 k (a ++ [c]) (bytesOf s) i op cl true wd p ind_ false (d : Int) nl mx n false) r := by
  have e2 := len_end a c (by omega)
  have e1 : Aside0 (wrap64 ((d : Int) + 1) = ((d + 1 : Nat) : Int)) := ⟨w64 (by omega) (by omega)⟩
  have ht := tabs_ev p ind_ (d + 1) (by omega) (a ++ [c] ++ [10]) (by simp only [List.length_append, List.length_cons, List.length_nil]; omega)
  refine Ev.step (fun k => ?_) (Ev.bind (f := fun k t => pretty_appendPrettyObject.j7 k t (bytesOf s) i op cl true wd p ind_ false (d : Int) ((a ++ [c]).length : Int) mx n false) ht h)
  rw [pretty_appendPrettyObject.j6, e2.out, rd_end, e1.out]
  exact (if_neg Bool.false_ne_true).trans ((if_neg Bool.false_ne_true).trans ((if_pos rfl).trans ((if_pos (by omega)).trans ((if_pos (by simp only [List.length_append, List.length_cons, List.length_nil]; omega)).trans ((if_neg hc).trans ((if_pos (by simp only [List.length_append, List.length_cons, List.length_nil]; omega)).trans ((Option.bind_some _ _).trans (ite_self _))))))))
theorem j6_over {i : Int} {a : List Int} {d : Nat} (hd : d ≤ 8190) (hl : a.length + 4 + (tb (bytesOf p) (bytesOf ind_) (d + 1)).length < 140737488355328)
    (h : Ev (fun k => pretty_appendPrettyObject.j7 k (a ++ [10] ++ tb (bytesOf p) (bytesOf ind_) (d + 1)) (bytesOf s) i op cl true wd p ind_ false (d : Int) ((a ++ [32]).length : Int) mx n false) r) :
    Ev (fun k => pretty_appendPrettyObject.j6 k (a ++ [32]) (bytesOf s) i op cl true wd p ind_ false (d : Int) nl mx n false) r := by
  have e2 := len_end a 32 (by omega)
  have e1 : Aside0 (wrap64 ((d : Int) + 1) = ((d + 1 : Nat) : Int)) := ⟨w64 (by omega) (by omega)⟩
  have ht := tabs_ev p ind_ (d + 1) (by omega) (a ++ [10]) (by simp only [List.length_append, List.length_cons, List.length_nil]; omega)
  refine Ev.step (fun k => ?_) (Ev.bind (f := fun k t => pretty_appendPrettyObject.j7 k t (bytesOf s) i op cl true wd p ind_ false (d : Int) ((a ++ [32]).length : Int) mx n false) ht h)
  rw [pretty_appendPrettyObject.j6, e2.out, rd_end, e1.out, set_end]
  exact (if_neg Bool.false_ne_true).trans ((if_neg Bool.false_ne_true).trans ((if_pos rfl).trans ((if_pos (by omega)).trans ((if_pos (by simp only [List.length_append, List.length_cons, List.length_nil]; omega)).trans ((if_pos rfl).trans ((Option.bind_some _ _).trans (ite_self _)))))))
theorem j7_arr {i : Int} (h : Ev (fun k => pretty_appendPrettyObject.j8 k l (bytesOf s) i 91 cl pr wd p ind_ false tabs nl mx n false) r) :
    Ev (fun k => pretty_appendPrettyObject.j7 k l (bytesOf s) i 91 cl pr wd p ind_ false tabs nl mx n false) r :=
  Ev.step (fun k => by rw [pretty_appendPrettyObject.j7]; exact (if_neg Bool.false_ne_true).trans ((if_neg Bool.false_ne_true).trans (if_neg (by omega)))) h
theorem j7_obj (hn : s.size ≤ 4096) {b j : Nat} (hs : StrTok s b j) (hl : l.length + (j - b) + 2 < 140737488355328) (h : Ev (fun k => pretty_appendPrettyObject.j8 k (l ++ sl s b j ++ [58] ++ [32]) (bytesOf s) (j : Int) 123 cl true wd p ind_ false tabs nl mx n false) r) :
    Ev (fun k => pretty_appendPrettyObject.j7 k l (bytesOf s) (b : Int) 123 cl true wd p ind_ false tabs nl mx n false) r := by
  have hz := sl_length (s := s) (i := b) hs.2.1
  refine Ev.step (fun k => by rw [pretty_appendPrettyObject.j7]; exact (if_neg Bool.false_ne_true).trans ((if_neg Bool.false_ne_true).trans (if_pos rfl))) (Ev.bind (str_ev hn hs nl (by omega)) (Ev.congr (fun k => ?_) h))
  exact (if_pos (by simp only [List.length_append, hz]; omega)).trans ((Option.bind_some _ _).trans ((if_pos rfl).trans (if_pos (by simp only [List.length_append, List.length_cons, List.length_nil, hz]; omega))))
theorem j8_go {i : Int} {l' : List Int} {e m : Nat} {nl' : Int} {ok : Bool} (ha : Ev (fun k => pretty_appendPrettyAny.f k l (bytesOf s) i pr wd p ind_ (wrap64 (tabs + 1)) nl mx) (l', (e : Int), nl', ok)) (hok : mx = -1 ∨ ok = true) (he : e ≤ 4096) (hm : m ≤ 8192)
    (h : Ev (fun k => pretty_appendPrettyObject.l0 k l' (bytesOf s) (e : Int) op cl pr wd p ind_ false tabs nl' mx ((m + 1 : Nat) : Int) false) r) :
    Ev (fun k => pretty_appendPrettyObject.j8 k l (bytesOf s) i op cl pr wd p ind_ false tabs nl mx (m : Int) false) r := by
  have e1 : Aside0 (wrap64 (wrap64 ((e : Int) - 1) + 1) = (e : Int)) := ⟨by rw [w64 (x := (e : Int) - 1) (by omega) (by omega), w64 (by omega) (by omega)]; omega⟩
  have e2 : Aside0 (wrap64 ((m : Int) + 1) = ((m + 1 : Nat) : Int)) := ⟨w64 (by omega) (by omega)⟩
  have h9 : Ev (fun k => pretty_appendPrettyObject.j9 k l' (bytesOf s) (e : Int) op cl pr wd p ind_ false tabs nl' mx (m : Int) false false) r := by
    refine Ev.step (f := fun k => pretty_appendPrettyObject.j10 k l' (bytesOf s) (e : Int) op cl pr wd p ind_ false tabs nl' mx (m : Int) false false) (fun k => ?_) (Ev.step (fun k => ?_) h)
    · rw [pretty_appendPrettyObject.j9]
      refine (if_neg Bool.false_ne_true).trans ((if_neg Bool.false_ne_true).trans ((if_neg Bool.false_ne_true).trans ?_))
      rw [ite_self, ite_self]
    · rw [pretty_appendPrettyObject.j10, e1.out, e2.out]
      exact (if_neg Bool.false_ne_true).trans ((if_neg Bool.false_ne_true).trans (if_neg Bool.false_ne_true))
  refine Ev.step (fun k => by rw [pretty_appendPrettyObject.j8]; exact (if_neg Bool.false_ne_true).trans (if_neg Bool.false_ne_true)) (Ev.bind ha ?_)
  by_cases hx : mx = -1
  · simp only [if_pos hx]; exact h9
  · have := hok.resolve_left hx
    subst this
    simp only [if_neg hx]; exact h9
theorem j8_no {i : Int} {l' : List Int} {e : Int} {nl' : Int} (ha : Ev (fun k => pretty_appendPrettyAny.f k l (bytesOf s) i pr wd p ind_ (wrap64 (tabs + 1)) nl mx) (l', e, nl', false)) (hx : mx ≠ -1) :
    Ev (fun k => pretty_appendPrettyObject.j8 k l (bytesOf s) i op cl pr wd p ind_ false tabs nl mx n false) (l', e, nl', false) := by
  refine Ev.step (fun k => by rw [pretty_appendPrettyObject.j8]; exact (if_neg Bool.false_ne_true).trans (if_neg Bool.false_ne_true)) (Ev.bind ha ?_)
  simp only [if_neg hx]
  refine Ev.step (fun k => ?_) (Ev.now _)
  rw [pretty_appendPrettyObject.j9]
  exact (if_neg Bool.false_ne_true).trans ((if_neg Bool.false_ne_true).trans (if_pos rfl))
theorem obj_j1 (hn : s.size ≤ 4096) {i : Nat} (hi : i < s.size) (hl : l.length < 140737488355328) (h : Ev (fun k => pretty_appendPrettyObject.l0 k (l ++ [op]) (bytesOf s) ((i + 1 : Nat) : Int) op cl pr wd p ind_ false tabs nl mx 0 false) r) :
    Ev (fun k => pretty_appendPrettyObject.j1 k l (bytesOf s) (i : Int) op cl pr wd p ind_ false tabs nl mx) r := by
  have e1 : Aside0 (wrap64 ((i : Int) + 1) = ((i + 1 : Nat) : Int)) := ⟨w64 (by omega) (by omega)⟩
  refine Ev.step (f := fun k => pretty_appendPrettyObject.j2 k (l ++ [op]) (bytesOf s) ((i + 1 : Nat) : Int) op cl pr wd p ind_ false tabs nl mx false) (fun k => ?_) (Ev.step (fun k => ?_) h)
  · rw [pretty_appendPrettyObject.j1, e1.out]
    exact (if_neg Bool.false_ne_true).trans ((if_pos hl).trans ((Option.bind_some _ _).trans (ite_self _)))
  · rw [pretty_appendPrettyObject.j2]
    exact (if_neg Bool.false_ne_true).trans (if_neg Bool.false_ne_true)
end
end Go.Proofs.Ytffdebhaclkhjaa.PFnPrWholeDefault
