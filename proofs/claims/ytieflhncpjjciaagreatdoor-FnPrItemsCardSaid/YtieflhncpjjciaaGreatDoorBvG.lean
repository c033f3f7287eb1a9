/- Walks and plain laws of this claim. -/
import Derived.Test.YtieflhncpjjciaaGreatDoorBuD
import Derived.Test.YtieflhncpjjciaaGreatDoorBuF
import Derived.Test.YtieflhncpjjciaaGreatDoorBuB
import Derived.Test.YtieflhncpjjciaaGreatDoorSx9
import Derived.Test.YtieflhncpjjciaaGreatDoorBuE
import Derived.Test.YtieflhncpjjciaaGreatDoorSx14
set_option linter.unusedVariables false
set_option linter.unusedSimpArgs false
namespace Go.Proofs.YtieflhncpjjciaaGreatDoor
open Go Go.RowKit
theorem Y0 {P : Prop} (h : P := by omega) : P := h
theorem Y1 {P : Prop} (h : P := by kernel_rfl) : P := h
theorem Y2 {P : Prop} (h : P := by rw [← hw1, ← hB]; simp [go_sem]) : P := h
theorem Y3 {P : Prop} (h : P := by rw [hx]; rfl) : P := h
theorem Y4 {P : Prop} (h : P := by simp) : P := h
theorem Y5 {P : Prop} (h : P := by decide) : P := h
theorem Y6 {P : Prop} (h : P := by rfl) : P := h
theorem Y7 {P : Prop} (h : P := by rw [hb]; rfl) : P := h
theorem Y8 {P : Prop} (h : P := by cases h) : P := h
theorem Y9 {P : Prop} (h : P := by rw [ByteArray.size_extract]; omega) : P := h
theorem Y10 {P : Prop} (h : P := by go_num) : P := h
theorem Y11 {P : Prop} (h : P := by have := hq.out; omega) : P := h
theorem Y12 {P : Prop} (h : P := by simp [go_sem]) : P := h
theorem Y13 {P : Prop} (h : P := by rw [hB]; exact HBE.out) : P := h
theorem Y14 {P : Prop} (h : P := by simp at h) : P := h
theorem Y15 {P : Prop} (h : P := by have := hkm.out; omega) : P := h
theorem Y16 {P : Prop} (h : P := by simp [Value.oneCell']) : P := h
theorem Y17 {P : Prop} (h : P := by unfold L Rows.fnPrItemsRow; simp) : P := h
theorem Y18 {P : Prop} (h : P := by simp [Es.wf]) : P := h
theorem Y19 {P : Prop} (h : P := by simp [Ms.wf]) : P := h
theorem Y20 {P : Prop} (h : P := by rw [bytesOf_length]; omega) : P := h
theorem Y21 {P : Prop} (h : P := by simp [go_sem]; omega) : P := h
theorem Y22 {P : Prop} (h : P := by rw [← hw1, ← hB]; exact thr_al (thr_new w [.int .i64 0, .string ⟨#[]⟩, .string ⟨#[]⟩, .float .f64 0, .int .i64 0, .slice none 0 0] 61) _) : P := h
theorem Y23 {P : Prop} (h : P := by rw [← hB]; exact HBB.out) : P := h
theorem Y24 {P : Prop} (h : P := by have := hpq.out; omega) : P := h
theorem Y25 {P : Prop} (h : P := by have := hk.1; have := hk.2.1; omega) : P := h
theorem Y26 {P : Prop} (h : P := by have := B5.out.size; omega) : P := h
theorem Y27 {P : Prop} (h : P := by rw [← hwA]; simp [go_sem]) : P := h
theorem Y28 {P : Prop} (h : P := by show _ = o + _; simp only [List.length_cons, List.length_append, List.length_nil]; rfl) : P := h
theorem Y29 {P : Prop} (h : P := by simp only [List.length_append, List.length_cons, List.length_nil] at hz; omega) : P := h
theorem Y30 {P : Prop} (h : P := by rw [w64 Y0 Y0]; omega) : P := h
theorem Y31 {P : Prop} (h : P := by rw [← hw1]; exact ((Below.refl _ w).alloc Y0 _).alloc Y21 _) : P := h
theorem Y32 {P : Prop} (h : P := by rw [← hw1, ← hB]; have hn := rng_new (w.alloc (Obj.cells #[.int .i64 0, .string ⟨#[]⟩, .string ⟨#[]⟩, .float .f64 0, .int .i64 0, .slice none 0 0] 61)) [.int .i64 0, .string ⟨#[]⟩, .string ⟨#[]⟩, .float .f64 0, .int .i64 0, .slice none 0 0] 61; rwa [show (w.alloc (Obj.cells #[.int .i64 0, .string ⟨#[]⟩, .string ⟨#[]⟩, .float .f64 0, .int .i64 0, .slice none 0 0] 61)).heap.size = w.heap.size + 1 from Y12] at hn) : P := h
theorem Y33 {P : Prop} (h : P := by have := ih Y0; rw [show i - o + 1 = i + 1 - o from Y0]; exact this) : P := h
theorem Y34 {P : Prop} (h : P := by rw [spec_Paired.l0, if_pos Y0, if_pos Y0, if_pos h92]) : P := h
theorem Y35 {P : Prop} (h : P := by rw [show o + (i - o) = i from Y0, show o + (j - o) = j from Y0]; exact k) : P := h
theorem Y36 {P : Prop} (h : P := by rw [← hw1, ← hB]; have hn := thr_new (w.alloc (Obj.cells #[.int .i64 0, .string ⟨#[]⟩, .string ⟨#[]⟩, .float .f64 0, .int .i64 0, .slice none 0 0] 61)) [.int .i64 0, .string ⟨#[]⟩, .string ⟨#[]⟩, .float .f64 0, .int .i64 0, .slice none 0 0] 61; rwa [show (w.alloc (Obj.cells #[.int .i64 0, .string ⟨#[]⟩, .string ⟨#[]⟩, .float .f64 0, .int .i64 0, .slice none 0 0] 61)).heap.size = w.heap.size + 1 from Y12] at hn) : P := h
theorem hdd {P : Prop} (h : P) : Hid P := Lib.hid h
end Go.Proofs.YtieflhncpjjciaaGreatDoor
namespace Go.Proofs.YtieflhncpjjciaaGreatDoor.Dc
open Go Go.RowKit Go.Proofs.YtieflhncpjjciaaGreatDoorW.PrintWords Go.Proofs.YtieflhncpjjciaaGreatDoor.PFnGjSquashItems
structure Suf (s u : ByteArray) (o : Nat) : Prop where
 sz : s.size = o + u.size
 b : ∀ k : Nat, bt u (k : Int) = bt s ((o + k : Nat) : Int)
theorem Suf.of (s : ByteArray) {o : Nat} (h : o ≤ s.size) : Suf s (s.extract o s.size) o := by
 have hz : (s.extract o s.size).size = s.size - o := Y9
 refine ⟨Y0, fun k => ?_⟩
 rcases Nat.lt_or_ge (o + k) s.size with h1 | h1
 ·
  exact bt_extract (Nat.le_refl _) h1
 ·
  rw [bt_out _ _ Y0, bt_out _ _ h1]
theorem Suf.odd {s u : ByteArray} {o : Nat} (h : Suf s u o) (i : Nat) : ∀ p, PFnGjSquashItems.odd u i p = PFnGjSquashItems.odd s (o + i) (o + p) := by
 intro p
 induction p with
 | zero =>
  cases o with
  | zero => rfl
  | succ o =>
   show false = PFnGjSquashItems.odd s (o + 1 + i) (o + 1)
   rw [PFnGjSquashItems.odd, if_neg Y0]
 | succ p ih =>
  show _ = PFnGjSquashItems.odd s (o + i) (o + p + 1)
  rw [PFnGjSquashItems.odd, PFnGjSquashItems.odd, ih, h.b p]
  by_cases hc : i < p ∧ bt s ((o + p : Nat) : Int) = 92
  ·
   rw [if_pos hc, if_pos ⟨Y0, hc.2⟩]
  ·
   rw [if_neg hc, if_neg (fun h2 => hc ⟨Y0, h2.2⟩)]
theorem Suf.str0 {s u : ByteArray} {o : Nat} (h : Suf s u o) {i j : Nat} (k : StrTok0 s (o + i) (o + j)) : StrTok0 u i j := by
 obtain ⟨h1, h2, h3, h4, h5, h6⟩ := k
 have hz := h.sz
 have e : o + (j - 1) = o + j - 1 := Y0
 refine ⟨Y0, Y0, by rw [h.b]; exact h3, by rw [h.b, e]; exact h4, by rw [h.odd, e]; exact h5, fun q q1 q2 q3 => ?_⟩
 rw [h.odd]
 exact h6 (o + q) Y0 Y0 (by rw [← h.b]; exact q3)
theorem Suf.tk {s u : ByteArray} {o : Nat} (h : Suf s u o) {e : Nat} : ∀ i, Tk s e i → o ≤ i → Tk u (e - o) (i - o) := by
 intro i k
 induction k with
 | nil => intro _; exact .nil
 | @plain i hi c32 c34 c92 r ih =>
  intro ho
  have hb : bt u ((i - o : Nat) : Int) = bt s (i : Int) := by rw [h.b, show o + (i - o) = i from Y0]
  have := ih Y0
  exact .plain Y0 (by rw [hb]; exact c32) (by rw [hb]; exact c34) (by rw [hb]; exact c92) (by rw [show i - o + 1 = i + 1 - o from Y0]; exact this)
 | @esc i j h92 hj hje r ih =>
  intro ho
  have hb : ∀ q, o ≤ q → bt u ((q - o : Nat) : Int) = bt s (q : Int) := fun q hq => by rw [h.b, show o + (q - o) = q from Y0]
  have hij : i + 1 < j := by rcases hj with ⟨h, _⟩ | ⟨h, _⟩ <;> omega
  have := ih Y0
  refine .esc (j := j - o) (by rw [hb i ho]; exact h92) ?_ Y0 this
  have e1 : i - o + 1 = i + 1 - o := Y0
  rcases hj with ⟨a1, a2⟩ | ⟨a1, a2, a3⟩
  ·
   exact Or.inl ⟨Y0, by rw [e1, hb (i + 1) Y0]; exact a2⟩
  ·
   refine Or.inr ⟨Y0, by rw [e1, hb (i + 1) Y0]; exact a2, fun q q1 q2 => ?_⟩
   rw [h.b]; exact a3 (o + q) Y0 Y0
theorem Suf.str {s u : ByteArray} {o : Nat} (h : Suf s u o) {i j : Nat} (k : StrTok s (o + i) (o + j)) : StrTok u i j := by
 refine ⟨h.str0 k.1, ?_⟩
 have := h.tk _ k.2 Y0
 have h1 := k.1.1
 rw [show o + j - 1 - o = j - 1 from Y0, show o + i + 1 - o = i + 1 from Y0] at this
 exact this
theorem Suf.sq {s u : ByteArray} {o : Nat} (h : Suf s u o) {e : Nat} : ∀ i d, Sq s e i d → o ≤ i → Sq u (e - o) (i - o) d := by
 intro i d k
 have hz := h.sz
 have hb : ∀ q, o ≤ q → bt u ((q - o : Nat) : Int) = bt s (q : Int) := fun q hq => by rw [h.b, show o + (q - o) = q from Y0]
 induction k with
 | stop he hv => intro ho; exact .stop Y0 (by rw [hb _ ho]; exact hv)
 | @plain i d hi hv r ih => intro ho; exact .plain Y0 (by rw [hb _ ho]; exact hv) Y33
 | @opened i d hi hv r ih => intro ho; exact .opened Y0 (by rw [hb _ ho]; exact hv) Y33
 | @shut i d hi hd hv r ih => intro ho; exact .shut Y0 hd (by rw [hb _ ho]; exact hv) Y33
 | @str i j d hst r ih =>
  intro ho
  have hj := hst.1
  exact .str (j := j - o) (h.str0 (by rw [show o + (i - o) = i from Y0, show o + (j - o) = j from Y0]; exact hst)) (ih Y0)
theorem Suf.extract {s u : ByteArray} {o : Nat} (hu : u = s.extract o s.size) (ho : o ≤ s.size) {i j : Nat} (hj : o + j ≤ s.size) : u.extract i j = s.extract (o + i) (o + j) := by
 subst hu
 rw [ByteArray.extract_extract, Nat.min_eq_left hj]
def VK (s : ByteArray) (kd : Int) (i j : Nat) : Prop := i < j ∧ j ≤ s.size ∧
 ((kd = 4 ∧ StrTok s i j) ∨ (kd = 3 ∧ (bt s (i : Int) = 45 ∨ (48 ≤ bt s (i : Int) ∧ bt s (i : Int) ≤ 57)) ∧ ∀ q, i ≤ q → q < j → numOK (bt s (q : Int))) ∨
  (((kd = 0 ∧ bt s (i : Int) = 110 ∧ bt s ((i + 1 : Nat) : Int) = 117) ∨ (kd = 1 ∧ bt s (i : Int) = 102) ∨ (kd = 2 ∧ bt s (i : Int) = 116)) ∧ ∀ q, i ≤ q → q < j → 97 ≤ bt s (q : Int) ∧ bt s (q : Int) ≤ 122) ∨
  (((kd = 5 ∧ bt s (i : Int) = 91) ∨ (kd = 6 ∧ bt s (i : Int) = 123)) ∧ Sq s (j - 1) (i + 1) 1))
theorem Suf.vk {s u : ByteArray} {o : Nat} (h : Suf s u o) {kd : Int} {i j : Nat} (k : VK s kd (o + i) (o + j)) : VK u kd i j := by
 obtain ⟨h1, h2, h3⟩ := k
 have hz := h.sz
 refine ⟨Y0, Y0, ?_⟩
 rcases h3 with ⟨a, b⟩ | ⟨a, b, c⟩ | ⟨a, b⟩ | ⟨a, b⟩
 ·
  exact Or.inl ⟨a, h.str b⟩
 ·
  exact Or.inr (Or.inl ⟨a, by rw [h.b]; exact b, fun q q1 q2 => by rw [h.b]; exact c (o + q) Y0 Y0⟩)
 ·
  exact Or.inr (Or.inr (Or.inl ⟨by rw [h.b, h.b]; exact a, fun q q1 q2 => by rw [h.b]; exact b (o + q) Y0 Y0⟩))
 ·
  refine Or.inr (Or.inr (Or.inr ⟨by rw [h.b]; exact a, ?_⟩))
  have := h.sq _ _ b Y0
  rw [show o + j - 1 - o = j - 1 from Y0, show o + i + 1 - o = i + 1 from Y0] at this
  exact this
theorem bt_of_list {a b : ByteArray} (h : a.toList = b.toList) : a = b := by
 rw [ByteArray.toList_eq, ByteArray.toList_eq] at h
 exact ByteArray.ext (Array.toList_inj.mp h)
theorem word_bt {s w : ByteArray} {i : Nat} (h : IsWord s i w) {k : Nat} (hk : k < w.size) : bt s ((i + k : Nat) : Int) = bt w (k : Int) := by
 have e := bt_of_list h.2
 rw [← bt_extract h.1 Y0, e]
theorem isWord_az {s w : ByteArray} {i j : Nat} (h : IsWord s i w) (hj : j = i + w.size) (hw : ∀ k, k < w.size → 97 ≤ bt w (k : Int) ∧ bt w (k : Int) ≤ 122) : ∀ q, i ≤ q → q < j → 97 ≤ bt s (q : Int) ∧ bt s (q : Int) ≤ 122 := by
 intro q h1 h2
 have := word_bt h (k := q - i) Y0
 rw [show i + (q - i) = q from Y0] at this
 rw [this]
 exact hw _ Y0
theorem T.wf_lt {s : ByteArray} (t : T) (h : t.wf s) : t.i < t.j := by
 cases t with
 | leaf kd i j => exact h.1
 | arr i j es => exact h.2.1
 | obj i j ms => exact h.2.1
theorem leaf_vk {s : ByteArray} {kd : Int} {i j : Nat} (hij : i < j) (hj : j ≤ s.size) (h : LeafOK s kd i j) : VK s kd i j := by
 refine ⟨hij, hj, ?_⟩
 rcases h with h | h | ⟨h1, h2, h3⟩ | ⟨h1, h2, h3⟩ | ⟨h1, h2, h3⟩
 ·
  exact Or.inl h
 ·
  exact Or.inr (Or.inl h)
 ·
  refine Or.inr (Or.inr (Or.inl ⟨Or.inl ⟨h1, word_bt h3 (k := 0) Y5, word_bt h3 (k := 1) Y5⟩, isWord_az h3 h2 (by intro k hk; have : k < 4 := hk; rcases k with _ | _ | _ | _ | k <;> first | decide | omega)⟩))
 ·
  refine Or.inr (Or.inr (Or.inl ⟨Or.inr (Or.inl ⟨h1, word_bt h3 (k := 0) Y5⟩), isWord_az h3 h2 (by intro k hk; have : k < 5 := hk; rcases k with _ | _ | _ | _ | _ | k <;> first | decide | omega)⟩))
 ·
  refine Or.inr (Or.inr (Or.inl ⟨Or.inr (Or.inr ⟨h1, word_bt h3 (k := 0) Y5⟩), isWord_az h3 h2 (by intro k hk; have : k < 4 := hk; rcases k with _ | _ | _ | _ | k <;> first | decide | omega)⟩))
theorem sq_run {s : ByteArray} {e d : Nat} {i : Nat} : ∀ m j, j - i = m → i ≤ j → j ≤ s.size → (∀ q, i ≤ q → q < j → vch (bt s (q : Int)) = 0) → Sq s e j d → Sq s e i d := by
 intro m
 induction m with
 | zero => intro j h1 h2 h3 h4 h5; rw [show i = j from Y0]; exact h5
 | succ m ih =>
  intro j h1 h2 h3 h4 h5
  refine ih (j - 1) Y0 Y0 Y0 (fun q a b => h4 q a Y0) (.plain Y0 (h4 _ Y0 Y0) ?_)
  rw [show j - 1 + 1 = j from Y0]; exact h5
theorem blk_sq {s : ByteArray} {i j e d : Nat} (h : Blk s i j) (k : Sq s e j d) : Sq s e i d := by
 refine sq_run _ j rfl h.1 h.2.1 (fun q a b => ?_) k
 have := isB_le (h.2.2 q a b)
 exact vch0 Y0 Y0 Y0 Y0 Y0 Y0 Y0
theorem leaf_sq {s : ByteArray} {kd : Int} {i j e d : Nat} (h : VK s kd i j) (h5 : kd ≠ 5) (h6 : kd ≠ 6) (k : Sq s e j d) : Sq s e i d := by
 obtain ⟨h1, h2, h3⟩ := h
 rcases h3 with ⟨a, b⟩ | ⟨a, b, c⟩ | ⟨a, b⟩ | ⟨a, b⟩
 ·
  exact .str b.1 k
 ·
  refine sq_run _ j rfl Y0 h2 (fun q q1 q2 => ?_) k
  have := c q q1 q2
  unfold numOK at this
  exact vch0 Y0 Y0 Y0 Y0 Y0 Y0 Y0
 ·
  refine sq_run _ j rfl Y0 h2 (fun q q1 q2 => ?_) k
  have := b q q1 q2
  exact vch0 Y0 Y0 Y0 Y0 Y0 Y0 Y0
 ·
  omega
theorem plain_sq {s : ByteArray} {i e d : Nat} {c : Int} (hc : bt s (i : Int) = c) (hv : vch c = 0) (h0 : c ≠ 0) (k : Sq s e (i + 1) d) : Sq s e i d := .plain (bt_in hc h0) (by rw [hc]; exact hv) k
mutual
theorem wf_sq {s : ByteArray} : ∀ t : T, t.wf s → t.j ≤ s.size ∧ (∀ e d, 1 ≤ d → Sq s e t.j d → Sq s e t.i d) ∧ ∃ kd, t.s.1 = kd ∧ VK s kd t.i t.j
 | .leaf kd i j, h => by
  have hk := leaf_vk h.1 h.2.1 h.2.2
  refine ⟨h.2.1, fun e d hd k => leaf_sq hk ?_ ?_ k, kd, rfl, hk⟩
  ·
   intro h5; rcases h.2.2 with ⟨a, _⟩ | ⟨a, _⟩ | ⟨a, _⟩ | ⟨a, _⟩ | ⟨a, _⟩ <;> omega
  ·
   intro h5; rcases h.2.2 with ⟨a, _⟩ | ⟨a, _⟩ | ⟨a, _⟩ | ⟨a, _⟩ | ⟨a, _⟩ <;> omega
 | .arr i j es, h => by
  obtain ⟨h1, h2, p, h3, h4⟩ := h
  have hin : j ≤ s.size ∧ ∀ e d, 1 ≤ d → Sq s e (j - 1) d → Sq s e (i + 1) d := by
   rcases h4 with ⟨a, b, c⟩ | h4
   ·
    subst b
    have hp := bt_in a Y5
    exact ⟨Y0, fun e d hd k => blk_sq h3 k⟩
   ·
    obtain ⟨a, b, c, f⟩ := es_sq es p j h4
    exact ⟨a, fun e d hd k => blk_sq h3 (f e d hd k)⟩
  have hv : vch (bt s ((j - 1 : Nat) : Int)) = 1 := by
   rcases h4 with ⟨a, b, c⟩ | h4
   ·
    subst b; rw [Nat.add_sub_cancel, a]; rfl
   ·
    exact (es_sq es p j h4).2.1
  have hj : j - 1 + 1 = j := Y0
  have hin1 := hin.1
  refine ⟨hin.1, fun e d hd k => ?_, 5, rfl, h2, hin.1, Or.inr (Or.inr (Or.inr ⟨Or.inl ⟨rfl, h1⟩, hin.2 _ _ (Nat.le_refl _) (.stop (show j - 1 < s.size from Y0) hv)⟩))⟩
  refine .opened (bt_in h1 Y5) (by rw [show (T.arr i j es).i = i from rfl, h1]; rfl) (hin.2 _ _ Y0 (.shut (show j - 1 < s.size from Y0) hd hv (by rw [hj]; exact k)))
 | .obj i j ms, h => by
  obtain ⟨h1, h2, p, h3, h4⟩ := h
  have hin : j ≤ s.size ∧ ∀ e d, 1 ≤ d → Sq s e (j - 1) d → Sq s e (i + 1) d := by
   rcases h4 with ⟨a, b, c⟩ | h4
   ·
    subst b
    have hp := bt_in a Y5
    exact ⟨Y0, fun e d hd k => blk_sq h3 k⟩
   ·
    obtain ⟨a, b, c, f⟩ := ms_sq ms p j h4
    exact ⟨a, fun e d hd k => blk_sq h3 (f e d hd k)⟩
  have hv : vch (bt s ((j - 1 : Nat) : Int)) = 1 := by
   rcases h4 with ⟨a, b, c⟩ | h4
   ·
    subst b; rw [Nat.add_sub_cancel, a]; rfl
   ·
    exact (ms_sq ms p j h4).2.1
  have hj : j - 1 + 1 = j := Y0
  have hin1 := hin.1
  refine ⟨hin.1, fun e d hd k => ?_, 6, rfl, h2, hin.1, Or.inr (Or.inr (Or.inr ⟨Or.inr ⟨rfl, h1⟩, hin.2 _ _ (Nat.le_refl _) (.stop (show j - 1 < s.size from Y0) hv)⟩))⟩
  refine .opened (bt_in h1 Y5) (by rw [show (T.obj i j ms).i = i from rfl, h1]; rfl) (hin.2 _ _ Y0 (.shut (show j - 1 < s.size from Y0) hd hv (by rw [hj]; exact k)))
theorem es_sq {s : ByteArray} : ∀ (es : Es) (p j : Nat), es.wf s p j → j ≤ s.size ∧ vch (bt s ((j - 1 : Nat) : Int)) = 1 ∧ p < j ∧ ∀ e d, 1 ≤ d → Sq s e (j - 1) d → Sq s e p d
 | .nil, p, j, h => absurd h Y18
 | .cons t r, p, j, h => by
  obtain ⟨h1, h2, q, h3, h4⟩ := h
  obtain ⟨a, b, _⟩ := wf_sq t h1
  have hl := T.wf_lt t h1
  have hq := h3.1
  rcases h4 with ⟨c1, c2, c3⟩ | ⟨c1, p', c2, c3⟩
  ·
   subst c3
   have := bt_in c1 Y5
   refine ⟨Y0, by rw [Nat.add_sub_cancel, c1]; rfl, Y0, fun e d hd k => ?_⟩
   rw [← h2]
   exact b e d hd (blk_sq h3 k)
  ·
   obtain ⟨f1, f2, f3, f4⟩ := es_sq r p' j c3
   have := c2.1
   refine ⟨f1, f2, Y0, fun e d hd k => ?_⟩
   rw [← h2]
   exact b e d hd (blk_sq h3 (plain_sq c1 rfl Y5 (blk_sq c2 (f4 e d hd k))))
theorem ms_sq {s : ByteArray} : ∀ (ms : Ms) (p j : Nat), ms.wf s p j → j ≤ s.size ∧ vch (bt s ((j - 1 : Nat) : Int)) = 1 ∧ p < j ∧ ∀ e d, 1 ≤ d → Sq s e (j - 1) d → Sq s e p d
 | .nil, p, j, h => absurd h Y19
 | .cons ni nj t r, p, j, h => by
  obtain ⟨g1, g2, c, g3, g4, v, g5, h1, h2, q, h3, h4⟩ := h
  obtain ⟨a, b, _⟩ := wf_sq t h1
  have hl := T.wf_lt t h1
  have hq := h3.1
  have hn1 := g2.1.1
  have hn2 := g3.1
  have hn3 := g5.1
  have key : ∀ e d, 1 ≤ d → Sq s e t.j d → Sq s e p d := fun e d hd k => by
   rw [← g1]
   refine .str g2.1 (blk_sq g3 (plain_sq g4 rfl Y5 (blk_sq g5 ?_)))
   rw [← h2]
   exact b e d hd k
  rcases h4 with ⟨c1, c2, c3⟩ | ⟨c1, p', c2, c3⟩
  ·
   subst c3
   have := bt_in c1 Y5
   exact ⟨Y0, by rw [Nat.add_sub_cancel, c1]; rfl, Y0, fun e d hd k => key e d hd (blk_sq h3 k)⟩
  ·
   obtain ⟨f1, f2, f3, f4⟩ := ms_sq r p' j c3
   have := c2.1
   exact ⟨f1, f2, Y0, fun e d hd k => key e d hd (blk_sq h3 (plain_sq c1 rfl Y5 (blk_sq c2 (f4 e d hd k))))⟩
end
theorem wf_vk {s : ByteArray} {t : T} (h : t.wf s) : VK s t.s.1 t.i t.j := by
 obtain ⟨_, _, kd, rfl, h⟩ := wf_sq t h
 exact h
theorem num_str {s : ByteArray} {i j : Nat} (hj : j ≤ s.size) (h : ∀ q, i ≤ q → q < j → numOK (bt s (q : Int))) : NumStr (s.extract i j) := by
 intro k hk
 have hz : (s.extract i j).size = j - i := Y9
 have h1 := h (i + k) Y0 Y0
 rw [← bt_extract hj Y0, PFnGjSquashItems.bt_at hk] at h1
 unfold numOK at h1
 unfold isN
 simp only [Bool.or_eq_true, Bool.and_eq_true, decide_eq_true_eq, beq_iff_eq]
 omega
theorem lit_l0 {s : ByteArray} (hs : s.size ≤ 65536) {i j : Nat} (hj : j ≤ s.size) (hn : ∀ q, i ≤ q → q < j → 97 ≤ bt s (q : Int) ∧ bt s (q : Int) ≤ 122) (he : NumEnd s j) : ∀ m q, j - q = m → i ≤ q → q ≤ j → Ev (fun k => gjson_parseLiteral.l0 k s (q : Int) (i : Int)) ((j : Int), s.extract i j) := by
 intro m
 induction m with
 | zero =>
  intro q hm h1 h2
  obtain rfl : q = j := Y0
  refine Ev.step (f := fun _ => some ((q : Int), s.extract i q)) (fun k => ?_) (Ev.now _)
  rw [gjson_parseLiteral.l0]
  by_cases hq : q = s.size
  ·
   subst hq
   rw [if_neg Y0, if_pos Y0, if_pos Y0, Int.toNat_natCast]
  ·
   have hfin : (if 0 ≤ (i : Int) then (if (i : Int) ≤ (q : Int) then (if (q : Int) ≤ (s.size : Int) then (some ((q : Int), s.extract ((i : Int)).toNat ((q : Int)).toNat)) else (none)) else (none)) else (none)) = some ((q : Int), s.extract i q) := by
    rw [if_pos Y0, if_pos Y0, if_pos Y0, Int.toNat_natCast, Int.toNat_natCast]
   rw [if_pos Y0, if_pos Y0, hfin]
   by_cases h97 : bt s (q : Int) < 97
   ·
    rw [if_pos h97]
   ·
    rw [if_neg h97, if_pos (by rcases he with he | he | he | he | he <;> omega)]
 | succ m ih =>
  intro q hm h1 h2
  have := hn q h1 Y0
  refine Ev.step (f := fun k => gjson_parseLiteral.l0 k s ((q + 1 : Nat) : Int) (i : Int)) (fun k => ?_) (ih (q + 1) Y0 Y0 Y0)
  rw [gjson_parseLiteral.l0, if_pos Y0, if_pos Y0, if_neg Y0, if_neg Y0, wadd1 q Y0]
theorem lit_ev {s : ByteArray} (hs : s.size ≤ 65536) {i j : Nat} (hij : i < j) (hj : j ≤ s.size) (hn : ∀ q, i ≤ q → q < j → 97 ≤ bt s (q : Int) ∧ bt s (q : Int) ≤ 122) (he : NumEnd s j) : Ev (fun k => gjson_parseLiteral.f k s (i : Int)) ((j : Int), s.extract i j) := by
 unfold gjson_parseLiteral.f
 rw [wadd1 i Y0]
 exact lit_l0 hs hj hn he _ (i + 1) rfl Y0 Y0
structure ItT where
 ni : Nat
 nj : Nat
 kd : Int
 v : Nat
 j : Nat
def sepOK (c : Int) : Prop := c ≤ 32 ∨ c = 44 ∨ c = 58
inductive It (u : ByteArray) (ob : Bool) : Nat → List ItT → Prop
 | done {i : Nat} (h : i ≤ u.size) (h1 : ob = true → ∀ q, i ≤ q → bt u (q : Int) ≠ 34) (h2 : ob = false → ∀ q, i ≤ q → q < u.size → sepOK (bt u (q : Int)) ∨ bt u (q : Int) = 93) : It u ob i []
 | item {i : Nat} {t : ItT} {l : List ItT} (hi : i ≤ t.ni) (hn : ob = true → StrTok u t.ni t.nj ∧ ∀ q, i ≤ q → q < t.ni → bt u (q : Int) ≠ 34) (hn2 : ob = false → t.ni = i ∧ t.nj = i) (hv : t.nj ≤ t.v) (hs : ∀ q, t.nj ≤ q → q < t.v → sepOK (bt u (q : Int))) (vk : VK u t.kd t.v t.j) (hj : t.j < u.size) (he : NumEnd u t.j) (r : It u ob (t.j + 1) l) : It u ob i (t :: l)
def kidOf (q : S47) : Int × Int × Int := (q.1, q.2, q.3)
def itOf (o : Nat) (t : ItT) : Int × Int × Int := (t.kd, ((o + t.v : Nat) : Int), ((o + t.j : Nat) : Int))
theorem kid_t (t : T) : kidOf t.s = (t.s.1, (t.i : Int), (t.j : Int)) := by cases t <;> rfl
theorem isB_sep {c : Int} (h : isB c = true) : sepOK c := Or.inl (isB_le h)
theorem isB_34 {c : Int} (h : isB c = true) : c ≠ 34 := by have := isB_le h; omega
theorem sep_run {s : ByteArray} {a q p : Nat} {P : Int → Prop} (h1 : Blk s a q) (hc : P (bt s (q : Int))) (h2 : Blk s (q + 1) p) (hB : ∀ c, isB c = true → P c) : ∀ k, a ≤ k → k < p → P (bt s (k : Int)) := by
 intro k k1 k2
 rcases Nat.lt_or_ge k q with h | h
 ·
  exact hB _ (h1.2.2 k k1 h)
 ·
  rcases Nat.eq_or_lt_of_le h with h | h
  ·
   rw [← h]; exact hc
  ·
   exact hB _ (h2.2.2 k h k2)
theorem num_end {s u : ByteArray} {o : Nat} (h : Suf s u o) {a q : Nat} (h1 : Blk s a q) (hc : bt s (q : Int) = 44 ∨ bt s (q : Int) = 93 ∨ bt s (q : Int) = 125) (ho : o ≤ a) : NumEnd u (a - o) := by
 have e : bt u ((a - o : Nat) : Int) = bt s (a : Int) := by rw [h.b, show o + (a - o) = a from Y0]
 rcases Nat.eq_or_lt_of_le h1.1 with h2 | h2
 ·
  rw [← h2] at hc
  unfold NumEnd
  rw [e]
  omega
 ·
  have := isB_le (h1.2.2 a (Nat.le_refl _) h2)
  unfold NumEnd
  rw [e]
  omega
theorem Suf.vk' {s u : ByteArray} {o : Nat} (h : Suf s u o) {kd : Int} {i j : Nat} (ho : o ≤ i) (k : VK s kd i j) : VK u kd (i - o) (j - o) := by
 have := k.1
 exact h.vk Y35
theorem Suf.str' {s u : ByteArray} {o : Nat} (h : Suf s u o) {i j : Nat} (ho : o ≤ i) (k : StrTok s i j) : StrTok u (i - o) (j - o) := by
 have := k.1.1
 exact h.str Y35
theorem es_items {s u : ByteArray} {o : Nat} (h : Suf s u o) : ∀ (es : Es) (p j : Nat), es.wf s p j → o ≤ p → Blk s j s.size → ∀ i, o ≤ i → i ≤ p → (∀ q, i ≤ q → q < p → sepOK (bt s (q : Int))) → ∃ l, It u false (i - o) l ∧ es.l.map kidOf = l.map (itOf o)
 | .nil, p, j, hw, _, _, _, _, _, _ => absurd hw Y18
 | .cons t r, p, j, hw, hp, ht, i, hi1, hi2, hsep => by
  obtain ⟨h1, h2, q, h3, h4⟩ := hw
  have hz := h.sz
  have hl := T.wf_lt t h1
  have hvk := wf_vk h1
  have hq := h3.1
  have hjs := hvk.2.1
  have b : ∀ k, o ≤ k → bt u ((k - o : Nat) : Int) = bt s (k : Int) := fun k hk => by rw [h.b, show o + (k - o) = k from Y0]
  have mk : ∀ l, q < s.size → NumEnd u (t.j - o) → It u false (t.j + 1 - o) l → It u false (i - o) (⟨i - o, i - o, t.s.1, t.i - o, t.j - o⟩ :: l) := fun l hqs hne r => by
   refine .item (Nat.le_refl _) (fun h => Y14) (fun _ => ⟨rfl, rfl⟩) ?_ (fun k k1 k2 => ?_) (h.vk' Y0 hvk) ?_ hne ?_
   ·
    show i - o ≤ t.i - o; omega
   ·
    have k1' : i - o ≤ k := k1
    have k2' : k < t.i - o := k2
    rw [h.b]; exact hsep _ Y0 Y0
   ·
    show t.j - o < u.size; omega
   ·
    show It u false (t.j - o + 1) l
    rw [show t.j - o + 1 = t.j + 1 - o from Y0]; exact r
  have hmap : ∀ (l : List ItT), r.l.map kidOf = l.map (itOf o) → (Es.cons t r).l.map kidOf = ((⟨i - o, i - o, t.s.1, t.i - o, t.j - o⟩ : ItT) :: l).map (itOf o) := fun l hl => by
   show kidOf t.s :: r.l.map kidOf = _
   rw [hl, kid_t, List.map_cons]
   show _ = ((t.s.1, ((o + (t.i - o) : Nat) : Int), ((o + (t.j - o) : Nat) : Int)) : Int × Int × Int) :: _
   rw [show o + (t.i - o) = t.i from Y0, show o + (t.j - o) = t.j from Y0]
  rcases h4 with ⟨c1, c2, c3⟩ | ⟨c1, p', c2, c3⟩
  ·
   have hqs := bt_in c1 Y5
   subst c2; subst c3
   refine ⟨_, mk [] hqs (num_end h h3 Y0 Y0) ?_, hmap [] rfl⟩
   refine .done Y0 (fun h => Y14) (fun _ k k1 k2 => ?_)
   rw [h.b]
   exact sep_run (P := fun c => sepOK c ∨ c = 93) h3 (Or.inr c1) ht (fun c hc => Or.inl (isB_sep hc)) _ Y0 Y0
  ·
   have hqs := bt_in c1 Y5
   have hp' := c2.1
   obtain ⟨l, f1, f2⟩ := es_items h r p' j c3 Y0 ht (t.j + 1) Y0 Y0 (fun k k1 k2 => sep_run h3 (Or.inr (Or.inl c1)) c2 (fun c hc => isB_sep hc) k Y0 k2)
   exact ⟨_, mk l hqs (num_end h h3 Y0 Y0) f1, hmap l f2⟩
def T.kids : T → List S47
 | .leaf _ _ _ => []
 | .arr _ _ es => es.l
 | .obj _ _ ms => ms.l
theorem hexv_ev {c : Int} (h : isHex c = true) : Ev (fun k => spec_hexDigit.f k c) (hexV c, true) := by
 refine Ev.of (spec_hexDigit.mono c) (k := 2) ?_
 rcases isHex_cases h with h | h | h
 ·
  show spec_hexDigit.f 2 c = _
  rw [spec_hexDigit.f, if_pos h.1, decide_eq_true h.2, spec_hexDigit.j0, if_pos rfl, hexV, if_pos h.2, show (c - 48) % 256 = c - 48 from Y0]
 ·
  show spec_hexDigit.f 2 c = _
  rw [spec_hexDigit.f, if_pos Y0, decide_eq_false Y0, spec_hexDigit.j0, if_neg Y4, if_pos h.1, decide_eq_true h.2, spec_hexDigit.j1, if_pos rfl, hexV, if_neg Y0, if_neg Y0, show (c - 97) % 256 + 10 = c - 87 from Y0]
 ·
  show spec_hexDigit.f 2 c = _
  rw [spec_hexDigit.f, if_pos Y0, decide_eq_false Y0, spec_hexDigit.j0, if_neg Y4, if_neg Y0, spec_hexDigit.j1, if_neg Y4, if_pos h.1, if_pos h.2, hexV, if_neg Y0, if_pos Y0, show (c - 65) % 256 + 10 = c - 55 from Y0]
def UEsc (s : ByteArray) (p : Nat) : Prop := p + 6 ≤ s.size ∧ bt s (p : Int) = 92 ∧ bt s ((p + 1 : Nat) : Int) = 117 ∧ hex4 s (p + 2)
theorem unitl_ev {s : ByteArray} (hn : s.size ≤ 65536) {p : Nat} (hp : p + 6 ≤ s.size) : ∀ m d, 4 - d = m → d ≤ 4 → (∀ q, q < d → isHex (bt s ((p + 2 + q : Nat) : Int)) = true) → ∃ n ok, Ev (fun k => spec_unit.l0 k s (p : Int) (hexN s (p + 2) d) ((p + 2 + d : Nat) : Int)) (n, ok) ∧ (ok = true ↔ hex4 s (p + 2)) ∧ (ok = true → n = hexN s (p + 2) 4) := by
 intro m
 induction m with
 | zero =>
  intro d hm hd hx
  obtain rfl : d = 4 := Y0
  refine ⟨hexN s (p + 2) 4, true, Ev.step (f := fun _ => some (hexN s (p + 2) 4, true)) (fun k => ?_) (Ev.now _), ⟨fun _ => hx, fun _ => rfl⟩, fun _ => rfl⟩
  rw [spec_unit.l0, w64 (x := (p : Int) + 6) Y0 Y0, if_neg Y0]
 | succ m ih =>
  intro d hm hd hx
  have hd4 : d < 4 := Y0
  have hr := hexN_range (s := s) (p := p + 2) d hd hx
  by_cases hh : isHex (bt s ((p + 2 + d : Nat) : Int)) = true
  ·
   have hx' : ∀ q, q < d + 1 → isHex (bt s ((p + 2 + q : Nat) : Int)) = true := fun q hq => by
    rcases Nat.lt_or_ge q d with h | h
    ·
     exact hx q h
    ·
     rw [show q = d from Y0]; exact hh
   have hr' := hexN_range (s := s) (p := p + 2) (d + 1) Y0 hx'
   obtain ⟨n, ok, he, h1, h2⟩ := ih (d + 1) Y0 Y0 hx'
   have hv : wrap64 ((wrap64 (hexN s (p + 2) d * 16)) + hexV (bt s ((p + 2 + d : Nat) : Int))) = hexN s (p + 2) (d + 1) := by
    rw [w64 (x := hexN s (p + 2) d * 16) Y0 Y0]
    show wrap64 (hexN s (p + 2) (d + 1)) = _
    exact w64 Y0 Y0
   refine ⟨n, ok, Ev.step (f := fun k => (spec_hexDigit.f k (bt s ((p + 2 + d : Nat) : Int))).bind fun bt284 => (if bt284.2 = true then (spec_unit.l0 k s (p : Int) (wrap64 ((wrap64 (hexN s (p + 2) d * 16)) + bt284.1)) (wrap64 (((p + 2 + d : Nat) : Int) + 1))) else (some (0, false)))) (fun k => ?_) (Ev.two (hexv_ev hh) ?_), h1, h2⟩
   ·
    rw [spec_unit.l0, w64 (x := (p : Int) + 6) Y0 Y0, if_pos Y0, if_pos Y0, if_pos Y0]
   ·
    refine Ev.congr (fun k => ?_) he
    rw [if_pos rfl, hv, w64 Y0 Y0, show ((p + 2 + d : Nat) : Int) + 1 = ((p + 2 + (d + 1) : Nat) : Int) from Y0]
  ·
   obtain ⟨v, hv⟩ := hex_ev (bt s ((p + 2 + d : Nat) : Int))
   refine ⟨0, false, Ev.step (f := fun k => (spec_hexDigit.f k (bt s ((p + 2 + d : Nat) : Int))).bind fun bt284 => (if bt284.2 = true then (spec_unit.l0 k s (p : Int) (wrap64 ((wrap64 (hexN s (p + 2) d * 16)) + bt284.1)) (wrap64 (((p + 2 + d : Nat) : Int) + 1))) else (some (0, false)))) (fun k => ?_) (Ev.two hv ?_), ⟨(fun h => Y8), fun h => absurd (h d hd4) hh⟩, (fun h => Y8)⟩
   ·
    rw [spec_unit.l0, w64 (x := (p : Int) + 6) Y0 Y0, if_pos Y0, if_pos Y0, if_pos Y0]
   ·
    exact Ev.congr (fun k => if_neg hh) (Ev.now _)
theorem unit_ev {s : ByteArray} (hn : s.size ≤ 65536) (p : Nat) (hp : p ≤ 131072) : ∃ n ok, Ev (fun k => spec_unit.f k s (p : Int)) (n, ok) ∧ (ok = true ↔ UEsc s p) ∧ (ok = true → n = hexN s (p + 2) 4) := by
 have no : ∀ {g : Nat → Option (Int × Bool)}, (∀ k, g k = spec_unit.j0 k s (p : Int) true) → ¬ UEsc s p → ∃ n ok, Ev g (n, ok) ∧ (ok = true ↔ UEsc s p) ∧ (ok = true → n = hexN s (p + 2) 4) := fun hg hu =>
  ⟨0, false, Ev.congr hg (Ev.step (f := fun _ => some (0, false)) (fun k => by rw [spec_unit.j0, if_pos rfl]) (Ev.now _)), ⟨(fun h => Y8), fun h => absurd h hu⟩, (fun h => Y8)⟩
 by_cases h6 : p + 6 ≤ s.size
 ·
  have e1 : wrap64 ((s.size : Int) - (p : Int)) = (s.size : Int) - p := w64 Y0 Y0
  have e2 : wrap64 ((p : Int) + 1) = ((p + 1 : Nat) : Int) := Y30
  by_cases h92 : bt s (p : Int) = 92
  ·
   by_cases h117 : bt s ((p + 1 : Nat) : Int) = 117
   ·
    obtain ⟨n, ok, he, h1, h2⟩ := unitl_ev hn h6 _ 0 rfl Y0 (fun q hq => Y0)
    refine ⟨n, ok, Ev.congr (f := fun k => spec_unit.j0 k s (p : Int) false) (fun k => ?_) (Ev.step (fun k => ?_) he), ⟨fun h => ⟨h6, h92, h117, h1.mp h⟩, fun h => h1.mpr h.2.2.2⟩, h2⟩
    ·
     rw [spec_unit.f, e1, if_neg Y0, if_pos Y0, if_pos Y0, if_pos h92, e2, if_pos Y0, if_pos Y0, h117]
     rfl
    ·
     rw [spec_unit.j0, if_neg Y4, w64 Y0 Y0]
     rfl
   ·
    refine no (fun k => ?_) (fun h => h117 h.2.2.1)
    rw [spec_unit.f, e1, if_neg Y0, if_pos Y0, if_pos Y0, if_pos h92, e2, if_pos Y0, if_pos Y0, bne_iff_ne.mpr h117]
  ·
   refine no (fun k => ?_) (fun h => h92 h.2.1)
   rw [spec_unit.f, e1, if_neg Y0, if_pos Y0, if_pos Y0, if_neg h92]
 ·
  refine no (fun k => ?_) (fun h => h6 h.1)
  rw [spec_unit.f, w64 Y0 Y0, if_pos Y0]
theorem high_f (n : Int) : ∃ b, spec_high.f n = some b := by unfold spec_high.f; split <;> exact ⟨_, rfl⟩
theorem low_f (n : Int) : ∃ b, spec_low.f n = some b := by unfold spec_low.f; split <;> exact ⟨_, rfl⟩
theorem short_f (n : Int) : ∃ b, spec_short.f n = some b := by unfold spec_short.f; repeat' split <;> first | exact ⟨_, rfl⟩ | skip
theorem app8_j (l : List Int) (hl : l.length ≤ 1000000) (n : Int) (b : Bool) : ∃ z, Ev (fun k => spec_appendUTF8.j0 k l n b) z ∧ z.length ≤ l.length + 4 := by
 cases b with
 | true => exact ⟨l ++ [239, 191, 189], Ev.step (f := fun _ => some (l ++ [239, 191, 189])) (fun k => by rw [spec_appendUTF8.j0, if_pos rfl]; simp only [Option.bind_some]; rw [if_pos (by simp; omega)]) (Ev.now _), Y4⟩
 | false =>
  by_cases h : n < 65536
  ·
   refine ⟨_, Ev.step (f := fun _ => some _) (fun k => by rw [spec_appendUTF8.j0, if_neg Y4, if_pos h]; simp only [Option.bind_some]; rw [if_pos (by simp; omega)]) (Ev.now _), Y4⟩
  ·
   refine ⟨_, Ev.step (f := fun _ => some _) (fun k => by rw [spec_appendUTF8.j0, if_neg Y4, if_neg h]; simp only [Option.bind_some]; rw [if_pos (by simp; omega)]) (Ev.now _), Y4⟩
theorem app8_ev (l : List Int) (hl : l.length ≤ 1000000) (n : Int) : ∃ z, Ev (fun k => spec_appendUTF8.f k l n) z ∧ z.length ≤ l.length + 4 := by
 by_cases h1 : n < 128
 ·
  refine ⟨_, Ev.is (fun k => by rw [spec_appendUTF8.f, if_pos h1, if_pos Y0]), Y4⟩
 by_cases h2 : n < 2048
 ·
  refine ⟨_, Ev.is (fun k => by rw [spec_appendUTF8.f, if_neg h1, if_pos h2]; simp only [Option.bind_some]; rw [if_pos (by simp; omega)]), Y4⟩
 obtain ⟨b, hb⟩ := high_f n
 cases b with
 | true =>
  obtain ⟨z, h3, h4⟩ := app8_j l hl n true
  exact ⟨z, Ev.congr (fun k => by rw [spec_appendUTF8.f, if_neg h1, if_neg h2, hb]; rfl) h3, h4⟩
 | false =>
  obtain ⟨b, hb2⟩ := low_f n
  obtain ⟨z, h3, h4⟩ := app8_j l hl n b
  exact ⟨z, Ev.congr (fun k => by rw [spec_appendUTF8.f, if_neg h1, if_neg h2, hb]; show (spec_low.f n).bind _ = _; rw [hb2]; rfl) h3, h4⟩
theorem tk_u {u : ByteArray} {p : Nat} (h : Tk u u.size p) (hu : UEsc u p) : Tk u u.size (p + 6) := by
 obtain ⟨j, hj, _, r⟩ := h.inv92 (by have := hu.1; omega) hu.2.1
 rcases hj with ⟨_, hs⟩ | ⟨rfl, _, _⟩
 ·
  have := hu.2.2.1; omega
 ·
  exact r
theorem tk_s {u : ByteArray} {p : Nat} (h : Tk u u.size p) (hp : p < u.size) (h92 : bt u (p : Int) = 92) (hu : ¬ UEsc u p) : p + 1 < u.size ∧ Tk u u.size (p + 2) := by
 obtain ⟨j, hj, hje, r⟩ := h.inv92 hp h92
 rcases hj with ⟨rfl, hs⟩ | ⟨rfl, h117, hx⟩
 ·
  exact ⟨Y0, r⟩
 ·
  exact absurd ⟨Y0, h92, h117, fun q hq => hx (p + 2 + q) Y0 Y0⟩ hu
theorem unq_l {u : ByteArray} (hn : u.size ≤ 65536) : ∀ m p, u.size - p ≤ m → p ≤ u.size → Tk u u.size p → ∀ x : List Int, x.length + 4 * (u.size - p) ≤ 300000 → ∃ r, Ev (fun k => spec_Unquote.l0 k x u (p : Int)) r := by
 intro m
 induction m with
 | zero =>
  intro p hm hp ht x hx
  exact ⟨_, Ev.step (f := fun _ => some (strOfNums x)) (fun k => by rw [spec_Unquote.l0, if_neg Y0]) (Ev.now _)⟩
 | succ m ih =>
  intro p hm hp ht x hx
  rcases Nat.eq_or_lt_of_le hp with he | hlt
  ·
   exact ⟨_, Ev.step (f := fun _ => some (strOfNums x)) (fun k => by rw [spec_Unquote.l0, if_neg Y0]) (Ev.now _)⟩
  have e1 : wrap64 ((p : Int) + 1) = ((p + 1 : Nat) : Int) := Y30
  have e2 : wrap64 ((p : Int) + 2) = ((p + 2 : Nat) : Int) := Y30
  have e6 : wrap64 ((p : Int) + 6) = ((p + 6 : Nat) : Int) := Y30
  have e12 : wrap64 (((p + 6 : Nat) : Int) + 6) = ((p + 12 : Nat) : Int) := Y30
  by_cases h92 : bt u (p : Int) = 92
  ·
   obtain ⟨n, ok, hu, hiff, _⟩ := unit_ev hn p Y0
   cases ok with
   | false =>
    obtain ⟨h1, h2⟩ := tk_s ht hlt h92 (fun h => by have := hiff.mpr h; cases this)
    obtain ⟨b, hb⟩ := short_f (bt u ((p + 1 : Nat) : Int))
    obtain ⟨r, hr⟩ := ih (p + 2) Y0 Y0 h2 (x ++ [b]) (by simp; omega)
    refine ⟨r, Ev.step (fun k => by rw [spec_Unquote.l0, if_pos Y0, if_pos Y0, if_pos h92]) (Ev.two hu (Ev.congr (fun k => if_neg Bool.false_ne_true) ?_))⟩
    refine Ev.congr (fun k => ?_) hr
    rw [e1, if_pos Y0, if_pos Y0, hb, e2]
    simp only [Option.bind_some]
    rw [if_pos Y0]
   | true =>
    have hU := hiff.mp rfl
    have ht6 := tk_u ht hU
    have h6 := hU.1
    have one : ∃ z r, Ev (fun k => spec_appendUTF8.f k x n) z ∧ Ev (fun k => spec_Unquote.l0 k z u ((p + 6 : Nat) : Int)) r := by
     obtain ⟨z, hz, hzl⟩ := app8_ev x Y0 n
     obtain ⟨r, hr⟩ := ih (p + 6) Y0 h6 ht6 z Y0
     exact ⟨z, r, hz, hr⟩
    obtain ⟨z1, r1, hz1, hr1⟩ := one
    obtain ⟨n2, ok2, hu2, hiff2, _⟩ := unit_ev hn (p + 6) Y0
    have st : ∀ {r}, Ev (fun k => (spec_unit.f k u ((p + 6 : Nat) : Int)).bind fun bt324 => (if bt324.2 = true then ((spec_high.f n).bind fun t326 => (if t326 = true then ((spec_low.f bt324.1).bind fun t327 => (if t327 = true then ((spec_appendUTF8.f k x (wrap64 ((wrap64 (65536 + (wrap64 ((wrap64 (n - 55296)) * 1024)))) + (wrap64 (bt324.1 - 56320))))).bind fun t328 => (spec_Unquote.l0 k t328 u ((p + 12 : Nat) : Int))) else ((spec_appendUTF8.f k x n).bind fun t331 => (spec_Unquote.l0 k t331 u ((p + 6 : Nat) : Int))))) else ((spec_appendUTF8.f k x n).bind fun t334 => (spec_Unquote.l0 k t334 u ((p + 6 : Nat) : Int))))) else ((spec_appendUTF8.f k x n).bind fun t337 => (spec_Unquote.l0 k t337 u ((p + 6 : Nat) : Int))))) r → Ev (fun k => spec_Unquote.l0 k x u (p : Int)) r := fun h =>
     Ev.step (fun k => by rw [spec_Unquote.l0, if_pos Y0, if_pos Y0, if_pos h92]) (Ev.two hu (Ev.congr (fun k => if_pos rfl) (Ev.congr (fun k => by rw [e6, e12]) h)))
    cases ok2 with
    | false => exact ⟨r1, st (Ev.two hu2 (Ev.congr (fun k => if_neg Bool.false_ne_true) (Ev.two hz1 hr1)))⟩
    | true =>
     obtain ⟨b1, hb1⟩ := high_f n
     cases b1 with
     | false => exact ⟨r1, st (Ev.two hu2 (Ev.congr (fun k => if_pos rfl) (Ev.two (Ev.is fun _ => hb1) (Ev.congr (fun k => if_neg Bool.false_ne_true) (Ev.two hz1 hr1)))))⟩
     | true =>
      obtain ⟨b2, hb2⟩ := low_f n2
      cases b2 with
      | false => exact ⟨r1, st (Ev.two hu2 (Ev.congr (fun k => if_pos rfl) (Ev.two (Ev.is fun _ => hb1) (Ev.congr (fun k => if_pos rfl) (Ev.two (Ev.is fun _ => hb2) (Ev.congr (fun k => if_neg Bool.false_ne_true) (Ev.two hz1 hr1)))))))⟩
      | true =>
       have hU2 := hiff2.mp rfl
       obtain ⟨z, hz, hzl⟩ := app8_ev x Y0 (wrap64 ((wrap64 (65536 + (wrap64 ((wrap64 (n - 55296)) * 1024)))) + (wrap64 (n2 - 56320))))
       obtain ⟨r, hr⟩ := ih (p + 12) Y0 hU2.1 (tk_u ht6 hU2) z (by have := hU2.1; omega)
       exact ⟨r, st (Ev.two hu2 (Ev.congr (fun k => if_pos rfl) (Ev.two (Ev.is fun _ => hb1) (Ev.congr (fun k => if_pos rfl) (Ev.two (Ev.is fun _ => hb2) (Ev.congr (fun k => if_pos rfl) (Ev.two hz hr)))))))⟩
  ·
   have ht1 : Tk u u.size (p + 1) := by
    cases ht with
    | nil => omega
    | plain _ _ _ _ r => exact r
    | esc h _ _ _ => exact absurd h h92
   obtain ⟨r, hr⟩ := ih (p + 1) Y0 Y0 ht1 (x ++ [bt u (p : Int)]) (by simp; omega)
   exact ⟨r, Ev.step (fun k => by rw [spec_Unquote.l0, if_pos Y0, if_pos Y0, if_neg h92, if_pos Y0, e1]) hr⟩
theorem unquote_ev {s : ByteArray} (hs : s.size ≤ 65536) {i j : Nat} (h : StrTok s i j) : ∃ r, Ev (fun k => spec_Unquote.f k (s.extract i j)) r := by
 have h1 := h.1.1
 have h2 := h.1.2.1
 have hz : (s.extract i j).size = j - i := Y9
 have hx : (s.extract i j).extract 1 (j - i - 1) = s.extract (i + 1) (j - 1) := by
  rw [ByteArray.extract_extract, show min (i + (j - i - 1)) j = j - 1 from Y0]
 have hzu : (s.extract (i + 1) (j - 1)).size = j - 1 - (i + 1) := Y9
 have ht := tk_shift (a := i + 1) Y0 _ h.2 (Nat.le_refl _)
 rw [← hzu, Nat.sub_self] at ht
 obtain ⟨r, hr⟩ := unq_l (u := s.extract (i + 1) (j - 1)) Y0 _ 0 (Nat.le_refl _) (Nat.zero_le _) ht [] (by simp; omega)
 refine ⟨r, Ev.congr (fun k => ?_) hr⟩
 have e : wrap64 ((s.extract i j).size - 1 : Int) = ((j - i - 1 : Nat) : Int) := by rw [hz, w64 Y0 Y0]; omega
 rw [spec_Unquote.f, e, if_pos Y0, if_pos Y0, Int.toNat_natCast, hx]
 rfl
theorem char_l {s : ByteArray} (hn : s.size ≤ 65536) (p : Nat) (hp : p < s.size) (n9 : Nat) (h9 : n9 ≤ 3) (hpn : p + n9 < s.size) (x9 : Int) : ∀ m d, n9 + 1 - d = m → 1 ≤ d → d ≤ n9 + 1 → ∀ x7 : Int, ∃ (c : Int) (n : Nat) (ok : Bool), Ev (fun k => spec_Character.l0 k s (p : Int) x7 (n9 : Int) x9 (d : Int)) (c, (n : Int), ok) ∧ 1 ≤ n ∧ n ≤ 4 := by
 intro m
 induction m with
 | zero =>
  intro d hm h1 h2 x7
  have no : ∀ {g : Nat → Option (Int × Int × Bool)}, (∀ k, g (k + 1) = some (65533, 1, false)) → ∃ (c : Int) (n : Nat) (ok : Bool), Ev g (c, (n : Int), ok) ∧ 1 ≤ n ∧ n ≤ 4 := fun h => ⟨65533, 1, false, Ev.step (f := fun _ => some (65533, 1, false)) h (Ev.now _), Y0, Y0⟩
  obtain ⟨b1, hb1⟩ := high_f x7
  obtain ⟨b2, hb2⟩ := low_f x7
  by_cases a1 : x7 < x9
  ·
   exact no (fun k => by rw [spec_Character.l0, if_neg Y0, if_pos a1])
  by_cases a2 : x7 > 1114111
  ·
   exact no (fun k => by rw [spec_Character.l0, if_neg Y0, if_neg a1, if_pos a2])
  cases b1 with
  | true => exact no (fun k => by rw [spec_Character.l0, if_neg Y0, if_neg a1, if_neg a2, hb1]; rfl)
  | false =>
   cases b2 with
   | true => exact no (fun k => by rw [spec_Character.l0, if_neg Y0, if_neg a1, if_neg a2, hb1, hb2]; rfl)
   | false =>
    refine ⟨x7, n9 + 1, true, Ev.step (f := fun _ => some (x7, ((n9 + 1 : Nat) : Int), true)) (fun k => ?_) (Ev.now _), Y0, Y0⟩
    rw [spec_Character.l0, if_neg Y0, if_neg a1, if_neg a2, hb1, hb2, w64 Y0 Y0]
    rfl
 | succ m ih =>
  intro d hm h1 h2 x7
  have no : ∀ {g : Nat → Option (Int × Int × Bool)}, (∀ k, g (k + 1) = some (65533, 1, false)) → ∃ (c : Int) (n : Nat) (ok : Bool), Ev g (c, (n : Int), ok) ∧ 1 ≤ n ∧ n ≤ 4 := fun h => ⟨65533, 1, false, Ev.step (f := fun _ => some (65533, 1, false)) h (Ev.now _), Y0, Y0⟩
  have e1 : wrap64 ((p : Int) + (d : Int)) = ((p + d : Nat) : Int) := Y30
  have e2 : wrap64 ((d : Int) + 1) = ((d + 1 : Nat) : Int) := Y30
  by_cases a1 : wrap64 (bt s ((p + d : Nat) : Int)) < 128
  ·
   exact no (fun k => by rw [spec_Character.l0, if_pos Y0, e1, if_pos Y0, if_pos Y0, if_pos a1])
  by_cases a2 : wrap64 (bt s ((p + d : Nat) : Int)) > 191
  ·
   exact no (fun k => by rw [spec_Character.l0, if_pos Y0, e1, if_pos Y0, if_pos Y0, if_neg a1, if_pos a2])
  obtain ⟨c, n, ok, he, h3⟩ := ih (d + 1) Y0 Y0 Y0 (wrap64 ((wrap64 ((wrap64 (x7 * 64)) + (wrap64 (bt s ((p + d : Nat) : Int))))) - 128))
  exact ⟨c, n, ok, Ev.step (fun k => by rw [spec_Character.l0, if_pos Y0, e1, if_pos Y0, if_pos Y0, if_neg a1, if_neg a2, e2]) he, h3⟩
def CharTo (g : Nat → Option (Int × Int × Bool)) : Prop := ∃ (c : Int) (n : Nat) (ok : Bool), Ev g (c, (n : Int), ok) ∧ 1 ≤ n ∧ n ≤ 4
theorem CharTo.no {g : Nat → Option (Int × Int × Bool)} (h : ∀ k, g (k + 1) = some (65533, 1, false)) : CharTo g := ⟨65533, 1, false, Ev.step (f := fun _ => some (65533, 1, false)) h (Ev.now _), Y0, Y0⟩
theorem CharTo.step {g f : Nat → Option (Int × Int × Bool)} (h : ∀ k, g (k + 1) = f k) (k : CharTo f) : CharTo g := by
 obtain ⟨c, n, ok, he, r⟩ := k
 exact ⟨c, n, ok, Ev.step h he, r⟩
theorem CharTo.congr {g f : Nat → Option (Int × Int × Bool)} (h : ∀ k, g k = f k) (k : CharTo f) : CharTo g := by
 obtain ⟨c, n, ok, he, r⟩ := k
 exact ⟨c, n, ok, Ev.congr h he, r⟩
theorem char_j2 {s : ByteArray} (hn : s.size ≤ 65536) (p : Nat) (hp : p < s.size) (x7 x9 : Int) (n9 : Nat) (h9 : n9 ≤ 3) : CharTo (fun k => spec_Character.j2 k s (p : Int) x7 (n9 : Int) x9) := by
 by_cases h : (s.size : Int) - p ≤ n9
 ·
  exact .no (fun k => by rw [spec_Character.j2, w64 Y0 Y0, if_pos h])
 ·
  exact .step (f := fun k => spec_Character.l0 k s (p : Int) x7 (n9 : Int) x9 ((1 : Nat) : Int)) (fun k => by rw [spec_Character.j2, w64 Y0 Y0, if_neg h]; rfl) (char_l hn p hp n9 h9 Y0 x9 _ 1 rfl Y0 Y0 x7)
theorem char_j1 {s : ByteArray} (hn : s.size ≤ 65536) (p : Nat) (hp : p < s.size) (x7 : Int) (b : Bool) : CharTo (fun k => spec_Character.j1 k s (p : Int) x7 b) := by
 cases b with
 | true => exact .step (f := fun k => spec_Character.j2 k s (p : Int) (wrap64 (x7 - 224)) ((2 : Nat) : Int) 2048) (fun k => by rw [spec_Character.j1, if_pos rfl]; rfl) (char_j2 hn p hp _ _ 2 Y0)
 | false =>
  by_cases h1 : 240 ≤ x7
  ·
   by_cases h2 : x7 ≤ 244
   ·
    exact .step (f := fun k => spec_Character.j2 k s (p : Int) (wrap64 (x7 - 240)) ((3 : Nat) : Int) 65536) (fun k => by rw [spec_Character.j1, if_neg Y4, if_pos h1, if_pos h2]; rfl) (char_j2 hn p hp _ _ 3 Y0)
   ·
    exact .no (fun k => by rw [spec_Character.j1, if_neg Y4, if_pos h1, if_neg h2])
  ·
   exact .no (fun k => by rw [spec_Character.j1, if_neg Y4, if_neg h1])
theorem char_j0 {s : ByteArray} (hn : s.size ≤ 65536) (p : Nat) (hp : p < s.size) (x7 : Int) (b : Bool) : CharTo (fun k => spec_Character.j0 k s (p : Int) x7 b) := by
 cases b with
 | true => exact .step (f := fun k => spec_Character.j2 k s (p : Int) (wrap64 (x7 - 192)) ((1 : Nat) : Int) 128) (fun k => by rw [spec_Character.j0, if_pos rfl]; rfl) (char_j2 hn p hp _ _ 1 Y0)
 | false =>
  by_cases h1 : 224 ≤ x7
  ·
   exact .step (fun k => by rw [spec_Character.j0, if_neg Y4, if_pos h1]) (char_j1 hn p hp x7 (decide (x7 ≤ 239)))
  ·
   exact .step (fun k => by rw [spec_Character.j0, if_neg Y4, if_neg h1]) (char_j1 hn p hp x7 false)
theorem char_ev {s : ByteArray} (hn : s.size ≤ 65536) (p : Nat) (hp : p < s.size) : CharTo (fun k => spec_Character.f k s (p : Int)) := by
 by_cases h1 : wrap64 (bt s (p : Int)) < 128
 ·
  exact ⟨wrap64 (bt s (p : Int)), 1, true, Ev.is (fun k => by rw [spec_Character.f, if_pos Y0, if_pos Y0, if_pos h1]; rfl), Y0, Y0⟩
 ·
  by_cases h2 : 194 ≤ wrap64 (bt s (p : Int))
  ·
   exact .congr (fun k => by rw [spec_Character.f, if_pos Y0, if_pos Y0, if_neg h1, if_pos h2]) (char_j0 hn p hp _ _)
  ·
   exact .congr (fun k => by rw [spec_Character.f, if_pos Y0, if_pos Y0, if_neg h1, if_neg h2]) (char_j0 hn p hp _ _)
theorem utf8_l {s : ByteArray} (hn : s.size ≤ 65536) : ∀ m p, s.size - p ≤ m → ∃ b, Ev (fun k => spec_UTF8.l0 k s (p : Int)) b := by
 intro m
 induction m with
 | zero =>
  intro p hm
  exact ⟨true, Ev.step (f := fun _ => some true) (fun k => by rw [spec_UTF8.l0, if_neg Y0]) (Ev.now _)⟩
 | succ m ih =>
  intro p hm
  by_cases hp : p < s.size
  ·
   obtain ⟨c, n, ok, he, h1, h4⟩ := char_ev hn p hp
   cases ok with
   | false => exact ⟨false, Ev.step (fun k => by rw [spec_UTF8.l0, if_pos Y0]) (Ev.two he (Ev.congr (fun k => if_neg Bool.false_ne_true) (Ev.now _)))⟩
   | true =>
    obtain ⟨b, hb⟩ := ih (p + n) Y0
    exact ⟨b, Ev.step (fun k => by rw [spec_UTF8.l0, if_pos Y0]) (Ev.two he (Ev.congr (fun k => if_pos rfl) (Ev.congr (fun k => by show spec_UTF8.l0 k s (wrap64 ((p : Int) + (n : Int))) = _; rw [w64 Y0 Y0, ← Int.natCast_add]) hb)))⟩
  ·
   exact ⟨true, Ev.step (f := fun _ => some true) (fun k => by rw [spec_UTF8.l0, if_neg Y0]) (Ev.now _)⟩
theorem utf8_ev {s : ByteArray} (hn : s.size ≤ 65536) : ∃ b, Ev (fun k => spec_UTF8.f k s) b := utf8_l hn _ 0 (Nat.le_refl _)
theorem paired_l {s : ByteArray} (hn : s.size ≤ 65536) : ∀ m p, s.size - p ≤ m → p ≤ 131000 → ∃ b, Ev (fun k => spec_Paired.l0 k s (p : Int)) b := by
 intro m
 induction m with
 | zero =>
  intro p hm _
  exact ⟨true, Ev.step (f := fun _ => some true) (fun k => by rw [spec_Paired.l0, if_neg Y0]) (Ev.now _)⟩
 | succ m ih =>
  intro p hm hp1
  by_cases hp : p < s.size
  ·
   have e1 : wrap64 ((p : Int) + 1) = ((p + 1 : Nat) : Int) := Y30
   have e2 : wrap64 ((p : Int) + 2) = ((p + 2 : Nat) : Int) := Y30
   have e6 : wrap64 ((p : Int) + 6) = ((p + 6 : Nat) : Int) := Y30
   have e12 : wrap64 ((p : Int) + 12) = ((p + 12 : Nat) : Int) := Y30
   by_cases h92 : bt s (p : Int) = 92
   ·
    obtain ⟨n, ok, hu, _, _⟩ := unit_ev hn p Y0
    cases ok with
    | false =>
     obtain ⟨b, hb⟩ := ih (p + 2) Y0 Y0
     exact ⟨b, Ev.step (fun k => Y34) (Ev.two hu (Ev.congr (fun k => if_neg Bool.false_ne_true) (Ev.congr (fun k => by rw [e2]) hb)))⟩
    | true =>
     obtain ⟨b1, hb1⟩ := high_f n
     cases b1 with
     | true =>
      obtain ⟨n2, ok2, hu2, _, _⟩ := unit_ev hn (p + 6) Y0
      have st : ∀ {b}, Ev (fun k => if (n2, ok2).2 = true then ((spec_low.f (n2, ok2).1).bind fun t392 => (if t392 = true then (spec_Paired.l0 k s ((p + 12 : Nat) : Int)) else (some false))) else (some false)) b → Ev (fun k => spec_Paired.l0 k s (p : Int)) b := fun h =>
       Ev.step (fun k => Y34) (Ev.two hu (Ev.congr (fun k => if_pos rfl) (Ev.two (Ev.is fun _ => hb1) (Ev.congr (fun k => if_pos rfl) (Ev.congr (fun k => by rw [e6, e12]) (Ev.two hu2 h))))))
      cases ok2 with
      | false => exact ⟨false, st (Ev.congr (fun k => if_neg Bool.false_ne_true) (Ev.now _))⟩
      | true =>
       obtain ⟨b2, hb2⟩ := low_f n2
       cases b2 with
       | false => exact ⟨false, st (Ev.congr (fun k => if_pos rfl) (Ev.two (Ev.is fun _ => hb2) (Ev.congr (fun k => if_neg Bool.false_ne_true) (Ev.now _))))⟩
       | true =>
        obtain ⟨b, hb⟩ := ih (p + 12) Y0 Y0
        exact ⟨b, st (Ev.congr (fun k => if_pos rfl) (Ev.two (Ev.is fun _ => hb2) (Ev.congr (fun k => if_pos rfl) hb)))⟩
     | false =>
      obtain ⟨b2, hb2⟩ := low_f n
      have st : ∀ {b}, Ev (fun k => if b2 = true then (some false) else (spec_Paired.l0 k s ((p + 6 : Nat) : Int))) b → Ev (fun k => spec_Paired.l0 k s (p : Int)) b := fun h =>
       Ev.step (fun k => Y34) (Ev.two hu (Ev.congr (fun k => if_pos rfl) (Ev.two (Ev.is fun _ => hb1) (Ev.congr (fun k => if_neg Bool.false_ne_true) (Ev.congr (fun k => by rw [e6]) (Ev.two (Ev.is fun _ => hb2) h))))))
      cases b2 with
      | true => exact ⟨false, st (Ev.congr (fun k => if_pos rfl) (Ev.now _))⟩
      | false =>
       obtain ⟨b, hb⟩ := ih (p + 6) Y0 Y0
       exact ⟨b, st (Ev.congr (fun k => if_neg Bool.false_ne_true) hb)⟩
   ·
    obtain ⟨b, hb⟩ := ih (p + 1) Y0 Y0
    exact ⟨b, Ev.step (fun k => by rw [spec_Paired.l0, if_pos Y0, if_pos Y0, if_neg h92, e1]) hb⟩
  ·
   exact ⟨true, Ev.step (f := fun _ => some true) (fun k => by rw [spec_Paired.l0, if_neg Y0]) (Ev.now _)⟩
theorem paired_ev {s : ByteArray} (hn : s.size ≤ 65536) : ∃ b, Ev (fun k => spec_Paired.f k s) b := paired_l hn _ 0 (Nat.le_refl _) Y0
theorem es_len {s : ByteArray} : ∀ (es : Es) (p j : Nat), es.wf s p j → es.l.length + p ≤ j
 | .nil, _, _, h => absurd h Y18
 | .cons t r, p, j, h => by
  obtain ⟨h1, h2, q, h3, h4⟩ := h
  have hl := T.wf_lt t h1
  have hq := h3.1
  have e : (Es.cons t r).l.length = r.l.length + 1 := by simp [Es.l]
  rcases h4 with ⟨_, rfl, h5⟩ | ⟨_, p', h5, h6⟩
  ·
   rw [e]; simp [Es.l]; omega
  ·
   have := es_len r p' j h6
   have := h5.1
   rw [e]; omega
theorem ms_len {s : ByteArray} : ∀ (ms : Ms) (p j : Nat), ms.wf s p j → ms.l.length + p ≤ j ∧ ms.names.length + p ≤ j
 | .nil, _, _, h => absurd h Y19
 | .cons ni nj t r, p, j, h => by
  obtain ⟨h0, hst, c, hc1, _, v, hv1, h1, h2, q, h3, h4⟩ := h
  have hl := T.wf_lt t h1
  have hq := h3.1
  have g1 := hst.1.1
  have g2 := hc1.1
  have g3 := hv1.1
  have e : (Ms.cons ni nj t r).l.length = r.l.length + 1 := by simp [Ms.l]
  have e' : (Ms.cons ni nj t r).names.length = r.names.length + 1 := by simp [Ms.names]
  rcases h4 with ⟨_, rfl, h5⟩ | ⟨_, p', h5, h6⟩
  ·
   rw [e, e']; simp [Ms.l, Ms.names]; omega
  ·
   have := ms_len r p' j h6
   have := h5.1
   rw [e, e']; omega
end Go.Proofs.YtieflhncpjjciaaGreatDoor.Dc
namespace Go.Proofs.YtieflhncpjjciaaGreatDoor.PFnGjSquashItems
open Go Go.RowKit Go.Proofs.YtieflhncpjjciaaGreatDoorW.PrintWords Go.Proofs.YtieflhncpjjciaaGreatDoor.Dc
structure Win (s u : ByteArray) (i o n : Nat) : Prop where
 b : ∀ k, k < n → bt u ((o + k : Nat) : Int) = bt s ((i + k : Nat) : Int)
 zs : i + n ≤ s.size
 zu : o + n ≤ u.size
theorem Win.sub {s u : ByteArray} {i o n : Nat} (h : Win s u i o n) (a m : Nat) (ha : a + m ≤ n) : Win s u (i + a) (o + a) m :=
 ⟨fun k hk => by have := h.b (a + k) Y0; rwa [← Nat.add_assoc, ← Nat.add_assoc] at this, by have := h.zs; omega, by have := h.zu; omega⟩
theorem Win.at {s u : ByteArray} {i o n : Nat} (h : Win s u i o n) {x : Nat} (h1 : i ≤ x) (h2 : x < i + n) : bt u ((o + (x - i) : Nat) : Int) = bt s (x : Int) := by
 have := h.b (x - i) Y0
 rwa [show i + (x - i) = x from Y0] at this
theorem Win.odd {s u : ByteArray} {i o n : Nat} (h : Win s u i o n) : ∀ p, p ≤ n → PFnGjSquashItems.odd u o (o + p) = PFnGjSquashItems.odd s i (i + p) := by
 have z : ∀ (s : ByteArray) (i : Nat), PFnGjSquashItems.odd s i (i + 0) = false := fun s i => by
  cases i with
  | zero => rfl
  | succ i => show PFnGjSquashItems.odd s (i + 1) (i + 1) = false; rw [PFnGjSquashItems.odd, if_neg Y0]
 intro p
 induction p with
 | zero => intro _; rw [z, z]
 | succ p ih =>
  intro hp
  show PFnGjSquashItems.odd u o (o + p + 1) = PFnGjSquashItems.odd s i (i + p + 1)
  rw [PFnGjSquashItems.odd, PFnGjSquashItems.odd, ih Y0, h.b p Y0]
  by_cases hc : i < i + p ∧ bt s ((i + p : Nat) : Int) = 92
  ·
   rw [if_pos hc, if_pos ⟨Y0, hc.2⟩]
  ·
   rw [if_neg hc, if_neg (fun h2 => hc ⟨Y0, h2.2⟩)]
theorem Win.tk {s u : ByteArray} {i o n E : Nat} (h : Win s u i o n) (hE : E ≤ i + n) : ∀ x, Tk s E x → i ≤ x → Tk u (o + (E - i)) (o + (x - i)) := by
 intro x k
 induction k with
 | nil => intro _; exact .nil
 | @plain x hi c32 c34 c92 r ih =>
  intro ho
  have hb := h.at ho Y0
  have := ih Y0
  exact .plain Y0 (by rw [hb]; exact c32) (by rw [hb]; exact c34) (by rw [hb]; exact c92) (by rw [show o + (x - i) + 1 = o + (x + 1 - i) from Y0]; exact this)
 | @esc x j h92 hj hje r ih =>
  intro ho
  have hij : x + 1 < j := by rcases hj with ⟨h, _⟩ | ⟨h, _⟩ <;> omega
  have hjE : j ≤ E := hje
  have := ih Y0
  refine .esc (j := o + (j - i)) (by rw [h.at ho Y0]; exact h92) ?_ Y0 this
  have e1 : o + (x - i) + 1 = o + (x + 1 - i) := Y0
  rcases hj with ⟨a1, a2⟩ | ⟨a1, a2, a3⟩
  ·
   exact Or.inl ⟨Y0, by rw [e1, h.at Y0 Y0]; exact a2⟩
  ·
   refine Or.inr ⟨Y0, by rw [e1, h.at Y0 Y0]; exact a2, fun q q1 q2 => ?_⟩
   have := h.at (x := i + (q - o)) Y0 Y0
   rw [show o + (i + (q - o) - i) = q from Y0] at this
   rw [this]
   exact a3 _ Y0 Y0
theorem Win.str0 {s u : ByteArray} {i o n : Nat} (h : Win s u i o n) (k : StrTok0 s i (i + n)) : StrTok0 u o (o + n) := by
 obtain ⟨h1, h2, h3, h4, h5, h6⟩ := k
 have g0 := h.b 0 Y0
 have g1 := h.b (n - 1) Y0
 rw [Nat.add_zero, Nat.add_zero] at g0
 have e : o + n - 1 = o + (n - 1) := Y0
 have e' : i + n - 1 = i + (n - 1) := Y0
 rw [e'] at h4 h5 h6
 refine ⟨Y0, h.zu, by rw [g0]; exact h3, by rw [e, g1]; exact h4, by rw [e, h.odd _ Y0]; exact h5, fun q q1 q2 q3 => ?_⟩
 obtain ⟨k, rfl⟩ : ∃ k, q = o + k := ⟨q - o, Y0⟩
 rw [h.odd k Y0]
 exact h6 (i + k) Y0 Y0 (by rw [← h.b k Y0]; exact q3)
theorem Win.str {s u : ByteArray} {i o n : Nat} (h : Win s u i o n) (k : StrTok s i (i + n)) : StrTok u o (o + n) := by
 have h1 := k.1.1
 refine ⟨h.str0 k.1, ?_⟩
 have := h.tk (E := i + n - 1) Y0 _ k.2 Y0
 rwa [show o + (i + n - 1 - i) = o + n - 1 from Y0, show o + (i + 1 - i) = o + 1 from Y0] at this
theorem Win.ext {s u : ByteArray} {i o n : Nat} (h : Win s u i o n) : u.extract o (o + n) = s.extract i (i + n) := by
 have zs := h.zs
 have zu := h.zu
 have z1 : (u.extract o (o + n)).size = n := Y9
 have z2 : (s.extract i (i + n)).size = n := Y9
 refine ByteArray.ext (Array.ext (by show ByteArray.size _ = ByteArray.size _; rw [z1, z2]) fun k h1 h2 => ?_)
 have h1' : k < (u.extract o (o + n)).size := h1
 have h2' : k < (s.extract i (i + n)).size := h2
 show (u.extract o (o + n))[k] = (s.extract i (i + n))[k]
 have e1 := bt_ext (s := u) (i := o) (j := o + n) zu h1'
 have e2 := bt_ext (s := s) (i := i) (j := i + n) zs h2'
 have e3 := h.b k Y0
 have e4 : (((u.extract o (o + n))[k]).toNat : Int) = (((s.extract i (i + n))[k]).toNat : Int) := by rw [e1, e2, e3]
 exact UInt8.toNat_inj.mp (Int.ofNat_inj.mp e4)
theorem Win.word {s u w : ByteArray} {i o n : Nat} (h : Win s u i o n) (hn : n = w.size) (k : IsWord s i w) : IsWord u o w := by
 subst hn
 refine ⟨h.zu, ?_⟩
 rw [h.ext]
 exact k.2
theorem Win.leaf {s u : ByteArray} {kd : Int} {i j o : Nat} (hij : i < j) (h : Win s u i o (j - i)) (k : LeafOK s kd i j) : LeafOK u kd o (o + (j - i)) := by
 rcases k with ⟨a, b⟩ | ⟨a, b, c⟩ | ⟨a, b, c⟩ | ⟨a, b, c⟩ | ⟨a, b, c⟩
 ·
  exact .inl ⟨a, h.str (by rw [show i + (j - i) = j from Y0]; exact b)⟩
 ·
  refine .inr (.inl ⟨a, ?_, fun q h1 h2 => ?_⟩)
  ·
   have := h.b 0 Y0
   rw [Nat.add_zero, Nat.add_zero] at this
   rw [this]; exact b
  ·
   obtain ⟨k, rfl⟩ : ∃ k, q = o + k := ⟨q - o, Y0⟩
   rw [h.b k Y0]
   exact c _ Y0 Y0
 ·
  exact .inr (.inr (.inl ⟨a, Y0, h.word (by show j - i = 4; omega) c⟩))
 ·
  exact .inr (.inr (.inr (.inl ⟨a, Y0, h.word (by show j - i = 5; omega) c⟩)))
 ·
  exact .inr (.inr (.inr (.inr ⟨a, Y0, h.word (by show j - i = 4; omega) c⟩)))
def seg (s : ByteArray) (i j : Nat) : List Int := bytesOf (s.extract i j)
mutual
def T.c (s : ByteArray) : T → List Int
 | .leaf _ i j => seg s i j
 | .arr _ _ es => 91 :: (es.c s ++ [93])
 | .obj _ _ ms => 123 :: (ms.c s ++ [125])
def Es.c (s : ByteArray) : Es → List Int
 | .nil => []
 | .cons t r => t.c s ++ r.c' s
def Es.c' (s : ByteArray) : Es → List Int
 | .nil => []
 | .cons t r => 44 :: (t.c s ++ r.c' s)
def Ms.c (s : ByteArray) : Ms → List Int
 | .nil => []
 | .cons ni nj t r => seg s ni nj ++ 58 :: (t.c s ++ r.c' s)
def Ms.c' (s : ByteArray) : Ms → List Int
 | .nil => []
 | .cons ni nj t r => 44 :: (seg s ni nj ++ 58 :: (t.c s ++ r.c' s))
end
mutual
def T.y (s : ByteArray) : Nat → T → T
 | o, .leaf kd i j => .leaf kd o (o + (j - i))
 | o, .arr _ _ es => .arr o (o + (es.c s).length + 2) (es.y s (o + 1))
 | o, .obj _ _ ms => .obj o (o + (ms.c s).length + 2) (ms.y s (o + 1))
def Es.y (s : ByteArray) : Nat → Es → Es
 | _, .nil => .nil
 | o, .cons t r => .cons (t.y s o) (r.y s (o + (t.c s).length + 1))
def Ms.y (s : ByteArray) : Nat → Ms → Ms
 | _, .nil => .nil
 | o, .cons ni nj t r => .cons o (o + (nj - ni)) (t.y s (o + (nj - ni) + 1)) (r.y s (o + (nj - ni) + 1 + (t.c s).length + 1))
end
structure At (u : ByteArray) (o : Nat) (L : List Int) : Prop where
 z : o + L.length ≤ u.size
 b : ∀ k, k < L.length → bt u ((o + k : Nat) : Int) = L.getD k 0
theorem At.left {u : ByteArray} {o : Nat} {A B : List Int} (h : At u o (A ++ B)) : At u o A :=
 ⟨by have := h.z; rw [List.length_append] at this; omega, fun k hk => by rw [h.b k (by rw [List.length_append]; omega), List.getD_eq_getElem?_getD, List.getD_eq_getElem?_getD, List.getElem?_append_left hk]⟩
theorem At.right {u : ByteArray} {o : Nat} {A B : List Int} (h : At u o (A ++ B)) : At u (o + A.length) B :=
 ⟨by have := h.z; rw [List.length_append] at this; omega, fun k hk => by
  rw [Nat.add_assoc, h.b (A.length + k) (by rw [List.length_append]; omega), List.getD_eq_getElem?_getD, List.getD_eq_getElem?_getD, List.getElem?_append_right Y0, Nat.add_sub_cancel_left]⟩
theorem At.head {u : ByteArray} {o : Nat} {x : Int} {L : List Int} (h : At u o (x :: L)) : bt u (o : Int) = x := by
 have := h.b 0 Y4
 simpa using this
theorem At.tail {u : ByteArray} {o : Nat} {x : Int} {L : List Int} (h : At u o (x :: L)) : At u (o + 1) L := by
 have := At.right (A := [x]) (B := L) h
 simpa using this
theorem seg_len {s : ByteArray} {i j : Nat} (hj : j ≤ s.size) : (seg s i j).length = j - i := by
 unfold seg; rw [bytesOf_length, ByteArray.size_extract, Nat.min_eq_left hj]
theorem At.win {s u : ByteArray} {i j o : Nat} (hj : j ≤ s.size) (hij : i ≤ j) (h : At u o (seg s i j)) : Win s u i o (j - i) := by
 have hz := h.z
 rw [seg_len hj] at hz
 refine ⟨fun k hk => ?_, Y0, hz⟩
 rw [h.b k (by rw [seg_len hj]; exact hk)]
 have h1 := rd_bytesOf (s.extract i j) (k : Int)
 unfold rd at h1
 rw [Int.toNat_natCast] at h1
 show (bytesOf (s.extract i j)).getD k 0 = _
 rw [h1, bt_extract hj Y0]
theorem Es.c'_eq {s : ByteArray} : ∀ {r : Es} {p j : Nat}, r.wf s p j → r.c' s = 44 :: r.c s
 | .nil, _, _, h => absurd h Y18
 | .cons _ _, _, _, _ => by simp only [Es.c', Es.c]
theorem Ms.c'_eq {s : ByteArray} : ∀ {r : Ms} {p j : Nat}, r.wf s p j → r.c' s = 44 :: r.c s
 | .nil, _, _, h => absurd h Y19
 | .cons _ _ _ _, _, _, _ => by simp only [Ms.c', Ms.c]
theorem blk0 {u : ByteArray} {a : Nat} (h : a ≤ u.size) : Blk u a a := ⟨Nat.le_refl _, h, fun q h1 h2 => Y0⟩
theorem At.in0 {u : ByteArray} {o : Nat} {x : Int} {L : List Int} (h : At u o (x :: L)) : o < u.size := by
 have := h.z
 rw [List.length_cons] at this
 omega
mutual
theorem y_wf {s u : ByteArray} : ∀ (t : T) (o : Nat), t.wf s → At u o (t.c s) → (t.y s o).wf u ∧ (t.y s o).i = o ∧ (t.y s o).j = o + (t.c s).length ∧ (t.y s o).s.1 = t.s.1
 | .leaf kd i j, o, h, ha => by
  obtain ⟨h1, h2, h3⟩ := h
  rw [T.c] at ha ⊢
  have hw := ha.win h2 (Nat.le_of_lt h1)
  rw [seg_len h2]
  rw [T.y]
  refine ⟨?_, rfl, rfl, rfl⟩
  rw [T.wf]
  exact ⟨Y0, hw.zu, hw.leaf h1 h3⟩
 | .arr i j es, o, h, ha => by
  obtain ⟨h1, h2, p, h3, h4⟩ := h
  rw [T.c] at ha ⊢
  have hb := ha.head
  have ht := ha.tail
  have hz := ha.z
  rw [T.y]
  refine ⟨?_, rfl, Y28, rfl⟩
  rw [T.wf]
  refine ⟨hb, Y0, o + 1, blk0 (by have := ha.in0; omega), ?_⟩
  rcases h4 with ⟨a, b, c⟩ | h4
  ·
   subst c
   refine .inl ⟨?_, ?_, ?_⟩
   ·
    rw [Es.c] at ht; exact ht.head
   ·
    rw [Es.c]; rfl
   ·
    rw [Es.y]
  ·
   refine .inr ?_
   have := es_y es (o + 1) p j h4 ht
   rw [show o + 1 + (es.c s).length + 1 = o + (es.c s).length + 2 from Y0] at this
   exact this
 | .obj i j ms, o, h, ha => by
  obtain ⟨h1, h2, p, h3, h4⟩ := h
  rw [T.c] at ha ⊢
  have hb := ha.head
  have ht := ha.tail
  have hz := ha.z
  rw [T.y]
  refine ⟨?_, rfl, Y28, rfl⟩
  rw [T.wf]
  refine ⟨hb, Y0, o + 1, blk0 (by have := ha.in0; omega), ?_⟩
  rcases h4 with ⟨a, b, c⟩ | h4
  ·
   subst c
   refine .inl ⟨?_, ?_, ?_⟩
   ·
    rw [Ms.c] at ht; exact ht.head
   ·
    rw [Ms.c]; rfl
   ·
    rw [Ms.y]
  ·
   refine .inr ?_
   have := ms_y ms (o + 1) p j h4 ht
   rw [show o + 1 + (ms.c s).length + 1 = o + (ms.c s).length + 2 from Y0] at this
   exact this
theorem es_y {s u : ByteArray} : ∀ (es : Es) (o p j : Nat), es.wf s p j → At u o (es.c s ++ [93]) → (es.y s o).wf u o (o + (es.c s).length + 1)
 | .nil, o, p, j, h, _ => absurd h Y18
 | .cons t r, o, p, j, h, ha => by
  obtain ⟨h1, h2, q, h3, h4⟩ := h
  rw [Es.c] at ha ⊢
  rw [List.append_assoc] at ha
  obtain ⟨w1, w2, w3, _⟩ := y_wf t o h1 ha.left
  have hr := ha.right
  have hz := hr.z
  have hn : o + (t.c s).length < u.size := Y29
  rw [Es.y, Es.wf]
  refine ⟨w1, w2, o + (t.c s).length, ?_, ?_⟩
  ·
   rw [w3]; exact blk0 Y0
  rcases h4 with ⟨c1, c2, c3⟩ | ⟨c1, p', c2, c3⟩
  ·
   subst c2
   rw [Es.c'] at hr ⊢
   refine .inl ⟨hr.head, by rw [Es.y], ?_⟩
   rw [List.append_nil]
  ·
   rw [Es.c'_eq c3] at hr ⊢
   refine .inr ⟨hr.head, o + (t.c s).length + 1, blk0 Y0, ?_⟩
   have := es_y r (o + (t.c s).length + 1) p' j c3 hr.tail
   rw [List.length_append, List.length_cons]
   rw [show o + ((t.c s).length + ((r.c s).length + 1)) + 1 = o + (t.c s).length + 1 + (r.c s).length + 1 from Y0]
   exact this
theorem ms_y {s u : ByteArray} : ∀ (ms : Ms) (o p j : Nat), ms.wf s p j → At u o (ms.c s ++ [125]) → (ms.y s o).wf u o (o + (ms.c s).length + 1)
 | .nil, o, p, j, h, _ => absurd h Y19
 | .cons ni nj t r, o, p, j, h, ha => by
  obtain ⟨g1, g2, c, g3, g4, v, g5, h1, h2, q, h3, h4⟩ := h
  have hn1 := g2.1.1
  have hnz := g2.1.2.1
  rw [Ms.c] at ha ⊢
  rw [List.append_assoc, List.cons_append, List.append_assoc] at ha
  have hwn := ha.left.win hnz Y0
  have hr := ha.right
  rw [seg_len hnz] at hr
  have hr1 := hr.tail
  obtain ⟨w1, w2, w3, _⟩ := y_wf t (o + (nj - ni) + 1) h1 hr1.left
  have hr2 := hr1.right
  have hz := hr2.z
  have hn : o + (nj - ni) + 1 + (t.c s).length < u.size := Y29
  rw [Ms.y, Ms.wf]
  refine ⟨rfl, hwn.str (by rw [show ni + (nj - ni) = nj from Y0]; exact g2), o + (nj - ni), blk0 Y0, hr.head, o + (nj - ni) + 1, blk0 Y0, w1, w2, o + (nj - ni) + 1 + (t.c s).length, ?_, ?_⟩
  ·
   rw [w3]; exact blk0 Y0
  rw [List.length_append, seg_len hnz, List.length_cons, List.length_append]
  rcases h4 with ⟨c1, c2, c3⟩ | ⟨c1, p', c2, c3⟩
  ·
   subst c2
   rw [Ms.c'] at hr2 ⊢
   refine .inl ⟨hr2.head, by rw [Ms.y], ?_⟩
   rw [List.length_nil]
   omega
  ·
   rw [Ms.c'_eq c3] at hr2 ⊢
   refine .inr ⟨hr2.head, o + (nj - ni) + 1 + (t.c s).length + 1, blk0 Y0, ?_⟩
   have := ms_y r (o + (nj - ni) + 1 + (t.c s).length + 1) p' j c3 hr2.tail
   rw [List.length_cons]
   rw [show o + (nj - ni + ((t.c s).length + ((r.c s).length + 1) + 1)) + 1 = o + (nj - ni) + 1 + (t.c s).length + 1 + (r.c s).length + 1 from Y0]
   exact this
end
theorem ext_getD {A B : List Int} (h : A.length = B.length) (hk : ∀ k, k < A.length → A.getD k 0 = B.getD k 0) : A = B := by
 refine List.ext_getElem h fun k h1 h2 => ?_
 have := hk k h1
 rwa [List.getD_eq_getElem?_getD, List.getD_eq_getElem?_getD, List.getElem?_eq_getElem h1, List.getElem?_eq_getElem h2] at this
theorem seg_getD {s : ByteArray} {i j k : Nat} (hj : j ≤ s.size) (hk : i + k < j) : (seg s i j).getD k 0 = bt s ((i + k : Nat) : Int) := by
 have h1 := rd_bytesOf (s.extract i j) (k : Int)
 unfold rd at h1
 rw [Int.toNat_natCast] at h1
 show (bytesOf (s.extract i j)).getD k 0 = _
 rw [h1, bt_extract hj hk]
theorem seg_snoc {s : ByteArray} {i q : Nat} (h1 : i ≤ q) (h2 : q < s.size) : seg s i (q + 1) = seg s i q ++ [bt s (q : Int)] := by
 refine ext_getD (by rw [List.length_append, seg_len Y0, seg_len Y0, List.length_singleton]; omega) fun k hk => ?_
 rw [seg_len Y0] at hk
 rw [seg_getD Y0 Y0, List.getD_eq_getElem?_getD]
 rcases Nat.lt_or_ge k (q - i) with h | h
 ·
  rw [List.getElem?_append_left (by rw [seg_len Y0]; exact h), ← List.getD_eq_getElem?_getD, seg_getD Y0 Y0]
 ·
  rw [List.getElem?_append_right (by rw [seg_len Y0]; exact h), seg_len Y0, show k - (q - i) = 0 from Y0, show i + k = q from Y0]
  rfl
theorem seg_nil {s : ByteArray} {i : Nat} (h : i ≤ s.size) : seg s i i = [] := List.eq_nil_of_length_eq_zero (by rw [seg_len h]; omega)
theorem rd_seg {s : ByteArray} {o : List Int} {i j p : Nat} (hj : j ≤ s.size) (h1 : i ≤ p) (h2 : p < j) : rd (o ++ seg s i j) ((o.length + (p - i) : Nat) : Int) = bt s (p : Int) := by
 unfold rd
 rw [Int.toNat_natCast, List.getD_eq_getElem?_getD, List.getElem?_append_right Y0, Nat.add_sub_cancel_left, ← List.getD_eq_getElem?_getD, seg_getD hj Y0, show i + (p - i) = p from Y0]
structure Pc (s v : ByteArray) (a b : Nat) : Prop where
 h : ∀ x, a ≤ x → x < b → bt v ((x - a : Nat) : Int) = bt s (x : Int)
 z : v.size = b - a
 ab : a ≤ b
 bz : b ≤ s.size
 sm : s.size ≤ 65536
theorem tmodn (n : Nat) : Int.tmod (-((n + 1 : Nat) : Int)) 2 = 0 ↔ n % 2 = 1 := by
 rw [Int.neg_tmod, Int.neg_eq_zero, tmod2]
 omega
theorem ug_l2 {s v : ByteArray} {a b : Nat} (H : Pc s v a b) {i q : Nat} (hai : a ≤ i) (hiq : i < q) (hq : q < b) (hi : bt s (i : Int) = 34) {o : List Int} (ho : o.length ≤ i) {r : List Int}
  (hc : odd s i q = true → Ev (fun k => pretty_ugly.l1 k (o ++ seg s i (q + 1)) (bytesOf v) ((q + 1 - a : Nat) : Int)) r)
  (hd : odd s i q = false → Ev (fun k => pretty_ugly.l0 k (o ++ seg s i (q + 1)) (bytesOf v) ((q + 1 - a : Nat) : Int)) r) :
  ∀ m n, q = m + n + 1 → i ≤ m → (∀ p, q - n ≤ p → p < q → bt s (p : Int) = 92) → Ev (fun k => pretty_ugly.l2 k (o ++ seg s i (q + 1)) (bytesOf v) ((q - a : Nat) : Int) ((o.length + (m - i) : Nat) : Int)) r := by
 have hbz := H.bz
 have hsm := H.sm
 have hlen : (o ++ seg s i (q + 1)).length = o.length + (q + 1 - i) := by rw [List.length_append, seg_len Y0]
 have fin : ∀ m n, q = m + n + 1 → i ≤ m → bt s (m : Int) ≠ 92 → odd s i q = decide (n % 2 = 1) → Ev (fun k => pretty_ugly.l2 k (o ++ seg s i (q + 1)) (bytesOf v) ((q - a : Nat) : Int) ((o.length + (m - i) : Nat) : Int)) r := by
  intro m n hm him h92 hod
  have hx : wrap64 (((o.length + (m - i) : Nat) : Int) - wrap64 ((((o ++ seg s i (q + 1)).length : Nat) : Int) - 1)) = -((n + 1 : Nat) : Int) := by
   rw [hlen, w64 (x := ((o.length + (q + 1 - i) : Nat) : Int) - 1) Y0 Y0, w64 Y0 Y0]
   omega
  have hst : ∀ k, pretty_ugly.l2 (k + 1) (o ++ seg s i (q + 1)) (bytesOf v) ((q - a : Nat) : Int) ((o.length + (m - i) : Nat) : Int) = if Int.tmod (-((n + 1 : Nat) : Int)) 2 = 0 then pretty_ugly.l1 k (o ++ seg s i (q + 1)) (bytesOf v) ((q + 1 - a : Nat) : Int) else pretty_ugly.l0 k (o ++ seg s i (q + 1)) (bytesOf v) ((q + 1 - a : Nat) : Int) := fun k => by
   rw [pretty_ugly.l2, if_pos Y0, if_pos (by rw [hlen]; omega), rd_seg Y0 him Y0, if_neg h92, hx, wadd1 (q - a) Y0, show q - a + 1 = q + 1 - a from Y0]
  by_cases hn : n % 2 = 1
  ·
   refine Ev.step (fun k => ?_) (hc (by rw [hod]; exact decide_eq_true hn))
   rw [hst, if_pos ((tmodn n).mpr hn)]
  ·
   refine Ev.step (fun k => ?_) (hd (by rw [hod]; exact decide_eq_false hn))
   rw [hst, if_neg (fun h => hn ((tmodn n).mp h))]
 intro m
 induction m with
 | zero =>
  intro n hm him hb
  obtain rfl : i = 0 := Y0
  exact fin 0 n hm him (by rw [hi]; decide) (odd_bsl (s := s) (b := 0) n q Y0 hb (Or.inl Y0))
 | succ m ih =>
  intro n hm him hb
  by_cases hmi : m + 1 = i
  ·
   exact fin (m + 1) n hm him (by rw [hmi, hi]; decide) (odd_bsl (s := s) (b := i) n q Y0 hb (Or.inl Y0))
  by_cases h92 : bt s ((m + 1 : Nat) : Int) = 92
  ·
   refine Ev.step (fun k => ?_) (ih (n + 1) Y0 Y0 (fun p h1 h2 => ?_))
   ·
    rw [pretty_ugly.l2, if_pos Y0, if_pos (by rw [hlen]; omega), rd_seg Y0 him Y0, if_pos h92, w64 Y0 Y0, show ((o.length + (m + 1 - i) : Nat) : Int) - 1 = ((o.length + (m - i) : Nat) : Int) from Y0]
   ·
    rcases Nat.lt_or_ge p (q - n) with h3 | h3
    ·
     rw [show p = m + 1 from Y0]; exact h92
    ·
     exact hb p h3 h2
  ·
   exact fin (m + 1) n hm him h92 (odd_bsl (s := s) (b := i) n q Y0 hb (Or.inr (by rw [show q - n - 1 = m + 1 from Y0]; exact h92)))
theorem ug_l1 {s v : ByteArray} {a b : Nat} (H : Pc s v a b) {i j : Nat} (h : StrTok0 s i j) (hai : a ≤ i) (hjb : j ≤ b) {o : List Int} (ho : o.length ≤ i) {r : List Int}
  (hr : Ev (fun k => pretty_ugly.l0 k (o ++ seg s i j) (bytesOf v) ((j - a : Nat) : Int)) r) : ∀ m q, j - 1 - q = m → i < q → q ≤ j - 1 → Ev (fun k => pretty_ugly.l1 k (o ++ seg s i q) (bytesOf v) ((q - a : Nat) : Int)) r := by
 have hbz := H.bz
 have hsm := H.sm
 have hz := H.z
 have hj := h.1
 have hst : ∀ q, i < q → q ≤ j - 1 → ∀ k, pretty_ugly.l1 (k + 1) (o ++ seg s i q) (bytesOf v) ((q - a : Nat) : Int) = if bt s (q : Int) = 34 then pretty_ugly.l2 k (o ++ seg s i (q + 1)) (bytesOf v) ((q - a : Nat) : Int) ((o.length + (q - 1 - i) : Nat) : Int) else pretty_ugly.l1 k (o ++ seg s i (q + 1)) (bytesOf v) ((q + 1 - a : Nat) : Int) := fun q h1 h2 k => by
  have hlen : (o ++ seg s i (q + 1)).length = o.length + (q + 1 - i) := by rw [List.length_append, seg_len Y0]
  rw [pretty_ugly.l1, if_pos Y20, if_pos Y0, if_pos (by rw [List.length_append, seg_len Y0]; omega), Option.bind_some, rd_bytesOf, H.h q Y0 Y0, List.append_assoc, ← seg_snoc Y0 Y0, hlen, wadd1 (q - a) Y0, show q - a + 1 = q + 1 - a from Y0, w64 Y0 Y0, show ((o.length + (q + 1 - i) : Nat) : Int) - 2 = ((o.length + (q - 1 - i) : Nat) : Int) from Y0]
 intro m
 induction m with
 | zero =>
  intro q hm hq1 hq2
  have hq : q = j - 1 := Y0
  have h34 : bt s (q : Int) = 34 := by rw [hq]; exact h.2.2.2.1
  refine Ev.step (fun k => by rw [hst q hq1 hq2, if_pos h34]) (ug_l2 H hai hq1 Y0 h.2.2.1 ho (fun h2 => ?_) (fun _ => by rw [show q + 1 = j from Y0]; exact hr) (q - 1) 0 Y0 Y0 (fun p h1 h2 => Y0))
  rw [hq, h.2.2.2.2.1] at h2; exact absurd h2 Y5
 | succ m ih =>
  intro q hm hq1 hq2
  have hnext := ih (q + 1) Y0 Y0 Y0
  by_cases h34 : bt s (q : Int) = 34
  ·
   have hod : odd s i q = true := h.2.2.2.2.2 q hq1 Y0 h34
   exact Ev.step (fun k => by rw [hst q hq1 hq2, if_pos h34]) (ug_l2 H hai hq1 Y0 h.2.2.1 ho (fun _ => hnext) (fun h2 => by rw [hod] at h2; exact absurd h2 Y5) (q - 1) 0 Y0 Y0 (fun p h1 h2 => Y0))
  ·
   exact Ev.step (fun k => by rw [hst q hq1 hq2, if_neg h34]) hnext
def U (v : ByteArray) (a q : Nat) (o : List Int) (q' : Nat) (o' : List Int) : Prop := o.length ≤ q → o'.length ≤ q' ∧ ∀ r, Ev (fun k => pretty_ugly.l0 k o' (bytesOf v) ((q' - a : Nat) : Int)) r → Ev (fun k => pretty_ugly.l0 k o (bytesOf v) ((q - a : Nat) : Int)) r
theorem U.refl {v : ByteArray} {a q : Nat} {o : List Int} : U v a q o q o := fun h => ⟨h, fun _ h => h⟩
theorem U.trans {v : ByteArray} {a q q' q'' : Nat} {o o' o'' : List Int} (h1 : U v a q o q' o') (h2 : U v a q' o' q'' o'') : U v a q o q'' o'' := fun h => by
 obtain ⟨a1, a2⟩ := h1 h
 obtain ⟨b1, b2⟩ := h2 a1
 exact ⟨b1, fun r hr => a2 r (b2 r hr)⟩
section
variable {s v : ByteArray} {a b : Nat}
theorem U.blank (H : Pc s v a b) {q : Nat} (h1 : a ≤ q) (h2 : q < b) (h3 : bt s (q : Int) ≤ 32) (o : List Int) : U v a q o (q + 1) o := fun ho => ⟨Y0, fun r hr => by
 have hbz := H.bz
 have hsm := H.sm
 have hz := H.z
 refine Ev.step (fun k => ?_) hr
 rw [pretty_ugly.l0, if_pos Y20, if_pos Y0, rd_bytesOf, H.h q h1 h2, if_neg Y0, wadd1 (q - a) Y0, show q - a + 1 = q + 1 - a from Y0]⟩
theorem U.byte (H : Pc s v a b) {q : Nat} (h1 : a ≤ q) (h2 : q < b) (h3 : 32 < bt s (q : Int)) (h4 : bt s (q : Int) ≠ 34) (o : List Int) : U v a q o (q + 1) (o ++ [bt s (q : Int)]) := fun ho => ⟨by rw [List.length_append, List.length_singleton]; omega, fun r hr => by
 have hbz := H.bz
 have hsm := H.sm
 have hz := H.z
 refine Ev.step (fun k => ?_) hr
 rw [pretty_ugly.l0, if_pos Y20, if_pos Y0, rd_bytesOf, H.h q h1 h2, if_pos h3, if_pos Y0, Option.bind_some, if_neg h4, wadd1 (q - a) Y0, show q - a + 1 = q + 1 - a from Y0]⟩
theorem U.blanks (H : Pc s v a b) {i j : Nat} (h1 : a ≤ i) (h2 : j ≤ b) (hk : Blk s i j) (o : List Int) : U v a i o j o := by
 have key : ∀ m i, j - i = m → a ≤ i → Blk s i j → U v a i o j o := by
  intro m
  induction m with
  | zero => intro i hm _ hk; have := hk.1; rw [show i = j from Y0]; exact .refl
  | succ m ih =>
   intro i hm ha hk
   exact (U.blank H ha Y0 (isB_le (hk.2.2 i (Nat.le_refl _) Y0)) o).trans (ih (i + 1) Y0 Y0 ⟨Y0, hk.2.1, fun q q1 q2 => hk.2.2 q Y0 q2⟩)
 exact key _ i rfl h1 hk
theorem U.run (H : Pc s v a b) {i j : Nat} (h1 : a ≤ i) (hij : i ≤ j) (h2 : j ≤ b) (h : ∀ q, i ≤ q → q < j → 32 < bt s (q : Int) ∧ bt s (q : Int) ≠ 34) (o : List Int) : U v a i o j (o ++ seg s i j) := by
 have hbz := H.bz
 have key : ∀ m q, q - i = m → i ≤ q → q ≤ j → U v a i o q (o ++ seg s i q) := by
  intro m
  induction m with
  | zero => intro q hm h3 h4; rw [show q = i from Y0, seg_nil Y0, List.append_nil]; exact .refl
  | succ m ih =>
   intro q hm h3 h4
   obtain ⟨p, rfl⟩ : ∃ p, q = p + 1 := ⟨q - 1, Y0⟩
   have := h p Y0 Y0
   rw [seg_snoc Y0 Y0, ← List.append_assoc]
   exact (ih p Y0 Y0 Y0).trans (U.byte H Y0 Y0 this.1 this.2 _)
 exact key _ j rfl hij (Nat.le_refl _)
theorem U.str (H : Pc s v a b) {i j : Nat} (h1 : a ≤ i) (h2 : j ≤ b) (h : StrTok0 s i j) (o : List Int) : U v a i o j (o ++ seg s i j) := fun ho => by
 have hbz := H.bz
 have hsm := H.sm
 have hz := H.z
 have hj := h.1
 have h34 := h.2.2.1
 refine ⟨by rw [List.length_append, seg_len Y0]; omega, fun r hr => ?_⟩
 refine Ev.step (fun k => ?_) (ug_l1 H h h1 h2 ho hr _ (i + 1) rfl Y0 Y0)
 rw [seg_snoc (Nat.le_refl _) Y0, seg_nil Y0, List.nil_append, h34]
 rw [pretty_ugly.l0, if_pos Y20, if_pos Y0, rd_bytesOf, H.h i h1 Y0, h34, if_pos Y0, if_pos Y0, Option.bind_some, if_pos rfl, wadd1 (i - a) Y0, show i - a + 1 = i + 1 - a from Y0]
theorem U.leaf (H : Pc s v a b) {kd : Int} {i j : Nat} (h1 : a ≤ i) (hij : i < j) (h2 : j ≤ b) (h : LeafOK s kd i j) (o : List Int) : U v a i o j (o ++ seg s i j) := by
 rcases h with ⟨_, h⟩ | ⟨_, hc, h⟩ | ⟨_, h3, h⟩ | ⟨_, h3, h⟩ | ⟨_, h3, h⟩
 ·
  exact U.str H h1 h2 h.1 o
 ·
  refine U.run H h1 (Nat.le_of_lt hij) h2 (fun q q1 q2 => ?_) o
  have := h q q1 q2
  unfold numOK at this
  omega
 ·
  refine U.run H h1 (Nat.le_of_lt hij) h2 (fun q q1 q2 => ?_) o
  have := isWord_az h h3 (by intro k hk; have : k < 4 := hk; rcases k with _ | _ | _ | _ | k <;> first | decide | omega) q q1 q2
  omega
 ·
  refine U.run H h1 (Nat.le_of_lt hij) h2 (fun q q1 q2 => ?_) o
  have := isWord_az h h3 (by intro k hk; have : k < 5 := hk; rcases k with _ | _ | _ | _ | _ | k <;> first | decide | omega) q q1 q2
  omega
 ·
  refine U.run H h1 (Nat.le_of_lt hij) h2 (fun q q1 q2 => ?_) o
  have := isWord_az h h3 (by intro k hk; have : k < 4 := hk; rcases k with _ | _ | _ | _ | k <;> first | decide | omega) q q1 q2
  omega
theorem U.byte' (H : Pc s v a b) {q : Nat} {c : Int} (h1 : a ≤ q) (h2 : q < b) (hc : bt s (q : Int) = c) (h3 : 32 < c) (h4 : c ≠ 34) (o : List Int) : U v a q o (q + 1) (o ++ [c]) := by
 have := U.byte H h1 h2 (by rw [hc]; exact h3) (by rw [hc]; exact h4) o
 rwa [hc] at this
mutual
theorem ug_t (H : Pc s v a b) : ∀ (t : T), t.wf s → a ≤ t.i → t.j ≤ b → ∀ o, U v a t.i o t.j (o ++ t.c s)
 | .leaf kd i j, h, ha, hb, o => by
  rw [T.c]
  exact U.leaf H ha h.1 hb h.2.2 o
 | .arr i j es, h, ha, hb, o => by
  obtain ⟨h1, h2, p, h3, h4⟩ := h
  have ha' : a ≤ i := ha
  have hb' : j ≤ b := hb
  rw [T.c, show o ++ 91 :: (es.c s ++ [93]) = o ++ [91] ++ (es.c s ++ [93]) from Y4]
  have hp := h3.1
  refine (U.byte' H ha' Y0 h1 Y5 Y5 o).trans ?_
  rcases h4 with ⟨c1, c2, c3⟩ | h4
  ·
   subst c2; subst c3
   rw [Es.c, List.nil_append]
   exact (U.blanks H Y0 Y0 h3 _).trans (U.byte' H Y0 Y0 c1 Y5 Y5 _)
  ·
   have := es_len es p j h4
   exact (U.blanks H Y0 Y0 h3 _).trans (ug_es H es p j h4 Y0 hb' _)
 | .obj i j ms, h, ha, hb, o => by
  obtain ⟨h1, h2, p, h3, h4⟩ := h
  have ha' : a ≤ i := ha
  have hb' : j ≤ b := hb
  rw [T.c, show o ++ 123 :: (ms.c s ++ [125]) = o ++ [123] ++ (ms.c s ++ [125]) from Y4]
  have hp := h3.1
  refine (U.byte' H ha' Y0 h1 Y5 Y5 o).trans ?_
  rcases h4 with ⟨c1, c2, c3⟩ | h4
  ·
   subst c2; subst c3
   rw [Ms.c, List.nil_append]
   exact (U.blanks H Y0 Y0 h3 _).trans (U.byte' H Y0 Y0 c1 Y5 Y5 _)
  ·
   have := ms_len ms p j h4
   exact (U.blanks H Y0 Y0 h3 _).trans (ug_ms H ms p j h4 Y0 hb' _)
theorem ug_es (H : Pc s v a b) : ∀ (es : Es) (p j : Nat), es.wf s p j → a ≤ p → j ≤ b → ∀ o, U v a p o j (o ++ (es.c s ++ [93]))
 | .nil, p, j, h, _, _, _ => absurd h Y18
 | .cons t r, p, j, h, ha, hb, o => by
  obtain ⟨h1, h2, q, h3, h4⟩ := h
  have hl := T.wf_lt t h1
  have hq := h3.1
  subst h2
  rw [Es.c]
  rcases h4 with ⟨c1, c2, c3⟩ | ⟨c1, p', c2, c3⟩
  ·
   subst c2; subst c3
   rw [Es.c', List.append_nil, ← List.append_assoc]
   exact ((ug_t H t h1 ha Y0 o).trans (U.blanks H Y0 Y0 h3 _)).trans (U.byte' H Y0 Y0 c1 Y5 Y5 _)
  ·
   have hlen := es_len r p' j c3
   have hp' := c2.1
   rw [Es.c'_eq c3, show o ++ (t.c s ++ 44 :: r.c s ++ [93]) = o ++ t.c s ++ [44] ++ (r.c s ++ [93]) from Y4]
   exact ((((ug_t H t h1 ha Y0 o).trans (U.blanks H Y0 Y0 h3 _)).trans (U.byte' H Y0 Y0 c1 Y5 Y5 _)).trans (U.blanks H Y0 Y0 c2 _)).trans (ug_es H r p' j c3 Y0 hb _)
theorem ug_ms (H : Pc s v a b) : ∀ (ms : Ms) (p j : Nat), ms.wf s p j → a ≤ p → j ≤ b → ∀ o, U v a p o j (o ++ (ms.c s ++ [125]))
 | .nil, p, j, h, _, _, _ => absurd h Y19
 | .cons ni nj t r, p, j, h, ha, hb, o => by
  obtain ⟨g1, g2, c, g3, g4, w, g5, h1, h2, q, h3, h4⟩ := h
  have hl := T.wf_lt t h1
  have hq := h3.1
  have hn1 := g2.1.1
  have hn2 := g3.1
  have hn3 := g5.1
  subst h2; subst g1
  rw [Ms.c]
  have hjb : q < b := by
   rcases h4 with ⟨c1, c2, c3⟩ | ⟨c1, p', c2, c3⟩
   ·
    omega
   ·
    have := (ms_len r p' j c3).1
    have := c2.1
    omega
  have front : U v a ni o q (o ++ seg s ni nj ++ [58] ++ t.c s) :=
   (((((U.str H ha Y0 g2.1 o).trans (U.blanks H Y0 Y0 g3 _)).trans (U.byte' H Y0 Y0 g4 Y5 Y5 _)).trans (U.blanks H Y0 Y0 g5 _)).trans (ug_t H t h1 Y0 Y0 _)).trans (U.blanks H Y0 Y0 h3 _)
  rcases h4 with ⟨c1, c2, c3⟩ | ⟨c1, p', c2, c3⟩
  ·
   subst c2; subst c3
   rw [Ms.c', show o ++ (seg s ni nj ++ 58 :: (t.c s ++ []) ++ [125]) = o ++ seg s ni nj ++ [58] ++ t.c s ++ [125] from Y4]
   exact front.trans (U.byte' H Y0 Y0 c1 Y5 Y5 _)
  ·
   have hp' := c2.1
   have hlen := (ms_len r p' j c3).1
   rw [Ms.c'_eq c3, show o ++ (seg s ni nj ++ 58 :: (t.c s ++ 44 :: r.c s) ++ [125]) = o ++ seg s ni nj ++ [58] ++ t.c s ++ [44] ++ (r.c s ++ [125]) from Y4]
   exact ((front.trans (U.byte' H Y0 Y0 c1 Y5 Y5 _)).trans (U.blanks H Y0 Y0 c2 _)).trans (ug_ms H r p' j c3 Y0 hb _)
end
theorem ugly_pc (H : Pc s v a b) {t : T} (hw : t.wf s) (h0 : Blk s a t.i) (h1 : Blk s t.j b) : Ev (fun k => impl_PrUgly.f k v) (strOfNums (t.c s)) := by
 have hz := H.z
 have hbz := H.bz
 have hsm := H.sm
 have e0 := h0.1
 have e1 := h1.1
 have hl := T.wf_lt t hw
 have hu := ((U.blanks H (Nat.le_refl _) Y0 h0 []).trans (ug_t H t hw Y0 Y0 _)).trans (U.blanks H Y0 (Nat.le_refl _) h1 _)
 obtain ⟨_, hu⟩ := hu Y4
 rw [List.nil_append] at hu
 have hf := hu (t.c s) (Ev.step (f := fun _ => some (t.c s)) (fun k => by rw [pretty_ugly.l0, if_neg Y20]) (Ev.now _))
 rw [Nat.sub_self] at hf
 have h1 : Ev (fun k => pretty_ugly.f k [] (bytesOf v)) (t.c s) := Ev.congr (fun k => by rw [pretty_ugly.f, if_pos Y4]; rfl) hf
 have h2 : Ev (fun k => pretty_Ugly.f k (bytesOf v)) (t.c s) := Ev.congr (fun k => by rw [pretty_Ugly.f, if_pos Y0, if_pos Y20]) (Ev.two h1 (Ev.now _))
 exact Ev.congr (fun k => by rw [impl_PrUgly.f, if_pos Y0]) (Ev.two h2 (Ev.now _))
end
theorem ugly_whole {s : ByteArray} (hs : s.size ≤ 65536) {t : T} (hw : t.wf s) (h0 : Blk s 0 t.i) (h1 : Blk s t.j s.size) : Ev (fun k => impl_PrUgly.f k s) (strOfNums (t.c s)) :=
 ugly_pc (a := 0) (b := s.size) ⟨fun x _ _ => rfl, rfl, Nat.zero_le _, Nat.le_refl _, hs⟩ hw h0 h1
theorem ugly_raw {s : ByteArray} (hs : s.size ≤ 65536) {t : T} (hw : t.wf s) : Ev (fun k => impl_PrUgly.f k (s.extract t.i t.j)) (strOfNums (t.c s)) := by
 have hl := T.wf_lt t hw
 have hv := wf_vk hw
 have hj := hv.2.1
 exact ugly_pc (a := t.i) (b := t.j) ⟨fun x h1 h2 => by rw [bt_extract hj Y0, show t.i + (x - t.i) = x from Y0], Y9, Nat.le_of_lt hl, hj, hs⟩ hw (blk0 Y0) (blk0 hj)
end Go.Proofs.YtieflhncpjjciaaGreatDoor.PFnGjSquashItems
namespace Go.Proofs.YtieflhncpjjciaaGreatDoor.Dc
open Go Go.RowKit Go.Proofs.YtieflhncpjjciaaGreatDoorW.PrintWords Go.Proofs.YtieflhncpjjciaaGreatDoor.PFnGjSquashItems
def nmOf (o : Nat) (t : ItT) : S121 := ⟨((o + t.ni : Nat) : Int), ((o + t.nj : Nat) : Int)⟩
theorem ms_items2 {s u : ByteArray} {o : Nat} (h : Suf s u o) : ∀ (ms : Ms) (p j : Nat), ms.wf s p j → o ≤ p → Blk s j s.size → ∀ i, o ≤ i → i ≤ p → (∀ q, i ≤ q → q < p → bt s (q : Int) ≠ 34) → ∃ l, It u true (i - o) l ∧ ms.l.map kidOf = l.map (itOf o) ∧ ms.names = l.map (nmOf o)
 | .nil, p, j, hw, _, _, _, _, _, _ => absurd hw Y19
 | .cons ni nj t r, p, j, hw, hp, ht, i, hi1, hi2, hsep => by
  obtain ⟨g1, g2, c, g3, g4, v, g5, h1, h2, q, h3, h4⟩ := hw
  have hz := h.sz
  have hl := T.wf_lt t h1
  have hvk := wf_vk h1
  have hq := h3.1
  have hjs := hvk.2.1
  have hn1 := g2.1.1
  have hn2 := g3.1
  have hn3 := g5.1
  have b : ∀ k, o ≤ k → bt u ((k - o : Nat) : Int) = bt s (k : Int) := fun k hk => by rw [h.b, show o + (k - o) = k from Y0]
  have mk : ∀ l, q < s.size → NumEnd u (t.j - o) → It u true (t.j + 1 - o) l → It u true (i - o) (⟨ni - o, nj - o, t.s.1, t.i - o, t.j - o⟩ :: l) := fun l hqs hne r => by
   refine .item ?_ (fun _ => ⟨h.str' Y0 g2, fun k k1 k2 => ?_⟩) (fun h => Y14) ?_ (fun k k1 k2 => ?_) (h.vk' Y0 hvk) ?_ hne ?_
   ·
    show i - o ≤ ni - o; omega
   ·
    have k2' : k < ni - o := k2
    rw [h.b]; exact hsep _ Y0 Y0
   ·
    show nj - o ≤ t.i - o; omega
   ·
    have k1' : nj - o ≤ k := k1
    have k2' : k < t.i - o := k2
    rw [h.b]
    exact sep_run g3 (Or.inr (Or.inr g4)) g5 (fun c hc => isB_sep hc) _ Y0 Y0
   ·
    show t.j - o < u.size; omega
   ·
    show It u true (t.j - o + 1) l
    rw [show t.j - o + 1 = t.j + 1 - o from Y0]; exact r
  have hmap : ∀ (l : List ItT), r.l.map kidOf = l.map (itOf o) → (Ms.cons ni nj t r).l.map kidOf = ((⟨ni - o, nj - o, t.s.1, t.i - o, t.j - o⟩ : ItT) :: l).map (itOf o) := fun l hl => by
   show kidOf t.s :: r.l.map kidOf = _
   rw [hl, kid_t, List.map_cons]
   show _ = ((t.s.1, ((o + (t.i - o) : Nat) : Int), ((o + (t.j - o) : Nat) : Int)) : Int × Int × Int) :: _
   rw [show o + (t.i - o) = t.i from Y0, show o + (t.j - o) = t.j from Y0]
  have hnm : ∀ (l : List ItT), r.names = l.map (nmOf o) → (Ms.cons ni nj t r).names = ((⟨ni - o, nj - o, t.s.1, t.i - o, t.j - o⟩ : ItT) :: l).map (nmOf o) := fun l hl => by
   show (⟨(ni : Int), (nj : Int)⟩ : S121) :: r.names = _
   rw [hl, List.map_cons]
   show _ = (⟨((o + (ni - o) : Nat) : Int), ((o + (nj - o) : Nat) : Int)⟩ : S121) :: _
   rw [show o + (ni - o) = ni from Y0, show o + (nj - o) = nj from Y0]
  rcases h4 with ⟨c1, c2, c3⟩ | ⟨c1, p', c2, c3⟩
  ·
   have hqs := bt_in c1 Y5
   subst c2; subst c3
   refine ⟨_, mk [] hqs (num_end h h3 Y0 Y0) ?_, hmap [] rfl, hnm [] rfl⟩
   refine .done Y0 (fun _ k k1 => ?_) (fun h => Y14)
   rw [h.b]
   rcases Nat.lt_or_ge (o + k) s.size with h5 | h5
   ·
    exact sep_run (P := fun c => c ≠ 34) h3 Y0 ht (fun c hc => isB_34 hc) _ Y0 h5
   ·
    rw [bt_out _ _ h5]; decide
  ·
   have hqs := bt_in c1 Y5
   have hp' := c2.1
   obtain ⟨l, f1, f2, f3⟩ := ms_items2 h r p' j c3 Y0 ht (t.j + 1) Y0 Y0 (fun k k1 k2 => sep_run (P := fun c => c ≠ 34) h3 Y0 c2 (fun c hc => isB_34 hc) k Y0 k2)
   exact ⟨_, mk l hqs (num_end h h3 Y0 Y0) f1, hmap l f2, hnm l f3⟩
theorem t_items2 {s u : ByteArray} {t : T} (hw : t.wf s) (hk : 5 ≤ t.s.1) (ht : Blk s t.j s.size) (h : Suf s u t.i) : ∃ ob l, bt u 0 = (if ob then 123 else 91) ∧ It u ob 1 l ∧ t.s.5.map kidOf = l.map (itOf t.i) ∧ (ob = true → t.s.4 = l.map (nmOf t.i)) ∧ ob = decide (t.s.1 = 6) := by
 have hz := h.sz
 have h0 : bt u 0 = bt s (t.i : Int) := h.b 0
 cases t with
 | leaf kd i j =>
  exfalso
  have hk' : 5 ≤ kd := hk
  rcases hw.2.2 with ⟨a, _⟩ | ⟨a, _⟩ | ⟨a, _⟩ | ⟨a, _⟩ | ⟨a, _⟩ <;> omega
 | arr i j es =>
  obtain ⟨h1, h2, p, h3, h4⟩ := hw
  have hp := h3.1
  refine ⟨false, ?_⟩
  rw [show (if (false : Bool) = true then (123 : Int) else 91) = 91 from rfl]
  rcases h4 with ⟨a, b, c⟩ | h4
  ·
   subst b; subst c
   have hps := bt_in a Y5
   refine ⟨[], by rw [h0]; exact h1, ?_, rfl, (fun h => Y8), rfl⟩
   refine .done (by have : (T.arr i (p + 1) Es.nil).i = i := rfl; omega) (fun h => Y14) (fun _ k k1 k2 => ?_)
   rw [h.b]
   exact sep_run (P := fun c => sepOK c ∨ c = 93) h3 (Or.inr a) ht (fun c hc => Or.inl (isB_sep hc)) _ (show i + 1 ≤ i + k from Y0) (show i + k < s.size by have : (T.arr i (p + 1) Es.nil).i = i := rfl; omega)
  ·
   obtain ⟨l, f1, f2⟩ := es_items h es p j h4 (show i ≤ p from Y0) ht (i + 1) (show i ≤ i + 1 from Y0) hp (fun q q1 q2 => isB_sep (h3.2.2 q q1 q2))
   refine ⟨l, by rw [h0]; exact h1, ?_, f2, (fun h => Y8), rfl⟩
   rw [show i + 1 - (T.arr i j es).i = 1 from Nat.add_sub_cancel_left i 1] at f1
   exact f1
 | obj i j ms =>
  obtain ⟨h1, h2, p, h3, h4⟩ := hw
  have hp := h3.1
  refine ⟨true, ?_⟩
  rw [show (if (true : Bool) = true then (123 : Int) else 91) = 123 from rfl]
  rcases h4 with ⟨a, b, c⟩ | h4
  ·
   subst b; subst c
   have hps := bt_in a Y5
   refine ⟨[], by rw [h0]; exact h1, ?_, rfl, (fun _ => rfl), rfl⟩
   refine .done (by have : (T.obj i (p + 1) Ms.nil).i = i := rfl; omega) (fun _ k k1 => ?_) (fun h => Y14)
   rw [h.b]
   rcases Nat.lt_or_ge (i + k) s.size with h5 | h5
   ·
    exact sep_run (P := fun c => c ≠ 34) h3 Y0 ht (fun c hc => isB_34 hc) _ (show i + 1 ≤ i + k from Y0) h5
   ·
    rw [show (T.obj i (p + 1) Ms.nil).i + k = i + k from rfl, bt_out _ _ h5]; decide
  ·
   obtain ⟨l, f1, f2, f3⟩ := ms_items2 h ms p j h4 (show i ≤ p from Y0) ht (i + 1) (show i ≤ i + 1 from Y0) hp (fun q q1 q2 => isB_34 (h3.2.2 q q1 q2))
   refine ⟨l, by rw [h0]; exact h1, ?_, f2, (fun _ => f3), rfl⟩
   rw [show i + 1 - (T.obj i j ms).i = 1 from Nat.add_sub_cancel_left i 1] at f1
   exact f1
end Go.Proofs.YtieflhncpjjciaaGreatDoor.Dc
namespace Go.Proofs.YtieflhncpjjciaaGreatDoor.PFnGjSquashItems
open Go Go.RowKit Go.Proofs.YtieflhncpjjciaaGreatDoorW.PrintWords Go.Proofs.YtieflhncpjjciaaGreatDoor.Dc
def KidY (s u : ByteArray) (q q' : S47) : Prop := ∃ (t : T) (o : Nat), t.wf s ∧ q = t.s ∧ q' = (t.y s o).s ∧ At u o (t.c s)
def NameY (s u : ByteArray) (x x' : S121) : Prop := ∃ ni nj o : Nat, StrTok s ni nj ∧ x = ⟨(ni : Int), (nj : Int)⟩ ∧ x' = ⟨(o : Int), ((o + (nj - ni) : Nat) : Int)⟩ ∧ Win s u ni o (nj - ni)
inductive Two {α β : Type} (R : α → β → Prop) : List α → List β → Prop
 | nil : Two R [] []
 | cons {a : α} {b : β} {l : List α} {m : List β} (h : R a b) (r : Two R l m) : Two R (a :: l) (b :: m)
theorem Two.len {α β : Type} {R : α → β → Prop} {l : List α} {m : List β} (h : Two R l m) : l.length = m.length := by
 induction h with
 | nil => rfl
 | cons _ _ ih => simp [ih]
theorem Two.get {α β : Type} {R : α → β → Prop} {l : List α} {m : List β} (h : Two R l m) : ∀ (k : Nat) (a : α), l[k]? = some a → ∃ b, m[k]? = some b ∧ R a b := by
 induction h with
 | nil => intro k a hk; simp at hk
 | cons h r ih =>
  intro k a hk
  cases k with
  | zero => obtain rfl := Option.some.inj hk; exact ⟨_, rfl, h⟩
  | succ k => exact ih k a hk
theorem es_kids {s u : ByteArray} : ∀ (es : Es) (o p j : Nat), es.wf s p j → At u o (es.c s ++ [93]) → Two (KidY s u) es.l (es.y s o).l
 | .nil, o, p, j, h, _ => absurd h Y18
 | .cons t r, o, p, j, h, ha => by
  obtain ⟨h1, h2, q, h3, h4⟩ := h
  rw [Es.c] at ha
  rw [List.append_assoc] at ha
  have hr := ha.right
  rw [Es.y]
  refine .cons ⟨t, o, h1, rfl, rfl, ha.left⟩ ?_
  rcases h4 with ⟨c1, c2, c3⟩ | ⟨c1, p', c2, c3⟩
  ·
   subst c2
   rw [Es.y]
   exact .nil
  ·
   rw [Es.c'_eq c3] at hr
   exact es_kids r (o + (t.c s).length + 1) p' j c3 hr.tail
theorem ms_kids {s u : ByteArray} : ∀ (ms : Ms) (o p j : Nat), ms.wf s p j → At u o (ms.c s ++ [125]) → Two (KidY s u) ms.l (ms.y s o).l ∧ Two (NameY s u) ms.names (ms.y s o).names
 | .nil, o, p, j, h, _ => absurd h Y19
 | .cons ni nj t r, o, p, j, h, ha => by
  obtain ⟨g1, g2, c, g3, g4, v, g5, h1, h2, q, h3, h4⟩ := h
  have hn1 := g2.1.1
  have hnz := g2.1.2.1
  rw [Ms.c] at ha
  rw [List.append_assoc, List.cons_append, List.append_assoc] at ha
  have hwn := ha.left.win hnz Y0
  have hr := ha.right
  rw [seg_len hnz] at hr
  have hr1 := hr.tail
  have hr2 := hr1.right
  rw [Ms.y]
  have tail : Two (KidY s u) r.l (r.y s (o + (nj - ni) + 1 + (t.c s).length + 1)).l ∧ Two (NameY s u) r.names (r.y s (o + (nj - ni) + 1 + (t.c s).length + 1)).names := by
   rcases h4 with ⟨c1, c2, c3⟩ | ⟨c1, p', c2, c3⟩
   ·
    subst c2
    rw [Ms.y]
    exact ⟨.nil, .nil⟩
   ·
    rw [Ms.c'_eq c3] at hr2
    exact ms_kids r (o + (nj - ni) + 1 + (t.c s).length + 1) p' j c3 hr2.tail
  exact ⟨.cons ⟨t, o + (nj - ni) + 1, h1, rfl, rfl, hr1.left⟩ tail.1, .cons ⟨ni, nj, o, g2, rfl, rfl, hwn⟩ tail.2⟩
theorem t_kids {s u : ByteArray} {t : T} {o : Nat} (h : t.wf s) (ha : At u o (t.c s)) : Two (KidY s u) t.s.5 (t.y s o).s.5 ∧ Two (NameY s u) t.s.4 (t.y s o).s.4 := by
 cases t with
 | leaf kd i j => rw [T.y]; exact ⟨.nil, .nil⟩
 | arr i j es =>
  obtain ⟨h1, h2, p, h3, h4⟩ := h
  rw [T.c] at ha
  rw [T.y]
  rcases h4 with ⟨a, b, c⟩ | h4
  ·
   subst c
   rw [Es.y]
   exact ⟨.nil, .nil⟩
  ·
   exact ⟨es_kids es (o + 1) p j h4 ha.tail, .nil⟩
 | obj i j ms =>
  obtain ⟨h1, h2, p, h3, h4⟩ := h
  rw [T.c] at ha
  rw [T.y]
  rcases h4 with ⟨a, b, c⟩ | h4
  ·
   subst c
   rw [Ms.y]
   exact ⟨.nil, .nil⟩
  ·
   exact ms_kids ms (o + 1) p j h4 ha.tail
def isBy (L : List Int) : Prop := ∀ x ∈ L, 0 ≤ x ∧ x ≤ 255
theorem bytes_str {L : List Int} (h : isBy L) : bytesOf (strOfNums L) = L := by
 unfold bytesOf
 rw [strOfNums_data, List.map_map]
 conv => rhs; rw [← List.map_id L]
 refine List.map_congr_left fun x hx => ?_
 have := h x hx
 show ((UInt8.ofNat x.toNat).toNat : Int) = x
 rw [UInt8.toNat_ofNat', Nat.mod_eq_of_lt Y0]
 omega
theorem str_size {L : List Int} (h : isBy L) : (strOfNums L).size = L.length := by
 rw [← bytesOf_length, bytes_str h]
theorem str_at {L : List Int} (h : isBy L) : At (strOfNums L) 0 L := by
 refine ⟨by rw [str_size h, Nat.zero_add]; exact Nat.le_refl _, fun k hk => ?_⟩
 rw [Nat.zero_add, ← rd_bytesOf, bytes_str h]
 unfold rd
 rw [Int.toNat_natCast]
theorem at_ext {u : ByteArray} {o : Nat} {L : List Int} (h : At u o L) (hL : isBy L) : u.extract o (o + L.length) = strOfNums L := by
 have hz := h.z
 have hs := str_size hL
 have hb := (str_at hL).b
 have hw : Win (strOfNums L) u 0 o L.length := ⟨fun k hk => by rw [h.b k hk, hb k hk], Y0, hz⟩
 rw [hw.ext, Nat.zero_add, ← hs]
 exact ByteArray.extract_zero_size
theorem isBy_seg (s : ByteArray) (i j : Nat) : isBy (seg s i j) := by
 intro x hx
 obtain ⟨c, _, rfl⟩ := List.mem_map.mp hx
 have := c.toNat_lt
 omega
theorem isBy_app {A B : List Int} (h : isBy A) (k : isBy B) : isBy (A ++ B) := fun x hx => (List.mem_append.mp hx).elim (h x) (k x)
theorem isBy_cons {x : Int} {A : List Int} (h : 0 ≤ x ∧ x ≤ 255) (k : isBy A) : isBy (x :: A) := fun y hy => (List.mem_cons.mp hy).elim (fun e => e ▸ h) (k y)
theorem isBy_nil : isBy [] := fun x hx => by simp at hx
mutual
theorem isBy_t (s : ByteArray) : ∀ t : T, isBy (t.c s)
 | .leaf _ i j => by rw [T.c]; exact isBy_seg s i j
 | .arr _ _ es => by rw [T.c]; exact isBy_cons Y5 (isBy_app (isBy_es s es).1 (isBy_cons Y5 isBy_nil))
 | .obj _ _ ms => by rw [T.c]; exact isBy_cons Y5 (isBy_app (isBy_ms s ms).1 (isBy_cons Y5 isBy_nil))
theorem isBy_es (s : ByteArray) : ∀ es : Es, isBy (es.c s) ∧ isBy (es.c' s)
 | .nil => by rw [Es.c, Es.c']; exact ⟨isBy_nil, isBy_nil⟩
 | .cons t r => by rw [Es.c, Es.c']; exact ⟨isBy_app (isBy_t s t) (isBy_es s r).2, isBy_cons Y5 (isBy_app (isBy_t s t) (isBy_es s r).2)⟩
theorem isBy_ms (s : ByteArray) : ∀ ms : Ms, isBy (ms.c s) ∧ isBy (ms.c' s)
 | .nil => by rw [Ms.c, Ms.c']; exact ⟨isBy_nil, isBy_nil⟩
 | .cons ni nj t r => by
  have h := isBy_app (isBy_seg s ni nj) (isBy_cons (x := 58) Y5 (isBy_app (isBy_t s t) (isBy_ms s r).2))
  rw [Ms.c, Ms.c']; exact ⟨h, isBy_cons Y5 h⟩
end
open Classical in
noncomputable def uq (s : ByteArray) (i j : Nat) : ByteArray := if h : ∃ u, Ev (fun k => spec_Unquote.f k (s.extract i j)) u then Classical.choose h else ⟨#[]⟩
theorem uq_ev {s : ByteArray} (hs : s.size ≤ 65536) {i j : Nat} (h : StrTok s i j) : Ev (fun k => spec_Unquote.f k (s.extract i j)) (uq s i j) := by
 have hu := unquote_ev hs h
 unfold uq
 rw [dif_pos hu]
 exact Classical.choose_spec hu
noncomputable def textOf (s : ByteArray) (kd : Int) (i j : Nat) : ByteArray := if kd = 3 then s.extract i j else if kd = 4 then uq s i j else ⟨#[]⟩
mutual
noncomputable def T.n (s : ByteArray) : T → S26
 | .leaf kd i j => ⟨kd, textOf s kd i j, [], []⟩
 | .arr _ _ es => ⟨5, ⟨#[]⟩, [], es.n s⟩
 | .obj _ _ ms => ⟨6, ⟨#[]⟩, ms.kn s, ms.n s⟩
noncomputable def Es.n (s : ByteArray) : Es → List S26
 | .nil => []
 | .cons t r => t.n s :: r.n s
noncomputable def Ms.n (s : ByteArray) : Ms → List S26
 | .nil => []
 | .cons _ _ t r => t.n s :: r.n s
noncomputable def Ms.kn (s : ByteArray) : Ms → List ByteArray
 | .nil => []
 | .cons ni nj t r => uq s ni nj :: r.kn s
end
def TN (s : ByteArray) (q : S47) (x : S26) : Prop := Ev (fun k => spec_Tree.f k s q.f0 q.f1 q.f2 q.f3 q.f4) (x.f0, x.f1, x.f2, x.f3)
def SN (s : ByteArray) (x : S121) (u : ByteArray) : Prop := ∃ ni nj : Nat, x.f0 = (ni : Int) ∧ x.f1 = (nj : Int) ∧ StrTok s ni nj ∧ u = uq s ni nj
theorem take_snoc {α : Type} {l : List α} {i : Nat} {a : α} (h : l[i]? = some a) : l.take i ++ [a] = l.take (i + 1) := by
 obtain ⟨h1, h2⟩ := List.getElem?_eq_some_iff.mp h
 rw [List.take_add_one, h]
 rfl
theorem rd47_get {xs : List S47} {i : Nat} (h : i < xs.length) : xs[i]? = some (rd_T47 xs (i : Int)) := by
 unfold rd_T47
 rw [Int.toNat_natCast, List.getD_eq_getElem?_getD, List.getElem?_eq_getElem h]
 rfl
theorem rd121_get {xs : List S121} {i : Nat} (h : i < xs.length) : xs[i]? = some (rd_T121 xs (i : Int)) := by
 unfold rd_T121
 rw [Int.toNat_natCast, List.getD_eq_getElem?_getD, List.getElem?_eq_getElem h]
 rfl
theorem tn_l1 {s : ByteArray} {kids : List S47} {ns : List S26} (hk : kids.length ≤ 65536) (H : Two (TN s) kids ns) (a b c : Int) (nm : List S121) (kd : Int) (tx : ByteArray) (ks : List ByteArray) : ∀ m i, kids.length - i = m → i ≤ kids.length → Ev (fun k => spec_Tree.l1 k s (i : Int) a b c nm kids kd tx ks (ns.take i)) (kd, tx, ks, ns) := by
 have hlen := H.len
 intro m
 induction m with
 | zero =>
  intro i hm hi
  rw [List.take_of_length_le Y0]
  exact Ev.step (f := fun _ => some (kd, tx, ks, ns)) (fun k => by rw [spec_Tree.l1, if_neg Y0]) (Ev.now _)
 | succ m ih =>
  intro i hm hi
  obtain ⟨x, hx, hr⟩ := H.get i _ (rd47_get (xs := kids) (i := i) Y0)
  have hz := ih (i + 1) Y0 Y0
  rw [← take_snoc hx] at hz
  obtain ⟨x0, x1, x2, x3⟩ := x
  refine Ev.step (fun k => by rw [spec_Tree.l1, if_pos Y0, if_pos Y0]) (Ev.two hr (Ev.congr (fun k => ?_) hz))
  rw [if_pos (by rw [List.length_take]; omega), w64 Y0 Y0]
  rfl
theorem tn_l0 {s : ByteArray} (hs : s.size ≤ 65536) {kids : List S47} {ns : List S26} (hk : kids.length ≤ 65536) (H : Two (TN s) kids ns) {nm : List S121} {ks : List ByteArray} (hn : nm.length ≤ 65536) (HN : Two (SN s) nm ks) (a b c : Int) (kd : Int) (tx : ByteArray) : ∀ m i, nm.length - i = m → i ≤ nm.length → Ev (fun k => spec_Tree.l0 k s (i : Int) a b c nm kids kd tx (ks.take i)) (kd, tx, ks, ns) := by
 have hlen := HN.len
 intro m
 induction m with
 | zero =>
  intro i hm hi
  have hz := tn_l1 hk H a b c nm kd tx ks _ 0 rfl (Nat.zero_le _)
  rw [List.take_of_length_le Y0]
  exact Ev.step (fun k => by rw [spec_Tree.l0, if_neg Y0]; rfl) hz
 | succ m ih =>
  intro i hm hi
  obtain ⟨u, hx, ni, nj, e1, e2, ht, hu⟩ := HN.get i _ (rd121_get (xs := nm) (i := i) Y0)
  have t1 := ht.1.1
  have t2 := ht.1.2.1
  have hq := uq_ev hs ht
  rw [← hu] at hq
  have hz := ih (i + 1) Y0 Y0
  rw [← take_snoc hx] at hz
  refine Ev.step (fun k => by rw [spec_Tree.l0, if_pos Y0, if_pos Y0, e1, e2, if_pos Y0, if_pos Y0, if_pos Y0, Int.toNat_natCast, Int.toNat_natCast]) (Ev.two hq (Ev.congr (fun k => ?_) hz))
  rw [if_pos (by rw [List.length_take]; omega), w64 Y0 Y0]
  rfl
theorem tn_j0 {s : ByteArray} (hs : s.size ≤ 65536) {kids : List S47} {ns : List S26} (hk : kids.length ≤ 65536) (H : Two (TN s) kids ns) {nm : List S121} {ks : List ByteArray} (hn : nm.length ≤ 65536) (HN : Two (SN s) nm ks) (a b c : Int) (kd : Int) (tx : ByteArray) : Ev (fun k => spec_Tree.j0 k s a b c nm kids kd tx) (kd, tx, ks, ns) := by
 have hz := tn_l0 hs hk H hn HN a b c kd tx _ 0 rfl (Nat.zero_le _)
 exact Ev.step (fun k => by rw [spec_Tree.j0]; rfl) hz
theorem tn_f {s : ByteArray} (hs : s.size ≤ 65536) {kids : List S47} {ns : List S26} (hk : kids.length ≤ 65536) (H : Two (TN s) kids ns) {nm : List S121} {ks : List ByteArray} (hn : nm.length ≤ 65536) (HN : Two (SN s) nm ks) (kd : Int) (i j : Nat) (hij : i ≤ j) (hj : j ≤ s.size) (hst : kd = 4 → StrTok s i j) : TN s ⟨kd, (i : Int), (j : Int), nm, kids⟩ ⟨kd, textOf s kd i j, ks, ns⟩ := by
 unfold TN textOf
 simp only
 by_cases a3 : kd = 3
 ·
  rw [if_pos a3]
  exact Ev.step (fun k => by rw [spec_Tree.f, if_pos a3, if_pos Y0, if_pos Y0, if_pos Y0, Int.toNat_natCast, Int.toNat_natCast]) (tn_j0 hs hk H hn HN kd i j kd (s.extract i j))
 rw [if_neg a3]
 by_cases a4 : kd = 4
 ·
  rw [if_pos a4]
  exact Ev.step (fun k => by rw [spec_Tree.f, if_neg a3, if_pos a4, if_pos Y0, if_pos Y0, if_pos Y0, Int.toNat_natCast, Int.toNat_natCast]) (Ev.two (uq_ev hs (hst a4)) (tn_j0 hs hk H hn HN kd i j kd (uq s i j)))
 rw [if_neg a4]
 exact Ev.step (fun k => by rw [spec_Tree.f, if_neg a3, if_neg a4]) (tn_j0 hs hk H hn HN kd i j kd ⟨#[]⟩)
mutual
theorem tn_t {s : ByteArray} (hs : s.size ≤ 65536) : ∀ t : T, t.wf s → TN s t.s (t.n s)
 | .leaf kd i j, h => by
  have hv := wf_vk h
  rw [T.n]
  refine tn_f hs (Nat.zero_le _) .nil (Nat.zero_le _) .nil kd i j (Nat.le_of_lt hv.1) hv.2.1 (fun h4 => ?_)
  have h4' : (T.leaf kd i j).s.1 = 4 := h4
  rcases hv.2.2 with ⟨_, b⟩ | ⟨a, _⟩ | ⟨⟨a, _⟩ | ⟨a, _⟩ | ⟨a, _⟩, _⟩ | ⟨⟨a, _⟩ | ⟨a, _⟩, _⟩
  ·
   exact b
  all_goals (rw [h4'] at a; exact absurd a Y5)
 | .arr i j es, h => by
  have hv := wf_vk h
  have h1 := hv.1
  have h2 := hv.2.1
  rw [T.n]
  obtain ⟨_, _, p, hb, hd⟩ := h
  rcases hd with ⟨_, _, rfl⟩ | hw
  ·
   rw [Es.n]
   exact tn_f hs (Nat.zero_le _) .nil (Nat.zero_le _) .nil 5 i j (Nat.le_of_lt h1) h2 (fun h4 => by cases h4)
  ·
   have hl := es_len es p j hw
   have h2' : j ≤ s.size := h2
   exact tn_f hs Y0 (tn_es hs es p j hw) (Nat.zero_le _) .nil 5 i j (Nat.le_of_lt h1) h2 (fun h4 => by cases h4)
 | .obj i j ms, h => by
  have hv := wf_vk h
  have h1 := hv.1
  have h2 := hv.2.1
  rw [T.n]
  obtain ⟨_, _, p, hb, hd⟩ := h
  rcases hd with ⟨_, _, rfl⟩ | hw
  ·
   rw [Ms.n, Ms.kn]
   exact tn_f hs (Nat.zero_le _) .nil (Nat.zero_le _) .nil 6 i j (Nat.le_of_lt h1) h2 (fun h4 => by cases h4)
  ·
   have hl := ms_len ms p j hw
   have h2' : j ≤ s.size := h2
   exact tn_f hs Y0 (tn_ms hs ms p j hw).1 Y0 (tn_ms hs ms p j hw).2 6 i j (Nat.le_of_lt h1) h2 (fun h4 => by cases h4)
theorem tn_es {s : ByteArray} (hs : s.size ≤ 65536) : ∀ (es : Es) (p j : Nat), es.wf s p j → Two (TN s) es.l (es.n s)
 | .nil, _, _, h => absurd h Y18
 | .cons t r, p, j, h => by
  obtain ⟨h1, h2, q, h3, h4⟩ := h
  rw [Es.n]
  refine .cons (tn_t hs t h1) ?_
  rcases h4 with ⟨_, rfl, _⟩ | ⟨_, p', _, h6⟩
  ·
   rw [Es.n]; exact .nil
  ·
   exact tn_es hs r p' j h6
theorem tn_ms {s : ByteArray} (hs : s.size ≤ 65536) : ∀ (ms : Ms) (p j : Nat), ms.wf s p j → Two (TN s) ms.l (ms.n s) ∧ Two (SN s) ms.names (ms.kn s)
 | .nil, _, _, h => absurd h Y19
 | .cons ni nj t r, p, j, h => by
  obtain ⟨h0, hst, c, hc1, _, v, hv1, h1, h2, q, h3, h4⟩ := h
  rw [Ms.n, Ms.kn]
  have tail : Two (TN s) r.l (r.n s) ∧ Two (SN s) r.names (r.kn s) := by
   rcases h4 with ⟨_, rfl, _⟩ | ⟨_, p', _, h6⟩
   ·
    rw [Ms.n, Ms.kn]; exact ⟨.nil, .nil⟩
   ·
    exact tn_ms hs r p' j h6
  exact ⟨.cons (tn_t hs t h1) tail.1, .cons ⟨ni, nj, rfl, rfl, hst, rfl⟩ tail.2⟩
end
theorem T.n_kind (s : ByteArray) (t : T) : (t.n s).f0 = t.s.1 := by cases t <;> (rw [T.n]; rfl)
theorem T.n_kids {s : ByteArray} (hs : s.size ≤ 65536) {t : T} (h : t.wf s) : Two (TN s) t.s.5 (t.n s).f3 := by
 cases t with
 | leaf kd i j => rw [T.n]; exact .nil
 | arr i j es =>
  rw [T.n]
  obtain ⟨_, _, p, hb, hd⟩ := h
  rcases hd with ⟨_, _, rfl⟩ | hw
  ·
   rw [Es.n]; exact .nil
  ·
   exact tn_es hs es p j hw
 | obj i j ms =>
  rw [T.n]
  obtain ⟨_, _, p, hb, hd⟩ := h
  rcases hd with ⟨_, _, rfl⟩ | hw
  ·
   rw [Ms.n]; exact .nil
  ·
   exact (tn_ms hs ms p j hw).1
def GjT2 (s : ByteArray) (r1 : Int) (r2 : ByteArray) (r3 : List ByteArray) (r4 : List S26) (ok : Bool) : Prop := ok = true → s.size ≤ 65536 ∧ Ev (fun k => spec_Paired.f k s) true ∧ ∃ t : T, t.wf s ∧ (⟨r1, r2, r3, r4⟩ : S26) = t.n s ∧ Blk s 0 t.i ∧ Blk s t.j s.size ∧ Ev (fun k => spec_Places.f k s) (t.s.1, t.s.2, t.s.3, t.s.4, t.s.5, true)
theorem gjtext_ev2 (s : ByteArray) : ∃ r1 r2 r3 r4 ok, Ev (fun k => laws_gjText.f k s) (r1, r2, r3, r4, ok) ∧ GjT2 s r1 r2 r3 r4 ok := by
 have no : ∀ {g : Nat → Option (Int × ByteArray × List ByteArray × List S26 × Bool)}, Ev g (0, (⟨#[]⟩ : ByteArray), ([] : List ByteArray), ([] : List S26), false) → ∃ r1 r2 r3 r4 ok, Ev g (r1, r2, r3, r4, ok) ∧ GjT2 s r1 r2 r3 r4 ok := fun h => ⟨_, _, _, _, _, h, (fun h => Y8)⟩
 by_cases hs : (s.size : Int) > 65536
 ·
  exact no (Ev.is fun k => by rw [laws_gjText.f, if_pos hs])
 have hn : s.size ≤ 65536 := Y0
 obtain ⟨b1, hb1⟩ := utf8_ev hn
 obtain ⟨b2, hb2⟩ := paired_ev hn
 have st : ∀ {r}, Ev (fun k => if b1 = true then ((spec_Paired.f k s).bind fun t396 => (if t396 = true then ((spec_Read.f k s).bind fun bt397 => (some (bt397.1, bt397.2.1, bt397.2.2.1, bt397.2.2.2.1, bt397.2.2.2.2))) else (some (0, (⟨#[]⟩ : ByteArray), ([] : List ByteArray), ([] : List (S26)), false)))) else (some (0, (⟨#[]⟩ : ByteArray), ([] : List ByteArray), ([] : List (S26)), false))) r → Ev (fun k => laws_gjText.f k s) r := fun h => Ev.congr (fun k => by rw [laws_gjText.f, if_neg hs]) (Ev.two hb1 h)
 cases b1 with
 | false => exact no (st (Ev.congr (fun k => if_neg Bool.false_ne_true) (Ev.now _)))
 | true =>
  cases b2 with
  | false => exact no (st (Ev.congr (fun k => if_pos rfl) (Ev.two hb2 (Ev.congr (fun k => if_neg Bool.false_ne_true) (Ev.now _)))))
  | true =>
   obtain ⟨kd, b, e, nm, kids, ok, hp, hok⟩ := places_ev hn
   have st2 : ∀ {r : Int × ByteArray × List ByteArray × List S26 × Bool}, Ev (fun k => spec_Read.f k s) r → Ev (fun k => laws_gjText.f k s) r := fun {r} h => st (Ev.congr (fun k => if_pos rfl) (Ev.two hb2 (Ev.congr (fun k => if_pos rfl) (Ev.two h (Ev.now _)))))
   cases ok with
   | false => exact no (st2 (Ev.congr (fun k => by rw [spec_Read.f]) (Ev.two hp (Ev.congr (fun k => if_neg Bool.false_ne_true) (Ev.now _)))))
   | true =>
    obtain ⟨t, hw, hts, hb0, hbj⟩ := hok rfl
    have hr := tn_t hn t hw
    have hr' : Ev (fun k => spec_Tree.f k s kd b e nm kids) ((t.n s).f0, (t.n s).f1, (t.n s).f2, (t.n s).f3) := by unfold TN at hr; rw [hts] at hr; exact hr
    refine ⟨_, _, _, _, true, st2 (Ev.congr (fun k => by rw [spec_Read.f]) (Ev.two hp (Ev.congr (fun k => if_pos rfl) (Ev.two hr' (Ev.now _))))), fun _ => ⟨hn, hb2, t, hw, by show (⟨(t.n s).f0, (t.n s).f1, (t.n s).f2, (t.n s).f3⟩ : S26) = t.n s; cases t.n s; rfl, hb0, hbj, ?_⟩⟩
    rw [hts]
    exact hp
end Go.Proofs.YtieflhncpjjciaaGreatDoor.PFnGjSquashItems
