/- Functions of the reference, printed out of the translation and walked. No condition but what each lemma states. -/
import Derived.Test.YtjemobfhlfejlaaGreatDoorFx0
set_option linter.unusedVariables false
set_option linter.unusedSimpArgs false
namespace Go.Proofs.YtjemobfhlfejlaaGreatDoor.PFnFjFloatNear
open Go.RowKit Go.Proofs.YtjemobfhlfejlaaGreatDoorW.PrintWords Go.Proofs.YtjemobfhlfejlaaGreatDoorW.PrintLast Go.Proofs.YtjemobfhlfejlaaGreatDoorW.PrintMore
attribute [local go_sem] max2_int min2_int max_two min_two max_three min_three max_four min_four
def IsS75 (w0 W : World) (g : Nat) (f0 : ByteArray) (f1 : Int) : Prop := W.heap[g]? = some (.cells #[.string f0, .int .i64 f1] 75 (0, 0)) ∧ w0.heap.size ≤ g
theorem IsS75.grown {w0 W : World} {g : Nat} {f0 : ByteArray} {f1 : Int} {W1 : World} {row : Option Nat} (h : IsS75 w0 W g f0 f1) (hw : W.grownBy W1 row) (hne : some g ≠ row) : IsS75 w0 W1 g f0 f1 := by
  obtain ⟨hb, hg⟩ := h
  exact ⟨blk_grown hb hw hne, hg⟩
theorem IsS75.fresh {w0 W : World} {g : Nat} {f0 : ByteArray} {f1 : Int} (h : IsS75 w0 W g f0 f1) : ∀ k, W.heap.size ≤ k → k ≠ g := by
  obtain ⟨hb, hg⟩ := h
  exact Kd.freshB hb
theorem IsS75.kept {w0 W : World} {g : Nat} {f0 : ByteArray} {f1 : Int} {W1 : World} {S : Nat → Prop} (h : IsS75 w0 W g f0 f1) (hk : Kept W W1 S) (hne : ¬ S g) : IsS75 w0 W1 g f0 f1 := by
  obtain ⟨hb, hg⟩ := h
  exact ⟨blk_kept hb hk hne, hg⟩
theorem IsS75.below {w0 W : World} {g : Nat} {f0 : ByteArray} {f1 : Int} {W1 : World} (h : IsS75 w0 W g f0 f1) (hw : Below W.heap.size W W1) : IsS75 w0 W1 g f0 f1 := h.grown (grown_of_below hw none) (by simp)
theorem IsS75.alloc {w0 W : World} {g : Nat} {f0 : ByteArray} {f1 : Int} (h : IsS75 w0 W g f0 f1) (o : Obj) : IsS75 w0 (W.alloc o) g f0 f1 := h.below (below_alloc (Below.refl _ _) o)
theorem IsS75.drewN {w0 W : World} {g : Nat} {f0 : ByteArray} {f1 : Int} (h : IsS75 w0 W g f0 f1) (m : Nat) : IsS75 w0 (W.drewN m) g f0 f1 := h
theorem IsS75.drew {w0 W : World} {g : Nat} {f0 : ByteArray} {f1 : Int} (h : IsS75 w0 W g f0 f1) : IsS75 w0 W.drew g f0 f1 := h
theorem IsS75.at_ {w0 W : World} {g : Nat} {f0 : ByteArray} {f1 : Int} {w' : World} {m : Nat} (hq : W.drewN m = w') (h : IsS75 w0 W g f0 f1) : IsS75 w0 w' g f0 f1 := by subst hq; exact IsS75.drewN h m
theorem IsS75.apart {w0 W : World} {g : Nat} {f0 : ByteArray} {f1 : Int} {α : Type} {d : Kd α} {e : Nat} {base : Nat} {ok : Nat → Prop} {v : Value} {xs : List α} (h : IsS75 w0 W g f0 f1) (ho : d.R e W base ok v xs) (ht : ∀ q, q ∈ e :: d.E → q ≠ 75) : d.R e W base (fun k => ok k ∧ k ≠ g) v xs := by
  obtain ⟨hb, hg⟩ := h
  exact Kd.R_types ho hb ht
theorem IsS75.own_ne {w0 W : World} {g : Nat} {f0 : ByteArray} {f1 : Int} {α : Type} {d : Kd α} {e : Nat} {base : Nat} {ok : Nat → Prop} {v : Value} {xs : List α} (h : IsS75 w0 W g f0 f1) (ho : d.R e W base ok v xs) (ht : e ≠ 75) : some g ≠ v.ownBlock := by
  obtain ⟨hb, hg⟩ := h
  exact Kd.R_ne ho hb ht
theorem IsS75.lt {w0 W : World} {g : Nat} {f0 : ByteArray} {f1 : Int} (h : IsS75 w0 W g f0 f1) : g < W.heap.size := by
  obtain ⟨hb, hg⟩ := h
  exact blk_lt hb
theorem IsS75.ge {w0 W : World} {g : Nat} {f0 : ByteArray} {f1 : Int} (h : IsS75 w0 W g f0 f1) : w0.heap.size ≤ g := by
  obtain ⟨hb, hg⟩ := h
  exact hg
theorem cellS75_0 {W : World} {g : Nat} {f0 : ByteArray} {f1 : Int} (h : W.heap[g]? = some (.cells #[.string f0, .int .i64 f1] 75 (0, 0))) : W.cell? ⟨g, 0, none⟩ = some (.string f0) := (blk_cell h 0).trans rfl
theorem IsS75.set_0 {w0 W : World} {g : Nat} {f0 : ByteArray} {f1 : Int} (h : IsS75 w0 W g f0 f1) (x : ByteArray) : IsS75 w0 (W.setCell ⟨g, 0, none⟩ (.string x)) g x f1 := by
  obtain ⟨hb, hg⟩ := h
  exact ⟨by simpa using blk_set hb 0 (.string x), hg⟩
theorem cellS75_1 {W : World} {g : Nat} {f0 : ByteArray} {f1 : Int} (h : W.heap[g]? = some (.cells #[.string f0, .int .i64 f1] 75 (0, 0))) : W.cell? ⟨g, 1, none⟩ = some (.int .i64 f1) := (blk_cell h 1).trans rfl
theorem IsS75.set_1 {w0 W : World} {g : Nat} {f0 : ByteArray} {f1 : Int} (h : IsS75 w0 W g f0 f1) (x : Int) : IsS75 w0 (W.setCell ⟨g, 1, none⟩ (.int .i64 x)) g f0 x := by
  obtain ⟨hb, hg⟩ := h
  exact ⟨by simpa using blk_set hb 1 (.int .i64 x), hg⟩
def spec_reader_take.f (s0_0 : ByteArray) (s0_1 : Int) (a1 : Int) : Option (Bool × ByteArray × Int) := if s0_1 < (s0_0.size : Int) then (if 0 ≤ s0_1 then (if (bt s0_0 s0_1) = a1 then (some (true, s0_0, wrap64 (s0_1 + 1))) else (some (false, s0_0, s0_1))) else (none)) else (some (false, s0_0, s0_1))
set_option maxHeartbeats 8000000 in
set_option maxRecDepth 100000 in
theorem spec_reader_take.calls (g : Nat) (s0_0 : ByteArray) (s0_1 : Int) (a1 : Int) (r1 : Bool) (r2 : ByteArray) (r3 : Int) (w0 w : World) (hI : IsS75 w0 w g s0_0 s0_1) (hB : Below w0.heap.size w0 w) (h : spec_reader_take.f s0_0 s0_1 a1 = some (r1, r2, r3)) :
    Calls Tryz.prog 46 #[.pointer (some ⟨g, 0, none⟩), .int .u8 a1] w fun e w' => e = .returned (.bool r1) ∧ IsS75 w0 w' g r2 r3 ∧ Below w0.heap.size w0 w' ∧ KeepBut w w' g none := by
  have HI0 := Aside0.mk hI
  have HK := Aside0.mk (KeepBut.refl w g none)
  have HL := Aside0.mk hB.size
  clear hI
  have HW0 := Aside0.mk hB.size
  have HB := Aside0.mk hB
  clear hB
  have H : (if s0_1 < (s0_0.size : Int) then (if 0 ≤ s0_1 then (if (bt s0_0 s0_1) = a1 then (some (true, s0_0, wrap64 (s0_1 + 1))) else (some (false, s0_0, s0_1))) else (none)) else (some (false, s0_0, s0_1))) = some (r1, r2, r3) := h
  clear h
  by_cases c3 : s0_1 < (s0_0.size : Int)
  · rw [if_pos c3] at H
    have c3b0 : decide (s0_1 < (s0_0.size : Int)) = true := decide_eq_true c3
    clear c3
    by_cases c4 : 0 ≤ s0_1
    · rw [if_pos c4] at H
      have c4b0 : decide (0 ≤ s0_1) = true := decide_eq_true c4
      clear c4
      by_cases c6 : (bt s0_0 s0_1) = a1
      · rw [if_pos c6] at H
        have c6b0 : ((bt s0_0 s0_1) == a1) = true := beq_iff_eq.mpr c6
        have c6b1 : ((bt s0_0 s0_1) != a1) = false := bne_eq_false_iff_eq.mpr c6
        clear c6
        simp only [Option.some.injEq, Prod.mk.injEq] at H
        obtain ⟨rfl, rfl, rfl⟩ := H
        obtain ⟨HGz7, hgz7⟩ := HI0.out
        have hcz7_0 := cellS75_0 HGz7
        have hcz7_1 := cellS75_1 HGz7
        have hfz7_0 := blk_frozen HGz7 0
        have hfz7_1 := blk_frozen HGz7 1
        clear HGz7 hgz7
        have p5 : 0 ≤ (s0_1 : Int) := of_decide_eq_true (by first | (with_reducible assumption) | assumption)
        have q5 : s0_1 < (s0_0.size : Int) := of_decide_eq_true (by first | (with_reducible assumption) | assumption)
        have hx5 := bt_at s0_0 s0_1
        replace p5 := eq_true p5
        replace q5 := eq_true q5
        go_enter Tryz.func46, Tryz.ntmps46
        go_wp2
        repeat (go_quiet (fail); try go_wp2)
        go_ret
        exact ⟨by first | rfl | (simp [errW_none, errW_some] <;> rfl) | (simp [*, errW_none, errW_some] <;> rfl), by repeat (first | (with_reducible first | exact HI0.out | apply IsS75.alloc | apply IsS75.drewN | apply IsS75.drew | apply IsS75.set_0 | apply IsS75.set_1) | exact HI0.out), by repeat (first | (with_reducible first | exact HB.out | apply below_alloc | apply pw_below_drewN | apply below_drew1 | refine below_set ?_ (IsS75.ge HI0.out)) | exact HB.out), by repeat (first | (with_reducible first | exact HK.out | apply KeepBut.set_ | apply keep_drewN | apply keep_drew | apply keep_alloc) | exact HK.out)⟩
      · rw [if_neg c6] at H
        have c6b0 : ((bt s0_0 s0_1) == a1) = false := beq_eq_false_iff_ne.mpr c6
        have c6b1 : ((bt s0_0 s0_1) != a1) = true := bne_iff_ne.mpr c6
        simp only [Option.some.injEq, Prod.mk.injEq] at H
        obtain ⟨rfl, rfl, rfl⟩ := H
        obtain ⟨HGz8, hgz8⟩ := HI0.out
        have hcz8_0 := cellS75_0 HGz8
        have hcz8_1 := cellS75_1 HGz8
        have hfz8_0 := blk_frozen HGz8 0
        have hfz8_1 := blk_frozen HGz8 1
        clear HGz8 hgz8
        have p5 : 0 ≤ (s0_1 : Int) := of_decide_eq_true (by first | (with_reducible assumption) | assumption)
        have q5 : s0_1 < (s0_0.size : Int) := of_decide_eq_true (by first | (with_reducible assumption) | assumption)
        have hx5 := bt_at s0_0 s0_1
        replace p5 := eq_true p5
        replace q5 := eq_true q5
        go_enter Tryz.func46, Tryz.ntmps46
        go_wp2
        repeat (go_quiet (fail); try go_wp2)
        go_ret
        exact ⟨by first | rfl | (simp [errW_none, errW_some] <;> rfl) | (simp [*, errW_none, errW_some] <;> rfl), by repeat (first | (with_reducible first | exact HI0.out | apply IsS75.alloc | apply IsS75.drewN | apply IsS75.drew | apply IsS75.set_0 | apply IsS75.set_1) | exact HI0.out), by repeat (first | (with_reducible first | exact HB.out | apply below_alloc | apply pw_below_drewN | apply below_drew1 | refine below_set ?_ (IsS75.ge HI0.out)) | exact HB.out), by repeat (first | (with_reducible first | exact HK.out | apply KeepBut.set_ | apply keep_drewN | apply keep_drew | apply keep_alloc) | exact HK.out)⟩
    · rw [if_neg c4] at H
      exact absurd H (by simp)
  · rw [if_neg c3] at H
    have c3b0 : decide (s0_1 < (s0_0.size : Int)) = false := decide_eq_false c3
    clear c3
    simp only [Option.some.injEq, Prod.mk.injEq] at H
    obtain ⟨rfl, rfl, rfl⟩ := H
    obtain ⟨HGz9, hgz9⟩ := HI0.out
    have hcz9_0 := cellS75_0 HGz9
    have hcz9_1 := cellS75_1 HGz9
    have hfz9_0 := blk_frozen HGz9 0
    have hfz9_1 := blk_frozen HGz9 1
    clear HGz9 hgz9
    go_enter Tryz.func46, Tryz.ntmps46
    go_wp2
    repeat (go_quiet (fail); try go_wp2)
    go_ret
    exact ⟨by first | rfl | (simp [errW_none, errW_some] <;> rfl) | (simp [*, errW_none, errW_some] <;> rfl), by repeat (first | (with_reducible first | exact HI0.out | apply IsS75.alloc | apply IsS75.drewN | apply IsS75.drew | apply IsS75.set_0 | apply IsS75.set_1) | exact HI0.out), by repeat (first | (with_reducible first | exact HB.out | apply below_alloc | apply pw_below_drewN | apply below_drew1 | refine below_set ?_ (IsS75.ge HI0.out)) | exact HB.out), by repeat (first | (with_reducible first | exact HK.out | apply KeepBut.set_ | apply keep_drewN | apply keep_drew | apply keep_alloc) | exact HK.out)⟩
def spec_reader_here.f (s0_0 : ByteArray) (s0_1 : Int) : Option (Int × ByteArray × Int) := if s0_1 < (s0_0.size : Int) then (if 0 ≤ s0_1 then (some (bt s0_0 s0_1, s0_0, s0_1)) else (none)) else (some (0, s0_0, s0_1))
set_option maxHeartbeats 8000000 in
set_option maxRecDepth 100000 in
theorem spec_reader_here.calls (g : Nat) (s0_0 : ByteArray) (s0_1 : Int) (r1 : Int) (r2 : ByteArray) (r3 : Int) (w0 w : World) (hI : IsS75 w0 w g s0_0 s0_1) (hB : Below w0.heap.size w0 w) (h : spec_reader_here.f s0_0 s0_1 = some (r1, r2, r3)) :
    Calls Tryz.prog 64 #[.pointer (some ⟨g, 0, none⟩)] w fun e w' => e = .returned (.int .u8 r1) ∧ IsS75 w0 w' g r2 r3 ∧ Below w0.heap.size w0 w' ∧ KeepBut w w' g none := by
  have HI0 := Aside0.mk hI
  have HK := Aside0.mk (KeepBut.refl w g none)
  have HL := Aside0.mk hB.size
  clear hI
  have HW0 := Aside0.mk hB.size
  have HB := Aside0.mk hB
  clear hB
  have H : (if s0_1 < (s0_0.size : Int) then (if 0 ≤ s0_1 then (some (bt s0_0 s0_1, s0_0, s0_1)) else (none)) else (some (0, s0_0, s0_1))) = some (r1, r2, r3) := h
  clear h
  by_cases c2 : s0_1 < (s0_0.size : Int)
  · rw [if_pos c2] at H
    have c2b0 : decide (s0_1 < (s0_0.size : Int)) = true := decide_eq_true c2
    clear c2
    by_cases c3 : 0 ≤ s0_1
    · rw [if_pos c3] at H
      have c3b0 : decide (0 ≤ s0_1) = true := decide_eq_true c3
      clear c3
      simp only [Option.some.injEq, Prod.mk.injEq] at H
      obtain ⟨rfl, rfl, rfl⟩ := H
      obtain ⟨HGz5, hgz5⟩ := HI0.out
      have hcz5_0 := cellS75_0 HGz5
      have hcz5_1 := cellS75_1 HGz5
      have hfz5_0 := blk_frozen HGz5 0
      have hfz5_1 := blk_frozen HGz5 1
      clear HGz5 hgz5
      have p4 : 0 ≤ (s0_1 : Int) := of_decide_eq_true (by first | (with_reducible assumption) | assumption)
      have q4 : s0_1 < (s0_0.size : Int) := of_decide_eq_true (by first | (with_reducible assumption) | assumption)
      have hx4 := bt_at s0_0 s0_1
      replace p4 := eq_true p4
      replace q4 := eq_true q4
      go_enter Tryz.func64, Tryz.ntmps64
      go_wp2
      repeat (go_quiet (fail); try go_wp2)
      go_ret
      exact ⟨by first | rfl | (simp [errW_none, errW_some] <;> rfl) | (simp [*, errW_none, errW_some] <;> rfl), by repeat (first | (with_reducible first | exact HI0.out | apply IsS75.alloc | apply IsS75.drewN | apply IsS75.drew | apply IsS75.set_0 | apply IsS75.set_1) | exact HI0.out), by repeat (first | (with_reducible first | exact HB.out | apply below_alloc | apply pw_below_drewN | apply below_drew1 | refine below_set ?_ (IsS75.ge HI0.out)) | exact HB.out), by repeat (first | (with_reducible first | exact HK.out | apply KeepBut.set_ | apply keep_drewN | apply keep_drew | apply keep_alloc) | exact HK.out)⟩
    · rw [if_neg c3] at H
      exact absurd H (by simp)
  · rw [if_neg c2] at H
    have c2b0 : decide (s0_1 < (s0_0.size : Int)) = false := decide_eq_false c2
    clear c2
    simp only [Option.some.injEq, Prod.mk.injEq] at H
    obtain ⟨rfl, rfl, rfl⟩ := H
    obtain ⟨HGz6, hgz6⟩ := HI0.out
    have hcz6_0 := cellS75_0 HGz6
    have hcz6_1 := cellS75_1 HGz6
    have hfz6_0 := blk_frozen HGz6 0
    have hfz6_1 := blk_frozen HGz6 1
    clear HGz6 hgz6
    go_enter Tryz.func64, Tryz.ntmps64
    go_wp2
    repeat (go_quiet (fail); try go_wp2)
    go_ret
    exact ⟨by first | rfl | (simp [errW_none, errW_some] <;> rfl) | (simp [*, errW_none, errW_some] <;> rfl), by repeat (first | (with_reducible first | exact HI0.out | apply IsS75.alloc | apply IsS75.drewN | apply IsS75.drew | apply IsS75.set_0 | apply IsS75.set_1) | exact HI0.out), by repeat (first | (with_reducible first | exact HB.out | apply below_alloc | apply pw_below_drewN | apply below_drew1 | refine below_set ?_ (IsS75.ge HI0.out)) | exact HB.out), by repeat (first | (with_reducible first | exact HK.out | apply KeepBut.set_ | apply keep_drewN | apply keep_drew | apply keep_alloc) | exact HK.out)⟩
def spec_reader_digits.l0 : Nat → Int → Int → ByteArray → Int → Option (Bool × ByteArray × Int)
  | 0, _, _, _, _ => none
  | k + 1, x3, x4, x1000, x1001 => if 48 ≤ x4 then (if x4 ≤ 57 then ((spec_reader_here.f x1000 (wrap64 (x1001 + 1))).bind fun bt104 => (spec_reader_digits.l0 k x3 bt104.1 bt104.2.1 bt104.2.2)) else (some (decide (x1001 > x3), x1000, x1001))) else (some (decide (x1001 > x3), x1000, x1001))
def spec_reader_digits.f (k : Nat) (s0_0 : ByteArray) (s0_1 : Int) : Option (Bool × ByteArray × Int) := (spec_reader_here.f s0_0 s0_1).bind fun bt101 => (spec_reader_digits.l0 k s0_1 bt101.1 bt101.2.1 bt101.2.2)
set_option maxHeartbeats 8000000 in
set_option maxRecDepth 100000 in
theorem spec_reader_digits.calls (k : Nat) (g : Nat) (s0_0 : ByteArray) (s0_1 : Int) (r1 : Bool) (r2 : ByteArray) (r3 : Int) (w0 w : World) (hI : IsS75 w0 w g s0_0 s0_1) (hB : Below w0.heap.size w0 w) (h : spec_reader_digits.f k s0_0 s0_1 = some (r1, r2, r3)) :
    Calls Tryz.prog 47 #[.pointer (some ⟨g, 0, none⟩)] w fun e w' => e = .returned (.bool r1) ∧ IsS75 w0 w' g r2 r3 ∧ Below w0.heap.size w0 w' ∧ KeepBut w w' g none := by
  have HI0 := Aside0.mk hI
  have HK := Aside0.mk (KeepBut.refl w g none)
  have HL := Aside0.mk hB.size
  clear hI
  have HW0 := Aside0.mk hB.size
  have HB := Aside0.mk hB
  clear hB
  have H : ((spec_reader_here.f s0_0 s0_1).bind fun bt101 => (spec_reader_digits.l0 k s0_1 bt101.1 bt101.2.1 bt101.2.2)) = some (r1, r2, r3) := h
  clear h
  replace H := Option.bind_eq_some_iff.mp H
  obtain ⟨⟨t101, t102, t103⟩, A20, H⟩ := H
  replace H : (spec_reader_digits.l0 k s0_1 t101 t102 t103) = some (r1, r2, r3) := H
  have A2 := Aside0.mk A20
  clear A20
  have H' := Aside0.mk H
  clear H
  obtain ⟨HGz3, hgz3⟩ := HI0.out
  have hcz3_0 := cellS75_0 HGz3
  have hcz3_1 := cellS75_1 HGz3
  have hfz3_0 := blk_frozen HGz3 0
  have hfz3_1 := blk_frozen HGz3 1
  clear HGz3 hgz3
  go_enter Tryz.func47, Tryz.ntmps47
  go_wp2_with (first | ((with_reducible refine gate_callee (f := 64) rfl ?_); refine goesL_ (some 10) rfl rfl Tryz.func64 (by kernel_rfl) rfl #[.pointer (some ⟨g, 0, none⟩)] rfl (by (try simp only [List.map_toArray, List.map_cons, List.map_nil]); first | done | rfl | (simp only [List.length_drop, List.length_take]; rfl) | (simp only [ByteArray.size_append, Int.natCast_add]; first | done | rfl) | (go_simp; first | done | (simp [ByteArray.size_append, ByteArray.size_extract]; done))) ?_; (with_reducible refine (spec_reader_here.calls g s0_0 s0_1 t101 t102 t103 w0 _ ?side1 ?side2 A2.out).mono ?_); (case side1 => repeat (first | (with_reducible first | exact HI0.out | apply IsS75.alloc | apply IsS75.drewN | apply IsS75.drew | apply IsS75.set_0 | apply IsS75.set_1) | exact HI0.out)); (case side2 => repeat (first | (with_reducible first | exact HB.out | apply below_alloc | apply pw_below_drewN | apply below_drew1 | refine below_set ?_ (IsS75.ge HI0.out)) | exact HB.out)); rintro e w4 ⟨rfl, hi, hb, hk⟩; refine ⟨_, rfl, ?_⟩; have n0_ := Aside0.mk (KeepBut.trans (by repeat (first | (with_reducible first | exact HK.out | apply KeepBut.set_ | apply keep_drewN | apply keep_drew | apply keep_alloc) | exact HK.out)) hk (.inl rfl)); have n1_ := Aside0.mk (hb); have n2_ := Aside0.mk (hi); clear HK; clear HB; clear HI0; have HK := n0_; have HB := n1_; have HI0 := n2_; clear n0_ n1_ n2_; (try clear hb); (try clear hb2); (try clear hk); (try clear hi)))
  (try simp only [Act.put, List.setIfInBounds_toArray, List.set_cons_succ, List.set_cons_zero])
  go_loopg [4] k (fun kq v4 w' => ∃ (x4_1 : Int) (x1000_1 : ByteArray) (x1001_1 : Int), v4 = .int .u8 x4_1 ∧ Aside0 (spec_reader_digits.l0 kq s0_1 x4_1 x1000_1 x1001_1 = some (r1, r2, r3)) ∧ Aside0 (kq ≤ k) ∧ Aside0 (IsS75 w0 w' g x1000_1 x1001_1) ∧ Aside0 (KeepBut w w' g none) ∧ Aside0 (Below w0.heap.size w0 w'))
  case atStart => exact ⟨(t101), (t102), (t103), (by first | rfl | (simp; done) | (simp [*]; done)), H', ⟨Nat.le_refl _⟩, ⟨by repeat (first | (with_reducible first | exact HI0.out | apply IsS75.alloc | apply IsS75.drewN | apply IsS75.drew | apply IsS75.set_0 | apply IsS75.set_1) | exact HI0.out)⟩, ⟨by repeat (first | (with_reducible first | exact HK.out | apply KeepBut.set_ | apply keep_drewN | apply keep_drew | apply keep_alloc) | exact HK.out)⟩, ⟨by repeat (first | (with_reducible first | exact HB.out | apply below_alloc | apply pw_below_drewN | apply below_drew1 | refine below_set ?_ (IsS75.ge HI0.out)) | exact HB.out)⟩⟩
  case round =>
    clear H'
    try clear p2
    try clear c4
    try clear hcz3_0
    try clear hcz3_1
    try clear hfz3_0
    try clear hfz3_1
    obtain ⟨x4_1, x1000_1, x1001_1, rfl, HA, HK1, HI0, HK, HB⟩ := hrel
    cases gk with
    | zero => exact absurd HA.out (by simp [spec_reader_digits.l0])
    | succ k1 =>
      have H := HA.out
      clear HA
      simp only [spec_reader_digits.l0] at H
      by_cases c5 : 48 ≤ x4_1
      · rw [if_pos c5] at H
        have c5b0 : decide (48 ≤ x4_1) = true := decide_eq_true c5
        clear c5
        by_cases c6 : x4_1 ≤ 57
        · rw [if_pos c6] at H
          have c6b0 : decide (x4_1 ≤ 57) = true := decide_eq_true c6
          clear c6
          replace H := Option.bind_eq_some_iff.mp H
          obtain ⟨⟨t104, t105, t106⟩, A70, H⟩ := H
          replace H : (spec_reader_digits.l0 k1 s0_1 t104 t105 t106) = some (r1, r2, r3) := H
          have A7 := Aside0.mk A70
          clear A70
          have H' := Aside0.mk H
          clear H
          obtain ⟨HGz8, hgz8⟩ := HI0.out
          have hcz8_0 := cellS75_0 HGz8
          have hcz8_1 := cellS75_1 HGz8
          have hfz8_0 := blk_frozen HGz8 0
          have hfz8_1 := blk_frozen HGz8 1
          clear HGz8 hgz8
          go_wp2_with (first | ((with_reducible refine gate_callee (f := 64) rfl ?_); refine goesL_ (some 18) rfl rfl Tryz.func64 (by kernel_rfl) rfl #[.pointer (some ⟨g, 0, none⟩)] rfl (by (try simp only [List.map_toArray, List.map_cons, List.map_nil]); first | done | rfl | (simp only [List.length_drop, List.length_take]; rfl) | (simp only [ByteArray.size_append, Int.natCast_add]; first | done | rfl) | (go_simp; first | done | (simp [ByteArray.size_append, ByteArray.size_extract]; done))) ?_; (with_reducible refine (spec_reader_here.calls g x1000_1 (wrap64 (x1001_1 + 1)) t104 t105 t106 w0 _ ?side1 ?side2 A7.out).mono ?_); (case side1 => repeat (first | (with_reducible first | exact HI0.out | apply IsS75.alloc | apply IsS75.drewN | apply IsS75.drew | apply IsS75.set_0 | apply IsS75.set_1) | exact HI0.out)); (case side2 => repeat (first | (with_reducible first | exact HB.out | apply below_alloc | apply pw_below_drewN | apply below_drew1 | refine below_set ?_ (IsS75.ge HI0.out)) | exact HB.out)); rintro e w9 ⟨rfl, hi, hb, hk⟩; refine ⟨_, rfl, ?_⟩; have n0_ := Aside0.mk (KeepBut.trans (by repeat (first | (with_reducible first | exact HK.out | apply KeepBut.set_ | apply keep_drewN | apply keep_drew | apply keep_alloc) | exact HK.out)) hk (.inl rfl)); have n1_ := Aside0.mk (hb); have n2_ := Aside0.mk (hi); clear HK; clear HB; clear HI0; have HK := n0_; have HB := n1_; have HI0 := n2_; clear n0_ n1_ n2_; (try clear hb); (try clear hb2); (try clear hk); (try clear hi)))
          go_roundg k1
          case measure => have := HK1.out; omega
          case rel => exact ⟨(t104), (t105), (t106), (by first | rfl | (simp; done) | (simp [*]; done)), H', ⟨by have := HK1.out; omega⟩, ⟨by repeat (first | (with_reducible first | exact HI0.out | apply IsS75.alloc | apply IsS75.drewN | apply IsS75.drew | apply IsS75.set_0 | apply IsS75.set_1) | exact HI0.out)⟩, ⟨by repeat (first | (with_reducible first | exact HK.out | apply KeepBut.set_ | apply keep_drewN | apply keep_drew | apply keep_alloc) | exact HK.out)⟩, ⟨by repeat (first | (with_reducible first | exact HB.out | apply below_alloc | apply pw_below_drewN | apply below_drew1 | refine below_set ?_ (IsS75.ge HI0.out)) | exact HB.out)⟩⟩
        · rw [if_neg c6] at H
          have c6b0 : decide (x4_1 ≤ 57) = false := decide_eq_false c6
          clear c6
          simp only [Option.some.injEq, Prod.mk.injEq] at H
          obtain ⟨rfl, rfl, rfl⟩ := H
          obtain ⟨HGz10, hgz10⟩ := HI0.out
          have hcz10_0 := cellS75_0 HGz10
          have hcz10_1 := cellS75_1 HGz10
          have hfz10_0 := blk_frozen HGz10 0
          have hfz10_1 := blk_frozen HGz10 1
          clear HGz10 hgz10
          go_wp2
          go_ret
          exact ⟨by first | rfl | (simp [errW_none, errW_some] <;> rfl) | (simp [*, errW_none, errW_some] <;> rfl), by repeat (first | (with_reducible first | exact HI0.out | apply IsS75.alloc | apply IsS75.drewN | apply IsS75.drew | apply IsS75.set_0 | apply IsS75.set_1) | exact HI0.out), by repeat (first | (with_reducible first | exact HB.out | apply below_alloc | apply pw_below_drewN | apply below_drew1 | refine below_set ?_ (IsS75.ge HI0.out)) | exact HB.out), by repeat (first | (with_reducible first | exact HK.out | apply KeepBut.set_ | apply keep_drewN | apply keep_drew | apply keep_alloc) | exact HK.out)⟩
      · rw [if_neg c5] at H
        have c5b0 : decide (48 ≤ x4_1) = false := decide_eq_false c5
        clear c5
        simp only [Option.some.injEq, Prod.mk.injEq] at H
        obtain ⟨rfl, rfl, rfl⟩ := H
        obtain ⟨HGz11, hgz11⟩ := HI0.out
        have hcz11_0 := cellS75_0 HGz11
        have hcz11_1 := cellS75_1 HGz11
        have hfz11_0 := blk_frozen HGz11 0
        have hfz11_1 := blk_frozen HGz11 1
        clear HGz11 hgz11
        go_wp2
        go_ret
        exact ⟨by first | rfl | (simp [errW_none, errW_some] <;> rfl) | (simp [*, errW_none, errW_some] <;> rfl), by repeat (first | (with_reducible first | exact HI0.out | apply IsS75.alloc | apply IsS75.drewN | apply IsS75.drew | apply IsS75.set_0 | apply IsS75.set_1) | exact HI0.out), by repeat (first | (with_reducible first | exact HB.out | apply below_alloc | apply pw_below_drewN | apply below_drew1 | refine below_set ?_ (IsS75.ge HI0.out)) | exact HB.out), by repeat (first | (with_reducible first | exact HK.out | apply KeepBut.set_ | apply keep_drewN | apply keep_drew | apply keep_alloc) | exact HK.out)⟩
mutual
def spec_reader_number.j0 : Nat → Bool → ByteArray → Int → Option (Bool × ByteArray × Int)
  | 0, _, _, _ => none
  | k + 1, x12, x1000, x1001 => if x12 = true then (some (false, x1000, x1001)) else ((spec_reader_take.f x1000 x1001 46).bind fun bt116 => (if bt116.1 = true then ((spec_reader_digits.f k bt116.2.1 bt116.2.2).bind fun bt119 => (spec_reader_number.j1 k (!bt119.1) bt119.2.1 bt119.2.2)) else (spec_reader_number.j1 k false bt116.2.1 bt116.2.2)))
def spec_reader_number.j1 : Nat → Bool → ByteArray → Int → Option (Bool × ByteArray × Int)
  | 0, _, _, _ => none
  | k + 1, x19, x1000, x1001 => if x19 = true then (some (false, x1000, x1001)) else ((spec_reader_take.f x1000 x1001 101).bind fun bt122 => (if bt122.1 = true then (spec_reader_number.j2 k true bt122.2.1 bt122.2.2) else ((spec_reader_take.f bt122.2.1 bt122.2.2 69).bind fun bt125 => (spec_reader_number.j2 k bt125.1 bt125.2.1 bt125.2.2))))
def spec_reader_number.j2 : Nat → Bool → ByteArray → Int → Option (Bool × ByteArray × Int)
  | 0, _, _, _ => none
  | k + 1, x25, x1000, x1001 => if x25 = true then ((spec_reader_take.f x1000 x1001 43).bind fun bt128 => (if bt128.1 = true then ((spec_reader_digits.f k bt128.2.1 bt128.2.2).bind fun bt131 => (some (bt131.1, bt131.2.1, bt131.2.2))) else ((spec_reader_take.f bt128.2.1 bt128.2.2 45).bind fun bt134 => ((spec_reader_digits.f k bt134.2.1 bt134.2.2).bind fun bt137 => (some (bt137.1, bt137.2.1, bt137.2.2)))))) else (some (true, x1000, x1001))
end
def spec_reader_number.f (k : Nat) (s0_0 : ByteArray) (s0_1 : Int) : Option (Bool × ByteArray × Int) := (spec_reader_take.f s0_0 s0_1 45).bind fun bt107 => ((spec_reader_take.f bt107.2.1 bt107.2.2 48).bind fun bt110 => (if bt110.1 = true then (spec_reader_number.j0 k false bt110.2.1 bt110.2.2) else ((spec_reader_digits.f k bt110.2.1 bt110.2.2).bind fun bt113 => (spec_reader_number.j0 k (!bt113.1) bt113.2.1 bt113.2.2))))
set_option maxHeartbeats 8000000 in
set_option maxRecDepth 100000 in
theorem spec_reader_number.calls (k : Nat) (g : Nat) (s0_0 : ByteArray) (s0_1 : Int) (r1 : Bool) (r2 : ByteArray) (r3 : Int) (w0 w : World) (hI : IsS75 w0 w g s0_0 s0_1) (hB : Below w0.heap.size w0 w) (h : spec_reader_number.f k s0_0 s0_1 = some (r1, r2, r3)) :
    Calls Tryz.prog 28 #[.pointer (some ⟨g, 0, none⟩)] w fun e w' => e = .returned (.bool r1) ∧ IsS75 w0 w' g r2 r3 ∧ Below w0.heap.size w0 w' ∧ KeepBut w w' g none := by
  have HI0 := Aside0.mk hI
  have HK := Aside0.mk (KeepBut.refl w g none)
  have HL := Aside0.mk hB.size
  clear hI
  have HW0 := Aside0.mk hB.size
  have HB := Aside0.mk hB
  clear hB
  have H : ((spec_reader_take.f s0_0 s0_1 45).bind fun bt107 => ((spec_reader_take.f bt107.2.1 bt107.2.2 48).bind fun bt110 => (if bt110.1 = true then (spec_reader_number.j0 k false bt110.2.1 bt110.2.2) else ((spec_reader_digits.f k bt110.2.1 bt110.2.2).bind fun bt113 => (spec_reader_number.j0 k (!bt113.1) bt113.2.1 bt113.2.2))))) = some (r1, r2, r3) := h
  clear h
  replace H := Option.bind_eq_some_iff.mp H
  obtain ⟨⟨t107, t108, t109⟩, A20, H⟩ := H
  replace H : ((spec_reader_take.f t108 t109 48).bind fun bt110 => (if bt110.1 = true then (spec_reader_number.j0 k false bt110.2.1 bt110.2.2) else ((spec_reader_digits.f k bt110.2.1 bt110.2.2).bind fun bt113 => (spec_reader_number.j0 k (!bt113.1) bt113.2.1 bt113.2.2)))) = some (r1, r2, r3) := H
  have A2 := Aside0.mk A20
  clear A20
  have HC3 := Aside0.mk H
  clear H
  go_enter Tryz.func28, Tryz.ntmps28
  go_upto_region 2 with (first | ((with_reducible refine gate_callee (f := 46) rfl ?_); refine goesL_ (some 4) rfl rfl Tryz.func46 (by kernel_rfl) rfl #[.pointer (some ⟨g, 0, none⟩), .int .u8 45] rfl (by (try simp only [List.map_toArray, List.map_cons, List.map_nil]); first | done | rfl | (simp only [List.length_drop, List.length_take]; rfl) | (simp only [ByteArray.size_append, Int.natCast_add]; first | done | rfl) | (go_simp; first | done | (simp [ByteArray.size_append, ByteArray.size_extract]; done))) ?_; (with_reducible refine (spec_reader_take.calls g s0_0 s0_1 45 t107 t108 t109 w0 _ ?side1 ?side2 A2.out).mono ?_); (case side1 => repeat (first | (with_reducible first | exact HI0.out | apply IsS75.alloc | apply IsS75.drewN | apply IsS75.drew | apply IsS75.set_0 | apply IsS75.set_1) | exact HI0.out)); (case side2 => repeat (first | (with_reducible first | exact HB.out | apply below_alloc | apply pw_below_drewN | apply below_drew1 | refine below_set ?_ (IsS75.ge HI0.out)) | exact HB.out)); rintro e w4 ⟨rfl, hi, hb, hk⟩; refine ⟨_, rfl, ?_⟩; have n0_ := Aside0.mk (KeepBut.trans (by repeat (first | (with_reducible first | exact HK.out | apply KeepBut.set_ | apply keep_drewN | apply keep_drew | apply keep_alloc) | exact HK.out)) hk (.inl rfl)); have n1_ := Aside0.mk (hb); have n2_ := Aside0.mk (hi); clear HK; clear HB; clear HI0; have HK := n0_; have HB := n1_; have HI0 := n2_; clear n0_ n1_ n2_; (try clear hb); (try clear hb2); (try clear hk); (try clear hi)))
  (try simp only [Act.put, List.setIfInBounds_toArray, List.set_cons_zero, List.set_cons_succ])
  go_cut [12] (fun v12 wc => ∃ (kq : Nat) (x12_2 : Bool) (x1000_2 : ByteArray) (x1001_2 : Int), v12 = .bool x12_2 ∧ Aside0 (spec_reader_number.j0 kq x12_2 x1000_2 x1001_2 = some (r1, r2, r3)) ∧ Aside0 (kq ≤ k) ∧ Aside0 (IsS75 w0 wc g x1000_2 x1001_2) ∧ Aside0 (KeepBut w wc g none) ∧ Aside0 (Below w0.heap.size w0 wc))
  case first =>
    have H := HC3.out
    clear HC3
    replace H := Option.bind_eq_some_iff.mp H
    obtain ⟨⟨t110, t111, t112⟩, A50, H⟩ := H
    replace H : (if t110 = true then (spec_reader_number.j0 k false t111 t112) else ((spec_reader_digits.f k t111 t112).bind fun bt113 => (spec_reader_number.j0 k (!bt113.1) bt113.2.1 bt113.2.2))) = some (r1, r2, r3) := H
    have A5 := Aside0.mk A50
    clear A50
    by_cases c6 : t110 = true
    · subst c6
      rw [if_pos rfl] at H
      have H' := Aside0.mk H
      clear H
      go_wp2_with (first | ((with_reducible refine gate_callee (f := 46) rfl ?_); refine goesL_ (some 6) rfl rfl Tryz.func46 (by kernel_rfl) rfl #[.pointer (some ⟨g, 0, none⟩), .int .u8 48] rfl (by (try simp only [List.map_toArray, List.map_cons, List.map_nil]); first | done | rfl | (simp only [List.length_drop, List.length_take]; rfl) | (simp only [ByteArray.size_append, Int.natCast_add]; first | done | rfl) | (go_simp; first | done | (simp [ByteArray.size_append, ByteArray.size_extract]; done))) ?_; (with_reducible refine (spec_reader_take.calls g t108 t109 48 true t111 t112 w0 _ ?side1 ?side2 A5.out).mono ?_); (case side1 => repeat (first | (with_reducible first | exact HI0.out | apply IsS75.alloc | apply IsS75.drewN | apply IsS75.drew | apply IsS75.set_0 | apply IsS75.set_1) | exact HI0.out)); (case side2 => repeat (first | (with_reducible first | exact HB.out | apply below_alloc | apply pw_below_drewN | apply below_drew1 | refine below_set ?_ (IsS75.ge HI0.out)) | exact HB.out)); rintro e w7 ⟨rfl, hi, hb, hk⟩; refine ⟨_, rfl, ?_⟩; have n0_ := Aside0.mk (KeepBut.trans (by repeat (first | (with_reducible first | exact HK.out | apply KeepBut.set_ | apply keep_drewN | apply keep_drew | apply keep_alloc) | exact HK.out)) hk (.inl rfl)); have n1_ := Aside0.mk (hb); have n2_ := Aside0.mk (hi); clear HK; clear HB; clear HI0; have HK := n0_; have HB := n1_; have HI0 := n2_; clear n0_ n1_ n2_; (try clear hb); (try clear hb2); (try clear hk); (try clear hi)))
      go_meet
      case rel => exact ⟨_, (false), (t111), (t112), (by first | rfl | (simp; done) | (simp [*]; done)), H', ⟨by first | omega | exact Nat.le_refl _⟩, ⟨by repeat (first | (with_reducible first | exact HI0.out | apply IsS75.alloc | apply IsS75.drewN | apply IsS75.drew | apply IsS75.set_0 | apply IsS75.set_1) | exact HI0.out)⟩, ⟨by repeat (first | (with_reducible first | exact HK.out | apply KeepBut.set_ | apply keep_drewN | apply keep_drew | apply keep_alloc) | exact HK.out)⟩, ⟨by repeat (first | (with_reducible first | exact HB.out | apply below_alloc | apply pw_below_drewN | apply below_drew1 | refine below_set ?_ (IsS75.ge HI0.out)) | exact HB.out)⟩⟩
    · replace c6 := Bool.eq_false_iff.mpr c6
      subst c6
      rw [if_neg (show ¬ (false = true) by decide)] at H
      replace H := Option.bind_eq_some_iff.mp H
      obtain ⟨⟨t113, t114, t115⟩, A80, H⟩ := H
      replace H : (spec_reader_number.j0 k (!t113) t114 t115) = some (r1, r2, r3) := H
      have A8 := Aside0.mk A80
      clear A80
      have H' := Aside0.mk H
      clear H
      go_wp2_with (first | ((with_reducible refine gate_callee (f := 46) rfl ?_); refine goesL_ (some 6) rfl rfl Tryz.func46 (by kernel_rfl) rfl #[.pointer (some ⟨g, 0, none⟩), .int .u8 48] rfl (by (try simp only [List.map_toArray, List.map_cons, List.map_nil]); first | done | rfl | (simp only [List.length_drop, List.length_take]; rfl) | (simp only [ByteArray.size_append, Int.natCast_add]; first | done | rfl) | (go_simp; first | done | (simp [ByteArray.size_append, ByteArray.size_extract]; done))) ?_; (with_reducible refine (spec_reader_take.calls g t108 t109 48 false t111 t112 w0 _ ?side1 ?side2 A5.out).mono ?_); (case side1 => repeat (first | (with_reducible first | exact HI0.out | apply IsS75.alloc | apply IsS75.drewN | apply IsS75.drew | apply IsS75.set_0 | apply IsS75.set_1) | exact HI0.out)); (case side2 => repeat (first | (with_reducible first | exact HB.out | apply below_alloc | apply pw_below_drewN | apply below_drew1 | refine below_set ?_ (IsS75.ge HI0.out)) | exact HB.out)); rintro e w9 ⟨rfl, hi, hb, hk⟩; refine ⟨_, rfl, ?_⟩; have n0_ := Aside0.mk (KeepBut.trans (by repeat (first | (with_reducible first | exact HK.out | apply KeepBut.set_ | apply keep_drewN | apply keep_drew | apply keep_alloc) | exact HK.out)) hk (.inl rfl)); have n1_ := Aside0.mk (hb); have n2_ := Aside0.mk (hi); clear HK; clear HB; clear HI0; have HK := n0_; have HB := n1_; have HI0 := n2_; clear n0_ n1_ n2_; (try clear hb); (try clear hb2); (try clear hk); (try clear hi)) | (go_at_call 47; (with_reducible refine (spec_reader_digits.calls k g t111 t112 t113 t114 t115 w0 _ ?side1 ?side2 A8.out).mono ?_); (case side1 => repeat (first | (with_reducible first | exact HI0.out | apply IsS75.alloc | apply IsS75.drewN | apply IsS75.drew | apply IsS75.set_0 | apply IsS75.set_1) | exact HI0.out)); (case side2 => repeat (first | (with_reducible first | exact HB.out | apply below_alloc | apply pw_below_drewN | apply below_drew1 | refine below_set ?_ (IsS75.ge HI0.out)) | exact HB.out)); rintro e w10 ⟨rfl, hi, hb, hk⟩; have n0_ := Aside0.mk (KeepBut.trans (by repeat (first | (with_reducible first | exact HK.out | apply KeepBut.set_ | apply keep_drewN | apply keep_drew | apply keep_alloc) | exact HK.out)) hk (.inl rfl)); have n1_ := Aside0.mk (hb); have n2_ := Aside0.mk (hi); clear HK; clear HB; clear HI0; have HK := n0_; have HB := n1_; have HI0 := n2_; clear n0_ n1_ n2_; (try clear hb); (try clear hb2); (try clear hk); (try clear hi)))
      go_meet
      case rel => exact ⟨_, (!t113), (t114), (t115), (by first | rfl | (simp; done) | (simp [*]; done)), H', ⟨by first | omega | exact Nat.le_refl _⟩, ⟨by repeat (first | (with_reducible first | exact HI0.out | apply IsS75.alloc | apply IsS75.drewN | apply IsS75.drew | apply IsS75.set_0 | apply IsS75.set_1) | exact HI0.out)⟩, ⟨by repeat (first | (with_reducible first | exact HK.out | apply KeepBut.set_ | apply keep_drewN | apply keep_drew | apply keep_alloc) | exact HK.out)⟩, ⟨by repeat (first | (with_reducible first | exact HB.out | apply below_alloc | apply pw_below_drewN | apply below_drew1 | refine below_set ?_ (IsS75.ge HI0.out)) | exact HB.out)⟩⟩
  case rest =>
    clear HC3
    try clear c2
    try clear p2
    try clear c4
    try clear c6
    obtain ⟨kq, x12_2, x1000_2, x1001_2, rfl, HA, HJ2, HI0, HK, HB⟩ := hcut
    cases kq with
    | zero => exact absurd HA.out (by simp [spec_reader_number.j0])
    | succ kj2 =>
      have H := HA.out
      clear HA
      simp only [spec_reader_number.j0] at H
      by_cases c11 : x12_2 = true
      · subst c11
        rw [if_pos rfl] at H
        simp only [Option.some.injEq, Prod.mk.injEq] at H
        obtain ⟨rfl, rfl, rfl⟩ := H
        go_wp2
        go_ret
        exact ⟨by first | rfl | (simp [errW_none, errW_some] <;> rfl) | (simp [*, errW_none, errW_some] <;> rfl), by repeat (first | (with_reducible first | exact HI0.out | apply IsS75.alloc | apply IsS75.drewN | apply IsS75.drew | apply IsS75.set_0 | apply IsS75.set_1) | exact HI0.out), by repeat (first | (with_reducible first | exact HB.out | apply below_alloc | apply pw_below_drewN | apply below_drew1 | refine below_set ?_ (IsS75.ge HI0.out)) | exact HB.out), by repeat (first | (with_reducible first | exact HK.out | apply KeepBut.set_ | apply keep_drewN | apply keep_drew | apply keep_alloc) | exact HK.out)⟩
      · replace c11 := Bool.eq_false_iff.mpr c11
        subst c11
        rw [if_neg (show ¬ (false = true) by decide)] at H
        have HC12 := Aside0.mk H
        clear H
        go_upto_region 4 with (fail)
        go_cut [19] (fun v19 wc => ∃ (kq : Nat) (x19_11 : Bool) (x1000_11 : ByteArray) (x1001_11 : Int), v19 = .bool x19_11 ∧ Aside0 (spec_reader_number.j1 kq x19_11 x1000_11 x1001_11 = some (r1, r2, r3)) ∧ Aside0 (kq ≤ kj2) ∧ Aside0 (IsS75 w0 wc g x1000_11 x1001_11) ∧ Aside0 (KeepBut w wc g none) ∧ Aside0 (Below w0.heap.size w0 wc))
        case first =>
          have H := HC12.out
          clear HC12
          replace H := Option.bind_eq_some_iff.mp H
          obtain ⟨⟨t116, t117, t118⟩, A130, H⟩ := H
          replace H : (if t116 = true then ((spec_reader_digits.f kj2 t117 t118).bind fun bt119 => (spec_reader_number.j1 kj2 (!bt119.1) bt119.2.1 bt119.2.2)) else (spec_reader_number.j1 kj2 false t117 t118)) = some (r1, r2, r3) := H
          have A13 := Aside0.mk A130
          clear A130
          by_cases c14 : t116 = true
          · subst c14
            rw [if_pos rfl] at H
            replace H := Option.bind_eq_some_iff.mp H
            obtain ⟨⟨t119, t120, t121⟩, A150, H⟩ := H
            replace H : (spec_reader_number.j1 kj2 (!t119) t120 t121) = some (r1, r2, r3) := H
            have A15 := Aside0.mk A150
            clear A150
            have H' := Aside0.mk H
            clear H
            go_wp2_with (first | ((with_reducible refine gate_callee (f := 46) rfl ?_); refine goesL_ (some 14) rfl rfl Tryz.func46 (by kernel_rfl) rfl #[.pointer (some ⟨g, 0, none⟩), .int .u8 46] rfl (by (try simp only [List.map_toArray, List.map_cons, List.map_nil]); first | done | rfl | (simp only [List.length_drop, List.length_take]; rfl) | (simp only [ByteArray.size_append, Int.natCast_add]; first | done | rfl) | (go_simp; first | done | (simp [ByteArray.size_append, ByteArray.size_extract]; done))) ?_; (with_reducible refine (spec_reader_take.calls g x1000_2 x1001_2 46 true t117 t118 w0 _ ?side1 ?side2 A13.out).mono ?_); (case side1 => repeat (first | (with_reducible first | exact HI0.out | apply IsS75.alloc | apply IsS75.drewN | apply IsS75.drew | apply IsS75.set_0 | apply IsS75.set_1) | exact HI0.out)); (case side2 => repeat (first | (with_reducible first | exact HB.out | apply below_alloc | apply pw_below_drewN | apply below_drew1 | refine below_set ?_ (IsS75.ge HI0.out)) | exact HB.out)); rintro e w16 ⟨rfl, hi, hb, hk⟩; refine ⟨_, rfl, ?_⟩; have n0_ := Aside0.mk (KeepBut.trans (by repeat (first | (with_reducible first | exact HK.out | apply KeepBut.set_ | apply keep_drewN | apply keep_drew | apply keep_alloc) | exact HK.out)) hk (.inl rfl)); have n1_ := Aside0.mk (hb); have n2_ := Aside0.mk (hi); clear HK; clear HB; clear HI0; have HK := n0_; have HB := n1_; have HI0 := n2_; clear n0_ n1_ n2_; (try clear hb); (try clear hb2); (try clear hk); (try clear hi)) | (go_at_call 47; (with_reducible refine (spec_reader_digits.calls kj2 g t117 t118 t119 t120 t121 w0 _ ?side1 ?side2 A15.out).mono ?_); (case side1 => repeat (first | (with_reducible first | exact HI0.out | apply IsS75.alloc | apply IsS75.drewN | apply IsS75.drew | apply IsS75.set_0 | apply IsS75.set_1) | exact HI0.out)); (case side2 => repeat (first | (with_reducible first | exact HB.out | apply below_alloc | apply pw_below_drewN | apply below_drew1 | refine below_set ?_ (IsS75.ge HI0.out)) | exact HB.out)); rintro e w17 ⟨rfl, hi, hb, hk⟩; have n0_ := Aside0.mk (KeepBut.trans (by repeat (first | (with_reducible first | exact HK.out | apply KeepBut.set_ | apply keep_drewN | apply keep_drew | apply keep_alloc) | exact HK.out)) hk (.inl rfl)); have n1_ := Aside0.mk (hb); have n2_ := Aside0.mk (hi); clear HK; clear HB; clear HI0; have HK := n0_; have HB := n1_; have HI0 := n2_; clear n0_ n1_ n2_; (try clear hb); (try clear hb2); (try clear hk); (try clear hi)))
            go_meet
            case rel => exact ⟨_, (!t119), (t120), (t121), (by first | rfl | (simp; done) | (simp [*]; done)), H', ⟨by have := HJ2.out; first | omega | exact Nat.le_refl _⟩, ⟨by repeat (first | (with_reducible first | exact HI0.out | apply IsS75.alloc | apply IsS75.drewN | apply IsS75.drew | apply IsS75.set_0 | apply IsS75.set_1) | exact HI0.out)⟩, ⟨by repeat (first | (with_reducible first | exact HK.out | apply KeepBut.set_ | apply keep_drewN | apply keep_drew | apply keep_alloc) | exact HK.out)⟩, ⟨by repeat (first | (with_reducible first | exact HB.out | apply below_alloc | apply pw_below_drewN | apply below_drew1 | refine below_set ?_ (IsS75.ge HI0.out)) | exact HB.out)⟩⟩
          · replace c14 := Bool.eq_false_iff.mpr c14
            subst c14
            rw [if_neg (show ¬ (false = true) by decide)] at H
            have H' := Aside0.mk H
            clear H
            go_wp2_with (first | ((with_reducible refine gate_callee (f := 46) rfl ?_); refine goesL_ (some 14) rfl rfl Tryz.func46 (by kernel_rfl) rfl #[.pointer (some ⟨g, 0, none⟩), .int .u8 46] rfl (by (try simp only [List.map_toArray, List.map_cons, List.map_nil]); first | done | rfl | (simp only [List.length_drop, List.length_take]; rfl) | (simp only [ByteArray.size_append, Int.natCast_add]; first | done | rfl) | (go_simp; first | done | (simp [ByteArray.size_append, ByteArray.size_extract]; done))) ?_; (with_reducible refine (spec_reader_take.calls g x1000_2 x1001_2 46 false t117 t118 w0 _ ?side1 ?side2 A13.out).mono ?_); (case side1 => repeat (first | (with_reducible first | exact HI0.out | apply IsS75.alloc | apply IsS75.drewN | apply IsS75.drew | apply IsS75.set_0 | apply IsS75.set_1) | exact HI0.out)); (case side2 => repeat (first | (with_reducible first | exact HB.out | apply below_alloc | apply pw_below_drewN | apply below_drew1 | refine below_set ?_ (IsS75.ge HI0.out)) | exact HB.out)); rintro e w18 ⟨rfl, hi, hb, hk⟩; refine ⟨_, rfl, ?_⟩; have n0_ := Aside0.mk (KeepBut.trans (by repeat (first | (with_reducible first | exact HK.out | apply KeepBut.set_ | apply keep_drewN | apply keep_drew | apply keep_alloc) | exact HK.out)) hk (.inl rfl)); have n1_ := Aside0.mk (hb); have n2_ := Aside0.mk (hi); clear HK; clear HB; clear HI0; have HK := n0_; have HB := n1_; have HI0 := n2_; clear n0_ n1_ n2_; (try clear hb); (try clear hb2); (try clear hk); (try clear hi)))
            go_meet
            case rel => exact ⟨_, (false), (t117), (t118), (by first | rfl | (simp; done) | (simp [*]; done)), H', ⟨by have := HJ2.out; first | omega | exact Nat.le_refl _⟩, ⟨by repeat (first | (with_reducible first | exact HI0.out | apply IsS75.alloc | apply IsS75.drewN | apply IsS75.drew | apply IsS75.set_0 | apply IsS75.set_1) | exact HI0.out)⟩, ⟨by repeat (first | (with_reducible first | exact HK.out | apply KeepBut.set_ | apply keep_drewN | apply keep_drew | apply keep_alloc) | exact HK.out)⟩, ⟨by repeat (first | (with_reducible first | exact HB.out | apply below_alloc | apply pw_below_drewN | apply below_drew1 | refine below_set ?_ (IsS75.ge HI0.out)) | exact HB.out)⟩⟩
        case rest =>
          clear HC12
          try clear c1
          try clear c2
          try clear p2
          try clear c4
          try clear c6
          try clear c11
          try clear c14
          try clear p2
          obtain ⟨kq, x19_11, x1000_11, x1001_11, rfl, HA, HJ11, HI0, HK, HB⟩ := hcut
          cases kq with
          | zero => exact absurd HA.out (by simp [spec_reader_number.j1])
          | succ kj11 =>
            have H := HA.out
            clear HA
            simp only [spec_reader_number.j1] at H
            by_cases c19 : x19_11 = true
            · subst c19
              rw [if_pos rfl] at H
              simp only [Option.some.injEq, Prod.mk.injEq] at H
              obtain ⟨rfl, rfl, rfl⟩ := H
              go_wp2
              go_ret
              exact ⟨by first | rfl | (simp [errW_none, errW_some] <;> rfl) | (simp [*, errW_none, errW_some] <;> rfl), by repeat (first | (with_reducible first | exact HI0.out | apply IsS75.alloc | apply IsS75.drewN | apply IsS75.drew | apply IsS75.set_0 | apply IsS75.set_1) | exact HI0.out), by repeat (first | (with_reducible first | exact HB.out | apply below_alloc | apply pw_below_drewN | apply below_drew1 | refine below_set ?_ (IsS75.ge HI0.out)) | exact HB.out), by repeat (first | (with_reducible first | exact HK.out | apply KeepBut.set_ | apply keep_drewN | apply keep_drew | apply keep_alloc) | exact HK.out)⟩
            · replace c19 := Bool.eq_false_iff.mpr c19
              subst c19
              rw [if_neg (show ¬ (false = true) by decide)] at H
              have HC20 := Aside0.mk H
              clear H
              go_upto_region 6 with (fail)
              go_cut [25] (fun v25 wc => ∃ (kq : Nat) (x25_19 : Bool) (x1000_19 : ByteArray) (x1001_19 : Int), v25 = .bool x25_19 ∧ Aside0 (spec_reader_number.j2 kq x25_19 x1000_19 x1001_19 = some (r1, r2, r3)) ∧ Aside0 (kq ≤ kj11) ∧ Aside0 (IsS75 w0 wc g x1000_19 x1001_19) ∧ Aside0 (KeepBut w wc g none) ∧ Aside0 (Below w0.heap.size w0 wc))
              case first =>
                have H := HC20.out
                clear HC20
                replace H := Option.bind_eq_some_iff.mp H
                obtain ⟨⟨t122, t123, t124⟩, A210, H⟩ := H
                replace H : (if t122 = true then (spec_reader_number.j2 kj11 true t123 t124) else ((spec_reader_take.f t123 t124 69).bind fun bt125 => (spec_reader_number.j2 kj11 bt125.1 bt125.2.1 bt125.2.2))) = some (r1, r2, r3) := H
                have A21 := Aside0.mk A210
                clear A210
                by_cases c22 : t122 = true
                · subst c22
                  rw [if_pos rfl] at H
                  have H' := Aside0.mk H
                  clear H
                  go_wp2_with (first | ((with_reducible refine gate_callee (f := 46) rfl ?_); refine goesL_ (some 21) rfl rfl Tryz.func46 (by kernel_rfl) rfl #[.pointer (some ⟨g, 0, none⟩), .int .u8 101] rfl (by (try simp only [List.map_toArray, List.map_cons, List.map_nil]); first | done | rfl | (simp only [List.length_drop, List.length_take]; rfl) | (simp only [ByteArray.size_append, Int.natCast_add]; first | done | rfl) | (go_simp; first | done | (simp [ByteArray.size_append, ByteArray.size_extract]; done))) ?_; (with_reducible refine (spec_reader_take.calls g x1000_11 x1001_11 101 true t123 t124 w0 _ ?side1 ?side2 A21.out).mono ?_); (case side1 => repeat (first | (with_reducible first | exact HI0.out | apply IsS75.alloc | apply IsS75.drewN | apply IsS75.drew | apply IsS75.set_0 | apply IsS75.set_1) | exact HI0.out)); (case side2 => repeat (first | (with_reducible first | exact HB.out | apply below_alloc | apply pw_below_drewN | apply below_drew1 | refine below_set ?_ (IsS75.ge HI0.out)) | exact HB.out)); rintro e w23 ⟨rfl, hi, hb, hk⟩; refine ⟨_, rfl, ?_⟩; have n0_ := Aside0.mk (KeepBut.trans (by repeat (first | (with_reducible first | exact HK.out | apply KeepBut.set_ | apply keep_drewN | apply keep_drew | apply keep_alloc) | exact HK.out)) hk (.inl rfl)); have n1_ := Aside0.mk (hb); have n2_ := Aside0.mk (hi); clear HK; clear HB; clear HI0; have HK := n0_; have HB := n1_; have HI0 := n2_; clear n0_ n1_ n2_; (try clear hb); (try clear hb2); (try clear hk); (try clear hi)))
                  go_meet
                  case rel => exact ⟨_, (true), (t123), (t124), (by first | rfl | (simp; done) | (simp [*]; done)), H', ⟨by have := HJ2.out; have := HJ11.out; first | omega | exact Nat.le_refl _⟩, ⟨by repeat (first | (with_reducible first | exact HI0.out | apply IsS75.alloc | apply IsS75.drewN | apply IsS75.drew | apply IsS75.set_0 | apply IsS75.set_1) | exact HI0.out)⟩, ⟨by repeat (first | (with_reducible first | exact HK.out | apply KeepBut.set_ | apply keep_drewN | apply keep_drew | apply keep_alloc) | exact HK.out)⟩, ⟨by repeat (first | (with_reducible first | exact HB.out | apply below_alloc | apply pw_below_drewN | apply below_drew1 | refine below_set ?_ (IsS75.ge HI0.out)) | exact HB.out)⟩⟩
                · replace c22 := Bool.eq_false_iff.mpr c22
                  subst c22
                  rw [if_neg (show ¬ (false = true) by decide)] at H
                  replace H := Option.bind_eq_some_iff.mp H
                  obtain ⟨⟨t125, t126, t127⟩, A240, H⟩ := H
                  replace H : (spec_reader_number.j2 kj11 t125 t126 t127) = some (r1, r2, r3) := H
                  have A24 := Aside0.mk A240
                  clear A240
                  have H' := Aside0.mk H
                  clear H
                  go_wp2_with (first | ((with_reducible refine gate_callee (f := 46) rfl ?_); refine goesL_ (some 21) rfl rfl Tryz.func46 (by kernel_rfl) rfl #[.pointer (some ⟨g, 0, none⟩), .int .u8 101] rfl (by (try simp only [List.map_toArray, List.map_cons, List.map_nil]); first | done | rfl | (simp only [List.length_drop, List.length_take]; rfl) | (simp only [ByteArray.size_append, Int.natCast_add]; first | done | rfl) | (go_simp; first | done | (simp [ByteArray.size_append, ByteArray.size_extract]; done))) ?_; (with_reducible refine (spec_reader_take.calls g x1000_11 x1001_11 101 false t123 t124 w0 _ ?side1 ?side2 A21.out).mono ?_); (case side1 => repeat (first | (with_reducible first | exact HI0.out | apply IsS75.alloc | apply IsS75.drewN | apply IsS75.drew | apply IsS75.set_0 | apply IsS75.set_1) | exact HI0.out)); (case side2 => repeat (first | (with_reducible first | exact HB.out | apply below_alloc | apply pw_below_drewN | apply below_drew1 | refine below_set ?_ (IsS75.ge HI0.out)) | exact HB.out)); rintro e w25 ⟨rfl, hi, hb, hk⟩; refine ⟨_, rfl, ?_⟩; have n0_ := Aside0.mk (KeepBut.trans (by repeat (first | (with_reducible first | exact HK.out | apply KeepBut.set_ | apply keep_drewN | apply keep_drew | apply keep_alloc) | exact HK.out)) hk (.inl rfl)); have n1_ := Aside0.mk (hb); have n2_ := Aside0.mk (hi); clear HK; clear HB; clear HI0; have HK := n0_; have HB := n1_; have HI0 := n2_; clear n0_ n1_ n2_; (try clear hb); (try clear hb2); (try clear hk); (try clear hi)) | (go_at_call 46; (with_reducible refine (spec_reader_take.calls g t123 t124 69 t125 t126 t127 w0 _ ?side1 ?side2 A24.out).mono ?_); (case side1 => repeat (first | (with_reducible first | exact HI0.out | apply IsS75.alloc | apply IsS75.drewN | apply IsS75.drew | apply IsS75.set_0 | apply IsS75.set_1) | exact HI0.out)); (case side2 => repeat (first | (with_reducible first | exact HB.out | apply below_alloc | apply pw_below_drewN | apply below_drew1 | refine below_set ?_ (IsS75.ge HI0.out)) | exact HB.out)); rintro e w26 ⟨rfl, hi, hb, hk⟩; have n0_ := Aside0.mk (KeepBut.trans (by repeat (first | (with_reducible first | exact HK.out | apply KeepBut.set_ | apply keep_drewN | apply keep_drew | apply keep_alloc) | exact HK.out)) hk (.inl rfl)); have n1_ := Aside0.mk (hb); have n2_ := Aside0.mk (hi); clear HK; clear HB; clear HI0; have HK := n0_; have HB := n1_; have HI0 := n2_; clear n0_ n1_ n2_; (try clear hb); (try clear hb2); (try clear hk); (try clear hi)))
                  go_meet
                  case rel => exact ⟨_, (t125), (t126), (t127), (by first | rfl | (simp; done) | (simp [*]; done)), H', ⟨by have := HJ2.out; have := HJ11.out; first | omega | exact Nat.le_refl _⟩, ⟨by repeat (first | (with_reducible first | exact HI0.out | apply IsS75.alloc | apply IsS75.drewN | apply IsS75.drew | apply IsS75.set_0 | apply IsS75.set_1) | exact HI0.out)⟩, ⟨by repeat (first | (with_reducible first | exact HK.out | apply KeepBut.set_ | apply keep_drewN | apply keep_drew | apply keep_alloc) | exact HK.out)⟩, ⟨by repeat (first | (with_reducible first | exact HB.out | apply below_alloc | apply pw_below_drewN | apply below_drew1 | refine below_set ?_ (IsS75.ge HI0.out)) | exact HB.out)⟩⟩
              case rest =>
                clear HC20
                try clear c1
                try clear c2
                try clear p2
                try clear c4
                try clear c6
                try clear c11
                try clear c14
                try clear c19
                try clear c22
                try clear p2
                obtain ⟨kq, x25_19, x1000_19, x1001_19, rfl, HA, HJ19, HI0, HK, HB⟩ := hcut
                cases kq with
                | zero => exact absurd HA.out (by simp [spec_reader_number.j2])
                | succ kj19 =>
                  have H := HA.out
                  clear HA
                  simp only [spec_reader_number.j2] at H
                  by_cases c27 : x25_19 = true
                  · subst c27
                    rw [if_pos rfl] at H
                    replace H := Option.bind_eq_some_iff.mp H
                    obtain ⟨⟨t128, t129, t130⟩, A280, H⟩ := H
                    replace H : (if t128 = true then ((spec_reader_digits.f kj19 t129 t130).bind fun bt131 => (some (bt131.1, bt131.2.1, bt131.2.2))) else ((spec_reader_take.f t129 t130 45).bind fun bt134 => ((spec_reader_digits.f kj19 bt134.2.1 bt134.2.2).bind fun bt137 => (some (bt137.1, bt137.2.1, bt137.2.2))))) = some (r1, r2, r3) := H
                    have A28 := Aside0.mk A280
                    clear A280
                    have HC29 := Aside0.mk H
                    clear H
                    go_upto_if 28 with (first | ((with_reducible refine gate_callee (f := 46) rfl ?_); refine goesL_ (some 27) rfl rfl Tryz.func46 (by kernel_rfl) rfl #[.pointer (some ⟨g, 0, none⟩), .int .u8 43] rfl (by (try simp only [List.map_toArray, List.map_cons, List.map_nil]); first | done | rfl | (simp only [List.length_drop, List.length_take]; rfl) | (simp only [ByteArray.size_append, Int.natCast_add]; first | done | rfl) | (go_simp; first | done | (simp [ByteArray.size_append, ByteArray.size_extract]; done))) ?_; (with_reducible refine (spec_reader_take.calls g x1000_19 x1001_19 43 t128 t129 t130 w0 _ ?side1 ?side2 A28.out).mono ?_); (case side1 => repeat (first | (with_reducible first | exact HI0.out | apply IsS75.alloc | apply IsS75.drewN | apply IsS75.drew | apply IsS75.set_0 | apply IsS75.set_1) | exact HI0.out)); (case side2 => repeat (first | (with_reducible first | exact HB.out | apply below_alloc | apply pw_below_drewN | apply below_drew1 | refine below_set ?_ (IsS75.ge HI0.out)) | exact HB.out)); rintro e w30 ⟨rfl, hi, hb, hk⟩; refine ⟨_, rfl, ?_⟩; have n0_ := Aside0.mk (KeepBut.trans (by repeat (first | (with_reducible first | exact HK.out | apply KeepBut.set_ | apply keep_drewN | apply keep_drew | apply keep_alloc) | exact HK.out)) hk (.inl rfl)); have n1_ := Aside0.mk (hb); have n2_ := Aside0.mk (hi); clear HK; clear HB; clear HI0; have HK := n0_; have HB := n1_; have HI0 := n2_; clear n0_ n1_ n2_; (try clear hb); (try clear hb2); (try clear hk); (try clear hi)))
                    (try simp only [Act.put, List.setIfInBounds_toArray, List.set_cons_zero, List.set_cons_succ])
                    have H := HC29.out
                    clear HC29
                    by_cases c31 : t128 = true
                    · subst c31
                      rw [if_pos rfl] at H
                      replace H := Option.bind_eq_some_iff.mp H
                      obtain ⟨⟨t131, t132, t133⟩, A320, H⟩ := H
                      replace H : (some (t131, t132, t133)) = some (r1, r2, r3) := H
                      have A32 := Aside0.mk A320
                      clear A320
                      simp only [Option.some.injEq, Prod.mk.injEq] at H
                      obtain ⟨rfl, rfl, rfl⟩ := H
                      go_wp2_with (first | ((with_reducible refine gate_callee (f := 47) rfl ?_); refine goesL_ (some 32) rfl rfl Tryz.func47 (by kernel_rfl) rfl #[.pointer (some ⟨g, 0, none⟩)] rfl (by (try simp only [List.map_toArray, List.map_cons, List.map_nil]); first | done | rfl | (simp only [List.length_drop, List.length_take]; rfl) | (simp only [ByteArray.size_append, Int.natCast_add]; first | done | rfl) | (go_simp; first | done | (simp [ByteArray.size_append, ByteArray.size_extract]; done))) ?_; (with_reducible refine (spec_reader_digits.calls kj19 g t129 t130 t131 t132 t133 w0 _ ?side1 ?side2 A32.out).mono ?_); (case side1 => repeat (first | (with_reducible first | exact HI0.out | apply IsS75.alloc | apply IsS75.drewN | apply IsS75.drew | apply IsS75.set_0 | apply IsS75.set_1) | exact HI0.out)); (case side2 => repeat (first | (with_reducible first | exact HB.out | apply below_alloc | apply pw_below_drewN | apply below_drew1 | refine below_set ?_ (IsS75.ge HI0.out)) | exact HB.out)); rintro e w33 ⟨rfl, hi, hb, hk⟩; refine ⟨_, rfl, ?_⟩; have n0_ := Aside0.mk (KeepBut.trans (by repeat (first | (with_reducible first | exact HK.out | apply KeepBut.set_ | apply keep_drewN | apply keep_drew | apply keep_alloc) | exact HK.out)) hk (.inl rfl)); have n1_ := Aside0.mk (hb); have n2_ := Aside0.mk (hi); clear HK; clear HB; clear HI0; have HK := n0_; have HB := n1_; have HI0 := n2_; clear n0_ n1_ n2_; (try clear hb); (try clear hb2); (try clear hk); (try clear hi)))
                      go_ret
                      exact ⟨by first | rfl | (simp [errW_none, errW_some] <;> rfl) | (simp [*, errW_none, errW_some] <;> rfl), by repeat (first | (with_reducible first | exact HI0.out | apply IsS75.alloc | apply IsS75.drewN | apply IsS75.drew | apply IsS75.set_0 | apply IsS75.set_1) | exact HI0.out), by repeat (first | (with_reducible first | exact HB.out | apply below_alloc | apply pw_below_drewN | apply below_drew1 | refine below_set ?_ (IsS75.ge HI0.out)) | exact HB.out), by repeat (first | (with_reducible first | exact HK.out | apply KeepBut.set_ | apply keep_drewN | apply keep_drew | apply keep_alloc) | exact HK.out)⟩
                    · replace c31 := Bool.eq_false_iff.mpr c31
                      subst c31
                      rw [if_neg (show ¬ (false = true) by decide)] at H
                      replace H := Option.bind_eq_some_iff.mp H
                      obtain ⟨⟨t134, t135, t136⟩, A340, H⟩ := H
                      replace H : ((spec_reader_digits.f kj19 t135 t136).bind fun bt137 => (some (bt137.1, bt137.2.1, bt137.2.2))) = some (r1, r2, r3) := H
                      have A34 := Aside0.mk A340
                      clear A340
                      replace H := Option.bind_eq_some_iff.mp H
                      obtain ⟨⟨t137, t138, t139⟩, A350, H⟩ := H
                      replace H : (some (t137, t138, t139)) = some (r1, r2, r3) := H
                      have A35 := Aside0.mk A350
                      clear A350
                      simp only [Option.some.injEq, Prod.mk.injEq] at H
                      obtain ⟨rfl, rfl, rfl⟩ := H
                      go_wp2_with (first | ((with_reducible refine gate_callee (f := 46) rfl ?_); refine goesL_ (some 30) rfl rfl Tryz.func46 (by kernel_rfl) rfl #[.pointer (some ⟨g, 0, none⟩), .int .u8 45] rfl (by (try simp only [List.map_toArray, List.map_cons, List.map_nil]); first | done | rfl | (simp only [List.length_drop, List.length_take]; rfl) | (simp only [ByteArray.size_append, Int.natCast_add]; first | done | rfl) | (go_simp; first | done | (simp [ByteArray.size_append, ByteArray.size_extract]; done))) ?_; (with_reducible refine (spec_reader_take.calls g t129 t130 45 t134 t135 t136 w0 _ ?side1 ?side2 A34.out).mono ?_); (case side1 => repeat (first | (with_reducible first | exact HI0.out | apply IsS75.alloc | apply IsS75.drewN | apply IsS75.drew | apply IsS75.set_0 | apply IsS75.set_1) | exact HI0.out)); (case side2 => repeat (first | (with_reducible first | exact HB.out | apply below_alloc | apply pw_below_drewN | apply below_drew1 | refine below_set ?_ (IsS75.ge HI0.out)) | exact HB.out)); rintro e w36 ⟨rfl, hi, hb, hk⟩; refine ⟨_, rfl, ?_⟩; have n0_ := Aside0.mk (KeepBut.trans (by repeat (first | (with_reducible first | exact HK.out | apply KeepBut.set_ | apply keep_drewN | apply keep_drew | apply keep_alloc) | exact HK.out)) hk (.inl rfl)); have n1_ := Aside0.mk (hb); have n2_ := Aside0.mk (hi); clear HK; clear HB; clear HI0; have HK := n0_; have HB := n1_; have HI0 := n2_; clear n0_ n1_ n2_; (try clear hb); (try clear hb2); (try clear hk); (try clear hi)) | ((with_reducible refine gate_callee (f := 47) rfl ?_); refine goesL_ (some 32) rfl rfl Tryz.func47 (by kernel_rfl) rfl #[.pointer (some ⟨g, 0, none⟩)] rfl (by (try simp only [List.map_toArray, List.map_cons, List.map_nil]); first | done | rfl | (simp only [List.length_drop, List.length_take]; rfl) | (simp only [ByteArray.size_append, Int.natCast_add]; first | done | rfl) | (go_simp; first | done | (simp [ByteArray.size_append, ByteArray.size_extract]; done))) ?_; (with_reducible refine (spec_reader_digits.calls kj19 g t135 t136 t137 t138 t139 w0 _ ?side1 ?side2 A35.out).mono ?_); (case side1 => repeat (first | (with_reducible first | exact HI0.out | apply IsS75.alloc | apply IsS75.drewN | apply IsS75.drew | apply IsS75.set_0 | apply IsS75.set_1) | exact HI0.out)); (case side2 => repeat (first | (with_reducible first | exact HB.out | apply below_alloc | apply pw_below_drewN | apply below_drew1 | refine below_set ?_ (IsS75.ge HI0.out)) | exact HB.out)); rintro e w37 ⟨rfl, hi, hb, hk⟩; refine ⟨_, rfl, ?_⟩; have n0_ := Aside0.mk (KeepBut.trans (by repeat (first | (with_reducible first | exact HK.out | apply KeepBut.set_ | apply keep_drewN | apply keep_drew | apply keep_alloc) | exact HK.out)) hk (.inl rfl)); have n1_ := Aside0.mk (hb); have n2_ := Aside0.mk (hi); clear HK; clear HB; clear HI0; have HK := n0_; have HB := n1_; have HI0 := n2_; clear n0_ n1_ n2_; (try clear hb); (try clear hb2); (try clear hk); (try clear hi)))
                      go_ret
                      exact ⟨by first | rfl | (simp [errW_none, errW_some] <;> rfl) | (simp [*, errW_none, errW_some] <;> rfl), by repeat (first | (with_reducible first | exact HI0.out | apply IsS75.alloc | apply IsS75.drewN | apply IsS75.drew | apply IsS75.set_0 | apply IsS75.set_1) | exact HI0.out), by repeat (first | (with_reducible first | exact HB.out | apply below_alloc | apply pw_below_drewN | apply below_drew1 | refine below_set ?_ (IsS75.ge HI0.out)) | exact HB.out), by repeat (first | (with_reducible first | exact HK.out | apply KeepBut.set_ | apply keep_drewN | apply keep_drew | apply keep_alloc) | exact HK.out)⟩
                  · replace c27 := Bool.eq_false_iff.mpr c27
                    subst c27
                    rw [if_neg (show ¬ (false = true) by decide)] at H
                    simp only [Option.some.injEq, Prod.mk.injEq] at H
                    obtain ⟨rfl, rfl, rfl⟩ := H
                    go_wp2
                    go_ret
                    exact ⟨by first | rfl | (simp [errW_none, errW_some] <;> rfl) | (simp [*, errW_none, errW_some] <;> rfl), by repeat (first | (with_reducible first | exact HI0.out | apply IsS75.alloc | apply IsS75.drewN | apply IsS75.drew | apply IsS75.set_0 | apply IsS75.set_1) | exact HI0.out), by repeat (first | (with_reducible first | exact HB.out | apply below_alloc | apply pw_below_drewN | apply below_drew1 | refine below_set ?_ (IsS75.ge HI0.out)) | exact HB.out), by repeat (first | (with_reducible first | exact HK.out | apply KeepBut.set_ | apply keep_drewN | apply keep_drew | apply keep_alloc) | exact HK.out)⟩
def spec_IsNumber.f (k : Nat) (a0 : ByteArray) : Option (Bool) := (spec_reader_number.f k a0 0).bind fun bt141 => (if bt141.1 = true then (some (bt141.2.2 == (a0.size : Int))) else (some false))
set_option maxHeartbeats 8000000 in
set_option maxRecDepth 100000 in
theorem spec_IsNumber.calls (k : Nat) (a0 : ByteArray) (r : Bool) (w : World) (h : spec_IsNumber.f k a0 = some r) :
    Calls Tryz.prog 16 #[.string a0] w fun e w' => e = .returned (.bool r) ∧ Below w.heap.size w w' := by
  have hu75 := Tryz.underlying75
  have HB := Aside0.mk (Below.refl w.heap.size w)
  have H : ((spec_reader_number.f k a0 0).bind fun bt141 => (if bt141.1 = true then (some (bt141.2.2 == (a0.size : Int))) else (some false))) = some r := h
  clear h
  replace H := Option.bind_eq_some_iff.mp H
  obtain ⟨⟨t141, t142, t143⟩, A20, H⟩ := H
  replace H : (if t141 = true then (some (t143 == (a0.size : Int))) else (some false)) = some r := H
  have A2 := Aside0.mk A20
  clear A20
  by_cases c3 : t141 = true
  · subst c3
    rw [if_pos rfl] at H
    obtain rfl := Option.some.inj H
    go_enter Tryz.func16, Tryz.ntmps16
    go_wp2_with (first | ((with_reducible refine gate_dst (N := 3) rfl ?_); (try (refine gate_guard (by rfl) ?_; dsimp only)); refine box_event ?hg (N := 3) ?hd (cs := #[.string (⟨#[]⟩ : ByteArray), .int .i64 0]) (t := 75) ?hr ?_; (case hd => rfl); (case hg => rfl); (case hr => first | (go_simp; done) | (go_simp; rfl)); intro gb140 hg w4 hbox hb; have n0_ := Aside0.mk (below_step (by repeat (first | (with_reducible first | exact HB.out | apply below_alloc | apply pw_below_drewN | apply below_drew1) | exact HB.out)) hb); have n1_ := Aside0.mk (hbox); have n2_ := Aside0.mk ((by rw [hg]; exact (below_size (by repeat (first | (with_reducible first | exact HB.out | apply below_alloc | apply pw_below_drewN | apply below_drew1) | exact HB.out))) : w.heap.size ≤ gb140)); have n3_ := Aside0.mk ((by rw [hg]; exact (below_size (by repeat (first | (with_reducible first | exact HB.out | apply below_alloc | apply pw_below_drewN | apply below_drew1) | exact HB.out))) : w.heap.size ≤ gb140)); clear HB; have HB := n0_; have BK140 := n1_; have GW140 := n2_; have GE140 := n3_; clear n0_ n1_ n2_ n3_; clear hb hbox hg; have hcz5_0 : w4.cell? ⟨gb140, 0, none⟩ = some (.string (⟨#[]⟩ : ByteArray)) := (blk_cell BK140.out 0).trans rfl; have hcz5_1 : w4.cell? ⟨gb140, 1, none⟩ = some (.int .i64 0) := (blk_cell BK140.out 1).trans rfl; have hfz5_0 := blk_frozen BK140.out 0; have hfz5_1 := blk_frozen BK140.out 1) | ((with_reducible refine gate_callee (f := 28) rfl ?_); have n0_ : Aside0 (((w4.setCell ⟨gb140, 0, none⟩ (.string a0)).setCell ⟨gb140, 1, none⟩ (.int .i64 0)).heap[gb140]? = some (.cells #[.string a0, .int .i64 0] 75 (0, 0))) := ⟨by (with_reducible repeat (first | refine blk_drewN ?_ _ | refine blk_drew ?_ | refine blk_alloc ?_ _)); refine blk_put (cs := #[.string a0, .int .i64 0]) ?_ 1 _ rfl; (with_reducible repeat (first | refine blk_drewN ?_ _ | refine blk_drew ?_ | refine blk_alloc ?_ _)); refine blk_put (cs := #[.string (⟨#[]⟩ : ByteArray), .int .i64 0]) ?_ 0 _ rfl; (with_reducible repeat (first | refine blk_drewN ?_ _ | refine blk_drew ?_ | refine blk_alloc ?_ _)); exact BK140.out⟩; have n1_ : Aside0 (Below w.heap.size w ((w4.setCell ⟨gb140, 0, none⟩ (.string a0)).setCell ⟨gb140, 1, none⟩ (.int .i64 0))) := ⟨by repeat (first | (with_reducible first | exact HB.out | apply below_alloc | apply pw_below_drewN | apply below_drew1 | refine below_set ?_ GE140.out) | exact HB.out)⟩; (try clear BK140); (try clear HB); generalize ((w4.setCell ⟨gb140, 0, none⟩ (.string a0)).setCell ⟨gb140, 1, none⟩ (.int .i64 0)) = w6 at n0_ n1_ ⊢; have BK140 := n0_; have HB := n1_; clear n0_ n1_; have HI140 := Aside0.mk (show IsS75 w w6 gb140 a0 0 from ⟨BK140.out, GE140.out⟩); clear BK140; (with_reducible refine gate_callee (f := 28) rfl ?_); refine goesL_ (some 6) rfl rfl Tryz.func28 (by kernel_rfl) rfl #[.pointer (some ⟨gb140, 0, none⟩)] rfl (by (try simp only [List.map_toArray, List.map_cons, List.map_nil]); first | done | rfl | (simp only [List.length_drop, List.length_take]; rfl) | (simp only [ByteArray.size_append, Int.natCast_add]; first | done | rfl) | (go_simp; first | done | (simp [ByteArray.size_append, ByteArray.size_extract]; done))) ?_; (with_reducible refine (spec_reader_number.calls k gb140 a0 0 true t142 t143 w _ ?side1 ?side2 A2.out).mono ?_); (case side1 => repeat (first | (with_reducible first | exact HI140.out | apply IsS75.alloc | apply IsS75.drewN | apply IsS75.drew | apply IsS75.set_0 | apply IsS75.set_1) | exact HI140.out)); (case side2 => repeat (first | (with_reducible first | exact HB.out | apply below_alloc | apply pw_below_drewN | apply below_drew1 | refine below_set ?_ (IsS75.ge HI140.out)) | exact HB.out)); rintro e w7 ⟨rfl, hi, hb, hk⟩; refine ⟨_, rfl, ?_⟩; have n0_ := Aside0.mk (hb); have n1_ := Aside0.mk (hi); clear HB; clear HI140; have HB := n0_; have HI140 := n1_; clear n0_ n1_; (try clear hb); (try clear hb2); (try clear hk); (try clear hi); obtain ⟨HGz8, hgz8⟩ := HI140.out; have hcz8_0 := cellS75_0 HGz8; have hcz8_1 := cellS75_1 HGz8; have hfz8_0 := blk_frozen HGz8 0; have hfz8_1 := blk_frozen HGz8 1; clear HGz8 hgz8))
    go_ret
    exact ⟨by first | rfl | (simp [errW_none, errW_some] <;> rfl) | (simp [*, errW_none, errW_some] <;> rfl), by repeat (first | (with_reducible first | exact HB.out | apply below_alloc | apply pw_below_drewN | apply below_drew1 | refine below_set ?_ (IsS75.ge HI140.out)) | exact HB.out)⟩
  · replace c3 := Bool.eq_false_iff.mpr c3
    subst c3
    rw [if_neg (show ¬ (false = true) by decide)] at H
    obtain rfl := Option.some.inj H
    go_enter Tryz.func16, Tryz.ntmps16
    go_wp2_with (first | ((with_reducible refine gate_dst (N := 3) rfl ?_); (try (refine gate_guard (by rfl) ?_; dsimp only)); refine box_event ?hg (N := 3) ?hd (cs := #[.string (⟨#[]⟩ : ByteArray), .int .i64 0]) (t := 75) ?hr ?_; (case hd => rfl); (case hg => rfl); (case hr => first | (go_simp; done) | (go_simp; rfl)); intro gb140 hg w9 hbox hb; have n0_ := Aside0.mk (below_step (by repeat (first | (with_reducible first | exact HB.out | apply below_alloc | apply pw_below_drewN | apply below_drew1) | exact HB.out)) hb); have n1_ := Aside0.mk (hbox); have n2_ := Aside0.mk ((by rw [hg]; exact (below_size (by repeat (first | (with_reducible first | exact HB.out | apply below_alloc | apply pw_below_drewN | apply below_drew1) | exact HB.out))) : w.heap.size ≤ gb140)); have n3_ := Aside0.mk ((by rw [hg]; exact (below_size (by repeat (first | (with_reducible first | exact HB.out | apply below_alloc | apply pw_below_drewN | apply below_drew1) | exact HB.out))) : w.heap.size ≤ gb140)); clear HB; have HB := n0_; have BK140 := n1_; have GW140 := n2_; have GE140 := n3_; clear n0_ n1_ n2_ n3_; clear hb hbox hg; have hcz10_0 : w9.cell? ⟨gb140, 0, none⟩ = some (.string (⟨#[]⟩ : ByteArray)) := (blk_cell BK140.out 0).trans rfl; have hcz10_1 : w9.cell? ⟨gb140, 1, none⟩ = some (.int .i64 0) := (blk_cell BK140.out 1).trans rfl; have hfz10_0 := blk_frozen BK140.out 0; have hfz10_1 := blk_frozen BK140.out 1) | ((with_reducible refine gate_callee (f := 28) rfl ?_); have n0_ : Aside0 (((w9.setCell ⟨gb140, 0, none⟩ (.string a0)).setCell ⟨gb140, 1, none⟩ (.int .i64 0)).heap[gb140]? = some (.cells #[.string a0, .int .i64 0] 75 (0, 0))) := ⟨by (with_reducible repeat (first | refine blk_drewN ?_ _ | refine blk_drew ?_ | refine blk_alloc ?_ _)); refine blk_put (cs := #[.string a0, .int .i64 0]) ?_ 1 _ rfl; (with_reducible repeat (first | refine blk_drewN ?_ _ | refine blk_drew ?_ | refine blk_alloc ?_ _)); refine blk_put (cs := #[.string (⟨#[]⟩ : ByteArray), .int .i64 0]) ?_ 0 _ rfl; (with_reducible repeat (first | refine blk_drewN ?_ _ | refine blk_drew ?_ | refine blk_alloc ?_ _)); exact BK140.out⟩; have n1_ : Aside0 (Below w.heap.size w ((w9.setCell ⟨gb140, 0, none⟩ (.string a0)).setCell ⟨gb140, 1, none⟩ (.int .i64 0))) := ⟨by repeat (first | (with_reducible first | exact HB.out | apply below_alloc | apply pw_below_drewN | apply below_drew1 | refine below_set ?_ GE140.out) | exact HB.out)⟩; (try clear BK140); (try clear HB); generalize ((w9.setCell ⟨gb140, 0, none⟩ (.string a0)).setCell ⟨gb140, 1, none⟩ (.int .i64 0)) = w11 at n0_ n1_ ⊢; have BK140 := n0_; have HB := n1_; clear n0_ n1_; have HI140 := Aside0.mk (show IsS75 w w11 gb140 a0 0 from ⟨BK140.out, GE140.out⟩); clear BK140; (with_reducible refine gate_callee (f := 28) rfl ?_); refine goesL_ (some 6) rfl rfl Tryz.func28 (by kernel_rfl) rfl #[.pointer (some ⟨gb140, 0, none⟩)] rfl (by (try simp only [List.map_toArray, List.map_cons, List.map_nil]); first | done | rfl | (simp only [List.length_drop, List.length_take]; rfl) | (simp only [ByteArray.size_append, Int.natCast_add]; first | done | rfl) | (go_simp; first | done | (simp [ByteArray.size_append, ByteArray.size_extract]; done))) ?_; (with_reducible refine (spec_reader_number.calls k gb140 a0 0 false t142 t143 w _ ?side1 ?side2 A2.out).mono ?_); (case side1 => repeat (first | (with_reducible first | exact HI140.out | apply IsS75.alloc | apply IsS75.drewN | apply IsS75.drew | apply IsS75.set_0 | apply IsS75.set_1) | exact HI140.out)); (case side2 => repeat (first | (with_reducible first | exact HB.out | apply below_alloc | apply pw_below_drewN | apply below_drew1 | refine below_set ?_ (IsS75.ge HI140.out)) | exact HB.out)); rintro e w12 ⟨rfl, hi, hb, hk⟩; refine ⟨_, rfl, ?_⟩; have n0_ := Aside0.mk (hb); have n1_ := Aside0.mk (hi); clear HB; clear HI140; have HB := n0_; have HI140 := n1_; clear n0_ n1_; (try clear hb); (try clear hb2); (try clear hk); (try clear hi)))
    go_ret
    exact ⟨by first | rfl | (simp [errW_none, errW_some] <;> rfl) | (simp [*, errW_none, errW_some] <;> rfl), by repeat (first | (with_reducible first | exact HB.out | apply below_alloc | apply pw_below_drewN | apply below_drew1 | refine below_set ?_ (IsS75.ge HI140.out)) | exact HB.out)⟩
end Go.Proofs.YtjemobfhlfejlaaGreatDoor.PFnFjFloatNear
