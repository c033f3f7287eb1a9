/- Functions of the reference, printed out of the translation and walked. No condition but what each lemma states. -/
import Derived.Test.YtjemobfhlfejlaaGreatDoorFx0
import Derived.Test.YtjemobfhlfejlaaGreatDoorFx1
import Derived.Test.YtjemobfhlfejlaaGreatDoorFx2
import Derived.Test.YtjemobfhlfejlaaGreatDoorFx3
set_option linter.unusedVariables false
set_option linter.unusedSimpArgs false
namespace Go.Proofs.YtjemobfhlfejlaaGreatDoor.PFnFjFloatNear
open Go.RowKit Go.Proofs.YtjemobfhlfejlaaGreatDoorW.PrintWords Go.Proofs.YtjemobfhlfejlaaGreatDoorW.PrintLast Go.Proofs.YtjemobfhlfejlaaGreatDoorW.PrintMore
attribute [local go_sem] max2_int min2_int max_two min_two max_three min_three max_four min_four
mutual
def spec_Value.j0 : Nat → ByteArray → Int → Bool → ByteArray → Int → Option (Bool × ByteArray × Int × Bool)
  | 0, _, _, _, _, _ => none
  | k + 1, x0, x5, x159000, x159001, x159002 => spec_Value.l0 k x0 x5 ([] : List Int) 0 false x159000 x159001 x159002
def spec_Value.l0 : Nat → ByteArray → Int → List Int → Int → Bool → Bool → ByteArray → Int → Option (Bool × ByteArray × Int × Bool)
  | 0, _, _, _, _, _, _, _, _ => none
  | k + 1, x0, x5, x6, x7, x8, x159000, x159001, x159002 => if x5 < (x0.size : Int) then (if 0 ≤ x5 then (if (bt x0 x5) = 101 then (spec_Value.j2 k x0 x5 x6 x7 x8 false x159000 x159001 x159002) else (spec_Value.j2 k x0 x5 x6 x7 x8 ((bt x0 x5) != 69) x159000 x159001 x159002)) else (none)) else (spec_Value.j2 k x0 x5 x6 x7 x8 false x159000 x159001 x159002)
def spec_Value.j2 : Nat → ByteArray → Int → List Int → Int → Bool → Bool → Bool → ByteArray → Int → Option (Bool × ByteArray × Int × Bool)
  | 0, _, _, _, _, _, _, _, _, _ => none
  | k + 1, x0, x5, x6, x7, x8, x35, x159000, x159001, x159002 => if x35 = true then (if 0 ≤ x5 then (if x5 < (x0.size : Int) then (if (bt x0 x5) = 46 then (spec_Value.l0 k x0 (wrap64 (x5 + 1)) x6 x7 true x159000 x159001 x159002) else (if x6.length < 140737488355328 then ((some (x6 ++ [bt x0 x5] : List Int)).bind fun y159 => (if x8 = true then (spec_Value.l0 k x0 (wrap64 (x5 + 1)) y159 (wrap64 (x7 - 1)) x8 x159000 x159001 x159002) else (spec_Value.l0 k x0 (wrap64 (x5 + 1)) y159 x7 x8 x159000 x159001 x159002))) else (none))) else (none)) else (none)) else (if x5 < (x0.size : Int) then (if 0 ≤ (wrap64 (x5 + 1)) then (if (wrap64 (x5 + 1)) ≤ (x0.size : Int) then ((spec_signed.f k (x0.extract ((wrap64 (x5 + 1)) : Int).toNat x0.size)).bind fun bt162 => (if bt162.2 = true then ((spec_bare.f k x6 (wrap64 (x7 + bt162.1))).bind fun bt164 => (some (x159000, bt164.1, bt164.2, true))) else (some (false, (⟨#[]⟩ : ByteArray), 0, false)))) else (none)) else (none)) else ((spec_bare.f k x6 x7).bind fun bt166 => (some (x159000, bt166.1, bt166.2, true))))
end
def spec_Value.f (k : Nat) (a0 : ByteArray) : Option (Bool × ByteArray × Int × Bool) := (spec_IsNumber.f k a0).bind fun t157 => (if t157 = true then (if 0 < (a0.size : Int) then (if (bt a0 0) = 45 then (spec_Value.j0 k a0 1 true (⟨#[]⟩ : ByteArray) 0) else (spec_Value.j0 k a0 0 false (⟨#[]⟩ : ByteArray) 0)) else (none)) else (some (false, (⟨#[]⟩ : ByteArray), 0, false)))
set_option maxHeartbeats 8000000 in
set_option maxRecDepth 100000 in
theorem spec_Value.calls (k : Nat) (a0 : ByteArray) (r1 : Bool) (r2 : ByteArray) (r3 : Int) (r4 : Bool) (w : World) (h : spec_Value.f k a0 = some (r1, r2, r3, r4)) :
    Calls Tryz.prog 9 #[.string a0] w fun e w' => e = .returned (.tuple #[.agg #[.bool r1, .string r2, .int .i64 r3], .bool r4]) ∧ Below w.heap.size w w' := by
  have hu30 := Tryz.underlying30
  have HB := Aside0.mk (Below.refl w.heap.size w)
  have H : ((spec_IsNumber.f k a0).bind fun t157 => (if t157 = true then (if 0 < (a0.size : Int) then (if (bt a0 0) = 45 then (spec_Value.j0 k a0 1 true (⟨#[]⟩ : ByteArray) 0) else (spec_Value.j0 k a0 0 false (⟨#[]⟩ : ByteArray) 0)) else (none)) else (some (false, (⟨#[]⟩ : ByteArray), 0, false)))) = some (r1, r2, r3, r4) := h
  clear h
  replace H := Option.bind_eq_some_iff.mp H
  obtain ⟨t157, A20, H⟩ := H
  replace H : (if t157 = true then (if 0 < (a0.size : Int) then (if (bt a0 0) = 45 then (spec_Value.j0 k a0 1 true (⟨#[]⟩ : ByteArray) 0) else (spec_Value.j0 k a0 0 false (⟨#[]⟩ : ByteArray) 0)) else (none)) else (some (false, (⟨#[]⟩ : ByteArray), 0, false))) = some (r1, r2, r3, r4) := H
  have A2 := Aside0.mk A20
  clear A20
  have HC3 := Aside0.mk H
  clear H
  go_enter Tryz.func9, Tryz.ntmps9
  go_upto_if 13 with (first | ((with_reducible refine gate_dst (N := 2) rfl ?_); refine box_event ?hg (N := 2) ?hd (cs := #[.bool false, .string (⟨#[]⟩ : ByteArray), .int .i64 0]) (t := 30) ?hr ?_; (case hd => rfl); (case hg => rfl); (case hr => first | (go_simp; done) | (go_simp; rfl)); intro gb156 hg w4 hbox hb; have n0_ := Aside0.mk (below_step (by repeat (first | (with_reducible first | exact HB.out | apply below_alloc | apply pw_below_drewN | apply below_drew1) | exact HB.out)) hb); have n1_ := Aside0.mk (hbox); have n2_ := Aside0.mk ((by rw [hg]; exact (below_size (by repeat (first | (with_reducible first | exact HB.out | apply below_alloc | apply pw_below_drewN | apply below_drew1) | exact HB.out))) : w.heap.size ≤ gb156)); have n3_ := Aside0.mk ((by rw [hg]; exact (below_size (by repeat (first | (with_reducible first | exact HB.out | apply below_alloc | apply pw_below_drewN | apply below_drew1) | exact HB.out))) : w.heap.size ≤ gb156)); clear HB; have HB := n0_; have BK156 := n1_; have GW156 := n2_; have GE156 := n3_; clear n0_ n1_ n2_ n3_; clear hb hbox hg) | ((with_reducible refine gate_callee (f := 16) rfl ?_); refine goesL_ (some 12) rfl rfl Tryz.func16 (by kernel_rfl) rfl #[.string a0] rfl (by (try simp only [List.map_toArray, List.map_cons, List.map_nil]); first | done | rfl | (simp only [List.length_drop, List.length_take]; rfl) | (simp only [ByteArray.size_append, Int.natCast_add]; first | done | rfl) | (go_simp; first | done | (simp [ByteArray.size_append, ByteArray.size_extract]; done))) ?_; (with_reducible refine (spec_IsNumber.calls k a0 t157 _ A2.out).mono ?_); rintro e w5 ⟨rfl, hb⟩; refine ⟨_, rfl, ?_⟩; have n0_ := Aside0.mk (blk_below (g := gb156) (o := .cells #[.bool false, .string (⟨#[]⟩ : ByteArray), .int .i64 0] 30 (0, 0)) (by (with_reducible repeat (first | refine blk_drewN ?_ _ | refine blk_drew ?_ | refine blk_alloc ?_ _)); exact BK156.out) hb); have n1_ := Aside0.mk (below_step (by repeat (first | (with_reducible first | exact HB.out | apply below_alloc | apply pw_below_drewN | apply below_drew1 | refine below_set ?_ GE156.out) | exact HB.out)) hb); clear BK156; clear HB; have BK156 := n0_; have HB := n1_; clear n0_ n1_; (try clear hb); (try clear hb2); (try clear hk); (try clear hi)))
  (try simp only [Act.put, List.setIfInBounds_toArray, List.set_cons_zero, List.set_cons_succ])
  have H := HC3.out
  clear HC3
  by_cases c6 : t157 = true
  · subst c6
    rw [if_pos rfl] at H
    by_cases c7 : 0 < (a0.size : Int)
    · rw [if_pos c7] at H
      have c7b0 : decide (0 < (a0.size : Int)) = true := decide_eq_true c7
      have c7b1 : decide (0 < a0.size) = true := decide_eq_true (by omega)
      clear c7
      (first | rw [c7b0] | (simp only [i64_w, i32_w]; rw [c7b0]) | skip)
      have HC9 := Aside0.mk H
      clear H
      go_upto_if 18 with (first | ((with_reducible refine gate_dst (N := 4) rfl ?_); refine box_event ?hg (N := 4) ?hd (cs := #[.bool false, .string (⟨#[]⟩ : ByteArray), .int .i64 0]) (t := 30) ?hr ?_; (case hd => rfl); (case hg => rfl); (case hr => first | (go_simp; done) | (go_simp; rfl)); intro gb158 hg w10 hbox hb; have n0_ := Aside0.mk (blk_below (g := gb156) (o := .cells #[.bool false, .string (⟨#[]⟩ : ByteArray), .int .i64 0] 30 (0, 0)) (by (with_reducible repeat (first | refine blk_drewN ?_ _ | refine blk_drew ?_ | refine blk_alloc ?_ _)); exact BK156.out) hb); have n1_ := Aside0.mk (below_step (by repeat (first | (with_reducible first | exact HB.out | apply below_alloc | apply pw_below_drewN | apply below_drew1 | refine below_set ?_ GE156.out) | exact HB.out)) hb); have n2_ := Aside0.mk (hbox); have n3_ := Aside0.mk ((by rw [hg]; exact (below_size (by repeat (first | (with_reducible first | exact HB.out | apply below_alloc | apply pw_below_drewN | apply below_drew1 | refine below_set ?_ GE156.out) | exact HB.out))) : w.heap.size ≤ gb158)); have n4_ := Aside0.mk ((by rw [hg]; exact (below_size (by repeat (first | (with_reducible first | exact HB.out | apply below_alloc | apply pw_below_drewN | apply below_drew1 | refine below_set ?_ GE156.out) | exact HB.out))) : w.heap.size ≤ gb158)); have n5_ := Aside0.mk ((by rw [hg]; exact Nat.ne_of_lt (blk_lt (g := gb156) (o := .cells #[.bool false, .string (⟨#[]⟩ : ByteArray), .int .i64 0] 30 (0, 0)) (by (with_reducible repeat (first | refine blk_drewN ?_ _ | refine blk_drew ?_ | refine blk_alloc ?_ _)); exact BK156.out)) : gb156 ≠ gb158)); have n6_ := Aside0.mk ((by rw [hg]; exact Nat.ne_of_gt (blk_lt (g := gb156) (o := .cells #[.bool false, .string (⟨#[]⟩ : ByteArray), .int .i64 0] 30 (0, 0)) (by (with_reducible repeat (first | refine blk_drewN ?_ _ | refine blk_drew ?_ | refine blk_alloc ?_ _)); exact BK156.out)) : gb158 ≠ gb156)); clear BK156; clear HB; have BK156 := n0_; have HB := n1_; have BK158 := n2_; have GW158 := n3_; have GE158 := n4_; have NB156_158 := n5_; have NB158_156 := n6_; clear n0_ n1_ n2_ n3_ n4_ n5_ n6_; clear hb hbox hg; have hnb11 := NB158_156.out; have hnc11 := NB156_158.out; have hcz12_0 : w10.cell? ⟨gb158, 0, none⟩ = some (.bool false) := (blk_cell BK158.out 0).trans rfl; have hcz12_1 : w10.cell? ⟨gb158, 1, none⟩ = some (.string (⟨#[]⟩ : ByteArray)) := (blk_cell BK158.out 1).trans rfl; have hcz12_2 : w10.cell? ⟨gb158, 2, none⟩ = some (.int .i64 0) := (blk_cell BK158.out 2).trans rfl; have hfz12_0 := blk_frozen BK158.out 0; have hfz12_1 := blk_frozen BK158.out 1; have hfz12_2 := blk_frozen BK158.out 2; have p8 : 0 ≤ (0 : Int) := (by omega); have q8 : 0 < a0.size := (by have : (0 : Int) < (a0.size : Int) := of_decide_eq_true (by first | (with_reducible assumption) | assumption); omega); have hx8 : ∀ h : 0 < a0.size, ((a0[0]'h).toNat : Int) = bt a0 0 := bt_at a0 0; clear p8; have qi8 : (0 < (a0.size : Int)) = True := eq_true (of_decide_eq_true (by first | (with_reducible assumption) | assumption)); replace q8 := eq_true q8))
      (try simp only [Act.put, List.setIfInBounds_toArray, List.set_cons_zero, List.set_cons_succ])
      go_cut [5] (fun v5 wc => ∃ (kq : Nat) (x5_8 : Int) (x159000_8 : Bool), v5 = .int .i64 x5_8 ∧ Aside0 (spec_Value.j0 kq a0 x5_8 x159000_8 (⟨#[]⟩ : ByteArray) 0 = some (r1, r2, r3, r4)) ∧ Aside0 (kq ≤ k) ∧ Aside0 (wc.heap[gb156]? = some (.cells #[.bool false, .string (⟨#[]⟩ : ByteArray), .int .i64 0] 30 (0, 0))) ∧ Aside0 (wc.heap[gb158]? = some (.cells #[.bool x159000_8, .string (⟨#[]⟩ : ByteArray), .int .i64 0] 30 (0, 0))) ∧ Aside0 (Below w.heap.size w wc))
      case first =>
        have H := HC9.out
        clear HC9
        by_cases c13 : (bt a0 0) = 45
        · rw [if_pos c13] at H
          have c13b0 : ((bt a0 0) == 45) = true := beq_iff_eq.mpr c13
          have c13b1 : ((bt a0 0) != 45) = false := bne_eq_false_iff_eq.mpr c13
          clear c13
          (first | rw [c13b0] | (simp only [i64_w, i32_w]; rw [c13b0]) | skip)
          have H' := Aside0.mk H
          clear H
          have hnb14 := NB158_156.out
          have hnc14 := NB156_158.out
          have hcz15_0 : w10.cell? ⟨gb158, 0, none⟩ = some (.bool false) := (blk_cell BK158.out 0).trans rfl
          have hcz15_1 : w10.cell? ⟨gb158, 1, none⟩ = some (.string (⟨#[]⟩ : ByteArray)) := (blk_cell BK158.out 1).trans rfl
          have hcz15_2 : w10.cell? ⟨gb158, 2, none⟩ = some (.int .i64 0) := (blk_cell BK158.out 2).trans rfl
          have hfz15_0 := blk_frozen BK158.out 0
          have hfz15_1 := blk_frozen BK158.out 1
          have hfz15_2 := blk_frozen BK158.out 2
          go_wp2
          go_meet
          case rel => exact ⟨_, (1), (true), (by first | rfl | (simp; done) | (simp [*]; done)), H', ⟨by first | omega | exact Nat.le_refl _⟩, ⟨by (with_reducible repeat (first | refine blk_drewN ?_ _ | refine blk_drew ?_ | refine blk_alloc ?_ _)); refine blk_far ?_ NB156_158.out _; (with_reducible repeat (first | refine blk_drewN ?_ _ | refine blk_drew ?_ | refine blk_alloc ?_ _)); refine blk_far ?_ NB156_158.out _; (with_reducible repeat (first | refine blk_drewN ?_ _ | refine blk_drew ?_ | refine blk_alloc ?_ _)); refine blk_far ?_ NB156_158.out _; (with_reducible repeat (first | refine blk_drewN ?_ _ | refine blk_drew ?_ | refine blk_alloc ?_ _)); refine blk_far ?_ NB156_158.out _; (with_reducible repeat (first | refine blk_drewN ?_ _ | refine blk_drew ?_ | refine blk_alloc ?_ _)); exact BK156.out⟩, ⟨by (with_reducible repeat (first | refine blk_drewN ?_ _ | refine blk_drew ?_ | refine blk_alloc ?_ _)); refine blk_put (cs := #[.bool false, .string (⟨#[]⟩ : ByteArray), .int .i64 0]) ?_ 0 _ rfl; (with_reducible repeat (first | refine blk_drewN ?_ _ | refine blk_drew ?_ | refine blk_alloc ?_ _)); refine blk_put (cs := #[.bool false, .string (⟨#[]⟩ : ByteArray), .int .i64 0]) ?_ 2 _ rfl; (with_reducible repeat (first | refine blk_drewN ?_ _ | refine blk_drew ?_ | refine blk_alloc ?_ _)); refine blk_put (cs := #[.bool false, .string (⟨#[]⟩ : ByteArray), .int .i64 0]) ?_ 1 _ rfl; (with_reducible repeat (first | refine blk_drewN ?_ _ | refine blk_drew ?_ | refine blk_alloc ?_ _)); refine blk_put (cs := #[.bool false, .string (⟨#[]⟩ : ByteArray), .int .i64 0]) ?_ 0 _ rfl; (with_reducible repeat (first | refine blk_drewN ?_ _ | refine blk_drew ?_ | refine blk_alloc ?_ _)); exact BK158.out⟩, ⟨by repeat (first | (with_reducible first | exact HB.out | apply below_alloc | apply pw_below_drewN | apply below_drew1 | refine below_set ?_ GE156.out | refine below_set ?_ GE158.out) | exact HB.out)⟩⟩
        · rw [if_neg c13] at H
          have c13b0 : ((bt a0 0) == 45) = false := beq_eq_false_iff_ne.mpr c13
          have c13b1 : ((bt a0 0) != 45) = true := bne_iff_ne.mpr c13
          (first | rw [c13b0] | (simp only [i64_w, i32_w]; rw [c13b0]) | skip)
          have H' := Aside0.mk H
          clear H
          go_wp2
          go_meet
          case rel => exact ⟨_, (0), (false), (by first | rfl | (simp; done) | (simp [*]; done)), H', ⟨by first | omega | exact Nat.le_refl _⟩, ⟨by (with_reducible repeat (first | refine blk_drewN ?_ _ | refine blk_drew ?_ | refine blk_alloc ?_ _)); refine blk_far ?_ NB156_158.out _; (with_reducible repeat (first | refine blk_drewN ?_ _ | refine blk_drew ?_ | refine blk_alloc ?_ _)); refine blk_far ?_ NB156_158.out _; (with_reducible repeat (first | refine blk_drewN ?_ _ | refine blk_drew ?_ | refine blk_alloc ?_ _)); refine blk_far ?_ NB156_158.out _; (with_reducible repeat (first | refine blk_drewN ?_ _ | refine blk_drew ?_ | refine blk_alloc ?_ _)); exact BK156.out⟩, ⟨by (with_reducible repeat (first | refine blk_drewN ?_ _ | refine blk_drew ?_ | refine blk_alloc ?_ _)); refine blk_put (cs := #[.bool false, .string (⟨#[]⟩ : ByteArray), .int .i64 0]) ?_ 2 _ rfl; (with_reducible repeat (first | refine blk_drewN ?_ _ | refine blk_drew ?_ | refine blk_alloc ?_ _)); refine blk_put (cs := #[.bool false, .string (⟨#[]⟩ : ByteArray), .int .i64 0]) ?_ 1 _ rfl; (with_reducible repeat (first | refine blk_drewN ?_ _ | refine blk_drew ?_ | refine blk_alloc ?_ _)); refine blk_put (cs := #[.bool false, .string (⟨#[]⟩ : ByteArray), .int .i64 0]) ?_ 0 _ rfl; (with_reducible repeat (first | refine blk_drewN ?_ _ | refine blk_drew ?_ | refine blk_alloc ?_ _)); exact BK158.out⟩, ⟨by repeat (first | (with_reducible first | exact HB.out | apply below_alloc | apply pw_below_drewN | apply below_drew1 | refine below_set ?_ GE156.out | refine below_set ?_ GE158.out) | exact HB.out)⟩⟩
      case rest =>
        clear HC9
        try clear c1
        try clear p2
        try clear c6
        try clear c7
        try clear c7b0
        try clear c7b1
        try clear p8
        try clear q8
        try clear hx8
        try clear qi8
        try clear c9
        try clear c11
        try clear c13
        try clear c13b0
        try clear c13b1
        try clear c14
        try clear hcz12_0
        try clear hcz12_1
        try clear hcz12_2
        try clear hcz15_0
        try clear hcz15_1
        try clear hcz15_2
        try clear hfz12_0
        try clear hfz12_1
        try clear hfz12_2
        try clear hfz15_0
        try clear hfz15_1
        try clear hfz15_2
        try clear p8
        try clear q8
        obtain ⟨kq, x5_8, x159000_8, rfl, HA, HJ8, BK156, BK158, HB⟩ := hcut
        cases kq with
        | zero => exact absurd HA.out (by simp [spec_Value.j0])
        | succ kj8 =>
          have H := HA.out
          clear HA
          simp only [spec_Value.j0] at H
          have H' := Aside0.mk H
          clear H
          go_wp2
          (try simp only [Act.put, List.setIfInBounds_toArray, List.set_cons_succ, List.set_cons_zero])
          go_loopg [5, 6, 7, 8] kj8 (fun kq v5 v6 v7 v8 w' => ∃ (x5_2 : Int) (x6_2 : List Int) (x7_2 : Int) (x8_2 : Bool), v5 = .int .i64 x5_2 ∧ v7 = .int .i64 x7_2 ∧ v8 = .bool x8_2 ∧ Aside0 (spec_Value.l0 kq a0 x5_2 x6_2 x7_2 x8_2 x159000_8 (⟨#[]⟩ : ByteArray) 0 = some (r1, r2, r3, r4)) ∧ Aside0 (kq ≤ kj8) ∧ Aside0 (Kd.R (Kd.int .u8) 5 w' w.heap.size (fun _ => True) v6 x6_2) ∧ Aside0 (w'.heap[gb156]? = some (.cells #[.bool false, .string (⟨#[]⟩ : ByteArray), .int .i64 0] 30 (0, 0))) ∧ Aside0 (w'.heap[gb158]? = some (.cells #[.bool x159000_8, .string (⟨#[]⟩ : ByteArray), .int .i64 0] 30 (0, 0))) ∧ Aside0 (Below w.heap.size w w'))
          case atStart => exact ⟨(x5_8), (([] : List Int)), (0), (false), (by first | rfl | (simp; done) | (simp [*]; done)), (by first | rfl | (simp; done) | (simp [*]; done)), (by first | rfl | (simp; done) | (simp [*]; done)), H', ⟨Nat.le_refl _⟩, ⟨by first | exact Kd.R_nil _ _ _ _ _ | exact Kd.N_nil _ _ _ _ _ | exact Kd.V_nil _ _ _ _ _ | exact Kd.Q_nil _ _ _ _ _ | exact Kd.S_nil _ _ _ _ _⟩, ⟨by (with_reducible repeat (first | refine blk_drewN ?_ _ | refine blk_drew ?_ | refine blk_alloc ?_ _)); exact BK156.out⟩, ⟨by (with_reducible repeat (first | refine blk_drewN ?_ _ | refine blk_drew ?_ | refine blk_alloc ?_ _)); exact BK158.out⟩, ⟨by repeat (first | (with_reducible first | exact HB.out | apply below_alloc | apply pw_below_drewN | apply below_drew1 | refine below_set ?_ GE156.out | refine below_set ?_ GE158.out) | exact HB.out)⟩⟩
          case round =>
            clear H'
            try clear c1
            try clear p2
            try clear c6
            try clear c7
            try clear c7b0
            try clear c7b1
            try clear p8
            try clear q8
            try clear hx8
            try clear qi8
            try clear c9
            try clear c11
            try clear c13
            try clear c13b0
            try clear c13b1
            try clear c14
            try clear hcz12_0
            try clear hcz12_1
            try clear hcz12_2
            try clear hcz15_0
            try clear hcz15_1
            try clear hcz15_2
            try clear hfz12_0
            try clear hfz12_1
            try clear hfz12_2
            try clear hfz15_0
            try clear hfz15_1
            try clear hfz15_2
            try clear p2
            try clear p8
            try clear q8
            obtain ⟨x5_2, x6_2, x7_2, x8_2, rfl, rfl, rfl, HA, HK2, HO_6, BK156, BK158, HB⟩ := hrel
            cases gk with
            | zero => exact absurd HA.out (by simp [spec_Value.l0])
            | succ k2 =>
              have H := HA.out
              clear HA
              simp only [spec_Value.l0] at H
              have HC16 := Aside0.mk H
              clear H
              go_upto_region 11 with (fail)
              go_cut [35] (fun v35 wc => ∃ (kq : Nat) (x35_15 : Bool), v35 = .bool x35_15 ∧ Aside0 (spec_Value.j2 kq a0 x5_2 x6_2 x7_2 x8_2 x35_15 x159000_8 (⟨#[]⟩ : ByteArray) 0 = some (r1, r2, r3, r4)) ∧ Aside0 (kq ≤ k2) ∧ Aside0 (Kd.R (Kd.int .u8) 5 wc w.heap.size (fun _ => True) u6 x6_2) ∧ Aside0 (wc.heap[gb156]? = some (.cells #[.bool false, .string (⟨#[]⟩ : ByteArray), .int .i64 0] 30 (0, 0))) ∧ Aside0 (wc.heap[gb158]? = some (.cells #[.bool x159000_8, .string (⟨#[]⟩ : ByteArray), .int .i64 0] 30 (0, 0))) ∧ Aside0 (Below w.heap.size w wc))
              case first =>
                have H := HC16.out
                clear HC16
                by_cases c17 : x5_2 < (a0.size : Int)
                · rw [if_pos c17] at H
                  have c17b0 : decide (x5_2 < (a0.size : Int)) = true := decide_eq_true c17
                  clear c17
                  (first | rw [c17b0] | (simp only [i64_w, i32_w]; rw [c17b0]) | skip)
                  by_cases c18 : 0 ≤ x5_2
                  · rw [if_pos c18] at H
                    have c18b0 : decide (0 ≤ x5_2) = true := decide_eq_true c18
                    clear c18
                    by_cases c20 : (bt a0 x5_2) = 101
                    · rw [if_pos c20] at H
                      have c20b0 : ((bt a0 x5_2) == 101) = true := beq_iff_eq.mpr c20
                      have c20b1 : ((bt a0 x5_2) != 101) = false := bne_eq_false_iff_eq.mpr c20
                      clear c20
                      have H' := Aside0.mk H
                      clear H
                      have p19 : 0 ≤ (x5_2 : Int) := of_decide_eq_true (by first | (with_reducible assumption) | assumption)
                      have q19 : x5_2 < (a0.size : Int) := of_decide_eq_true (by first | (with_reducible assumption) | assumption)
                      have hx19 := bt_at a0 x5_2
                      replace p19 := eq_true p19
                      replace q19 := eq_true q19
                      go_wp2
                      go_meet
                      case rel => exact ⟨_, (false), (by first | rfl | (simp; done) | (simp [*]; done)), H', ⟨by have := HJ8.out; have := HK2.out; first | omega | exact Nat.le_refl _⟩, ⟨by (with_reducible repeat (first | apply Kd.R_alloc | apply Kd.R_drewN | apply Kd.R_drew)); first | exact HO_6.out | exact own_to HO_6.out⟩, ⟨by (with_reducible repeat (first | refine blk_drewN ?_ _ | refine blk_drew ?_ | refine blk_alloc ?_ _)); exact BK156.out⟩, ⟨by (with_reducible repeat (first | refine blk_drewN ?_ _ | refine blk_drew ?_ | refine blk_alloc ?_ _)); exact BK158.out⟩, ⟨by repeat (first | (with_reducible first | exact HB.out | apply below_alloc | apply pw_below_drewN | apply below_drew1 | refine below_set ?_ GE156.out | refine below_set ?_ GE158.out) | exact HB.out)⟩⟩
                    · rw [if_neg c20] at H
                      have c20b0 : ((bt a0 x5_2) == 101) = false := beq_eq_false_iff_ne.mpr c20
                      have c20b1 : ((bt a0 x5_2) != 101) = true := bne_iff_ne.mpr c20
                      have H' := Aside0.mk H
                      clear H
                      have p19 : 0 ≤ (x5_2 : Int) := of_decide_eq_true (by first | (with_reducible assumption) | assumption)
                      have q19 : x5_2 < (a0.size : Int) := of_decide_eq_true (by first | (with_reducible assumption) | assumption)
                      have hx19 := bt_at a0 x5_2
                      replace p19 := eq_true p19
                      replace q19 := eq_true q19
                      have p21 : 0 ≤ (x5_2 : Int) := of_decide_eq_true (by first | (with_reducible assumption) | assumption)
                      have q21 : x5_2 < (a0.size : Int) := of_decide_eq_true (by first | (with_reducible assumption) | assumption)
                      have hx21 := bt_at a0 x5_2
                      replace p21 := eq_true p21
                      replace q21 := eq_true q21
                      go_wp2
                      go_meet
                      case rel => exact ⟨_, (((bt a0 x5_2) != 69)), (by first | rfl | (simp; done) | (simp [*]; done)), H', ⟨by have := HJ8.out; have := HK2.out; first | omega | exact Nat.le_refl _⟩, ⟨by (with_reducible repeat (first | apply Kd.R_alloc | apply Kd.R_drewN | apply Kd.R_drew)); first | exact HO_6.out | exact own_to HO_6.out⟩, ⟨by (with_reducible repeat (first | refine blk_drewN ?_ _ | refine blk_drew ?_ | refine blk_alloc ?_ _)); exact BK156.out⟩, ⟨by (with_reducible repeat (first | refine blk_drewN ?_ _ | refine blk_drew ?_ | refine blk_alloc ?_ _)); exact BK158.out⟩, ⟨by repeat (first | (with_reducible first | exact HB.out | apply below_alloc | apply pw_below_drewN | apply below_drew1 | refine below_set ?_ GE156.out | refine below_set ?_ GE158.out) | exact HB.out)⟩⟩
                  · rw [if_neg c18] at H
                    exact absurd H (by simp)
                · rw [if_neg c17] at H
                  have c17b0 : decide (x5_2 < (a0.size : Int)) = false := decide_eq_false c17
                  clear c17
                  (first | rw [c17b0] | (simp only [i64_w, i32_w]; rw [c17b0]) | skip)
                  have H' := Aside0.mk H
                  clear H
                  go_wp2
                  go_meet
                  case rel => exact ⟨_, (false), (by first | rfl | (simp; done) | (simp [*]; done)), H', ⟨by have := HJ8.out; have := HK2.out; first | omega | exact Nat.le_refl _⟩, ⟨by (with_reducible repeat (first | apply Kd.R_alloc | apply Kd.R_drewN | apply Kd.R_drew)); first | exact HO_6.out | exact own_to HO_6.out⟩, ⟨by (with_reducible repeat (first | refine blk_drewN ?_ _ | refine blk_drew ?_ | refine blk_alloc ?_ _)); exact BK156.out⟩, ⟨by (with_reducible repeat (first | refine blk_drewN ?_ _ | refine blk_drew ?_ | refine blk_alloc ?_ _)); exact BK158.out⟩, ⟨by repeat (first | (with_reducible first | exact HB.out | apply below_alloc | apply pw_below_drewN | apply below_drew1 | refine below_set ?_ GE156.out | refine below_set ?_ GE158.out) | exact HB.out)⟩⟩
              case rest =>
                clear HC16
                try clear c1
                try clear p1
                try clear q1
                try clear hx1
                try clear c2
                try clear p2
                try clear q2
                try clear hx2
                try clear c6
                try clear c7
                try clear c7b0
                try clear c7b1
                try clear p8
                try clear q8
                try clear hx8
                try clear qi8
                try clear c9
                try clear c11
                try clear c13
                try clear c13b0
                try clear c13b1
                try clear c14
                try clear c16
                try clear c17
                try clear c17b0
                try clear c18
                try clear c18b0
                try clear p19
                try clear q19
                try clear hx19
                try clear c20
                try clear c20b0
                try clear c20b1
                try clear p21
                try clear q21
                try clear hx21
                try clear hcz12_0
                try clear hcz12_1
                try clear hcz12_2
                try clear hcz15_0
                try clear hcz15_1
                try clear hcz15_2
                try clear hfz12_0
                try clear hfz12_1
                try clear hfz12_2
                try clear hfz15_0
                try clear hfz15_1
                try clear hfz15_2
                try clear p19
                try clear p2
                try clear p21
                try clear p8
                try clear q19
                try clear q21
                try clear q8
                obtain ⟨kq, x35_15, rfl, HA, HJ15, HO_6, BK156, BK158, HB⟩ := hcut
                cases kq with
                | zero => exact absurd HA.out (by simp [spec_Value.j2])
                | succ kj15 =>
                  have H := HA.out
                  clear HA
                  simp only [spec_Value.j2] at H
                  by_cases c22 : x35_15 = true
                  · subst c22
                    rw [if_pos rfl] at H
                    by_cases c23 : 0 ≤ x5_2
                    · rw [if_pos c23] at H
                      have c23b0 : decide (0 ≤ x5_2) = true := decide_eq_true c23
                      clear c23
                      by_cases c24 : x5_2 < (a0.size : Int)
                      · rw [if_pos c24] at H
                        have c24b0 : decide (x5_2 < (a0.size : Int)) = true := decide_eq_true c24
                        clear c24
                        by_cases c26 : (bt a0 x5_2) = 46
                        · rw [if_pos c26] at H
                          have c26b0 : ((bt a0 x5_2) == 46) = true := beq_iff_eq.mpr c26
                          have c26b1 : ((bt a0 x5_2) != 46) = false := bne_eq_false_iff_eq.mpr c26
                          clear c26
                          have H' := Aside0.mk H
                          clear H
                          have p25 : 0 ≤ (x5_2 : Int) := of_decide_eq_true (by first | (with_reducible assumption) | assumption)
                          have q25 : x5_2 < (a0.size : Int) := of_decide_eq_true (by first | (with_reducible assumption) | assumption)
                          have hx25 := bt_at a0 x5_2
                          replace p25 := eq_true p25
                          replace q25 := eq_true q25
                          go_wp2
                          go_roundg kj15
                          case measure => have := HJ8.out; have := HK2.out; have := HJ15.out; omega
                          case rel => exact ⟨(wrap64 (x5_2 + 1)), (x6_2), (x7_2), (true), (by first | rfl | (simp; done) | (simp [*]; done)), (by first | rfl | (simp; done) | (simp [*]; done)), (by first | rfl | (simp; done) | (simp [*]; done)), H', ⟨by have := HJ8.out; have := HK2.out; have := HJ15.out; omega⟩, ⟨by (with_reducible repeat (first | apply Kd.R_alloc | apply Kd.R_drewN | apply Kd.R_drew)); first | exact HO_6.out | exact own_to HO_6.out⟩, ⟨by (with_reducible repeat (first | refine blk_drewN ?_ _ | refine blk_drew ?_ | refine blk_alloc ?_ _)); exact BK156.out⟩, ⟨by (with_reducible repeat (first | refine blk_drewN ?_ _ | refine blk_drew ?_ | refine blk_alloc ?_ _)); exact BK158.out⟩, ⟨by repeat (first | (with_reducible first | exact HB.out | apply below_alloc | apply pw_below_drewN | apply below_drew1 | refine below_set ?_ GE156.out | refine below_set ?_ GE158.out) | exact HB.out)⟩⟩
                        · rw [if_neg c26] at H
                          have c26b0 : ((bt a0 x5_2) == 46) = false := beq_eq_false_iff_ne.mpr c26
                          have c26b1 : ((bt a0 x5_2) != 46) = true := bne_iff_ne.mpr c26
                          by_cases c28 : x6_2.length < 140737488355328
                          · rw [if_pos c28] at H
                            have LMc28 := Aside0.mk c28
                            clear c28
                            obtain ⟨y159, hy159⟩ : ∃ y_ : List Int, y_ = (x6_2 ++ [bt a0 x5_2]) := ⟨_, rfl⟩
                            replace H : (if x8_2 = true then (spec_Value.l0 kj15 a0 (wrap64 (x5_2 + 1)) y159 (wrap64 (x7_2 - 1)) x8_2 x159000_8 (⟨#[]⟩ : ByteArray) 0) else (spec_Value.l0 kj15 a0 (wrap64 (x5_2 + 1)) y159 x7_2 x8_2 x159000_8 (⟨#[]⟩ : ByteArray) 0)) = some (r1, r2, r3, r4) := by first | (rw [hy159]; with_reducible exact H) | (have H2_ := (Option.bind_some _ _).symm.trans H; rw [hy159]; with_reducible exact H2_) | (have H2_ := (Option.bind_some _ _).symm.trans H; with_reducible exact H2_) | with_reducible exact H | (rw [hy159]; exact H) | exact H
                            have Ny159 := Aside0.mk hy159
                            clear hy159
                            have HC29 := Aside0.mk H
                            clear H
                            have p25 : 0 ≤ (x5_2 : Int) := of_decide_eq_true (by first | (with_reducible assumption) | assumption)
                            have q25 : x5_2 < (a0.size : Int) := of_decide_eq_true (by first | (with_reducible assumption) | assumption)
                            have hx25 := bt_at a0 x5_2
                            replace p25 := eq_true p25
                            replace q25 := eq_true q25
                            have p27 : 0 ≤ (x5_2 : Int) := of_decide_eq_true (by first | (with_reducible assumption) | assumption)
                            have q27 : x5_2 < (a0.size : Int) := of_decide_eq_true (by first | (with_reducible assumption) | assumption)
                            have hx27 := bt_at a0 x5_2
                            replace p27 := eq_true p27
                            replace q27 := eq_true q27
                            go_upto_if 48 with (first | ((with_reducible refine gate_builtin (b := .append) (xs := #[.tmp 42, .tmp 46]) rfl ?_); at_builtin; refine Kd.R_append (Kd.int .u8) (w0 := w) w.heap.size rfl (.tmp 42) (.tmp 46) 36 5 (.int .u8 0) 1 rfl Tryz.underlying36 info5 rfl (by decide) (by omega) u6 x6_2 (bt a0 x5_2) [.int .u8 (bt a0 x5_2)] (fun _ => True) (fun _ => False) rfl rfl ?aP (fun _ hk => hk.elim) ?aF ?aO ?aB ?aS ?aL ?_; (case aP => exact rfl); (case aB => exact (by repeat (first | (with_reducible first | exact HB.out | apply below_alloc | apply pw_below_drewN | apply below_drew1 | refine below_set ?_ GE156.out | refine below_set ?_ GE158.out) | exact HB.out))); (case aF => exact (fun _ _ => trivial)); (case aO => exact (by (with_reducible repeat (first | apply Kd.R_alloc | apply Kd.R_drewN | apply Kd.R_drew)); first | exact HO_6.out | exact own_to HO_6.out)); (case aS => exact (below_size (by repeat (first | (with_reducible first | exact HB.out | apply below_alloc | apply pw_below_drewN | apply below_drew1 | refine below_set ?_ GE156.out | refine below_set ?_ GE158.out) | exact HB.out)))); (case aL => have := LMc28.out; omega); intro v160 w30 ho hb hg hat; rw [← Ny159.out] at ho; have n0_ := Aside0.mk (blk_grown (g := gb156) (o := .cells #[.bool false, .string (⟨#[]⟩ : ByteArray), .int .i64 0] 30 (0, 0)) (by (with_reducible repeat (first | refine blk_drewN ?_ _ | refine blk_drew ?_ | refine blk_alloc ?_ _)); exact BK156.out) hg (Kd.R_ne HO_6.out BK156.out (by decide))); have n1_ := Aside0.mk (blk_grown (g := gb158) (o := .cells #[.bool x159000_8, .string (⟨#[]⟩ : ByteArray), .int .i64 0] 30 (0, 0)) (by (with_reducible repeat (first | refine blk_drewN ?_ _ | refine blk_drew ?_ | refine blk_alloc ?_ _)); exact BK158.out) hg (Kd.R_ne HO_6.out BK158.out (by decide))); have n2_ := Aside0.mk (hb); have n3_ := Aside0.mk (ho); clear BK156; clear BK158; clear HB; clear HO_6; have BK156 := n0_; have BK158 := n1_; have HB := n2_; have HO161 := n3_; clear n0_ n1_ n2_ n3_; clear ho hb hg hat))
                            (try simp only [Act.put, List.setIfInBounds_toArray, List.set_cons_zero, List.set_cons_succ])
                            have H := HC29.out
                            clear HC29
                            by_cases c31 : x8_2 = true
                            · subst c31
                              rw [if_pos rfl] at H
                              have H' := Aside0.mk H
                              clear H
                              go_wp2
                              go_roundg kj15
                              case measure => have := HJ8.out; have := HK2.out; have := HJ15.out; omega
                              case rel => exact ⟨(wrap64 (x5_2 + 1)), (y159), (wrap64 (x7_2 - 1)), (true), (by first | rfl | (simp; done) | (simp [*]; done)), (by first | rfl | (simp; done) | (simp [*]; done)), (by first | rfl | (simp; done) | (simp [*]; done)), H', ⟨by have := HJ8.out; have := HK2.out; have := HJ15.out; omega⟩, ⟨by (with_reducible repeat (first | apply Kd.R_alloc | apply Kd.R_drewN | apply Kd.R_drew)); first | exact HO161.out | exact own_to HO161.out⟩, ⟨by (with_reducible repeat (first | refine blk_drewN ?_ _ | refine blk_drew ?_ | refine blk_alloc ?_ _)); exact BK156.out⟩, ⟨by (with_reducible repeat (first | refine blk_drewN ?_ _ | refine blk_drew ?_ | refine blk_alloc ?_ _)); exact BK158.out⟩, ⟨by repeat (first | (with_reducible first | exact HB.out | apply below_alloc | apply pw_below_drewN | apply below_drew1 | refine below_set ?_ GE156.out | refine below_set ?_ GE158.out) | exact HB.out)⟩⟩
                            · replace c31 := Bool.eq_false_iff.mpr c31
                              subst c31
                              rw [if_neg (show ¬ (false = true) by decide)] at H
                              have H' := Aside0.mk H
                              clear H
                              go_wp2
                              go_roundg kj15
                              case measure => have := HJ8.out; have := HK2.out; have := HJ15.out; omega
                              case rel => exact ⟨(wrap64 (x5_2 + 1)), (y159), (x7_2), (false), (by first | rfl | (simp; done) | (simp [*]; done)), (by first | rfl | (simp; done) | (simp [*]; done)), (by first | rfl | (simp; done) | (simp [*]; done)), H', ⟨by have := HJ8.out; have := HK2.out; have := HJ15.out; omega⟩, ⟨by (with_reducible repeat (first | apply Kd.R_alloc | apply Kd.R_drewN | apply Kd.R_drew)); first | exact HO161.out | exact own_to HO161.out⟩, ⟨by (with_reducible repeat (first | refine blk_drewN ?_ _ | refine blk_drew ?_ | refine blk_alloc ?_ _)); exact BK156.out⟩, ⟨by (with_reducible repeat (first | refine blk_drewN ?_ _ | refine blk_drew ?_ | refine blk_alloc ?_ _)); exact BK158.out⟩, ⟨by repeat (first | (with_reducible first | exact HB.out | apply below_alloc | apply pw_below_drewN | apply below_drew1 | refine below_set ?_ GE156.out | refine below_set ?_ GE158.out) | exact HB.out)⟩⟩
                          · rw [if_neg c28] at H
                            exact absurd H (by simp)
                      · rw [if_neg c24] at H
                        exact absurd H (by simp)
                    · rw [if_neg c23] at H
                      exact absurd H (by simp)
                  · replace c22 := Bool.eq_false_iff.mpr c22
                    subst c22
                    rw [if_neg (show ¬ (false = true) by decide)] at H
                    by_cases c32 : x5_2 < (a0.size : Int)
                    · rw [if_pos c32] at H
                      have c32b0 : decide (x5_2 < (a0.size : Int)) = true := decide_eq_true c32
                      clear c32
                      obtain ⟨ji33, hji33⟩ : ∃ j_ : Int, (wrap64 (x5_2 + 1)) = j_ := ⟨_, rfl⟩
                      replace H : (if 0 ≤ (ji33) then (if (ji33) ≤ (a0.size : Int) then ((spec_signed.f kj15 (a0.extract ((ji33) : Int).toNat a0.size)).bind fun bt162 => (if bt162.2 = true then ((spec_bare.f kj15 x6_2 (wrap64 (x7_2 + bt162.1))).bind fun bt164 => (some (x159000_8, bt164.1, bt164.2, true))) else (some (false, (⟨#[]⟩ : ByteArray), 0, false)))) else (none)) else (none)) = some (r1, r2, r3, r4) := by first | (rw [hji33] at H; exact H) | (simp only [hji33] at H ⊢; exact H)
                      have hji33w : (IntKind.i64.wrap (x5_2 + 1)) = ji33 := (i64_w _).trans hji33
                      by_cases c34 : 0 ≤ (ji33)
                      · rw [if_pos c34] at H
                        have c34b0 := eq_true c34
                        have c34b1 : decide (0 ≤ (ji33)) = true := decide_eq_true c34
                        clear c34
                        by_cases c35 : (ji33) ≤ (a0.size : Int)
                        · rw [if_pos c35] at H
                          have c35b0 := eq_true c35
                          have c35b1 : decide ((ji33) ≤ (a0.size : Int)) = true := decide_eq_true c35
                          clear c35
                          replace H := Option.bind_eq_some_iff.mp H
                          obtain ⟨⟨t162, t163⟩, A360, H⟩ := H
                          replace H : (if t163 = true then ((spec_bare.f kj15 x6_2 (wrap64 (x7_2 + t162))).bind fun bt164 => (some (x159000_8, bt164.1, bt164.2, true))) else (some (false, (⟨#[]⟩ : ByteArray), 0, false))) = some (r1, r2, r3, r4) := H
                          have A36 := Aside0.mk A360
                          clear A360
                          have HC37 := Aside0.mk H
                          clear H
                          go_upto_if 64 with (first | ((with_reducible refine gate_callee (f := 17) rfl ?_); refine goesL_ (some 60) rfl rfl Tryz.func17 (by kernel_rfl) rfl #[.string (a0.extract ((ji33) : Int).toNat a0.size)] rfl (by (try simp only [List.map_toArray, List.map_cons, List.map_nil]); first | done | (simp only [hji33]; rfl) | rfl | (simp only [List.length_drop, List.length_take]; rfl) | (simp only [ByteArray.size_append, Int.natCast_add]; first | done | rfl) | (go_simp; first | done | (simp [ByteArray.size_append, ByteArray.size_extract]; done))) ?_; (with_reducible refine (spec_signed.calls kj15 (a0.extract ((ji33) : Int).toNat a0.size) t162 t163 _ A36.out).mono ?_); rintro e w' ⟨rfl, ⟨nd, rfl⟩⟩; refine ⟨_, rfl, ?_⟩))
                          (try simp only [Act.put, List.setIfInBounds_toArray, List.set_cons_zero, List.set_cons_succ])
                          have H := HC37.out
                          clear HC37
                          by_cases c38 : t163 = true
                          · subst c38
                            rw [if_pos rfl] at H
                            replace H := Option.bind_eq_some_iff.mp H
                            obtain ⟨⟨t164, t165⟩, A390, H⟩ := H
                            replace H : (some (x159000_8, t164, t165, true)) = some (r1, r2, r3, r4) := H
                            have A39 := Aside0.mk A390
                            clear A390
                            simp only [Option.some.injEq, Prod.mk.injEq] at H
                            obtain ⟨rfl, rfl, rfl, rfl⟩ := H
                            obtain ⟨Ao40, co40, eo40⟩ := Kd.R_slice HO_6.out
                            subst eo40
                            go_wp2_with (first | ((with_reducible refine gate_callee (f := 18) rfl ?_); refine goesL_ (some 72) rfl rfl Tryz.func18 (by kernel_rfl) rfl #[.slice Ao40 x6_2.length co40, .int .i64 (wrap64 (x7_2 + t162))] rfl (by (try simp only [List.map_toArray, List.map_cons, List.map_nil]); first | done | rfl | (simp only [List.length_drop, List.length_take]; rfl) | (simp only [ByteArray.size_append, Int.natCast_add]; first | done | rfl) | (go_simp; first | done | (simp [ByteArray.size_append, ByteArray.size_extract]; done))) ?_; (with_reducible refine (spec_bare.calls kj15 (fun k_ => some k_ = (.slice Ao40 x6_2.length co40 : Value).ownBlock) _ _ x6_2 (wrap64 (x7_2 + t162)) t164 t165 _ ?side1 A39.out).mono ?_); (case side1 => exact Kd.R_V (Kd.R_tight rfl (Kd.R_types (Kd.R_types (HO_6.out) BK156.out (by decide)) BK158.out (by decide)))); rintro e w41 ⟨rfl, hb⟩; refine ⟨_, rfl, ?_⟩; have n0_ := Aside0.mk (Kd.R_below (by (with_reducible repeat (first | apply Kd.R_alloc | apply Kd.R_drewN | apply Kd.R_drew)); first | exact HO_6.out | exact own_to HO_6.out) hb); have n1_ := Aside0.mk (blk_below (g := gb156) (o := .cells #[.bool false, .string (⟨#[]⟩ : ByteArray), .int .i64 0] 30 (0, 0)) (by (with_reducible repeat (first | refine blk_drewN ?_ _ | refine blk_drew ?_ | refine blk_alloc ?_ _)); exact BK156.out) hb); have n2_ := Aside0.mk (blk_below (g := gb158) (o := .cells #[.bool x159000_8, .string (⟨#[]⟩ : ByteArray), .int .i64 0] 30 (0, 0)) (by (with_reducible repeat (first | refine blk_drewN ?_ _ | refine blk_drew ?_ | refine blk_alloc ?_ _)); exact BK158.out) hb); have n3_ := Aside0.mk (below_step (by repeat (first | (with_reducible first | exact HB.out | apply below_alloc | apply pw_below_drewN | apply below_drew1 | refine below_set ?_ GE156.out | refine below_set ?_ GE158.out) | exact HB.out)) hb); clear HO_6; clear BK156; clear BK158; clear HB; have HO_6 := n0_; have BK156 := n1_; have BK158 := n2_; have HB := n3_; clear n0_ n1_ n2_ n3_; (try clear hb); (try clear hb2); (try clear hk); (try clear hi); have hnb42 := NB158_156.out; have hnc42 := NB156_158.out; have hcz43_0 : w41.cell? ⟨gb158, 0, none⟩ = some (.bool x159000_8) := (blk_cell BK158.out 0).trans rfl; have hcz43_1 : w41.cell? ⟨gb158, 1, none⟩ = some (.string (⟨#[]⟩ : ByteArray)) := (blk_cell BK158.out 1).trans rfl; have hcz43_2 : w41.cell? ⟨gb158, 2, none⟩ = some (.int .i64 0) := (blk_cell BK158.out 2).trans rfl; have hfz43_0 := blk_frozen BK158.out 0; have hfz43_1 := blk_frozen BK158.out 1; have hfz43_2 := blk_frozen BK158.out 2; have hcz44_0 : w41.cell? ⟨gb156, 0, none⟩ = some (.bool false) := (blk_cell BK156.out 0).trans rfl; have hcz44_1 : w41.cell? ⟨gb156, 1, none⟩ = some (.string (⟨#[]⟩ : ByteArray)) := (blk_cell BK156.out 1).trans rfl; have hcz44_2 : w41.cell? ⟨gb156, 2, none⟩ = some (.int .i64 0) := (blk_cell BK156.out 2).trans rfl; have hfz44_0 := blk_frozen BK156.out 0; have hfz44_1 := blk_frozen BK156.out 1; have hfz44_2 := blk_frozen BK156.out 2))
                            refine bodyPost_ret (results_ct rfl _ _ gb156 30 #[.bool x159000_8, .string t164, .int .i64 t165] (0, 0) _ rfl (by (with_reducible repeat (first | refine blk_drewN ?_ _ | refine blk_drew ?_ | refine blk_alloc ?_ _)); refine blk_put (cs := #[.bool x159000_8, .string t164, .int .i64 0]) ?_ 2 _ rfl; (with_reducible repeat (first | refine blk_drewN ?_ _ | refine blk_drew ?_ | refine blk_alloc ?_ _)); refine blk_put (cs := #[.bool x159000_8, .string (⟨#[]⟩ : ByteArray), .int .i64 0]) ?_ 1 _ rfl; (with_reducible repeat (first | refine blk_drewN ?_ _ | refine blk_drew ?_ | refine blk_alloc ?_ _)); refine blk_put (cs := #[.bool false, .string (⟨#[]⟩ : ByteArray), .int .i64 0]) ?_ 0 _ rfl; (with_reducible repeat (first | refine blk_drewN ?_ _ | refine blk_drew ?_ | refine blk_alloc ?_ _)); refine blk_far ?_ NB156_158.out _; (with_reducible repeat (first | refine blk_drewN ?_ _ | refine blk_drew ?_ | refine blk_alloc ?_ _)); refine blk_far ?_ NB156_158.out _; (with_reducible repeat (first | refine blk_drewN ?_ _ | refine blk_drew ?_ | refine blk_alloc ?_ _)); exact BK156.out) Tryz.underlying30 rfl (by kernel_rfl)) rfl ?_
                            exact ⟨by first | rfl | (simp [errW_none, errW_some] <;> rfl) | (simp only [← hji33]; first | rfl | (simp [errW_none, errW_some] <;> rfl)) | (simp [*, errW_none, errW_some] <;> rfl), by repeat (first | (with_reducible first | exact HB.out | apply below_alloc | apply pw_below_drewN | apply below_drew1 | refine below_set ?_ GE156.out | refine below_set ?_ GE158.out) | exact HB.out)⟩
                          · replace c38 := Bool.eq_false_iff.mpr c38
                            subst c38
                            rw [if_neg (show ¬ (false = true) by decide)] at H
                            simp only [Option.some.injEq, Prod.mk.injEq] at H
                            obtain ⟨rfl, rfl, rfl, rfl⟩ := H
                            have hnb45 := NB156_158.out
                            have hnc45 := NB158_156.out
                            have hcz46_0 : wc.cell? ⟨gb156, 0, none⟩ = some (.bool false) := (blk_cell BK156.out 0).trans rfl
                            have hcz46_1 : wc.cell? ⟨gb156, 1, none⟩ = some (.string (⟨#[]⟩ : ByteArray)) := (blk_cell BK156.out 1).trans rfl
                            have hcz46_2 : wc.cell? ⟨gb156, 2, none⟩ = some (.int .i64 0) := (blk_cell BK156.out 2).trans rfl
                            have hfz46_0 := blk_frozen BK156.out 0
                            have hfz46_1 := blk_frozen BK156.out 1
                            have hfz46_2 := blk_frozen BK156.out 2
                            go_wp2
                            refine bodyPost_ret (results_ct rfl _ _ gb156 30 #[.bool false, .string (⟨#[]⟩ : ByteArray), .int .i64 0] (0, 0) _ rfl (by (with_reducible repeat (first | refine blk_drewN ?_ _ | refine blk_drew ?_ | refine blk_alloc ?_ _)); refine blk_put (cs := #[.bool false, .string (⟨#[]⟩ : ByteArray), .int .i64 0]) ?_ 2 _ rfl; (with_reducible repeat (first | refine blk_drewN ?_ _ | refine blk_drew ?_ | refine blk_alloc ?_ _)); refine blk_put (cs := #[.bool false, .string (⟨#[]⟩ : ByteArray), .int .i64 0]) ?_ 1 _ rfl; (with_reducible repeat (first | refine blk_drewN ?_ _ | refine blk_drew ?_ | refine blk_alloc ?_ _)); refine blk_put (cs := #[.bool false, .string (⟨#[]⟩ : ByteArray), .int .i64 0]) ?_ 0 _ rfl; (with_reducible repeat (first | refine blk_drewN ?_ _ | refine blk_drew ?_ | refine blk_alloc ?_ _)); exact BK156.out) Tryz.underlying30 rfl (by kernel_rfl)) rfl ?_
                            exact ⟨by first | rfl | (simp [errW_none, errW_some] <;> rfl) | (simp only [← hji33]; first | rfl | (simp [errW_none, errW_some] <;> rfl)) | (simp [*, errW_none, errW_some] <;> rfl), by repeat (first | (with_reducible first | exact HB.out | apply below_alloc | apply pw_below_drewN | apply below_drew1 | refine below_set ?_ GE156.out | refine below_set ?_ GE158.out) | exact HB.out)⟩
                        · rw [if_neg c35] at H
                          exact absurd H (by simp)
                      · rw [if_neg c34] at H
                        exact absurd H (by simp)
                    · rw [if_neg c32] at H
                      have c32b0 : decide (x5_2 < (a0.size : Int)) = false := decide_eq_false c32
                      clear c32
                      replace H := Option.bind_eq_some_iff.mp H
                      obtain ⟨⟨t166, t167⟩, A470, H⟩ := H
                      replace H : (some (x159000_8, t166, t167, true)) = some (r1, r2, r3, r4) := H
                      have A47 := Aside0.mk A470
                      clear A470
                      simp only [Option.some.injEq, Prod.mk.injEq] at H
                      obtain ⟨rfl, rfl, rfl, rfl⟩ := H
                      obtain ⟨Ao48, co48, eo48⟩ := Kd.R_slice HO_6.out
                      subst eo48
                      go_wp2_with (first | ((with_reducible refine gate_callee (f := 18) rfl ?_); refine goesL_ (some 72) rfl rfl Tryz.func18 (by kernel_rfl) rfl #[.slice Ao48 x6_2.length co48, .int .i64 x7_2] rfl (by (try simp only [List.map_toArray, List.map_cons, List.map_nil]); first | done | rfl | (simp only [List.length_drop, List.length_take]; rfl) | (simp only [ByteArray.size_append, Int.natCast_add]; first | done | rfl) | (go_simp; first | done | (simp [ByteArray.size_append, ByteArray.size_extract]; done))) ?_; (with_reducible refine (spec_bare.calls kj15 (fun k_ => some k_ = (.slice Ao48 x6_2.length co48 : Value).ownBlock) _ _ x6_2 x7_2 t166 t167 _ ?side1 A47.out).mono ?_); (case side1 => exact Kd.R_V (Kd.R_tight rfl (Kd.R_types (Kd.R_types (HO_6.out) BK156.out (by decide)) BK158.out (by decide)))); rintro e w49 ⟨rfl, hb⟩; refine ⟨_, rfl, ?_⟩; have n0_ := Aside0.mk (Kd.R_below (by (with_reducible repeat (first | apply Kd.R_alloc | apply Kd.R_drewN | apply Kd.R_drew)); first | exact HO_6.out | exact own_to HO_6.out) hb); have n1_ := Aside0.mk (blk_below (g := gb156) (o := .cells #[.bool false, .string (⟨#[]⟩ : ByteArray), .int .i64 0] 30 (0, 0)) (by (with_reducible repeat (first | refine blk_drewN ?_ _ | refine blk_drew ?_ | refine blk_alloc ?_ _)); exact BK156.out) hb); have n2_ := Aside0.mk (blk_below (g := gb158) (o := .cells #[.bool x159000_8, .string (⟨#[]⟩ : ByteArray), .int .i64 0] 30 (0, 0)) (by (with_reducible repeat (first | refine blk_drewN ?_ _ | refine blk_drew ?_ | refine blk_alloc ?_ _)); exact BK158.out) hb); have n3_ := Aside0.mk (below_step (by repeat (first | (with_reducible first | exact HB.out | apply below_alloc | apply pw_below_drewN | apply below_drew1 | refine below_set ?_ GE156.out | refine below_set ?_ GE158.out) | exact HB.out)) hb); clear HO_6; clear BK156; clear BK158; clear HB; have HO_6 := n0_; have BK156 := n1_; have BK158 := n2_; have HB := n3_; clear n0_ n1_ n2_ n3_; (try clear hb); (try clear hb2); (try clear hk); (try clear hi); have hnb50 := NB158_156.out; have hnc50 := NB156_158.out; have hcz51_0 : w49.cell? ⟨gb158, 0, none⟩ = some (.bool x159000_8) := (blk_cell BK158.out 0).trans rfl; have hcz51_1 : w49.cell? ⟨gb158, 1, none⟩ = some (.string (⟨#[]⟩ : ByteArray)) := (blk_cell BK158.out 1).trans rfl; have hcz51_2 : w49.cell? ⟨gb158, 2, none⟩ = some (.int .i64 0) := (blk_cell BK158.out 2).trans rfl; have hfz51_0 := blk_frozen BK158.out 0; have hfz51_1 := blk_frozen BK158.out 1; have hfz51_2 := blk_frozen BK158.out 2; have hcz52_0 : w49.cell? ⟨gb156, 0, none⟩ = some (.bool false) := (blk_cell BK156.out 0).trans rfl; have hcz52_1 : w49.cell? ⟨gb156, 1, none⟩ = some (.string (⟨#[]⟩ : ByteArray)) := (blk_cell BK156.out 1).trans rfl; have hcz52_2 : w49.cell? ⟨gb156, 2, none⟩ = some (.int .i64 0) := (blk_cell BK156.out 2).trans rfl; have hfz52_0 := blk_frozen BK156.out 0; have hfz52_1 := blk_frozen BK156.out 1; have hfz52_2 := blk_frozen BK156.out 2))
                      refine bodyPost_ret (results_ct rfl _ _ gb156 30 #[.bool x159000_8, .string t166, .int .i64 t167] (0, 0) _ rfl (by (with_reducible repeat (first | refine blk_drewN ?_ _ | refine blk_drew ?_ | refine blk_alloc ?_ _)); refine blk_put (cs := #[.bool x159000_8, .string t166, .int .i64 0]) ?_ 2 _ rfl; (with_reducible repeat (first | refine blk_drewN ?_ _ | refine blk_drew ?_ | refine blk_alloc ?_ _)); refine blk_put (cs := #[.bool x159000_8, .string (⟨#[]⟩ : ByteArray), .int .i64 0]) ?_ 1 _ rfl; (with_reducible repeat (first | refine blk_drewN ?_ _ | refine blk_drew ?_ | refine blk_alloc ?_ _)); refine blk_put (cs := #[.bool false, .string (⟨#[]⟩ : ByteArray), .int .i64 0]) ?_ 0 _ rfl; (with_reducible repeat (first | refine blk_drewN ?_ _ | refine blk_drew ?_ | refine blk_alloc ?_ _)); refine blk_far ?_ NB156_158.out _; (with_reducible repeat (first | refine blk_drewN ?_ _ | refine blk_drew ?_ | refine blk_alloc ?_ _)); refine blk_far ?_ NB156_158.out _; (with_reducible repeat (first | refine blk_drewN ?_ _ | refine blk_drew ?_ | refine blk_alloc ?_ _)); exact BK156.out) Tryz.underlying30 rfl (by kernel_rfl)) rfl ?_
                      exact ⟨by first | rfl | (simp [errW_none, errW_some] <;> rfl) | (simp [*, errW_none, errW_some] <;> rfl), by repeat (first | (with_reducible first | exact HB.out | apply below_alloc | apply pw_below_drewN | apply below_drew1 | refine below_set ?_ GE156.out | refine below_set ?_ GE158.out) | exact HB.out)⟩
    · rw [if_neg c7] at H
      exact absurd H (by simp)
  · replace c6 := Bool.eq_false_iff.mpr c6
    subst c6
    rw [if_neg (show ¬ (false = true) by decide)] at H
    simp only [Option.some.injEq, Prod.mk.injEq] at H
    obtain ⟨rfl, rfl, rfl, rfl⟩ := H
    have hcz53_0 : w5.cell? ⟨gb156, 0, none⟩ = some (.bool false) := (blk_cell BK156.out 0).trans rfl
    have hcz53_1 : w5.cell? ⟨gb156, 1, none⟩ = some (.string (⟨#[]⟩ : ByteArray)) := (blk_cell BK156.out 1).trans rfl
    have hcz53_2 : w5.cell? ⟨gb156, 2, none⟩ = some (.int .i64 0) := (blk_cell BK156.out 2).trans rfl
    have hfz53_0 := blk_frozen BK156.out 0
    have hfz53_1 := blk_frozen BK156.out 1
    have hfz53_2 := blk_frozen BK156.out 2
    go_wp2
    refine bodyPost_ret (results_ct rfl _ _ gb156 30 #[.bool false, .string (⟨#[]⟩ : ByteArray), .int .i64 0] (0, 0) _ rfl (by (with_reducible repeat (first | refine blk_drewN ?_ _ | refine blk_drew ?_ | refine blk_alloc ?_ _)); refine blk_put (cs := #[.bool false, .string (⟨#[]⟩ : ByteArray), .int .i64 0]) ?_ 2 _ rfl; (with_reducible repeat (first | refine blk_drewN ?_ _ | refine blk_drew ?_ | refine blk_alloc ?_ _)); refine blk_put (cs := #[.bool false, .string (⟨#[]⟩ : ByteArray), .int .i64 0]) ?_ 1 _ rfl; (with_reducible repeat (first | refine blk_drewN ?_ _ | refine blk_drew ?_ | refine blk_alloc ?_ _)); refine blk_put (cs := #[.bool false, .string (⟨#[]⟩ : ByteArray), .int .i64 0]) ?_ 0 _ rfl; (with_reducible repeat (first | refine blk_drewN ?_ _ | refine blk_drew ?_ | refine blk_alloc ?_ _)); exact BK156.out) Tryz.underlying30 rfl (by kernel_rfl)) rfl ?_
    exact ⟨by first | rfl | (simp [errW_none, errW_some] <;> rfl) | (simp [*, errW_none, errW_some] <;> rfl), by repeat (first | (with_reducible first | exact HB.out | apply below_alloc | apply pw_below_drewN | apply below_drew1 | refine below_set ?_ GE156.out) | exact HB.out)⟩
end Go.Proofs.YtjemobfhlfejlaaGreatDoor.PFnFjFloatNear
