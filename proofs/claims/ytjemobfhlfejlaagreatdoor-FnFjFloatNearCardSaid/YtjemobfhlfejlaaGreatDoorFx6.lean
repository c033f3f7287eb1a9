/- Functions of the reference, printed out of the translation and walked. No condition but what each lemma states. -/
import Derived.Test.YtjemobfhlfejlaaGreatDoorFx0
import Derived.Test.YtjemobfhlfejlaaGreatDoorFx4
import Derived.Test.YtjemobfhlfejlaaGreatDoorFx5
set_option linter.unusedVariables false
set_option linter.unusedSimpArgs false
namespace Go.Proofs.YtjemobfhlfejlaaGreatDoor.PFnFjFloatNear
open Go.RowKit Go.Proofs.YtjemobfhlfejlaaGreatDoorW.PrintWords Go.Proofs.YtjemobfhlfejlaaGreatDoorW.PrintLast Go.Proofs.YtjemobfhlfejlaaGreatDoorW.PrintMore
attribute [local go_sem] max2_int min2_int max_two min_two max_three min_three max_four min_four
def spec_nearest.l0 : Nat → Int → Int → Bool → ByteArray → Int → Option (Int)
  | 0, _, _, _, _, _ => none
  | k + 1, x3, x4, x229000, x229001, x229002 => if (IntKind.u64.wrap (x4 - x3)) > 1 then ((spec_binary.f (IntKind.u64.wrap (x3 + (IntKind.u64.wrap (Int.tdiv (IntKind.u64.wrap (x4 - x3)) 2))))).bind fun bt229 => ((spec_scaled.f k bt229.1 bt229.2 x229000 x229001 x229002).bind fun t231 => (if t231 ≤ 0 then (spec_nearest.l0 k (IntKind.u64.wrap (x3 + (IntKind.u64.wrap (Int.tdiv (IntKind.u64.wrap (x4 - x3)) 2)))) x4 x229000 x229001 x229002) else (spec_nearest.l0 k x3 (IntKind.u64.wrap (x3 + (IntKind.u64.wrap (Int.tdiv (IntKind.u64.wrap (x4 - x3)) 2)))) x229000 x229001 x229002)))) else ((spec_binary.f x3).bind fun bt232 => ((spec_scaled.f k (IntKind.u64.wrap ((IntKind.u64.wrap (2 * bt232.1)) + 1)) (wrap64 (bt232.2 - 1)) x229000 x229001 x229002).bind fun t234 => (if t234 < 0 then (some (IntKind.u64.wrap (x3 + 1))) else (if t234 = 0 then (if (Int.tmod bt232.1 2) = 1 then (some (IntKind.u64.wrap (x3 + 1))) else (some x3)) else (some x3)))))
def spec_nearest.f (k : Nat) (a0_0 : Bool) (a0_1 : ByteArray) (a0_2 : Int) : Option (Int) := spec_nearest.l0 k 0 9218868437227405312 a0_0 a0_1 a0_2
set_option maxHeartbeats 8000000 in
set_option maxRecDepth 100000 in
theorem spec_nearest.calls (k : Nat) (a0_0 : Bool) (a0_1 : ByteArray) (a0_2 : Int) (r : Int) (w : World) (h : spec_nearest.f k a0_0 a0_1 a0_2 = some r) :
    Calls Tryz.prog 19 #[.agg #[.bool a0_0, .string a0_1, .int .i64 a0_2]] w fun e w' => e = .returned (.int .u64 r) ∧ Below w.heap.size w w' := by
  have hu30 := Tryz.underlying30
  have HB := Aside0.mk (Below.refl w.heap.size w)
  have H : (spec_nearest.l0 k 0 9218868437227405312 a0_0 a0_1 a0_2) = some r := h
  clear h
  have H' := Aside0.mk H
  clear H
  go_enter Tryz.func19, Tryz.ntmps19
  go_wp2_with (first | ((with_reducible refine gate_dst (N := 1) rfl ?_); refine box_event ?hg (N := 1) ?hd (cs := #[.bool a0_0, .string a0_1, .int .i64 a0_2]) (t := 30) ?hr ?_; (case hd => rfl); (case hg => rfl); (case hr => first | (go_simp; done) | (go_simp; rfl)); intro gb228 hg w2 hbox hb; have n0_ := Aside0.mk (below_step (by repeat (first | (with_reducible first | exact HB.out | apply below_alloc | apply pw_below_drewN | apply below_drew1) | exact HB.out)) hb); have n1_ := Aside0.mk (hbox); have n2_ := Aside0.mk ((by rw [hg]; exact (below_size (by repeat (first | (with_reducible first | exact HB.out | apply below_alloc | apply pw_below_drewN | apply below_drew1) | exact HB.out))) : w.heap.size ≤ gb228)); have n3_ := Aside0.mk ((by rw [hg]; exact (below_size (by repeat (first | (with_reducible first | exact HB.out | apply below_alloc | apply pw_below_drewN | apply below_drew1) | exact HB.out))) : w.heap.size ≤ gb228)); clear HB; have HB := n0_; have BK228 := n1_; have GW228 := n2_; have GE228 := n3_; clear n0_ n1_ n2_ n3_; clear hb hbox hg))
  (try simp only [Act.put, List.setIfInBounds_toArray, List.set_cons_succ, List.set_cons_zero])
  go_loopg [3, 4] k (fun kq v3 v4 w' => ∃ (x3_1 : Int) (x4_1 : Int), v3 = .int .u64 x3_1 ∧ v4 = .int .u64 x4_1 ∧ Aside0 (spec_nearest.l0 kq x3_1 x4_1 a0_0 a0_1 a0_2 = some r) ∧ Aside0 (kq ≤ k) ∧ Aside0 (w'.heap[gb228]? = some (.cells #[.bool a0_0, .string a0_1, .int .i64 a0_2] 30 (0, 0))) ∧ Aside0 (Below w.heap.size w w'))
  case atStart => exact ⟨(0), (9218868437227405312), (by first | rfl | (simp; done) | (simp [*]; done)), (by first | rfl | (simp; done) | (simp [*]; done)), H', ⟨Nat.le_refl _⟩, ⟨by (with_reducible repeat (first | refine blk_drewN ?_ _ | refine blk_drew ?_ | refine blk_alloc ?_ _)); exact BK228.out⟩, ⟨by repeat (first | (with_reducible first | exact HB.out | apply below_alloc | apply pw_below_drewN | apply below_drew1 | refine below_set ?_ GE228.out) | exact HB.out)⟩⟩
  case round =>
    clear H'
    try clear c1
    try clear p2
    obtain ⟨x3_1, x4_1, rfl, rfl, HA, HK1, BK228, HB⟩ := hrel
    cases gk with
    | zero => exact absurd HA.out (by simp [spec_nearest.l0])
    | succ k1 =>
      have H := HA.out
      clear HA
      simp only [spec_nearest.l0] at H
      by_cases c3 : (IntKind.u64.wrap (x4_1 - x3_1)) > 1
      · rw [if_pos c3] at H
        have c3b0 : decide (1 < (IntKind.u64.wrap (x4_1 - x3_1))) = true := decide_eq_true c3
        clear c3
        replace H := Option.bind_eq_some_iff.mp H
        obtain ⟨⟨t229, t230⟩, A40, H⟩ := H
        replace H : ((spec_scaled.f k1 t229 t230 a0_0 a0_1 a0_2).bind fun t231 => (if t231 ≤ 0 then (spec_nearest.l0 k1 (IntKind.u64.wrap (x3_1 + (IntKind.u64.wrap (Int.tdiv (IntKind.u64.wrap (x4_1 - x3_1)) 2)))) x4_1 a0_0 a0_1 a0_2) else (spec_nearest.l0 k1 x3_1 (IntKind.u64.wrap (x3_1 + (IntKind.u64.wrap (Int.tdiv (IntKind.u64.wrap (x4_1 - x3_1)) 2)))) a0_0 a0_1 a0_2))) = some r := H
        have A4 := Aside0.mk A40
        clear A40
        replace H := Option.bind_eq_some_iff.mp H
        obtain ⟨t231, A50, H⟩ := H
        replace H : (if t231 ≤ 0 then (spec_nearest.l0 k1 (IntKind.u64.wrap (x3_1 + (IntKind.u64.wrap (Int.tdiv (IntKind.u64.wrap (x4_1 - x3_1)) 2)))) x4_1 a0_0 a0_1 a0_2) else (spec_nearest.l0 k1 x3_1 (IntKind.u64.wrap (x3_1 + (IntKind.u64.wrap (Int.tdiv (IntKind.u64.wrap (x4_1 - x3_1)) 2)))) a0_0 a0_1 a0_2)) = some r := H
        have A5 := Aside0.mk A50
        clear A50
        have HC6 := Aside0.mk H
        clear H
        go_upto_if 30 with (first | ((with_reducible refine gate_callee (f := 29) rfl ?_); refine goesL_ (some 23) rfl rfl Tryz.func29 (by kernel_rfl) rfl #[.int .u64 (IntKind.u64.wrap (x3_1 + (IntKind.u64.wrap (Int.tdiv (IntKind.u64.wrap (x4_1 - x3_1)) 2))))] rfl (by (try simp only [List.map_toArray, List.map_cons, List.map_nil]); first | done | rfl | (simp only [List.length_drop, List.length_take]; rfl) | (simp only [ByteArray.size_append, Int.natCast_add]; first | done | rfl) | (go_simp; first | done | (simp [ByteArray.size_append, ByteArray.size_extract]; done))) ?_; (with_reducible refine (spec_binary.calls (IntKind.u64.wrap (x3_1 + (IntKind.u64.wrap (Int.tdiv (IntKind.u64.wrap (x4_1 - x3_1)) 2)))) t229 t230 _ A4.out).mono ?_); rintro e w' ⟨rfl, ⟨nd, rfl⟩⟩; refine ⟨_, rfl, ?_⟩; have hcz7_0 : wr.cell? ⟨gb228, 0, none⟩ = some (.bool a0_0) := (blk_cell BK228.out 0).trans rfl; have hcz7_1 : wr.cell? ⟨gb228, 1, none⟩ = some (.string a0_1) := (blk_cell BK228.out 1).trans rfl; have hcz7_2 : wr.cell? ⟨gb228, 2, none⟩ = some (.int .i64 a0_2) := (blk_cell BK228.out 2).trans rfl; have hfz7_0 := blk_frozen BK228.out 0; have hfz7_1 := blk_frozen BK228.out 1; have hfz7_2 := blk_frozen BK228.out 2) | ((with_reducible refine gate_callee (f := 30) rfl ?_); refine goesL_ (some 29) rfl rfl Tryz.func30 (by kernel_rfl) rfl #[.int .u64 t229, .int .i64 t230, .agg #[.bool a0_0, .string a0_1, .int .i64 a0_2]] rfl (by (try simp only [List.map_toArray, List.map_cons, List.map_nil]); first | done | rfl | (simp only [List.length_drop, List.length_take]; rfl) | (simp only [ByteArray.size_append, Int.natCast_add]; first | done | rfl) | (go_simp; first | done | (simp [ByteArray.size_append, ByteArray.size_extract]; done))) ?_; (with_reducible refine (spec_scaled.calls k1 t229 t230 a0_0 a0_1 a0_2 t231 _ A5.out).mono ?_); rintro e w8 ⟨rfl, hb⟩; refine ⟨_, rfl, ?_⟩; have n0_ := Aside0.mk (blk_below (g := gb228) (o := .cells #[.bool a0_0, .string a0_1, .int .i64 a0_2] 30 (0, 0)) (by (with_reducible repeat (first | refine blk_drewN ?_ _ | refine blk_drew ?_ | refine blk_alloc ?_ _)); exact BK228.out) hb); have n1_ := Aside0.mk (below_step (by repeat (first | (with_reducible first | exact HB.out | apply below_alloc | apply pw_below_drewN | apply below_drew1 | refine below_set ?_ GE228.out) | exact HB.out)) hb); clear BK228; clear HB; have BK228 := n0_; have HB := n1_; clear n0_ n1_; (try clear hb); (try clear hb2); (try clear hk); (try clear hi)))
        (try simp only [Act.put, List.setIfInBounds_toArray, List.set_cons_zero, List.set_cons_succ])
        have H := HC6.out
        clear HC6
        by_cases c9 : t231 ≤ 0
        · rw [if_pos c9] at H
          have c9b0 : decide (t231 ≤ 0) = true := decide_eq_true c9
          clear c9
          (first | rw [c9b0] | (simp only [i64_w, i32_w]; rw [c9b0]) | skip)
          have H' := Aside0.mk H
          clear H
          go_wp2
          go_roundg k1
          case measure => have := HK1.out; omega
          case rel => exact ⟨(IntKind.u64.wrap (x3_1 + (IntKind.u64.wrap (Int.tdiv (IntKind.u64.wrap (x4_1 - x3_1)) 2)))), (x4_1), (by first | rfl | (simp; done) | (simp [*]; done)), (by first | rfl | (simp; done) | (simp [*]; done)), H', ⟨by have := HK1.out; omega⟩, ⟨by (with_reducible repeat (first | refine blk_drewN ?_ _ | refine blk_drew ?_ | refine blk_alloc ?_ _)); exact BK228.out⟩, ⟨by repeat (first | (with_reducible first | exact HB.out | apply below_alloc | apply pw_below_drewN | apply below_drew1 | refine below_set ?_ GE228.out) | exact HB.out)⟩⟩
        · rw [if_neg c9] at H
          have c9b0 : decide (t231 ≤ 0) = false := decide_eq_false c9
          clear c9
          (first | rw [c9b0] | (simp only [i64_w, i32_w]; rw [c9b0]) | skip)
          have H' := Aside0.mk H
          clear H
          go_wp2
          go_roundg k1
          case measure => have := HK1.out; omega
          case rel => exact ⟨(x3_1), (IntKind.u64.wrap (x3_1 + (IntKind.u64.wrap (Int.tdiv (IntKind.u64.wrap (x4_1 - x3_1)) 2)))), (by first | rfl | (simp; done) | (simp [*]; done)), (by first | rfl | (simp; done) | (simp [*]; done)), H', ⟨by have := HK1.out; omega⟩, ⟨by (with_reducible repeat (first | refine blk_drewN ?_ _ | refine blk_drew ?_ | refine blk_alloc ?_ _)); exact BK228.out⟩, ⟨by repeat (first | (with_reducible first | exact HB.out | apply below_alloc | apply pw_below_drewN | apply below_drew1 | refine below_set ?_ GE228.out) | exact HB.out)⟩⟩
      · rw [if_neg c3] at H
        have c3b0 : decide (1 < (IntKind.u64.wrap (x4_1 - x3_1))) = false := decide_eq_false c3
        clear c3
        replace H := Option.bind_eq_some_iff.mp H
        obtain ⟨⟨t232, t233⟩, A100, H⟩ := H
        replace H : ((spec_scaled.f k1 (IntKind.u64.wrap ((IntKind.u64.wrap (2 * t232)) + 1)) (wrap64 (t233 - 1)) a0_0 a0_1 a0_2).bind fun t234 => (if t234 < 0 then (some (IntKind.u64.wrap (x3_1 + 1))) else (if t234 = 0 then (if (Int.tmod t232 2) = 1 then (some (IntKind.u64.wrap (x3_1 + 1))) else (some x3_1)) else (some x3_1)))) = some r := H
        have A10 := Aside0.mk A100
        clear A100
        replace H := Option.bind_eq_some_iff.mp H
        obtain ⟨t234, A110, H⟩ := H
        replace H : (if t234 < 0 then (some (IntKind.u64.wrap (x3_1 + 1))) else (if t234 = 0 then (if (Int.tmod t232 2) = 1 then (some (IntKind.u64.wrap (x3_1 + 1))) else (some x3_1)) else (some x3_1))) = some r := H
        have A11 := Aside0.mk A110
        clear A110
        by_cases c12 : t234 < 0
        · rw [if_pos c12] at H
          have c12b0 : decide (t234 < 0) = true := decide_eq_true c12
          clear c12
          obtain rfl := Option.some.inj H
          go_wp2_with (first | ((with_reducible refine gate_callee (f := 29) rfl ?_); refine goesL_ (some 35) rfl rfl Tryz.func29 (by kernel_rfl) rfl #[.int .u64 x3_1] rfl (by (try simp only [List.map_toArray, List.map_cons, List.map_nil]); first | done | rfl | (simp only [List.length_drop, List.length_take]; rfl) | (simp only [ByteArray.size_append, Int.natCast_add]; first | done | rfl) | (go_simp; first | done | (simp [ByteArray.size_append, ByteArray.size_extract]; done))) ?_; (with_reducible refine (spec_binary.calls x3_1 t232 t233 _ A10.out).mono ?_); rintro e w' ⟨rfl, ⟨nd, rfl⟩⟩; refine ⟨_, rfl, ?_⟩; have hcz13_0 : wr.cell? ⟨gb228, 0, none⟩ = some (.bool a0_0) := (blk_cell BK228.out 0).trans rfl; have hcz13_1 : wr.cell? ⟨gb228, 1, none⟩ = some (.string a0_1) := (blk_cell BK228.out 1).trans rfl; have hcz13_2 : wr.cell? ⟨gb228, 2, none⟩ = some (.int .i64 a0_2) := (blk_cell BK228.out 2).trans rfl; have hfz13_0 := blk_frozen BK228.out 0; have hfz13_1 := blk_frozen BK228.out 1; have hfz13_2 := blk_frozen BK228.out 2) | ((with_reducible refine gate_callee (f := 30) rfl ?_); refine goesL_ (some 44) rfl rfl Tryz.func30 (by kernel_rfl) rfl #[.int .u64 (IntKind.u64.wrap ((IntKind.u64.wrap (2 * t232)) + 1)), .int .i64 (wrap64 (t233 - 1)), .agg #[.bool a0_0, .string a0_1, .int .i64 a0_2]] rfl (by (try simp only [List.map_toArray, List.map_cons, List.map_nil]); first | done | rfl | (simp only [List.length_drop, List.length_take]; rfl) | (simp only [ByteArray.size_append, Int.natCast_add]; first | done | rfl) | (go_simp; first | done | (simp [ByteArray.size_append, ByteArray.size_extract]; done))) ?_; (with_reducible refine (spec_scaled.calls k1 (IntKind.u64.wrap ((IntKind.u64.wrap (2 * t232)) + 1)) (wrap64 (t233 - 1)) a0_0 a0_1 a0_2 t234 _ A11.out).mono ?_); rintro e w14 ⟨rfl, hb⟩; refine ⟨_, rfl, ?_⟩; have n0_ := Aside0.mk (blk_below (g := gb228) (o := .cells #[.bool a0_0, .string a0_1, .int .i64 a0_2] 30 (0, 0)) (by (with_reducible repeat (first | refine blk_drewN ?_ _ | refine blk_drew ?_ | refine blk_alloc ?_ _)); exact BK228.out) hb); have n1_ := Aside0.mk (below_step (by repeat (first | (with_reducible first | exact HB.out | apply below_alloc | apply pw_below_drewN | apply below_drew1 | refine below_set ?_ GE228.out) | exact HB.out)) hb); clear BK228; clear HB; have BK228 := n0_; have HB := n1_; clear n0_ n1_; (try clear hb); (try clear hb2); (try clear hk); (try clear hi)))
          go_ret
          exact ⟨by first | rfl | (simp [errW_none, errW_some] <;> rfl) | (simp [*, errW_none, errW_some] <;> rfl), by repeat (first | (with_reducible first | exact HB.out | apply below_alloc | apply pw_below_drewN | apply below_drew1 | refine below_set ?_ GE228.out) | exact HB.out)⟩
        · rw [if_neg c12] at H
          have c12b0 : decide (t234 < 0) = false := decide_eq_false c12
          clear c12
          by_cases c15 : t234 = 0
          · rw [if_pos c15] at H
            have c15b0 : (t234 == 0) = true := beq_iff_eq.mpr c15
            have c15b1 : (t234 != 0) = false := bne_eq_false_iff_eq.mpr c15
            clear c15
            have HC16 := Aside0.mk H
            clear H
            go_upto_if 55 with (first | ((with_reducible refine gate_callee (f := 29) rfl ?_); refine goesL_ (some 35) rfl rfl Tryz.func29 (by kernel_rfl) rfl #[.int .u64 x3_1] rfl (by (try simp only [List.map_toArray, List.map_cons, List.map_nil]); first | done | rfl | (simp only [List.length_drop, List.length_take]; rfl) | (simp only [ByteArray.size_append, Int.natCast_add]; first | done | rfl) | (go_simp; first | done | (simp [ByteArray.size_append, ByteArray.size_extract]; done))) ?_; (with_reducible refine (spec_binary.calls x3_1 t232 t233 _ A10.out).mono ?_); rintro e w' ⟨rfl, ⟨nd, rfl⟩⟩; refine ⟨_, rfl, ?_⟩; have hcz17_0 : wr.cell? ⟨gb228, 0, none⟩ = some (.bool a0_0) := (blk_cell BK228.out 0).trans rfl; have hcz17_1 : wr.cell? ⟨gb228, 1, none⟩ = some (.string a0_1) := (blk_cell BK228.out 1).trans rfl; have hcz17_2 : wr.cell? ⟨gb228, 2, none⟩ = some (.int .i64 a0_2) := (blk_cell BK228.out 2).trans rfl; have hfz17_0 := blk_frozen BK228.out 0; have hfz17_1 := blk_frozen BK228.out 1; have hfz17_2 := blk_frozen BK228.out 2) | ((with_reducible refine gate_callee (f := 30) rfl ?_); refine goesL_ (some 44) rfl rfl Tryz.func30 (by kernel_rfl) rfl #[.int .u64 (IntKind.u64.wrap ((IntKind.u64.wrap (2 * t232)) + 1)), .int .i64 (wrap64 (t233 - 1)), .agg #[.bool a0_0, .string a0_1, .int .i64 a0_2]] rfl (by (try simp only [List.map_toArray, List.map_cons, List.map_nil]); first | done | rfl | (simp only [List.length_drop, List.length_take]; rfl) | (simp only [ByteArray.size_append, Int.natCast_add]; first | done | rfl) | (go_simp; first | done | (simp [ByteArray.size_append, ByteArray.size_extract]; done))) ?_; (with_reducible refine (spec_scaled.calls k1 (IntKind.u64.wrap ((IntKind.u64.wrap (2 * t232)) + 1)) (wrap64 (t233 - 1)) a0_0 a0_1 a0_2 t234 _ A11.out).mono ?_); rintro e w18 ⟨rfl, hb⟩; refine ⟨_, rfl, ?_⟩; have n0_ := Aside0.mk (blk_below (g := gb228) (o := .cells #[.bool a0_0, .string a0_1, .int .i64 a0_2] 30 (0, 0)) (by (with_reducible repeat (first | refine blk_drewN ?_ _ | refine blk_drew ?_ | refine blk_alloc ?_ _)); exact BK228.out) hb); have n1_ := Aside0.mk (below_step (by repeat (first | (with_reducible first | exact HB.out | apply below_alloc | apply pw_below_drewN | apply below_drew1 | refine below_set ?_ GE228.out) | exact HB.out)) hb); clear BK228; clear HB; have BK228 := n0_; have HB := n1_; clear n0_ n1_; (try clear hb); (try clear hb2); (try clear hk); (try clear hi)))
            (try simp only [Act.put, List.setIfInBounds_toArray, List.set_cons_zero, List.set_cons_succ])
            have H := HC16.out
            clear HC16
            by_cases c19 : (Int.tmod t232 2) = 1
            · rw [if_pos c19] at H
              have c19b0 : ((Int.tmod t232 2) == 1) = true := beq_iff_eq.mpr c19
              have c19b1 : ((Int.tmod t232 2) != 1) = false := bne_eq_false_iff_eq.mpr c19
              clear c19
              (first | rw [c19b0] | (simp only [i64_w, i32_w]; rw [c19b0]) | skip)
              obtain rfl := Option.some.inj H
              go_wp2
              go_ret
              exact ⟨by first | rfl | (simp [errW_none, errW_some] <;> rfl) | (simp [*, errW_none, errW_some] <;> rfl), by repeat (first | (with_reducible first | exact HB.out | apply below_alloc | apply pw_below_drewN | apply below_drew1 | refine below_set ?_ GE228.out) | exact HB.out)⟩
            · rw [if_neg c19] at H
              have c19b0 : ((Int.tmod t232 2) == 1) = false := beq_eq_false_iff_ne.mpr c19
              have c19b1 : ((Int.tmod t232 2) != 1) = true := bne_iff_ne.mpr c19
              (first | rw [c19b0] | (simp only [i64_w, i32_w]; rw [c19b0]) | skip)
              obtain rfl := Option.some.inj H
              go_wp2
              go_ret
              exact ⟨by first | rfl | (simp [errW_none, errW_some] <;> rfl) | (simp [*, errW_none, errW_some] <;> rfl), by repeat (first | (with_reducible first | exact HB.out | apply below_alloc | apply pw_below_drewN | apply below_drew1 | refine below_set ?_ GE228.out) | exact HB.out)⟩
          · rw [if_neg c15] at H
            have c15b0 : (t234 == 0) = false := beq_eq_false_iff_ne.mpr c15
            have c15b1 : (t234 != 0) = true := bne_iff_ne.mpr c15
            obtain rfl := Option.some.inj H
            go_wp2_with (first | ((with_reducible refine gate_callee (f := 29) rfl ?_); refine goesL_ (some 35) rfl rfl Tryz.func29 (by kernel_rfl) rfl #[.int .u64 x3_1] rfl (by (try simp only [List.map_toArray, List.map_cons, List.map_nil]); first | done | rfl | (simp only [List.length_drop, List.length_take]; rfl) | (simp only [ByteArray.size_append, Int.natCast_add]; first | done | rfl) | (go_simp; first | done | (simp [ByteArray.size_append, ByteArray.size_extract]; done))) ?_; (with_reducible refine (spec_binary.calls x3_1 t232 t233 _ A10.out).mono ?_); rintro e w' ⟨rfl, ⟨nd, rfl⟩⟩; refine ⟨_, rfl, ?_⟩; have hcz20_0 : wr.cell? ⟨gb228, 0, none⟩ = some (.bool a0_0) := (blk_cell BK228.out 0).trans rfl; have hcz20_1 : wr.cell? ⟨gb228, 1, none⟩ = some (.string a0_1) := (blk_cell BK228.out 1).trans rfl; have hcz20_2 : wr.cell? ⟨gb228, 2, none⟩ = some (.int .i64 a0_2) := (blk_cell BK228.out 2).trans rfl; have hfz20_0 := blk_frozen BK228.out 0; have hfz20_1 := blk_frozen BK228.out 1; have hfz20_2 := blk_frozen BK228.out 2) | ((with_reducible refine gate_callee (f := 30) rfl ?_); refine goesL_ (some 44) rfl rfl Tryz.func30 (by kernel_rfl) rfl #[.int .u64 (IntKind.u64.wrap ((IntKind.u64.wrap (2 * t232)) + 1)), .int .i64 (wrap64 (t233 - 1)), .agg #[.bool a0_0, .string a0_1, .int .i64 a0_2]] rfl (by (try simp only [List.map_toArray, List.map_cons, List.map_nil]); first | done | rfl | (simp only [List.length_drop, List.length_take]; rfl) | (simp only [ByteArray.size_append, Int.natCast_add]; first | done | rfl) | (go_simp; first | done | (simp [ByteArray.size_append, ByteArray.size_extract]; done))) ?_; (with_reducible refine (spec_scaled.calls k1 (IntKind.u64.wrap ((IntKind.u64.wrap (2 * t232)) + 1)) (wrap64 (t233 - 1)) a0_0 a0_1 a0_2 t234 _ A11.out).mono ?_); rintro e w21 ⟨rfl, hb⟩; refine ⟨_, rfl, ?_⟩; have n0_ := Aside0.mk (blk_below (g := gb228) (o := .cells #[.bool a0_0, .string a0_1, .int .i64 a0_2] 30 (0, 0)) (by (with_reducible repeat (first | refine blk_drewN ?_ _ | refine blk_drew ?_ | refine blk_alloc ?_ _)); exact BK228.out) hb); have n1_ := Aside0.mk (below_step (by repeat (first | (with_reducible first | exact HB.out | apply below_alloc | apply pw_below_drewN | apply below_drew1 | refine below_set ?_ GE228.out) | exact HB.out)) hb); clear BK228; clear HB; have BK228 := n0_; have HB := n1_; clear n0_ n1_; (try clear hb); (try clear hb2); (try clear hk); (try clear hi)))
            go_ret
            exact ⟨by first | rfl | (simp [errW_none, errW_some] <;> rfl) | (simp [*, errW_none, errW_some] <;> rfl), by repeat (first | (with_reducible first | exact HB.out | apply below_alloc | apply pw_below_drewN | apply below_drew1 | refine below_set ?_ GE228.out) | exact HB.out)⟩
end Go.Proofs.YtjemobfhlfejlaaGreatDoor.PFnFjFloatNear
