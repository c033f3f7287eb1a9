/- Short names for proofs that are told often: each lemma proves what it is asked by the tactic it keeps. -/
import Derived.ArgAppend
import Derived.Below
import Derived.BigQuiet
import Derived.Deep.AppendLies
import Derived.Deep.CutBlock
import Derived.Deep.DeepCutAuto
import Derived.Deep.Draws
import Derived.Deep.LoopGhost
import Derived.Deep.OwnRows
import Derived.Deep.QuietTactic
import Derived.Deep.RegionHeld3
import Derived.KernelRfl
import Derived.Laws.BitsLemmas
import Derived.Laws.BytesArg
import Derived.Laws.IdiomCopy
import Derived.Laws.MakeOwn
import Derived.Laws.OwnMore
import Derived.Laws.Rows
import Derived.Laws.Slices
import Derived.Lib.AppendStr
import Derived.Lib.ConvBytes
import Derived.Maps.AppendAt
import Derived.OrdersHeld
import Derived.OwnWalk
import Derived.RowKit
import Derived.RowKit3
import Derived.Tactics
import Derived.Test.YtffdebhaclkhjaaProg
import Derived.WalkKit
import Derived.WideLaws
import Derived.Test.YtffdebhaclkhjaaSw
set_option linter.unusedVariables false
namespace Go.Proofs.Ytffdebhaclkhjaa.PFnPrWholeDefault
open Go.RowKit Go.Proofs.YtffdebhaclkhjaaW.PrintWords Go.Proofs.YtffdebhaclkhjaaW.PrintLast Go.Proofs.YtffdebhaclkhjaaW.PrintMore
attribute [local go_sem] max2_int min2_int max_two min_two max_three min_three max_four min_four   -- for this text's walks alone
set_option linter.unusedVariables false
set_option linter.unusedSimpArgs false
theorem bind_y {α β : Type} {y a : α} {f : α → Option β} {r : Option β} (h : y = a) (H : (some a).bind f = r) : f y = r := by subst h; exact H
theorem pR {P Q : Prop} (h : P) (e : P → Q := by intro h_; (with_reducible repeat (first | apply Kd.R_alloc | apply Kd.R_drewN | apply Kd.R_drew)); first | exact h_ | exact own_to h_) : Q := e h
theorem pV {P Q : Prop} (h : P) (e : P → Q := by intro h_; (with_reducible repeat (first | apply Kd.V_alloc | apply Kd.V_drewN | apply Kd.V_drew)); first | exact h_ | exact own_to h_) : Q := e h
theorem pN {P Q : Prop} (h : P) (e : P → Q := by intro h_; (with_reducible repeat (first | apply Kd.N_alloc | apply Kd.N_drewN | apply Kd.N_drew)); first | exact h_ | exact own_to h_) : Q := e h
theorem pQ {P Q : Prop} (h : P) (e : P → Q := by intro h_; (with_reducible repeat (first | apply Kd.Q_alloc | apply Kd.Q_drewN | apply Kd.Q_drew)); first | exact h_ | exact own_to h_) : Q := e h
theorem pS {P Q : Prop} (h : P) (e : P → Q := by intro h_; (with_reducible repeat (first | apply Kd.S_alloc | apply Kd.S_drewN | apply Kd.S_drew)); first | exact h_ | exact own_to h_) : Q := e h
theorem pB {P Q : Prop} (h : P) (e : P → Q := by intro h_; (with_reducible repeat (first | refine blk_drewN ?_ _ | refine blk_drew ?_ | refine blk_alloc ?_ _)); exact h_) : Q := e h
theorem Z0 {P : Prop} (h : P := by first | (with_reducible assumption) | assumption) : P := h
theorem Z1 {P : Prop} (h : P := by kernel_rfl) : P := h
theorem Z2 {P : Prop} (h : P := by decide) : P := h
theorem Z3 {P : Prop} (h : P := by rfl) : P := h
theorem Z4 {P : Prop} (h : P := by simp) : P := h
theorem Z5 {P : Prop} (h : P := by omega) : P := h
theorem Z6 {P : Prop} (h : P := by repeat (first | (with_reducible first | exact HB.out | apply below_alloc | apply pw_below_drewN | apply below_drew1) | exact HB.out)) : P := h
theorem Z7 {P : Prop} (h : P := by repeat (first | (with_reducible first | exact HK.out | apply Kept.alloc | apply Kept.drewN | apply Kept.drew) | exact HK.out)) : P := h
theorem Z8 {P : Prop} (h : P := by first | rfl | (simp; done) | (simp [*]; done)) : P := h
theorem Z9 {P : Prop} (h : P := by repeat (first | (with_reducible first | exact HI0.out | apply IsS48.alloc | apply IsS48.drewN | apply IsS48.drew | apply IsS48.set_0 | apply IsS48.set_1) | exact HI0.out)) : P := h
theorem Z10 {P : Prop} (h : P := by repeat (first | (with_reducible first | exact HK.out | apply KeepBut.set_ | apply keep_drewN | apply keep_drew | apply keep_alloc) | exact HK.out)) : P := h
theorem Z11 {P : Prop} (h : P := by repeat (first | (with_reducible first | exact HB.out | apply below_alloc | apply pw_below_drewN | apply below_drew1 | refine below_set ?_ (IsS48.ge HI0.out)) | exact HB.out)) : P := h
theorem Z12 {P : Prop} (h : P := by first | rfl | (simp [errW_none, errW_some] <;> rfl) | (simp [*, errW_none, errW_some] <;> rfl)) : P := h
theorem Z13 {P : Prop} (h : P := by (try simp only [List.map_toArray, List.map_cons, List.map_nil]); first | done | rfl | (simp only [List.length_drop, List.length_take]; rfl) | (simp only [ByteArray.size_append, Int.natCast_add]; first | done | rfl) | (go_simp; first | done | (simp [ByteArray.size_append, ByteArray.size_extract]; done))) : P := h
theorem Z14 {P : Prop} (h : P := by repeat (first | (with_reducible first | exact HK.out | apply Kept.alloc | apply Kept.drewN | apply Kept.drew | refine Kept.setCell ?_ (.inr GW690.out) _ | refine Kept.setCell ?_ (.inr GW691.out) _) | exact HK.out)) : P := h
theorem Z15 {P : Prop} (h : P := by repeat (first | (with_reducible first | exact HB.out | apply below_alloc | apply pw_below_drewN | apply below_drew1 | refine below_set ?_ GE690.out | refine below_set ?_ GE691.out) | exact HB.out)) : P := h
theorem Z16 {P : Prop} (h : P := by repeat (first | (with_reducible first | exact HK.out | apply Kept.alloc | apply Kept.drewN | apply Kept.drew | refine Kept.setCell ?_ (.inr GW448.out) _) | exact HK.out)) : P := h
theorem Z17 {P : Prop} (h : P := by first | exact Kd.R_nil _ _ _ _ _ | exact Kd.N_nil _ _ _ _ _ | exact Kd.V_nil _ _ _ _ _ | exact Kd.Q_nil _ _ _ _ _ | exact Kd.S_nil _ _ _ _ _) : P := h
theorem Z18 {P : Prop} (h : P := by repeat (first | (with_reducible first | exact HK.out | apply Kept.alloc | apply Kept.drewN | apply Kept.drew | refine Kept.setCell ?_ (.inr GW581.out) _) | exact HK.out)) : P := h
theorem Z19 {P : Prop} (h : P := by first | (go_simp; done) | (go_simp; rfl)) : P := h
theorem Z20 {P : Prop} (h : P := by repeat (first | (with_reducible first | exact HB.out | apply below_alloc | apply pw_below_drewN | apply below_drew1 | refine below_set ?_ GE581.out) | exact HB.out)) : P := h
theorem Z21 {P : Prop} (h : P := by repeat (first | (with_reducible first | exact HB.out | apply below_alloc | apply pw_below_drewN | apply below_drew1 | refine below_set ?_ GE448.out) | exact HB.out)) : P := h
theorem Z22 {P : Prop} (h : P := by first | omega | exact Nat.le_refl _) : P := h
theorem Z23 {P : Prop} (h : P := by repeat (first | (with_reducible first | exact HK.out | apply Kept.alloc | apply Kept.drewN | apply Kept.drew | refine Kept.setCell ?_ (.inr GW653.out) _ | refine Kept.setCell ?_ (.inr GW654.out) _) | exact HK.out)) : P := h
theorem Z24 {P : Prop} (h : P := by repeat (first | (with_reducible first | exact HB.out | apply below_alloc | apply pw_below_drewN | apply below_drew1 | refine below_set ?_ GE653.out | refine below_set ?_ GE654.out) | exact HB.out)) : P := h
theorem Z25 {P : Prop} (h : P := by repeat (first | (with_reducible first | exact HK.out | apply KeepBut.set_ | apply keep_drewN | apply keep_drew | apply keep_alloc | refine keep_far ?_ GW230.out _ | refine keep_far ?_ GW231.out _) | exact HK.out)) : P := h
theorem Z26 {P : Prop} (h : P := by repeat (first | exact Drawn0.refl _ | apply Drawn0.step)) : P := h
theorem Z27 {P : Prop} (h : P := by have := HK1.out; omega) : P := h
theorem Z28 {P : Prop} (h : P := by repeat (first | (with_reducible first | exact HI0.out | apply IsS48.alloc | apply IsS48.drewN | apply IsS48.drew | apply IsS48.set_0 | apply IsS48.set_1 | refine IsS48.far ?_ NB0_230.out _ | refine IsS48.far ?_ NB0_231.out _) | exact HI0.out)) : P := h
theorem Z29 {P : Prop} (h : P := by repeat (first | (with_reducible first | exact HB.out | apply below_alloc | apply pw_below_drewN | apply below_drew1 | refine below_set ?_ (IsS48.ge HI0.out) | refine below_set ?_ GE230.out | refine below_set ?_ GE231.out) | exact HB.out)) : P := h
theorem Z30 {P : Prop} (h : P := by repeat (first | (with_reducible first | exact HK.out | apply Kept.alloc | apply Kept.drewN | apply Kept.drew | refine Kept.setCell ?_ (.inr GW629.out) _) | exact HK.out)) : P := h
theorem Z31 {P : Prop} (h : P := by repeat (first | (with_reducible first | exact HI0.out | apply IsS48.alloc | apply IsS48.drewN | apply IsS48.drew | apply IsS48.set_0 | apply IsS48.set_1 | refine IsS48.far ?_ NB0_185.out _) | exact HI0.out)) : P := h
theorem Z32 {P : Prop} (h : P := by repeat (first | (with_reducible first | exact HB.out | apply below_alloc | apply pw_below_drewN | apply below_drew1 | refine below_set ?_ GE629.out) | exact HB.out)) : P := h
theorem Z33 {P : Prop} (h : P := by repeat (first | (with_reducible first | exact HB.out | apply below_alloc | apply pw_below_drewN | apply below_drew1 | refine below_set ?_ GE547.out) | exact HB.out)) : P := h
theorem Z34 {P : Prop} (h : P := by repeat' first | (with_reducible exact ih0 _ _ _ _ _ _ _ _ _ _ _ _) | (with_reducible exact ih1 _ _ _ _ _ _ _ _ _ _ _ _ _) | (with_reducible exact ih2 _ _ _ _ _ _ _ _ _ _ _ _ _ _) | (with_reducible exact ih3 _ _ _ _ _ _ _ _ _ _ _ _ _ _ _) | (with_reducible exact ih4 _ _ _ _ _ _ _ _ _ _ _ _) | (with_reducible exact ih5 _ _ _ _ _ _ _ _ _ _ _ _ _ _ _ _) | (with_reducible exact ih6 _ _ _ _ _ _ _ _ _ _ _ _ _ _ _) | (with_reducible exact ih7 _ _ _ _ _ _ _ _ _ _ _ _ _ _ _) | (with_reducible exact ih8 _ _ _ _ _ _ _ _ _ _ _ _ _ _ _) | (with_reducible exact ih9 _ _ _ _ _ _ _ _ _ _ _ _ _ _ _ _) | (with_reducible exact ih10 _ _ _ _ _ _ _ _ _ _ _ _ _ _ _ _) | (with_reducible exact ih11 _ _ _ _ _ _ _ _ _ _ _ _ _ _) | (with_reducible exact ih12 _ _ _ _ _ _ _ _ _ _) | (with_reducible exact ih13 _ _ _ _ _ _ _ _ _ _ _) | (with_reducible exact ih14 _ _ _ _ _ _ _ _ _ _ _ _) | (with_reducible exact pretty_appendPrettyNumber.mono _ _ _ _ _) | (with_reducible exact pretty_appendPrettyString.mono _ _ _ _ _) | (with_reducible exact pretty_appendTabs.mono _ _ _ _ _) | (with_reducible exact LeO.refl _) | (with_reducible exact LeO.none _) | (with_reducible refine LeO.ite ?_ ?_) | (with_reducible refine LeO.bind ?_ (fun _ => ?_)) | exact ih0 _ _ _ _ _ _ _ _ _ _ _ _ | exact ih1 _ _ _ _ _ _ _ _ _ _ _ _ _ | exact ih2 _ _ _ _ _ _ _ _ _ _ _ _ _ _ | exact ih3 _ _ _ _ _ _ _ _ _ _ _ _ _ _ _ | exact ih4 _ _ _ _ _ _ _ _ _ _ _ _ | exact ih5 _ _ _ _ _ _ _ _ _ _ _ _ _ _ _ _ | exact ih6 _ _ _ _ _ _ _ _ _ _ _ _ _ _ _ | exact ih7 _ _ _ _ _ _ _ _ _ _ _ _ _ _ _ | exact ih8 _ _ _ _ _ _ _ _ _ _ _ _ _ _ _ | exact ih9 _ _ _ _ _ _ _ _ _ _ _ _ _ _ _ _ | exact ih10 _ _ _ _ _ _ _ _ _ _ _ _ _ _ _ _ | exact ih11 _ _ _ _ _ _ _ _ _ _ _ _ _ _ | exact ih12 _ _ _ _ _ _ _ _ _ _ | exact ih13 _ _ _ _ _ _ _ _ _ _ _ | exact ih14 _ _ _ _ _ _ _ _ _ _ _ _ | exact pretty_appendPrettyNumber.mono _ _ _ _ _ | exact pretty_appendPrettyString.mono _ _ _ _ _ | exact pretty_appendTabs.mono _ _ _ _ _ | exact LeO.none _ | refine LeO.ite ?_ ?_ | refine LeO.bind ?_ (fun _ => ?_)) : P := h
theorem Z35 {P : Prop} (h : P := by repeat (first | (with_reducible first | exact HI0.out | apply IsS48.alloc | apply IsS48.drewN | apply IsS48.drew | apply IsS48.set_0 | apply IsS48.set_1 | refine IsS48.far ?_ NB0_216.out _) | exact HI0.out)) : P := h
theorem Z36 {P : Prop} (h : P := by exact Kd.R_tight rfl HO_0.out) : P := h
theorem Z37 {P : Prop} (h : P := by repeat (first | (with_reducible first | exact HK.out | apply KeepBut.set_ | apply keep_drewN | apply keep_drew | apply keep_alloc | refine keep_far ?_ GW185.out _) | exact HK.out)) : P := h
theorem Z38 {P : Prop} (h : P := by repeat (first | (with_reducible first | exact HK.out | apply KeepBut.set_ | apply keep_drewN | apply keep_drew | apply keep_alloc | refine keep_far ?_ GW216.out _) | exact HK.out)) : P := h
theorem Z39 {P : Prop} (h : P := by repeat (first | (with_reducible first | exact HB.out | apply below_alloc | apply pw_below_drewN | apply below_drew1 | refine below_set ?_ (IsS48.ge HI0.out) | refine below_set ?_ GE185.out) | exact HB.out)) : P := h
theorem Z40 {P : Prop} (h : P := by repeat (first | (with_reducible first | exact HB.out | apply below_alloc | apply pw_below_drewN | apply below_drew1 | refine below_set ?_ (IsS48.ge HI0.out) | refine below_set ?_ GE216.out) | exact HB.out)) : P := h
theorem Z41 {P : Prop} (h : P := by simp [Value.ownBlock] at e_) : P := h
theorem Z42 {P : Prop} (h : P := by (try simp only [hl1_3]); (with_reducible repeat (first | apply Kd.R_alloc | apply Kd.R_drewN | apply Kd.R_drew)); first | exact HO_0.out | exact own_to HO_0.out) : P := h
theorem Z43 {P : Prop} (h : P := by (try simp only [hl1_3]); (with_reducible repeat (first | apply Kd.V_alloc | apply Kd.V_drewN | apply Kd.V_drew)); first | exact HO_1.out | exact own_to HO_1.out) : P := h
theorem Z44 {P : Prop} (h : P := by (try simp only [hl1_3]); (try simp only [hl1_123]); (with_reducible repeat (first | refine blk_drewN ?_ _ | refine blk_drew ?_ | refine blk_alloc ?_ _)); exact BK448.out) : P := h
theorem Z45 {P : Prop} (h : P := by have := HJ3.out; have := HJ15.out; have := HK3.out; omega) : P := h
theorem Z46 {P : Prop} (h : P := by repeat' first | (with_reducible exact ih0 _ _) | (with_reducible exact ih1 _ _ _ _) | (with_reducible exact ih2 _ _ _ _ _ _) | (with_reducible exact ih3 _ _) | (with_reducible exact ih4 _ _ _) | (with_reducible exact ih5 _ _) | (with_reducible exact ih6 _ _ _ _ _ _ _) | (with_reducible exact spec_reader_blanks.mono _ _ _) | (with_reducible exact spec_reader_number.mono _ _ _) | (with_reducible exact spec_reader_quoted.mono _ _ _) | (with_reducible exact LeO.refl _) | (with_reducible exact LeO.none _) | (with_reducible refine LeO.ite ?_ ?_) | (with_reducible refine LeO.bind ?_ (fun _ => ?_)) | exact ih0 _ _ | exact ih1 _ _ _ _ | exact ih2 _ _ _ _ _ _ | exact ih3 _ _ | exact ih4 _ _ _ | exact ih5 _ _ | exact ih6 _ _ _ _ _ _ _ | exact spec_reader_blanks.mono _ _ _ | exact spec_reader_number.mono _ _ _ | exact spec_reader_quoted.mono _ _ _ | exact LeO.none _ | refine LeO.ite ?_ ?_ | refine LeO.bind ?_ (fun _ => ?_)) : P := h
theorem Z47 {P : Prop} (h : P := by have := HK1.out; first | omega | exact Nat.le_refl _) : P := h
theorem Z48 {P : Prop} (h : P := by repeat (first | (with_reducible first | exact HB.out | apply below_alloc | apply pw_below_drewN | apply below_drew1 | refine below_set ?_ (IsS48.ge HI266.out) | refine below_set ?_ GE265.out) | exact HB.out)) : P := h
theorem Z49 {P : Prop} (h : P := by (with_reducible repeat (first | apply Kd.V_alloc | apply Kd.V_drewN | apply Kd.V_drew)); exact Kd.V_mono HO_1.out (fun _ hk => ⟨⟨hk.1.1, hk.2⟩, hk.1.2⟩)) : P := h
theorem Z50 {P : Prop} (h : P := by (with_reducible repeat (first | refine blk_drewN ?_ _ | refine blk_drew ?_ | refine blk_alloc ?_ _)); refine blk_far ?_ NB230_231.out _; (with_reducible repeat (first | refine blk_drewN ?_ _ | refine blk_drew ?_ | refine blk_alloc ?_ _)); exact BK230.out) : P := h
theorem Z51 {P : Prop} (h : P := by (with_reducible repeat (first | refine blk_drewN ?_ _ | refine blk_drew ?_ | refine blk_alloc ?_ _)); refine blk_put (cs := #[.int .i64 0, .int .i64 s0_1, .int .i64 0, .slice none 0 0, .slice none 0 0]) ?_ 0 _ rfl; (with_reducible repeat (first | refine blk_drewN ?_ _ | refine blk_drew ?_ | refine blk_alloc ?_ _)); exact BK231.out) : P := h
theorem Z52 {P : Prop} (h : P := by injection e319) : P := h
theorem Z53 {P : Prop} (h : P := by injection e514) : P := h
theorem Z54 {P : Prop} (h : P := by repeat' first | (with_reducible exact ih0 _ _ _ _ _ _ _ _ _ _ _) | (with_reducible exact ih1 _ _ _ _ _ _ _ _ _ _ _ _ _ _ _) | (with_reducible exact ih2 _ _ _ _ _ _ _ _ _ _ _ _) | (with_reducible exact ih3 _ _ _ _ _ _ _ _ _ _ _ _ _) | (with_reducible exact ih4 _ _ _ _ _ _ _ _ _ _ _) | (with_reducible exact ih5 _ _ _ _ _ _ _ _ _ _ _ _ _ _) | (with_reducible exact spec_bareTo.mono _ _ _ _ _ _ _ _) | (with_reducible exact spec_lineTo.mono _ _ _ _ _ _ _ _) | (with_reducible exact spec_objects.mono _ _ _ _ _ _) | (with_reducible exact LeO.refl _) | (with_reducible exact LeO.none _) | (with_reducible refine LeO.ite ?_ ?_) | (with_reducible refine LeO.bind ?_ (fun _ => ?_)) | exact ih0 _ _ _ _ _ _ _ _ _ _ _ | exact ih1 _ _ _ _ _ _ _ _ _ _ _ _ _ _ _ | exact ih2 _ _ _ _ _ _ _ _ _ _ _ _ | exact ih3 _ _ _ _ _ _ _ _ _ _ _ _ _ | exact ih4 _ _ _ _ _ _ _ _ _ _ _ | exact ih5 _ _ _ _ _ _ _ _ _ _ _ _ _ _ | exact spec_bareTo.mono _ _ _ _ _ _ _ _ | exact spec_lineTo.mono _ _ _ _ _ _ _ _ | exact spec_objects.mono _ _ _ _ _ _ | exact LeO.none _ | refine LeO.ite ?_ ?_ | refine LeO.bind ?_ (fun _ => ?_)) : P := h
theorem Z55 {P : Prop} (h : P := by repeat (first | (with_reducible first | exact HB.out | apply below_alloc | apply pw_below_drewN | apply below_drew1 | refine below_set ?_ GE777.out) | exact HB.out)) : P := h
theorem Z56 {P : Prop} (h : P := by simp [Value.ownBlock]) : P := h
theorem Z57 {P : Prop} (h : P := by repeat (first | (with_reducible first | exact HI266.out | apply IsS48.alloc | apply IsS48.drewN | apply IsS48.drew | apply IsS48.set_0 | apply IsS48.set_1 | refine IsS48.far ?_ NB266_265.out _) | exact HI266.out)) : P := h
theorem Z58 {P : Prop} (h : P := by repeat (first | (with_reducible first | exact HB.out | apply below_alloc | apply pw_below_drewN | apply below_drew1 | refine below_set ?_ (IsS48.ge HI266.out) | refine below_set ?_ GE265.out | refine below_set ?_ GE281.out) | exact HB.out)) : P := h
theorem Z59 {P : Prop} (h : P := by repeat (first | (with_reducible first | exact HB.out | apply below_alloc | apply pw_below_drewN | apply below_drew1 | refine below_set ?_ GE284.out) | exact HB.out)) : P := h
theorem Z60 {P : Prop} (h : P := by have := HJ15.out; first | omega | exact Nat.le_refl _) : P := h
theorem Z61 {P : Prop} (h : P := by have := HJ13.out; have := HJ43.out; have := HK3.out; have := HJ106.out; have := HJ111.out; first | omega | exact Nat.le_refl _) : P := h
theorem Z62 {P : Prop} (h : P := by (try simp only [hl1_3]); (with_reducible repeat (first | refine blk_drewN ?_ _ | refine blk_drew ?_ | refine blk_alloc ?_ _)); exact BK448.out) : P := h
theorem Z63 {P : Prop} (h : P := by (try simp only [hl1_3]); (try simp only [hl1_123]); (with_reducible repeat (first | apply Kd.R_alloc | apply Kd.R_drewN | apply Kd.R_drew)); first | exact HO_0.out | exact own_to HO_0.out) : P := h
theorem Z64 {P : Prop} (h : P := by (with_reducible repeat (first | apply Kd.V_alloc | apply Kd.V_drewN | apply Kd.V_drew)); exact Kd.V_mono HO_582004.out (fun _ hk => ⟨⟨hk.1, hk.2.2⟩, hk.2.1⟩)) : P := h
theorem Z65 {P : Prop} (h : P := by repeat (first | (with_reducible first | exact HB.out | apply below_alloc | apply pw_below_drewN | apply below_drew1 | refine below_set ?_ GE626.out) | exact HB.out)) : P := h
theorem Z66 {P : Prop} (h : P := by repeat (first | (with_reducible first | exact HI266.out | apply IsS48.alloc | apply IsS48.drewN | apply IsS48.drew | apply IsS48.set_0 | apply IsS48.set_1 | refine IsS48.far ?_ NB266_265.out _ | refine IsS48.far ?_ NB266_281.out _) | exact HI266.out)) : P := h
theorem Z67 {P : Prop} (h : P := by repeat' first | (with_reducible exact ih0 _ _ _) | (with_reducible exact ih1 _ _ _ _) | (with_reducible exact ih2 _ _ _) | (with_reducible exact ih3 _ _ _ _) | (with_reducible exact LeO.refl _) | (with_reducible exact LeO.none _) | (with_reducible refine LeO.ite ?_ ?_) | (with_reducible refine LeO.bind ?_ (fun _ => ?_)) | exact ih0 _ _ _ | exact ih1 _ _ _ _ | exact ih2 _ _ _ | exact ih3 _ _ _ _ | exact LeO.none _ | refine LeO.ite ?_ ?_ | refine LeO.bind ?_ (fun _ => ?_)) : P := h
theorem Z68 {P : Prop} (h : P := by exact Kd.V_mono (HO_1.out) (fun k_ hk_ => ⟨hk_, hk_.2⟩)) : P := h
theorem Z69 {P : Prop} (h : P := by have := HJ13.out; have := HJ43.out; have := HK3.out; first | omega | exact Nat.le_refl _) : P := h
theorem Z70 {P : Prop} (h : P := by have := HJ13.out; have := HJ43.out; have := HK3.out; have := HJ106.out; first | omega | exact Nat.le_refl _) : P := h
theorem Z71 {P : Prop} (h : P := by (try simp only [hl1_3]); (with_reducible repeat (first | apply Kd.V_alloc | apply Kd.V_drewN | apply Kd.V_drew)); exact Kd.V_mono HO_1.out (fun _ hk => ⟨hk.1, ⟨hk.2.2, hk.2.1⟩⟩)) : P := h
theorem Z72 {P : Prop} (h : P := by (try simp only [hl1_3]); (try simp only [hl1_123]); (with_reducible repeat (first | apply Kd.V_alloc | apply Kd.V_drewN | apply Kd.V_drew)); first | exact HO_1.out | exact own_to HO_1.out) : P := h
theorem Z73 {P : Prop} (h : P := by repeat' first | (with_reducible exact ih0 _ _ _ _ _ _ _) | (with_reducible exact ih1 _ _ _ _ _ _ _ _) | (with_reducible exact ih2 _ _ _ _ _ _ _ _ _) | (with_reducible exact ih3 _ _ _ _ _ _ _ _ _ _) | (with_reducible exact LeO.refl _) | (with_reducible exact LeO.none _) | (with_reducible refine LeO.ite ?_ ?_) | (with_reducible refine LeO.bind ?_ (fun _ => ?_)) | exact ih0 _ _ _ _ _ _ _ | exact ih1 _ _ _ _ _ _ _ _ | exact ih2 _ _ _ _ _ _ _ _ _ | exact ih3 _ _ _ _ _ _ _ _ _ _ | exact LeO.none _ | refine LeO.ite ?_ ?_ | refine LeO.bind ?_ (fun _ => ?_)) : P := h
theorem Z74 {P : Prop} (h : P := by (with_reducible repeat (first | apply Kd.V_alloc | apply Kd.V_drewN | apply Kd.V_drew)); exact Kd.V_mono HO_582004.out (fun _ hk => ⟨hk.1, ⟨hk.2.2, hk.2.1⟩⟩)) : P := h
theorem Z75 {P : Prop} (h : P := by (with_reducible repeat (first | apply Kd.V_alloc | apply Kd.V_drewN | apply Kd.V_drew)); exact Kd.V_mono HO_692004.out (fun _ hk => ⟨⟨hk.1, ⟨hk.2.2.1, hk.2.2.2⟩⟩, hk.2.1⟩)) : P := h
theorem Z76 {P : Prop} (h : P := by have := HJ17.out; have := HJ31.out; have := HK3.out; omega) : P := h
theorem Z77 {P : Prop} (h : P := by repeat (first | (with_reducible first | exact HB.out | apply below_alloc | apply pw_below_drewN | apply below_drew1 | refine below_set ?_ GE762.out | refine below_set ?_ GE763.out) | exact HB.out)) : P := h
theorem Z78 {P : Prop} (h : P := by repeat' first | (with_reducible exact ih0 _ _ _) | (with_reducible exact ih1 _ _ _) | (with_reducible exact ih2 _ _ _) | (with_reducible exact spec_reader_digits.mono _ _ _) | (with_reducible exact LeO.refl _) | (with_reducible exact LeO.none _) | (with_reducible refine LeO.ite ?_ ?_) | (with_reducible refine LeO.bind ?_ (fun _ => ?_)) | exact ih0 _ _ _ | exact ih1 _ _ _ | exact ih2 _ _ _ | exact spec_reader_digits.mono _ _ _ | exact LeO.none _ | refine LeO.ite ?_ ?_ | refine LeO.bind ?_ (fun _ => ?_)) : P := h
theorem Z79 {P : Prop} (h : P := by repeat (first | (with_reducible first | exact HI0.out | apply IsS48.alloc | apply IsS48.drewN | apply IsS48.drew | apply IsS48.set_0 | apply IsS48.set_1 | refine IsS48.far ?_ NB0_230.out _) | exact HI0.out)) : P := h
theorem Z80 {P : Prop} (h : P := by repeat (first | (with_reducible first | exact HK.out | apply KeepBut.set_ | apply keep_drewN | apply keep_drew | apply keep_alloc | refine keep_far ?_ GW230.out _) | exact HK.out)) : P := h
theorem Z81 {P : Prop} (h : P := by repeat (first | (with_reducible first | exact HB.out | apply below_alloc | apply pw_below_drewN | apply below_drew1 | refine below_set ?_ GE265.out) | exact HB.out)) : P := h
theorem Z82 {P : Prop} (h : P := by have := HK1.out; have := HK2.out; omega) : P := h
theorem Z83 {P : Prop} (h : P := by have := HJ4.out; first | omega | exact Nat.le_refl _) : P := h
theorem Z84 {P : Prop} (h : P := by have := HJ13.out; have := HJ43.out; have := HK3.out; have := HJ106.out; have := HJ111.out; have := HJ123.out; first | omega | exact Nat.le_refl _) : P := h
theorem Z85 {P : Prop} (h : P := by have := HJ13.out; have := HJ43.out; have := HK3.out; have := HJ106.out; have := HJ111.out; have := HJ123.out; have := HJ156.out; have := HJ171.out; first | omega | exact Nat.le_refl _) : P := h
theorem Z86 {P : Prop} (h : P := by have := HK1.out; have := HJ19.out; omega) : P := h
theorem Z87 {P : Prop} (h : P := by (with_reducible repeat (first | apply Kd.V_alloc | apply Kd.V_drewN | apply Kd.V_drew)); exact Kd.V_mono HO_655004.out (fun _ hk => ⟨⟨hk.1, ⟨hk.2.2.1, hk.2.2.2⟩⟩, hk.2.1⟩)) : P := h
theorem Z88 {P : Prop} (h : P := by (with_reducible repeat (first | apply Kd.V_alloc | apply Kd.V_drewN | apply Kd.V_drew)); exact Kd.V_mono HO3_4.out (fun _ hk => ⟨hk.1.1.1, ⟨hk.1.1.2, ⟨hk.1.2, hk.2⟩⟩⟩)) : P := h
theorem Z89 {P : Prop} (h : P := by repeat (first | (with_reducible first | exact HB.out | apply below_alloc | apply pw_below_drewN | apply below_drew1 | refine below_set ?_ GE762.out) | exact HB.out)) : P := h
theorem Z90 {P : Prop} (h : P := by repeat' first | (with_reducible exact ih0 _ _) | (with_reducible exact ih1 _ _) | (with_reducible exact LeO.refl _) | (with_reducible exact LeO.none _) | (with_reducible refine LeO.ite ?_ ?_) | (with_reducible refine LeO.bind ?_ (fun _ => ?_)) | exact ih0 _ _ | exact ih1 _ _ | exact LeO.none _ | refine LeO.ite ?_ ?_ | refine LeO.bind ?_ (fun _ => ?_)) : P := h
theorem Z91 {P : Prop} (h : P := by repeat' first | (with_reducible exact ih0 _ _ _ _) | (with_reducible exact ih1 _ _ _) | (with_reducible exact spec_hexDigit.mono _ _) | (with_reducible exact LeO.refl _) | (with_reducible exact LeO.none _) | (with_reducible refine LeO.ite ?_ ?_) | (with_reducible refine LeO.bind ?_ (fun _ => ?_)) | exact ih0 _ _ _ _ | exact ih1 _ _ _ | exact spec_hexDigit.mono _ _ | exact LeO.none _ | refine LeO.ite ?_ ?_ | refine LeO.bind ?_ (fun _ => ?_)) : P := h
theorem Z92 {P : Prop} (h : P := by have := HJ2.out; have := HJ11.out; first | omega | exact Nat.le_refl _) : P := h
theorem Z93 {P : Prop} (h : P := by (with_reducible repeat (first | apply Kd.R_alloc | apply Kd.R_drewN | apply Kd.R_drew)); exact Kd.R_mono HO165.out (fun _ hk => trivial)) : P := h
theorem Z94 {P : Prop} (h : P := by (with_reducible repeat (first | apply Kd.R_alloc | apply Kd.R_drewN | apply Kd.R_drew)); exact Kd.R_mono HO188.out (fun _ hk => hk.1)) : P := h
theorem Z95 {P : Prop} (h : P := by (with_reducible repeat (first | apply Kd.R_alloc | apply Kd.R_drewN | apply Kd.R_drew)); exact Kd.R_mono HO219.out (fun _ hk => trivial)) : P := h
theorem Z96 {P : Prop} (h : P := by rw [hg]; exact Nat.ne_of_lt (blk_lt (g := gb265) (o := .cells #[.int .i64 0, .int .i64 0, .int .i64 0, .slice none 0 0, .slice none 0 0] 28 (0, 0)) (pB BK265.out))) : P := h
theorem Z97 {P : Prop} (h : P := by rw [hg]; exact Nat.ne_of_gt (blk_lt (g := gb265) (o := .cells #[.int .i64 0, .int .i64 0, .int .i64 0, .slice none 0 0, .slice none 0 0] 28 (0, 0)) (pB BK265.out))) : P := h
theorem Z98 {P : Prop} (h : P := by (with_reducible repeat (first | refine blk_drewN ?_ _ | refine blk_drew ?_ | refine blk_alloc ?_ _)); refine blk_put (cs := #[.int .i64 0, .int .i64 0, .int .i64 0, .slice none 0 0, .slice none 0 0]) ?_ 4 _ rfl; (with_reducible repeat (first | refine blk_drewN ?_ _ | refine blk_drew ?_ | refine blk_alloc ?_ _)); refine blk_put (cs := #[.int .i64 0, .int .i64 0, .int .i64 0, .slice none 0 0, .slice none 0 0]) ?_ 3 _ rfl; (with_reducible repeat (first | refine blk_drewN ?_ _ | refine blk_drew ?_ | refine blk_alloc ?_ _)); refine blk_put (cs := #[.int .i64 0, .int .i64 0, .int .i64 0, .slice none 0 0, .slice none 0 0]) ?_ 2 _ rfl; (with_reducible repeat (first | refine blk_drewN ?_ _ | refine blk_drew ?_ | refine blk_alloc ?_ _)); refine blk_put (cs := #[.int .i64 0, .int .i64 0, .int .i64 0, .slice none 0 0, .slice none 0 0]) ?_ 1 _ rfl; (with_reducible repeat (first | refine blk_drewN ?_ _ | refine blk_drew ?_ | refine blk_alloc ?_ _)); refine blk_put (cs := #[.int .i64 0, .int .i64 0, .int .i64 0, .slice none 0 0, .slice none 0 0]) ?_ 0 _ rfl; (with_reducible repeat (first | refine blk_drewN ?_ _ | refine blk_drew ?_ | refine blk_alloc ?_ _)); exact BK265.out) : P := h
theorem Z99 {P : Prop} (h : P := by repeat' first | (with_reducible exact ih0 _ _ _ _ _) | (with_reducible exact ih1 _ _ _ _ _ _ _) | (with_reducible exact LeO.refl _) | (with_reducible exact LeO.none _) | (with_reducible refine LeO.ite ?_ ?_) | (with_reducible refine LeO.bind ?_ (fun _ => ?_)) | exact ih0 _ _ _ _ _ | exact ih1 _ _ _ _ _ _ _ | exact LeO.none _ | refine LeO.ite ?_ ?_ | refine LeO.bind ?_ (fun _ => ?_)) : P := h
theorem Z100 {P : Prop} (h : P := by first | rfl | (simp [errW_none, errW_some] <;> rfl) | (simp only [← hji62]; first | rfl | (simp [errW_none, errW_some] <;> rfl)) | (simp [*, errW_none, errW_some] <;> rfl)) : P := h
theorem Z101 {P : Prop} (h : P := by first | rfl | (simp [errW_none, errW_some] <;> rfl) | (simp only [← hji62, ← hji79]; first | rfl | (simp [errW_none, errW_some] <;> rfl)) | (simp [*, errW_none, errW_some] <;> rfl)) : P := h
theorem Z102 {P : Prop} (h : P := by first | rfl | (simp [errW_none, errW_some] <;> rfl) | (simp only [← hji93]; first | rfl | (simp [errW_none, errW_some] <;> rfl)) | (simp [*, errW_none, errW_some] <;> rfl)) : P := h
theorem Z103 {P : Prop} (h : P := by (try simp only [hl1_3]); (with_reducible repeat (first | apply Kd.R_alloc | apply Kd.R_drewN | apply Kd.R_drew)); first | exact HO444.out | exact own_to HO444.out) : P := h
theorem Z104 {P : Prop} (h : P := by (try simp only [hl1_3]); (try simp only [hl1_123]); (with_reducible repeat (first | apply Kd.V_alloc | apply Kd.V_drewN | apply Kd.V_drew)); exact Kd.V_mono HO_1.out (fun _ hk => ⟨hk.1.1, ⟨hk.2, hk.1.2⟩⟩)) : P := h
theorem Z105 {P : Prop} (h : P := by have := HJ13.out; have := HJ43.out; have := HK3.out; have := HJ106.out; have := HJ111.out; have := HJ123.out; have := HJ156.out; first | omega | exact Nat.le_refl _) : P := h
theorem Z106 {P : Prop} (h : P := by (try simp only [hl1_3]); (try simp only [hl1_123]); (with_reducible repeat (first | apply Kd.R_alloc | apply Kd.R_drewN | apply Kd.R_drew)); first | exact HO480.out | exact own_to HO480.out) : P := h
theorem Z107 {P : Prop} (h : P := by (try simp only [hl1_3]); (try simp only [hl1_123]); (with_reducible repeat (first | apply Kd.V_alloc | apply Kd.V_drewN | apply Kd.V_drew)); exact Kd.V_mono HO_1.out (fun _ hk => ⟨hk.1, ⟨hk.2.2, hk.2.1⟩⟩)) : P := h
theorem Z108 {P : Prop} (h : P := by (with_reducible repeat (first | apply Kd.V_alloc | apply Kd.V_drewN | apply Kd.V_drew)); exact Kd.V_mono HO2_4.out (fun _ hk => ⟨hk.1.1, ⟨hk.1.2, hk.2⟩⟩)) : P := h
theorem Z109 {P : Prop} (h : P := by repeat' first | (with_reducible exact ih0 _ _ _ _ _) | (with_reducible exact ih1 _ _ _ _ _ _ _ _) | (with_reducible exact LeO.refl _) | (with_reducible exact LeO.none _) | (with_reducible refine LeO.ite ?_ ?_) | (with_reducible refine LeO.bind ?_ (fun _ => ?_)) | exact ih0 _ _ _ _ _ | exact ih1 _ _ _ _ _ _ _ _ | exact LeO.none _ | refine LeO.ite ?_ ?_ | refine LeO.bind ?_ (fun _ => ?_)) : P := h
theorem Z110 {P : Prop} (h : P := by repeat' first | (with_reducible exact ih0 _ _ _ _ _ _ _) | (with_reducible exact ih1 _ _ _ _ _ _ _ _ _) | (with_reducible exact LeO.refl _) | (with_reducible exact LeO.none _) | (with_reducible refine LeO.ite ?_ ?_) | (with_reducible refine LeO.bind ?_ (fun _ => ?_)) | exact ih0 _ _ _ _ _ _ _ | exact ih1 _ _ _ _ _ _ _ _ _ | exact LeO.none _ | refine LeO.ite ?_ ?_ | refine LeO.bind ?_ (fun _ => ?_)) : P := h
theorem Z111 {P : Prop} (h : P := by (with_reducible repeat (first | apply Kd.V_alloc | apply Kd.V_drewN | apply Kd.V_drew)); exact Kd.V_mono HO2_4.out (fun _ hk => ⟨⟨hk.1.1, hk.2⟩, hk.1.2⟩)) : P := h
theorem Z112 {P : Prop} (h : P := by repeat (first | (with_reducible first | exact HK.out | apply Kept.alloc | apply Kept.drewN | apply Kept.drew | refine Kept.setCell ?_ (.inr GW653.out) _) | exact HK.out)) : P := h
theorem Z113 {P : Prop} (h : P := by repeat (first | (with_reducible first | exact HB.out | apply below_alloc | apply pw_below_drewN | apply below_drew1 | refine below_set ?_ GE653.out) | exact HB.out)) : P := h
theorem Z114 {P : Prop} (h : P := by (with_reducible repeat (first | apply Kd.V_alloc | apply Kd.V_drewN | apply Kd.V_drew)); exact Kd.V_mono HO_655004.out (fun _ hk => ⟨hk.1, ⟨hk.2.2.2, ⟨hk.2.1, hk.2.2.1⟩⟩⟩)) : P := h
theorem Z115 {P : Prop} (h : P := by repeat (first | (with_reducible first | exact HK.out | apply Kept.alloc | apply Kept.drewN | apply Kept.drew | refine Kept.setCell ?_ (.inr GW690.out) _) | exact HK.out)) : P := h
theorem Z116 {P : Prop} (h : P := by repeat (first | (with_reducible first | exact HB.out | apply below_alloc | apply pw_below_drewN | apply below_drew1 | refine below_set ?_ GE690.out) | exact HB.out)) : P := h
theorem Z117 {P : Prop} (h : P := by (with_reducible repeat (first | apply Kd.V_alloc | apply Kd.V_drewN | apply Kd.V_drew)); exact Kd.V_mono HO_692004.out (fun _ hk => ⟨⟨hk.1.1.1, ⟨hk.2, ⟨hk.1.1.2.1, hk.1.1.2.2⟩⟩⟩, hk.1.2⟩)) : P := h
theorem Z118 {P : Prop} (h : P := by (with_reducible repeat (first | apply Kd.V_alloc | apply Kd.V_drewN | apply Kd.V_drew)); exact Kd.V_mono HO_692004.out (fun _ hk => ⟨hk.1, ⟨hk.2.2.2.2, ⟨hk.2.2.1, hk.2.2.2.1⟩⟩⟩)) : P := h
theorem Z119 {P : Prop} (h : P := by first | exact HK.out.1 | exact (show Kept w _ (fun k_ => P0_ k_) from Z7).1) : P := h
theorem Z120 {P : Prop} (h : P := by first | exact HK.out.1 | exact (show Kept w _ (fun k_ => P1_ k_) from Z14).1) : P := h
theorem Z121 {P : Prop} (h : P := by rw [hg]; exact (below_size Z6)) : P := h
theorem Z122 {P : Prop} (h : P := by first | exact p667 | (with_reducible assumption) | exact of_decide_eq_true Z0) : P := h
theorem Z123 {P : Prop} (h : P := by first | exact q667 | exact of_decide_eq_true Z0 | (have e_ := (Kd.V_reads' (HO_655004.out)).1; omega)) : P := h
theorem Z124 {P : Prop} (h : P := by first | exact p677 | (with_reducible assumption) | exact of_decide_eq_true Z0) : P := h
theorem Z125 {P : Prop} (h : P := by first | exact q677 | exact of_decide_eq_true Z0 | (have e_ := (Kd.V_reads' (HO_655004.out)).1; omega)) : P := h
theorem Z126 {P : Prop} (h : P := by first | exact p728 | (with_reducible assumption) | exact of_decide_eq_true Z0) : P := h
theorem Z127 {P : Prop} (h : P := by first | exact q728 | exact of_decide_eq_true Z0 | (have e_ := (Kd.V_reads' (HO_692004.out)).1; omega)) : P := h
theorem Z128 {P : Prop} (h : P := by first | exact p749 | (with_reducible assumption) | exact of_decide_eq_true Z0) : P := h
theorem Z129 {P : Prop} (h : P := by first | exact q749 | exact of_decide_eq_true Z0 | (have e_ := (Kd.V_reads' (HO_692004.out)).1; omega)) : P := h
theorem Z130 {P : Prop} (h : P := by first | exact HK.out.1 | exact (show Kept w _ (fun k_ => P0_ k_) from Z18).1) : P := h
theorem Z131 {P : Prop} (h : P := by first | exact HK.out.1 | exact (show Kept w _ (fun k_ => P1_ k_) from Z23).1) : P := h
theorem Z132 {P : Prop} (h : P := by first | exact HK.out.1 | exact (show Kept w _ (fun k_ => P0_ k_) from Z16).1) : P := h
theorem Z133 {P : Prop} (h : P := by first | exact HK.out.1 | exact (show Kept w _ (fun k_ => P0_ k_) from Z30).1) : P := h
theorem Z134 {P : Prop} (h : P := by rw [hg]; exact (keep_size (w := w) (g := g) (row := none) Z10)) : P := h
theorem Z135 {P : Prop} (h : P := by rw [← add_field _ _ 1 Z5]; exact hc 1 _ rfl) : P := h
theorem Z136 {P : Prop} (h : P := by first | exact HK.out.1 | exact (show Kept w _ (fun k_ => P1_ k_) from Z7).1) : P := h
theorem Z137 {P : Prop} (h : P := by first | (rw [add_block]; exact (fun hs_ => ((Kd.V_blk (HO_655004.out) z28 x27_1 Z122 Z123 Z2).2) hs_)) | (show ¬ _; simp only [add_block]; exact (fun hs_ => ((Kd.V_blk (HO_655004.out) z28 x27_1 Z122 Z123 Z2).2) hs_)) | exact (fun hs_ => ((Kd.V_blk (HO_655004.out) z28 x27_1 Z122 Z123 Z2).2) hs_)) : P := h
theorem Z138 {P : Prop} (h : P := by first | (rw [add_block]; exact (fun hs_ => ((Kd.V_blk (HO_655004.out) z28 x27_1 Z124 Z125 Z2).2) hs_)) | (show ¬ _; simp only [add_block]; exact (fun hs_ => ((Kd.V_blk (HO_655004.out) z28 x27_1 Z124 Z125 Z2).2) hs_)) | exact (fun hs_ => ((Kd.V_blk (HO_655004.out) z28 x27_1 Z124 Z125 Z2).2) hs_)) : P := h
theorem Z139 {P : Prop} (h : P := by first | (rw [add_block]; exact (fun hs_ => ((Kd.V_blk (HO_692004.out) z28 x71_3 Z126 Z127 Z2).2) hs_)) | (show ¬ _; simp only [add_block]; exact (fun hs_ => ((Kd.V_blk (HO_692004.out) z28 x71_3 Z126 Z127 Z2).2) hs_)) | exact (fun hs_ => ((Kd.V_blk (HO_692004.out) z28 x71_3 Z126 Z127 Z2).2) hs_)) : P := h
theorem Z140 {P : Prop} (h : P := by first | (rw [add_block]; exact (fun hs_ => ((Kd.V_blk (HO_692004.out) z28 x71_3 Z128 Z129 Z2).2) hs_)) | (show ¬ _; simp only [add_block]; exact (fun hs_ => ((Kd.V_blk (HO_692004.out) z28 x71_3 Z128 Z129 Z2).2) hs_)) | exact (fun hs_ => ((Kd.V_blk (HO_692004.out) z28 x71_3 Z128 Z129 Z2).2) hs_)) : P := h
end Go.Proofs.Ytffdebhaclkhjaa.PFnPrWholeDefault
