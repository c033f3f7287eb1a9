/- Short names for proofs that are told often: each lemma proves what it is asked by the tactic it keeps. -/
import Derived.ArgAppend
import Derived.Below
import Derived.BigQuiet
import Derived.Deep.AppendLies
import Derived.Deep.CutBlock
import Derived.Deep.DeepCutAuto
import Derived.Deep.Draws
import Derived.Deep.LoopGhost
import Derived.Deep.OwnRows
import Derived.Deep.QuietTactic
import Derived.Deep.RegionHeld3
import Derived.KernelRfl
import Derived.Laws.BitsLemmas
import Derived.Laws.BytesArg
import Derived.Laws.IdiomCopy
import Derived.Laws.MakeOwn
import Derived.Laws.OwnMore
import Derived.Laws.Rows
import Derived.Laws.Slices
import Derived.Lib.AppendStr
import Derived.Lib.ConvBytes
import Derived.Maps.AppendAt
import Derived.OrdersHeld
import Derived.OwnWalk
import Derived.RowKit
import Derived.RowKit3
import Derived.Tactics
import Derived.Test.YtieflhncpjjciaaGreatDoorProg
import Derived.WalkKit
import Derived.WideLaws
import Derived.Test.YtieflhncpjjciaaGreatDoorVw
set_option linter.unusedVariables false
namespace Go.Proofs.YtieflhncpjjciaaGreatDoor.PFnGjSquashItems
open Go.RowKit Go.Proofs.YtieflhncpjjciaaGreatDoorW.PrintWords Go.Proofs.YtieflhncpjjciaaGreatDoorW.PrintLast Go.Proofs.YtieflhncpjjciaaGreatDoorW.PrintMore
attribute [local go_sem] max2_int min2_int max_two min_two max_three min_three max_four min_four
set_option linter.unusedVariables false
set_option linter.unusedSimpArgs false
theorem bind_y {α β:Type} {y a:α} {f:α→Option β} {r:Option β} (h:y=a) (H:(some a).bind f=r):f y=r:=by subst h;exact H
theorem pR {P Q:Prop} (h:P) (e:P→Q:=by intro h_;(with_reducible repeat (first | apply Kd.R_alloc | apply Kd.R_drewN | apply Kd.R_drew));first | exact h_ | exact own_to h_):Q:=e h
theorem pV {P Q:Prop} (h:P) (e:P→Q:=by intro h_;(with_reducible repeat (first | apply Kd.V_alloc | apply Kd.V_drewN | apply Kd.V_drew));first | exact h_ | exact own_to h_):Q:=e h
theorem pN {P Q:Prop} (h:P) (e:P→Q:=by intro h_;(with_reducible repeat (first | apply Kd.N_alloc | apply Kd.N_drewN | apply Kd.N_drew));first | exact h_ | exact own_to h_):Q:=e h
theorem pQ {P Q:Prop} (h:P) (e:P→Q:=by intro h_;(with_reducible repeat (first | apply Kd.Q_alloc | apply Kd.Q_drewN | apply Kd.Q_drew));first | exact h_ | exact own_to h_):Q:=e h
theorem pS {P Q:Prop} (h:P) (e:P→Q:=by intro h_;(with_reducible repeat (first | apply Kd.S_alloc | apply Kd.S_drewN | apply Kd.S_drew));first | exact h_ | exact own_to h_):Q:=e h
theorem pB {P Q:Prop} (h:P) (e:P→Q:=by intro h_;(with_reducible repeat (first | refine bkn ?_ _ | refine bkd ?_ | refine bka ?_ _));exact h_):Q:=e h
theorem Z0 {P:Prop} (h:P:=by first | rfl | (simp;done) | (simp [*];done)):P:=h
theorem Z1 {P:Prop} (h:P:=by kernel_rfl):P:=h
theorem Z2 {P:Prop} (h:P:=by decide):P:=h
theorem Z3 {P:Prop} (h:P:=by repeat (first | (with_reducible first | exact HI0.out | apply IsS72.alloc | apply IsS72.drewN | apply IsS72.drew | apply IsS72.set_0 | apply IsS72.set_1) | exact HI0.out)):P:=h
theorem Z4 {P:Prop} (h:P:=by repeat (first | (with_reducible first | exact HK.out | apply KeepBut.set_ | apply keep_drewN | apply keep_drew | apply keep_alloc) | exact HK.out)):P:=h
theorem Z5 {P:Prop} (h:P:=by repeat (first | exact Drawn0.refl _ | apply Drawn0.step)):P:=h
theorem Z6 {P:Prop} (h:P:=by simp):P:=h
theorem Z7 {P:Prop} (h:P:=by repeat (first | (with_reducible first | exact HB.out | apply below_alloc | apply pw_below_drewN | apply below_drew1 | refine below_set ?_ (IsS72.ge HI0.out)) | exact HB.out)):P:=h
theorem Z8 {P:Prop} (h:P:=by first | (with_reducible assumption) | assumption):P:=h
theorem Z9 {P:Prop} (h:P:=by rfl):P:=h
theorem Z10 {P:Prop} (h:P:=by (try simp only [List.map_toArray,List.map_cons,List.map_nil]);first | done | rfl | (simp only [List.length_drop,List.length_take];rfl) | (simp only [ByteArray.size_append,Int.natCast_add];first | done | rfl) | (go_simp;first | done | (simp [ByteArray.size_append,ByteArray.size_extract];done))):P:=h
theorem Z11 {P:Prop} (h:P:=by repeat (first | (with_reducible first | exact HB.out | apply below_alloc | apply pw_below_drewN | apply below_drew1) | exact HB.out)):P:=h
theorem Z12 {P:Prop} (h:P:=by first | rfl | (simp [errW_none,errW_some] <;> rfl) | (simp [*,errW_none,errW_some] <;> rfl)):P:=h
theorem Z13 {P:Prop} (h:P:=by first | exact Kd.R_nil _ _ _ _ _ | exact Kd.N_nil _ _ _ _ _ | exact Kd.V_nil _ _ _ _ _ | exact Kd.Q_nil _ _ _ _ _ | exact Kd.S_nil _ _ _ _ _):P:=h
theorem Z14 {P:Prop} (h:P:=by omega):P:=h
theorem Z15 {P:Prop} (h:P:=by first | omega | exact Nat.le_refl _):P:=h
theorem Z16 {P:Prop} (h:P:=by repeat (first | (with_reducible first | exact HK.out | apply Kept.alloc | apply Kept.drewN | apply Kept.drew) | exact HK.out)):P:=h
theorem Z17 {P:Prop} (h:P:=by first | (go_simp;done) | (go_simp;rfl)):P:=h
theorem Z18 {P:Prop} (h:P:=by repeat (first | (with_reducible first | exact HK.out | apply KeepBut.set_ | apply keep_drewN | apply keep_drew | apply keep_alloc | refine keep_far ?_ GW230.out _ | refine keep_far ?_ GW231.out _) | exact HK.out)):P:=h
theorem Z19 {P:Prop} (h:P:=by have:=HK1.out;omega):P:=h
theorem Z20 {P:Prop} (h:P:=by repeat (first | (with_reducible first | exact HI0.out | apply IsS72.alloc | apply IsS72.drewN | apply IsS72.drew | apply IsS72.set_0 | apply IsS72.set_1 | refine IsS72.far ?_ NB0_230.out _ | refine IsS72.far ?_ NB0_231.out _) | exact HI0.out)):P:=h
theorem Z21 {P:Prop} (h:P:=by repeat (first | (with_reducible first | exact HB.out | apply below_alloc | apply pw_below_drewN | apply below_drew1 | refine below_set ?_ (IsS72.ge HI0.out) | refine below_set ?_ GE230.out | refine below_set ?_ GE231.out) | exact HB.out)):P:=h
theorem Z22 {P:Prop} (h:P:=by repeat (first | (with_reducible first | exact HI0.out | apply IsS72.alloc | apply IsS72.drewN | apply IsS72.drew | apply IsS72.set_0 | apply IsS72.set_1 | refine IsS72.far ?_ NB0_185.out _) | exact HI0.out)):P:=h
theorem Z23 {P:Prop} (h:P:=by repeat (first | (with_reducible first | exact HB.out | apply below_alloc | apply pw_below_drewN | apply below_drew1 | refine below_set ?_ GE340.out | refine below_set ?_ GE341.out | refine below_set ?_ GE342.out) | exact HB.out)):P:=h
theorem Z24 {P:Prop} (h:P:=by repeat (first | (with_reducible first | exact HI0.out | apply IsS72.alloc | apply IsS72.drewN | apply IsS72.drew | apply IsS72.set_0 | apply IsS72.set_1 | refine IsS72.far ?_ NB0_216.out _) | exact HI0.out)):P:=h
theorem Z25 {P:Prop} (h:P:=by repeat (first | (with_reducible first | exact HK.out | apply KeepBut.set_ | apply keep_drewN | apply keep_drew | apply keep_alloc | refine keep_far ?_ GW185.out _) | exact HK.out)):P:=h
theorem Z26 {P:Prop} (h:P:=by repeat (first | (with_reducible first | exact HK.out | apply KeepBut.set_ | apply keep_drewN | apply keep_drew | apply keep_alloc | refine keep_far ?_ GW216.out _) | exact HK.out)):P:=h
theorem Z27 {P:Prop} (h:P:=by repeat (first | (with_reducible first | exact HB.out | apply below_alloc | apply pw_below_drewN | apply below_drew1 | refine below_set ?_ (IsS72.ge HI0.out) | refine below_set ?_ GE185.out) | exact HB.out)):P:=h
theorem Z28 {P:Prop} (h:P:=by repeat (first | (with_reducible first | exact HB.out | apply below_alloc | apply pw_below_drewN | apply below_drew1 | refine below_set ?_ (IsS72.ge HI0.out) | refine below_set ?_ GE216.out) | exact HB.out)):P:=h
theorem Z29 {P:Prop} (h:P:=by repeat (first | (with_reducible first | exact HB.out | apply below_alloc | apply pw_below_drewN | apply below_drew1 | refine below_set ?_ GE409.out) | exact HB.out)):P:=h
theorem Z30 {P:Prop} (h:P:=by repeat (first | (with_reducible first | exact HB.out | apply below_alloc | apply pw_below_drewN | apply below_drew1 | refine below_set ?_ GE394.out) | exact HB.out)):P:=h
theorem Z31 {P:Prop} (h:P:=by repeat (first | (with_reducible first | exact HB.out | apply below_alloc | apply pw_below_drewN | apply below_drew1 | refine below_set ?_ (IsS72.ge HI266.out) | refine below_set ?_ GE265.out) | exact HB.out)):P:=h
theorem Z32 {P:Prop} (h:P:=by (with_reducible repeat (first | refine bkn ?_ _ | refine bkd ?_ | refine bka ?_ _));refine blk_far ?_ NB230_231.out _;(with_reducible repeat (first | refine bkn ?_ _ | refine bkd ?_ | refine bka ?_ _));exact BK230.out):P:=h
theorem Z33 {P:Prop} (h:P:=by (with_reducible repeat (first | refine bkn ?_ _ | refine bkd ?_ | refine bka ?_ _));refine blk_put (cs:=#[.int .i64 0,.int .i64 s0_1,.int .i64 0,.slice none 0 0,.slice none 0 0]) ?_ 0 _ rfl;(with_reducible repeat (first | refine bkn ?_ _ | refine bkd ?_ | refine bka ?_ _));exact BK231.out):P:=h
theorem Z34 {P:Prop} (h:P:=by repeat (first | (with_reducible first | exact HB.out | apply below_alloc | apply pw_below_drewN | apply below_drew1 | refine below_set ?_ GE362.out) | exact HB.out)):P:=h
theorem Z35 {P:Prop} (h:P:=by repeat (first | (with_reducible first | exact HB.out | apply below_alloc | apply pw_below_drewN | apply below_drew1 | refine below_set ?_ GE362.out | refine below_set ?_ GE373.out) | exact HB.out)):P:=h
theorem Z36 {P:Prop} (h:P:=by repeat (first | (with_reducible first | exact HI266.out | apply IsS72.alloc | apply IsS72.drewN | apply IsS72.drew | apply IsS72.set_0 | apply IsS72.set_1 | refine IsS72.far ?_ NB266_265.out _) | exact HI266.out)):P:=h
theorem Z37 {P:Prop} (h:P:=by repeat (first | (with_reducible first | exact HB.out | apply below_alloc | apply pw_below_drewN | apply below_drew1 | refine below_set ?_ (IsS72.ge HI266.out) | refine below_set ?_ GE265.out | refine below_set ?_ GE281.out) | exact HB.out)):P:=h
theorem Z38 {P:Prop} (h:P:=by repeat (first | (with_reducible first | exact HI266.out | apply IsS72.alloc | apply IsS72.drewN | apply IsS72.drew | apply IsS72.set_0 | apply IsS72.set_1 | refine IsS72.far ?_ NB266_265.out _ | refine IsS72.far ?_ NB266_281.out _) | exact HI266.out)):P:=h
theorem Z39 {P:Prop} (h:P:=by exact Kd.R_tight rfl HO_3.out):P:=h
theorem Z40 {P:Prop} (h:P:=by repeat (first | (with_reducible first | exact HB.out | apply below_alloc | apply pw_below_drewN | apply below_drew1 | refine below_set ?_ GE407.out) | exact HB.out)):P:=h
theorem Z41 {P:Prop} (h:P:=by repeat (first | (with_reducible first | exact HB.out | apply below_alloc | apply pw_below_drewN | apply below_drew1 | refine below_set ?_ GE463.out) | exact HB.out)):P:=h
theorem Z42 {P:Prop} (h:P:=by have:=HJ2.out;have:=HK2.out;omega):P:=h
theorem Z43 {P:Prop} (h:P:=by repeat (first | (with_reducible first | exact HI0.out | apply IsS72.alloc | apply IsS72.drewN | apply IsS72.drew | apply IsS72.set_0 | apply IsS72.set_1 | refine IsS72.far ?_ NB0_230.out _) | exact HI0.out)):P:=h
theorem Z44 {P:Prop} (h:P:=by repeat (first | (with_reducible first | exact HK.out | apply KeepBut.set_ | apply keep_drewN | apply keep_drew | apply keep_alloc | refine keep_far ?_ GW230.out _) | exact HK.out)):P:=h
theorem Z45 {P:Prop} (h:P:=by repeat (first | (with_reducible first | exact HB.out | apply below_alloc | apply pw_below_drewN | apply below_drew1 | refine below_set ?_ GE265.out) | exact HB.out)):P:=h
theorem Z46 {P:Prop} (h:P:=by repeat (first | (with_reducible first | exact HB.out | apply below_alloc | apply pw_below_drewN | apply below_drew1 | refine below_set ?_ GE340.out) | exact HB.out)):P:=h
theorem Z47 {P:Prop} (h:P:=by repeat (first | (with_reducible first | exact HB.out | apply below_alloc | apply pw_below_drewN | apply below_drew1 | refine below_set ?_ GE340.out | refine below_set ?_ GE341.out) | exact HB.out)):P:=h
theorem Z48 {P:Prop} (h:P:=by (with_reducible repeat (first | refine bkn ?_ _ | refine bkd ?_ | refine bka ?_ _));refine blk_far ?_ NB340_342.out _;(with_reducible repeat (first | refine bkn ?_ _ | refine bkd ?_ | refine bka ?_ _));exact BK340.out):P:=h
theorem Z49 {P:Prop} (h:P:=by (with_reducible repeat (first | refine bkn ?_ _ | refine bkd ?_ | refine bka ?_ _));refine blk_far ?_ NB341_342.out _;(with_reducible repeat (first | refine bkn ?_ _ | refine bkd ?_ | refine bka ?_ _));exact BK341.out):P:=h
theorem Z50 {P:Prop} (h:P:=by have:=HJ7.out;first | omega | exact Nat.le_refl _):P:=h
theorem Z51 {P:Prop} (h:P:=by first | rfl | (simp;done) | (simp only [← hji18] <;> (first | rfl | simp)) | (simp [*];done)):P:=h
theorem Z52 {P:Prop} (h:P:=by (with_reducible repeat (first | refine bkn ?_ _ | refine bkd ?_ | refine bka ?_ _));refine blk_put (cs:=#[.int .i64 0,.string (⟨#[]⟩:ByteArray),.slice none 0 0,.slice none 0 0]) ?_ 3 _ rfl;(with_reducible repeat (first | refine bkn ?_ _ | refine bkd ?_ | refine bka ?_ _));refine blk_put (cs:=#[.int .i64 0,.string (⟨#[]⟩:ByteArray),.slice none 0 0,.slice none 0 0]) ?_ 2 _ rfl;(with_reducible repeat (first | refine bkn ?_ _ | refine bkd ?_ | refine bka ?_ _));refine blk_put (cs:=#[.int .i64 0,.string (⟨#[]⟩:ByteArray),.slice none 0 0,.slice none 0 0]) ?_ 1 _ rfl;(with_reducible repeat (first | refine bkn ?_ _ | refine bkd ?_ | refine bka ?_ _));refine blk_put (cs:=#[.int .i64 0,.string (⟨#[]⟩:ByteArray),.slice none 0 0,.slice none 0 0]) ?_ 0 _ rfl;(with_reducible repeat (first | refine bkn ?_ _ | refine bkd ?_ | refine bka ?_ _));exact BK394.out):P:=h
theorem Z53 {P:Prop} (h:P:=by have:=HJ3.out;have:=HK2.out;have:=HJ6.out;have:=HK4.out;have:=HK5.out;omega):P:=h
theorem Z54 {P:Prop} (h:P:=by have:=HJ3.out;have:=HK2.out;have:=HJ6.out;first | omega | exact Nat.le_refl _):P:=h
theorem Z55 {P:Prop} (h:P:=by have:=HJ3.out;have:=HK2.out;have:=HJ6.out;have:=HJ40.out;first | omega | exact Nat.le_refl _):P:=h
theorem Z56 {P:Prop} (h:P:=by repeat' first | (with_reducible exact ih0 _ _) | (with_reducible exact ih1 _ _) | (with_reducible exact LeO.refl _) | (with_reducible exact LeO.none _) | (with_reducible refine LeO.ite ?_ ?_) | (with_reducible refine LeO.bind ?_ (fun _=>?_)) | exact ih0 _ _ | exact ih1 _ _ | exact LeO.none _ | refine LeO.ite ?_ ?_ | refine LeO.bind ?_ (fun _=>?_)):P:=h
theorem Z57 {P:Prop} (h:P:=by have:=HJ2.out;have:=HJ11.out;first | omega | exact Nat.le_refl _):P:=h
theorem Z58 {P:Prop} (h:P:=by (with_reducible repeat (first | apply Kd.R_alloc | apply Kd.R_drewN | apply Kd.R_drew));exact Kd.R_mono HO165.out (fun _ hk=>trivial)):P:=h
theorem Z59 {P:Prop} (h:P:=by (with_reducible repeat (first | apply Kd.R_alloc | apply Kd.R_drewN | apply Kd.R_drew));exact Kd.R_mono HO188.out (fun _ hk=>hk.1)):P:=h
theorem Z60 {P:Prop} (h:P:=by (with_reducible repeat (first | apply Kd.R_alloc | apply Kd.R_drewN | apply Kd.R_drew));exact Kd.R_mono HO219.out (fun _ hk=>trivial)):P:=h
theorem Z61 {P:Prop} (h:P:=by rw [hg];exact Nat.ne_of_lt (blk_lt (g:=gb265) (o:=.cells #[.int .i64 0,.int .i64 0,.int .i64 0,.slice none 0 0,.slice none 0 0] 47 (0,0)) (pB BK265.out))):P:=h
theorem Z62 {P:Prop} (h:P:=by rw [hg];exact Nat.ne_of_gt (blk_lt (g:=gb265) (o:=.cells #[.int .i64 0,.int .i64 0,.int .i64 0,.slice none 0 0,.slice none 0 0] 47 (0,0)) (pB BK265.out))):P:=h
theorem Z63 {P:Prop} (h:P:=by (with_reducible repeat (first | refine bkn ?_ _ | refine bkd ?_ | refine bka ?_ _));refine blk_put (cs:=#[.int .i64 0,.int .i64 0,.int .i64 0,.slice none 0 0,.slice none 0 0]) ?_ 4 _ rfl;(with_reducible repeat (first | refine bkn ?_ _ | refine bkd ?_ | refine bka ?_ _));refine blk_put (cs:=#[.int .i64 0,.int .i64 0,.int .i64 0,.slice none 0 0,.slice none 0 0]) ?_ 3 _ rfl;(with_reducible repeat (first | refine bkn ?_ _ | refine bkd ?_ | refine bka ?_ _));refine blk_put (cs:=#[.int .i64 0,.int .i64 0,.int .i64 0,.slice none 0 0,.slice none 0 0]) ?_ 2 _ rfl;(with_reducible repeat (first | refine bkn ?_ _ | refine bkd ?_ | refine bka ?_ _));refine blk_put (cs:=#[.int .i64 0,.int .i64 0,.int .i64 0,.slice none 0 0,.slice none 0 0]) ?_ 1 _ rfl;(with_reducible repeat (first | refine bkn ?_ _ | refine bkd ?_ | refine bka ?_ _));refine blk_put (cs:=#[.int .i64 0,.int .i64 0,.int .i64 0,.slice none 0 0,.slice none 0 0]) ?_ 0 _ rfl;(with_reducible repeat (first | refine bkn ?_ _ | refine bkd ?_ | refine bka ?_ _));exact BK265.out):P:=h
theorem Z64 {P:Prop} (h:P:=by rw [hg];exact Nat.ne_of_lt (blk_lt (g:=gb340) (o:=.cells #[.int .i64 a1_0,.int .i64 a1_1,.int .i64 a1_2,.slice A1_3 l1_3.length c1_3,.slice A1_4 l1_4.length c1_4] 47 (0,0)) (pB BK340.out))):P:=h
theorem Z65 {P:Prop} (h:P:=by rw [hg];exact Nat.ne_of_gt (blk_lt (g:=gb340) (o:=.cells #[.int .i64 a1_0,.int .i64 a1_1,.int .i64 a1_2,.slice A1_3 l1_3.length c1_3,.slice A1_4 l1_4.length c1_4] 47 (0,0)) (pB BK340.out))):P:=h
theorem Z66 {P:Prop} (h:P:=by (with_reducible repeat (first | refine bkn ?_ _ | refine bkd ?_ | refine bka ?_ _));refine blk_far ?_ NB340_342.out _;(with_reducible repeat (first | refine bkn ?_ _ | refine bkd ?_ | refine bka ?_ _));refine blk_far ?_ NB340_342.out _;(with_reducible repeat (first | refine bkn ?_ _ | refine bkd ?_ | refine bka ?_ _));refine blk_far ?_ NB340_342.out _;(with_reducible repeat (first | refine bkn ?_ _ | refine bkd ?_ | refine bka ?_ _));refine blk_far ?_ NB340_342.out _;(with_reducible repeat (first | refine bkn ?_ _ | refine bkd ?_ | refine bka ?_ _));exact BK340.out):P:=h
theorem Z67 {P:Prop} (h:P:=by (with_reducible repeat (first | refine bkn ?_ _ | refine bkd ?_ | refine bka ?_ _));refine blk_far ?_ NB341_342.out _;(with_reducible repeat (first | refine bkn ?_ _ | refine bkd ?_ | refine bka ?_ _));refine blk_far ?_ NB341_342.out _;(with_reducible repeat (first | refine bkn ?_ _ | refine bkd ?_ | refine bka ?_ _));refine blk_far ?_ NB341_342.out _;(with_reducible repeat (first | refine bkn ?_ _ | refine bkd ?_ | refine bka ?_ _));refine blk_far ?_ NB341_342.out _;(with_reducible repeat (first | refine bkn ?_ _ | refine bkd ?_ | refine bka ?_ _));exact BK341.out):P:=h
theorem Z68 {P:Prop} (h:P:=by (with_reducible repeat (first | refine bkn ?_ _ | refine bkd ?_ | refine bka ?_ _));refine blk_put (cs:=#[.int .i64 a1_0,.string (⟨#[]⟩:ByteArray),.slice none 0 0,.slice none 0 0]) ?_ 3 _ rfl;(with_reducible repeat (first | refine bkn ?_ _ | refine bkd ?_ | refine bka ?_ _));refine blk_put (cs:=#[.int .i64 a1_0,.string (⟨#[]⟩:ByteArray),.slice none 0 0,.slice none 0 0]) ?_ 2 _ rfl;(with_reducible repeat (first | refine bkn ?_ _ | refine bkd ?_ | refine bka ?_ _));refine blk_put (cs:=#[.int .i64 a1_0,.string (⟨#[]⟩:ByteArray),.slice none 0 0,.slice none 0 0]) ?_ 1 _ rfl;(with_reducible repeat (first | refine bkn ?_ _ | refine bkd ?_ | refine bka ?_ _));refine blk_put (cs:=#[.int .i64 0,.string (⟨#[]⟩:ByteArray),.slice none 0 0,.slice none 0 0]) ?_ 0 _ rfl;(with_reducible repeat (first | refine bkn ?_ _ | refine bkd ?_ | refine bka ?_ _));exact BK342.out):P:=h
theorem Z69 {P:Prop} (h:P:=by have:=HJ7.out;have:=HJ10.out;first | omega | exact Nat.le_refl _):P:=h
theorem Z70 {P:Prop} (h:P:=by have:=HJ3.out;have:=HK2.out;first | omega | exact Nat.le_refl _):P:=h
theorem Z71 {P:Prop} (h:P:=by have:=HJ3.out;have:=HK2.out;have:=HJ6.out;have:=HK4.out;omega):P:=h
theorem Z72 {P:Prop} (h:P:=by have:=HJ3.out;have:=HK2.out;have:=HJ6.out;have:=HK4.out;have:=HK5.out;first | omega | exact Nat.le_refl _):P:=h
theorem Z73 {P:Prop} (h:P:=by have:=HJ3.out;have:=HK2.out;have:=HJ6.out;have:=HK4.out;first | omega | exact Nat.le_refl _):P:=h
theorem Z74 {P:Prop} (h:P:=by have:=HJ3.out;have:=HK2.out;have:=HJ6.out;have:=HJ40.out;have:=HJ44.out;omega):P:=h
theorem Z75 {P:Prop} (h:P:=by rw [hg];exact (below_size Z11)):P:=h
theorem Z76 {P:Prop} (h:P:=by first | exact HK.out.1 | exact (show Kept w _ (fun k_=>P0_ k_) from Z16).1):P:=h
theorem Z77 {P:Prop} (h:P:=by rw [hg];exact (keep_size (w:=w) (g:=g) (row:=none) Z4)):P:=h
theorem Z78 {P:Prop} (h:P:=by rw [← add_field _ _ 1 Z14];exact hc 1 _ rfl):P:=h
end Go.Proofs.YtieflhncpjjciaaGreatDoor.PFnGjSquashItems
