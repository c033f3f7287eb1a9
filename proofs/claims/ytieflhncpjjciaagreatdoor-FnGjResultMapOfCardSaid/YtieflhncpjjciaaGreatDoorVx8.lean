import Derived.Test.YtieflhncpjjciaaGreatDoorVq
import Derived.Test.YtieflhncpjjciaaGreatDoorVx0
import Derived.Test.YtieflhncpjjciaaGreatDoorVx4
import Derived.Test.YtieflhncpjjciaaGreatDoorVx5
import Derived.Test.YtieflhncpjjciaaGreatDoorVx7
set_option maxHeartbeats 8000000
set_option maxRecDepth 100000
namespace Go.Proofs.YtieflhncpjjciaaGreatDoor.PFnGjSquashItems
open Go.RowKit Go.Proofs.YtieflhncpjjciaaGreatDoorW.PrintWords Go.Proofs.YtieflhncpjjciaaGreatDoorW.PrintLast Go.Proofs.YtieflhncpjjciaaGreatDoorW.PrintMore
attribute [local go_sem] max2_int min2_int max_two min_two max_three min_three max_four min_four
set_option linter.unusedVariables false
set_option linter.unusedSimpArgs false
def spec_Read.f (k:Nat) (a0:ByteArray):Option (Int×ByteArray×List ByteArray×(List (S26))×Bool):=(spec_Places.f k a0).bind fun bt363=>(if bt363.2.2.2.2.2=true then ((spec_Tree.f k a0 bt363.1 bt363.2.1 bt363.2.2.1 bt363.2.2.2.1 bt363.2.2.2.2.1).bind fun bt374=>(some (bt374.1,bt374.2.1,bt374.2.2.1,bt374.2.2.2,true))) else (some (0,(⟨#[]⟩:ByteArray),([]:List ByteArray),([]:List (S26)),false)))
theorem spec_Read.calls (k:Nat) (a0:ByteArray) (r1:Int) (r2:ByteArray) (r3:List ByteArray) (r4:List (S26)) (r5:Bool) (w:World) (h:spec_Read.f k a0=some (r1,r2,r3,r4,r5)) :
  Calls Tryz.prog 28 #[.string a0] w fun e w'=>∃ v2_ v3_:Value,e = .returned (.tuple #[.agg #[.int .i64 r1,.string r2,v2_,v3_],.bool r5])∧Kd.R Kd.string 9 w' w.heap.size (fun _=>True) v2_ r3∧Kd.R k26 26 w' w.heap.size (fun k_=>some k_≠(v2_:Value).ownBlock) v3_ r4∧Below w.heap.size w w':=by
 have hu26:=Tryz.underlying26
 have hu47:=Tryz.underlying47
 have HB:=am (Below.refl w.heap.size w)
 have H:((spec_Places.f k a0).bind fun bt363=>(if bt363.2.2.2.2.2=true then ((spec_Tree.f k a0 bt363.1 bt363.2.1 bt363.2.2.1 bt363.2.2.2.1 bt363.2.2.2.2.1).bind fun bt374=>(some (bt374.1,bt374.2.1,bt374.2.2.1,bt374.2.2.2,true))) else (some (0,(⟨#[]⟩:ByteArray),([]:List ByteArray),([]:List (S26)),false))))=some (r1,r2,r3,r4,r5):=h
 clear h
 replace H:=obs H
 obtain ⟨⟨t363,t364,t365,t366,t369,t372⟩,A20,H⟩:=H
 dsimp only at H
 have A2:=am A20
 clear A20
 have HC3:=am H
 clear H
 go_enter Tryz.func28,Tryz.ntmps28
 go_upto_if 12 with (first | ((with_reducible refine gate_dst (N:=2) rfl ?_);refine box_event ?hg (N:=2) ?hd (cs:=#[.int .i64 0,.string (⟨#[]⟩:ByteArray),.slice none 0 0,.slice none 0 0]) (t:=26) ?hr ?_;(case hd=>exact Z9);(case hg=>exact Z9);(case hr=>exact Z17);intro gb362 hg w4 hbox hb;have n0_:=am (below_step Z11 hb);have n1_:=am (hbox);have n2_:=am ((Z75:w.heap.size≤gb362));have n3_:=am ((Z75:w.heap.size≤gb362));clear HB;have HB:=n0_;have BK362:=n1_;have GW362:=n2_;have GE362:=n3_;clear n0_ n1_ n2_ n3_;clear hb hbox hg) | ((with_reducible refine gate_callee (f:=15) rfl ?_);refine goesL_ (some 8) rfl rfl Tryz.func15 Z1 rfl #[.string a0] rfl Z10 ?_;(with_reducible refine (spec_Places.calls k a0 t363 t364 t365 t366 t369 t372 _ A2.out).mono ?_);rintro e w5 ⟨v367,v370,rfl,ho0,ho1,hb⟩;refine ⟨_,rfl,?_⟩;have n0_:=am (Kd.R_lower ho0 (below_size Z34));have n1_:=am (Kd.R_lower ho1 (below_size Z34));have n2_:=am (blk_below (g:=gb362) (o:=.cells #[.int .i64 0,.string (⟨#[]⟩:ByteArray),.slice none 0 0,.slice none 0 0] 26 (0,0)) (pB BK362.out) hb);have n3_:=am (below_step Z34 hb);clear BK362;clear HB;have HO368:=n0_;have HO371:=n1_;have BK362:=n2_;have HB:=n3_;clear n0_ n1_ n2_ n3_;(try clear hb);(try clear hb2);(try clear hk);(try clear hi);(try clear ho0);(try clear ho1)) | ((with_reducible refine gate_dst (N:=4) rfl ?_);refine box_event ?hg (N:=4) ?hd (cs:=#[.int .i64 0,.int .i64 0,.int .i64 0,.slice none 0 0,.slice none 0 0]) (t:=47) ?hr ?_;(case hd=>exact Z9);(case hg=>exact Z9);(case hr=>exact Z17);intro gb373 hg w6 hbox hb;have n0_:=am (Kd.R_below (pR HO368.out) hb);have n1_:=am (Kd.R_below (Kd.R_elderB (pR HO371.out) gb373 (Nat.le_of_eq hg.symm)) hb);have n2_:=am (blk_below (g:=gb362) (o:=.cells #[.int .i64 0,.string (⟨#[]⟩:ByteArray),.slice none 0 0,.slice none 0 0] 26 (0,0)) (pB BK362.out) hb);have n3_:=am (below_step Z34 hb);have n4_:=am (hbox);have n5_:=am ((by rw [hg];exact (below_size Z34):w.heap.size≤gb373));have n6_:=am ((by rw [hg];exact (below_size Z34):w.heap.size≤gb373));have n7_:=am ((by rw [hg];exact Nat.ne_of_lt (blk_lt (g:=gb362) (o:=.cells #[.int .i64 0,.string (⟨#[]⟩:ByteArray),.slice none 0 0,.slice none 0 0] 26 (0,0)) (pB BK362.out)):gb362≠gb373));have n8_:=am ((by rw [hg];exact Nat.ne_of_gt (blk_lt (g:=gb362) (o:=.cells #[.int .i64 0,.string (⟨#[]⟩:ByteArray),.slice none 0 0,.slice none 0 0] 26 (0,0)) (pB BK362.out)):gb373≠gb362));clear HO368;clear HO371;clear BK362;clear HB;have HO368:=n0_;have HO371:=n1_;have BK362:=n2_;have HB:=n3_;have BK373:=n4_;have GW373:=n5_;have GE373:=n6_;have NB362_373:=n7_;have NB373_362:=n8_;clear n0_ n1_ n2_ n3_ n4_ n5_ n6_ n7_ n8_;clear hb hbox hg;have hnb7:=NB373_362.out;have hnc7:=NB362_373.out;have hcz8_0:w6.cell? ⟨gb373,0,none⟩=some (.int .i64 0):=(bkc BK373.out 0).trans rfl;have hcz8_1:w6.cell? ⟨gb373,1,none⟩=some (.int .i64 0):=(bkc BK373.out 1).trans rfl;have hcz8_2:w6.cell? ⟨gb373,2,none⟩=some (.int .i64 0):=(bkc BK373.out 2).trans rfl;have hcz8_3:w6.cell? ⟨gb373,3,none⟩=some (.slice none 0 0):=(bkc BK373.out 3).trans rfl;have hcz8_4:w6.cell? ⟨gb373,4,none⟩=some (.slice none 0 0):=(bkc BK373.out 4).trans rfl;have hfz8_0:=bkf BK373.out 0;have hfz8_1:=bkf BK373.out 1;have hfz8_2:=bkf BK373.out 2;have hfz8_3:=bkf BK373.out 3;have hfz8_4:=bkf BK373.out 4;obtain ⟨Ao9,co9,eo9⟩:=Kd.R_slice HO368.out;subst eo9;obtain ⟨Ao10,co10,eo10⟩:=Kd.R_slice HO371.out;subst eo10))
 have n0_:Aside0 (Kd.R k121 121 (((((w6.setCell ⟨gb373,0,none⟩ (.int .i64 t363)).setCell ⟨gb373,1,none⟩ (.int .i64 t364)).setCell ⟨gb373,2,none⟩ (.int .i64 t365)).setCell ⟨gb373,3,none⟩ (.slice Ao9 t366.length co9)).setCell ⟨gb373,4,none⟩ (.slice Ao10 t369.length co10)) w.heap.size (fun _=>True) (.slice Ao9 t366.length co9) t366):=⟨by (with_reducible repeat (first | apply Kd.R_alloc | apply Kd.R_drewN | apply Kd.R_drew));exact Kd.R_mono (Kd.R_far (p:=⟨gb373,4,none⟩) (Kd.R_far (p:=⟨gb373,3,none⟩) (Kd.R_far (p:=⟨gb373,2,none⟩) (Kd.R_far (p:=⟨gb373,1,none⟩) (Kd.R_far (p:=⟨gb373,0,none⟩) (Kd.R_types HO368.out BK373.out Z2) (fun _ hk=>hk.2) (.int .i64 t363)) (fun _ hk=>hk.2) (.int .i64 t364)) (fun _ hk=>hk.2) (.int .i64 t365)) (fun _ hk=>hk.2) (.slice Ao9 t366.length co9)) (fun _ hk=>hk.2) (.slice Ao10 t369.length co10)) (fun _ hk=>trivial)⟩
 have n1_:Aside0 (Kd.R k47 47 (((((w6.setCell ⟨gb373,0,none⟩ (.int .i64 t363)).setCell ⟨gb373,1,none⟩ (.int .i64 t364)).setCell ⟨gb373,2,none⟩ (.int .i64 t365)).setCell ⟨gb373,3,none⟩ (.slice Ao9 t366.length co9)).setCell ⟨gb373,4,none⟩ (.slice Ao10 t369.length co10)) w.heap.size (fun k_=>some k_≠(.slice Ao9 t366.length co9:Value).ownBlock∧k_≠gb373) (.slice Ao10 t369.length co10) t369):=⟨by (with_reducible repeat (first | apply Kd.R_alloc | apply Kd.R_drewN | apply Kd.R_drew));exact Kd.R_mono (Kd.R_far (p:=⟨gb373,4,none⟩) (Kd.R_far (p:=⟨gb373,3,none⟩) (Kd.R_far (p:=⟨gb373,2,none⟩) (Kd.R_far (p:=⟨gb373,1,none⟩) (Kd.R_far (p:=⟨gb373,0,none⟩) (Kd.R_mono HO371.out (fun k_ hk=>(⟨hk,hk.2⟩:_∧k_≠gb373))) (fun _ hk=>hk.2) (.int .i64 t363)) (fun _ hk=>hk.2) (.int .i64 t364)) (fun _ hk=>hk.2) (.int .i64 t365)) (fun _ hk=>hk.2) (.slice Ao9 t366.length co9)) (fun _ hk=>hk.2) (.slice Ao10 t369.length co10)) (fun _ hk=>⟨hk.1.1,hk.1.2⟩)⟩
 have n2_:Aside0 ((((((w6.setCell ⟨gb373,0,none⟩ (.int .i64 t363)).setCell ⟨gb373,1,none⟩ (.int .i64 t364)).setCell ⟨gb373,2,none⟩ (.int .i64 t365)).setCell ⟨gb373,3,none⟩ (.slice Ao9 t366.length co9)).setCell ⟨gb373,4,none⟩ (.slice Ao10 t369.length co10)).heap[gb362]? = some (.cells #[.int .i64 0,.string (⟨#[]⟩:ByteArray),.slice none 0 0,.slice none 0 0] 26 (0,0))):=⟨by (with_reducible repeat (first | refine bkn ?_ _ | refine bkd ?_ | refine bka ?_ _));refine blk_far ?_ NB362_373.out _;(with_reducible repeat (first | refine bkn ?_ _ | refine bkd ?_ | refine bka ?_ _));refine blk_far ?_ NB362_373.out _;(with_reducible repeat (first | refine bkn ?_ _ | refine bkd ?_ | refine bka ?_ _));refine blk_far ?_ NB362_373.out _;(with_reducible repeat (first | refine bkn ?_ _ | refine bkd ?_ | refine bka ?_ _));refine blk_far ?_ NB362_373.out _;(with_reducible repeat (first | refine bkn ?_ _ | refine bkd ?_ | refine bka ?_ _));refine blk_far ?_ NB362_373.out _;(with_reducible repeat (first | refine bkn ?_ _ | refine bkd ?_ | refine bka ?_ _));exact BK362.out⟩
 have n3_:Aside0 ((((((w6.setCell ⟨gb373,0,none⟩ (.int .i64 t363)).setCell ⟨gb373,1,none⟩ (.int .i64 t364)).setCell ⟨gb373,2,none⟩ (.int .i64 t365)).setCell ⟨gb373,3,none⟩ (.slice Ao9 t366.length co9)).setCell ⟨gb373,4,none⟩ (.slice Ao10 t369.length co10)).heap[gb373]? = some (.cells #[.int .i64 t363,.int .i64 t364,.int .i64 t365,.slice Ao9 t366.length co9,.slice Ao10 t369.length co10] 47 (0,0))):=⟨by (with_reducible repeat (first | refine bkn ?_ _ | refine bkd ?_ | refine bka ?_ _));refine blk_put (cs:=#[.int .i64 t363,.int .i64 t364,.int .i64 t365,.slice Ao9 t366.length co9,.slice none 0 0]) ?_ 4 _ rfl;(with_reducible repeat (first | refine bkn ?_ _ | refine bkd ?_ | refine bka ?_ _));refine blk_put (cs:=#[.int .i64 t363,.int .i64 t364,.int .i64 t365,.slice none 0 0,.slice none 0 0]) ?_ 3 _ rfl;(with_reducible repeat (first | refine bkn ?_ _ | refine bkd ?_ | refine bka ?_ _));refine blk_put (cs:=#[.int .i64 t363,.int .i64 t364,.int .i64 0,.slice none 0 0,.slice none 0 0]) ?_ 2 _ rfl;(with_reducible repeat (first | refine bkn ?_ _ | refine bkd ?_ | refine bka ?_ _));refine blk_put (cs:=#[.int .i64 t363,.int .i64 0,.int .i64 0,.slice none 0 0,.slice none 0 0]) ?_ 1 _ rfl;(with_reducible repeat (first | refine bkn ?_ _ | refine bkd ?_ | refine bka ?_ _));refine blk_put (cs:=#[.int .i64 0,.int .i64 0,.int .i64 0,.slice none 0 0,.slice none 0 0]) ?_ 0 _ rfl;(with_reducible repeat (first | refine bkn ?_ _ | refine bkd ?_ | refine bka ?_ _));exact BK373.out⟩
 have n4_:Aside0 (Below w.heap.size w (((((w6.setCell ⟨gb373,0,none⟩ (.int .i64 t363)).setCell ⟨gb373,1,none⟩ (.int .i64 t364)).setCell ⟨gb373,2,none⟩ (.int .i64 t365)).setCell ⟨gb373,3,none⟩ (.slice Ao9 t366.length co9)).setCell ⟨gb373,4,none⟩ (.slice Ao10 t369.length co10))):=⟨Z35⟩
 (try clear HO368)
 (try clear HO371)
 (try clear BK362)
 (try clear BK373)
 (try clear HB)
 generalize (((((w6.setCell ⟨gb373,0,none⟩ (.int .i64 t363)).setCell ⟨gb373,1,none⟩ (.int .i64 t364)).setCell ⟨gb373,2,none⟩ (.int .i64 t365)).setCell ⟨gb373,3,none⟩ (.slice Ao9 t366.length co9)).setCell ⟨gb373,4,none⟩ (.slice Ao10 t369.length co10))=w11 at n0_ n1_ n2_ n3_ n4_ ⊢
 have HO368:=n0_
 have HO371:=n1_
 have BK362:=n2_
 have BK373:=n3_
 have HB:=n4_
 clear n0_ n1_ n2_ n3_ n4_
 (try simp only [Act.put,List.setIfInBounds_toArray,List.set_cons_zero,List.set_cons_succ])
 have H:=HC3.out
 clear HC3
 by_cases c12:t372=true
 rotate_left
 ·
  replace c12:=bef c12
  subst c12
  rw [if_neg (show ¬ (false=true) from Z2)] at H
  simp only [Option.some.injEq,Prod.mk.injEq] at H
  obtain ⟨rfl,rfl,rfl,rfl,rfl⟩:=H
  have hnb20:=NB362_373.out
  have hnc20:=NB373_362.out
  have hcz21_0:w11.cell? ⟨gb362,0,none⟩=some (.int .i64 0):=(bkc BK362.out 0).trans rfl
  have hcz21_1:w11.cell? ⟨gb362,1,none⟩=some (.string (⟨#[]⟩:ByteArray)):=(bkc BK362.out 1).trans rfl
  have hcz21_2:w11.cell? ⟨gb362,2,none⟩=some (.slice none 0 0):=(bkc BK362.out 2).trans rfl
  have hcz21_3:w11.cell? ⟨gb362,3,none⟩=some (.slice none 0 0):=(bkc BK362.out 3).trans rfl
  have hfz21_0:=bkf BK362.out 0
  have hfz21_1:=bkf BK362.out 1
  have hfz21_2:=bkf BK362.out 2
  have hfz21_3:=bkf BK362.out 3
  go_wp2
  refine bodyPost_ret (results_ct rfl _ _ gb362 26 #[.int .i64 0,.string (⟨#[]⟩:ByteArray),.slice none 0 0,.slice none 0 0] (0,0) _ rfl (by (with_reducible repeat (first | refine bkn ?_ _ | refine bkd ?_ | refine bka ?_ _));refine blk_put (cs:=#[.int .i64 0,.string (⟨#[]⟩:ByteArray),.slice none 0 0,.slice none 0 0]) ?_ 3 _ rfl;(with_reducible repeat (first | refine bkn ?_ _ | refine bkd ?_ | refine bka ?_ _));refine blk_put (cs:=#[.int .i64 0,.string (⟨#[]⟩:ByteArray),.slice none 0 0,.slice none 0 0]) ?_ 2 _ rfl;(with_reducible repeat (first | refine bkn ?_ _ | refine bkd ?_ | refine bka ?_ _));refine blk_put (cs:=#[.int .i64 0,.string (⟨#[]⟩:ByteArray),.slice none 0 0,.slice none 0 0]) ?_ 1 _ rfl;(with_reducible repeat (first | refine bkn ?_ _ | refine bkd ?_ | refine bka ?_ _));refine blk_put (cs:=#[.int .i64 0,.string (⟨#[]⟩:ByteArray),.slice none 0 0,.slice none 0 0]) ?_ 0 _ rfl;(with_reducible repeat (first | refine bkn ?_ _ | refine bkd ?_ | refine bka ?_ _));exact BK362.out) Tryz.underlying26 rfl Z1) rfl ?_
  exact ⟨_,_,Z12,Z13,Z13,Z35⟩
 subst c12
 rw [if_pos rfl] at H
 replace H:=obs H
 obtain ⟨⟨t374,t375,t376,t379⟩,A130,H⟩:=H
 dsimp only at H
 have A13:=am A130
 clear A130
 simp only [Option.some.injEq,Prod.mk.injEq] at H
 obtain ⟨rfl,rfl,rfl,rfl,rfl⟩:=H
 have hnb14:=NB373_362.out
 have hnc14:=NB362_373.out
 have hcz15_0:w11.cell? ⟨gb373,0,none⟩=some (.int .i64 t363):=(bkc BK373.out 0).trans rfl
 have hcz15_1:w11.cell? ⟨gb373,1,none⟩=some (.int .i64 t364):=(bkc BK373.out 1).trans rfl
 have hcz15_2:w11.cell? ⟨gb373,2,none⟩=some (.int .i64 t365):=(bkc BK373.out 2).trans rfl
 have hcz15_3:w11.cell? ⟨gb373,3,none⟩=some (.slice Ao9 t366.length co9):=(bkc BK373.out 3).trans rfl
 have hcz15_4:w11.cell? ⟨gb373,4,none⟩=some (.slice Ao10 t369.length co10):=(bkc BK373.out 4).trans rfl
 have hfz15_0:=bkf BK373.out 0
 have hfz15_1:=bkf BK373.out 1
 have hfz15_2:=bkf BK373.out 2
 have hfz15_3:=bkf BK373.out 3
 have hfz15_4:=bkf BK373.out 4
 go_wp2_with (first | ((with_reducible refine gate_callee (f:=52) rfl ?_);refine goesL_ (some 16) rfl rfl Tryz.func52 Z1 rfl #[.string a0,.agg #[.int .i64 t363,.int .i64 t364,.int .i64 t365,.slice Ao9 t366.length co9,.slice Ao10 t369.length co10]] rfl Z10 ?_;(with_reducible refine (spec_Tree.calls k a0 t363 t364 t365 _ _ t366 _ _ t369 t374 t375 t376 t379 _ ?side1 ?side2 ?side3 ?side4 A13.out).mono ?_);(case side1=>repeat (first | exact (Kd.R_reads' HO368.out).2.2 | (with_reducible refine Kd.C_alloc ?_ _) | (with_reducible refine Kd.C_drewN ?_ _) | (with_reducible refine Kd.C_drew ?_)));(case side2=>exact (Kd.R_reads' HO368.out).2.1);(case side3=>repeat (first | exact (Kd.R_reads' HO371.out).2.2 | (with_reducible refine Kd.C_alloc ?_ _) | (with_reducible refine Kd.C_drewN ?_ _) | (with_reducible refine Kd.C_drew ?_)));(case side4=>exact (Kd.R_reads' HO371.out).2.1);rintro e w16 ⟨v377,v380,rfl,ho0,ho1,hb⟩;refine ⟨_,rfl,?_⟩;have n0_:=am (Kd.R_below (pR HO368.out) hb);have n1_:=am (Kd.R_below (pR HO371.out) hb);have n2_:=am (Kd.R_lower ho0 (below_size Z35));have n3_:=am (Kd.R_lower (Kd.R_newB ho1 (g:=gb362) (o:=.cells #[.int .i64 0,.string (⟨#[]⟩:ByteArray),.slice none 0 0,.slice none 0 0] 26 (0,0)) (pB BK362.out)) (below_size Z35));have n4_:=am (blk_below (g:=gb362) (o:=.cells #[.int .i64 0,.string (⟨#[]⟩:ByteArray),.slice none 0 0,.slice none 0 0] 26 (0,0)) (pB BK362.out) hb);have n5_:=am (blk_below (g:=gb373) (o:=.cells #[.int .i64 t363,.int .i64 t364,.int .i64 t365,.slice Ao9 t366.length co9,.slice Ao10 t369.length co10] 47 (0,0)) (pB BK373.out) hb);have n6_:=am (below_step Z35 hb);clear HO368;clear HO371;clear BK362;clear BK373;clear HB;have HO368:=n0_;have HO371:=n1_;have HO378:=n2_;have HO381:=n3_;have BK362:=n4_;have BK373:=n5_;have HB:=n6_;clear n0_ n1_ n2_ n3_ n4_ n5_ n6_;(try clear hb);(try clear hb2);(try clear hk);(try clear hi);(try clear ho0);(try clear ho1);have hcz17_0:w16.cell? ⟨gb362,0,none⟩=some (.int .i64 0):=(bkc BK362.out 0).trans rfl;have hcz17_1:w16.cell? ⟨gb362,1,none⟩=some (.string (⟨#[]⟩:ByteArray)):=(bkc BK362.out 1).trans rfl;have hcz17_2:w16.cell? ⟨gb362,2,none⟩=some (.slice none 0 0):=(bkc BK362.out 2).trans rfl;have hcz17_3:w16.cell? ⟨gb362,3,none⟩=some (.slice none 0 0):=(bkc BK362.out 3).trans rfl;have hfz17_0:=bkf BK362.out 0;have hfz17_1:=bkf BK362.out 1;have hfz17_2:=bkf BK362.out 2;have hfz17_3:=bkf BK362.out 3;obtain ⟨Ao18,co18,eo18⟩:=Kd.R_slice HO378.out;subst eo18;obtain ⟨Ao19,co19,eo19⟩:=Kd.R_slice HO381.out;subst eo19))
 refine bodyPost_ret (results_ct rfl _ _ gb362 26 #[.int .i64 t374,.string t375,.slice Ao18 t376.length co18,.slice Ao19 t379.length co19] (0,0) _ rfl (by (with_reducible repeat (first | refine bkn ?_ _ | refine bkd ?_ | refine bka ?_ _));refine blk_put (cs:=#[.int .i64 t374,.string t375,.slice Ao18 t376.length co18,.slice none 0 0]) ?_ 3 _ rfl;(with_reducible repeat (first | refine bkn ?_ _ | refine bkd ?_ | refine bka ?_ _));refine blk_put (cs:=#[.int .i64 t374,.string t375,.slice none 0 0,.slice none 0 0]) ?_ 2 _ rfl;(with_reducible repeat (first | refine bkn ?_ _ | refine bkd ?_ | refine bka ?_ _));refine blk_put (cs:=#[.int .i64 t374,.string (⟨#[]⟩:ByteArray),.slice none 0 0,.slice none 0 0]) ?_ 1 _ rfl;(with_reducible repeat (first | refine bkn ?_ _ | refine bkd ?_ | refine bka ?_ _));refine blk_put (cs:=#[.int .i64 0,.string (⟨#[]⟩:ByteArray),.slice none 0 0,.slice none 0 0]) ?_ 0 _ rfl;(with_reducible repeat (first | refine bkn ?_ _ | refine bkd ?_ | refine bka ?_ _));exact BK362.out) Tryz.underlying26 rfl Z1) rfl ?_
 exact ⟨_,_,Z12,by (with_reducible repeat (first | apply Kd.R_alloc | apply Kd.R_drewN | apply Kd.R_drew));exact Kd.R_mono (Kd.R_far (p:=⟨gb362,3,none⟩) (Kd.R_far (p:=⟨gb362,2,none⟩) (Kd.R_far (p:=⟨gb362,1,none⟩) (Kd.R_far (p:=⟨gb362,0,none⟩) (Kd.R_types HO378.out BK362.out Z2) (fun _ hk=>hk.2) (.int .i64 t374)) (fun _ hk=>hk.2) (.string t375)) (fun _ hk=>hk.2) (.slice Ao18 t376.length co18)) (fun _ hk=>hk.2) (.slice Ao19 t379.length co19)) (fun _ hk=>trivial),by (with_reducible repeat (first | apply Kd.R_alloc | apply Kd.R_drewN | apply Kd.R_drew));exact Kd.R_mono (Kd.R_far (p:=⟨gb362,3,none⟩) (Kd.R_far (p:=⟨gb362,2,none⟩) (Kd.R_far (p:=⟨gb362,1,none⟩) (Kd.R_far (p:=⟨gb362,0,none⟩) (Kd.R_mono HO381.out (fun k_ hk=>(⟨hk,hk.2⟩:_∧k_≠gb362))) (fun _ hk=>hk.2) (.int .i64 t374)) (fun _ hk=>hk.2) (.string t375)) (fun _ hk=>hk.2) (.slice Ao18 t376.length co18)) (fun _ hk=>hk.2) (.slice Ao19 t379.length co19)) (fun _ hk=>hk.1.1),Z35⟩
mutual
def spec_Character.j2:Nat→ByteArray→Int→Int→Int→Int→Option (Int×Int×Bool)
 | 0,_,_,_,_,_=>none
 | k+1,x0,x1,x7,x8,x9=>if (wrap64 ((x0.size:Int) - x1))≤x8 then (some (65533,1,false)) else (spec_Character.l0 k x0 x1 x7 x8 x9 1)
def spec_Character.l0:Nat→ByteArray→Int→Int→Int→Int→Int→Option (Int×Int×Bool)
 | 0,_,_,_,_,_,_=>none
 | k+1,x0,x1,x7,x8,x9,x10=>if x10≤x8 then (if 0≤(wrap64 (x1+x10)) then (if (wrap64 (x1+x10))<(x0.size:Int) then (if (wrap64 (bt x0 (wrap64 (x1+x10))))<128 then (some (65533,1,false)) else (if (wrap64 (bt x0 (wrap64 (x1+x10)))) > 191 then (some (65533,1,false)) else (spec_Character.l0 k x0 x1 (wrap64 ((wrap64 ((wrap64 (x7 * 64))+(wrap64 (bt x0 (wrap64 (x1+x10)))))) - 128)) x8 x9 (wrap64 (x10+1))))) else (none)) else (none)) else (if x7<x9 then (some (65533,1,false)) else (if x7 > 1114111 then (some (65533,1,false)) else ((spec_high.f x7).bind fun t382=>(if t382=true then (some (65533,1,false)) else ((spec_low.f x7).bind fun t383=>(if t383=true then (some (65533,1,false)) else (some (x7,wrap64 (x8+1),true))))))))
def spec_Character.j0:Nat→ByteArray→Int→Int→Bool→Option (Int×Int×Bool)
 | 0,_,_,_,_=>none
 | k+1,x0,x1,x7,x20=>if x20=true then (spec_Character.j2 k x0 x1 (wrap64 (x7 - 192)) 1 128) else (if 224≤x7 then (spec_Character.j1 k x0 x1 x7 (decide (x7≤239))) else (spec_Character.j1 k x0 x1 x7 false))
def spec_Character.j1:Nat→ByteArray→Int→Int→Bool→Option (Int×Int×Bool)
 | 0,_,_,_,_=>none
 | k+1,x0,x1,x7,x29=>if x29=true then (spec_Character.j2 k x0 x1 (wrap64 (x7 - 224)) 2 2048) else (if 240≤x7 then (if x7≤244 then (spec_Character.j2 k x0 x1 (wrap64 (x7 - 240)) 3 65536) else (some (65533,1,false))) else (some (65533,1,false)))
end
def spec_Character.f (k:Nat) (a0:ByteArray) (a1:Int):Option (Int×Int×Bool):=if 0≤a1 then (if a1<(a0.size:Int) then (if (wrap64 (bt a0 a1))<128 then (some (wrap64 (bt a0 a1),1,true)) else (if 194≤(wrap64 (bt a0 a1)) then (spec_Character.j0 k a0 a1 (wrap64 (bt a0 a1)) (decide ((wrap64 (bt a0 a1))≤223))) else (spec_Character.j0 k a0 a1 (wrap64 (bt a0 a1)) false))) else (none)) else (none)
theorem spec_Character.calls (k:Nat) (a0:ByteArray) (a1:Int) (r1:Int) (r2:Int) (r3:Bool) (w:World) (h:spec_Character.f k a0 a1=some (r1,r2,r3)) :
  Calls Tryz.prog 53 #[.string a0,.int .i64 a1] w fun e w'=>e = .returned (.tuple #[.int .i64 r1,.int .i64 r2,.bool r3])∧Drawn0 w w':=by
 have H:(if 0≤a1 then (if a1<(a0.size:Int) then (if (wrap64 (bt a0 a1))<128 then (some (wrap64 (bt a0 a1),1,true)) else (if 194≤(wrap64 (bt a0 a1)) then (spec_Character.j0 k a0 a1 (wrap64 (bt a0 a1)) (decide ((wrap64 (bt a0 a1))≤223))) else (spec_Character.j0 k a0 a1 (wrap64 (bt a0 a1)) false))) else (none)) else (none))=some (r1,r2,r3):=h
 clear h
 by_cases c3:0≤a1
 rotate_left
 ·
  rw [if_neg c3] at H
  exact absurd H Z6
 rw [if_pos c3] at H
 have c3b0:=dt c3
 clear c3
 by_cases c4:a1<(a0.size:Int)
 rotate_left
 ·
  rw [if_neg c4] at H
  exact absurd H Z6
 rw [if_pos c4] at H
 have c4b0:=dt c4
 clear c4
 have HC6:=am H
 clear H
 have p5:0≤(a1:Int):=od Z8
 have q5:a1<(a0.size:Int):=od Z8
 have hx5:=bt_at a0 a1
 replace p5:=eq_true p5
 replace q5:=eq_true q5
 go_enter Tryz.func53,Tryz.ntmps53
 go_upto_block 0 with (fail)
 go_cut [7,8,9] (fun v7 v8 v9 wc=>∃ (kq:Nat) (x7_5:Int) (x8_5:Int) (x9_5:Int),v7 = .int .i64 x7_5∧v8 = .int .i64 x8_5∧v9 = .int .i64 x9_5∧Aside0 (spec_Character.j2 kq a0 a1 x7_5 x8_5 x9_5=some (r1,r2,r3))∧Aside0 (kq≤k)∧Drawn0 w wc)
 case first=>
  have H:=HC6.out
  clear HC6
  by_cases c7:(wrap64 (bt a0 a1))<128
  ·
   rw [if_pos c7] at H
   have c7b0:=dt c7
   clear c7
   (first | rw [c7b0] | (simp only [i64_w,i32_w];rw [c7b0]) | skip)
   simp only [Option.some.injEq,Prod.mk.injEq] at H
   obtain ⟨rfl,rfl,rfl⟩:=H
   go_wp2
   go_ret3
   exact ⟨Z0,Z5⟩
  rw [if_neg c7] at H
  have c7b0:=df c7
  clear c7
  (first | rw [c7b0] | (simp only [i64_w,i32_w];rw [c7b0]) | skip)
  have HC8:=am H
  clear H
  go_upto_region 6 with (fail)
  go_cut [20] (fun v20 wc=>∃ (kq:Nat) (x20_7:Bool),v20 = .bool x20_7∧Aside0 (spec_Character.j0 kq a0 a1 (wrap64 (bt a0 a1)) x20_7=some (r1,r2,r3))∧Aside0 (kq≤k)∧Drawn0 w wc)
  case first=>
   have H:=HC8.out
   clear HC8
   by_cases c9:194≤(wrap64 (bt a0 a1))
   rotate_left
   ·
    rw [if_neg c9] at H
    have c9b0:=df c9
    clear c9
    (first | rw [c9b0] | (simp only [i64_w,i32_w];rw [c9b0]) | skip)
    have H':=am H
    clear H
    go_wp2
    go_meet
    case rel=>exact ⟨_,(false),Z0,H',⟨Z15⟩,Z5⟩
   rw [if_pos c9] at H
   have c9b0:=dt c9
   clear c9
   (first | rw [c9b0] | (simp only [i64_w,i32_w];rw [c9b0]) | skip)
   have H':=am H
   clear H
   go_wp2
   go_meet
   case rel=>exact ⟨_,(decide ((wrap64 (bt a0 a1))≤223)),Z0,H',⟨Z15⟩,Z5⟩
  clear HC8;try clear p2;try clear c3;try clear c3b0;try clear c4;try clear c4b0;try clear c5;try clear p5;try clear q5;try clear hx5;try clear p6;try clear c7;try clear c7b0;try clear c9;try clear c9b0;try clear p5;try clear q5
  obtain ⟨kq,x20_7,rfl,HA,HJ7,⟨mc7,rfl⟩⟩:=hcut
  cases kq with
  | zero=>exact absurd HA.out (by simp [spec_Character.j0])
  | succ kj7=>
  have H:=HA.out
  clear HA
  simp only [spec_Character.j0] at H
  by_cases c10:x20_7=true
  ·
   subst c10
   rw [if_pos rfl] at H
   have H':=am H
   clear H
   go_wp2
   go_meet
   case rel=>exact ⟨_,(wrap64 ((wrap64 (bt a0 a1)) - 192)),(1),(128),Z0,Z0,Z0,H',⟨Z50⟩,Z5⟩
  replace c10:=bef c10
  subst c10
  rw [if_neg (show ¬ (false=true) from Z2)] at H
  have HC11:=am H
  clear H
  go_upto_region 8 with (fail)
  go_cut [29] (fun v29 wc=>∃ (kq:Nat) (x29_10:Bool),v29 = .bool x29_10∧Aside0 (spec_Character.j1 kq a0 a1 (wrap64 (bt a0 a1)) x29_10=some (r1,r2,r3))∧Aside0 (kq≤kj7)∧Drawn0 w wc)
  case first=>
   have H:=HC11.out
   clear HC11
   by_cases c12:224≤(wrap64 (bt a0 a1))
   rotate_left
   ·
    rw [if_neg c12] at H
    have c12b0:=df c12
    clear c12
    (first | rw [c12b0] | (simp only [i64_w,i32_w];rw [c12b0]) | skip)
    have H':=am H
    clear H
    go_wp2
    go_meet
    case rel=>exact ⟨_,(false),Z0,H',⟨Z50⟩,Z5⟩
   rw [if_pos c12] at H
   have c12b0:=dt c12
   clear c12
   (first | rw [c12b0] | (simp only [i64_w,i32_w];rw [c12b0]) | skip)
   have H':=am H
   clear H
   go_wp2
   go_meet
   case rel=>exact ⟨_,(decide ((wrap64 (bt a0 a1))≤239)),Z0,H',⟨Z50⟩,Z5⟩
  clear HC11;try clear c1;try clear p2;try clear c3;try clear c3b0;try clear c4;try clear c4b0;try clear c5;try clear p5;try clear q5;try clear hx5;try clear p6;try clear c7;try clear c7b0;try clear c9;try clear c9b0;try clear c10;try clear c12;try clear c12b0;try clear p2;try clear p5;try clear p6;try clear q5
  obtain ⟨kq,x29_10,rfl,HA,HJ10,⟨mc10,rfl⟩⟩:=hcut
  cases kq with
  | zero=>exact absurd HA.out (by simp [spec_Character.j1])
  | succ kj10=>
  have H:=HA.out
  clear HA
  simp only [spec_Character.j1] at H
  by_cases c13:x29_10=true
  ·
   subst c13
   rw [if_pos rfl] at H
   have H':=am H
   clear H
   go_wp2
   go_meet
   case rel=>exact ⟨_,(wrap64 ((wrap64 (bt a0 a1)) - 224)),(2),(2048),Z0,Z0,Z0,H',⟨Z69⟩,Z5⟩
  replace c13:=bef c13
  subst c13
  rw [if_neg (show ¬ (false=true) from Z2)] at H
  by_cases c14:240≤(wrap64 (bt a0 a1))
  rotate_left
  ·
   rw [if_neg c14] at H
   have c14b0:=df c14
   clear c14
   simp only [Option.some.injEq,Prod.mk.injEq] at H
   obtain ⟨rfl,rfl,rfl⟩:=H
   go_wp2
   go_ret3
   exact ⟨Z0,Z5⟩
  rw [if_pos c14] at H
  have c14b0:=dt c14
  clear c14
  by_cases c15:(wrap64 (bt a0 a1))≤244
  rotate_left
  ·
   rw [if_neg c15] at H
   have c15b0:=df c15
   clear c15
   simp only [Option.some.injEq,Prod.mk.injEq] at H
   obtain ⟨rfl,rfl,rfl⟩:=H
   go_wp2
   go_ret3
   exact ⟨Z0,Z5⟩
  rw [if_pos c15] at H
  have c15b0:=dt c15
  clear c15
  have H':=am H
  clear H
  go_wp2
  go_meet
  case rel=>exact ⟨_,(wrap64 ((wrap64 (bt a0 a1)) - 240)),(3),(65536),Z0,Z0,Z0,H',⟨Z69⟩,Z5⟩
 clear HC6;try clear c1;try clear p2;try clear c3;try clear c3b0;try clear c4;try clear c4b0;try clear c5;try clear p5;try clear q5;try clear hx5;try clear p6;try clear c7;try clear c7b0;try clear c9;try clear c9b0;try clear c10;try clear c12;try clear c12b0;try clear c13;try clear c14;try clear c14b0;try clear c15;try clear c15b0;try clear p2;try clear p5;try clear p6;try clear q5
 obtain ⟨kq,x7_5,x8_5,x9_5,rfl,rfl,rfl,HA,HJ5,⟨mc5,rfl⟩⟩:=hcut
 cases kq with
 | zero=>exact absurd HA.out (by simp [spec_Character.j2])
 | succ kj5=>
 have H:=HA.out
 clear HA
 simp only [spec_Character.j2] at H
 by_cases c16:(wrap64 ((a0.size:Int) - a1))≤x8_5
 ·
  rw [if_pos c16] at H
  have c16b0:=dt c16
  clear c16
  simp only [Option.some.injEq,Prod.mk.injEq] at H
  obtain ⟨rfl,rfl,rfl⟩:=H
  go_wp2
  go_ret3
  exact ⟨Z0,Z5⟩
 rw [if_neg c16] at H
 have c16b0:=df c16
 clear c16
 have H':=am H
 clear H
 go_wp2
 (try simp only [Act.put,List.setIfInBounds_toArray,List.set_cons_succ,List.set_cons_zero])
 go_loopg [7,10] kj5 (fun kq v7 v10 w'=>∃ (x7_2:Int) (x10_2:Int),v7 = .int .i64 x7_2∧v10 = .int .i64 x10_2∧Aside0 (spec_Character.l0 kq a0 a1 x7_2 x8_5 x9_5 x10_2=some (r1,r2,r3))∧Aside0 (kq≤kj5)∧Drawn0 w w')
 case atStart=>exact ⟨(x7_5),(1),Z0,Z0,H',⟨Nat.le_refl _⟩,Z5⟩
 clear H'
 try clear c1;try clear p2;try clear c3;try clear c3b0;try clear c4;try clear c4b0;try clear c5;try clear p5;try clear q5;try clear hx5;try clear p6;try clear c7;try clear c7b0;try clear c9;try clear c9b0;try clear c10;try clear c12;try clear c12b0;try clear c13;try clear c14;try clear c14b0;try clear c15;try clear c15b0;try clear c16;try clear c16b0;try clear p2;try clear p5;try clear p6;try clear q5
 obtain ⟨x7_2,x10_2,rfl,rfl,HA,HK2,⟨m2,rfl⟩⟩:=hrel
 cases gk with
 | zero=>exact absurd HA.out (by simp [spec_Character.l0])
 | succ k2=>
 have H:=HA.out
 clear HA
 simp only [spec_Character.l0] at H
 by_cases c17:x10_2≤x8_5
 rotate_left
 ·
  rw [if_neg c17] at H
  have c17b0:=df c17
  clear c17
  by_cases c24:x7_2<x9_5
  ·
   rw [if_pos c24] at H
   have c24b0:=dt c24
   clear c24
   simp only [Option.some.injEq,Prod.mk.injEq] at H
   obtain ⟨rfl,rfl,rfl⟩:=H
   go_wp2
   go_ret3
   exact ⟨Z0,Z5⟩
  rw [if_neg c24] at H
  have c24b0:=df c24
  clear c24
  by_cases c25:x7_2 > 1114111
  ·
   rw [if_pos c25] at H
   have c25b0:=dt c25
   clear c25
   simp only [Option.some.injEq,Prod.mk.injEq] at H
   obtain ⟨rfl,rfl,rfl⟩:=H
   go_wp2
   go_ret3
   exact ⟨Z0,Z5⟩
  rw [if_neg c25] at H
  have c25b0:=df c25
  clear c25
  replace H:=obs H
  obtain ⟨t382,A260,H⟩:=H
  have A26:=am A260
  clear A260
  by_cases c27:t382=true
  ·
   subst c27
   rw [if_pos rfl] at H
   simp only [Option.some.injEq,Prod.mk.injEq] at H
   obtain ⟨rfl,rfl,rfl⟩:=H
   go_wp2_with (first | (go_at_call 55;(with_reducible refine (spec_high.calls x7_2 true _ A26.out).mono ?_);rintro e w' ⟨rfl,⟨nd,rfl⟩⟩))
   go_ret3
   exact ⟨Z0,Z5⟩
  replace c27:=bef c27
  subst c27
  rw [if_neg (show ¬ (false=true) from Z2)] at H
  replace H:=obs H
  obtain ⟨t383,A280,H⟩:=H
  have A28:=am A280
  clear A280
  have HC29:=am H
  clear H
  go_upto_if 89 with (first | (go_at_call 55;(with_reducible refine (spec_high.calls x7_2 false _ A26.out).mono ?_);rintro e w' ⟨rfl,⟨nd,rfl⟩⟩) | (go_at_call 56;(with_reducible refine (spec_low.calls x7_2 t383 _ A28.out).mono ?_);rintro e w' ⟨rfl,⟨nd,rfl⟩⟩))
  (try simp only [Act.put,List.setIfInBounds_toArray,List.set_cons_zero,List.set_cons_succ])
  have H:=HC29.out
  clear HC29
  by_cases c30:t383=true
  ·
   subst c30
   rw [if_pos rfl] at H
   simp only [Option.some.injEq,Prod.mk.injEq] at H
   obtain ⟨rfl,rfl,rfl⟩:=H
   go_wp2
   go_ret3
   exact ⟨Z0,Z5⟩
  replace c30:=bef c30
  subst c30
  rw [if_neg (show ¬ (false=true) from Z2)] at H
  simp only [Option.some.injEq,Prod.mk.injEq] at H
  obtain ⟨rfl,rfl,rfl⟩:=H
  go_wp2
  go_ret3
  exact ⟨Z0,Z5⟩
 rw [if_pos c17] at H
 have c17b0:=dt c17
 clear c17
 obtain ⟨ji18,hji18⟩:∃ j_:Int,(wrap64 (a1+x10_2))=j_:=⟨_,rfl⟩
 replace H:(if 0≤(ji18) then (if (ji18)<(a0.size:Int) then (if (wrap64 (bt a0 (ji18)))<128 then (some (65533,1,false)) else (if (wrap64 (bt a0 (ji18))) > 191 then (some (65533,1,false)) else (spec_Character.l0 k2 a0 a1 (wrap64 ((wrap64 ((wrap64 (x7_2 * 64))+(wrap64 (bt a0 (ji18))))) - 128)) x8_5 x9_5 (wrap64 (x10_2+1))))) else (none)) else (none))=some (r1,r2,r3):=by first | (rw [hji18] at H;exact H) | (simp only [hji18] at H ⊢;exact H)
 have hji18w:(IntKind.i64.wrap (a1+x10_2))=ji18:=(i64_w _).trans hji18
 by_cases c19:0≤(ji18)
 rotate_left
 ·
  rw [if_neg c19] at H
  exact absurd H Z6
 rw [if_pos c19] at H
 have c19b0:=dt c19
 clear c19
 by_cases c20:(ji18)<(a0.size:Int)
 rotate_left
 ·
  rw [if_neg c20] at H
  exact absurd H Z6
 rw [if_pos c20] at H
 have c20b0:=dt c20
 clear c20
 by_cases c22:(wrap64 (bt a0 (ji18)))<128
 ·
  rw [if_pos c22] at H
  have c22b0:=dt c22
  clear c22
  simp only [Option.some.injEq,Prod.mk.injEq] at H
  obtain ⟨rfl,rfl,rfl⟩:=H
  have p21:0≤((ji18):Int):=od Z8
  have q21:(ji18)<(a0.size:Int):=od Z8
  have hx21:=bt_at a0 (ji18)
  replace p21:=eq_true p21
  replace q21:=eq_true q21
  go_wp2
  go_ret3
  exact ⟨Z51,Z5⟩
 rw [if_neg c22] at H
 have c22b0:=df c22
 clear c22
 by_cases c23:(wrap64 (bt a0 (ji18))) > 191
 ·
  rw [if_pos c23] at H
  have c23b0:=dt c23
  clear c23
  simp only [Option.some.injEq,Prod.mk.injEq] at H
  obtain ⟨rfl,rfl,rfl⟩:=H
  have p21:0≤((ji18):Int):=od Z8
  have q21:(ji18)<(a0.size:Int):=od Z8
  have hx21:=bt_at a0 (ji18)
  replace p21:=eq_true p21
  replace q21:=eq_true q21
  go_wp2
  go_ret3
  exact ⟨Z51,Z5⟩
 rw [if_neg c23] at H
 have c23b0:=df c23
 clear c23
 have H':=am H
 clear H
 have p21:0≤((ji18):Int):=od Z8
 have q21:(ji18)<(a0.size:Int):=od Z8
 have hx21:=bt_at a0 (ji18)
 replace p21:=eq_true p21
 replace q21:=eq_true q21
 go_wp2
 go_roundg k2
 case measure=>have:=HJ5.out;have:=HK2.out;omega
 case rel=>exact ⟨(wrap64 ((wrap64 ((wrap64 (x7_2 * 64))+(wrap64 (bt a0 (ji18))))) - 128)),(wrap64 (x10_2+1)),Z51,Z0,H',⟨by have:=HJ5.out;have:=HK2.out;omega⟩,Z5⟩
def spec_UTF8.l0:Nat→ByteArray→Int→Option (Bool)
 | 0,_,_=>none
 | k+1,x0,x3=>if x3<(x0.size:Int) then ((spec_Character.f k x0 x3).bind fun bt384=>(if bt384.2.2=true then (spec_UTF8.l0 k x0 (wrap64 (x3+bt384.2.1))) else (some false))) else (some true)
def spec_UTF8.f (k:Nat) (a0:ByteArray):Option (Bool):=spec_UTF8.l0 k a0 0
theorem spec_UTF8.calls (k:Nat) (a0:ByteArray) (r:Bool) (w:World) (h:spec_UTF8.f k a0=some r) :
  Calls Tryz.prog 31 #[.string a0] w fun e w'=>e = .returned (.bool r)∧Drawn0 w w':=by
 have H:(spec_UTF8.l0 k a0 0)=some r:=h
 clear h
 have H':=am H
 clear H
 go_enter Tryz.func31,Tryz.ntmps31
 go_wp2
 (try simp only [Act.put,List.setIfInBounds_toArray,List.set_cons_succ,List.set_cons_zero])
 go_loopg [3] k (fun kq v3 w'=>∃ (x3_1:Int),v3 = .int .i64 x3_1∧Aside0 (spec_UTF8.l0 kq a0 x3_1=some r)∧Aside0 (kq≤k)∧Drawn0 w w')
 case atStart=>exact ⟨(0),Z0,H',⟨Nat.le_refl _⟩,Z5⟩
 clear H'
 obtain ⟨x3_1,rfl,HA,HK1,⟨m1,rfl⟩⟩:=hrel
 cases gk with
 | zero=>exact absurd HA.out (by simp [spec_UTF8.l0])
 | succ k1=>
 have H:=HA.out
 clear HA
 simp only [spec_UTF8.l0] at H
 by_cases c2:x3_1<(a0.size:Int)
 rotate_left
 ·
  rw [if_neg c2] at H
  have c2b0:=df c2
  clear c2
  obtain rfl:=Option.some.inj H
  go_wp2
  go_ret
  exact ⟨Z0,Z5⟩
 rw [if_pos c2] at H
 have c2b0:=dt c2
 clear c2
 replace H:=obs H
 obtain ⟨⟨t384,t385,t386⟩,A30,H⟩:=H
 dsimp only at H
 have A3:=am A30
 clear A30
 have HC4:=am H
 clear H
 go_upto_if 19 with (first | ((with_reducible refine gate_callee (f:=53) rfl ?_);refine goesL_ (some 14) rfl rfl Tryz.func53 Z1 rfl #[.string a0,.int .i64 x3_1] rfl Z10 ?_;(with_reducible refine (spec_Character.calls k1 a0 x3_1 t384 t385 t386 _ A3.out).mono ?_);rintro e w' ⟨rfl,⟨nd,rfl⟩⟩;refine ⟨_,rfl,?_⟩))
 (try simp only [Act.put,List.setIfInBounds_toArray,List.set_cons_zero,List.set_cons_succ])
 have H:=HC4.out
 clear HC4
 by_cases c5:t386=true
 rotate_left
 ·
  replace c5:=bef c5
  subst c5
  rw [if_neg (show ¬ (false=true) from Z2)] at H
  obtain rfl:=Option.some.inj H
  go_wp2
  go_ret
  exact ⟨Z0,Z5⟩
 subst c5
 rw [if_pos rfl] at H
 have H':=am H
 clear H
 go_wp2
 go_roundg k1
 case measure=>have:=HK1.out;omega
 case rel=>exact ⟨(wrap64 (x3_1+t385)),Z0,H',⟨Z19⟩,Z5⟩
end Go.Proofs.YtieflhncpjjciaaGreatDoor.PFnGjSquashItems
