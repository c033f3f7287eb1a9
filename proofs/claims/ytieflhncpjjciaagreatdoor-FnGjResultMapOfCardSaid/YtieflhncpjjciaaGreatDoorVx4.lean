import Derived.Test.YtieflhncpjjciaaGreatDoorVq
import Derived.Test.YtieflhncpjjciaaGreatDoorVx0
import Derived.Test.YtieflhncpjjciaaGreatDoorVx1
import Derived.Test.YtieflhncpjjciaaGreatDoorVx2
import Derived.Test.YtieflhncpjjciaaGreatDoorVx3
set_option maxHeartbeats 8000000
set_option maxRecDepth 100000
namespace Go.Proofs.YtieflhncpjjciaaGreatDoor.PFnGjSquashItems
open Go.RowKit Go.Proofs.YtieflhncpjjciaaGreatDoorW.PrintWords Go.Proofs.YtieflhncpjjciaaGreatDoorW.PrintLast Go.Proofs.YtieflhncpjjciaaGreatDoorW.PrintMore
attribute [local go_sem] max2_int min2_int max_two min_two max_three min_three max_four min_four
set_option linter.unusedVariables false
set_option linter.unusedSimpArgs false
theorem spec_reader_value.step (k:Nat) (ih_64_:∀ k_:Nat,k_<k→∀ (g:Nat) (s0_0:ByteArray) (s0_1:Int) (r1:List (S121)) (r2:List (S47)) (r3:Bool) (r4:ByteArray) (r5:Int) (w0 w:World) (hI:IsS72 w0 w g s0_0 s0_1) (hB:Below w0.heap.size w0 w) (h:spec_reader_members.f k_ s0_0 s0_1=some (r1,r2,r3,r4,r5)),
  Calls Tryz.prog 64 #[.pointer (some ⟨g,0,none⟩)] w fun e w'=>∃ v0_ v1_:Value,e = .returned (.tuple #[v0_,v1_,.bool r3])∧Kd.R k121 121 w' w.heap.size (fun _=>True) v0_ r1∧Kd.R k47 47 w' w.heap.size (fun k_=>some k_≠(v0_:Value).ownBlock) v1_ r2∧IsS72 w0 w' g r4 r5∧Below w0.heap.size w0 w'∧KeepBut w w' g none) (ih_65_:∀ k_:Nat,k_<k→∀ (g:Nat) (s0_0:ByteArray) (s0_1:Int) (r1:List (S47)) (r2:Bool) (r3:ByteArray) (r4:Int) (w0 w:World) (hI:IsS72 w0 w g s0_0 s0_1) (hB:Below w0.heap.size w0 w) (h:spec_reader_elements.f k_ s0_0 s0_1=some (r1,r2,r3,r4)),
  Calls Tryz.prog 65 #[.pointer (some ⟨g,0,none⟩)] w fun e w'=>∃ v0_:Value,e = .returned (.tuple #[v0_,.bool r2])∧Kd.R k47 47 w' w.heap.size (fun _=>True) v0_ r1∧IsS72 w0 w' g r3 r4∧Below w0.heap.size w0 w'∧KeepBut w w' g none) (ih_38_:∀ k_:Nat,k_<k→∀ (g:Nat) (s0_0:ByteArray) (s0_1:Int) (r1:Int) (r2:Int) (r3:Int) (r4:List (S121)) (r5:List (S47)) (r6:Bool) (r7:ByteArray) (r8:Int) (w0 w:World) (hI:IsS72 w0 w g s0_0 s0_1) (hB:Below w0.heap.size w0 w) (h:spec_reader_value.f k_ s0_0 s0_1=some (r1,r2,r3,r4,r5,r6,r7,r8)),
  Calls Tryz.prog 38 #[.pointer (some ⟨g,0,none⟩)] w fun e w'=>∃ v3_ v4_:Value,e = .returned (.tuple #[.agg #[.int .i64 r1,.int .i64 r2,.int .i64 r3,v3_,v4_],.bool r6])∧Kd.R k121 121 w' w.heap.size (fun _=>True) v3_ r4∧Kd.R k47 47 w' w.heap.size (fun k_=>some k_≠(v3_:Value).ownBlock) v4_ r5∧IsS72 w0 w' g r7 r8∧Below w0.heap.size w0 w'∧KeepBut w w' g none):∀ (g:Nat) (s0_0:ByteArray) (s0_1:Int) (r1:Int) (r2:Int) (r3:Int) (r4:List (S121)) (r5:List (S47)) (r6:Bool) (r7:ByteArray) (r8:Int) (w0 w:World) (hI:IsS72 w0 w g s0_0 s0_1) (hB:Below w0.heap.size w0 w) (h:spec_reader_value.f k s0_0 s0_1=some (r1,r2,r3,r4,r5,r6,r7,r8)),
  Calls Tryz.prog 38 #[.pointer (some ⟨g,0,none⟩)] w fun e w'=>∃ v3_ v4_:Value,e = .returned (.tuple #[.agg #[.int .i64 r1,.int .i64 r2,.int .i64 r3,v3_,v4_],.bool r6])∧Kd.R k121 121 w' w.heap.size (fun _=>True) v3_ r4∧Kd.R k47 47 w' w.heap.size (fun k_=>some k_≠(v3_:Value).ownBlock) v4_ r5∧IsS72 w0 w' g r7 r8∧Below w0.heap.size w0 w'∧KeepBut w w' g none:=by
 intro g s0_0 s0_1 r1 r2 r3 r4 r5 r6 r7 r8 w0 w hI hB h
 cases k with
 | zero=>exact absurd h (by simp [spec_reader_value.f])
 | succ k=>
 simp only [spec_reader_value.f] at h
 have hu47:=Tryz.underlying47
 have HI0:=am hI
 have HK:=am (KeepBut.refl w g none)
 have HL:=am hB.size
 clear hI
 have HW0:=am hB.size
 have HB:=am hB
 clear hB
 have H:((spec_reader_here.f s0_0 s0_1).bind fun bt232=>(if bt232.1=123 then ((spec_reader_members.f k bt232.2.1 bt232.2.2).bind fun bt235=>(some (6,s0_1,bt235.2.2.2.2,bt235.1,bt235.2.1,bt235.2.2.1,bt235.2.2.2.1,bt235.2.2.2.2))) else (if bt232.1=91 then ((spec_reader_elements.f k bt232.2.1 bt232.2.2).bind fun bt244=>(some (5,s0_1,bt244.2.2.2,([]:List (S121)),bt244.1,bt244.2.1,bt244.2.2.1,bt244.2.2.2))) else (if bt232.1=34 then ((spec_reader_quoted.f k bt232.2.1 bt232.2.2).bind fun bt250=>(some (4,s0_1,bt250.2.2,([]:List (S121)),([]:List (S47)),bt250.1,bt250.2.1,bt250.2.2))) else (if bt232.1=45 then (spec_reader_value.j0 k true true bt232.2.1 bt232.2.2 0 s0_1 0) else (if 48≤bt232.1 then (spec_reader_value.j0 k true (decide (bt232.1≤57)) bt232.2.1 bt232.2.2 0 s0_1 0) else (spec_reader_value.j0 k true false bt232.2.1 bt232.2.2 0 s0_1 0)))))))=some (r1,r2,r3,r4,r5,r6,r7,r8):=h
 clear h
 replace H:=obs H
 obtain ⟨⟨t232,t233,t234⟩,A20,H⟩:=H
 dsimp only at H
 have A2:=am A20
 clear A20
 have HC3:=am H
 clear H
 go_enter Tryz.func38,Tryz.ntmps38
 go_upto_if 14 with (first | ((with_reducible refine gate_dst (N:=2) rfl ?_);refine box_event ?hg (N:=2) ?hd (cs:=#[.int .i64 0,.int .i64 0,.int .i64 0,.slice none 0 0,.slice none 0 0]) (t:=47) ?hr ?_;(case hd=>exact Z9);(case hg=>exact Z9);(case hr=>exact Z17);intro gb230 hg w4 hbox hb;have n0_:=am (IsS72.below Z3 hb);have n1_:=am (KeepBut.trans Z4 (KeepBut.of_below hb g none) (.inl rfl));have n2_:=am (below_step Z7 hb);have n3_:=am (hbox);have n4_:=am ((Z77:w.heap.size≤gb230));have n5_:=am ((Nat.le_trans HW0.out (Z77:w.heap.size≤gb230):w0.heap.size≤gb230));have n6_:=am ((by rw [hg];exact Nat.ne_of_lt (IsS72.lt (show IsS72 w0 _ g s0_0 s0_1 from Z3)):g≠gb230));have n7_:=am ((by rw [hg];exact Nat.ne_of_gt (IsS72.lt (show IsS72 w0 _ g s0_0 s0_1 from Z3)):gb230≠g));clear HI0;clear HK;clear HB;have HI0:=n0_;have HK:=n1_;have HB:=n2_;have BK230:=n3_;have GW230:=n4_;have GE230:=n5_;have NB0_230:=n6_;have NB230_0:=n7_;clear n0_ n1_ n2_ n3_ n4_ n5_ n6_ n7_;clear hb hbox hg;obtain ⟨HGz5,hgz5⟩:=HI0.out;have hcz5_0:=cellS72_0 HGz5;have hcz5_1:=cellS72_1 HGz5;have hfz5_0:=bkf HGz5 0;have hfz5_1:=bkf HGz5 1;clear HGz5 hgz5) | ((with_reducible refine gate_dst (N:=4) rfl ?_);refine box_event ?hg (N:=4) ?hd (cs:=#[.int .i64 0,.int .i64 0,.int .i64 0,.slice none 0 0,.slice none 0 0]) (t:=47) ?hr ?_;(case hd=>exact Z9);(case hg=>exact Z9);(case hr=>exact Z17);intro gb231 hg w6 hbox hb;have n0_:=am (IsS72.below Z43 hb);have n1_:=am (blk_below (g:=gb230) (o:=.cells #[.int .i64 0,.int .i64 0,.int .i64 0,.slice none 0 0,.slice none 0 0] 47 (0,0)) (pB BK230.out) hb);have n2_:=am (KeepBut.trans Z44 (KeepBut.of_below hb g none) (.inl rfl));have n3_:=am (below_step (by repeat (first | (with_reducible first | exact HB.out | apply below_alloc | apply pw_below_drewN | apply below_drew1 | refine below_set ?_ (IsS72.ge HI0.out) | refine below_set ?_ GE230.out) | exact HB.out)) hb);have n4_:=am (hbox);have n5_:=am ((by rw [hg];exact (keep_size (w:=w) (g:=g) (row:=none) Z44):w.heap.size≤gb231));have n6_:=am ((Nat.le_trans HW0.out (by rw [hg];exact (keep_size (w:=w) (g:=g) (row:=none) Z44):w.heap.size≤gb231):w0.heap.size≤gb231));have n7_:=am ((by rw [hg];exact Nat.ne_of_lt (blk_lt (g:=gb230) (o:=.cells #[.int .i64 0,.int .i64 0,.int .i64 0,.slice none 0 0,.slice none 0 0] 47 (0,0)) (pB BK230.out)):gb230≠gb231));have n8_:=am ((by rw [hg];exact Nat.ne_of_gt (blk_lt (g:=gb230) (o:=.cells #[.int .i64 0,.int .i64 0,.int .i64 0,.slice none 0 0,.slice none 0 0] 47 (0,0)) (pB BK230.out)):gb231≠gb230));have n9_:=am ((by rw [hg];exact Nat.ne_of_lt (IsS72.lt (show IsS72 w0 _ g s0_0 s0_1 from Z43)):g≠gb231));have n10_:=am ((by rw [hg];exact Nat.ne_of_gt (IsS72.lt (show IsS72 w0 _ g s0_0 s0_1 from Z43)):gb231≠g));clear HI0;clear BK230;clear HK;clear HB;have HI0:=n0_;have BK230:=n1_;have HK:=n2_;have HB:=n3_;have BK231:=n4_;have GW231:=n5_;have GE231:=n6_;have NB230_231:=n7_;have NB231_230:=n8_;have NB0_231:=n9_;have NB231_0:=n10_;clear n0_ n1_ n2_ n3_ n4_ n5_ n6_ n7_ n8_ n9_ n10_;clear hb hbox hg;have hnb7:=NB231_230.out;have hnc7:=NB230_231.out;have hnb8:=NB231_0.out;have hnc8:=NB0_231.out;have hcz9_0:w6.cell? ⟨gb231,0,none⟩=some (.int .i64 0):=(bkc BK231.out 0).trans rfl;have hcz9_1:w6.cell? ⟨gb231,1,none⟩=some (.int .i64 0):=(bkc BK231.out 1).trans rfl;have hcz9_2:w6.cell? ⟨gb231,2,none⟩=some (.int .i64 0):=(bkc BK231.out 2).trans rfl;have hcz9_3:w6.cell? ⟨gb231,3,none⟩=some (.slice none 0 0):=(bkc BK231.out 3).trans rfl;have hcz9_4:w6.cell? ⟨gb231,4,none⟩=some (.slice none 0 0):=(bkc BK231.out 4).trans rfl;have hfz9_0:=bkf BK231.out 0;have hfz9_1:=bkf BK231.out 1;have hfz9_2:=bkf BK231.out 2;have hfz9_3:=bkf BK231.out 3;have hfz9_4:=bkf BK231.out 4) | ((with_reducible refine gate_callee (f:=63) rfl ?_);refine goesL_ (some 13) rfl rfl Tryz.func63 Z1 rfl #[.pointer (some ⟨g,0,none⟩)] rfl Z10 ?_;(with_reducible refine (spec_reader_here.calls g s0_0 s0_1 t232 t233 t234 w0 _ ?side1 ?side2 A2.out).mono ?_);(case side1=>exact Z20);(case side2=>exact Z21);rintro e w10 ⟨rfl,hi,hb,hk⟩;refine ⟨_,rfl,?_⟩;have n0_:=am (KeepBut.blk hk (g':=gb230) (o:=.cells #[.int .i64 0,.int .i64 0,.int .i64 0,.slice none 0 0,.slice none 0 0] 47 (0,0)) (by (with_reducible repeat (first | refine bkn ?_ _ | refine bkd ?_ | refine bka ?_ _));refine blk_far ?_ NB230_231.out _;(with_reducible repeat (first | refine bkn ?_ _ | refine bkd ?_ | refine bka ?_ _));refine blk_far ?_ NB230_231.out _;(with_reducible repeat (first | refine bkn ?_ _ | refine bkd ?_ | refine bka ?_ _));refine blk_far ?_ NB230_231.out _;(with_reducible repeat (first | refine bkn ?_ _ | refine bkd ?_ | refine bka ?_ _));refine blk_far ?_ NB230_231.out _;(with_reducible repeat (first | refine bkn ?_ _ | refine bkd ?_ | refine bka ?_ _));refine blk_far ?_ NB230_231.out _;(with_reducible repeat (first | refine bkn ?_ _ | refine bkd ?_ | refine bka ?_ _));exact BK230.out) NB230_0.out Z6);have n1_:=am (KeepBut.blk hk (g':=gb231) (o:=.cells #[.int .i64 0,.int .i64 s0_1,.int .i64 0,.slice none 0 0,.slice none 0 0] 47 (0,0)) (by (with_reducible repeat (first | refine bkn ?_ _ | refine bkd ?_ | refine bka ?_ _));refine blk_put (cs:=#[.int .i64 0,.int .i64 s0_1,.int .i64 0,.slice none 0 0,.slice none 0 0]) ?_ 4 _ rfl;(with_reducible repeat (first | refine bkn ?_ _ | refine bkd ?_ | refine bka ?_ _));refine blk_put (cs:=#[.int .i64 0,.int .i64 s0_1,.int .i64 0,.slice none 0 0,.slice none 0 0]) ?_ 3 _ rfl;(with_reducible repeat (first | refine bkn ?_ _ | refine bkd ?_ | refine bka ?_ _));refine blk_put (cs:=#[.int .i64 0,.int .i64 s0_1,.int .i64 0,.slice none 0 0,.slice none 0 0]) ?_ 2 _ rfl;(with_reducible repeat (first | refine bkn ?_ _ | refine bkd ?_ | refine bka ?_ _));refine blk_put (cs:=#[.int .i64 0,.int .i64 0,.int .i64 0,.slice none 0 0,.slice none 0 0]) ?_ 1 _ rfl;(with_reducible repeat (first | refine bkn ?_ _ | refine bkd ?_ | refine bka ?_ _));refine blk_put (cs:=#[.int .i64 0,.int .i64 0,.int .i64 0,.slice none 0 0,.slice none 0 0]) ?_ 0 _ rfl;(with_reducible repeat (first | refine bkn ?_ _ | refine bkd ?_ | refine bka ?_ _));exact BK231.out) NB231_0.out Z6);have n2_:=am (KeepBut.trans Z18 hk (.inl rfl));have n3_:=am (hb);have n4_:=am (hi);clear BK230;clear BK231;clear HK;clear HB;clear HI0;have BK230:=n0_;have BK231:=n1_;have HK:=n2_;have HB:=n3_;have HI0:=n4_;clear n0_ n1_ n2_ n3_ n4_;(try clear hb);(try clear hb2);(try clear hk);(try clear hi)))
 (try simp only [Act.put,List.setIfInBounds_toArray,List.set_cons_zero,List.set_cons_succ])
 have H:=HC3.out
 clear HC3
 by_cases c11:t232=123
 ·
  rw [if_pos c11] at H
  have c11b0:=beq_iff_eq.mpr c11
  have c11b1:=bnf c11
  clear c11
  (first | rw [c11b0] | (simp only [i64_w,i32_w];rw [c11b0]) | skip)
  replace H:=obs H
  obtain ⟨⟨t235,t238,t241,t242,t243⟩,A120,H⟩:=H
  dsimp only at H
  have A12:=am A120
  clear A120
  simp only [Option.some.injEq,Prod.mk.injEq] at H
  obtain ⟨rfl,rfl,rfl,rfl,rfl,rfl,rfl,rfl⟩:=H
  have hnb13:=NB231_230.out
  have hnc13:=NB230_231.out
  have hnb14:=NB231_0.out
  have hnc14:=NB0_231.out
  have hcz15_0:w10.cell? ⟨gb231,0,none⟩=some (.int .i64 0):=(bkc BK231.out 0).trans rfl
  have hcz15_1:w10.cell? ⟨gb231,1,none⟩=some (.int .i64 s0_1):=(bkc BK231.out 1).trans rfl
  have hcz15_2:w10.cell? ⟨gb231,2,none⟩=some (.int .i64 0):=(bkc BK231.out 2).trans rfl
  have hcz15_3:w10.cell? ⟨gb231,3,none⟩=some (.slice none 0 0):=(bkc BK231.out 3).trans rfl
  have hcz15_4:w10.cell? ⟨gb231,4,none⟩=some (.slice none 0 0):=(bkc BK231.out 4).trans rfl
  have hfz15_0:=bkf BK231.out 0
  have hfz15_1:=bkf BK231.out 1
  have hfz15_2:=bkf BK231.out 2
  have hfz15_3:=bkf BK231.out 3
  have hfz15_4:=bkf BK231.out 4
  go_wp2_with (first | ((with_reducible refine gate_callee (f:=64) rfl ?_);refine goesL_ (some 20) rfl rfl Tryz.func64 Z1 rfl #[.pointer (some ⟨g,0,none⟩)] rfl Z10 ?_;(with_reducible refine (ih_64_ k Z14 g t233 t234 t235 t238 t241 t242 t243 w0 _ ?side1 ?side2 A12.out).mono ?_);(case side1=>exact Z20);(case side2=>exact Z21);rintro e w16 ⟨v236,v239,rfl,ho0,ho1,hi,hb,hk⟩;refine ⟨_,rfl,?_⟩;have n0_:=am (KeepBut.blk hk (g':=gb230) (o:=.cells #[.int .i64 0,.int .i64 0,.int .i64 0,.slice none 0 0,.slice none 0 0] 47 (0,0)) Z32 NB230_0.out Z6);have n1_:=am (KeepBut.blk hk (g':=gb231) (o:=.cells #[.int .i64 6,.int .i64 s0_1,.int .i64 0,.slice none 0 0,.slice none 0 0] 47 (0,0)) Z33 NB231_0.out Z6);have n2_:=am (Kd.R_lower ho0 (keep_size (w:=w) (g:=g) (row:=none) Z18));have n3_:=am (Kd.R_lower (Kd.R_newB (Kd.R_newB ho1 (g:=gb230) (o:=.cells #[.int .i64 0,.int .i64 0,.int .i64 0,.slice none 0 0,.slice none 0 0] 47 (0,0)) Z32) (g:=gb231) (o:=.cells #[.int .i64 6,.int .i64 s0_1,.int .i64 0,.slice none 0 0,.slice none 0 0] 47 (0,0)) Z33) (keep_size (w:=w) (g:=g) (row:=none) Z18));have n4_:=am (KeepBut.trans Z18 hk (.inl rfl));have n5_:=am (hb);have n6_:=am (hi);clear BK230;clear BK231;clear HK;clear HB;clear HI0;have BK230:=n0_;have BK231:=n1_;have HO237:=n2_;have HO240:=n3_;have HK:=n4_;have HB:=n5_;have HI0:=n6_;clear n0_ n1_ n2_ n3_ n4_ n5_ n6_;(try clear hb);(try clear hb2);(try clear hk);(try clear hi);(try clear ho0);(try clear ho1);obtain ⟨Ao17,co17,eo17⟩:=Kd.R_slice HO237.out;subst eo17;have hcz18_0:w16.cell? ⟨gb231,0,none⟩=some (.int .i64 6):=(bkc BK231.out 0).trans rfl;have hcz18_1:w16.cell? ⟨gb231,1,none⟩=some (.int .i64 s0_1):=(bkc BK231.out 1).trans rfl;have hcz18_2:w16.cell? ⟨gb231,2,none⟩=some (.int .i64 0):=(bkc BK231.out 2).trans rfl;have hcz18_3:w16.cell? ⟨gb231,3,none⟩=some (.slice none 0 0):=(bkc BK231.out 3).trans rfl;have hcz18_4:w16.cell? ⟨gb231,4,none⟩=some (.slice none 0 0):=(bkc BK231.out 4).trans rfl;have hfz18_0:=bkf BK231.out 0;have hfz18_1:=bkf BK231.out 1;have hfz18_2:=bkf BK231.out 2;have hfz18_3:=bkf BK231.out 3;have hfz18_4:=bkf BK231.out 4;obtain ⟨Ao19,co19,eo19⟩:=Kd.R_slice HO240.out;subst eo19;obtain ⟨HGz20,hgz20⟩:=HI0.out;have hcz20_0:=cellS72_0 HGz20;have hcz20_1:=cellS72_1 HGz20;have hfz20_0:=bkf HGz20 0;have hfz20_1:=bkf HGz20 1;clear HGz20 hgz20;have hnb21:=NB230_0.out;have hnc21:=NB0_230.out;have hcz22_0:w16.cell? ⟨gb230,0,none⟩=some (.int .i64 0):=(bkc BK230.out 0).trans rfl;have hcz22_1:w16.cell? ⟨gb230,1,none⟩=some (.int .i64 0):=(bkc BK230.out 1).trans rfl;have hcz22_2:w16.cell? ⟨gb230,2,none⟩=some (.int .i64 0):=(bkc BK230.out 2).trans rfl;have hcz22_3:w16.cell? ⟨gb230,3,none⟩=some (.slice none 0 0):=(bkc BK230.out 3).trans rfl;have hcz22_4:w16.cell? ⟨gb230,4,none⟩=some (.slice none 0 0):=(bkc BK230.out 4).trans rfl;have hfz22_0:=bkf BK230.out 0;have hfz22_1:=bkf BK230.out 1;have hfz22_2:=bkf BK230.out 2;have hfz22_3:=bkf BK230.out 3;have hfz22_4:=bkf BK230.out 4))
  refine bodyPost_ret (results_ct rfl _ _ gb230 47 #[.int .i64 6,.int .i64 s0_1,.int .i64 t243,.slice Ao17 t235.length co17,.slice Ao19 t238.length co19] (0,0) _ rfl (by (with_reducible repeat (first | refine bkn ?_ _ | refine bkd ?_ | refine bka ?_ _));refine blk_put (cs:=#[.int .i64 6,.int .i64 s0_1,.int .i64 t243,.slice Ao17 t235.length co17,.slice none 0 0]) ?_ 4 _ rfl;(with_reducible repeat (first | refine bkn ?_ _ | refine bkd ?_ | refine bka ?_ _));refine blk_put (cs:=#[.int .i64 6,.int .i64 s0_1,.int .i64 t243,.slice none 0 0,.slice none 0 0]) ?_ 3 _ rfl;(with_reducible repeat (first | refine bkn ?_ _ | refine bkd ?_ | refine bka ?_ _));refine blk_put (cs:=#[.int .i64 6,.int .i64 s0_1,.int .i64 0,.slice none 0 0,.slice none 0 0]) ?_ 2 _ rfl;(with_reducible repeat (first | refine bkn ?_ _ | refine bkd ?_ | refine bka ?_ _));refine blk_put (cs:=#[.int .i64 6,.int .i64 0,.int .i64 0,.slice none 0 0,.slice none 0 0]) ?_ 1 _ rfl;(with_reducible repeat (first | refine bkn ?_ _ | refine bkd ?_ | refine bka ?_ _));refine blk_put (cs:=#[.int .i64 0,.int .i64 0,.int .i64 0,.slice none 0 0,.slice none 0 0]) ?_ 0 _ rfl;(with_reducible repeat (first | refine bkn ?_ _ | refine bkd ?_ | refine bka ?_ _));refine blk_far ?_ NB230_231.out _;(with_reducible repeat (first | refine bkn ?_ _ | refine bkd ?_ | refine bka ?_ _));refine blk_far ?_ NB230_231.out _;(with_reducible repeat (first | refine bkn ?_ _ | refine bkd ?_ | refine bka ?_ _));refine blk_far ?_ NB230_231.out _;(with_reducible repeat (first | refine bkn ?_ _ | refine bkd ?_ | refine bka ?_ _));exact BK230.out) Tryz.underlying47 rfl Z1) rfl ?_
  exact ⟨_,_,Z12,by (with_reducible repeat (first | apply Kd.R_alloc | apply Kd.R_drewN | apply Kd.R_drew));exact Kd.R_mono (Kd.R_far (p:=⟨gb230,4,none⟩) (Kd.R_far (p:=⟨gb230,3,none⟩) (Kd.R_far (p:=⟨gb230,2,none⟩) (Kd.R_far (p:=⟨gb230,1,none⟩) (Kd.R_far (p:=⟨gb230,0,none⟩) (Kd.R_far (p:=⟨gb231,2,none⟩) (Kd.R_far (p:=⟨gb231,4,none⟩) (Kd.R_far (p:=⟨gb231,3,none⟩) (Kd.R_types (Kd.R_types HO237.out BK231.out Z2) BK230.out Z2) (fun _ hk=>hk.1.2) (.slice Ao17 t235.length co17)) (fun _ hk=>hk.1.2) (.slice Ao19 t238.length co19)) (fun _ hk=>hk.1.2) (.int .i64 t243)) (fun _ hk=>hk.2) (.int .i64 6)) (fun _ hk=>hk.2) (.int .i64 s0_1)) (fun _ hk=>hk.2) (.int .i64 t243)) (fun _ hk=>hk.2) (.slice Ao17 t235.length co17)) (fun _ hk=>hk.2) (.slice Ao19 t238.length co19)) (fun _ hk=>trivial),by (with_reducible repeat (first | apply Kd.R_alloc | apply Kd.R_drewN | apply Kd.R_drew));exact Kd.R_mono (Kd.R_far (p:=⟨gb230,4,none⟩) (Kd.R_far (p:=⟨gb230,3,none⟩) (Kd.R_far (p:=⟨gb230,2,none⟩) (Kd.R_far (p:=⟨gb230,1,none⟩) (Kd.R_far (p:=⟨gb230,0,none⟩) (Kd.R_far (p:=⟨gb231,2,none⟩) (Kd.R_far (p:=⟨gb231,4,none⟩) (Kd.R_far (p:=⟨gb231,3,none⟩) (Kd.R_mono (Kd.R_mono HO240.out (fun k_ hk=>(⟨hk,hk.2⟩:_∧k_≠gb231))) (fun k_ hk=>(⟨hk,hk.1.1.2⟩:_∧k_≠gb230))) (fun _ hk=>hk.1.2) (.slice Ao17 t235.length co17)) (fun _ hk=>hk.1.2) (.slice Ao19 t238.length co19)) (fun _ hk=>hk.1.2) (.int .i64 t243)) (fun _ hk=>hk.2) (.int .i64 6)) (fun _ hk=>hk.2) (.int .i64 s0_1)) (fun _ hk=>hk.2) (.int .i64 t243)) (fun _ hk=>hk.2) (.slice Ao17 t235.length co17)) (fun _ hk=>hk.2) (.slice Ao19 t238.length co19)) (fun _ hk=>hk.1.1.1.1),Z20,Z21,Z18⟩
 rw [if_neg c11] at H
 have c11b0:=bfe c11
 have c11b1:=bne_iff_ne.mpr c11
 (first | rw [c11b0] | (simp only [i64_w,i32_w];rw [c11b0]) | skip)
 by_cases c23:t232=91
 ·
  rw [if_pos c23] at H
  have c23b0:=beq_iff_eq.mpr c23
  have c23b1:=bnf c23
  clear c23
  replace H:=obs H
  obtain ⟨⟨t244,t247,t248,t249⟩,A240,H⟩:=H
  dsimp only at H
  have A24:=am A240
  clear A240
  simp only [Option.some.injEq,Prod.mk.injEq] at H
  obtain ⟨rfl,rfl,rfl,rfl,rfl,rfl,rfl,rfl⟩:=H
  have hnb25:=NB231_230.out
  have hnc25:=NB230_231.out
  have hnb26:=NB231_0.out
  have hnc26:=NB0_231.out
  have hcz27_0:w10.cell? ⟨gb231,0,none⟩=some (.int .i64 0):=(bkc BK231.out 0).trans rfl
  have hcz27_1:w10.cell? ⟨gb231,1,none⟩=some (.int .i64 s0_1):=(bkc BK231.out 1).trans rfl
  have hcz27_2:w10.cell? ⟨gb231,2,none⟩=some (.int .i64 0):=(bkc BK231.out 2).trans rfl
  have hcz27_3:w10.cell? ⟨gb231,3,none⟩=some (.slice none 0 0):=(bkc BK231.out 3).trans rfl
  have hcz27_4:w10.cell? ⟨gb231,4,none⟩=some (.slice none 0 0):=(bkc BK231.out 4).trans rfl
  have hfz27_0:=bkf BK231.out 0
  have hfz27_1:=bkf BK231.out 1
  have hfz27_2:=bkf BK231.out 2
  have hfz27_3:=bkf BK231.out 3
  have hfz27_4:=bkf BK231.out 4
  go_wp2_with (first | ((with_reducible refine gate_callee (f:=65) rfl ?_);refine goesL_ (some 32) rfl rfl Tryz.func65 Z1 rfl #[.pointer (some ⟨g,0,none⟩)] rfl Z10 ?_;(with_reducible refine (ih_65_ k Z14 g t233 t234 t244 t247 t248 t249 w0 _ ?side1 ?side2 A24.out).mono ?_);(case side1=>exact Z20);(case side2=>exact Z21);rintro e w28 ⟨v245,rfl,ho0,hi,hb,hk⟩;refine ⟨_,rfl,?_⟩;have n0_:=am (KeepBut.blk hk (g':=gb230) (o:=.cells #[.int .i64 0,.int .i64 0,.int .i64 0,.slice none 0 0,.slice none 0 0] 47 (0,0)) Z32 NB230_0.out Z6);have n1_:=am (KeepBut.blk hk (g':=gb231) (o:=.cells #[.int .i64 5,.int .i64 s0_1,.int .i64 0,.slice none 0 0,.slice none 0 0] 47 (0,0)) Z33 NB231_0.out Z6);have n2_:=am (Kd.R_lower (Kd.R_newB (Kd.R_newB ho0 (g:=gb230) (o:=.cells #[.int .i64 0,.int .i64 0,.int .i64 0,.slice none 0 0,.slice none 0 0] 47 (0,0)) Z32) (g:=gb231) (o:=.cells #[.int .i64 5,.int .i64 s0_1,.int .i64 0,.slice none 0 0,.slice none 0 0] 47 (0,0)) Z33) (keep_size (w:=w) (g:=g) (row:=none) Z18));have n3_:=am (KeepBut.trans Z18 hk (.inl rfl));have n4_:=am (hb);have n5_:=am (hi);clear BK230;clear BK231;clear HK;clear HB;clear HI0;have BK230:=n0_;have BK231:=n1_;have HO246:=n2_;have HK:=n3_;have HB:=n4_;have HI0:=n5_;clear n0_ n1_ n2_ n3_ n4_ n5_;(try clear hb);(try clear hb2);(try clear hk);(try clear hi);(try clear ho0);obtain ⟨Ao29,co29,eo29⟩:=Kd.R_slice HO246.out;subst eo29;have hcz30_0:w28.cell? ⟨gb231,0,none⟩=some (.int .i64 5):=(bkc BK231.out 0).trans rfl;have hcz30_1:w28.cell? ⟨gb231,1,none⟩=some (.int .i64 s0_1):=(bkc BK231.out 1).trans rfl;have hcz30_2:w28.cell? ⟨gb231,2,none⟩=some (.int .i64 0):=(bkc BK231.out 2).trans rfl;have hcz30_3:w28.cell? ⟨gb231,3,none⟩=some (.slice none 0 0):=(bkc BK231.out 3).trans rfl;have hcz30_4:w28.cell? ⟨gb231,4,none⟩=some (.slice none 0 0):=(bkc BK231.out 4).trans rfl;have hfz30_0:=bkf BK231.out 0;have hfz30_1:=bkf BK231.out 1;have hfz30_2:=bkf BK231.out 2;have hfz30_3:=bkf BK231.out 3;have hfz30_4:=bkf BK231.out 4;obtain ⟨HGz31,hgz31⟩:=HI0.out;have hcz31_0:=cellS72_0 HGz31;have hcz31_1:=cellS72_1 HGz31;have hfz31_0:=bkf HGz31 0;have hfz31_1:=bkf HGz31 1;clear HGz31 hgz31;have hnb32:=NB230_0.out;have hnc32:=NB0_230.out;have hcz33_0:w28.cell? ⟨gb230,0,none⟩=some (.int .i64 0):=(bkc BK230.out 0).trans rfl;have hcz33_1:w28.cell? ⟨gb230,1,none⟩=some (.int .i64 0):=(bkc BK230.out 1).trans rfl;have hcz33_2:w28.cell? ⟨gb230,2,none⟩=some (.int .i64 0):=(bkc BK230.out 2).trans rfl;have hcz33_3:w28.cell? ⟨gb230,3,none⟩=some (.slice none 0 0):=(bkc BK230.out 3).trans rfl;have hcz33_4:w28.cell? ⟨gb230,4,none⟩=some (.slice none 0 0):=(bkc BK230.out 4).trans rfl;have hfz33_0:=bkf BK230.out 0;have hfz33_1:=bkf BK230.out 1;have hfz33_2:=bkf BK230.out 2;have hfz33_3:=bkf BK230.out 3;have hfz33_4:=bkf BK230.out 4))
  refine bodyPost_ret (results_ct rfl _ _ gb230 47 #[.int .i64 5,.int .i64 s0_1,.int .i64 t249,.slice none 0 0,.slice Ao29 t244.length co29] (0,0) _ rfl (by (with_reducible repeat (first | refine bkn ?_ _ | refine bkd ?_ | refine bka ?_ _));refine blk_put (cs:=#[.int .i64 5,.int .i64 s0_1,.int .i64 t249,.slice none 0 0,.slice none 0 0]) ?_ 4 _ rfl;(with_reducible repeat (first | refine bkn ?_ _ | refine bkd ?_ | refine bka ?_ _));refine blk_put (cs:=#[.int .i64 5,.int .i64 s0_1,.int .i64 t249,.slice none 0 0,.slice none 0 0]) ?_ 3 _ rfl;(with_reducible repeat (first | refine bkn ?_ _ | refine bkd ?_ | refine bka ?_ _));refine blk_put (cs:=#[.int .i64 5,.int .i64 s0_1,.int .i64 0,.slice none 0 0,.slice none 0 0]) ?_ 2 _ rfl;(with_reducible repeat (first | refine bkn ?_ _ | refine bkd ?_ | refine bka ?_ _));refine blk_put (cs:=#[.int .i64 5,.int .i64 0,.int .i64 0,.slice none 0 0,.slice none 0 0]) ?_ 1 _ rfl;(with_reducible repeat (first | refine bkn ?_ _ | refine bkd ?_ | refine bka ?_ _));refine blk_put (cs:=#[.int .i64 0,.int .i64 0,.int .i64 0,.slice none 0 0,.slice none 0 0]) ?_ 0 _ rfl;(with_reducible repeat (first | refine bkn ?_ _ | refine bkd ?_ | refine bka ?_ _));refine blk_far ?_ NB230_231.out _;(with_reducible repeat (first | refine bkn ?_ _ | refine bkd ?_ | refine bka ?_ _));refine blk_far ?_ NB230_231.out _;(with_reducible repeat (first | refine bkn ?_ _ | refine bkd ?_ | refine bka ?_ _));exact BK230.out) Tryz.underlying47 rfl Z1) rfl ?_
  exact ⟨_,_,Z12,Z13,by (with_reducible repeat (first | apply Kd.R_alloc | apply Kd.R_drewN | apply Kd.R_drew));exact Kd.R_mono (Kd.R_far (p:=⟨gb230,4,none⟩) (Kd.R_far (p:=⟨gb230,3,none⟩) (Kd.R_far (p:=⟨gb230,2,none⟩) (Kd.R_far (p:=⟨gb230,1,none⟩) (Kd.R_far (p:=⟨gb230,0,none⟩) (Kd.R_far (p:=⟨gb231,2,none⟩) (Kd.R_far (p:=⟨gb231,4,none⟩) (Kd.R_mono (Kd.R_mono HO246.out (fun k_ hk=>(⟨hk,hk.2⟩:_∧k_≠gb231))) (fun k_ hk=>(⟨hk,hk.1.1.2⟩:_∧k_≠gb230))) (fun _ hk=>hk.1.2) (.slice Ao29 t244.length co29)) (fun _ hk=>hk.1.2) (.int .i64 t249)) (fun _ hk=>hk.2) (.int .i64 5)) (fun _ hk=>hk.2) (.int .i64 s0_1)) (fun _ hk=>hk.2) (.int .i64 t249)) (fun _ hk=>hk.2) (.slice none 0 0)) (fun _ hk=>hk.2) (.slice Ao29 t244.length co29)) (fun _ hk=>(by simp [Value.ownBlock])),Z20,Z21,Z18⟩
 rw [if_neg c23] at H
 have c23b0:=bfe c23
 have c23b1:=bne_iff_ne.mpr c23
 by_cases c34:t232=34
 ·
  rw [if_pos c34] at H
  have c34b0:=beq_iff_eq.mpr c34
  have c34b1:=bnf c34
  clear c34
  replace H:=obs H
  obtain ⟨⟨t250,t251,t252⟩,A350,H⟩:=H
  dsimp only at H
  have A35:=am A350
  clear A350
  simp only [Option.some.injEq,Prod.mk.injEq] at H
  obtain ⟨rfl,rfl,rfl,rfl,rfl,rfl,rfl,rfl⟩:=H
  have hnb36:=NB231_230.out
  have hnc36:=NB230_231.out
  have hnb37:=NB231_0.out
  have hnc37:=NB0_231.out
  have hcz38_0:w10.cell? ⟨gb231,0,none⟩=some (.int .i64 0):=(bkc BK231.out 0).trans rfl
  have hcz38_1:w10.cell? ⟨gb231,1,none⟩=some (.int .i64 s0_1):=(bkc BK231.out 1).trans rfl
  have hcz38_2:w10.cell? ⟨gb231,2,none⟩=some (.int .i64 0):=(bkc BK231.out 2).trans rfl
  have hcz38_3:w10.cell? ⟨gb231,3,none⟩=some (.slice none 0 0):=(bkc BK231.out 3).trans rfl
  have hcz38_4:w10.cell? ⟨gb231,4,none⟩=some (.slice none 0 0):=(bkc BK231.out 4).trans rfl
  have hfz38_0:=bkf BK231.out 0
  have hfz38_1:=bkf BK231.out 1
  have hfz38_2:=bkf BK231.out 2
  have hfz38_3:=bkf BK231.out 3
  have hfz38_4:=bkf BK231.out 4
  go_wp2_with (first | ((with_reducible refine gate_callee (f:=66) rfl ?_);refine goesL_ (some 41) rfl rfl Tryz.func66 Z1 rfl #[.pointer (some ⟨g,0,none⟩)] rfl Z10 ?_;(with_reducible refine (spec_reader_quoted.calls k g t233 t234 t250 t251 t252 w0 _ ?side1 ?side2 A35.out).mono ?_);(case side1=>exact Z20);(case side2=>exact Z21);rintro e w39 ⟨rfl,hi,hb,hk⟩;refine ⟨_,rfl,?_⟩;have n0_:=am (KeepBut.blk hk (g':=gb230) (o:=.cells #[.int .i64 0,.int .i64 0,.int .i64 0,.slice none 0 0,.slice none 0 0] 47 (0,0)) Z32 NB230_0.out Z6);have n1_:=am (KeepBut.blk hk (g':=gb231) (o:=.cells #[.int .i64 4,.int .i64 s0_1,.int .i64 0,.slice none 0 0,.slice none 0 0] 47 (0,0)) Z33 NB231_0.out Z6);have n2_:=am (KeepBut.trans Z18 hk (.inl rfl));have n3_:=am (hb);have n4_:=am (hi);clear BK230;clear BK231;clear HK;clear HB;clear HI0;have BK230:=n0_;have BK231:=n1_;have HK:=n2_;have HB:=n3_;have HI0:=n4_;clear n0_ n1_ n2_ n3_ n4_;(try clear hb);(try clear hb2);(try clear hk);(try clear hi);obtain ⟨HGz40,hgz40⟩:=HI0.out;have hcz40_0:=cellS72_0 HGz40;have hcz40_1:=cellS72_1 HGz40;have hfz40_0:=bkf HGz40 0;have hfz40_1:=bkf HGz40 1;clear HGz40 hgz40;have hcz41_0:w39.cell? ⟨gb231,0,none⟩=some (.int .i64 4):=(bkc BK231.out 0).trans rfl;have hcz41_1:w39.cell? ⟨gb231,1,none⟩=some (.int .i64 s0_1):=(bkc BK231.out 1).trans rfl;have hcz41_2:w39.cell? ⟨gb231,2,none⟩=some (.int .i64 0):=(bkc BK231.out 2).trans rfl;have hcz41_3:w39.cell? ⟨gb231,3,none⟩=some (.slice none 0 0):=(bkc BK231.out 3).trans rfl;have hcz41_4:w39.cell? ⟨gb231,4,none⟩=some (.slice none 0 0):=(bkc BK231.out 4).trans rfl;have hfz41_0:=bkf BK231.out 0;have hfz41_1:=bkf BK231.out 1;have hfz41_2:=bkf BK231.out 2;have hfz41_3:=bkf BK231.out 3;have hfz41_4:=bkf BK231.out 4;have hnb42:=NB230_0.out;have hnc42:=NB0_230.out;have hcz43_0:w39.cell? ⟨gb230,0,none⟩=some (.int .i64 0):=(bkc BK230.out 0).trans rfl;have hcz43_1:w39.cell? ⟨gb230,1,none⟩=some (.int .i64 0):=(bkc BK230.out 1).trans rfl;have hcz43_2:w39.cell? ⟨gb230,2,none⟩=some (.int .i64 0):=(bkc BK230.out 2).trans rfl;have hcz43_3:w39.cell? ⟨gb230,3,none⟩=some (.slice none 0 0):=(bkc BK230.out 3).trans rfl;have hcz43_4:w39.cell? ⟨gb230,4,none⟩=some (.slice none 0 0):=(bkc BK230.out 4).trans rfl;have hfz43_0:=bkf BK230.out 0;have hfz43_1:=bkf BK230.out 1;have hfz43_2:=bkf BK230.out 2;have hfz43_3:=bkf BK230.out 3;have hfz43_4:=bkf BK230.out 4))
  refine bodyPost_ret (results_ct rfl _ _ gb230 47 #[.int .i64 4,.int .i64 s0_1,.int .i64 t252,.slice none 0 0,.slice none 0 0] (0,0) _ rfl (by (with_reducible repeat (first | refine bkn ?_ _ | refine bkd ?_ | refine bka ?_ _));refine blk_put (cs:=#[.int .i64 4,.int .i64 s0_1,.int .i64 t252,.slice none 0 0,.slice none 0 0]) ?_ 4 _ rfl;(with_reducible repeat (first | refine bkn ?_ _ | refine bkd ?_ | refine bka ?_ _));refine blk_put (cs:=#[.int .i64 4,.int .i64 s0_1,.int .i64 t252,.slice none 0 0,.slice none 0 0]) ?_ 3 _ rfl;(with_reducible repeat (first | refine bkn ?_ _ | refine bkd ?_ | refine bka ?_ _));refine blk_put (cs:=#[.int .i64 4,.int .i64 s0_1,.int .i64 0,.slice none 0 0,.slice none 0 0]) ?_ 2 _ rfl;(with_reducible repeat (first | refine bkn ?_ _ | refine bkd ?_ | refine bka ?_ _));refine blk_put (cs:=#[.int .i64 4,.int .i64 0,.int .i64 0,.slice none 0 0,.slice none 0 0]) ?_ 1 _ rfl;(with_reducible repeat (first | refine bkn ?_ _ | refine bkd ?_ | refine bka ?_ _));refine blk_put (cs:=#[.int .i64 0,.int .i64 0,.int .i64 0,.slice none 0 0,.slice none 0 0]) ?_ 0 _ rfl;(with_reducible repeat (first | refine bkn ?_ _ | refine bkd ?_ | refine bka ?_ _));refine blk_far ?_ NB230_231.out _;(with_reducible repeat (first | refine bkn ?_ _ | refine bkd ?_ | refine bka ?_ _));exact BK230.out) Tryz.underlying47 rfl Z1) rfl ?_
  exact ⟨_,_,Z12,Z13,Z13,Z20,Z21,Z18⟩
 rw [if_neg c34] at H
 have c34b0:=bfe c34
 have c34b1:=bne_iff_ne.mpr c34
 have HC44:=am H
 clear H
 go_upto_region 14 with (fail)
 go_cut [42] (fun v42 wc=>∃ (kq:Nat) (x42_43:Bool),v42 = .bool x42_43∧Aside0 (spec_reader_value.j0 kq true x42_43 t233 t234 0 s0_1 0=some (r1,r2,r3,r4,r5,r6,r7,r8))∧Aside0 (kq≤k)∧Aside0 (wc.heap[gb230]? = some (.cells #[.int .i64 0,.int .i64 0,.int .i64 0,(.slice none 0 0),(.slice none 0 0)] 47 (0,0)))∧Aside0 (wc.heap[gb231]? = some (.cells #[.int .i64 0,.int .i64 s0_1,.int .i64 0,(.slice none 0 0),(.slice none 0 0)] 47 (0,0)))∧Aside0 (IsS72 w0 wc g t233 t234)∧Aside0 (KeepBut w wc g none)∧Aside0 (Below w0.heap.size w0 wc))
 case first=>
  have H:=HC44.out
  clear HC44
  by_cases c45:t232=45
  ·
   rw [if_pos c45] at H
   have c45b0:=beq_iff_eq.mpr c45
   have c45b1:=bnf c45
   clear c45
   (first | rw [c45b0] | (simp only [i64_w,i32_w];rw [c45b0]) | skip)
   have H':=am H
   clear H
   go_wp2
   go_meet
   case rel=>exact ⟨_,(true),Z0,H',⟨Z15⟩,⟨pB BK230.out⟩,⟨pB BK231.out⟩,⟨Z20⟩,⟨Z18⟩,⟨Z21⟩⟩
  rw [if_neg c45] at H
  have c45b0:=bfe c45
  have c45b1:=bne_iff_ne.mpr c45
  (first | rw [c45b0] | (simp only [i64_w,i32_w];rw [c45b0]) | skip)
  by_cases c46:48≤t232
  rotate_left
  ·
   rw [if_neg c46] at H
   have c46b0:=df c46
   clear c46
   have H':=am H
   clear H
   go_wp2
   go_meet
   case rel=>exact ⟨_,(false),Z0,H',⟨Z15⟩,⟨pB BK230.out⟩,⟨pB BK231.out⟩,⟨Z20⟩,⟨Z18⟩,⟨Z21⟩⟩
  rw [if_pos c46] at H
  have c46b0:=dt c46
  clear c46
  have H':=am H
  clear H
  go_wp2
  go_meet
  case rel=>exact ⟨_,(decide (t232≤57)),Z0,H',⟨Z15⟩,⟨pB BK230.out⟩,⟨pB BK231.out⟩,⟨Z20⟩,⟨Z18⟩,⟨Z21⟩⟩
 clear HC44;try clear c1;try clear c2;try clear p2;try clear c3;try clear c4;try clear c6;try clear c7;try clear c8;try clear c11;try clear c11b0;try clear c11b1;try clear c13;try clear c14;try clear c21;try clear c23;try clear c23b0;try clear c23b1;try clear c25;try clear c26;try clear c32;try clear c34;try clear c34b0;try clear c34b1;try clear c36;try clear c37;try clear c38;try clear c42;try clear c45;try clear c45b0;try clear c45b1;try clear c46;try clear c46b0;try clear hcz15_0;try clear hcz15_1;try clear hcz15_2;try clear hcz15_3;try clear hcz15_4;try clear hcz18_0;try clear hcz18_1;try clear hcz18_2;try clear hcz18_3;try clear hcz18_4;try clear hcz20_0;try clear hcz20_1;try clear hcz22_0;try clear hcz22_1;try clear hcz22_2;try clear hcz22_3;try clear hcz22_4;try clear hcz27_0;try clear hcz27_1;try clear hcz27_2;try clear hcz27_3;try clear hcz27_4;try clear hcz30_0;try clear hcz30_1;try clear hcz30_2;try clear hcz30_3;try clear hcz30_4;try clear hcz31_0;try clear hcz31_1;try clear hcz33_0;try clear hcz33_1;try clear hcz33_2;try clear hcz33_3;try clear hcz33_4;try clear hcz38_0;try clear hcz38_1;try clear hcz38_2;try clear hcz38_3;try clear hcz38_4;try clear hcz40_0;try clear hcz40_1;try clear hcz41_0;try clear hcz41_1;try clear hcz41_2;try clear hcz41_3;try clear hcz41_4;try clear hcz43_0;try clear hcz43_1;try clear hcz43_2;try clear hcz43_3;try clear hcz43_4;try clear hcz5_0;try clear hcz5_1;try clear hcz9_0;try clear hcz9_1;try clear hcz9_2;try clear hcz9_3;try clear hcz9_4;try clear hfz15_0;try clear hfz15_1;try clear hfz15_2;try clear hfz15_3;try clear hfz15_4;try clear hfz18_0;try clear hfz18_1;try clear hfz18_2;try clear hfz18_3;try clear hfz18_4;try clear hfz20_0;try clear hfz20_1;try clear hfz22_0;try clear hfz22_1;try clear hfz22_2;try clear hfz22_3;try clear hfz22_4;try clear hfz27_0;try clear hfz27_1;try clear hfz27_2;try clear hfz27_3;try clear hfz27_4;try clear hfz30_0;try clear hfz30_1;try clear hfz30_2;try clear hfz30_3;try clear hfz30_4;try clear hfz31_0;try clear hfz31_1;try clear hfz33_0;try clear hfz33_1;try clear hfz33_2;try clear hfz33_3;try clear hfz33_4;try clear hfz38_0;try clear hfz38_1;try clear hfz38_2;try clear hfz38_3;try clear hfz38_4;try clear hfz40_0;try clear hfz40_1;try clear hfz41_0;try clear hfz41_1;try clear hfz41_2;try clear hfz41_3;try clear hfz41_4;try clear hfz43_0;try clear hfz43_1;try clear hfz43_2;try clear hfz43_3;try clear hfz43_4;try clear hfz5_0;try clear hfz5_1;try clear hfz9_0;try clear hfz9_1;try clear hfz9_2;try clear hfz9_3;try clear hfz9_4
 obtain ⟨kq,x42_43,rfl,HA,HJ43,BK230,BK231,HI0,HK,HB⟩:=hcut
 cases kq with
 | zero=>exact absurd HA.out (by simp [spec_reader_value.j0])
 | succ kj43=>
 have H:=HA.out
 clear HA
 simp only [spec_reader_value.j0] at H
 by_cases c47:x42_43=true
 ·
  subst c47
  rw [if_pos rfl] at H
  replace H:=obs H
  obtain ⟨⟨t253,t254,t255⟩,A480,H⟩:=H
  dsimp only at H
  have A48:=am A480
  clear A480
  simp only [Option.some.injEq,Prod.mk.injEq] at H
  obtain ⟨rfl,rfl,rfl,rfl,rfl,rfl,rfl,rfl⟩:=H
  have hnb49:=NB231_230.out
  have hnc49:=NB230_231.out
  have hnb50:=NB231_0.out
  have hnc50:=NB0_231.out
  have hcz51_0:wc.cell? ⟨gb231,0,none⟩=some (.int .i64 0):=(bkc BK231.out 0).trans rfl
  have hcz51_1:wc.cell? ⟨gb231,1,none⟩=some (.int .i64 s0_1):=(bkc BK231.out 1).trans rfl
  have hcz51_2:wc.cell? ⟨gb231,2,none⟩=some (.int .i64 0):=(bkc BK231.out 2).trans rfl
  have hcz51_3:wc.cell? ⟨gb231,3,none⟩=some (.slice none 0 0):=(bkc BK231.out 3).trans rfl
  have hcz51_4:wc.cell? ⟨gb231,4,none⟩=some (.slice none 0 0):=(bkc BK231.out 4).trans rfl
  have hfz51_0:=bkf BK231.out 0
  have hfz51_1:=bkf BK231.out 1
  have hfz51_2:=bkf BK231.out 2
  have hfz51_3:=bkf BK231.out 3
  have hfz51_4:=bkf BK231.out 4
  go_wp2_with (first | ((with_reducible refine gate_callee (f:=67) rfl ?_);refine goesL_ (some 55) rfl rfl Tryz.func67 Z1 rfl #[.pointer (some ⟨g,0,none⟩)] rfl Z10 ?_;(with_reducible refine (spec_reader_number.calls kj43 g t233 t234 t253 t254 t255 w0 _ ?side1 ?side2 A48.out).mono ?_);(case side1=>exact Z20);(case side2=>exact Z21);rintro e w52 ⟨rfl,hi,hb,hk⟩;refine ⟨_,rfl,?_⟩;have n0_:=am (KeepBut.blk hk (g':=gb230) (o:=.cells #[.int .i64 0,.int .i64 0,.int .i64 0,.slice none 0 0,.slice none 0 0] 47 (0,0)) Z32 NB230_0.out Z6);have n1_:=am (KeepBut.blk hk (g':=gb231) (o:=.cells #[.int .i64 3,.int .i64 s0_1,.int .i64 0,.slice none 0 0,.slice none 0 0] 47 (0,0)) Z33 NB231_0.out Z6);have n2_:=am (KeepBut.trans Z18 hk (.inl rfl));have n3_:=am (hb);have n4_:=am (hi);clear BK230;clear BK231;clear HK;clear HB;clear HI0;have BK230:=n0_;have BK231:=n1_;have HK:=n2_;have HB:=n3_;have HI0:=n4_;clear n0_ n1_ n2_ n3_ n4_;(try clear hb);(try clear hb2);(try clear hk);(try clear hi);obtain ⟨HGz53,hgz53⟩:=HI0.out;have hcz53_0:=cellS72_0 HGz53;have hcz53_1:=cellS72_1 HGz53;have hfz53_0:=bkf HGz53 0;have hfz53_1:=bkf HGz53 1;clear HGz53 hgz53;have hcz54_0:w52.cell? ⟨gb231,0,none⟩=some (.int .i64 3):=(bkc BK231.out 0).trans rfl;have hcz54_1:w52.cell? ⟨gb231,1,none⟩=some (.int .i64 s0_1):=(bkc BK231.out 1).trans rfl;have hcz54_2:w52.cell? ⟨gb231,2,none⟩=some (.int .i64 0):=(bkc BK231.out 2).trans rfl;have hcz54_3:w52.cell? ⟨gb231,3,none⟩=some (.slice none 0 0):=(bkc BK231.out 3).trans rfl;have hcz54_4:w52.cell? ⟨gb231,4,none⟩=some (.slice none 0 0):=(bkc BK231.out 4).trans rfl;have hfz54_0:=bkf BK231.out 0;have hfz54_1:=bkf BK231.out 1;have hfz54_2:=bkf BK231.out 2;have hfz54_3:=bkf BK231.out 3;have hfz54_4:=bkf BK231.out 4;have hnb55:=NB230_0.out;have hnc55:=NB0_230.out;have hcz56_0:w52.cell? ⟨gb230,0,none⟩=some (.int .i64 0):=(bkc BK230.out 0).trans rfl;have hcz56_1:w52.cell? ⟨gb230,1,none⟩=some (.int .i64 0):=(bkc BK230.out 1).trans rfl;have hcz56_2:w52.cell? ⟨gb230,2,none⟩=some (.int .i64 0):=(bkc BK230.out 2).trans rfl;have hcz56_3:w52.cell? ⟨gb230,3,none⟩=some (.slice none 0 0):=(bkc BK230.out 3).trans rfl;have hcz56_4:w52.cell? ⟨gb230,4,none⟩=some (.slice none 0 0):=(bkc BK230.out 4).trans rfl;have hfz56_0:=bkf BK230.out 0;have hfz56_1:=bkf BK230.out 1;have hfz56_2:=bkf BK230.out 2;have hfz56_3:=bkf BK230.out 3;have hfz56_4:=bkf BK230.out 4))
  refine bodyPost_ret (results_ct rfl _ _ gb230 47 #[.int .i64 3,.int .i64 s0_1,.int .i64 t255,.slice none 0 0,.slice none 0 0] (0,0) _ rfl (by (with_reducible repeat (first | refine bkn ?_ _ | refine bkd ?_ | refine bka ?_ _));refine blk_put (cs:=#[.int .i64 3,.int .i64 s0_1,.int .i64 t255,.slice none 0 0,.slice none 0 0]) ?_ 4 _ rfl;(with_reducible repeat (first | refine bkn ?_ _ | refine bkd ?_ | refine bka ?_ _));refine blk_put (cs:=#[.int .i64 3,.int .i64 s0_1,.int .i64 t255,.slice none 0 0,.slice none 0 0]) ?_ 3 _ rfl;(with_reducible repeat (first | refine bkn ?_ _ | refine bkd ?_ | refine bka ?_ _));refine blk_put (cs:=#[.int .i64 3,.int .i64 s0_1,.int .i64 0,.slice none 0 0,.slice none 0 0]) ?_ 2 _ rfl;(with_reducible repeat (first | refine bkn ?_ _ | refine bkd ?_ | refine bka ?_ _));refine blk_put (cs:=#[.int .i64 3,.int .i64 0,.int .i64 0,.slice none 0 0,.slice none 0 0]) ?_ 1 _ rfl;(with_reducible repeat (first | refine bkn ?_ _ | refine bkd ?_ | refine bka ?_ _));refine blk_put (cs:=#[.int .i64 0,.int .i64 0,.int .i64 0,.slice none 0 0,.slice none 0 0]) ?_ 0 _ rfl;(with_reducible repeat (first | refine bkn ?_ _ | refine bkd ?_ | refine bka ?_ _));refine blk_far ?_ NB230_231.out _;(with_reducible repeat (first | refine bkn ?_ _ | refine bkd ?_ | refine bka ?_ _));exact BK230.out) Tryz.underlying47 rfl Z1) rfl ?_
  exact ⟨_,_,Z12,Z13,Z13,Z20,Z21,Z18⟩
 replace c47:=bef c47
 subst c47
 rw [if_neg (show ¬ (false=true) from Z2)] at H
 replace H:=obs H
 obtain ⟨⟨t256,t257,t258⟩,A570,H⟩:=H
 dsimp only at H
 have A57:=am A570
 clear A570
 have HC58:=am H
 clear H
 go_upto_if 56 with (first | ((with_reducible refine gate_callee (f:=68) rfl ?_);refine goesL_ (some 58) rfl rfl Tryz.func68 Z1 rfl #[.pointer (some ⟨g,0,none⟩),.string (⟨#[110,117,108,108]⟩:ByteArray)] rfl Z10 ?_;(with_reducible refine (spec_reader_word.calls g t233 t234 (⟨#[110,117,108,108]⟩:ByteArray) t256 t257 t258 w0 _ ?side1 ?side2 A57.out).mono ?_);(case side1=>exact Z20);(case side2=>exact Z21);rintro e w59 ⟨rfl,hi,hb,hk⟩;refine ⟨_,rfl,?_⟩;have n0_:=am (KeepBut.blk hk (g':=gb230) (o:=.cells #[.int .i64 0,.int .i64 0,.int .i64 0,.slice none 0 0,.slice none 0 0] 47 (0,0)) (pB BK230.out) NB230_0.out Z6);have n1_:=am (KeepBut.blk hk (g':=gb231) (o:=.cells #[.int .i64 0,.int .i64 s0_1,.int .i64 0,.slice none 0 0,.slice none 0 0] 47 (0,0)) (pB BK231.out) NB231_0.out Z6);have n2_:=am (KeepBut.trans Z18 hk (.inl rfl));have n3_:=am (hb);have n4_:=am (hi);clear BK230;clear BK231;clear HK;clear HB;clear HI0;have BK230:=n0_;have BK231:=n1_;have HK:=n2_;have HB:=n3_;have HI0:=n4_;clear n0_ n1_ n2_ n3_ n4_;(try clear hb);(try clear hb2);(try clear hk);(try clear hi)))
 (try simp only [Act.put,List.setIfInBounds_toArray,List.set_cons_zero,List.set_cons_succ])
 have H:=HC58.out
 clear HC58
 by_cases c60:t256=true
 ·
  subst c60
  rw [if_pos rfl] at H
  simp only [Option.some.injEq,Prod.mk.injEq] at H
  obtain ⟨rfl,rfl,rfl,rfl,rfl,rfl,rfl,rfl⟩:=H
  have hnb61:=NB231_230.out
  have hnc61:=NB230_231.out
  have hnb62:=NB231_0.out
  have hnc62:=NB0_231.out
  have hcz63_0:w59.cell? ⟨gb231,0,none⟩=some (.int .i64 0):=(bkc BK231.out 0).trans rfl
  have hcz63_1:w59.cell? ⟨gb231,1,none⟩=some (.int .i64 s0_1):=(bkc BK231.out 1).trans rfl
  have hcz63_2:w59.cell? ⟨gb231,2,none⟩=some (.int .i64 0):=(bkc BK231.out 2).trans rfl
  have hcz63_3:w59.cell? ⟨gb231,3,none⟩=some (.slice none 0 0):=(bkc BK231.out 3).trans rfl
  have hcz63_4:w59.cell? ⟨gb231,4,none⟩=some (.slice none 0 0):=(bkc BK231.out 4).trans rfl
  have hfz63_0:=bkf BK231.out 0
  have hfz63_1:=bkf BK231.out 1
  have hfz63_2:=bkf BK231.out 2
  have hfz63_3:=bkf BK231.out 3
  have hfz63_4:=bkf BK231.out 4
  obtain ⟨HGz64,hgz64⟩:=HI0.out
  have hcz64_0:=cellS72_0 HGz64
  have hcz64_1:=cellS72_1 HGz64
  have hfz64_0:=bkf HGz64 0
  have hfz64_1:=bkf HGz64 1
  clear HGz64 hgz64
  have hnb65:=NB230_0.out
  have hnc65:=NB0_230.out
  have hcz66_0:w59.cell? ⟨gb230,0,none⟩=some (.int .i64 0):=(bkc BK230.out 0).trans rfl
  have hcz66_1:w59.cell? ⟨gb230,1,none⟩=some (.int .i64 0):=(bkc BK230.out 1).trans rfl
  have hcz66_2:w59.cell? ⟨gb230,2,none⟩=some (.int .i64 0):=(bkc BK230.out 2).trans rfl
  have hcz66_3:w59.cell? ⟨gb230,3,none⟩=some (.slice none 0 0):=(bkc BK230.out 3).trans rfl
  have hcz66_4:w59.cell? ⟨gb230,4,none⟩=some (.slice none 0 0):=(bkc BK230.out 4).trans rfl
  have hfz66_0:=bkf BK230.out 0
  have hfz66_1:=bkf BK230.out 1
  have hfz66_2:=bkf BK230.out 2
  have hfz66_3:=bkf BK230.out 3
  have hfz66_4:=bkf BK230.out 4
  go_wp2
  refine bodyPost_ret (results_ct rfl _ _ gb230 47 #[.int .i64 0,.int .i64 s0_1,.int .i64 t258,.slice none 0 0,.slice none 0 0] (0,0) _ rfl (by (with_reducible repeat (first | refine bkn ?_ _ | refine bkd ?_ | refine bka ?_ _));refine blk_put (cs:=#[.int .i64 0,.int .i64 s0_1,.int .i64 t258,.slice none 0 0,.slice none 0 0]) ?_ 4 _ rfl;(with_reducible repeat (first | refine bkn ?_ _ | refine bkd ?_ | refine bka ?_ _));refine blk_put (cs:=#[.int .i64 0,.int .i64 s0_1,.int .i64 t258,.slice none 0 0,.slice none 0 0]) ?_ 3 _ rfl;(with_reducible repeat (first | refine bkn ?_ _ | refine bkd ?_ | refine bka ?_ _));refine blk_put (cs:=#[.int .i64 0,.int .i64 s0_1,.int .i64 0,.slice none 0 0,.slice none 0 0]) ?_ 2 _ rfl;(with_reducible repeat (first | refine bkn ?_ _ | refine bkd ?_ | refine bka ?_ _));refine blk_put (cs:=#[.int .i64 0,.int .i64 0,.int .i64 0,.slice none 0 0,.slice none 0 0]) ?_ 1 _ rfl;(with_reducible repeat (first | refine bkn ?_ _ | refine bkd ?_ | refine bka ?_ _));refine blk_put (cs:=#[.int .i64 0,.int .i64 0,.int .i64 0,.slice none 0 0,.slice none 0 0]) ?_ 0 _ rfl;(with_reducible repeat (first | refine bkn ?_ _ | refine bkd ?_ | refine bka ?_ _));refine blk_far ?_ NB230_231.out _;(with_reducible repeat (first | refine bkn ?_ _ | refine bkd ?_ | refine bka ?_ _));refine blk_far ?_ NB230_231.out _;(with_reducible repeat (first | refine bkn ?_ _ | refine bkd ?_ | refine bka ?_ _));exact BK230.out) Tryz.underlying47 rfl Z1) rfl ?_
  exact ⟨_,_,Z12,Z13,Z13,Z20,Z21,Z18⟩
 replace c60:=bef c60
 subst c60
 rw [if_neg (show ¬ (false=true) from Z2)] at H
 replace H:=obs H
 obtain ⟨⟨t259,t260,t261⟩,A670,H⟩:=H
 dsimp only at H
 have A67:=am A670
 clear A670
 have HC68:=am H
 clear H
 go_upto_if 60 with (first | ((with_reducible refine gate_callee (f:=68) rfl ?_);refine goesL_ (some 62) rfl rfl Tryz.func68 Z1 rfl #[.pointer (some ⟨g,0,none⟩),.string (⟨#[102,97,108,115,101]⟩:ByteArray)] rfl Z10 ?_;(with_reducible refine (spec_reader_word.calls g t257 t258 (⟨#[102,97,108,115,101]⟩:ByteArray) t259 t260 t261 w0 _ ?side1 ?side2 A67.out).mono ?_);(case side1=>exact Z20);(case side2=>exact Z21);rintro e w69 ⟨rfl,hi,hb,hk⟩;refine ⟨_,rfl,?_⟩;have n0_:=am (KeepBut.blk hk (g':=gb230) (o:=.cells #[.int .i64 0,.int .i64 0,.int .i64 0,.slice none 0 0,.slice none 0 0] 47 (0,0)) (pB BK230.out) NB230_0.out Z6);have n1_:=am (KeepBut.blk hk (g':=gb231) (o:=.cells #[.int .i64 0,.int .i64 s0_1,.int .i64 0,.slice none 0 0,.slice none 0 0] 47 (0,0)) (pB BK231.out) NB231_0.out Z6);have n2_:=am (KeepBut.trans Z18 hk (.inl rfl));have n3_:=am (hb);have n4_:=am (hi);clear BK230;clear BK231;clear HK;clear HB;clear HI0;have BK230:=n0_;have BK231:=n1_;have HK:=n2_;have HB:=n3_;have HI0:=n4_;clear n0_ n1_ n2_ n3_ n4_;(try clear hb);(try clear hb2);(try clear hk);(try clear hi)))
 (try simp only [Act.put,List.setIfInBounds_toArray,List.set_cons_zero,List.set_cons_succ])
 have H:=HC68.out
 clear HC68
 by_cases c70:t259=true
 ·
  subst c70
  rw [if_pos rfl] at H
  simp only [Option.some.injEq,Prod.mk.injEq] at H
  obtain ⟨rfl,rfl,rfl,rfl,rfl,rfl,rfl,rfl⟩:=H
  have hnb71:=NB231_230.out
  have hnc71:=NB230_231.out
  have hnb72:=NB231_0.out
  have hnc72:=NB0_231.out
  have hcz73_0:w69.cell? ⟨gb231,0,none⟩=some (.int .i64 0):=(bkc BK231.out 0).trans rfl
  have hcz73_1:w69.cell? ⟨gb231,1,none⟩=some (.int .i64 s0_1):=(bkc BK231.out 1).trans rfl
  have hcz73_2:w69.cell? ⟨gb231,2,none⟩=some (.int .i64 0):=(bkc BK231.out 2).trans rfl
  have hcz73_3:w69.cell? ⟨gb231,3,none⟩=some (.slice none 0 0):=(bkc BK231.out 3).trans rfl
  have hcz73_4:w69.cell? ⟨gb231,4,none⟩=some (.slice none 0 0):=(bkc BK231.out 4).trans rfl
  have hfz73_0:=bkf BK231.out 0
  have hfz73_1:=bkf BK231.out 1
  have hfz73_2:=bkf BK231.out 2
  have hfz73_3:=bkf BK231.out 3
  have hfz73_4:=bkf BK231.out 4
  obtain ⟨HGz74,hgz74⟩:=HI0.out
  have hcz74_0:=cellS72_0 HGz74
  have hcz74_1:=cellS72_1 HGz74
  have hfz74_0:=bkf HGz74 0
  have hfz74_1:=bkf HGz74 1
  clear HGz74 hgz74
  have hnb75:=NB230_0.out
  have hnc75:=NB0_230.out
  have hcz76_0:w69.cell? ⟨gb230,0,none⟩=some (.int .i64 0):=(bkc BK230.out 0).trans rfl
  have hcz76_1:w69.cell? ⟨gb230,1,none⟩=some (.int .i64 0):=(bkc BK230.out 1).trans rfl
  have hcz76_2:w69.cell? ⟨gb230,2,none⟩=some (.int .i64 0):=(bkc BK230.out 2).trans rfl
  have hcz76_3:w69.cell? ⟨gb230,3,none⟩=some (.slice none 0 0):=(bkc BK230.out 3).trans rfl
  have hcz76_4:w69.cell? ⟨gb230,4,none⟩=some (.slice none 0 0):=(bkc BK230.out 4).trans rfl
  have hfz76_0:=bkf BK230.out 0
  have hfz76_1:=bkf BK230.out 1
  have hfz76_2:=bkf BK230.out 2
  have hfz76_3:=bkf BK230.out 3
  have hfz76_4:=bkf BK230.out 4
  go_wp2
  refine bodyPost_ret (results_ct rfl _ _ gb230 47 #[.int .i64 1,.int .i64 s0_1,.int .i64 t261,.slice none 0 0,.slice none 0 0] (0,0) _ rfl (by (with_reducible repeat (first | refine bkn ?_ _ | refine bkd ?_ | refine bka ?_ _));refine blk_put (cs:=#[.int .i64 1,.int .i64 s0_1,.int .i64 t261,.slice none 0 0,.slice none 0 0]) ?_ 4 _ rfl;(with_reducible repeat (first | refine bkn ?_ _ | refine bkd ?_ | refine bka ?_ _));refine blk_put (cs:=#[.int .i64 1,.int .i64 s0_1,.int .i64 t261,.slice none 0 0,.slice none 0 0]) ?_ 3 _ rfl;(with_reducible repeat (first | refine bkn ?_ _ | refine bkd ?_ | refine bka ?_ _));refine blk_put (cs:=#[.int .i64 1,.int .i64 s0_1,.int .i64 0,.slice none 0 0,.slice none 0 0]) ?_ 2 _ rfl;(with_reducible repeat (first | refine bkn ?_ _ | refine bkd ?_ | refine bka ?_ _));refine blk_put (cs:=#[.int .i64 1,.int .i64 0,.int .i64 0,.slice none 0 0,.slice none 0 0]) ?_ 1 _ rfl;(with_reducible repeat (first | refine bkn ?_ _ | refine bkd ?_ | refine bka ?_ _));refine blk_put (cs:=#[.int .i64 0,.int .i64 0,.int .i64 0,.slice none 0 0,.slice none 0 0]) ?_ 0 _ rfl;(with_reducible repeat (first | refine bkn ?_ _ | refine bkd ?_ | refine bka ?_ _));refine blk_far ?_ NB230_231.out _;(with_reducible repeat (first | refine bkn ?_ _ | refine bkd ?_ | refine bka ?_ _));refine blk_far ?_ NB230_231.out _;(with_reducible repeat (first | refine bkn ?_ _ | refine bkd ?_ | refine bka ?_ _));exact BK230.out) Tryz.underlying47 rfl Z1) rfl ?_
  exact ⟨_,_,Z12,Z13,Z13,Z20,Z21,Z18⟩
 replace c70:=bef c70
 subst c70
 rw [if_neg (show ¬ (false=true) from Z2)] at H
 replace H:=obs H
 obtain ⟨⟨t262,t263,t264⟩,A770,H⟩:=H
 dsimp only at H
 have A77:=am A770
 clear A770
 have HC78:=am H
 clear H
 go_upto_if 64 with (first | ((with_reducible refine gate_callee (f:=68) rfl ?_);refine goesL_ (some 66) rfl rfl Tryz.func68 Z1 rfl #[.pointer (some ⟨g,0,none⟩),.string (⟨#[116,114,117,101]⟩:ByteArray)] rfl Z10 ?_;(with_reducible refine (spec_reader_word.calls g t260 t261 (⟨#[116,114,117,101]⟩:ByteArray) t262 t263 t264 w0 _ ?side1 ?side2 A77.out).mono ?_);(case side1=>exact Z20);(case side2=>exact Z21);rintro e w79 ⟨rfl,hi,hb,hk⟩;refine ⟨_,rfl,?_⟩;have n0_:=am (KeepBut.blk hk (g':=gb230) (o:=.cells #[.int .i64 0,.int .i64 0,.int .i64 0,.slice none 0 0,.slice none 0 0] 47 (0,0)) (pB BK230.out) NB230_0.out Z6);have n1_:=am (KeepBut.blk hk (g':=gb231) (o:=.cells #[.int .i64 0,.int .i64 s0_1,.int .i64 0,.slice none 0 0,.slice none 0 0] 47 (0,0)) (pB BK231.out) NB231_0.out Z6);have n2_:=am (KeepBut.trans Z18 hk (.inl rfl));have n3_:=am (hb);have n4_:=am (hi);clear BK230;clear BK231;clear HK;clear HB;clear HI0;have BK230:=n0_;have BK231:=n1_;have HK:=n2_;have HB:=n3_;have HI0:=n4_;clear n0_ n1_ n2_ n3_ n4_;(try clear hb);(try clear hb2);(try clear hk);(try clear hi)))
 (try simp only [Act.put,List.setIfInBounds_toArray,List.set_cons_zero,List.set_cons_succ])
 have H:=HC78.out
 clear HC78
 by_cases c80:t262=true
 rotate_left
 ·
  replace c80:=bef c80
  subst c80
  rw [if_neg (show ¬ (false=true) from Z2)] at H
  simp only [Option.some.injEq,Prod.mk.injEq] at H
  obtain ⟨rfl,rfl,rfl,rfl,rfl,rfl,rfl,rfl⟩:=H
  obtain ⟨HGz87,hgz87⟩:=HI0.out
  have hcz87_0:=cellS72_0 HGz87
  have hcz87_1:=cellS72_1 HGz87
  have hfz87_0:=bkf HGz87 0
  have hfz87_1:=bkf HGz87 1
  clear HGz87 hgz87
  have hnb88:=NB231_230.out
  have hnc88:=NB230_231.out
  have hnb89:=NB231_0.out
  have hnc89:=NB0_231.out
  have hcz90_0:w79.cell? ⟨gb231,0,none⟩=some (.int .i64 0):=(bkc BK231.out 0).trans rfl
  have hcz90_1:w79.cell? ⟨gb231,1,none⟩=some (.int .i64 s0_1):=(bkc BK231.out 1).trans rfl
  have hcz90_2:w79.cell? ⟨gb231,2,none⟩=some (.int .i64 0):=(bkc BK231.out 2).trans rfl
  have hcz90_3:w79.cell? ⟨gb231,3,none⟩=some (.slice none 0 0):=(bkc BK231.out 3).trans rfl
  have hcz90_4:w79.cell? ⟨gb231,4,none⟩=some (.slice none 0 0):=(bkc BK231.out 4).trans rfl
  have hfz90_0:=bkf BK231.out 0
  have hfz90_1:=bkf BK231.out 1
  have hfz90_2:=bkf BK231.out 2
  have hfz90_3:=bkf BK231.out 3
  have hfz90_4:=bkf BK231.out 4
  have hnb91:=NB230_0.out
  have hnc91:=NB0_230.out
  have hcz92_0:w79.cell? ⟨gb230,0,none⟩=some (.int .i64 0):=(bkc BK230.out 0).trans rfl
  have hcz92_1:w79.cell? ⟨gb230,1,none⟩=some (.int .i64 0):=(bkc BK230.out 1).trans rfl
  have hcz92_2:w79.cell? ⟨gb230,2,none⟩=some (.int .i64 0):=(bkc BK230.out 2).trans rfl
  have hcz92_3:w79.cell? ⟨gb230,3,none⟩=some (.slice none 0 0):=(bkc BK230.out 3).trans rfl
  have hcz92_4:w79.cell? ⟨gb230,4,none⟩=some (.slice none 0 0):=(bkc BK230.out 4).trans rfl
  have hfz92_0:=bkf BK230.out 0
  have hfz92_1:=bkf BK230.out 1
  have hfz92_2:=bkf BK230.out 2
  have hfz92_3:=bkf BK230.out 3
  have hfz92_4:=bkf BK230.out 4
  go_wp2
  refine bodyPost_ret (results_ct rfl _ _ gb230 47 #[.int .i64 0,.int .i64 s0_1,.int .i64 t264,.slice none 0 0,.slice none 0 0] (0,0) _ rfl (by (with_reducible repeat (first | refine bkn ?_ _ | refine bkd ?_ | refine bka ?_ _));refine blk_put (cs:=#[.int .i64 0,.int .i64 s0_1,.int .i64 t264,.slice none 0 0,.slice none 0 0]) ?_ 4 _ rfl;(with_reducible repeat (first | refine bkn ?_ _ | refine bkd ?_ | refine bka ?_ _));refine blk_put (cs:=#[.int .i64 0,.int .i64 s0_1,.int .i64 t264,.slice none 0 0,.slice none 0 0]) ?_ 3 _ rfl;(with_reducible repeat (first | refine bkn ?_ _ | refine bkd ?_ | refine bka ?_ _));refine blk_put (cs:=#[.int .i64 0,.int .i64 s0_1,.int .i64 0,.slice none 0 0,.slice none 0 0]) ?_ 2 _ rfl;(with_reducible repeat (first | refine bkn ?_ _ | refine bkd ?_ | refine bka ?_ _));refine blk_put (cs:=#[.int .i64 0,.int .i64 0,.int .i64 0,.slice none 0 0,.slice none 0 0]) ?_ 1 _ rfl;(with_reducible repeat (first | refine bkn ?_ _ | refine bkd ?_ | refine bka ?_ _));refine blk_put (cs:=#[.int .i64 0,.int .i64 0,.int .i64 0,.slice none 0 0,.slice none 0 0]) ?_ 0 _ rfl;(with_reducible repeat (first | refine bkn ?_ _ | refine bkd ?_ | refine bka ?_ _));refine blk_far ?_ NB230_231.out _;(with_reducible repeat (first | refine bkn ?_ _ | refine bkd ?_ | refine bka ?_ _));exact BK230.out) Tryz.underlying47 rfl Z1) rfl ?_
  exact ⟨_,_,Z12,Z13,Z13,Z20,Z21,Z18⟩
 subst c80
 rw [if_pos rfl] at H
 simp only [Option.some.injEq,Prod.mk.injEq] at H
 obtain ⟨rfl,rfl,rfl,rfl,rfl,rfl,rfl,rfl⟩:=H
 have hnb81:=NB231_230.out
 have hnc81:=NB230_231.out
 have hnb82:=NB231_0.out
 have hnc82:=NB0_231.out
 have hcz83_0:w79.cell? ⟨gb231,0,none⟩=some (.int .i64 0):=(bkc BK231.out 0).trans rfl
 have hcz83_1:w79.cell? ⟨gb231,1,none⟩=some (.int .i64 s0_1):=(bkc BK231.out 1).trans rfl
 have hcz83_2:w79.cell? ⟨gb231,2,none⟩=some (.int .i64 0):=(bkc BK231.out 2).trans rfl
 have hcz83_3:w79.cell? ⟨gb231,3,none⟩=some (.slice none 0 0):=(bkc BK231.out 3).trans rfl
 have hcz83_4:w79.cell? ⟨gb231,4,none⟩=some (.slice none 0 0):=(bkc BK231.out 4).trans rfl
 have hfz83_0:=bkf BK231.out 0
 have hfz83_1:=bkf BK231.out 1
 have hfz83_2:=bkf BK231.out 2
 have hfz83_3:=bkf BK231.out 3
 have hfz83_4:=bkf BK231.out 4
 obtain ⟨HGz84,hgz84⟩:=HI0.out
 have hcz84_0:=cellS72_0 HGz84
 have hcz84_1:=cellS72_1 HGz84
 have hfz84_0:=bkf HGz84 0
 have hfz84_1:=bkf HGz84 1
 clear HGz84 hgz84
 have hnb85:=NB230_0.out
 have hnc85:=NB0_230.out
 have hcz86_0:w79.cell? ⟨gb230,0,none⟩=some (.int .i64 0):=(bkc BK230.out 0).trans rfl
 have hcz86_1:w79.cell? ⟨gb230,1,none⟩=some (.int .i64 0):=(bkc BK230.out 1).trans rfl
 have hcz86_2:w79.cell? ⟨gb230,2,none⟩=some (.int .i64 0):=(bkc BK230.out 2).trans rfl
 have hcz86_3:w79.cell? ⟨gb230,3,none⟩=some (.slice none 0 0):=(bkc BK230.out 3).trans rfl
 have hcz86_4:w79.cell? ⟨gb230,4,none⟩=some (.slice none 0 0):=(bkc BK230.out 4).trans rfl
 have hfz86_0:=bkf BK230.out 0
 have hfz86_1:=bkf BK230.out 1
 have hfz86_2:=bkf BK230.out 2
 have hfz86_3:=bkf BK230.out 3
 have hfz86_4:=bkf BK230.out 4
 go_wp2
 refine bodyPost_ret (results_ct rfl _ _ gb230 47 #[.int .i64 2,.int .i64 s0_1,.int .i64 t264,.slice none 0 0,.slice none 0 0] (0,0) _ rfl (by (with_reducible repeat (first | refine bkn ?_ _ | refine bkd ?_ | refine bka ?_ _));refine blk_put (cs:=#[.int .i64 2,.int .i64 s0_1,.int .i64 t264,.slice none 0 0,.slice none 0 0]) ?_ 4 _ rfl;(with_reducible repeat (first | refine bkn ?_ _ | refine bkd ?_ | refine bka ?_ _));refine blk_put (cs:=#[.int .i64 2,.int .i64 s0_1,.int .i64 t264,.slice none 0 0,.slice none 0 0]) ?_ 3 _ rfl;(with_reducible repeat (first | refine bkn ?_ _ | refine bkd ?_ | refine bka ?_ _));refine blk_put (cs:=#[.int .i64 2,.int .i64 s0_1,.int .i64 0,.slice none 0 0,.slice none 0 0]) ?_ 2 _ rfl;(with_reducible repeat (first | refine bkn ?_ _ | refine bkd ?_ | refine bka ?_ _));refine blk_put (cs:=#[.int .i64 2,.int .i64 0,.int .i64 0,.slice none 0 0,.slice none 0 0]) ?_ 1 _ rfl;(with_reducible repeat (first | refine bkn ?_ _ | refine bkd ?_ | refine bka ?_ _));refine blk_put (cs:=#[.int .i64 0,.int .i64 0,.int .i64 0,.slice none 0 0,.slice none 0 0]) ?_ 0 _ rfl;(with_reducible repeat (first | refine bkn ?_ _ | refine bkd ?_ | refine bka ?_ _));refine blk_far ?_ NB230_231.out _;(with_reducible repeat (first | refine bkn ?_ _ | refine bkd ?_ | refine bka ?_ _));refine blk_far ?_ NB230_231.out _;(with_reducible repeat (first | refine bkn ?_ _ | refine bkd ?_ | refine bka ?_ _));exact BK230.out) Tryz.underlying47 rfl Z1) rfl ?_
 exact ⟨_,_,Z12,Z13,Z13,Z20,Z21,Z18⟩
theorem spec_reader_value.ring (k:Nat):(∀ (g:Nat) (s0_0:ByteArray) (s0_1:Int) (r1:List (S121)) (r2:List (S47)) (r3:Bool) (r4:ByteArray) (r5:Int) (w0 w:World) (hI:IsS72 w0 w g s0_0 s0_1) (hB:Below w0.heap.size w0 w) (h:spec_reader_members.f k s0_0 s0_1=some (r1,r2,r3,r4,r5)),
  Calls Tryz.prog 64 #[.pointer (some ⟨g,0,none⟩)] w fun e w'=>∃ v0_ v1_:Value,e = .returned (.tuple #[v0_,v1_,.bool r3])∧Kd.R k121 121 w' w.heap.size (fun _=>True) v0_ r1∧Kd.R k47 47 w' w.heap.size (fun k_=>some k_≠(v0_:Value).ownBlock) v1_ r2∧IsS72 w0 w' g r4 r5∧Below w0.heap.size w0 w'∧KeepBut w w' g none) ∧
 (∀ (g:Nat) (s0_0:ByteArray) (s0_1:Int) (r1:List (S47)) (r2:Bool) (r3:ByteArray) (r4:Int) (w0 w:World) (hI:IsS72 w0 w g s0_0 s0_1) (hB:Below w0.heap.size w0 w) (h:spec_reader_elements.f k s0_0 s0_1=some (r1,r2,r3,r4)),
  Calls Tryz.prog 65 #[.pointer (some ⟨g,0,none⟩)] w fun e w'=>∃ v0_:Value,e = .returned (.tuple #[v0_,.bool r2])∧Kd.R k47 47 w' w.heap.size (fun _=>True) v0_ r1∧IsS72 w0 w' g r3 r4∧Below w0.heap.size w0 w'∧KeepBut w w' g none) ∧
 (∀ (g:Nat) (s0_0:ByteArray) (s0_1:Int) (r1:Int) (r2:Int) (r3:Int) (r4:List (S121)) (r5:List (S47)) (r6:Bool) (r7:ByteArray) (r8:Int) (w0 w:World) (hI:IsS72 w0 w g s0_0 s0_1) (hB:Below w0.heap.size w0 w) (h:spec_reader_value.f k s0_0 s0_1=some (r1,r2,r3,r4,r5,r6,r7,r8)),
  Calls Tryz.prog 38 #[.pointer (some ⟨g,0,none⟩)] w fun e w'=>∃ v3_ v4_:Value,e = .returned (.tuple #[.agg #[.int .i64 r1,.int .i64 r2,.int .i64 r3,v3_,v4_],.bool r6])∧Kd.R k121 121 w' w.heap.size (fun _=>True) v3_ r4∧Kd.R k47 47 w' w.heap.size (fun k_=>some k_≠(v3_:Value).ownBlock) v4_ r5∧IsS72 w0 w' g r7 r8∧Below w0.heap.size w0 w'∧KeepBut w w' g none):=by
 induction k using Nat.strongRecOn with
 | _ k ih=>
 exact ⟨spec_reader_members.step k (fun j_ hj_=>(ih j_ hj_).1) (fun j_ hj_=>(ih j_ hj_).2.1) (fun j_ hj_=>(ih j_ hj_).2.2),spec_reader_elements.step k (fun j_ hj_=>(ih j_ hj_).1) (fun j_ hj_=>(ih j_ hj_).2.1) (fun j_ hj_=>(ih j_ hj_).2.2),spec_reader_value.step k (fun j_ hj_=>(ih j_ hj_).1) (fun j_ hj_=>(ih j_ hj_).2.1) (fun j_ hj_=>(ih j_ hj_).2.2)⟩
theorem spec_reader_value.calls (k:Nat):∀ (g:Nat) (s0_0:ByteArray) (s0_1:Int) (r1:Int) (r2:Int) (r3:Int) (r4:List (S121)) (r5:List (S47)) (r6:Bool) (r7:ByteArray) (r8:Int) (w0 w:World) (hI:IsS72 w0 w g s0_0 s0_1) (hB:Below w0.heap.size w0 w) (h:spec_reader_value.f k s0_0 s0_1=some (r1,r2,r3,r4,r5,r6,r7,r8)),
  Calls Tryz.prog 38 #[.pointer (some ⟨g,0,none⟩)] w fun e w'=>∃ v3_ v4_:Value,e = .returned (.tuple #[.agg #[.int .i64 r1,.int .i64 r2,.int .i64 r3,v3_,v4_],.bool r6])∧Kd.R k121 121 w' w.heap.size (fun _=>True) v3_ r4∧Kd.R k47 47 w' w.heap.size (fun k_=>some k_≠(v3_:Value).ownBlock) v4_ r5∧IsS72 w0 w' g r7 r8∧Below w0.heap.size w0 w'∧KeepBut w w' g none:=(spec_reader_value.ring k).2.2
def spec_Places.f (k:Nat) (a0:ByteArray):Option (Int×Int×Int×(List (S121))×(List (S47))×Bool):=(spec_reader_blanks.f k a0 0).bind fun bt267=>((spec_reader_value.f k bt267.1 bt267.2).bind fun bt269=>(if bt269.2.2.2.2.2.1=true then ((spec_reader_blanks.f k bt269.2.2.2.2.2.2.1 bt269.2.2.2.2.2.2.2).bind fun bt282=>(if bt282.2=(a0.size:Int) then (some (bt269.1,bt269.2.1,bt269.2.2.1,bt269.2.2.2.1,bt269.2.2.2.2.1,true)) else (some (0,0,0,([]:List (S121)),([]:List (S47)),false)))) else (some (0,0,0,([]:List (S121)),([]:List (S47)),false))))
theorem spec_Places.calls (k:Nat) (a0:ByteArray) (r1:Int) (r2:Int) (r3:Int) (r4:List (S121)) (r5:List (S47)) (r6:Bool) (w:World) (h:spec_Places.f k a0=some (r1,r2,r3,r4,r5,r6)) :
  Calls Tryz.prog 15 #[.string a0] w fun e w'=>∃ v3_ v4_:Value,e = .returned (.tuple #[.agg #[.int .i64 r1,.int .i64 r2,.int .i64 r3,v3_,v4_],.bool r6])∧Kd.R k121 121 w' w.heap.size (fun _=>True) v3_ r4∧Kd.R k47 47 w' w.heap.size (fun k_=>some k_≠(v3_:Value).ownBlock) v4_ r5∧Below w.heap.size w w':=by
 have hu47:=Tryz.underlying47
 have hu72:=Tryz.underlying72
 have HB:=am (Below.refl w.heap.size w)
 have H:((spec_reader_blanks.f k a0 0).bind fun bt267=>((spec_reader_value.f k bt267.1 bt267.2).bind fun bt269=>(if bt269.2.2.2.2.2.1=true then ((spec_reader_blanks.f k bt269.2.2.2.2.2.2.1 bt269.2.2.2.2.2.2.2).bind fun bt282=>(if bt282.2=(a0.size:Int) then (some (bt269.1,bt269.2.1,bt269.2.2.1,bt269.2.2.2.1,bt269.2.2.2.2.1,true)) else (some (0,0,0,([]:List (S121)),([]:List (S47)),false)))) else (some (0,0,0,([]:List (S121)),([]:List (S47)),false)))))=some (r1,r2,r3,r4,r5,r6):=h
 clear h
 replace H:=obs H
 obtain ⟨⟨t267,t268⟩,A20,H⟩:=H
 dsimp only at H
 have A2:=am A20
 clear A20
 replace H:=obs H
 obtain ⟨⟨t269,t270,t271,t272,t275,t278,t279,t280⟩,A30,H⟩:=H
 dsimp only at H
 have A3:=am A30
 clear A30
 have HC4:=am H
 clear H
 go_enter Tryz.func15,Tryz.ntmps15
 go_upto_if 15 with (first | ((with_reducible refine gate_dst (N:=2) rfl ?_);refine box_event ?hg (N:=2) ?hd (cs:=#[.int .i64 0,.int .i64 0,.int .i64 0,.slice none 0 0,.slice none 0 0]) (t:=47) ?hr ?_;(case hd=>exact Z9);(case hg=>exact Z9);(case hr=>exact Z17);intro gb265 hg w5 hbox hb;have n0_:=am (below_step Z11 hb);have n1_:=am (hbox);have n2_:=am ((Z75:w.heap.size≤gb265));have n3_:=am ((Z75:w.heap.size≤gb265));clear HB;have HB:=n0_;have BK265:=n1_;have GW265:=n2_;have GE265:=n3_;clear n0_ n1_ n2_ n3_;clear hb hbox hg) | ((with_reducible refine gate_dst (N:=4) rfl ?_);refine box_event ?hg (N:=4) ?hd (cs:=#[.string (⟨#[]⟩:ByteArray),.int .i64 0]) (t:=72) ?hr ?_;(case hd=>exact Z9);(case hg=>exact Z9);(case hr=>exact Z17);intro gb266 hg w6 hbox hb;have n0_:=am (blk_below (g:=gb265) (o:=.cells #[.int .i64 0,.int .i64 0,.int .i64 0,.slice none 0 0,.slice none 0 0] 47 (0,0)) (pB BK265.out) hb);have n1_:=am (below_step Z45 hb);have n2_:=am (hbox);have n3_:=am ((by rw [hg];exact (below_size Z45):w.heap.size≤gb266));have n4_:=am ((by rw [hg];exact (below_size Z45):w.heap.size≤gb266));have n5_:=am ((Z61:gb265≠gb266));have n6_:=am ((Z62:gb266≠gb265));clear BK265;clear HB;have BK265:=n0_;have HB:=n1_;have BK266:=n2_;have GW266:=n3_;have GE266:=n4_;have NB265_266:=n5_;have NB266_265:=n6_;clear n0_ n1_ n2_ n3_ n4_ n5_ n6_;clear hb hbox hg;have hnb7:=NB266_265.out;have hnc7:=NB265_266.out;have hcz8_0:w6.cell? ⟨gb266,0,none⟩=some (.string (⟨#[]⟩:ByteArray)):=(bkc BK266.out 0).trans rfl;have hcz8_1:w6.cell? ⟨gb266,1,none⟩=some (.int .i64 0):=(bkc BK266.out 1).trans rfl;have hfz8_0:=bkf BK266.out 0;have hfz8_1:=bkf BK266.out 1) | ((with_reducible refine gate_callee (f:=37) rfl ?_);have n0_:Aside0 (((w6.setCell ⟨gb266,0,none⟩ (.string a0)).setCell ⟨gb266,1,none⟩ (.int .i64 0)).heap[gb265]? = some (.cells #[.int .i64 0,.int .i64 0,.int .i64 0,.slice none 0 0,.slice none 0 0] 47 (0,0))):=⟨by (with_reducible repeat (first | refine bkn ?_ _ | refine bkd ?_ | refine bka ?_ _));refine blk_far ?_ NB265_266.out _;(with_reducible repeat (first | refine bkn ?_ _ | refine bkd ?_ | refine bka ?_ _));refine blk_far ?_ NB265_266.out _;(with_reducible repeat (first | refine bkn ?_ _ | refine bkd ?_ | refine bka ?_ _));exact BK265.out⟩;have n1_:Aside0 (((w6.setCell ⟨gb266,0,none⟩ (.string a0)).setCell ⟨gb266,1,none⟩ (.int .i64 0)).heap[gb266]? = some (.cells #[.string a0,.int .i64 0] 72 (0,0))):=⟨by (with_reducible repeat (first | refine bkn ?_ _ | refine bkd ?_ | refine bka ?_ _));refine blk_put (cs:=#[.string a0,.int .i64 0]) ?_ 1 _ rfl;(with_reducible repeat (first | refine bkn ?_ _ | refine bkd ?_ | refine bka ?_ _));refine blk_put (cs:=#[.string (⟨#[]⟩:ByteArray),.int .i64 0]) ?_ 0 _ rfl;(with_reducible repeat (first | refine bkn ?_ _ | refine bkd ?_ | refine bka ?_ _));exact BK266.out⟩;have n2_:Aside0 (Below w.heap.size w ((w6.setCell ⟨gb266,0,none⟩ (.string a0)).setCell ⟨gb266,1,none⟩ (.int .i64 0))):=⟨by repeat (first | (with_reducible first | exact HB.out | apply below_alloc | apply pw_below_drewN | apply below_drew1 | refine below_set ?_ GE265.out | refine below_set ?_ GE266.out) | exact HB.out)⟩;(try clear BK265);(try clear BK266);(try clear HB);generalize ((w6.setCell ⟨gb266,0,none⟩ (.string a0)).setCell ⟨gb266,1,none⟩ (.int .i64 0))=w9 at n0_ n1_ n2_ ⊢;have BK265:=n0_;have BK266:=n1_;have HB:=n2_;clear n0_ n1_ n2_;have HI266:=am (show IsS72 w w9 gb266 a0 0 from ⟨BK266.out,GE266.out⟩);clear BK266;(with_reducible refine gate_callee (f:=37) rfl ?_);refine goesL_ (some 9) rfl rfl Tryz.func37 Z1 rfl #[.pointer (some ⟨gb266,0,none⟩)] rfl Z10 ?_;(with_reducible refine (spec_reader_blanks.calls k gb266 a0 0 t267 t268 w _ ?side1 ?side2 A2.out).mono ?_);(case side1=>exact Z36);(case side2=>exact Z31);rintro e w10 ⟨rfl,hi,hb,hk⟩;refine ⟨_,rfl,?_⟩;have n0_:=am (KeepBut.blk hk (g':=gb265) (o:=.cells #[.int .i64 0,.int .i64 0,.int .i64 0,.slice none 0 0,.slice none 0 0] 47 (0,0)) (pB BK265.out) NB265_266.out Z6);have n1_:=am (hb);have n2_:=am (hi);clear BK265;clear HB;clear HI266;have BK265:=n0_;have HB:=n1_;have HI266:=n2_;clear n0_ n1_ n2_;(try clear hb);(try clear hb2);(try clear hk);(try clear hi)) | ((with_reducible refine gate_callee (f:=38) rfl ?_);refine goesL_ (some 11) rfl rfl Tryz.func38 Z1 rfl #[.pointer (some ⟨gb266,0,none⟩)] rfl Z10 ?_;(with_reducible refine (spec_reader_value.calls k gb266 t267 t268 t269 t270 t271 t272 t275 t278 t279 t280 w _ ?side1 ?side2 A3.out).mono ?_);(case side1=>exact Z36);(case side2=>exact Z31);rintro e w11 ⟨v273,v276,rfl,ho0,ho1,hi,hb,hk⟩;refine ⟨_,rfl,?_⟩;have n0_:=am (KeepBut.blk hk (g':=gb265) (o:=.cells #[.int .i64 0,.int .i64 0,.int .i64 0,.slice none 0 0,.slice none 0 0] 47 (0,0)) (pB BK265.out) NB265_266.out Z6);have n1_:=am (Kd.R_lower ho0 (below_size Z31));have n2_:=am (Kd.R_lower (Kd.R_newB ho1 (g:=gb265) (o:=.cells #[.int .i64 0,.int .i64 0,.int .i64 0,.slice none 0 0,.slice none 0 0] 47 (0,0)) (pB BK265.out)) (below_size Z31));have n3_:=am (hb);have n4_:=am (hi);clear BK265;clear HB;clear HI266;have BK265:=n0_;have HO274:=n1_;have HO277:=n2_;have HB:=n3_;have HI266:=n4_;clear n0_ n1_ n2_ n3_ n4_;(try clear hb);(try clear hb2);(try clear hk);(try clear hi);(try clear ho0);(try clear ho1)) | ((with_reducible refine gate_dst (N:=5) rfl ?_);refine box_event ?hg (N:=5) ?hd (cs:=#[.int .i64 0,.int .i64 0,.int .i64 0,.slice none 0 0,.slice none 0 0]) (t:=47) ?hr ?_;(case hd=>exact Z9);(case hg=>exact Z9);(case hr=>exact Z17);intro gb281 hg w12 hbox hb;have n0_:=am (Kd.R_below (pR HO274.out) hb);have n1_:=am (Kd.R_below (Kd.R_elderB (pR HO277.out) gb281 (Nat.le_of_eq hg.symm)) hb);have n2_:=am (blk_below (g:=gb265) (o:=.cells #[.int .i64 0,.int .i64 0,.int .i64 0,.slice none 0 0,.slice none 0 0] 47 (0,0)) (pB BK265.out) hb);have n3_:=am (IsS72.below Z36 hb);have n4_:=am (below_step Z31 hb);have n5_:=am (hbox);have n6_:=am ((by rw [hg];exact (below_size Z31):w.heap.size≤gb281));have n7_:=am ((by rw [hg];exact (below_size Z31):w.heap.size≤gb281));have n8_:=am ((Z61:gb265≠gb281));have n9_:=am ((Z62:gb281≠gb265));have n10_:=am ((by rw [hg];exact Nat.ne_of_lt (IsS72.lt (show IsS72 w _ gb266 t279 t280 from Z36)):gb266≠gb281));have n11_:=am ((by rw [hg];exact Nat.ne_of_gt (IsS72.lt (show IsS72 w _ gb266 t279 t280 from Z36)):gb281≠gb266));clear HO274;clear HO277;clear BK265;clear HI266;clear HB;have HO274:=n0_;have HO277:=n1_;have BK265:=n2_;have HI266:=n3_;have HB:=n4_;have BK281:=n5_;have GW281:=n6_;have GE281:=n7_;have NB265_281:=n8_;have NB281_265:=n9_;have NB266_281:=n10_;have NB281_266:=n11_;clear n0_ n1_ n2_ n3_ n4_ n5_ n6_ n7_ n8_ n9_ n10_ n11_;clear hb hbox hg;have hnb13:=NB281_265.out;have hnc13:=NB265_281.out;have hnb14:=NB281_266.out;have hnc14:=NB266_281.out;have hcz15_0:w12.cell? ⟨gb281,0,none⟩=some (.int .i64 0):=(bkc BK281.out 0).trans rfl;have hcz15_1:w12.cell? ⟨gb281,1,none⟩=some (.int .i64 0):=(bkc BK281.out 1).trans rfl;have hcz15_2:w12.cell? ⟨gb281,2,none⟩=some (.int .i64 0):=(bkc BK281.out 2).trans rfl;have hcz15_3:w12.cell? ⟨gb281,3,none⟩=some (.slice none 0 0):=(bkc BK281.out 3).trans rfl;have hcz15_4:w12.cell? ⟨gb281,4,none⟩=some (.slice none 0 0):=(bkc BK281.out 4).trans rfl;have hfz15_0:=bkf BK281.out 0;have hfz15_1:=bkf BK281.out 1;have hfz15_2:=bkf BK281.out 2;have hfz15_3:=bkf BK281.out 3;have hfz15_4:=bkf BK281.out 4;obtain ⟨Ao16,co16,eo16⟩:=Kd.R_slice HO274.out;subst eo16;obtain ⟨Ao17,co17,eo17⟩:=Kd.R_slice HO277.out;subst eo17))
 have n0_:Aside0 (Kd.R k121 121 (((((w12.setCell ⟨gb281,0,none⟩ (.int .i64 t269)).setCell ⟨gb281,1,none⟩ (.int .i64 t270)).setCell ⟨gb281,2,none⟩ (.int .i64 t271)).setCell ⟨gb281,3,none⟩ (.slice Ao16 t272.length co16)).setCell ⟨gb281,4,none⟩ (.slice Ao17 t275.length co17)) w.heap.size (fun _=>True) (.slice Ao16 t272.length co16) t272):=⟨by (with_reducible repeat (first | apply Kd.R_alloc | apply Kd.R_drewN | apply Kd.R_drew));exact Kd.R_mono (Kd.R_far (p:=⟨gb281,4,none⟩) (Kd.R_far (p:=⟨gb281,3,none⟩) (Kd.R_far (p:=⟨gb281,2,none⟩) (Kd.R_far (p:=⟨gb281,1,none⟩) (Kd.R_far (p:=⟨gb281,0,none⟩) (Kd.R_types HO274.out BK281.out Z2) (fun _ hk=>hk.2) (.int .i64 t269)) (fun _ hk=>hk.2) (.int .i64 t270)) (fun _ hk=>hk.2) (.int .i64 t271)) (fun _ hk=>hk.2) (.slice Ao16 t272.length co16)) (fun _ hk=>hk.2) (.slice Ao17 t275.length co17)) (fun _ hk=>trivial)⟩
 have n1_:Aside0 (Kd.R k47 47 (((((w12.setCell ⟨gb281,0,none⟩ (.int .i64 t269)).setCell ⟨gb281,1,none⟩ (.int .i64 t270)).setCell ⟨gb281,2,none⟩ (.int .i64 t271)).setCell ⟨gb281,3,none⟩ (.slice Ao16 t272.length co16)).setCell ⟨gb281,4,none⟩ (.slice Ao17 t275.length co17)) w.heap.size (fun k_=>some k_≠(.slice Ao16 t272.length co16:Value).ownBlock∧k_≠gb265∧k_≠gb281) (.slice Ao17 t275.length co17) t275):=⟨by (with_reducible repeat (first | apply Kd.R_alloc | apply Kd.R_drewN | apply Kd.R_drew));exact Kd.R_mono (Kd.R_far (p:=⟨gb281,4,none⟩) (Kd.R_far (p:=⟨gb281,3,none⟩) (Kd.R_far (p:=⟨gb281,2,none⟩) (Kd.R_far (p:=⟨gb281,1,none⟩) (Kd.R_far (p:=⟨gb281,0,none⟩) (Kd.R_mono HO277.out (fun k_ hk=>(⟨hk,hk.2⟩:_∧k_≠gb281))) (fun _ hk=>hk.2) (.int .i64 t269)) (fun _ hk=>hk.2) (.int .i64 t270)) (fun _ hk=>hk.2) (.int .i64 t271)) (fun _ hk=>hk.2) (.slice Ao16 t272.length co16)) (fun _ hk=>hk.2) (.slice Ao17 t275.length co17)) (fun _ hk=>⟨hk.1.1.1,⟨hk.1.1.2,hk.1.2⟩⟩)⟩
 have n2_:Aside0 ((((((w12.setCell ⟨gb281,0,none⟩ (.int .i64 t269)).setCell ⟨gb281,1,none⟩ (.int .i64 t270)).setCell ⟨gb281,2,none⟩ (.int .i64 t271)).setCell ⟨gb281,3,none⟩ (.slice Ao16 t272.length co16)).setCell ⟨gb281,4,none⟩ (.slice Ao17 t275.length co17)).heap[gb265]? = some (.cells #[.int .i64 0,.int .i64 0,.int .i64 0,.slice none 0 0,.slice none 0 0] 47 (0,0))):=⟨by (with_reducible repeat (first | refine bkn ?_ _ | refine bkd ?_ | refine bka ?_ _));refine blk_far ?_ NB265_281.out _;(with_reducible repeat (first | refine bkn ?_ _ | refine bkd ?_ | refine bka ?_ _));refine blk_far ?_ NB265_281.out _;(with_reducible repeat (first | refine bkn ?_ _ | refine bkd ?_ | refine bka ?_ _));refine blk_far ?_ NB265_281.out _;(with_reducible repeat (first | refine bkn ?_ _ | refine bkd ?_ | refine bka ?_ _));refine blk_far ?_ NB265_281.out _;(with_reducible repeat (first | refine bkn ?_ _ | refine bkd ?_ | refine bka ?_ _));refine blk_far ?_ NB265_281.out _;(with_reducible repeat (first | refine bkn ?_ _ | refine bkd ?_ | refine bka ?_ _));exact BK265.out⟩
 have n3_:Aside0 ((((((w12.setCell ⟨gb281,0,none⟩ (.int .i64 t269)).setCell ⟨gb281,1,none⟩ (.int .i64 t270)).setCell ⟨gb281,2,none⟩ (.int .i64 t271)).setCell ⟨gb281,3,none⟩ (.slice Ao16 t272.length co16)).setCell ⟨gb281,4,none⟩ (.slice Ao17 t275.length co17)).heap[gb281]? = some (.cells #[.int .i64 t269,.int .i64 t270,.int .i64 t271,.slice Ao16 t272.length co16,.slice Ao17 t275.length co17] 47 (0,0))):=⟨by (with_reducible repeat (first | refine bkn ?_ _ | refine bkd ?_ | refine bka ?_ _));refine blk_put (cs:=#[.int .i64 t269,.int .i64 t270,.int .i64 t271,.slice Ao16 t272.length co16,.slice none 0 0]) ?_ 4 _ rfl;(with_reducible repeat (first | refine bkn ?_ _ | refine bkd ?_ | refine bka ?_ _));refine blk_put (cs:=#[.int .i64 t269,.int .i64 t270,.int .i64 t271,.slice none 0 0,.slice none 0 0]) ?_ 3 _ rfl;(with_reducible repeat (first | refine bkn ?_ _ | refine bkd ?_ | refine bka ?_ _));refine blk_put (cs:=#[.int .i64 t269,.int .i64 t270,.int .i64 0,.slice none 0 0,.slice none 0 0]) ?_ 2 _ rfl;(with_reducible repeat (first | refine bkn ?_ _ | refine bkd ?_ | refine bka ?_ _));refine blk_put (cs:=#[.int .i64 t269,.int .i64 0,.int .i64 0,.slice none 0 0,.slice none 0 0]) ?_ 1 _ rfl;(with_reducible repeat (first | refine bkn ?_ _ | refine bkd ?_ | refine bka ?_ _));refine blk_put (cs:=#[.int .i64 0,.int .i64 0,.int .i64 0,.slice none 0 0,.slice none 0 0]) ?_ 0 _ rfl;(with_reducible repeat (first | refine bkn ?_ _ | refine bkd ?_ | refine bka ?_ _));exact BK281.out⟩
 have n4_:Aside0 (IsS72 w (((((w12.setCell ⟨gb281,0,none⟩ (.int .i64 t269)).setCell ⟨gb281,1,none⟩ (.int .i64 t270)).setCell ⟨gb281,2,none⟩ (.int .i64 t271)).setCell ⟨gb281,3,none⟩ (.slice Ao16 t272.length co16)).setCell ⟨gb281,4,none⟩ (.slice Ao17 t275.length co17)) gb266 t279 t280):=⟨Z38⟩
 have n5_:Aside0 (Below w.heap.size w (((((w12.setCell ⟨gb281,0,none⟩ (.int .i64 t269)).setCell ⟨gb281,1,none⟩ (.int .i64 t270)).setCell ⟨gb281,2,none⟩ (.int .i64 t271)).setCell ⟨gb281,3,none⟩ (.slice Ao16 t272.length co16)).setCell ⟨gb281,4,none⟩ (.slice Ao17 t275.length co17))):=⟨Z37⟩
 (try clear HO274)
 (try clear HO277)
 (try clear BK265)
 (try clear BK281)
 (try clear HI266)
 (try clear HB)
 generalize (((((w12.setCell ⟨gb281,0,none⟩ (.int .i64 t269)).setCell ⟨gb281,1,none⟩ (.int .i64 t270)).setCell ⟨gb281,2,none⟩ (.int .i64 t271)).setCell ⟨gb281,3,none⟩ (.slice Ao16 t272.length co16)).setCell ⟨gb281,4,none⟩ (.slice Ao17 t275.length co17))=w18 at n0_ n1_ n2_ n3_ n4_ n5_ ⊢
 have HO274:=n0_
 have HO277:=n1_
 have BK265:=n2_
 have BK281:=n3_
 have HI266:=n4_
 have HB:=n5_
 clear n0_ n1_ n2_ n3_ n4_ n5_
 (try simp only [Act.put,List.setIfInBounds_toArray,List.set_cons_zero,List.set_cons_succ])
 have H:=HC4.out
 clear HC4
 by_cases c19:t278=true
 rotate_left
 ·
  replace c19:=bef c19
  subst c19
  rw [if_neg (show ¬ (false=true) from Z2)] at H
  simp only [Option.some.injEq,Prod.mk.injEq] at H
  obtain ⟨rfl,rfl,rfl,rfl,rfl,rfl⟩:=H
  have hnb33:=NB265_281.out
  have hnc33:=NB281_265.out
  have hnb34:=NB265_266.out
  have hnc34:=NB266_265.out
  have hcz35_0:w18.cell? ⟨gb265,0,none⟩=some (.int .i64 0):=(bkc BK265.out 0).trans rfl
  have hcz35_1:w18.cell? ⟨gb265,1,none⟩=some (.int .i64 0):=(bkc BK265.out 1).trans rfl
  have hcz35_2:w18.cell? ⟨gb265,2,none⟩=some (.int .i64 0):=(bkc BK265.out 2).trans rfl
  have hcz35_3:w18.cell? ⟨gb265,3,none⟩=some (.slice none 0 0):=(bkc BK265.out 3).trans rfl
  have hcz35_4:w18.cell? ⟨gb265,4,none⟩=some (.slice none 0 0):=(bkc BK265.out 4).trans rfl
  have hfz35_0:=bkf BK265.out 0
  have hfz35_1:=bkf BK265.out 1
  have hfz35_2:=bkf BK265.out 2
  have hfz35_3:=bkf BK265.out 3
  have hfz35_4:=bkf BK265.out 4
  go_wp2
  refine bodyPost_ret (results_ct rfl _ _ gb265 47 #[.int .i64 0,.int .i64 0,.int .i64 0,.slice none 0 0,.slice none 0 0] (0,0) _ rfl Z63 Tryz.underlying47 rfl Z1) rfl ?_
  exact ⟨_,_,Z12,Z13,Z13,Z37⟩
 subst c19
 rw [if_pos rfl] at H
 replace H:=obs H
 obtain ⟨⟨t282,t283⟩,A200,H⟩:=H
 dsimp only at H
 have A20:=am A200
 clear A200
 have HC21:=am H
 clear H
 go_upto_if 22 with (first | ((with_reducible refine gate_callee (f:=37) rfl ?_);refine goesL_ (some 17) rfl rfl Tryz.func37 Z1 rfl #[.pointer (some ⟨gb266,0,none⟩)] rfl Z10 ?_;(with_reducible refine (spec_reader_blanks.calls k gb266 t279 t280 t282 t283 w _ ?side1 ?side2 A20.out).mono ?_);(case side1=>exact Z38);(case side2=>exact Z37);rintro e w22 ⟨rfl,hi,hb,hk⟩;refine ⟨_,rfl,?_⟩;have n0_:=am (KeepBut.blk hk (g':=gb265) (o:=.cells #[.int .i64 0,.int .i64 0,.int .i64 0,.slice none 0 0,.slice none 0 0] 47 (0,0)) (pB BK265.out) NB265_266.out Z6);have n1_:=am (Kd.R_mono (Kd.R_keep (IsS72.apart (show IsS72 w _ gb266 t279 t280 from Z38) (pR HO274.out) Z2) hk (fun _ h=>h.2)) (fun _ h=>h.1));have n2_:=am (Kd.R_mono (Kd.R_keep (IsS72.apart (show IsS72 w _ gb266 t279 t280 from Z38) (pR HO277.out) Z2) hk (fun _ h=>h.2)) (fun _ h=>h.1));have n3_:=am (KeepBut.blk hk (g':=gb281) (o:=.cells #[.int .i64 t269,.int .i64 t270,.int .i64 t271,.slice Ao16 t272.length co16,.slice Ao17 t275.length co17] 47 (0,0)) (pB BK281.out) NB281_266.out Z6);have n4_:=am (hb);have n5_:=am (hi);clear BK265;clear HO274;clear HO277;clear BK281;clear HB;clear HI266;have BK265:=n0_;have HO274:=n1_;have HO277:=n2_;have BK281:=n3_;have HB:=n4_;have HI266:=n5_;clear n0_ n1_ n2_ n3_ n4_ n5_;(try clear hb);(try clear hb2);(try clear hk);(try clear hi);obtain ⟨HGz23,hgz23⟩:=HI266.out;have hcz23_0:=cellS72_0 HGz23;have hcz23_1:=cellS72_1 HGz23;have hfz23_0:=bkf HGz23 0;have hfz23_1:=bkf HGz23 1;clear HGz23 hgz23))
 (try simp only [Act.put,List.setIfInBounds_toArray,List.set_cons_zero,List.set_cons_succ])
 have H:=HC21.out
 clear HC21
 by_cases c24:t283=(a0.size:Int)
 rotate_left
 ·
  rw [if_neg c24] at H
  have c24b0:=bfe c24
  have c24b1:=bne_iff_ne.mpr c24
  (first | rw [c24b0] | (simp only [i64_w,i32_w];rw [c24b0]) | skip)
  simp only [Option.some.injEq,Prod.mk.injEq] at H
  obtain ⟨rfl,rfl,rfl,rfl,rfl,rfl⟩:=H
  have hnb30:=NB265_281.out
  have hnc30:=NB281_265.out
  have hnb31:=NB265_266.out
  have hnc31:=NB266_265.out
  have hcz32_0:w22.cell? ⟨gb265,0,none⟩=some (.int .i64 0):=(bkc BK265.out 0).trans rfl
  have hcz32_1:w22.cell? ⟨gb265,1,none⟩=some (.int .i64 0):=(bkc BK265.out 1).trans rfl
  have hcz32_2:w22.cell? ⟨gb265,2,none⟩=some (.int .i64 0):=(bkc BK265.out 2).trans rfl
  have hcz32_3:w22.cell? ⟨gb265,3,none⟩=some (.slice none 0 0):=(bkc BK265.out 3).trans rfl
  have hcz32_4:w22.cell? ⟨gb265,4,none⟩=some (.slice none 0 0):=(bkc BK265.out 4).trans rfl
  have hfz32_0:=bkf BK265.out 0
  have hfz32_1:=bkf BK265.out 1
  have hfz32_2:=bkf BK265.out 2
  have hfz32_3:=bkf BK265.out 3
  have hfz32_4:=bkf BK265.out 4
  go_wp2
  refine bodyPost_ret (results_ct rfl _ _ gb265 47 #[.int .i64 0,.int .i64 0,.int .i64 0,.slice none 0 0,.slice none 0 0] (0,0) _ rfl Z63 Tryz.underlying47 rfl Z1) rfl ?_
  exact ⟨_,_,Z12,Z13,Z13,Z37⟩
 rw [if_pos c24] at H
 have c24b0:=beq_iff_eq.mpr c24
 have c24b1:=bnf c24
 clear c24
 (first | rw [c24b0] | (simp only [i64_w,i32_w];rw [c24b0]) | skip)
 simp only [Option.some.injEq,Prod.mk.injEq] at H
 obtain ⟨rfl,rfl,rfl,rfl,rfl,rfl⟩:=H
 have hnb25:=NB281_265.out
 have hnc25:=NB265_281.out
 have hnb26:=NB281_266.out
 have hnc26:=NB266_281.out
 have hcz27_0:w22.cell? ⟨gb281,0,none⟩=some (.int .i64 t269):=(bkc BK281.out 0).trans rfl
 have hcz27_1:w22.cell? ⟨gb281,1,none⟩=some (.int .i64 t270):=(bkc BK281.out 1).trans rfl
 have hcz27_2:w22.cell? ⟨gb281,2,none⟩=some (.int .i64 t271):=(bkc BK281.out 2).trans rfl
 have hcz27_3:w22.cell? ⟨gb281,3,none⟩=some (.slice Ao16 t272.length co16):=(bkc BK281.out 3).trans rfl
 have hcz27_4:w22.cell? ⟨gb281,4,none⟩=some (.slice Ao17 t275.length co17):=(bkc BK281.out 4).trans rfl
 have hfz27_0:=bkf BK281.out 0
 have hfz27_1:=bkf BK281.out 1
 have hfz27_2:=bkf BK281.out 2
 have hfz27_3:=bkf BK281.out 3
 have hfz27_4:=bkf BK281.out 4
 have hnb28:=NB265_266.out
 have hnc28:=NB266_265.out
 have hcz29_0:w22.cell? ⟨gb265,0,none⟩=some (.int .i64 0):=(bkc BK265.out 0).trans rfl
 have hcz29_1:w22.cell? ⟨gb265,1,none⟩=some (.int .i64 0):=(bkc BK265.out 1).trans rfl
 have hcz29_2:w22.cell? ⟨gb265,2,none⟩=some (.int .i64 0):=(bkc BK265.out 2).trans rfl
 have hcz29_3:w22.cell? ⟨gb265,3,none⟩=some (.slice none 0 0):=(bkc BK265.out 3).trans rfl
 have hcz29_4:w22.cell? ⟨gb265,4,none⟩=some (.slice none 0 0):=(bkc BK265.out 4).trans rfl
 have hfz29_0:=bkf BK265.out 0
 have hfz29_1:=bkf BK265.out 1
 have hfz29_2:=bkf BK265.out 2
 have hfz29_3:=bkf BK265.out 3
 have hfz29_4:=bkf BK265.out 4
 go_wp2
 refine bodyPost_ret (results_ct rfl _ _ gb265 47 #[.int .i64 t269,.int .i64 t270,.int .i64 t271,.slice Ao16 t272.length co16,.slice Ao17 t275.length co17] (0,0) _ rfl (by (with_reducible repeat (first | refine bkn ?_ _ | refine bkd ?_ | refine bka ?_ _));refine blk_put (cs:=#[.int .i64 t269,.int .i64 t270,.int .i64 t271,.slice Ao16 t272.length co16,.slice none 0 0]) ?_ 4 _ rfl;(with_reducible repeat (first | refine bkn ?_ _ | refine bkd ?_ | refine bka ?_ _));refine blk_put (cs:=#[.int .i64 t269,.int .i64 t270,.int .i64 t271,.slice none 0 0,.slice none 0 0]) ?_ 3 _ rfl;(with_reducible repeat (first | refine bkn ?_ _ | refine bkd ?_ | refine bka ?_ _));refine blk_put (cs:=#[.int .i64 t269,.int .i64 t270,.int .i64 0,.slice none 0 0,.slice none 0 0]) ?_ 2 _ rfl;(with_reducible repeat (first | refine bkn ?_ _ | refine bkd ?_ | refine bka ?_ _));refine blk_put (cs:=#[.int .i64 t269,.int .i64 0,.int .i64 0,.slice none 0 0,.slice none 0 0]) ?_ 1 _ rfl;(with_reducible repeat (first | refine bkn ?_ _ | refine bkd ?_ | refine bka ?_ _));refine blk_put (cs:=#[.int .i64 0,.int .i64 0,.int .i64 0,.slice none 0 0,.slice none 0 0]) ?_ 0 _ rfl;(with_reducible repeat (first | refine bkn ?_ _ | refine bkd ?_ | refine bka ?_ _));exact BK265.out) Tryz.underlying47 rfl Z1) rfl ?_
 exact ⟨_,_,Z12,by (with_reducible repeat (first | apply Kd.R_alloc | apply Kd.R_drewN | apply Kd.R_drew));exact Kd.R_mono (Kd.R_far (p:=⟨gb265,4,none⟩) (Kd.R_far (p:=⟨gb265,3,none⟩) (Kd.R_far (p:=⟨gb265,2,none⟩) (Kd.R_far (p:=⟨gb265,1,none⟩) (Kd.R_far (p:=⟨gb265,0,none⟩) (Kd.R_types HO274.out BK265.out Z2) (fun _ hk=>hk.2) (.int .i64 t269)) (fun _ hk=>hk.2) (.int .i64 t270)) (fun _ hk=>hk.2) (.int .i64 t271)) (fun _ hk=>hk.2) (.slice Ao16 t272.length co16)) (fun _ hk=>hk.2) (.slice Ao17 t275.length co17)) (fun _ hk=>trivial),by (with_reducible repeat (first | apply Kd.R_alloc | apply Kd.R_drewN | apply Kd.R_drew));exact Kd.R_mono (Kd.R_far (p:=⟨gb265,4,none⟩) (Kd.R_far (p:=⟨gb265,3,none⟩) (Kd.R_far (p:=⟨gb265,2,none⟩) (Kd.R_far (p:=⟨gb265,1,none⟩) (Kd.R_far (p:=⟨gb265,0,none⟩) (Kd.R_mono HO277.out (fun k_ hk=>(⟨hk,hk.2.1⟩:_∧k_≠gb265))) (fun _ hk=>hk.2) (.int .i64 t269)) (fun _ hk=>hk.2) (.int .i64 t270)) (fun _ hk=>hk.2) (.int .i64 t271)) (fun _ hk=>hk.2) (.slice Ao16 t272.length co16)) (fun _ hk=>hk.2) (.slice Ao17 t275.length co17)) (fun _ hk=>hk.1.1),Z37⟩
end Go.Proofs.YtieflhncpjjciaaGreatDoor.PFnGjSquashItems
