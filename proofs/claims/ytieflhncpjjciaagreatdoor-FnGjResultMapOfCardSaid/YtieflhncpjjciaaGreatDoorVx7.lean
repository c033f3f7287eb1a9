import Derived.Test.YtieflhncpjjciaaGreatDoorVq
import Derived.Test.YtieflhncpjjciaaGreatDoorVx0
import Derived.Test.YtieflhncpjjciaaGreatDoorVx6
set_option maxHeartbeats 8000000
set_option maxRecDepth 100000
namespace Go.Proofs.YtieflhncpjjciaaGreatDoor.PFnGjSquashItems
open Go.RowKit Go.Proofs.YtieflhncpjjciaaGreatDoorW.PrintWords Go.Proofs.YtieflhncpjjciaaGreatDoorW.PrintLast Go.Proofs.YtieflhncpjjciaaGreatDoorW.PrintMore
attribute [local go_sem] max2_int min2_int max_two min_two max_three min_three max_four min_four
set_option linter.unusedVariables false
set_option linter.unusedSimpArgs false
mutual
def spec_Tree.j0:Nat→ByteArray→Int→Int→Int→List (S121)→List (S47)→Int→ByteArray→Option (Int×ByteArray×List ByteArray×(List (S26)))
 | 0,_,_,_,_,_,_,_,_=>none
 | k+1,x0,x341000,x341001,x341002,x341003,x341004,x343000,x343001=>spec_Tree.l0 k x0 0 x341000 x341001 x341002 x341003 x341004 x343000 x343001 ([]:List ByteArray)
def spec_Tree.l0:Nat→ByteArray→Int→Int→Int→Int→List (S121)→List (S47)→Int→ByteArray→List ByteArray→Option (Int×ByteArray×List ByteArray×(List (S26)))
 | 0,_,_,_,_,_,_,_,_,_,_=>none
 | k+1,x0,x6,x341000,x341001,x341002,x341003,x341004,x343000,x343001,x343002=>if x6<(x341003.length:Int) then (if 0≤x6 then (if 0≤((rd_T121 x341003 x6).f0) then (if ((rd_T121 x341003 x6).f0)≤((rd_T121 x341003 x6).f1) then (if ((rd_T121 x341003 x6).f1)≤(x0.size:Int) then ((spec_Unquote.f k (x0.extract (((rd_T121 x341003 x6).f0):Int).toNat (((rd_T121 x341003 x6).f1):Int).toNat)).bind fun t346=>(if x343002.length<8796093022208 then (spec_Tree.l0 k x0 (wrap64 (x6+1)) x341000 x341001 x341002 x341003 x341004 x343000 x343001 (x343002 ++ [t346])) else (none))) else (none)) else (none)) else (none)) else (none)) else (spec_Tree.l1 k x0 0 x341000 x341001 x341002 x341003 x341004 x343000 x343001 x343002 ([]:List (S26)))
def spec_Tree.l1:Nat→ByteArray→Int→Int→Int→Int→List (S121)→List (S47)→Int→ByteArray→List ByteArray→List (S26)→Option (Int×ByteArray×List ByteArray×(List (S26)))
 | 0,_,_,_,_,_,_,_,_,_,_,_=>none
 | k+1,x0,x7,x341000,x341001,x341002,x341003,x341004,x343000,x343001,x343002,x343003=>if x7<(x341004.length:Int) then (if 0≤x7 then ((spec_Tree.f k x0 ((rd_T47 x341004 x7).f0) ((rd_T47 x341004 x7).f1) ((rd_T47 x341004 x7).f2) ((rd_T47 x341004 x7).f3) ((rd_T47 x341004 x7).f4)).bind fun bt351=>(if x343003.length<1954687338268 then (spec_Tree.l1 k x0 (wrap64 (x7+1)) x341000 x341001 x341002 x341003 x341004 x343000 x343001 x343002 (x343003 ++ [(⟨bt351.1,bt351.2.1,bt351.2.2.1,bt351.2.2.2⟩:S26)])) else (none))) else (none)) else (some (x343000,x343001,x343002,x343003))
def spec_Tree.f:Nat→ByteArray→Int→Int→Int→List (S121)→List (S47)→Option (Int×ByteArray×List ByteArray×(List (S26)))
 | 0,_,_,_,_,_,_=>none
 | k+1,a0,a1_0,a1_1,a1_2,l1_3,l1_4=>if a1_0=3 then (if 0≤a1_1 then (if a1_1≤a1_2 then (if a1_2≤(a0.size:Int) then (spec_Tree.j0 k a0 a1_0 a1_1 a1_2 l1_3 l1_4 a1_0 (a0.extract (a1_1:Int).toNat (a1_2:Int).toNat)) else (none)) else (none)) else (none)) else (if a1_0=4 then (if 0≤a1_1 then (if a1_1≤a1_2 then (if a1_2≤(a0.size:Int) then ((spec_Unquote.f k (a0.extract (a1_1:Int).toNat (a1_2:Int).toNat)).bind fun t343=>(spec_Tree.j0 k a0 a1_0 a1_1 a1_2 l1_3 l1_4 a1_0 t343)) else (none)) else (none)) else (none)) else (spec_Tree.j0 k a0 a1_0 a1_1 a1_2 l1_3 l1_4 a1_0 (⟨#[]⟩:ByteArray)))
end
def spec_Tree.T10:Bool×List (List Nat×List Nat):=(true,[([],[]),([0],[0]),([],[]),([],[]),([3],[3]),([],[]),([4,5],[4,5]),([6],[6]),([7],[7]),([],[]),([9],[9]),([],[]),([10,11],[10,11]),([12],[12]),([13],[13]),([2,8,14],[2,8,14]),([15],[15]),([16],[16]),([1,17,16],[1,17]),([0,1,2,3,4,5,6,7,8,9,10,11,12,13,14,15,16,17,18],[]),([19,18,18,0,1,2,3,4,5,6,7,8,9,10,11,12,13,14,15,16,17,18],[18,19])])
def spec_Tree.B10:List Nat:=[0,1,0,0,8,0,56,120,248,0,512,0,3584,7680,15872,32764,65532,131068,262143,524287,1048575]
theorem spec_Tree.tab10:rtab .any (opsOf Tryz.f52 10)=spec_Tree.T10:=Z1
theorem spec_Tree.bits10:waitsOk spec_Tree.T10.2 spec_Tree.B10=true:=Z1
def spec_Tree.T14:Bool×List (List Nat×List Nat):=(true,[([],[]),([0],[0]),([],[]),([],[]),([3],[3]),([],[]),([4,5],[4,5]),([6],[6]),([2,7],[2,7]),([8],[8]),([1,9,8],[1,9]),([0,1,2,3,4,5,6,7,8,9,10],[]),([11,10,10,0,1,2,3,4,5,6,7,8,9,10],[10,11])])
def spec_Tree.B14:List Nat:=[0,1,0,0,8,0,56,120,252,508,1023,2047,4095]
theorem spec_Tree.tab14:rtab .any (opsOf Tryz.f52 14)=spec_Tree.T14:=Z1
theorem spec_Tree.bits14:waitsOk spec_Tree.T14.2 spec_Tree.B14=true:=Z1
theorem spec_Tree.calls (k:Nat):∀ (a0:ByteArray) (a1_0:Int) (a1_1:Int) (a1_2:Int) (A1_3:Option Addr) (c1_3:Nat) (l1_3:List (S121)) (A1_4:Option Addr) (c1_4:Nat) (l1_4:List (S47)) (r1:Int) (r2:ByteArray) (r3:List ByteArray) (r4:List (S26)) (w:World) (hr1_3:Kd.C k121 w A1_3 l1_3.length l1_3) (hc1_3:l1_3.length≤c1_3) (hr1_4:Kd.C k47 w A1_4 l1_4.length l1_4) (hc1_4:l1_4.length≤c1_4) (h:spec_Tree.f k a0 a1_0 a1_1 a1_2 l1_3 l1_4=some (r1,r2,r3,r4)),
  Calls Tryz.prog 52 #[.string a0,.agg #[.int .i64 a1_0,.int .i64 a1_1,.int .i64 a1_2,.slice A1_3 l1_3.length c1_3,.slice A1_4 l1_4.length c1_4]] w fun e w'=>∃ v2_ v3_:Value,e = .returned (.agg #[.int .i64 r1,.string r2,v2_,v3_])∧Kd.R Kd.string 9 w' w.heap.size (fun _=>True) v2_ r3∧Kd.R k26 26 w' w.heap.size (fun k_=>some k_≠(v2_:Value).ownBlock) v3_ r4∧Below w.heap.size w w':=by
 induction k using Nat.strongRecOn with
 | _ k ih=>
 intro a0 a1_0 a1_1 a1_2 A1_3 c1_3 l1_3 A1_4 c1_4 l1_4 r1 r2 r3 r4 w hr1_3 hc1_3 hr1_4 hc1_4 h
 cases k with
 | zero=>exact absurd h (by simp [spec_Tree.f])
 | succ k=>
 simp only [spec_Tree.f] at h
 have hu47:=Tryz.underlying47
 have hu26:=Tryz.underlying26
 have HR1_3:=am hr1_3
 have HC1_3:=am hc1_3
 clear hr1_3 hc1_3
 have HR1_4:=am hr1_4
 have HC1_4:=am hc1_4
 clear hr1_4 hc1_4
 have HB:=am (Below.refl w.heap.size w)
 have H:(if a1_0=3 then (if 0≤a1_1 then (if a1_1≤a1_2 then (if a1_2≤(a0.size:Int) then (spec_Tree.j0 k a0 a1_0 a1_1 a1_2 l1_3 l1_4 a1_0 (a0.extract (a1_1:Int).toNat (a1_2:Int).toNat)) else (none)) else (none)) else (none)) else (if a1_0=4 then (if 0≤a1_1 then (if a1_1≤a1_2 then (if a1_2≤(a0.size:Int) then ((spec_Unquote.f k (a0.extract (a1_1:Int).toNat (a1_2:Int).toNat)).bind fun t343=>(spec_Tree.j0 k a0 a1_0 a1_1 a1_2 l1_3 l1_4 a1_0 t343)) else (none)) else (none)) else (none)) else (spec_Tree.j0 k a0 a1_0 a1_1 a1_2 l1_3 l1_4 a1_0 (⟨#[]⟩:ByteArray))))=some (r1,r2,r3,r4):=h
 clear h
 have HC3:=am H
 clear H
 go_enter Tryz.func52,Tryz.ntmps52
 go_upto_block 0 with (first | ((with_reducible refine gate_dst (N:=3) rfl ?_);refine box_event ?hg (N:=3) ?hd (cs:=#[.int .i64 a1_0,.int .i64 a1_1,.int .i64 a1_2,.slice A1_3 l1_3.length c1_3,.slice A1_4 l1_4.length c1_4]) (t:=47) ?hr ?_;(case hd=>exact Z9);(case hg=>exact Z9);(case hr=>exact Z17);intro gb340 hg w4 hbox hb;have n0_:=am (below_step Z11 hb);have n1_:=am (hbox);have n2_:=am ((Z75:w.heap.size≤gb340));have n3_:=am ((Z75:w.heap.size≤gb340));clear HB;have HB:=n0_;have BK340:=n1_;have GW340:=n2_;have GE340:=n3_;clear n0_ n1_ n2_ n3_;clear hb hbox hg) | ((with_reducible refine gate_dst (N:=4) rfl ?_);refine box_event ?hg (N:=4) ?hd (cs:=#[.int .i64 0,.string (⟨#[]⟩:ByteArray),.slice none 0 0,.slice none 0 0]) (t:=26) ?hr ?_;(case hd=>exact Z9);(case hg=>exact Z9);(case hr=>exact Z17);intro gb341 hg w5 hbox hb;have n0_:=am (blk_below (g:=gb340) (o:=.cells #[.int .i64 a1_0,.int .i64 a1_1,.int .i64 a1_2,.slice A1_3 l1_3.length c1_3,.slice A1_4 l1_4.length c1_4] 47 (0,0)) (pB BK340.out) hb);have n1_:=am (below_step Z46 hb);have n2_:=am (hbox);have n3_:=am ((by rw [hg];exact (below_size Z46):w.heap.size≤gb341));have n4_:=am ((by rw [hg];exact (below_size Z46):w.heap.size≤gb341));have n5_:=am ((Z64:gb340≠gb341));have n6_:=am ((Z65:gb341≠gb340));clear BK340;clear HB;have BK340:=n0_;have HB:=n1_;have BK341:=n2_;have GW341:=n3_;have GE341:=n4_;have NB340_341:=n5_;have NB341_340:=n6_;clear n0_ n1_ n2_ n3_ n4_ n5_ n6_;clear hb hbox hg;have hnb6:=NB340_341.out;have hnc6:=NB341_340.out;have hcz7_0:w5.cell? ⟨gb340,0,none⟩=some (.int .i64 a1_0):=(bkc BK340.out 0).trans rfl;have hcz7_1:w5.cell? ⟨gb340,1,none⟩=some (.int .i64 a1_1):=(bkc BK340.out 1).trans rfl;have hcz7_2:w5.cell? ⟨gb340,2,none⟩=some (.int .i64 a1_2):=(bkc BK340.out 2).trans rfl;have hcz7_3:w5.cell? ⟨gb340,3,none⟩=some (.slice A1_3 l1_3.length c1_3):=(bkc BK340.out 3).trans rfl;have hcz7_4:w5.cell? ⟨gb340,4,none⟩=some (.slice A1_4 l1_4.length c1_4):=(bkc BK340.out 4).trans rfl;have hfz7_0:=bkf BK340.out 0;have hfz7_1:=bkf BK340.out 1;have hfz7_2:=bkf BK340.out 2;have hfz7_3:=bkf BK340.out 3;have hfz7_4:=bkf BK340.out 4) | ((with_reducible refine gate_dst (N:=5) rfl ?_);refine box_event ?hg (N:=5) ?hd (cs:=#[.int .i64 0,.string (⟨#[]⟩:ByteArray),.slice none 0 0,.slice none 0 0]) (t:=26) ?hr ?_;(case hd=>exact Z9);(case hg=>exact Z9);(case hr=>exact Z17);intro gb342 hg w8 hbox hb;have n0_:=am (blk_below (g:=gb340) (o:=.cells #[.int .i64 a1_0,.int .i64 a1_1,.int .i64 a1_2,.slice A1_3 l1_3.length c1_3,.slice A1_4 l1_4.length c1_4] 47 (0,0)) (pB BK340.out) hb);have n1_:=am (blk_below (g:=gb341) (o:=.cells #[.int .i64 0,.string (⟨#[]⟩:ByteArray),.slice none 0 0,.slice none 0 0] 26 (0,0)) (pB BK341.out) hb);have n2_:=am (below_step Z47 hb);have n3_:=am (hbox);have n4_:=am ((by rw [hg];exact (below_size Z47):w.heap.size≤gb342));have n5_:=am ((by rw [hg];exact (below_size Z47):w.heap.size≤gb342));have n6_:=am ((Z64:gb340≠gb342));have n7_:=am ((Z65:gb342≠gb340));have n8_:=am ((by rw [hg];exact Nat.ne_of_lt (blk_lt (g:=gb341) (o:=.cells #[.int .i64 0,.string (⟨#[]⟩:ByteArray),.slice none 0 0,.slice none 0 0] 26 (0,0)) (pB BK341.out)):gb341≠gb342));have n9_:=am ((by rw [hg];exact Nat.ne_of_gt (blk_lt (g:=gb341) (o:=.cells #[.int .i64 0,.string (⟨#[]⟩:ByteArray),.slice none 0 0,.slice none 0 0] 26 (0,0)) (pB BK341.out)):gb342≠gb341));clear BK340;clear BK341;clear HB;have BK340:=n0_;have BK341:=n1_;have HB:=n2_;have BK342:=n3_;have GW342:=n4_;have GE342:=n5_;have NB340_342:=n6_;have NB342_340:=n7_;have NB341_342:=n8_;have NB342_341:=n9_;clear n0_ n1_ n2_ n3_ n4_ n5_ n6_ n7_ n8_ n9_;clear hb hbox hg;have hnb9:=NB342_340.out;have hnc9:=NB340_342.out;have hnb10:=NB342_341.out;have hnc10:=NB341_342.out;have hcz11_0:w8.cell? ⟨gb342,0,none⟩=some (.int .i64 0):=(bkc BK342.out 0).trans rfl;have hcz11_1:w8.cell? ⟨gb342,1,none⟩=some (.string (⟨#[]⟩:ByteArray)):=(bkc BK342.out 1).trans rfl;have hcz11_2:w8.cell? ⟨gb342,2,none⟩=some (.slice none 0 0):=(bkc BK342.out 2).trans rfl;have hcz11_3:w8.cell? ⟨gb342,3,none⟩=some (.slice none 0 0):=(bkc BK342.out 3).trans rfl;have hfz11_0:=bkf BK342.out 0;have hfz11_1:=bkf BK342.out 1;have hfz11_2:=bkf BK342.out 2;have hfz11_3:=bkf BK342.out 3;have hcz12_0:w8.cell? ⟨gb340,0,none⟩=some (.int .i64 a1_0):=(bkc BK340.out 0).trans rfl;have hcz12_1:w8.cell? ⟨gb340,1,none⟩=some (.int .i64 a1_1):=(bkc BK340.out 1).trans rfl;have hcz12_2:w8.cell? ⟨gb340,2,none⟩=some (.int .i64 a1_2):=(bkc BK340.out 2).trans rfl;have hcz12_3:w8.cell? ⟨gb340,3,none⟩=some (.slice A1_3 l1_3.length c1_3):=(bkc BK340.out 3).trans rfl;have hcz12_4:w8.cell? ⟨gb340,4,none⟩=some (.slice A1_4 l1_4.length c1_4):=(bkc BK340.out 4).trans rfl;have hfz12_0:=bkf BK340.out 0;have hfz12_1:=bkf BK340.out 1;have hfz12_2:=bkf BK340.out 2;have hfz12_3:=bkf BK340.out 3;have hfz12_4:=bkf BK340.out 4))
 (try simp only [Act.put,List.setIfInBounds_toArray,List.set_cons_zero,List.set_cons_succ])
 go_cut [] (fun wc=>∃ (kq:Nat) (x343001_2:ByteArray),Aside0 (spec_Tree.j0 kq a0 a1_0 a1_1 a1_2 l1_3 l1_4 a1_0 x343001_2=some (r1,r2,r3,r4))∧Aside0 (kq≤k)∧Aside0 (wc.heap[gb340]? = some (.cells #[.int .i64 a1_0,.int .i64 a1_1,.int .i64 a1_2,(.slice A1_3 l1_3.length c1_3),(.slice A1_4 l1_4.length c1_4)] 47 (0,0)))∧Aside0 (wc.heap[gb341]? = some (.cells #[.int .i64 0,.string (⟨#[]⟩:ByteArray),(.slice none 0 0),(.slice none 0 0)] 26 (0,0)))∧Aside0 (wc.heap[gb342]? = some (.cells #[.int .i64 a1_0,.string x343001_2,(.slice none 0 0),(.slice none 0 0)] 26 (0,0)))∧Aside0 (Below w.heap.size w wc))
 case first=>
  have H:=HC3.out
  clear HC3
  by_cases c13:a1_0=3
  rotate_left
  ·
   rw [if_neg c13] at H
   have c13b0:=bfe c13
   have c13b1:=bne_iff_ne.mpr c13
   (first | rw [c13b0] | (simp only [i64_w,i32_w];rw [c13b0]) | skip)
   by_cases c22:a1_0=4
   rotate_left
   ·
    rw [if_neg c22] at H
    have c22b0:=bfe c22
    have c22b1:=bne_iff_ne.mpr c22
    have H':=am H
    clear H
    go_wp2
    go_meet
    case rel=>exact ⟨_,((⟨#[]⟩:ByteArray)),H',⟨Z15⟩,⟨Z66⟩,⟨Z67⟩,⟨Z68⟩,⟨Z23⟩⟩
   rw [if_pos c22] at H
   have c22b0:=beq_iff_eq.mpr c22
   have c22b1:=bnf c22
   clear c22
   by_cases c23:0≤a1_1
   rotate_left
   ·
    rw [if_neg c23] at H
    exact absurd H Z6
   rw [if_pos c23] at H
   have c23b0:=eq_true c23
   have c23b1:=dt c23
   clear c23
   by_cases c24:a1_1≤a1_2
   rotate_left
   ·
    rw [if_neg c24] at H
    exact absurd H Z6
   rw [if_pos c24] at H
   have c24b0:=eq_true c24
   have c24b1:=dt c24
   clear c24
   by_cases c25:a1_2≤(a0.size:Int)
   rotate_left
   ·
    rw [if_neg c25] at H
    exact absurd H Z6
   rw [if_pos c25] at H
   have c25b0:=eq_true c25
   have c25b1:=dt c25
   clear c25
   replace H:=obs H
   obtain ⟨t343,A260,H⟩:=H
   have A26:=am A260
   clear A260
   have H':=am H
   clear H
   have hnb27:=NB340_341.out
   have hnc27:=NB341_340.out
   have hnb28:=NB340_342.out
   have hnc28:=NB342_340.out
   have hcz29_0:w8.cell? ⟨gb340,0,none⟩=some (.int .i64 a1_0):=(bkc BK340.out 0).trans rfl
   have hcz29_1:w8.cell? ⟨gb340,1,none⟩=some (.int .i64 a1_1):=(bkc BK340.out 1).trans rfl
   have hcz29_2:w8.cell? ⟨gb340,2,none⟩=some (.int .i64 a1_2):=(bkc BK340.out 2).trans rfl
   have hcz29_3:w8.cell? ⟨gb340,3,none⟩=some (.slice A1_3 l1_3.length c1_3):=(bkc BK340.out 3).trans rfl
   have hcz29_4:w8.cell? ⟨gb340,4,none⟩=some (.slice A1_4 l1_4.length c1_4):=(bkc BK340.out 4).trans rfl
   have hfz29_0:=bkf BK340.out 0
   have hfz29_1:=bkf BK340.out 1
   have hfz29_2:=bkf BK340.out 2
   have hfz29_3:=bkf BK340.out 3
   have hfz29_4:=bkf BK340.out 4
   go_wp2_with (first | ((with_reducible refine gate_callee (f:=81) rfl ?_);refine goesL_ (some 30) rfl rfl Tryz.func81 Z1 rfl #[.string (a0.extract (a1_1:Int).toNat (a1_2:Int).toNat)] rfl Z10 ?_;(with_reducible refine (spec_Unquote.calls k (a0.extract (a1_1:Int).toNat (a1_2:Int).toNat) t343 _ A26.out).mono ?_);rintro e w30 ⟨rfl,hb⟩;refine ⟨_,rfl,?_⟩;have n0_:=am (blk_below (g:=gb340) (o:=.cells #[.int .i64 a1_0,.int .i64 a1_1,.int .i64 a1_2,.slice A1_3 l1_3.length c1_3,.slice A1_4 l1_4.length c1_4] 47 (0,0)) Z66 hb);have n1_:=am (blk_below (g:=gb341) (o:=.cells #[.int .i64 0,.string (⟨#[]⟩:ByteArray),.slice none 0 0,.slice none 0 0] 26 (0,0)) Z67 hb);have n2_:=am (blk_below (g:=gb342) (o:=.cells #[.int .i64 a1_0,.string (⟨#[]⟩:ByteArray),.slice none 0 0,.slice none 0 0] 26 (0,0)) Z68 hb);have n3_:=am (below_step Z23 hb);clear BK340;clear BK341;clear BK342;clear HB;have BK340:=n0_;have BK341:=n1_;have BK342:=n2_;have HB:=n3_;clear n0_ n1_ n2_ n3_;(try clear hb);(try clear hb2);(try clear hk);(try clear hi);have hnb31:=NB342_341.out;have hnc31:=NB341_342.out;have hcz32_0:w30.cell? ⟨gb342,0,none⟩=some (.int .i64 a1_0):=(bkc BK342.out 0).trans rfl;have hcz32_1:w30.cell? ⟨gb342,1,none⟩=some (.string (⟨#[]⟩:ByteArray)):=(bkc BK342.out 1).trans rfl;have hcz32_2:w30.cell? ⟨gb342,2,none⟩=some (.slice none 0 0):=(bkc BK342.out 2).trans rfl;have hcz32_3:w30.cell? ⟨gb342,3,none⟩=some (.slice none 0 0):=(bkc BK342.out 3).trans rfl;have hfz32_0:=bkf BK342.out 0;have hfz32_1:=bkf BK342.out 1;have hfz32_2:=bkf BK342.out 2;have hfz32_3:=bkf BK342.out 3))
   go_meet
   case rel=>exact ⟨_,(t343),H',⟨Z15⟩,⟨Z48⟩,⟨Z49⟩,⟨by (with_reducible repeat (first | refine bkn ?_ _ | refine bkd ?_ | refine bka ?_ _));refine blk_put (cs:=#[.int .i64 a1_0,.string (⟨#[]⟩:ByteArray),.slice none 0 0,.slice none 0 0]) ?_ 1 _ rfl;(with_reducible repeat (first | refine bkn ?_ _ | refine bkd ?_ | refine bka ?_ _));exact BK342.out⟩,⟨Z23⟩⟩
  rw [if_pos c13] at H
  have c13b0:=beq_iff_eq.mpr c13
  have c13b1:=bnf c13
  clear c13
  (first | rw [c13b0] | (simp only [i64_w,i32_w];rw [c13b0]) | skip)
  by_cases c14:0≤a1_1
  rotate_left
  ·
   rw [if_neg c14] at H
   exact absurd H Z6
  rw [if_pos c14] at H
  have c14b0:=eq_true c14
  have c14b1:=dt c14
  clear c14
  by_cases c15:a1_1≤a1_2
  rotate_left
  ·
   rw [if_neg c15] at H
   exact absurd H Z6
  rw [if_pos c15] at H
  have c15b0:=eq_true c15
  have c15b1:=dt c15
  clear c15
  by_cases c16:a1_2≤(a0.size:Int)
  rotate_left
  ·
   rw [if_neg c16] at H
   exact absurd H Z6
  rw [if_pos c16] at H
  have c16b0:=eq_true c16
  have c16b1:=dt c16
  clear c16
  have H':=am H
  clear H
  have hnb17:=NB340_341.out
  have hnc17:=NB341_340.out
  have hnb18:=NB340_342.out
  have hnc18:=NB342_340.out
  have hcz19_0:w8.cell? ⟨gb340,0,none⟩=some (.int .i64 a1_0):=(bkc BK340.out 0).trans rfl
  have hcz19_1:w8.cell? ⟨gb340,1,none⟩=some (.int .i64 a1_1):=(bkc BK340.out 1).trans rfl
  have hcz19_2:w8.cell? ⟨gb340,2,none⟩=some (.int .i64 a1_2):=(bkc BK340.out 2).trans rfl
  have hcz19_3:w8.cell? ⟨gb340,3,none⟩=some (.slice A1_3 l1_3.length c1_3):=(bkc BK340.out 3).trans rfl
  have hcz19_4:w8.cell? ⟨gb340,4,none⟩=some (.slice A1_4 l1_4.length c1_4):=(bkc BK340.out 4).trans rfl
  have hfz19_0:=bkf BK340.out 0
  have hfz19_1:=bkf BK340.out 1
  have hfz19_2:=bkf BK340.out 2
  have hfz19_3:=bkf BK340.out 3
  have hfz19_4:=bkf BK340.out 4
  have hnb20:=NB342_341.out
  have hnc20:=NB341_342.out
  have hcz21_0:w8.cell? ⟨gb342,0,none⟩=some (.int .i64 0):=(bkc BK342.out 0).trans rfl
  have hcz21_1:w8.cell? ⟨gb342,1,none⟩=some (.string (⟨#[]⟩:ByteArray)):=(bkc BK342.out 1).trans rfl
  have hcz21_2:w8.cell? ⟨gb342,2,none⟩=some (.slice none 0 0):=(bkc BK342.out 2).trans rfl
  have hcz21_3:w8.cell? ⟨gb342,3,none⟩=some (.slice none 0 0):=(bkc BK342.out 3).trans rfl
  have hfz21_0:=bkf BK342.out 0
  have hfz21_1:=bkf BK342.out 1
  have hfz21_2:=bkf BK342.out 2
  have hfz21_3:=bkf BK342.out 3
  go_wp2
  go_meet
  case rel=>exact ⟨_,(a0.extract (a1_1:Int).toNat (a1_2:Int).toNat),H',⟨Z15⟩,⟨by (with_reducible repeat (first | refine bkn ?_ _ | refine bkd ?_ | refine bka ?_ _));refine blk_far ?_ NB340_342.out _;(with_reducible repeat (first | refine bkn ?_ _ | refine bkd ?_ | refine bka ?_ _));refine blk_far ?_ NB340_342.out _;(with_reducible repeat (first | refine bkn ?_ _ | refine bkd ?_ | refine bka ?_ _));refine blk_far ?_ NB340_342.out _;(with_reducible repeat (first | refine bkn ?_ _ | refine bkd ?_ | refine bka ?_ _));refine blk_far ?_ NB340_342.out _;(with_reducible repeat (first | refine bkn ?_ _ | refine bkd ?_ | refine bka ?_ _));refine blk_far ?_ NB340_342.out _;(with_reducible repeat (first | refine bkn ?_ _ | refine bkd ?_ | refine bka ?_ _));exact BK340.out⟩,⟨by (with_reducible repeat (first | refine bkn ?_ _ | refine bkd ?_ | refine bka ?_ _));refine blk_far ?_ NB341_342.out _;(with_reducible repeat (first | refine bkn ?_ _ | refine bkd ?_ | refine bka ?_ _));refine blk_far ?_ NB341_342.out _;(with_reducible repeat (first | refine bkn ?_ _ | refine bkd ?_ | refine bka ?_ _));refine blk_far ?_ NB341_342.out _;(with_reducible repeat (first | refine bkn ?_ _ | refine bkd ?_ | refine bka ?_ _));refine blk_far ?_ NB341_342.out _;(with_reducible repeat (first | refine bkn ?_ _ | refine bkd ?_ | refine bka ?_ _));refine blk_far ?_ NB341_342.out _;(with_reducible repeat (first | refine bkn ?_ _ | refine bkd ?_ | refine bka ?_ _));exact BK341.out⟩,⟨by (with_reducible repeat (first | refine bkn ?_ _ | refine bkd ?_ | refine bka ?_ _));refine blk_put (cs:=#[.int .i64 a1_0,.string (⟨#[]⟩:ByteArray),.slice none 0 0,.slice none 0 0]) ?_ 1 _ rfl;(with_reducible repeat (first | refine bkn ?_ _ | refine bkd ?_ | refine bka ?_ _));refine blk_put (cs:=#[.int .i64 a1_0,.string (⟨#[]⟩:ByteArray),.slice none 0 0,.slice none 0 0]) ?_ 3 _ rfl;(with_reducible repeat (first | refine bkn ?_ _ | refine bkd ?_ | refine bka ?_ _));refine blk_put (cs:=#[.int .i64 a1_0,.string (⟨#[]⟩:ByteArray),.slice none 0 0,.slice none 0 0]) ?_ 2 _ rfl;(with_reducible repeat (first | refine bkn ?_ _ | refine bkd ?_ | refine bka ?_ _));refine blk_put (cs:=#[.int .i64 a1_0,.string (⟨#[]⟩:ByteArray),.slice none 0 0,.slice none 0 0]) ?_ 1 _ rfl;(with_reducible repeat (first | refine bkn ?_ _ | refine bkd ?_ | refine bka ?_ _));refine blk_put (cs:=#[.int .i64 0,.string (⟨#[]⟩:ByteArray),.slice none 0 0,.slice none 0 0]) ?_ 0 _ rfl;(with_reducible repeat (first | refine bkn ?_ _ | refine bkd ?_ | refine bka ?_ _));exact BK342.out⟩,⟨Z23⟩⟩
 clear HC3;try clear c1;try clear c2;try clear p2;try clear c3;try clear c5;try clear c6;try clear c8;try clear c9;try clear c10;try clear c13;try clear c13b0;try clear c13b1;try clear c14;try clear c14b0;try clear c14b1;try clear c15;try clear c15b0;try clear c15b1;try clear c16;try clear c16b0;try clear c16b1;try clear c17;try clear c18;try clear c20;try clear c22;try clear c22b0;try clear c22b1;try clear c23;try clear c23b0;try clear c23b1;try clear c24;try clear c24b0;try clear c24b1;try clear c25;try clear c25b0;try clear c25b1;try clear c27;try clear c28;try clear c31;try clear hcz11_0;try clear hcz11_1;try clear hcz11_2;try clear hcz11_3;try clear hcz12_0;try clear hcz12_1;try clear hcz12_2;try clear hcz12_3;try clear hcz12_4;try clear hcz19_0;try clear hcz19_1;try clear hcz19_2;try clear hcz19_3;try clear hcz19_4;try clear hcz21_0;try clear hcz21_1;try clear hcz21_2;try clear hcz21_3;try clear hcz29_0;try clear hcz29_1;try clear hcz29_2;try clear hcz29_3;try clear hcz29_4;try clear hcz32_0;try clear hcz32_1;try clear hcz32_2;try clear hcz32_3;try clear hcz7_0;try clear hcz7_1;try clear hcz7_2;try clear hcz7_3;try clear hcz7_4;try clear hfz11_0;try clear hfz11_1;try clear hfz11_2;try clear hfz11_3;try clear hfz12_0;try clear hfz12_1;try clear hfz12_2;try clear hfz12_3;try clear hfz12_4;try clear hfz19_0;try clear hfz19_1;try clear hfz19_2;try clear hfz19_3;try clear hfz19_4;try clear hfz21_0;try clear hfz21_1;try clear hfz21_2;try clear hfz21_3;try clear hfz29_0;try clear hfz29_1;try clear hfz29_2;try clear hfz29_3;try clear hfz29_4;try clear hfz32_0;try clear hfz32_1;try clear hfz32_2;try clear hfz32_3;try clear hfz7_0;try clear hfz7_1;try clear hfz7_2;try clear hfz7_3;try clear hfz7_4
 obtain ⟨kq,x343001_2,HA,HJ2,BK340,BK341,BK342,HB⟩:=hcut
 cases kq with
 | zero=>exact absurd HA.out (by simp [spec_Tree.j0])
 | succ kj2=>
 have H:=HA.out
 clear HA
 simp only [spec_Tree.j0] at H
 have H':=am H
 clear H
 go_wp2
 (try simp only [Act.put,List.setIfInBounds_toArray,List.set_cons_succ,List.set_cons_zero])
 go_loopg [6] kj2 (fun kq v6 w'=>∃ (x6_2:Int) (x343002_2:List ByteArray) (u343002:Value),v6 = .int .i64 x6_2∧Aside0 (spec_Tree.l0 kq a0 x6_2 a1_0 a1_1 a1_2 l1_3 l1_4 a1_0 x343001_2 x343002_2=some (r1,r2,r3,r4))∧Aside0 (kq≤kj2)∧Aside0 (Kd.R Kd.string 9 w' w.heap.size (fun _=>True) u343002 x343002_2)∧Aside0 (w'.heap[gb340]? = some (.cells #[.int .i64 a1_0,.int .i64 a1_1,.int .i64 a1_2,(.slice A1_3 l1_3.length c1_3),(.slice A1_4 l1_4.length c1_4)] 47 (0,0)))∧Aside0 (w'.heap[gb341]? = some (.cells #[.int .i64 0,.string (⟨#[]⟩:ByteArray),(.slice none 0 0),(.slice none 0 0)] 26 (0,0)))∧Aside0 (w'.heap[gb342]? = some (.cells #[.int .i64 a1_0,.string x343001_2,u343002,(.slice none 0 0)] 26 (0,0)))∧Aside0 (Below w.heap.size w w'))
 case atStart=>exact ⟨(0),(([]:List ByteArray)),(.slice none 0 0),Z0,H',⟨Nat.le_refl _⟩,⟨Z13⟩,⟨pB BK340.out⟩,⟨pB BK341.out⟩,⟨pB BK342.out⟩,⟨Z23⟩⟩
 clear H'
 try clear c1;try clear c2;try clear p2;try clear c3;try clear c5;try clear c6;try clear c8;try clear c9;try clear c10;try clear c13;try clear c13b0;try clear c13b1;try clear c14;try clear c14b0;try clear c14b1;try clear c15;try clear c15b0;try clear c15b1;try clear c16;try clear c16b0;try clear c16b1;try clear c17;try clear c18;try clear c20;try clear c22;try clear c22b0;try clear c22b1;try clear c23;try clear c23b0;try clear c23b1;try clear c24;try clear c24b0;try clear c24b1;try clear c25;try clear c25b0;try clear c25b1;try clear c27;try clear c28;try clear c31;try clear hcz11_0;try clear hcz11_1;try clear hcz11_2;try clear hcz11_3;try clear hcz12_0;try clear hcz12_1;try clear hcz12_2;try clear hcz12_3;try clear hcz12_4;try clear hcz19_0;try clear hcz19_1;try clear hcz19_2;try clear hcz19_3;try clear hcz19_4;try clear hcz21_0;try clear hcz21_1;try clear hcz21_2;try clear hcz21_3;try clear hcz29_0;try clear hcz29_1;try clear hcz29_2;try clear hcz29_3;try clear hcz29_4;try clear hcz32_0;try clear hcz32_1;try clear hcz32_2;try clear hcz32_3;try clear hcz7_0;try clear hcz7_1;try clear hcz7_2;try clear hcz7_3;try clear hcz7_4;try clear hfz11_0;try clear hfz11_1;try clear hfz11_2;try clear hfz11_3;try clear hfz12_0;try clear hfz12_1;try clear hfz12_2;try clear hfz12_3;try clear hfz12_4;try clear hfz19_0;try clear hfz19_1;try clear hfz19_2;try clear hfz19_3;try clear hfz19_4;try clear hfz21_0;try clear hfz21_1;try clear hfz21_2;try clear hfz21_3;try clear hfz29_0;try clear hfz29_1;try clear hfz29_2;try clear hfz29_3;try clear hfz29_4;try clear hfz32_0;try clear hfz32_1;try clear hfz32_2;try clear hfz32_3;try clear hfz7_0;try clear hfz7_1;try clear hfz7_2;try clear hfz7_3;try clear hfz7_4;try clear p2
 obtain ⟨x6_2,x343002_2,u343002,rfl,HA,HK2,HO_343002,BK340,BK341,BK342,HB⟩:=hrel
 cases gk with
 | zero=>exact absurd HA.out (by simp [spec_Tree.l0])
 | succ k2=>
 have H:=HA.out
 clear HA
 simp only [spec_Tree.l0] at H
 by_cases c33:x6_2<(l1_3.length:Int)
 ·
  rw [if_pos c33] at H
  have c33b0:=dt c33
  clear c33
  by_cases c34:0≤x6_2
  rotate_left
  ·
   rw [if_neg c34] at H
   exact absurd H Z6
  rw [if_pos c34] at H
  have c34b0:=dt c34
  clear c34
  by_cases c35:0≤((rd_T121 l1_3 x6_2).f0)
  rotate_left
  ·
   rw [if_neg c35] at H
   exact absurd H Z6
  rw [if_pos c35] at H
  have c35b0:=eq_true c35
  have c35b1:=dt c35
  clear c35
  by_cases c36:((rd_T121 l1_3 x6_2).f0)≤((rd_T121 l1_3 x6_2).f1)
  rotate_left
  ·
   rw [if_neg c36] at H
   exact absurd H Z6
  rw [if_pos c36] at H
  have c36b0:=eq_true c36
  have c36b1:=dt c36
  clear c36
  by_cases c37:((rd_T121 l1_3 x6_2).f1)≤(a0.size:Int)
  rotate_left
  ·
   rw [if_neg c37] at H
   exact absurd H Z6
  rw [if_pos c37] at H
  have c37b0:=eq_true c37
  have c37b1:=dt c37
  clear c37
  replace H:=obs H
  obtain ⟨t346,A380,H⟩:=H
  have A38:=am A380
  clear A380
  by_cases c39:x343002_2.length<8796093022208
  rotate_left
  ·
   rw [if_neg c39] at H
   exact absurd H Z6
  rw [if_pos c39] at H
  have LMc39:=am c39
  clear c39
  obtain ⟨y347,hy347⟩:∃ y_:List ByteArray,y_=(x343002_2 ++ [t346]):=⟨_,rfl⟩
  first | replace H:=bind_y hy347 H | rw [← hy347] at H
  have Ny347:=am hy347
  clear hy347
  have H':=am H
  clear H
  have hnb40:=NB340_341.out
  have hnc40:=NB341_340.out
  have hnb41:=NB340_342.out
  have hnc41:=NB342_340.out
  have hcz42_0:wr.cell? ⟨gb340,0,none⟩=some (.int .i64 a1_0):=(bkc BK340.out 0).trans rfl
  have hcz42_1:wr.cell? ⟨gb340,1,none⟩=some (.int .i64 a1_1):=(bkc BK340.out 1).trans rfl
  have hcz42_2:wr.cell? ⟨gb340,2,none⟩=some (.int .i64 a1_2):=(bkc BK340.out 2).trans rfl
  have hcz42_3:wr.cell? ⟨gb340,3,none⟩=some (.slice A1_3 l1_3.length c1_3):=(bkc BK340.out 3).trans rfl
  have hcz42_4:wr.cell? ⟨gb340,4,none⟩=some (.slice A1_4 l1_4.length c1_4):=(bkc BK340.out 4).trans rfl
  have hfz42_0:=bkf BK340.out 0
  have hfz42_1:=bkf BK340.out 1
  have hfz42_2:=bkf BK340.out 2
  have hfz42_3:=bkf BK340.out 3
  have hfz42_4:=bkf BK340.out 4
  try go_wp2
  have n0_:=am (Kd.R_drew HO_343002.out)
  have n1_:=am (bkd BK340.out)
  have n2_:=am (bkd BK341.out)
  have n3_:=am (bkd BK342.out)
  have n4_:=am (below_drew1 HB.out)
  clear HO_343002;clear BK340;clear BK341;clear BK342;clear HB
  have HO_343002:=n0_
  have BK340:=n1_
  have BK341:=n2_
  have BK342:=n3_
  have HB:=n4_
  clear n0_ n1_ n2_ n3_ n4_
  have p344:0≤(x6_2:Int):=od Z8
  have q344:x6_2<(l1_3.length:Int):=od Z8
  obtain ⟨ad344,e344,hx344_0,hx344_1⟩:=at_T121 HR1_3.out x6_2 p344 q344
  have hw344_1:=hx344_1
  have hw344_0:=hx344_0
  cases e344
  replace hx344_0:=(HB.out.cell (blc w _ hx344_0)).trans hx344_0
  replace hx344_1:=(HB.out.cell (blc w _ hx344_1)).trans hx344_1
  replace p344:=eq_true p344
  replace q344:=eq_true q344
  have p345:0≤(x6_2:Int):=od Z8
  have q345:x6_2<(l1_3.length:Int):=od Z8
  obtain ⟨ad345,e345,hx345_0,hx345_1⟩:=at_T121 HR1_3.out x6_2 p345 q345
  have hw345_1:=hx345_1
  have hw345_0:=hx345_0
  obtain rfl:ad344=ad345:=(by injection e345)
  replace hx345_0:=(HB.out.cell (blc w _ hx345_0)).trans hx345_0
  replace hx345_1:=(HB.out.cell (blc w _ hx345_1)).trans hx345_1
  replace p345:=eq_true p345
  replace q345:=eq_true q345
  refine start_ (n:=21) (S:=fun w'=>w'.cell? ⟨gb342,0,none⟩=some (.int .i64 a1_0)∧w'.cell? ⟨gb342,1,none⟩=some (.string x343001_2)∧w'.cell? ⟨gb342,2,none⟩=some (u343002)∧w'.cell? ⟨gb342,3,none⟩=some (.slice none 0 0)∧w'.cell? ⟨gb340,0,none⟩=some (.int .i64 a1_0)∧w'.cell? ⟨gb340,1,none⟩=some (.int .i64 a1_1)∧w'.cell? ⟨gb340,2,none⟩=some (.int .i64 a1_2)∧w'.cell? ⟨gb340,3,none⟩=some (.slice (some ad344) l1_3.length c1_3)∧w'.cell? ⟨gb340,4,none⟩=some (.slice A1_4 l1_4.length c1_4)∧w'.cell? (ad344.add ((x6_2).toNat * 2))=some (.int .i64 ((rd_T121 l1_3 x6_2).f0))∧w'.cell? ⟨(ad344.add ((x6_2).toNat * 2)).block,(ad344.add ((x6_2).toNat * 2)).off+1,none⟩=some (.int .i64 ((rd_T121 l1_3 x6_2).f1))∧w'.cell? (ad344.add ((x6_2).toNat * 2))=some (.int .i64 ((rd_T121 l1_3 x6_2).f0))∧w'.cell? ⟨(ad344.add ((x6_2).toNat * 2)).block,(ad344.add ((x6_2).toNat * 2)).off+1,none⟩=some (.int .i64 ((rd_T121 l1_3 x6_2).f1))) (ds:=[20]) #[false,false,false,false,false,false,false,false,false,false,false,false,false,false,false,false,false,false,false,false,false] Z1 rfl rfl ⟨(bkc BK342.out 0).trans rfl,(bkc BK342.out 1).trans rfl,(bkc BK342.out 2).trans rfl,(bkc BK342.out 3).trans rfl,(bkc BK340.out 0).trans rfl,(bkc BK340.out 1).trans rfl,(bkc BK340.out 2).trans rfl,(bkc BK340.out 3).trans rfl,(bkc BK340.out 4).trans rfl,((HB.out.cell (blc w _ hw344_0)).trans hw344_0),((HB.out.cell (blc w _ hw344_1)).trans hw344_1),((HB.out.cell (blc w _ hw345_0)).trans hw345_0),((HB.out.cell (blc w _ hw345_1)).trans hw345_1)⟩ (fun hHeld=>?_);refine with_tabW spec_Tree.tab10 spec_Tree.bits10 (fun HT_ HW_=>?_)
  generalize wr.drew=w43 at HO_343002 BK340 BK341 BK342 HB hx344_0 hx344_1 hx345_0 hx345_1 hHeld ⊢
  refine pure_ (i:=0) (N:=some 39) (v:=?_) (a':=?_) #[true,false,false,false,false,false,false,false,false,false,false,false,false,false,false,false,false,false,false,false,false] rfl rfl (any_of HT_.out Z1) (fun _ _ _ h=>h) (Or.inl ⟨Z9,?_⟩) ?_ ?_
  rotate_left
  ·
   intro w'
   go_simp
   with_reducible rfl
  rotate_left
  ·
   simp only [Act.put,List.setIfInBounds_toArray,List.set_cons_zero,List.set_cons_succ,i64_w,i32_w]
   rfl
  refine pure_ (i:=2) (N:=some 41) (v:=?_) (a':=?_) #[true,false,true,false,false,false,false,false,false,false,false,false,false,false,false,false,false,false,false,false,false] rfl rfl (any_of HT_.out Z1) (fun _ _ _ h=>h) (Or.inl ⟨Z9,?_⟩) ?_ ?_
  rotate_left
  ·
   intro w'
   go_simp
   with_reducible rfl
  rotate_left
  ·
   simp only [Act.put,List.setIfInBounds_toArray,List.set_cons_zero,List.set_cons_succ,i64_w,i32_w]
   rfl
  refine pure_ (i:=3) (N:=some 42) (v:=?_) (a':=?_) #[true,false,true,true,false,false,false,false,false,false,false,false,false,false,false,false,false,false,false,false,false] rfl rfl (any_of HT_.out Z1) (fun _ _ _ h=>h) (Or.inl ⟨Z9,?_⟩) ?_ ?_
  rotate_left
  ·
   intro w'
   go_simp
   with_reducible rfl
  rotate_left
  ·
   simp only [Act.put,List.setIfInBounds_toArray,List.set_cons_zero,List.set_cons_succ,i64_w,i32_w]
   rfl
  refine pure_ (i:=5) (N:=some 44) (v:=?_) (a':=?_) #[true,false,true,true,false,true,false,false,false,false,false,false,false,false,false,false,false,false,false,false,false] rfl rfl (any_of HT_.out Z1) (fun _ _ _ h=>h) (Or.inl ⟨Z9,?_⟩) ?_ ?_
  rotate_left
  ·
   intro w'
   go_simp
   with_reducible rfl
  rotate_left
  ·
   simp only [Act.put,List.setIfInBounds_toArray,List.set_cons_zero,List.set_cons_succ,i64_w,i32_w]
   rfl
  refine pure_ (i:=9) (N:=some 48) (v:=?_) (a':=?_) #[true,false,true,true,false,true,false,false,false,true,false,false,false,false,false,false,false,false,false,false,false] rfl rfl (any_of HT_.out Z1) (fun _ _ _ h=>h) (Or.inl ⟨Z9,?_⟩) ?_ ?_
  rotate_left
  ·
   intro w'
   go_simp
   with_reducible rfl
  rotate_left
  ·
   simp only [Act.put,List.setIfInBounds_toArray,List.set_cons_zero,List.set_cons_succ,i64_w,i32_w]
   rfl
  refine pure_ (i:=11) (N:=some 50) (v:=?_) (a':=?_) #[true,false,true,true,false,true,false,false,false,true,false,true,false,false,false,false,false,false,false,false,false] rfl rfl (any_of HT_.out Z1) (fun _ _ _ h=>h) (Or.inl ⟨Z9,?_⟩) ?_ ?_
  rotate_left
  ·
   intro w'
   go_simp
   with_reducible rfl
  rotate_left
  ·
   simp only [Act.put,List.setIfInBounds_toArray,List.set_cons_zero,List.set_cons_succ,i64_w,i32_w]
   rfl
  refine take_ (i:=1) (N:=some 40) (v:=?_) (a':=?_) #[true,true,true,true,false,true,false,false,false,true,false,true,false,false,false,false,false,false,false,false,false] rfl rfl (take_ofW HT_.out HW_.out Z1) (fun _ _ _ h=>h) (Or.inl ⟨Z9,?_⟩) hHeld ?_ ?_
  rotate_left
  ·
   rintro w' ⟨s0,s1,s2,s3,s4,s5,s6,s7,s8,s9,s10,s11,s12⟩
   go_simp
   with_reducible rfl
  rotate_left
  ·
   simp only [Act.put,List.setIfInBounds_toArray,List.set_cons_zero,List.set_cons_succ,i64_w,i32_w]
   rfl
  refine take_ (i:=4) (N:=some 43) (v:=?_) (a':=?_) #[true,true,true,true,true,true,false,false,false,true,false,true,false,false,false,false,false,false,false,false,false] rfl rfl (take_ofW HT_.out HW_.out Z1) (fun _ _ _ h=>h) (Or.inl ⟨Z9,?_⟩) hHeld ?_ ?_
  rotate_left
  ·
   rintro w' ⟨s0,s1,s2,s3,s4,s5,s6,s7,s8,s9,s10,s11,s12⟩
   go_simp
   with_reducible rfl
  rotate_left
  ·
   simp only [Act.put,List.setIfInBounds_toArray,List.set_cons_zero,List.set_cons_succ,i64_w,i32_w]
   rfl
  refine pure_ (i:=6) (N:=some 45) (v:=?_) (a':=?_) #[true,true,true,true,true,true,true,false,false,true,false,true,false,false,false,false,false,false,false,false,false] rfl rfl (any_of HT_.out Z1) (fun _ _ _ h=>h) (Or.inl ⟨Z9,?_⟩) ?_ ?_
  rotate_left
  ·
   intro w'
   go_simp
   with_reducible rfl
  rotate_left
  ·
   simp only [Act.put,List.setIfInBounds_toArray,List.set_cons_zero,List.set_cons_succ,i64_w,i32_w]
   rfl
  refine pure_ (i:=7) (N:=some 46) (v:=?_) (a':=?_) #[true,true,true,true,true,true,true,true,false,true,false,true,false,false,false,false,false,false,false,false,false] rfl rfl (any_of HT_.out Z1) (fun _ _ _ h=>h) (Or.inl ⟨Z9,?_⟩) ?_ ?_
  rotate_left
  ·
   intro w'
   go_simp
   with_reducible rfl
  rotate_left
  ·
   simp only [Act.put,List.setIfInBounds_toArray,List.set_cons_zero,List.set_cons_succ,i64_w,i32_w]
   rfl
  refine take_ (i:=8) (N:=some 47) (v:=?_) (a':=?_) #[true,true,true,true,true,true,true,true,true,true,false,true,false,false,false,false,false,false,false,false,false] rfl rfl (take_ofW HT_.out HW_.out Z1) (fun _ _ _ h=>h) (Or.inl ⟨Z9,?_⟩) hHeld ?_ ?_
  rotate_left
  ·
   rintro w' ⟨s0,s1,s2,s3,s4,s5,s6,s7,s8,s9,s10,s11,s12⟩
   go_simp
   with_reducible rfl
  rotate_left
  ·
   simp only [Act.put,List.setIfInBounds_toArray,List.set_cons_zero,List.set_cons_succ,i64_w,i32_w]
   rfl
  refine take_ (i:=10) (N:=some 49) (v:=?_) (a':=?_) #[true,true,true,true,true,true,true,true,true,true,true,true,false,false,false,false,false,false,false,false,false] rfl rfl (take_ofW HT_.out HW_.out Z1) (fun _ _ _ h=>h) (Or.inl ⟨Z9,?_⟩) hHeld ?_ ?_
  rotate_left
  ·
   rintro w' ⟨s0,s1,s2,s3,s4,s5,s6,s7,s8,s9,s10,s11,s12⟩
   go_simp
   with_reducible rfl
  rotate_left
  ·
   simp only [Act.put,List.setIfInBounds_toArray,List.set_cons_zero,List.set_cons_succ,i64_w,i32_w]
   rfl
  refine pure_ (i:=12) (N:=some 51) (v:=?_) (a':=?_) #[true,true,true,true,true,true,true,true,true,true,true,true,true,false,false,false,false,false,false,false,false] rfl rfl (any_of HT_.out Z1) (fun _ _ _ h=>h) (Or.inl ⟨Z9,?_⟩) ?_ ?_
  rotate_left
  ·
   intro w'
   go_simp
   with_reducible rfl
  rotate_left
  ·
   simp only [Act.put,List.setIfInBounds_toArray,List.set_cons_zero,List.set_cons_succ,i64_w,i32_w]
   rfl
  refine pure_ (i:=13) (N:=some 52) (v:=?_) (a':=?_) #[true,true,true,true,true,true,true,true,true,true,true,true,true,true,false,false,false,false,false,false,false] rfl rfl (any_of HT_.out Z1) (fun _ _ _ h=>h) (Or.inl ⟨Z9,?_⟩) ?_ ?_
  rotate_left
  ·
   intro w'
   go_simp
   with_reducible rfl
  rotate_left
  ·
   simp only [Act.put,List.setIfInBounds_toArray,List.set_cons_zero,List.set_cons_succ,i64_w,i32_w]
   rfl
  refine take_ (i:=14) (N:=some 53) (v:=?_) (a':=?_) #[true,true,true,true,true,true,true,true,true,true,true,true,true,true,true,false,false,false,false,false,false] rfl rfl (take_ofW HT_.out HW_.out Z1) (fun _ _ _ h=>h) (Or.inl ⟨Z9,?_⟩) hHeld ?_ ?_
  rotate_left
  ·
   rintro w' ⟨s0,s1,s2,s3,s4,s5,s6,s7,s8,s9,s10,s11,s12⟩
   go_simp
   with_reducible rfl
  rotate_left
  ·
   simp only [Act.put,List.setIfInBounds_toArray,List.set_cons_zero,List.set_cons_succ,i64_w,i32_w]
   rfl
  refine pure_ (i:=15) (N:=some 54) (v:=?_) (a':=?_) #[true,true,true,true,true,true,true,true,true,true,true,true,true,true,true,true,false,false,false,false,false] rfl rfl (any_of HT_.out Z1) (fun _ _ _ h=>h) (Or.inl ⟨Z9,?_⟩) ?_ ?_
  rotate_left
  ·
   intro w'
   go_simp
   with_reducible rfl
  rotate_left
  ·
   simp only [Act.put,List.setIfInBounds_toArray,List.set_cons_zero,List.set_cons_succ,i64_w,i32_w]
   rfl
  refine one_ (i:=16) (N:=some 55) #[true,true,true,true,true,true,true,true,true,true,true,true,true,true,true,true,true,false,false,false,false] rfl rfl (one_of HT_.out Z1) Z2 (fun K hK=>?_)
  refine goes_ Tryz.func81 Z1 rfl #[.string (a0.extract (((rd_T121 l1_3 x6_2).f0):Int).toNat (((rd_T121 l1_3 x6_2).f1):Int).toNat)] Z9 rfl rfl Z10 ?_
  with_reducible refine (spec_Unquote.calls k2 (a0.extract (((rd_T121 l1_3 x6_2).f0):Int).toNat (((rd_T121 l1_3 x6_2).f1):Int).toNat) t346 _ A38.out).mono ?_
  rintro e w44 ⟨rfl,hb⟩
  refine ⟨_,rfl,?_⟩
  have n0_:=am (Kd.R_below (pR HO_343002.out) hb)
  have n1_:=am (blk_below (g:=gb340) (o:=.cells #[.int .i64 a1_0,.int .i64 a1_1,.int .i64 a1_2,.slice (some ad344) l1_3.length c1_3,.slice A1_4 l1_4.length c1_4] 47 (0,0)) (pB BK340.out) hb)
  have n2_:=am (blk_below (g:=gb341) (o:=.cells #[.int .i64 0,.string (⟨#[]⟩:ByteArray),.slice none 0 0,.slice none 0 0] 26 (0,0)) (pB BK341.out) hb)
  have n3_:=am (blk_below (g:=gb342) (o:=.cells #[.int .i64 a1_0,.string x343001_2,u343002,.slice none 0 0] 26 (0,0)) (pB BK342.out) hb)
  have n4_:=am (below_step Z23 hb)
  clear HO_343002;clear BK340;clear BK341;clear BK342;clear HB
  have HO_343002:=n0_
  have BK340:=n1_
  have BK341:=n2_
  have BK342:=n3_
  have HB:=n4_
  clear n0_ n1_ n2_ n3_ n4_
  (try clear hb)
  (try clear hb2)
  (try clear hk)
  (try clear hi)
  refine hK.out _ _ ⟨(bkc BK342.out 0).trans rfl,(bkc BK342.out 1).trans rfl,(bkc BK342.out 2).trans rfl,(bkc BK342.out 3).trans rfl,(bkc BK340.out 0).trans rfl,(bkc BK340.out 1).trans rfl,(bkc BK340.out 2).trans rfl,(bkc BK340.out 3).trans rfl,(bkc BK340.out 4).trans rfl,((HB.out.cell (blc w _ hw344_0)).trans hw344_0),((HB.out.cell (blc w _ hw344_1)).trans hw344_1),((HB.out.cell (blc w _ hw345_0)).trans hw345_0),((HB.out.cell (blc w _ hw345_1)).trans hw345_1)⟩ (fun hHeld=>?_)
  clear hK K
  refine norm_ (a':=?_) ?_ ?_
  rotate_left
  ·
   show Act.put _ (some 55) _=_
   simp only [Act.put,List.setIfInBounds_toArray,List.set_cons_zero,List.set_cons_succ,i64_w,i32_w]
   rfl
  refine one_ (i:=17) (N:=some 56) #[true,true,true,true,true,true,true,true,true,true,true,true,true,true,true,true,true,true,false,false,false] rfl rfl (one_of HT_.out Z1) Z2 (fun K hK=>?_)
  refine value_ (w1:=?_) (v:=?_) Z9 rfl ?_ ?_
  rotate_left 2
  ·
   go_simp
   constructor
   ·
    rfl
   rfl
  refine hK.out _ _ ⟨(bkc (bka BK342.out _) 0).trans rfl,(bkc (bka BK342.out _) 1).trans rfl,(bkc (bka BK342.out _) 2).trans rfl,(bkc (bka BK342.out _) 3).trans rfl,(bkc (bka BK340.out _) 0).trans rfl,(bkc (bka BK340.out _) 1).trans rfl,(bkc (bka BK340.out _) 2).trans rfl,(bkc (bka BK340.out _) 3).trans rfl,(bkc (bka BK340.out _) 4).trans rfl,(World.cell?_alloc_lt _ _ _ (blc _ _ (((HB.out.cell (blc w _ hw344_0)).trans hw344_0)))).trans (((HB.out.cell (blc w _ hw344_0)).trans hw344_0)),(World.cell?_alloc_lt _ _ _ (blc _ _ (((HB.out.cell (blc w _ hw344_1)).trans hw344_1)))).trans (((HB.out.cell (blc w _ hw344_1)).trans hw344_1)),(World.cell?_alloc_lt _ _ _ (blc _ _ (((HB.out.cell (blc w _ hw345_0)).trans hw345_0)))).trans (((HB.out.cell (blc w _ hw345_0)).trans hw345_0)),(World.cell?_alloc_lt _ _ _ (blc _ _ (((HB.out.cell (blc w _ hw345_1)).trans hw345_1)))).trans (((HB.out.cell (blc w _ hw345_1)).trans hw345_1))⟩ (fun hHeld=>?_)
  clear hK K
  refine norm_ (a':=?_) ?_ ?_
  rotate_left
  ·
   show Act.put _ (some 56) _=_
   simp only [Act.put,List.setIfInBounds_toArray,List.set_cons_zero,List.set_cons_succ,i64_w,i32_w]
   rfl
  refine one_ (i:=18) (N:=some 57) #[true,true,true,true,true,true,true,true,true,true,true,true,true,true,true,true,true,true,true,false,false] rfl rfl (one_of HT_.out Z1) Z2 (fun K hK=>?_)
  refine Kd.R_append_step Kd.string (w0:=w) w.heap.size Z9 (.tmp 40) (.tmp 56) 22 9 (.string ⟨#[]⟩) 16 rfl Tryz.underlying22 info9 rfl Z2 Z14 u343002 x343002_2 t346 [.string t346] (fun _=>True) (fun _=>False) rfl rfl ?aP (fun _ hk=>hk.elim) ?aF ?aO ?aB ?aS ?aL ?_
  (case aP=>exact rfl)
  (case aB=>exact Z23)
  (case aF=>exact (fun _ _=>trivial))
  (case aO=>exact (pR HO_343002.out))
  (case aS=>exact (below_size Z23))
  (case aL=>have:=LMc39.out;omega)
  intro v348 w45 ho hb hg hat
  rw [← Ny347.out] at ho
  have n0_:=am (blk_grown (g:=gb340) (o:=.cells #[.int .i64 a1_0,.int .i64 a1_1,.int .i64 a1_2,.slice (some ad344) l1_3.length c1_3,.slice A1_4 l1_4.length c1_4] 47 (0,0)) (pB BK340.out) hg (Kd.R_ne HO_343002.out BK340.out Z2))
  have n1_:=am (blk_grown (g:=gb341) (o:=.cells #[.int .i64 0,.string (⟨#[]⟩:ByteArray),.slice none 0 0,.slice none 0 0] 26 (0,0)) (pB BK341.out) hg (Kd.R_ne HO_343002.out BK341.out Z2))
  have n2_:=am (blk_grown (g:=gb342) (o:=.cells #[.int .i64 a1_0,.string x343001_2,u343002,.slice none 0 0] 26 (0,0)) (pB BK342.out) hg (Kd.R_ne HO_343002.out BK342.out Z2))
  have n3_:=am (hb)
  have n4_:=am (ho)
  clear BK340;clear BK341;clear BK342;clear HB;clear HO_343002
  have BK340:=n0_
  have BK341:=n1_
  have BK342:=n2_
  have HB:=n3_
  have HO349:=n4_
  clear n0_ n1_ n2_ n3_ n4_;clear ho hb hg hat
  obtain ⟨Ao46,co46,eo46⟩:=Kd.R_slice HO349.out
  (first | subst eo46 | (injection eo46 with f1_ f2_ f3_;have f4_:=f1_.symm;have f5_:=f3_.symm;clear f1_ f2_ f3_;subst f4_;subst f5_))
  refine hK.out _ _ ⟨(bkc BK342.out 0).trans rfl,(bkc BK342.out 1).trans rfl,(bkc BK342.out 2).trans rfl,(bkc BK342.out 3).trans rfl,(bkc BK340.out 0).trans rfl,(bkc BK340.out 1).trans rfl,(bkc BK340.out 2).trans rfl,(bkc BK340.out 3).trans rfl,(bkc BK340.out 4).trans rfl,((HB.out.cell (blc w _ hw344_0)).trans hw344_0),((HB.out.cell (blc w _ hw344_1)).trans hw344_1),((HB.out.cell (blc w _ hw345_0)).trans hw345_0),((HB.out.cell (blc w _ hw345_1)).trans hw345_1)⟩ (fun hHeld=>?_)
  clear hK K
  refine norm_ (a':=?_) ?_ ?_
  rotate_left
  ·
   show Act.put _ (some 57) _=_
   simp only [Act.put,List.setIfInBounds_toArray,List.set_cons_zero,List.set_cons_succ,i64_w,i32_w]
   rfl
  refine pure_ (i:=19) (N:=some 58) (v:=?_) (a':=?_) #[true,true,true,true,true,true,true,true,true,true,true,true,true,true,true,true,true,true,true,true,false] rfl rfl (any_of HT_.out Z1) (fun _ _ _ h=>h) (Or.inl ⟨Z9,?_⟩) ?_ ?_
  rotate_left
  ·
   intro w'
   go_simp
   with_reducible rfl
  rotate_left
  ·
   simp only [Act.put,List.setIfInBounds_toArray,List.set_cons_zero,List.set_cons_succ,i64_w,i32_w]
   rfl
  refine last_ (i:=20) (N:=none) #[true,true,true,true,true,true,true,true,true,true,true,true,true,true,true,true,true,true,true,true,true] rfl rfl (one_of HT_.out Z1) Z2 (fun K hK=>?_)
  have hs47:w45.cell? ⟨gb342,2,none⟩=some (u343002):=(bkc BK342.out 2).trans rfl
  have hfs47:=bkf BK342.out 2
  have hns47_0:=NB340_342.out
  have hns47_1:=NB341_342.out
  have hms47_0:=NB342_340.out
  have hms47_1:=NB342_341.out
  refine skip_ (w1:=?_) Z9 rfl ?_ ?_
  rotate_left
  ·
   go_simp
   rfl
  refine hK.out _ _ ?_
  clear hK K
  refine done_ (done_of HT_.out Z1) ?_
  try go_wp2
  go_roundg k2
  case measure=>have:=HJ2.out;have:=HK2.out;omega
  case rel=>exact ⟨(wrap64 (x6_2+1)),(y347),(.slice Ao46 y347.length co46),Z0,H',⟨Z42⟩,⟨by (with_reducible repeat (first | apply Kd.R_alloc | apply Kd.R_drewN | apply Kd.R_drew));exact Kd.R_mono (Kd.R_far (p:=⟨gb342,2,none⟩) (Kd.R_types HO349.out BK342.out Z2) (fun _ hk=>hk.2) (.slice Ao46 y347.length co46)) (fun _ hk=>trivial)⟩,⟨Z48⟩,⟨Z49⟩,⟨by (with_reducible repeat (first | refine bkn ?_ _ | refine bkd ?_ | refine bka ?_ _));refine blk_put (cs:=#[.int .i64 a1_0,.string x343001_2,u343002,.slice none 0 0]) ?_ 2 _ rfl;(with_reducible repeat (first | refine bkn ?_ _ | refine bkd ?_ | refine bka ?_ _));exact BK342.out⟩,⟨Z23⟩⟩
 rw [if_neg c33] at H
 have c33b0:=df c33
 clear c33
 have H':=am H
 clear H
 have hnb48:=NB340_341.out
 have hnc48:=NB341_340.out
 have hnb49:=NB340_342.out
 have hnc49:=NB342_340.out
 have hcz50_0:wr.cell? ⟨gb340,0,none⟩=some (.int .i64 a1_0):=(bkc BK340.out 0).trans rfl
 have hcz50_1:wr.cell? ⟨gb340,1,none⟩=some (.int .i64 a1_1):=(bkc BK340.out 1).trans rfl
 have hcz50_2:wr.cell? ⟨gb340,2,none⟩=some (.int .i64 a1_2):=(bkc BK340.out 2).trans rfl
 have hcz50_3:wr.cell? ⟨gb340,3,none⟩=some (.slice A1_3 l1_3.length c1_3):=(bkc BK340.out 3).trans rfl
 have hcz50_4:wr.cell? ⟨gb340,4,none⟩=some (.slice A1_4 l1_4.length c1_4):=(bkc BK340.out 4).trans rfl
 have hfz50_0:=bkf BK340.out 0
 have hfz50_1:=bkf BK340.out 1
 have hfz50_2:=bkf BK340.out 2
 have hfz50_3:=bkf BK340.out 3
 have hfz50_4:=bkf BK340.out 4
 go_wp2
 (try simp only [Act.put,List.setIfInBounds_toArray,List.set_cons_succ,List.set_cons_zero])
 go_loopg [7] k2 (fun kq v7 w'=>∃ (x7_3:Int) (x343003_3:List (S26)) (u343003:Value),v7 = .int .i64 x7_3∧Aside0 (spec_Tree.l1 kq a0 x7_3 a1_0 a1_1 a1_2 l1_3 l1_4 a1_0 x343001_2 x343002_2 x343003_3=some (r1,r2,r3,r4))∧Aside0 (kq≤k2)∧Aside0 (Kd.R Kd.string 9 w' w.heap.size (fun _=>True) u343002 x343002_2)∧Aside0 (Kd.R k26 26 w' w.heap.size (fun k_=>some k_≠(u343002:Value).ownBlock∧k_≠gb341∧k_≠gb342) u343003 x343003_3)∧Aside0 (w'.heap[gb340]? = some (.cells #[.int .i64 a1_0,.int .i64 a1_1,.int .i64 a1_2,(.slice A1_3 l1_3.length c1_3),(.slice A1_4 l1_4.length c1_4)] 47 (0,0)))∧Aside0 (w'.heap[gb341]? = some (.cells #[.int .i64 0,.string (⟨#[]⟩:ByteArray),(.slice none 0 0),(.slice none 0 0)] 26 (0,0)))∧Aside0 (w'.heap[gb342]? = some (.cells #[.int .i64 a1_0,.string x343001_2,u343002,u343003] 26 (0,0)))∧Aside0 (Below w.heap.size w w'))
 case atStart=>exact ⟨(0),(([]:List (S26))),(.slice none 0 0),Z0,H',⟨Nat.le_refl _⟩,⟨pR HO_343002.out⟩,⟨Z13⟩,⟨pB BK340.out⟩,⟨pB BK341.out⟩,⟨pB BK342.out⟩,⟨Z23⟩⟩
 clear H'
 try clear c1;try clear c2;try clear p2;try clear c3;try clear p3;try clear q3;try clear hx3;try clear c4;try clear c5;try clear c6;try clear p6;try clear c8;try clear c9;try clear c10;try clear c13;try clear c13b0;try clear c13b1;try clear c14;try clear c14b0;try clear c14b1;try clear c15;try clear c15b0;try clear c15b1;try clear c16;try clear c16b0;try clear c16b1;try clear c17;try clear c18;try clear c20;try clear c22;try clear c22b0;try clear c22b1;try clear c23;try clear c23b0;try clear c23b1;try clear c24;try clear c24b0;try clear c24b1;try clear c25;try clear c25b0;try clear c25b1;try clear c27;try clear c28;try clear c31;try clear c33;try clear c33b0;try clear c34;try clear c34b0;try clear p34;try clear q34;try clear hx34;try clear c35;try clear c35b0;try clear c35b1;try clear c36;try clear c36b0;try clear c36b1;try clear c37;try clear c37b0;try clear c37b1;try clear c39;try clear c40;try clear c41;try clear c48;try clear c49;try clear hcz11_0;try clear hcz11_1;try clear hcz11_2;try clear hcz11_3;try clear hcz12_0;try clear hcz12_1;try clear hcz12_2;try clear hcz12_3;try clear hcz12_4;try clear hcz19_0;try clear hcz19_1;try clear hcz19_2;try clear hcz19_3;try clear hcz19_4;try clear hcz21_0;try clear hcz21_1;try clear hcz21_2;try clear hcz21_3;try clear hcz29_0;try clear hcz29_1;try clear hcz29_2;try clear hcz29_3;try clear hcz29_4;try clear hcz32_0;try clear hcz32_1;try clear hcz32_2;try clear hcz32_3;try clear hcz42_0;try clear hcz42_1;try clear hcz42_2;try clear hcz42_3;try clear hcz42_4;try clear hcz50_0;try clear hcz50_1;try clear hcz50_2;try clear hcz50_3;try clear hcz50_4;try clear hcz7_0;try clear hcz7_1;try clear hcz7_2;try clear hcz7_3;try clear hcz7_4;try clear hfz11_0;try clear hfz11_1;try clear hfz11_2;try clear hfz11_3;try clear hfz12_0;try clear hfz12_1;try clear hfz12_2;try clear hfz12_3;try clear hfz12_4;try clear hfz19_0;try clear hfz19_1;try clear hfz19_2;try clear hfz19_3;try clear hfz19_4;try clear hfz21_0;try clear hfz21_1;try clear hfz21_2;try clear hfz21_3;try clear hfz29_0;try clear hfz29_1;try clear hfz29_2;try clear hfz29_3;try clear hfz29_4;try clear hfz32_0;try clear hfz32_1;try clear hfz32_2;try clear hfz32_3;try clear hfz42_0;try clear hfz42_1;try clear hfz42_2;try clear hfz42_3;try clear hfz42_4;try clear hfz50_0;try clear hfz50_1;try clear hfz50_2;try clear hfz50_3;try clear hfz50_4;try clear hfz7_0;try clear hfz7_1;try clear hfz7_2;try clear hfz7_3;try clear hfz7_4;try clear hx344_0;try clear hx344_1;try clear hx345_0;try clear hx345_1;try clear p2;try clear p344;try clear p345;try clear q344;try clear q345
 obtain ⟨x7_3,x343003_3,u343003,rfl,HA,HK3,HO_343002,HO_343003,BK340,BK341,BK342,HB⟩:=hrel
 cases gk with
 | zero=>exact absurd HA.out (by simp [spec_Tree.l1])
 | succ k3=>
 have H:=HA.out
 clear HA
 simp only [spec_Tree.l1] at H
 by_cases c51:x7_3<(l1_4.length:Int)
 rotate_left
 ·
  rw [if_neg c51] at H
  have c51b0:=df c51
  clear c51
  simp only [Option.some.injEq,Prod.mk.injEq] at H
  obtain ⟨rfl,rfl,rfl,rfl⟩:=H
  have hnb65:=NB340_341.out
  have hnc65:=NB341_340.out
  have hnb66:=NB340_342.out
  have hnc66:=NB342_340.out
  have hcz67_0:wr.cell? ⟨gb340,0,none⟩=some (.int .i64 a1_0):=(bkc BK340.out 0).trans rfl
  have hcz67_1:wr.cell? ⟨gb340,1,none⟩=some (.int .i64 a1_1):=(bkc BK340.out 1).trans rfl
  have hcz67_2:wr.cell? ⟨gb340,2,none⟩=some (.int .i64 a1_2):=(bkc BK340.out 2).trans rfl
  have hcz67_3:wr.cell? ⟨gb340,3,none⟩=some (.slice A1_3 l1_3.length c1_3):=(bkc BK340.out 3).trans rfl
  have hcz67_4:wr.cell? ⟨gb340,4,none⟩=some (.slice A1_4 l1_4.length c1_4):=(bkc BK340.out 4).trans rfl
  have hfz67_0:=bkf BK340.out 0
  have hfz67_1:=bkf BK340.out 1
  have hfz67_2:=bkf BK340.out 2
  have hfz67_3:=bkf BK340.out 3
  have hfz67_4:=bkf BK340.out 4
  have hnb68:=NB342_341.out
  have hnc68:=NB341_342.out
  have hcz69_0:wr.cell? ⟨gb342,0,none⟩=some (.int .i64 a1_0):=(bkc BK342.out 0).trans rfl
  have hcz69_1:wr.cell? ⟨gb342,1,none⟩=some (.string x343001_2):=(bkc BK342.out 1).trans rfl
  have hcz69_2:wr.cell? ⟨gb342,2,none⟩=some (u343002):=(bkc BK342.out 2).trans rfl
  have hcz69_3:wr.cell? ⟨gb342,3,none⟩=some (u343003):=(bkc BK342.out 3).trans rfl
  have hfz69_0:=bkf BK342.out 0
  have hfz69_1:=bkf BK342.out 1
  have hfz69_2:=bkf BK342.out 2
  have hfz69_3:=bkf BK342.out 3
  have hcz70_0:wr.cell? ⟨gb341,0,none⟩=some (.int .i64 0):=(bkc BK341.out 0).trans rfl
  have hcz70_1:wr.cell? ⟨gb341,1,none⟩=some (.string (⟨#[]⟩:ByteArray)):=(bkc BK341.out 1).trans rfl
  have hcz70_2:wr.cell? ⟨gb341,2,none⟩=some (.slice none 0 0):=(bkc BK341.out 2).trans rfl
  have hcz70_3:wr.cell? ⟨gb341,3,none⟩=some (.slice none 0 0):=(bkc BK341.out 3).trans rfl
  have hfz70_0:=bkf BK341.out 0
  have hfz70_1:=bkf BK341.out 1
  have hfz70_2:=bkf BK341.out 2
  have hfz70_3:=bkf BK341.out 3
  obtain ⟨Ao71,co71,eo71⟩:=Kd.R_slice HO_343002.out
  subst eo71
  obtain ⟨Ao72,co72,eo72⟩:=Kd.R_slice HO_343003.out
  subst eo72
  go_wp2
  refine bodyPost_ret (results_cell_row rfl _ _ gb341 26 #[.int .i64 a1_0,.string x343001_2,.slice Ao71 x343002_2.length co71,.slice Ao72 x343003_3.length co72] (0,0) _ rfl (by (with_reducible repeat (first | refine bkn ?_ _ | refine bkd ?_ | refine bka ?_ _));refine blk_put (cs:=#[.int .i64 a1_0,.string x343001_2,.slice Ao71 x343002_2.length co71,.slice none 0 0]) ?_ 3 _ rfl;(with_reducible repeat (first | refine bkn ?_ _ | refine bkd ?_ | refine bka ?_ _));refine blk_put (cs:=#[.int .i64 a1_0,.string x343001_2,.slice none 0 0,.slice none 0 0]) ?_ 2 _ rfl;(with_reducible repeat (first | refine bkn ?_ _ | refine bkd ?_ | refine bka ?_ _));refine blk_put (cs:=#[.int .i64 a1_0,.string (⟨#[]⟩:ByteArray),.slice none 0 0,.slice none 0 0]) ?_ 1 _ rfl;(with_reducible repeat (first | refine bkn ?_ _ | refine bkd ?_ | refine bka ?_ _));refine blk_put (cs:=#[.int .i64 0,.string (⟨#[]⟩:ByteArray),.slice none 0 0,.slice none 0 0]) ?_ 0 _ rfl;(with_reducible repeat (first | refine bkn ?_ _ | refine bkd ?_ | refine bka ?_ _));exact BK341.out) Tryz.underlying26 rfl Z1) rfl ?_
  exact ⟨_,_,Z12,by (with_reducible repeat (first | apply Kd.R_alloc | apply Kd.R_drewN | apply Kd.R_drew));exact Kd.R_mono (Kd.R_far (p:=⟨gb341,3,none⟩) (Kd.R_far (p:=⟨gb341,2,none⟩) (Kd.R_far (p:=⟨gb341,1,none⟩) (Kd.R_far (p:=⟨gb341,0,none⟩) (Kd.R_types HO_343002.out BK341.out Z2) (fun _ hk=>hk.2) (.int .i64 a1_0)) (fun _ hk=>hk.2) (.string x343001_2)) (fun _ hk=>hk.2) (.slice Ao71 x343002_2.length co71)) (fun _ hk=>hk.2) (.slice Ao72 x343003_3.length co72)) (fun _ hk=>trivial),by (with_reducible repeat (first | apply Kd.R_alloc | apply Kd.R_drewN | apply Kd.R_drew));exact Kd.R_mono (Kd.R_far (p:=⟨gb341,3,none⟩) (Kd.R_far (p:=⟨gb341,2,none⟩) (Kd.R_far (p:=⟨gb341,1,none⟩) (Kd.R_far (p:=⟨gb341,0,none⟩) (Kd.R_mono HO_343003.out (fun k_ hk=>(⟨hk,hk.2.1⟩:_∧k_≠gb341))) (fun _ hk=>hk.2) (.int .i64 a1_0)) (fun _ hk=>hk.2) (.string x343001_2)) (fun _ hk=>hk.2) (.slice Ao71 x343002_2.length co71)) (fun _ hk=>hk.2) (.slice Ao72 x343003_3.length co72)) (fun _ hk=>hk.1.1),Z23⟩
 rw [if_pos c51] at H
 have c51b0:=dt c51
 clear c51
 by_cases c52:0≤x7_3
 rotate_left
 ·
  rw [if_neg c52] at H
  exact absurd H Z6
 rw [if_pos c52] at H
 have c52b0:=dt c52
 clear c52
 replace H:=obs H
 obtain ⟨⟨t351,t352,t353,t356⟩,A530,H⟩:=H
 dsimp only at H
 have A53:=am A530
 clear A530
 by_cases c54:x343003_3.length<1954687338268
 rotate_left
 ·
  rw [if_neg c54] at H
  exact absurd H Z6
 rw [if_pos c54] at H
 have LMc54:=am c54
 clear c54
 obtain ⟨y359,hy359⟩:∃ y_:List (S26),y_=(x343003_3 ++ [(⟨t351,t352,t353,t356⟩:S26)]):=⟨_,rfl⟩
 first | replace H:=bind_y hy359 H | rw [← hy359] at H
 have Ny359:=am hy359
 clear hy359
 have H':=am H
 clear H
 have hnb55:=NB340_341.out
 have hnc55:=NB341_340.out
 have hnb56:=NB340_342.out
 have hnc56:=NB342_340.out
 have hcz57_0:wr.cell? ⟨gb340,0,none⟩=some (.int .i64 a1_0):=(bkc BK340.out 0).trans rfl
 have hcz57_1:wr.cell? ⟨gb340,1,none⟩=some (.int .i64 a1_1):=(bkc BK340.out 1).trans rfl
 have hcz57_2:wr.cell? ⟨gb340,2,none⟩=some (.int .i64 a1_2):=(bkc BK340.out 2).trans rfl
 have hcz57_3:wr.cell? ⟨gb340,3,none⟩=some (.slice A1_3 l1_3.length c1_3):=(bkc BK340.out 3).trans rfl
 have hcz57_4:wr.cell? ⟨gb340,4,none⟩=some (.slice A1_4 l1_4.length c1_4):=(bkc BK340.out 4).trans rfl
 have hfz57_0:=bkf BK340.out 0
 have hfz57_1:=bkf BK340.out 1
 have hfz57_2:=bkf BK340.out 2
 have hfz57_3:=bkf BK340.out 3
 have hfz57_4:=bkf BK340.out 4
 try go_wp2
 have n0_:=am (Kd.R_drew HO_343002.out)
 have n1_:=am (Kd.R_drew HO_343003.out)
 have n2_:=am (bkd BK340.out)
 have n3_:=am (bkd BK341.out)
 have n4_:=am (bkd BK342.out)
 have n5_:=am (below_drew1 HB.out)
 clear HO_343002;clear HO_343003;clear BK340;clear BK341;clear BK342;clear HB
 have HO_343002:=n0_
 have HO_343003:=n1_
 have BK340:=n2_
 have BK341:=n3_
 have BK342:=n4_
 have HB:=n5_
 clear n0_ n1_ n2_ n3_ n4_ n5_
 have p350:0≤(x7_3:Int):=od Z8
 have q350:x7_3<(l1_4.length:Int):=od Z8
 obtain ⟨ad350,A350_3,c350_3,A350_4,c350_4,e350,hx350_0,hx350_1,hx350_2,hx350_3,hx350_4,hl350_3,hi350_3,hl350_4,hi350_4⟩:=at_T47 HR1_4.out x7_3 p350 q350
 have hw350_4:=hx350_4
 have hw350_3:=hx350_3
 have hw350_2:=hx350_2
 have hw350_1:=hx350_1
 have hw350_0:=hx350_0
 cases e350
 replace hx350_0:=(HB.out.cell (blc w _ hx350_0)).trans hx350_0
 replace hx350_1:=(HB.out.cell (blc w _ hx350_1)).trans hx350_1
 replace hx350_2:=(HB.out.cell (blc w _ hx350_2)).trans hx350_2
 replace hx350_3:=(HB.out.cell (blc w _ hx350_3)).trans hx350_3
 replace hx350_4:=(HB.out.cell (blc w _ hx350_4)).trans hx350_4
 have HR350_3:=am hi350_3
 have HC350_3:=am hl350_3
 clear hi350_3 hl350_3
 have HR350_4:=am hi350_4
 have HC350_4:=am hl350_4
 clear hi350_4 hl350_4
 replace p350:=eq_true p350
 replace q350:=eq_true q350
 refine start_ (n:=13) (S:=fun w'=>w'.cell? ⟨gb342,0,none⟩=some (.int .i64 a1_0)∧w'.cell? ⟨gb342,1,none⟩=some (.string x343001_2)∧w'.cell? ⟨gb342,2,none⟩=some (u343002)∧w'.cell? ⟨gb342,3,none⟩=some (u343003)∧w'.cell? ⟨gb340,0,none⟩=some (.int .i64 a1_0)∧w'.cell? ⟨gb340,1,none⟩=some (.int .i64 a1_1)∧w'.cell? ⟨gb340,2,none⟩=some (.int .i64 a1_2)∧w'.cell? ⟨gb340,3,none⟩=some (.slice A1_3 l1_3.length c1_3)∧w'.cell? ⟨gb340,4,none⟩=some (.slice (some ad350) l1_4.length c1_4)∧w'.cell? (ad350.add ((x7_3).toNat * 5))=some (.int .i64 ((rd_T47 l1_4 x7_3).f0))∧w'.cell? ⟨(ad350.add ((x7_3).toNat * 5)).block,(ad350.add ((x7_3).toNat * 5)).off+1,none⟩=some (.int .i64 ((rd_T47 l1_4 x7_3).f1))∧w'.cell? ⟨(ad350.add ((x7_3).toNat * 5)).block,(ad350.add ((x7_3).toNat * 5)).off+2,none⟩=some (.int .i64 ((rd_T47 l1_4 x7_3).f2))∧w'.cell? ⟨(ad350.add ((x7_3).toNat * 5)).block,(ad350.add ((x7_3).toNat * 5)).off+3,none⟩=some (.slice A350_3 ((rd_T47 l1_4 x7_3).f3).length c350_3)∧w'.cell? ⟨(ad350.add ((x7_3).toNat * 5)).block,(ad350.add ((x7_3).toNat * 5)).off+4,none⟩=some (.slice A350_4 ((rd_T47 l1_4 x7_3).f4).length c350_4)) (ds:=[12]) #[false,false,false,false,false,false,false,false,false,false,false,false,false] Z1 rfl rfl ⟨(bkc BK342.out 0).trans rfl,(bkc BK342.out 1).trans rfl,(bkc BK342.out 2).trans rfl,(bkc BK342.out 3).trans rfl,(bkc BK340.out 0).trans rfl,(bkc BK340.out 1).trans rfl,(bkc BK340.out 2).trans rfl,(bkc BK340.out 3).trans rfl,(bkc BK340.out 4).trans rfl,((HB.out.cell (blc w _ hw350_0)).trans hw350_0),((HB.out.cell (blc w _ hw350_1)).trans hw350_1),((HB.out.cell (blc w _ hw350_2)).trans hw350_2),((HB.out.cell (blc w _ hw350_3)).trans hw350_3),((HB.out.cell (blc w _ hw350_4)).trans hw350_4)⟩ (fun hHeld=>?_);refine with_tabW spec_Tree.tab14 spec_Tree.bits14 (fun HT_ HW_=>?_)
 generalize wr.drew=w58 at HO_343002 HO_343003 BK340 BK341 BK342 HB HR350_3 HR350_4 hx350_0 hx350_1 hx350_2 hx350_3 hx350_4 hHeld ⊢
 refine pure_ (i:=0) (N:=some 66) (v:=?_) (a':=?_) #[true,false,false,false,false,false,false,false,false,false,false,false,false] rfl rfl (any_of HT_.out Z1) (fun _ _ _ h=>h) (Or.inl ⟨Z9,?_⟩) ?_ ?_
 rotate_left
 ·
  intro w'
  go_simp
  with_reducible rfl
 rotate_left
 ·
  simp only [Act.put,List.setIfInBounds_toArray,List.set_cons_zero,List.set_cons_succ,i64_w,i32_w]
  rfl
 refine pure_ (i:=2) (N:=some 68) (v:=?_) (a':=?_) #[true,false,true,false,false,false,false,false,false,false,false,false,false] rfl rfl (any_of HT_.out Z1) (fun _ _ _ h=>h) (Or.inl ⟨Z9,?_⟩) ?_ ?_
 rotate_left
 ·
  intro w'
  go_simp
  with_reducible rfl
 rotate_left
 ·
  simp only [Act.put,List.setIfInBounds_toArray,List.set_cons_zero,List.set_cons_succ,i64_w,i32_w]
  rfl
 refine pure_ (i:=3) (N:=some 69) (v:=?_) (a':=?_) #[true,false,true,true,false,false,false,false,false,false,false,false,false] rfl rfl (any_of HT_.out Z1) (fun _ _ _ h=>h) (Or.inl ⟨Z9,?_⟩) ?_ ?_
 rotate_left
 ·
  intro w'
  go_simp
  with_reducible rfl
 rotate_left
 ·
  simp only [Act.put,List.setIfInBounds_toArray,List.set_cons_zero,List.set_cons_succ,i64_w,i32_w]
  rfl
 refine pure_ (i:=5) (N:=some 71) (v:=?_) (a':=?_) #[true,false,true,true,false,true,false,false,false,false,false,false,false] rfl rfl (any_of HT_.out Z1) (fun _ _ _ h=>h) (Or.inl ⟨Z9,?_⟩) ?_ ?_
 rotate_left
 ·
  intro w'
  go_simp
  with_reducible rfl
 rotate_left
 ·
  simp only [Act.put,List.setIfInBounds_toArray,List.set_cons_zero,List.set_cons_succ,i64_w,i32_w]
  rfl
 refine take_ (i:=1) (N:=some 67) (v:=?_) (a':=?_) #[true,true,true,true,false,true,false,false,false,false,false,false,false] rfl rfl (take_ofW HT_.out HW_.out Z1) (fun _ _ _ h=>h) (Or.inl ⟨Z9,?_⟩) hHeld ?_ ?_
 rotate_left
 ·
  rintro w' ⟨s0,s1,s2,s3,s4,s5,s6,s7,s8,s9,s10,s11,s12,s13⟩
  go_simp
  with_reducible rfl
 rotate_left
 ·
  simp only [Act.put,List.setIfInBounds_toArray,List.set_cons_zero,List.set_cons_succ,i64_w,i32_w]
  rfl
 refine take_ (i:=4) (N:=some 70) (v:=?_) (a':=?_) #[true,true,true,true,true,true,false,false,false,false,false,false,false] rfl rfl (take_ofW HT_.out HW_.out Z1) (fun _ _ _ h=>h) (Or.inl ⟨Z9,?_⟩) hHeld ?_ ?_
 rotate_left
 ·
  rintro w' ⟨s0,s1,s2,s3,s4,s5,s6,s7,s8,s9,s10,s11,s12,s13⟩
  go_simp
  with_reducible rfl
 rotate_left
 ·
  simp only [Act.put,List.setIfInBounds_toArray,List.set_cons_zero,List.set_cons_succ,i64_w,i32_w]
  rfl
 refine pure_ (i:=6) (N:=some 72) (v:=?_) (a':=?_) #[true,true,true,true,true,true,true,false,false,false,false,false,false] rfl rfl (any_of HT_.out Z1) (fun _ _ _ h=>h) (Or.inl ⟨Z9,?_⟩) ?_ ?_
 rotate_left
 ·
  intro w'
  go_simp
  with_reducible rfl
 rotate_left
 ·
  simp only [Act.put,List.setIfInBounds_toArray,List.set_cons_zero,List.set_cons_succ,i64_w,i32_w]
  rfl
 refine take_ (i:=7) (N:=some 73) (v:=?_) (a':=?_) #[true,true,true,true,true,true,true,true,false,false,false,false,false] rfl rfl (take_ofW HT_.out HW_.out Z1) (fun _ _ _ h=>h) (Or.inl ⟨Z9,?_⟩) hHeld ?_ ?_
 rotate_left
 ·
  rintro w' ⟨s0,s1,s2,s3,s4,s5,s6,s7,s8,s9,s10,s11,s12,s13⟩
  go_simp
  with_reducible rfl
 rotate_left
 ·
  simp only [Act.put,List.setIfInBounds_toArray,List.set_cons_zero,List.set_cons_succ,i64_w,i32_w]
  rfl
 refine one_ (i:=8) (N:=some 74) #[true,true,true,true,true,true,true,true,true,false,false,false,false] rfl rfl (one_of HT_.out Z1) Z2 (fun K hK=>?_)
 refine goes_ Tryz.func52 Z1 rfl #[.string a0,.agg #[.int .i64 ((rd_T47 l1_4 x7_3).f0),.int .i64 ((rd_T47 l1_4 x7_3).f1),.int .i64 ((rd_T47 l1_4 x7_3).f2),.slice A350_3 ((rd_T47 l1_4 x7_3).f3).length c350_3,.slice A350_4 ((rd_T47 l1_4 x7_3).f4).length c350_4]] Z9 rfl rfl Z10 ?_
 with_reducible refine (ih k3 (by have:=HJ2.out;have:=HK2.out;have:=HK3.out;omega) a0 ((rd_T47 l1_4 x7_3).f0) ((rd_T47 l1_4 x7_3).f1) ((rd_T47 l1_4 x7_3).f2) _ _ ((rd_T47 l1_4 x7_3).f3) _ _ ((rd_T47 l1_4 x7_3).f4) t351 t352 t353 t356 _ ?side1 ?side2 ?side3 ?side4 A53.out).mono ?_
 (case side1=>repeat (first | exact (Kd.C_below HR350_3.out HB.out) | (with_reducible refine Kd.C_alloc ?_ _) | (with_reducible refine Kd.C_drewN ?_ _) | (with_reducible refine Kd.C_drew ?_)))
 (case side2=>exact HC350_3.out)
 (case side3=>repeat (first | exact (Kd.C_below HR350_4.out HB.out) | (with_reducible refine Kd.C_alloc ?_ _) | (with_reducible refine Kd.C_drewN ?_ _) | (with_reducible refine Kd.C_drew ?_)))
 (case side4=>exact HC350_4.out)
 rintro e w59 ⟨v354,v357,rfl,ho0,ho1,hb⟩
 refine ⟨_,rfl,?_⟩
 have n0_:=am (Kd.R_elder' (pR HO_343002.out) (Kd.R_base ho0) hb)
 have n1_:=am (Kd.R_mono (Kd.R_told (Kd.R_told (Kd.R_old (pR HO_343003.out) hb) (Kd.R_base ho0)) (Kd.R_base ho1)) (fun _ h_=>h_.1))
 have n2_:=am (Kd.R_lower (Kd.R_new' ho0 (Kd.R_lt (pR HO_343002.out))) (below_size Z23))
 have n3_:=am (Kd.R_lower (Kd.R_newB (Kd.R_newB (Kd.R_new' (Kd.R_new' ho1 (Kd.R_lt (pR HO_343002.out))) (Kd.R_lt (pR HO_343003.out))) (g:=gb341) (o:=.cells #[.int .i64 0,.string (⟨#[]⟩:ByteArray),.slice none 0 0,.slice none 0 0] 26 (0,0)) (pB BK341.out)) (g:=gb342) (o:=.cells #[.int .i64 a1_0,.string x343001_2,u343002,u343003] 26 (0,0)) (pB BK342.out)) (below_size Z23))
 have n4_:=am (blk_below (g:=gb340) (o:=.cells #[.int .i64 a1_0,.int .i64 a1_1,.int .i64 a1_2,.slice A1_3 l1_3.length c1_3,.slice (some ad350) l1_4.length c1_4] 47 (0,0)) (pB BK340.out) hb)
 have n5_:=am (blk_below (g:=gb341) (o:=.cells #[.int .i64 0,.string (⟨#[]⟩:ByteArray),.slice none 0 0,.slice none 0 0] 26 (0,0)) (pB BK341.out) hb)
 have n6_:=am (blk_below (g:=gb342) (o:=.cells #[.int .i64 a1_0,.string x343001_2,u343002,u343003] 26 (0,0)) (pB BK342.out) hb)
 have n7_:=am (below_step Z23 hb)
 clear HO_343002;clear HO_343003;clear BK340;clear BK341;clear BK342;clear HB
 have HO_343002:=n0_
 have HO_343003:=n1_
 have HO355:=n2_
 have HO358:=n3_
 have BK340:=n4_
 have BK341:=n5_
 have BK342:=n6_
 have HB:=n7_
 clear n0_ n1_ n2_ n3_ n4_ n5_ n6_ n7_
 (try clear hb)
 (try clear hb2)
 (try clear hk)
 (try clear hi)
 (try clear ho0)
 (try clear ho1)
 obtain ⟨Ao61,co61,eo61⟩:=Kd.R_slice HO355.out
 (first | subst eo61 | (injection eo61 with f1_ f2_ f3_;have f4_:=f1_.symm;have f5_:=f3_.symm;clear f1_ f2_ f3_;subst f4_;subst f5_))
 obtain ⟨Ao62,co62,eo62⟩:=Kd.R_slice HO358.out
 (first | subst eo62 | (injection eo62 with f1_ f2_ f3_;have f4_:=f1_.symm;have f5_:=f3_.symm;clear f1_ f2_ f3_;subst f4_;subst f5_))
 refine hK.out _ _ ⟨(bkc BK342.out 0).trans rfl,(bkc BK342.out 1).trans rfl,(bkc BK342.out 2).trans rfl,(bkc BK342.out 3).trans rfl,(bkc BK340.out 0).trans rfl,(bkc BK340.out 1).trans rfl,(bkc BK340.out 2).trans rfl,(bkc BK340.out 3).trans rfl,(bkc BK340.out 4).trans rfl,((HB.out.cell (blc w _ hw350_0)).trans hw350_0),((HB.out.cell (blc w _ hw350_1)).trans hw350_1),((HB.out.cell (blc w _ hw350_2)).trans hw350_2),((HB.out.cell (blc w _ hw350_3)).trans hw350_3),((HB.out.cell (blc w _ hw350_4)).trans hw350_4)⟩ (fun hHeld=>?_)
 clear hK K
 refine norm_ (a':=?_) ?_ ?_
 rotate_left
 ·
  show Act.put _ (some 74) _=_
  simp only [Act.put,List.setIfInBounds_toArray,List.set_cons_zero,List.set_cons_succ,i64_w,i32_w]
  rfl
 refine one_ (i:=9) (N:=some 75) #[true,true,true,true,true,true,true,true,true,true,false,false,false] rfl rfl (one_of HT_.out Z1) Z2 (fun K hK=>?_)
 refine value_ (w1:=?_) (v:=?_) Z9 rfl ?_ ?_
 rotate_left 2
 ·
  go_simp
  constructor
  ·
   rfl
  rfl
 refine hK.out _ _ ⟨(bkc (bka BK342.out _) 0).trans rfl,(bkc (bka BK342.out _) 1).trans rfl,(bkc (bka BK342.out _) 2).trans rfl,(bkc (bka BK342.out _) 3).trans rfl,(bkc (bka BK340.out _) 0).trans rfl,(bkc (bka BK340.out _) 1).trans rfl,(bkc (bka BK340.out _) 2).trans rfl,(bkc (bka BK340.out _) 3).trans rfl,(bkc (bka BK340.out _) 4).trans rfl,(World.cell?_alloc_lt _ _ _ (blc _ _ (((HB.out.cell (blc w _ hw350_0)).trans hw350_0)))).trans (((HB.out.cell (blc w _ hw350_0)).trans hw350_0)),(World.cell?_alloc_lt _ _ _ (blc _ _ (((HB.out.cell (blc w _ hw350_1)).trans hw350_1)))).trans (((HB.out.cell (blc w _ hw350_1)).trans hw350_1)),(World.cell?_alloc_lt _ _ _ (blc _ _ (((HB.out.cell (blc w _ hw350_2)).trans hw350_2)))).trans (((HB.out.cell (blc w _ hw350_2)).trans hw350_2)),(World.cell?_alloc_lt _ _ _ (blc _ _ (((HB.out.cell (blc w _ hw350_3)).trans hw350_3)))).trans (((HB.out.cell (blc w _ hw350_3)).trans hw350_3)),(World.cell?_alloc_lt _ _ _ (blc _ _ (((HB.out.cell (blc w _ hw350_4)).trans hw350_4)))).trans (((HB.out.cell (blc w _ hw350_4)).trans hw350_4))⟩ (fun hHeld=>?_)
 clear hK K
 refine norm_ (a':=?_) ?_ ?_
 rotate_left
 ·
  show Act.put _ (some 75) _=_
  simp only [Act.put,List.setIfInBounds_toArray,List.set_cons_zero,List.set_cons_succ,i64_w,i32_w]
  rfl
 refine one_ (i:=10) (N:=some 76) #[true,true,true,true,true,true,true,true,true,true,true,false,false] rfl rfl (one_of HT_.out Z1) Z2 (fun K hK=>?_)
 refine Kd.R_append_step k26 (w0:=w) w.heap.size Z9 (.tmp 67) (.tmp 75) 24 26 (.agg #[(.int .i64 0),(.string ⟨#[]⟩),(.slice none 0 0),(.slice none 0 0)]) 72 rfl Tryz.underlying24 info26 rfl Z2 Z14 u343003 x343003_3 (⟨t351,t352,t353,t356⟩:S26) [.int .i64 t351,.string t352,.slice Ao61 t353.length co61,.slice Ao62 t356.length co62] (fun k_=>some k_≠(u343002:Value).ownBlock∧k_≠gb341∧k_≠gb342) (fun k_=>((fun k_=>some k_≠(u343002:Value).ownBlock∧k_≠gb341∧k_≠gb342)) k_∧some k_≠(u343003:Value).ownBlock) rfl rfl ?aP (fun _ hk=>hk) ?aF ?aO ?aB ?aS ?aL ?_
 (case aP=>exact k26_mkM _ _ _ (⟨t351,t352,t353,t356⟩:S26) (Kd.R_mono (Kd.R_types (Kd.R_types (Kd.R_apart' (HO355.out) (Kd.R_typed HO_343003.out) Z2) BK341.out Z2) BK342.out Z2) (fun k_ hk=>⟨⟨hk.1.1.1.2,⟨hk.1.2,hk.2⟩⟩,hk.1.1.2⟩)) (Kd.R_mono (HO358.out) (fun k_ hk=>⟨⟨hk.1.1.1.2,⟨hk.1.2,hk.2⟩⟩,hk.1.1.2⟩)))
 (case aB=>exact Z23)
 (case aF=>exact (fun k_ hk=>⟨Kd.fresh' (Kd.R_lt (pR HO_343002.out)) k_ hk,Kd.freshB (g:=gb341) (o:=.cells #[.int .i64 0,.string (⟨#[]⟩:ByteArray),.slice none 0 0,.slice none 0 0] 26 (0,0)) (pB BK341.out) k_ hk,Kd.freshB (g:=gb342) (o:=.cells #[.int .i64 a1_0,.string x343001_2,u343002,u343003] 26 (0,0)) (pB BK342.out) k_ hk⟩))
 (case aO=>exact (by (with_reducible repeat (first | apply Kd.R_alloc | apply Kd.R_drewN | apply Kd.R_drew));exact Kd.R_mono HO_343003.out (fun _ hk=>⟨hk.1.1.1,⟨hk.1.1.2.1,hk.1.1.2.2⟩⟩)))
 (case aS=>exact (below_size Z23))
 (case aL=>have:=LMc54.out;omega)
 intro v360 w60 ho hb hg hat
 rw [← Ny359.out] at ho
 have n0_:=am (Kd.R_over' (pR HO_343002.out) (Kd.R_typed (pR HO_343003.out)) Z2 hg)
 have n1_:=am (blk_grown (g:=gb340) (o:=.cells #[.int .i64 a1_0,.int .i64 a1_1,.int .i64 a1_2,.slice A1_3 l1_3.length c1_3,.slice (some ad350) l1_4.length c1_4] 47 (0,0)) (pB BK340.out) hg (Kd.R_ne HO_343003.out BK340.out Z2))
 have n2_:=am (blk_grown (g:=gb341) (o:=.cells #[.int .i64 0,.string (⟨#[]⟩:ByteArray),.slice none 0 0,.slice none 0 0] 26 (0,0)) (pB BK341.out) hg (Kd.R_away HO_343003.out (fun _ hk=>hk.1.1.2.1)))
 have n3_:=am (blk_grown (g:=gb342) (o:=.cells #[.int .i64 a1_0,.string x343001_2,u343002,u343003] 26 (0,0)) (pB BK342.out) hg (Kd.R_away HO_343003.out (fun _ hk=>hk.1.1.2.2)))
 have n4_:=am (hb)
 have n5_:=am (ho)
 clear HO_343002;clear BK340;clear BK341;clear BK342;clear HB;clear HO_343003;clear HO355;clear HO358
 have HO_343002:=n0_
 have BK340:=n1_
 have BK341:=n2_
 have BK342:=n3_
 have HB:=n4_
 have HO361:=n5_
 clear n0_ n1_ n2_ n3_ n4_ n5_;clear ho hb hg hat
 obtain ⟨Ao63,co63,eo63⟩:=Kd.R_slice HO361.out
 (first | subst eo63 | (injection eo63 with f1_ f2_ f3_;have f4_:=f1_.symm;have f5_:=f3_.symm;clear f1_ f2_ f3_;subst f4_;subst f5_))
 refine hK.out _ _ ⟨(bkc BK342.out 0).trans rfl,(bkc BK342.out 1).trans rfl,(bkc BK342.out 2).trans rfl,(bkc BK342.out 3).trans rfl,(bkc BK340.out 0).trans rfl,(bkc BK340.out 1).trans rfl,(bkc BK340.out 2).trans rfl,(bkc BK340.out 3).trans rfl,(bkc BK340.out 4).trans rfl,((HB.out.cell (blc w _ hw350_0)).trans hw350_0),((HB.out.cell (blc w _ hw350_1)).trans hw350_1),((HB.out.cell (blc w _ hw350_2)).trans hw350_2),((HB.out.cell (blc w _ hw350_3)).trans hw350_3),((HB.out.cell (blc w _ hw350_4)).trans hw350_4)⟩ (fun hHeld=>?_)
 clear hK K
 refine norm_ (a':=?_) ?_ ?_
 rotate_left
 ·
  show Act.put _ (some 76) _=_
  simp only [Act.put,List.setIfInBounds_toArray,List.set_cons_zero,List.set_cons_succ,i64_w,i32_w]
  rfl
 refine pure_ (i:=11) (N:=some 77) (v:=?_) (a':=?_) #[true,true,true,true,true,true,true,true,true,true,true,true,false] rfl rfl (any_of HT_.out Z1) (fun _ _ _ h=>h) (Or.inl ⟨Z9,?_⟩) ?_ ?_
 rotate_left
 ·
  intro w'
  go_simp
  with_reducible rfl
 rotate_left
 ·
  simp only [Act.put,List.setIfInBounds_toArray,List.set_cons_zero,List.set_cons_succ,i64_w,i32_w]
  rfl
 refine last_ (i:=12) (N:=none) #[true,true,true,true,true,true,true,true,true,true,true,true,true] rfl rfl (one_of HT_.out Z1) Z2 (fun K hK=>?_)
 have hs64:w60.cell? ⟨gb342,3,none⟩=some (u343003):=(bkc BK342.out 3).trans rfl
 have hfs64:=bkf BK342.out 3
 have hns64_0:=NB340_342.out
 have hns64_1:=NB341_342.out
 have hms64_0:=NB342_340.out
 have hms64_1:=NB342_341.out
 refine skip_ (w1:=?_) Z9 rfl ?_ ?_
 rotate_left
 ·
  go_simp
  rfl
 refine hK.out _ _ ?_
 clear hK K
 refine done_ (done_of HT_.out Z1) ?_
 try go_wp2
 go_roundg k3
 case measure=>have:=HJ2.out;have:=HK2.out;have:=HK3.out;omega
 case rel=>exact ⟨(wrap64 (x7_3+1)),(y359),(.slice Ao63 y359.length co63),Z0,H',⟨by have:=HJ2.out;have:=HK2.out;have:=HK3.out;omega⟩,⟨by (with_reducible repeat (first | apply Kd.R_alloc | apply Kd.R_drewN | apply Kd.R_drew));exact Kd.R_mono (Kd.R_far (p:=⟨gb342,3,none⟩) (Kd.R_types HO_343002.out BK342.out Z2) (fun _ hk=>hk.2) (.slice Ao63 y359.length co63)) (fun _ hk=>trivial)⟩,⟨by (with_reducible repeat (first | apply Kd.R_alloc | apply Kd.R_drewN | apply Kd.R_drew));exact Kd.R_mono (Kd.R_far (p:=⟨gb342,3,none⟩) (Kd.R_mono HO361.out (fun k_ hk=>(⟨hk,hk.2.2⟩:_∧k_≠gb342))) (fun _ hk=>hk.2) (.slice Ao63 y359.length co63)) (fun _ hk=>⟨hk.1.1,⟨hk.1.2.1,hk.1.2.2⟩⟩)⟩,⟨Z48⟩,⟨Z49⟩,⟨by (with_reducible repeat (first | refine bkn ?_ _ | refine bkd ?_ | refine bka ?_ _));refine blk_put (cs:=#[.int .i64 a1_0,.string x343001_2,u343002,u343003]) ?_ 3 _ rfl;(with_reducible repeat (first | refine bkn ?_ _ | refine bkd ?_ | refine bka ?_ _));exact BK342.out⟩,⟨Z23⟩⟩
end Go.Proofs.YtieflhncpjjciaaGreatDoor.PFnGjSquashItems
