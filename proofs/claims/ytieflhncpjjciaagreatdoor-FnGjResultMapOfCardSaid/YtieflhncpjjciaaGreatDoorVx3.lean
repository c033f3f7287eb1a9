import Derived.Test.YtieflhncpjjciaaGreatDoorVq
import Derived.Test.YtieflhncpjjciaaGreatDoorVx0
import Derived.Test.YtieflhncpjjciaaGreatDoorVx1
import Derived.Test.YtieflhncpjjciaaGreatDoorVx2
set_option maxHeartbeats 8000000
set_option maxRecDepth 100000
namespace Go.Proofs.YtieflhncpjjciaaGreatDoor.PFnGjSquashItems
open Go.RowKit Go.Proofs.YtieflhncpjjciaaGreatDoorW.PrintWords Go.Proofs.YtieflhncpjjciaaGreatDoorW.PrintLast Go.Proofs.YtieflhncpjjciaaGreatDoorW.PrintMore
attribute [local go_sem] max2_int min2_int max_two min_two max_three min_three max_four min_four
set_option linter.unusedVariables false
set_option linter.unusedSimpArgs false
mutual
def spec_reader_members.l0:Nat→List (S121)→List (S47)→ByteArray→Int→Option ((List (S121))×(List (S47))×Bool×ByteArray×Int)
 | 0,_,_,_,_=>none
 | k+1,x5,x6,x1000,x1001=>(spec_reader_here.f x1000 x1001).bind fun bt157=>(if bt157.1=34 then ((spec_reader_quoted.f k bt157.2.1 bt157.2.2).bind fun bt160=>(spec_reader_members.j1 k x5 x6 x1001 (!bt160.1) bt160.2.1 bt160.2.2)) else (spec_reader_members.j1 k x5 x6 x1001 true bt157.2.1 bt157.2.2))
def spec_reader_members.j1:Nat→List (S121)→List (S47)→Int→Bool→ByteArray→Int→Option ((List (S121))×(List (S47))×Bool×ByteArray×Int)
 | 0,_,_,_,_,_,_=>none
 | k+1,x5,x6,x7,x32,x1000,x1001=>if x32=true then (some (([]:List (S121)),([]:List (S47)),false,x1000,x1001)) else (if x5.length<8796093022208 then ((some (x5 ++ [(⟨x7,x1001⟩:S121)]:List (S121))).bind fun y163=>((spec_reader_blanks.f k x1000 x1001).bind fun bt166=>((spec_reader_take.f bt166.1 bt166.2 58).bind fun bt168=>(if bt168.1=true then ((spec_reader_blanks.f k bt168.2.1 bt168.2.2).bind fun bt171=>((spec_reader_value.f k bt171.1 bt171.2).bind fun bt173=>(if bt173.2.2.2.2.2.1=true then (if x6.length<1954687338268 then ((some (x6 ++ [(⟨bt173.1,bt173.2.1,bt173.2.2.1,bt173.2.2.2.1,bt173.2.2.2.2.1⟩:S47)]:List (S47))).bind fun y186=>((spec_reader_blanks.f k bt173.2.2.2.2.2.2.1 bt173.2.2.2.2.2.2.2).bind fun bt189=>((spec_reader_take.f bt189.1 bt189.2 125).bind fun bt191=>(if bt191.1=true then (some (y163,y186,true,bt191.2.1,bt191.2.2)) else ((spec_reader_take.f bt191.2.1 bt191.2.2 44).bind fun bt194=>(if bt194.1=true then ((spec_reader_blanks.f k bt194.2.1 bt194.2.2).bind fun bt197=>(spec_reader_members.l0 k y163 y186 bt197.1 bt197.2)) else (some (([]:List (S121)),([]:List (S47)),false,bt194.2.1,bt194.2.2)))))))) else (none)) else (some (([]:List (S121)),([]:List (S47)),false,bt173.2.2.2.2.2.2.1,bt173.2.2.2.2.2.2.2))))) else (some (([]:List (S121)),([]:List (S47)),false,bt168.2.1,bt168.2.2)))))) else (none))
def spec_reader_members.f:Nat→ByteArray→Int→Option ((List (S121))×(List (S47))×Bool×ByteArray×Int)
 | 0,_,_=>none
 | k+1,s0_0,s0_1=>(spec_reader_blanks.f k s0_0 (wrap64 (s0_1+1))).bind fun bt152=>((spec_reader_take.f bt152.1 bt152.2 125).bind fun bt154=>(if bt154.1=true then (some (([]:List (S121)),([]:List (S47)),true,bt154.2.1,bt154.2.2)) else (spec_reader_members.l0 k ([]:List (S121)) ([]:List (S47)) bt154.2.1 bt154.2.2)))
def spec_reader_elements.l0:Nat→List (S47)→ByteArray→Int→Option ((List (S47))×Bool×ByteArray×Int)
 | 0,_,_,_=>none
 | k+1,x4,x1000,x1001=>(spec_reader_value.f k x1000 x1001).bind fun bt204=>(if bt204.2.2.2.2.2.1=true then (if x4.length<1954687338268 then ((some (x4 ++ [(⟨bt204.1,bt204.2.1,bt204.2.2.1,bt204.2.2.2.1,bt204.2.2.2.2.1⟩:S47)]:List (S47))).bind fun y217=>((spec_reader_blanks.f k bt204.2.2.2.2.2.2.1 bt204.2.2.2.2.2.2.2).bind fun bt220=>((spec_reader_take.f bt220.1 bt220.2 93).bind fun bt222=>(if bt222.1=true then (some (y217,true,bt222.2.1,bt222.2.2)) else ((spec_reader_take.f bt222.2.1 bt222.2.2 44).bind fun bt225=>(if bt225.1=true then ((spec_reader_blanks.f k bt225.2.1 bt225.2.2).bind fun bt228=>(spec_reader_elements.l0 k y217 bt228.1 bt228.2)) else (some (([]:List (S47)),false,bt225.2.1,bt225.2.2)))))))) else (none)) else (some (([]:List (S47)),false,bt204.2.2.2.2.2.2.1,bt204.2.2.2.2.2.2.2)))
def spec_reader_elements.f:Nat→ByteArray→Int→Option ((List (S47))×Bool×ByteArray×Int)
 | 0,_,_=>none
 | k+1,s0_0,s0_1=>(spec_reader_blanks.f k s0_0 (wrap64 (s0_1+1))).bind fun bt199=>((spec_reader_take.f bt199.1 bt199.2 93).bind fun bt201=>(if bt201.1=true then (some (([]:List (S47)),true,bt201.2.1,bt201.2.2)) else (spec_reader_elements.l0 k ([]:List (S47)) bt201.2.1 bt201.2.2)))
def spec_reader_value.j0:Nat→Bool→Bool→ByteArray→Int→Int→Int→Int→Option (Int×Int×Int×(List (S121))×(List (S47))×Bool×ByteArray×Int)
 | 0,_,_,_,_,_,_,_=>none
 | k+1,x5,x42,x1000,x1001,x232000,x232001,x232002=>if x42=true then ((spec_reader_number.f k x1000 x1001).bind fun bt253=>(some (3,x232001,bt253.2.2,([]:List (S121)),([]:List (S47)),bt253.1,bt253.2.1,bt253.2.2))) else ((spec_reader_word.f x1000 x1001 (⟨#[110,117,108,108]⟩:ByteArray)).bind fun bt256=>(if bt256.1=true then (some (0,x232001,bt256.2.2,([]:List (S121)),([]:List (S47)),x5,bt256.2.1,bt256.2.2)) else ((spec_reader_word.f bt256.2.1 bt256.2.2 (⟨#[102,97,108,115,101]⟩:ByteArray)).bind fun bt259=>(if bt259.1=true then (some (1,x232001,bt259.2.2,([]:List (S121)),([]:List (S47)),x5,bt259.2.1,bt259.2.2)) else ((spec_reader_word.f bt259.2.1 bt259.2.2 (⟨#[116,114,117,101]⟩:ByteArray)).bind fun bt262=>(if bt262.1=true then (some (2,x232001,bt262.2.2,([]:List (S121)),([]:List (S47)),x5,bt262.2.1,bt262.2.2)) else (some (x232000,x232001,bt262.2.2,([]:List (S121)),([]:List (S47)),false,bt262.2.1,bt262.2.2))))))))
def spec_reader_value.f:Nat→ByteArray→Int→Option (Int×Int×Int×(List (S121))×(List (S47))×Bool×ByteArray×Int)
 | 0,_,_=>none
 | k+1,s0_0,s0_1=>(spec_reader_here.f s0_0 s0_1).bind fun bt232=>(if bt232.1=123 then ((spec_reader_members.f k bt232.2.1 bt232.2.2).bind fun bt235=>(some (6,s0_1,bt235.2.2.2.2,bt235.1,bt235.2.1,bt235.2.2.1,bt235.2.2.2.1,bt235.2.2.2.2))) else (if bt232.1=91 then ((spec_reader_elements.f k bt232.2.1 bt232.2.2).bind fun bt244=>(some (5,s0_1,bt244.2.2.2,([]:List (S121)),bt244.1,bt244.2.1,bt244.2.2.1,bt244.2.2.2))) else (if bt232.1=34 then ((spec_reader_quoted.f k bt232.2.1 bt232.2.2).bind fun bt250=>(some (4,s0_1,bt250.2.2,([]:List (S121)),([]:List (S47)),bt250.1,bt250.2.1,bt250.2.2))) else (if bt232.1=45 then (spec_reader_value.j0 k true true bt232.2.1 bt232.2.2 0 s0_1 0) else (if 48≤bt232.1 then (spec_reader_value.j0 k true (decide (bt232.1≤57)) bt232.2.1 bt232.2.2 0 s0_1 0) else (spec_reader_value.j0 k true false bt232.2.1 bt232.2.2 0 s0_1 0))))))
end
theorem spec_reader_members.step (k:Nat) (ih_64_:∀ k_:Nat,k_<k→∀ (g:Nat) (s0_0:ByteArray) (s0_1:Int) (r1:List (S121)) (r2:List (S47)) (r3:Bool) (r4:ByteArray) (r5:Int) (w0 w:World) (hI:IsS72 w0 w g s0_0 s0_1) (hB:Below w0.heap.size w0 w) (h:spec_reader_members.f k_ s0_0 s0_1=some (r1,r2,r3,r4,r5)),
  Calls Tryz.prog 64 #[.pointer (some ⟨g,0,none⟩)] w fun e w'=>∃ v0_ v1_:Value,e = .returned (.tuple #[v0_,v1_,.bool r3])∧Kd.R k121 121 w' w.heap.size (fun _=>True) v0_ r1∧Kd.R k47 47 w' w.heap.size (fun k_=>some k_≠(v0_:Value).ownBlock) v1_ r2∧IsS72 w0 w' g r4 r5∧Below w0.heap.size w0 w'∧KeepBut w w' g none) (ih_65_:∀ k_:Nat,k_<k→∀ (g:Nat) (s0_0:ByteArray) (s0_1:Int) (r1:List (S47)) (r2:Bool) (r3:ByteArray) (r4:Int) (w0 w:World) (hI:IsS72 w0 w g s0_0 s0_1) (hB:Below w0.heap.size w0 w) (h:spec_reader_elements.f k_ s0_0 s0_1=some (r1,r2,r3,r4)),
  Calls Tryz.prog 65 #[.pointer (some ⟨g,0,none⟩)] w fun e w'=>∃ v0_:Value,e = .returned (.tuple #[v0_,.bool r2])∧Kd.R k47 47 w' w.heap.size (fun _=>True) v0_ r1∧IsS72 w0 w' g r3 r4∧Below w0.heap.size w0 w'∧KeepBut w w' g none) (ih_38_:∀ k_:Nat,k_<k→∀ (g:Nat) (s0_0:ByteArray) (s0_1:Int) (r1:Int) (r2:Int) (r3:Int) (r4:List (S121)) (r5:List (S47)) (r6:Bool) (r7:ByteArray) (r8:Int) (w0 w:World) (hI:IsS72 w0 w g s0_0 s0_1) (hB:Below w0.heap.size w0 w) (h:spec_reader_value.f k_ s0_0 s0_1=some (r1,r2,r3,r4,r5,r6,r7,r8)),
  Calls Tryz.prog 38 #[.pointer (some ⟨g,0,none⟩)] w fun e w'=>∃ v3_ v4_:Value,e = .returned (.tuple #[.agg #[.int .i64 r1,.int .i64 r2,.int .i64 r3,v3_,v4_],.bool r6])∧Kd.R k121 121 w' w.heap.size (fun _=>True) v3_ r4∧Kd.R k47 47 w' w.heap.size (fun k_=>some k_≠(v3_:Value).ownBlock) v4_ r5∧IsS72 w0 w' g r7 r8∧Below w0.heap.size w0 w'∧KeepBut w w' g none):∀ (g:Nat) (s0_0:ByteArray) (s0_1:Int) (r1:List (S121)) (r2:List (S47)) (r3:Bool) (r4:ByteArray) (r5:Int) (w0 w:World) (hI:IsS72 w0 w g s0_0 s0_1) (hB:Below w0.heap.size w0 w) (h:spec_reader_members.f k s0_0 s0_1=some (r1,r2,r3,r4,r5)),
  Calls Tryz.prog 64 #[.pointer (some ⟨g,0,none⟩)] w fun e w'=>∃ v0_ v1_:Value,e = .returned (.tuple #[v0_,v1_,.bool r3])∧Kd.R k121 121 w' w.heap.size (fun _=>True) v0_ r1∧Kd.R k47 47 w' w.heap.size (fun k_=>some k_≠(v0_:Value).ownBlock) v1_ r2∧IsS72 w0 w' g r4 r5∧Below w0.heap.size w0 w'∧KeepBut w w' g none:=by
 intro g s0_0 s0_1 r1 r2 r3 r4 r5 w0 w hI hB h
 cases k with
 | zero=>exact absurd h (by simp [spec_reader_members.f])
 | succ k=>
 simp only [spec_reader_members.f] at h
 have hu121:=Tryz.underlying121
 have hu47:=Tryz.underlying47
 have HI0:=am hI
 have HK:=am (KeepBut.refl w g none)
 have HL:=am hB.size
 clear hI
 have HW0:=am hB.size
 have HB:=am hB
 clear hB
 have H:((spec_reader_blanks.f k s0_0 (wrap64 (s0_1+1))).bind fun bt152=>((spec_reader_take.f bt152.1 bt152.2 125).bind fun bt154=>(if bt154.1=true then (some (([]:List (S121)),([]:List (S47)),true,bt154.2.1,bt154.2.2)) else (spec_reader_members.l0 k ([]:List (S121)) ([]:List (S47)) bt154.2.1 bt154.2.2))))=some (r1,r2,r3,r4,r5):=h
 clear h
 replace H:=obs H
 obtain ⟨⟨t152,t153⟩,A20,H⟩:=H
 dsimp only at H
 have A2:=am A20
 clear A20
 replace H:=obs H
 obtain ⟨⟨t154,t155,t156⟩,A30,H⟩:=H
 dsimp only at H
 have A3:=am A30
 clear A30
 have HC4:=am H
 clear H
 obtain ⟨HGz5,hgz5⟩:=HI0.out
 have hcz5_0:=cellS72_0 HGz5
 have hcz5_1:=cellS72_1 HGz5
 have hfz5_0:=bkf HGz5 0
 have hfz5_1:=bkf HGz5 1
 clear HGz5 hgz5
 go_enter Tryz.func64,Tryz.ntmps64
 go_upto_if 20 with (first | ((with_reducible refine gate_callee (f:=37) rfl ?_);refine goesL_ (some 18) rfl rfl Tryz.func37 Z1 rfl #[.pointer (some ⟨g,0,none⟩)] rfl Z10 ?_;(with_reducible refine (spec_reader_blanks.calls k g s0_0 (wrap64 (s0_1+1)) t152 t153 w0 _ ?side1 ?side2 A2.out).mono ?_);(case side1=>exact Z3);(case side2=>exact Z7);rintro e w6 ⟨rfl,hi,hb,hk⟩;refine ⟨_,rfl,?_⟩;have n0_:=am (KeepBut.trans Z4 hk (.inl rfl));have n1_:=am (hb);have n2_:=am (hi);clear HK;clear HB;clear HI0;have HK:=n0_;have HB:=n1_;have HI0:=n2_;clear n0_ n1_ n2_;(try clear hb);(try clear hb2);(try clear hk);(try clear hi)) | ((with_reducible refine gate_callee (f:=87) rfl ?_);refine goesL_ (some 20) rfl rfl Tryz.func87 Z1 rfl #[.pointer (some ⟨g,0,none⟩),.int .u8 125] rfl Z10 ?_;(with_reducible refine (spec_reader_take.calls g t152 t153 125 t154 t155 t156 w0 _ ?side1 ?side2 A3.out).mono ?_);(case side1=>exact Z3);(case side2=>exact Z7);rintro e w7 ⟨rfl,hi,hb,hk⟩;refine ⟨_,rfl,?_⟩;have n0_:=am (KeepBut.trans Z4 hk (.inl rfl));have n1_:=am (hb);have n2_:=am (hi);clear HK;clear HB;clear HI0;have HK:=n0_;have HB:=n1_;have HI0:=n2_;clear n0_ n1_ n2_;(try clear hb);(try clear hb2);(try clear hk);(try clear hi)))
 (try simp only [Act.put,List.setIfInBounds_toArray,List.set_cons_zero,List.set_cons_succ])
 have H:=HC4.out
 clear HC4
 by_cases c8:t154=true
 ·
  subst c8
  rw [if_pos rfl] at H
  simp only [Option.some.injEq,Prod.mk.injEq] at H
  obtain ⟨rfl,rfl,rfl,rfl,rfl⟩:=H
  go_wp2
  go_ret3
  exact ⟨_,_,Z12,Z13,Z13,Z3,Z7,Z4⟩
 replace c8:=bef c8
 subst c8
 rw [if_neg (show ¬ (false=true) from Z2)] at H
 have H':=am H
 clear H
 go_wp2
 (try simp only [Act.put,List.setIfInBounds_toArray,List.set_cons_succ,List.set_cons_zero])
 go_loopg [5,6] k (fun kq v5 v6 w'=>∃ (x5_1:List (S121)) (x6_1:List (S47)) (x1000_1:ByteArray) (x1001_1:Int),Aside0 (spec_reader_members.l0 kq x5_1 x6_1 x1000_1 x1001_1=some (r1,r2,r3,r4,r5))∧Aside0 (kq≤k)∧Aside0 (Kd.R k121 121 w' w.heap.size (fun _=>True) v5 x5_1)∧Aside0 (Kd.R k47 47 w' w.heap.size (fun k_=>some k_≠(v5:Value).ownBlock) v6 x6_1)∧Aside0 (IsS72 w0 w' g x1000_1 x1001_1)∧Aside0 (KeepBut w w' g none)∧Aside0 (Below w0.heap.size w0 w'))
 case atStart=>exact ⟨(([]:List (S121))),(([]:List (S47))),(t155),(t156),H',⟨Nat.le_refl _⟩,⟨Z13⟩,⟨Z13⟩,⟨Z3⟩,⟨Z4⟩,⟨Z7⟩⟩
 clear H'
 try clear p2;try clear c3;try clear c6;try clear p6;try clear c8;try clear hcz5_0;try clear hcz5_1;try clear hfz5_0;try clear hfz5_1
 obtain ⟨x5_1,x6_1,x1000_1,x1001_1,HA,HK1,HO_5,HO_6,HI0,HK,HB⟩:=hrel
 cases gk with
 | zero=>exact absurd HA.out (by simp [spec_reader_members.l0])
 | succ k1=>
 have H:=HA.out
 clear HA
 simp only [spec_reader_members.l0] at H
 have HC9:=am H
 clear H
 obtain ⟨HGz10,hgz10⟩:=HI0.out
 have hcz10_0:=cellS72_0 HGz10
 have hcz10_1:=cellS72_1 HGz10
 have hfz10_0:=bkf HGz10 0
 have hfz10_1:=bkf HGz10 1
 clear HGz10 hgz10
 go_upto_region 8 with (fail)
 go_cut [32] (fun v32 wc=>∃ (kq:Nat) (x32_8:Bool) (x1000_8:ByteArray) (x1001_8:Int),v32 = .bool x32_8∧Aside0 (spec_reader_members.j1 kq x5_1 x6_1 x1001_1 x32_8 x1000_8 x1001_8=some (r1,r2,r3,r4,r5))∧Aside0 (kq≤k1)∧Aside0 (Kd.R k121 121 wc w.heap.size (fun _=>True) u5 x5_1)∧Aside0 (Kd.R k47 47 wc w.heap.size (fun k_=>some k_≠(u5:Value).ownBlock) u6 x6_1)∧Aside0 (IsS72 w0 wc g x1000_8 x1001_8)∧Aside0 (KeepBut w wc g none)∧Aside0 (Below w0.heap.size w0 wc))
 case first=>
  have H:=HC9.out
  clear HC9
  replace H:=obs H
  obtain ⟨⟨t157,t158,t159⟩,A110,H⟩:=H
  dsimp only at H
  have A11:=am A110
  clear A110
  by_cases c12:t157=34
  rotate_left
  ·
   rw [if_neg c12] at H
   have c12b0:=bfe c12
   have c12b1:=bne_iff_ne.mpr c12
   (first | rw [c12b0] | (simp only [i64_w,i32_w];rw [c12b0]) | skip)
   have H':=am H
   clear H
   go_wp2_with (first | ((with_reducible refine gate_callee (f:=63) rfl ?_);refine goesL_ (some 26) rfl rfl Tryz.func63 Z1 rfl #[.pointer (some ⟨g,0,none⟩)] rfl Z10 ?_;(with_reducible refine (spec_reader_here.calls g x1000_1 x1001_1 t157 t158 t159 w0 _ ?side1 ?side2 A11.out).mono ?_);(case side1=>exact Z3);(case side2=>exact Z7);rintro e w16 ⟨rfl,hi,hb,hk⟩;refine ⟨_,rfl,?_⟩;have n0_:=am (Kd.R_mono (Kd.R_keep (IsS72.apart (show IsS72 w0 _ g x1000_1 x1001_1 from Z3) (pR HO_5.out) Z2) hk (fun _ h=>h.2)) (fun _ h=>h.1));have n1_:=am (Kd.R_mono (Kd.R_keep (IsS72.apart (show IsS72 w0 _ g x1000_1 x1001_1 from Z3) (pR HO_6.out) Z2) hk (fun _ h=>h.2)) (fun _ h=>h.1));have n2_:=am (KeepBut.trans Z4 hk (.inl rfl));have n3_:=am (hb);have n4_:=am (hi);clear HO_5;clear HO_6;clear HK;clear HB;clear HI0;have HO_5:=n0_;have HO_6:=n1_;have HK:=n2_;have HB:=n3_;have HI0:=n4_;clear n0_ n1_ n2_ n3_ n4_;(try clear hb);(try clear hb2);(try clear hk);(try clear hi)))
   go_meet
   case rel=>exact ⟨_,(true),(t158),(t159),Z0,H',⟨by have:=HK1.out;first | omega | exact Nat.le_refl _⟩,⟨pR HO_5.out⟩,⟨pR HO_6.out⟩,⟨Z3⟩,⟨Z4⟩,⟨Z7⟩⟩
  rw [if_pos c12] at H
  have c12b0:=beq_iff_eq.mpr c12
  have c12b1:=bnf c12
  clear c12
  (first | rw [c12b0] | (simp only [i64_w,i32_w];rw [c12b0]) | skip)
  replace H:=obs H
  obtain ⟨⟨t160,t161,t162⟩,A130,H⟩:=H
  dsimp only at H
  have A13:=am A130
  clear A130
  have H':=am H
  clear H
  go_wp2_with (first | ((with_reducible refine gate_callee (f:=63) rfl ?_);refine goesL_ (some 26) rfl rfl Tryz.func63 Z1 rfl #[.pointer (some ⟨g,0,none⟩)] rfl Z10 ?_;(with_reducible refine (spec_reader_here.calls g x1000_1 x1001_1 t157 t158 t159 w0 _ ?side1 ?side2 A11.out).mono ?_);(case side1=>exact Z3);(case side2=>exact Z7);rintro e w14 ⟨rfl,hi,hb,hk⟩;refine ⟨_,rfl,?_⟩;have n0_:=am (Kd.R_mono (Kd.R_keep (IsS72.apart (show IsS72 w0 _ g x1000_1 x1001_1 from Z3) (pR HO_5.out) Z2) hk (fun _ h=>h.2)) (fun _ h=>h.1));have n1_:=am (Kd.R_mono (Kd.R_keep (IsS72.apart (show IsS72 w0 _ g x1000_1 x1001_1 from Z3) (pR HO_6.out) Z2) hk (fun _ h=>h.2)) (fun _ h=>h.1));have n2_:=am (KeepBut.trans Z4 hk (.inl rfl));have n3_:=am (hb);have n4_:=am (hi);clear HO_5;clear HO_6;clear HK;clear HB;clear HI0;have HO_5:=n0_;have HO_6:=n1_;have HK:=n2_;have HB:=n3_;have HI0:=n4_;clear n0_ n1_ n2_ n3_ n4_;(try clear hb);(try clear hb2);(try clear hk);(try clear hi)) | (go_at_call 66;(with_reducible refine (spec_reader_quoted.calls k1 g t158 t159 t160 t161 t162 w0 _ ?side1 ?side2 A13.out).mono ?_);(case side1=>exact Z3);(case side2=>exact Z7);rintro e w15 ⟨rfl,hi,hb,hk⟩;have n0_:=am (Kd.R_mono (Kd.R_keep (IsS72.apart (show IsS72 w0 _ g t158 t159 from Z3) (pR HO_5.out) Z2) hk (fun _ h=>h.2)) (fun _ h=>h.1));have n1_:=am (Kd.R_mono (Kd.R_keep (IsS72.apart (show IsS72 w0 _ g t158 t159 from Z3) (pR HO_6.out) Z2) hk (fun _ h=>h.2)) (fun _ h=>h.1));have n2_:=am (KeepBut.trans Z4 hk (.inl rfl));have n3_:=am (hb);have n4_:=am (hi);clear HO_5;clear HO_6;clear HK;clear HB;clear HI0;have HO_5:=n0_;have HO_6:=n1_;have HK:=n2_;have HB:=n3_;have HI0:=n4_;clear n0_ n1_ n2_ n3_ n4_;(try clear hb);(try clear hb2);(try clear hk);(try clear hi)))
  go_meet
  case rel=>exact ⟨_,(!t160),(t161),(t162),Z0,H',⟨by have:=HK1.out;first | omega | exact Nat.le_refl _⟩,⟨pR HO_5.out⟩,⟨pR HO_6.out⟩,⟨Z3⟩,⟨Z4⟩,⟨Z7⟩⟩
 clear HC9;try clear c1;try clear p2;try clear c3;try clear c6;try clear p6;try clear c8;try clear c12;try clear c12b0;try clear c12b1;try clear hcz10_0;try clear hcz10_1;try clear hcz5_0;try clear hcz5_1;try clear hfz10_0;try clear hfz10_1;try clear hfz5_0;try clear hfz5_1;try clear p2;try clear p6
 obtain ⟨kq,x32_8,x1000_8,x1001_8,rfl,HA,HJ8,HO_5,HO_6,HI0,HK,HB⟩:=hcut
 cases kq with
 | zero=>exact absurd HA.out (by simp [spec_reader_members.j1])
 | succ kj8=>
 have H:=HA.out
 clear HA
 simp only [spec_reader_members.j1] at H
 by_cases c17:x32_8=true
 ·
  subst c17
  rw [if_pos rfl] at H
  simp only [Option.some.injEq,Prod.mk.injEq] at H
  obtain ⟨rfl,rfl,rfl,rfl,rfl⟩:=H
  go_wp2
  go_ret3
  exact ⟨_,_,Z12,Z13,Z13,Z3,Z7,Z4⟩
 replace c17:=bef c17
 subst c17
 rw [if_neg (show ¬ (false=true) from Z2)] at H
 by_cases c18:x5_1.length<8796093022208
 rotate_left
 ·
  rw [if_neg c18] at H
  exact absurd H Z6
 rw [if_pos c18] at H
 have LMc18:=am c18
 clear c18
 obtain ⟨y163,hy163⟩:∃ y_:List (S121),y_=(x5_1 ++ [(⟨x1001_1,x1001_8⟩:S121)]):=⟨_,rfl⟩
 first | replace H:=bind_y hy163 H | rw [← hy163] at H
 have Ny163:=am hy163
 clear hy163
 replace H:=obs H
 obtain ⟨⟨t166,t167⟩,A190,H⟩:=H
 dsimp only at H
 have A19:=am A190
 clear A190
 replace H:=obs H
 obtain ⟨⟨t168,t169,t170⟩,A200,H⟩:=H
 dsimp only at H
 have A20:=am A200
 clear A200
 have HC21:=am H
 clear H
 obtain ⟨HGz22,hgz22⟩:=HI0.out
 have hcz22_0:=cellS72_0 HGz22
 have hcz22_1:=cellS72_1 HGz22
 have hfz22_0:=bkf HGz22 0
 have hfz22_1:=bkf HGz22 1
 clear HGz22 hgz22
 go_upto_if 46 with (first | ((with_reducible refine gate_builtin (b:=.append) (xs:=#[.tmp 33,.tmp 40]) rfl ?_);at_builtin;refine Kd.R_append k121 w.heap.size rfl (.tmp 33) (.tmp 40) 44 121 (.agg #[(.int .i64 0),(.int .i64 0)]) 16 rfl Tryz.underlying44 info121 rfl Z2 Z14 u5 x5_1 (⟨x1001_1,x1001_8⟩:S121) [.int .i64 x1001_1,.int .i64 x1001_8] (fun _=>True) (fun _=>False) rfl rfl ?aP (fun _ hk=>hk.elim) ?aF ?aO (Below.refl _ _) ?aS ?aL ?_;(case aP=>exact k121_mkM _ _ _ (⟨x1001_1,x1001_8⟩:S121));(case aF=>exact (fun _ _=>trivial));(case aO=>exact (pR HO_5.out));(case aS=>exact (keep_size (w:=w) (g:=g) (row:=none) Z4));(case aL=>have:=LMc18.out;omega);intro v164 w23 ho hb hg hat;rw [← Ny163.out] at ho;have n0_:=am (Kd.R_after (ok:=(fun _=>True)) (by (with_reducible repeat (first | apply Kd.R_alloc | apply Kd.R_drewN | apply Kd.R_drew));exact Kd.R_mono HO_6.out (fun _ hk=>⟨trivial,hk⟩)) hg hat);have n1_:=am (IsS72.grown Z3 hg (IsS72.own_ne HI0.out HO_5.out Z2));have n2_:=am (below_weaken Z7 HL.out hb);have n3_:=am (KeepBut.trans Z4 (KeepBut.of_grown hg g) (Kd.R_base2 HO_5.out));have n4_:=am (ho);clear HO_6;clear HI0;clear HB;clear HK;clear HO_5;have HO_6:=n0_;have HI0:=n1_;have HB:=n2_;have HK:=n3_;have HO165:=n4_;clear n0_ n1_ n2_ n3_ n4_;clear ho hb hg hat) | ((with_reducible refine gate_callee (f:=37) rfl ?_);refine goesL_ (some 43) rfl rfl Tryz.func37 Z1 rfl #[.pointer (some ⟨g,0,none⟩)] rfl Z10 ?_;(with_reducible refine (spec_reader_blanks.calls kj8 g x1000_8 x1001_8 t166 t167 w0 _ ?side1 ?side2 A19.out).mono ?_);(case side1=>exact Z3);(case side2=>exact Z7);rintro e w24 ⟨rfl,hi,hb,hk⟩;refine ⟨_,rfl,?_⟩;have n0_:=am (Kd.R_mono (Kd.R_keep (IsS72.apart (show IsS72 w0 _ g x1000_8 x1001_8 from Z3) (pR HO_6.out) Z2) hk (fun _ h=>h.2)) (fun _ h=>h.1));have n1_:=am (Kd.R_mono (Kd.R_keep (IsS72.apart (show IsS72 w0 _ g x1000_8 x1001_8 from Z3) (pR HO165.out) Z2) hk (fun _ h=>h.2)) (fun _ h=>h.1));have n2_:=am (KeepBut.trans Z4 hk (.inl rfl));have n3_:=am (hb);have n4_:=am (hi);clear HO_6;clear HO165;clear HK;clear HB;clear HI0;have HO_6:=n0_;have HO165:=n1_;have HK:=n2_;have HB:=n3_;have HI0:=n4_;clear n0_ n1_ n2_ n3_ n4_;(try clear hb);(try clear hb2);(try clear hk);(try clear hi)) | ((with_reducible refine gate_callee (f:=87) rfl ?_);refine goesL_ (some 45) rfl rfl Tryz.func87 Z1 rfl #[.pointer (some ⟨g,0,none⟩),.int .u8 58] rfl Z10 ?_;(with_reducible refine (spec_reader_take.calls g t166 t167 58 t168 t169 t170 w0 _ ?side1 ?side2 A20.out).mono ?_);(case side1=>exact Z3);(case side2=>exact Z7);rintro e w25 ⟨rfl,hi,hb,hk⟩;refine ⟨_,rfl,?_⟩;have n0_:=am (Kd.R_mono (Kd.R_keep (IsS72.apart (show IsS72 w0 _ g t166 t167 from Z3) (pR HO_6.out) Z2) hk (fun _ h=>h.2)) (fun _ h=>h.1));have n1_:=am (Kd.R_mono (Kd.R_keep (IsS72.apart (show IsS72 w0 _ g t166 t167 from Z3) (pR HO165.out) Z2) hk (fun _ h=>h.2)) (fun _ h=>h.1));have n2_:=am (KeepBut.trans Z4 hk (.inl rfl));have n3_:=am (hb);have n4_:=am (hi);clear HO_6;clear HO165;clear HK;clear HB;clear HI0;have HO_6:=n0_;have HO165:=n1_;have HK:=n2_;have HB:=n3_;have HI0:=n4_;clear n0_ n1_ n2_ n3_ n4_;(try clear hb);(try clear hb2);(try clear hk);(try clear hi)))
 (try simp only [Act.put,List.setIfInBounds_toArray,List.set_cons_zero,List.set_cons_succ])
 have H:=HC21.out
 clear HC21
 by_cases c26:t168=true
 rotate_left
 ·
  replace c26:=bef c26
  subst c26
  rw [if_neg (show ¬ (false=true) from Z2)] at H
  simp only [Option.some.injEq,Prod.mk.injEq] at H
  obtain ⟨rfl,rfl,rfl,rfl,rfl⟩:=H
  go_wp2
  go_ret3
  exact ⟨_,_,Z12,Z13,Z13,Z3,Z7,Z4⟩
 subst c26
 rw [if_pos rfl] at H
 replace H:=obs H
 obtain ⟨⟨t171,t172⟩,A270,H⟩:=H
 dsimp only at H
 have A27:=am A270
 clear A270
 replace H:=obs H
 obtain ⟨⟨t173,t174,t175,t176,t179,t182,t183,t184⟩,A280,H⟩:=H
 dsimp only at H
 have A28:=am A280
 clear A280
 have HC29:=am H
 clear H
 go_upto_if 55 with (first | ((with_reducible refine gate_callee (f:=37) rfl ?_);refine goesL_ (some 48) rfl rfl Tryz.func37 Z1 rfl #[.pointer (some ⟨g,0,none⟩)] rfl Z10 ?_;(with_reducible refine (spec_reader_blanks.calls kj8 g t169 t170 t171 t172 w0 _ ?side1 ?side2 A27.out).mono ?_);(case side1=>exact Z3);(case side2=>exact Z7);rintro e w30 ⟨rfl,hi,hb,hk⟩;refine ⟨_,rfl,?_⟩;have n0_:=am (Kd.R_mono (Kd.R_keep (IsS72.apart (show IsS72 w0 _ g t169 t170 from Z3) (pR HO_6.out) Z2) hk (fun _ h=>h.2)) (fun _ h=>h.1));have n1_:=am (Kd.R_mono (Kd.R_keep (IsS72.apart (show IsS72 w0 _ g t169 t170 from Z3) (pR HO165.out) Z2) hk (fun _ h=>h.2)) (fun _ h=>h.1));have n2_:=am (KeepBut.trans Z4 hk (.inl rfl));have n3_:=am (hb);have n4_:=am (hi);clear HO_6;clear HO165;clear HK;clear HB;clear HI0;have HO_6:=n0_;have HO165:=n1_;have HK:=n2_;have HB:=n3_;have HI0:=n4_;clear n0_ n1_ n2_ n3_ n4_;(try clear hb);(try clear hb2);(try clear hk);(try clear hi)) | ((with_reducible refine gate_callee (f:=38) rfl ?_);refine goesL_ (some 51) rfl rfl Tryz.func38 Z1 rfl #[.pointer (some ⟨g,0,none⟩)] rfl Z10 ?_;(with_reducible refine (ih_38_ kj8 (by have:=HK1.out;have:=HJ8.out;omega) g t171 t172 t173 t174 t175 t176 t179 t182 t183 t184 w0 _ ?side1 ?side2 A28.out).mono ?_);(case side1=>exact Z3);(case side2=>exact Z7);rintro e w31 ⟨v177,v180,rfl,ho0,ho1,hi,hb,hk⟩;refine ⟨_,rfl,?_⟩;have n0_:=am (Kd.R_mono (Kd.R_told (Kd.R_told (Kd.R_oldK (IsS72.apart (show IsS72 w0 _ g t171 t172 from Z3) (pR HO_6.out) Z2) hk) (Kd.R_base ho0)) (Kd.R_base ho1)) (fun _ h_=>h_.1));have n1_:=am (Kd.R_mono (Kd.R_told (Kd.R_oldK (IsS72.apart (show IsS72 w0 _ g t171 t172 from Z3) (pR HO165.out) Z2) hk) (Kd.R_base ho0)) (fun _ h_=>h_.1));have n2_:=am (Kd.R_lower (Kd.R_new' ho0 (Kd.R_lt (pR HO165.out))) (keep_size (w:=w) (g:=g) (row:=none) Z4));have n3_:=am (Kd.R_lower (Kd.R_new' (Kd.R_new' ho1 (Kd.R_lt (pR HO_6.out))) (Kd.R_lt (pR HO165.out))) (keep_size (w:=w) (g:=g) (row:=none) Z4));have n4_:=am (KeepBut.trans Z4 hk (.inl rfl));have n5_:=am (hb);have n6_:=am (hi);clear HO_6;clear HO165;clear HK;clear HB;clear HI0;have HO_6:=n0_;have HO165:=n1_;have HO178:=n2_;have HO181:=n3_;have HK:=n4_;have HB:=n5_;have HI0:=n6_;clear n0_ n1_ n2_ n3_ n4_ n5_ n6_;(try clear hb);(try clear hb2);(try clear hk);(try clear hi);(try clear ho0);(try clear ho1)) | ((with_reducible refine gate_dst (N:=8) rfl ?_);refine box_event ?hg (N:=8) ?hd (cs:=#[.int .i64 0,.int .i64 0,.int .i64 0,.slice none 0 0,.slice none 0 0]) (t:=47) ?hr ?_;(case hd=>exact Z9);(case hg=>exact Z9);(case hr=>exact Z17);intro gb185 hg w32 hbox hb;have n0_:=am (Kd.R_below (Kd.R_elderB (pR HO_6.out) gb185 (Nat.le_of_eq hg.symm)) hb);have n1_:=am (Kd.R_below (pR HO165.out) hb);have n2_:=am (Kd.R_below (pR HO178.out) hb);have n3_:=am (Kd.R_below (Kd.R_elderB (pR HO181.out) gb185 (Nat.le_of_eq hg.symm)) hb);have n4_:=am (IsS72.below Z3 hb);have n5_:=am (KeepBut.trans Z4 (KeepBut.of_below hb g none) (.inl rfl));have n6_:=am (below_step Z7 hb);have n7_:=am (hbox);have n8_:=am ((Z77:w.heap.size≤gb185));have n9_:=am ((Nat.le_trans HW0.out (Z77:w.heap.size≤gb185):w0.heap.size≤gb185));have n10_:=am ((by rw [hg];exact Nat.ne_of_lt (IsS72.lt (show IsS72 w0 _ g t183 t184 from Z3)):g≠gb185));have n11_:=am ((by rw [hg];exact Nat.ne_of_gt (IsS72.lt (show IsS72 w0 _ g t183 t184 from Z3)):gb185≠g));clear HO_6;clear HO165;clear HO178;clear HO181;clear HI0;clear HK;clear HB;have HO_6:=n0_;have HO165:=n1_;have HO178:=n2_;have HO181:=n3_;have HI0:=n4_;have HK:=n5_;have HB:=n6_;have BK185:=n7_;have GW185:=n8_;have GE185:=n9_;have NB0_185:=n10_;have NB185_0:=n11_;clear n0_ n1_ n2_ n3_ n4_ n5_ n6_ n7_ n8_ n9_ n10_ n11_;clear hb hbox hg;have hnb33:=NB185_0.out;have hnc33:=NB0_185.out;have hcz34_0:w32.cell? ⟨gb185,0,none⟩=some (.int .i64 0):=(bkc BK185.out 0).trans rfl;have hcz34_1:w32.cell? ⟨gb185,1,none⟩=some (.int .i64 0):=(bkc BK185.out 1).trans rfl;have hcz34_2:w32.cell? ⟨gb185,2,none⟩=some (.int .i64 0):=(bkc BK185.out 2).trans rfl;have hcz34_3:w32.cell? ⟨gb185,3,none⟩=some (.slice none 0 0):=(bkc BK185.out 3).trans rfl;have hcz34_4:w32.cell? ⟨gb185,4,none⟩=some (.slice none 0 0):=(bkc BK185.out 4).trans rfl;have hfz34_0:=bkf BK185.out 0;have hfz34_1:=bkf BK185.out 1;have hfz34_2:=bkf BK185.out 2;have hfz34_3:=bkf BK185.out 3;have hfz34_4:=bkf BK185.out 4;obtain ⟨Ao35,co35,eo35⟩:=Kd.R_slice HO178.out;subst eo35;obtain ⟨Ao36,co36,eo36⟩:=Kd.R_slice HO181.out;subst eo36))
 have n0_:Aside0 (Kd.R k47 47 (((((w32.setCell ⟨gb185,0,none⟩ (.int .i64 t173)).setCell ⟨gb185,1,none⟩ (.int .i64 t174)).setCell ⟨gb185,2,none⟩ (.int .i64 t175)).setCell ⟨gb185,3,none⟩ (.slice Ao35 t176.length co35)).setCell ⟨gb185,4,none⟩ (.slice Ao36 t179.length co36)) w.heap.size (fun k_=>some k_≠(v164:Value).ownBlock∧some k_≠(.slice Ao35 t176.length co35:Value).ownBlock∧some k_≠(.slice Ao36 t179.length co36:Value).ownBlock∧k_≠gb185) u6 x6_1):=⟨by (with_reducible repeat (first | apply Kd.R_alloc | apply Kd.R_drewN | apply Kd.R_drew));exact Kd.R_mono (Kd.R_far (p:=⟨gb185,4,none⟩) (Kd.R_far (p:=⟨gb185,3,none⟩) (Kd.R_far (p:=⟨gb185,2,none⟩) (Kd.R_far (p:=⟨gb185,1,none⟩) (Kd.R_far (p:=⟨gb185,0,none⟩) (Kd.R_mono HO_6.out (fun k_ hk=>(⟨hk,hk.2⟩:_∧k_≠gb185))) (fun _ hk=>hk.2) (.int .i64 t173)) (fun _ hk=>hk.2) (.int .i64 t174)) (fun _ hk=>hk.2) (.int .i64 t175)) (fun _ hk=>hk.2) (.slice Ao35 t176.length co35)) (fun _ hk=>hk.2) (.slice Ao36 t179.length co36)) (fun _ hk=>⟨hk.1.1.1.1.2,⟨hk.1.1.1.2,⟨hk.1.1.2,hk.1.2⟩⟩⟩)⟩
 have n1_:Aside0 (Kd.R k121 121 (((((w32.setCell ⟨gb185,0,none⟩ (.int .i64 t173)).setCell ⟨gb185,1,none⟩ (.int .i64 t174)).setCell ⟨gb185,2,none⟩ (.int .i64 t175)).setCell ⟨gb185,3,none⟩ (.slice Ao35 t176.length co35)).setCell ⟨gb185,4,none⟩ (.slice Ao36 t179.length co36)) w.heap.size (fun k_=>some k_≠(.slice Ao35 t176.length co35:Value).ownBlock) v164 y163):=⟨by (with_reducible repeat (first | apply Kd.R_alloc | apply Kd.R_drewN | apply Kd.R_drew));exact Kd.R_mono (Kd.R_far (p:=⟨gb185,4,none⟩) (Kd.R_far (p:=⟨gb185,3,none⟩) (Kd.R_far (p:=⟨gb185,2,none⟩) (Kd.R_far (p:=⟨gb185,1,none⟩) (Kd.R_far (p:=⟨gb185,0,none⟩) (Kd.R_types HO165.out BK185.out Z2) (fun _ hk=>hk.2) (.int .i64 t173)) (fun _ hk=>hk.2) (.int .i64 t174)) (fun _ hk=>hk.2) (.int .i64 t175)) (fun _ hk=>hk.2) (.slice Ao35 t176.length co35)) (fun _ hk=>hk.2) (.slice Ao36 t179.length co36)) (fun _ hk=>hk.1.2)⟩
 have n2_:Aside0 (Kd.R k121 121 (((((w32.setCell ⟨gb185,0,none⟩ (.int .i64 t173)).setCell ⟨gb185,1,none⟩ (.int .i64 t174)).setCell ⟨gb185,2,none⟩ (.int .i64 t175)).setCell ⟨gb185,3,none⟩ (.slice Ao35 t176.length co35)).setCell ⟨gb185,4,none⟩ (.slice Ao36 t179.length co36)) w.heap.size (fun k_=>some k_≠(v164:Value).ownBlock) (.slice Ao35 t176.length co35) t176):=⟨by (with_reducible repeat (first | apply Kd.R_alloc | apply Kd.R_drewN | apply Kd.R_drew));exact Kd.R_mono (Kd.R_far (p:=⟨gb185,4,none⟩) (Kd.R_far (p:=⟨gb185,3,none⟩) (Kd.R_far (p:=⟨gb185,2,none⟩) (Kd.R_far (p:=⟨gb185,1,none⟩) (Kd.R_far (p:=⟨gb185,0,none⟩) (Kd.R_types HO178.out BK185.out Z2) (fun _ hk=>hk.2) (.int .i64 t173)) (fun _ hk=>hk.2) (.int .i64 t174)) (fun _ hk=>hk.2) (.int .i64 t175)) (fun _ hk=>hk.2) (.slice Ao35 t176.length co35)) (fun _ hk=>hk.2) (.slice Ao36 t179.length co36)) (fun _ hk=>hk.1.2)⟩
 have n3_:Aside0 (Kd.R k47 47 (((((w32.setCell ⟨gb185,0,none⟩ (.int .i64 t173)).setCell ⟨gb185,1,none⟩ (.int .i64 t174)).setCell ⟨gb185,2,none⟩ (.int .i64 t175)).setCell ⟨gb185,3,none⟩ (.slice Ao35 t176.length co35)).setCell ⟨gb185,4,none⟩ (.slice Ao36 t179.length co36)) w.heap.size (fun k_=>some k_≠(u6:Value).ownBlock∧some k_≠(v164:Value).ownBlock∧some k_≠(.slice Ao35 t176.length co35:Value).ownBlock∧k_≠gb185) (.slice Ao36 t179.length co36) t179):=⟨by (with_reducible repeat (first | apply Kd.R_alloc | apply Kd.R_drewN | apply Kd.R_drew));exact Kd.R_mono (Kd.R_far (p:=⟨gb185,4,none⟩) (Kd.R_far (p:=⟨gb185,3,none⟩) (Kd.R_far (p:=⟨gb185,2,none⟩) (Kd.R_far (p:=⟨gb185,1,none⟩) (Kd.R_far (p:=⟨gb185,0,none⟩) (Kd.R_mono HO181.out (fun k_ hk=>(⟨hk,hk.2⟩:_∧k_≠gb185))) (fun _ hk=>hk.2) (.int .i64 t173)) (fun _ hk=>hk.2) (.int .i64 t174)) (fun _ hk=>hk.2) (.int .i64 t175)) (fun _ hk=>hk.2) (.slice Ao35 t176.length co35)) (fun _ hk=>hk.2) (.slice Ao36 t179.length co36)) (fun _ hk=>⟨hk.1.1.1.2,⟨hk.1.1.2,⟨hk.1.1.1.1,hk.1.2⟩⟩⟩)⟩
 have n4_:Aside0 ((((((w32.setCell ⟨gb185,0,none⟩ (.int .i64 t173)).setCell ⟨gb185,1,none⟩ (.int .i64 t174)).setCell ⟨gb185,2,none⟩ (.int .i64 t175)).setCell ⟨gb185,3,none⟩ (.slice Ao35 t176.length co35)).setCell ⟨gb185,4,none⟩ (.slice Ao36 t179.length co36)).heap[gb185]? = some (.cells #[.int .i64 t173,.int .i64 t174,.int .i64 t175,.slice Ao35 t176.length co35,.slice Ao36 t179.length co36] 47 (0,0))):=⟨by (with_reducible repeat (first | refine bkn ?_ _ | refine bkd ?_ | refine bka ?_ _));refine blk_put (cs:=#[.int .i64 t173,.int .i64 t174,.int .i64 t175,.slice Ao35 t176.length co35,.slice none 0 0]) ?_ 4 _ rfl;(with_reducible repeat (first | refine bkn ?_ _ | refine bkd ?_ | refine bka ?_ _));refine blk_put (cs:=#[.int .i64 t173,.int .i64 t174,.int .i64 t175,.slice none 0 0,.slice none 0 0]) ?_ 3 _ rfl;(with_reducible repeat (first | refine bkn ?_ _ | refine bkd ?_ | refine bka ?_ _));refine blk_put (cs:=#[.int .i64 t173,.int .i64 t174,.int .i64 0,.slice none 0 0,.slice none 0 0]) ?_ 2 _ rfl;(with_reducible repeat (first | refine bkn ?_ _ | refine bkd ?_ | refine bka ?_ _));refine blk_put (cs:=#[.int .i64 t173,.int .i64 0,.int .i64 0,.slice none 0 0,.slice none 0 0]) ?_ 1 _ rfl;(with_reducible repeat (first | refine bkn ?_ _ | refine bkd ?_ | refine bka ?_ _));refine blk_put (cs:=#[.int .i64 0,.int .i64 0,.int .i64 0,.slice none 0 0,.slice none 0 0]) ?_ 0 _ rfl;(with_reducible repeat (first | refine bkn ?_ _ | refine bkd ?_ | refine bka ?_ _));exact BK185.out⟩
 have n5_:Aside0 (IsS72 w0 (((((w32.setCell ⟨gb185,0,none⟩ (.int .i64 t173)).setCell ⟨gb185,1,none⟩ (.int .i64 t174)).setCell ⟨gb185,2,none⟩ (.int .i64 t175)).setCell ⟨gb185,3,none⟩ (.slice Ao35 t176.length co35)).setCell ⟨gb185,4,none⟩ (.slice Ao36 t179.length co36)) g t183 t184):=⟨Z22⟩
 have n6_:Aside0 (KeepBut w (((((w32.setCell ⟨gb185,0,none⟩ (.int .i64 t173)).setCell ⟨gb185,1,none⟩ (.int .i64 t174)).setCell ⟨gb185,2,none⟩ (.int .i64 t175)).setCell ⟨gb185,3,none⟩ (.slice Ao35 t176.length co35)).setCell ⟨gb185,4,none⟩ (.slice Ao36 t179.length co36)) g none):=⟨Z25⟩
 have n7_:Aside0 (Below w0.heap.size w0 (((((w32.setCell ⟨gb185,0,none⟩ (.int .i64 t173)).setCell ⟨gb185,1,none⟩ (.int .i64 t174)).setCell ⟨gb185,2,none⟩ (.int .i64 t175)).setCell ⟨gb185,3,none⟩ (.slice Ao35 t176.length co35)).setCell ⟨gb185,4,none⟩ (.slice Ao36 t179.length co36))):=⟨Z27⟩
 (try clear HO_6)
 (try clear HO165)
 (try clear HO178)
 (try clear HO181)
 (try clear BK185)
 (try clear HI0)
 (try clear HK)
 (try clear HB)
 generalize (((((w32.setCell ⟨gb185,0,none⟩ (.int .i64 t173)).setCell ⟨gb185,1,none⟩ (.int .i64 t174)).setCell ⟨gb185,2,none⟩ (.int .i64 t175)).setCell ⟨gb185,3,none⟩ (.slice Ao35 t176.length co35)).setCell ⟨gb185,4,none⟩ (.slice Ao36 t179.length co36))=w37 at n0_ n1_ n2_ n3_ n4_ n5_ n6_ n7_ ⊢
 have HO_6:=n0_
 have HO165:=n1_
 have HO178:=n2_
 have HO181:=n3_
 have BK185:=n4_
 have HI0:=n5_
 have HK:=n6_
 have HB:=n7_
 clear n0_ n1_ n2_ n3_ n4_ n5_ n6_ n7_
 (try simp only [Act.put,List.setIfInBounds_toArray,List.set_cons_zero,List.set_cons_succ])
 have H:=HC29.out
 clear HC29
 by_cases c38:t182=true
 rotate_left
 ·
  replace c38:=bef c38
  subst c38
  rw [if_neg (show ¬ (false=true) from Z2)] at H
  simp only [Option.some.injEq,Prod.mk.injEq] at H
  obtain ⟨rfl,rfl,rfl,rfl,rfl⟩:=H
  go_wp2
  go_ret3
  exact ⟨_,_,Z12,Z13,Z13,Z22,Z27,Z25⟩
 subst c38
 rw [if_pos rfl] at H
 by_cases c39:x6_1.length<1954687338268
 rotate_left
 ·
  rw [if_neg c39] at H
  exact absurd H Z6
 rw [if_pos c39] at H
 have LMc39:=am c39
 clear c39
 obtain ⟨y186,hy186⟩:∃ y_:List (S47),y_=(x6_1 ++ [(⟨t173,t174,t175,t176,t179⟩:S47)]):=⟨_,rfl⟩
 first | replace H:=bind_y hy186 H | rw [← hy186] at H
 have Ny186:=am hy186
 clear hy186
 replace H:=obs H
 obtain ⟨⟨t189,t190⟩,A400,H⟩:=H
 dsimp only at H
 have A40:=am A400
 clear A400
 replace H:=obs H
 obtain ⟨⟨t191,t192,t193⟩,A410,H⟩:=H
 dsimp only at H
 have A41:=am A410
 clear A410
 have HC42:=am H
 clear H
 have hnb43:=NB185_0.out
 have hnc43:=NB0_185.out
 have hcz44_0:w37.cell? ⟨gb185,0,none⟩=some (.int .i64 t173):=(bkc BK185.out 0).trans rfl
 have hcz44_1:w37.cell? ⟨gb185,1,none⟩=some (.int .i64 t174):=(bkc BK185.out 1).trans rfl
 have hcz44_2:w37.cell? ⟨gb185,2,none⟩=some (.int .i64 t175):=(bkc BK185.out 2).trans rfl
 have hcz44_3:w37.cell? ⟨gb185,3,none⟩=some (.slice Ao35 t176.length co35):=(bkc BK185.out 3).trans rfl
 have hcz44_4:w37.cell? ⟨gb185,4,none⟩=some (.slice Ao36 t179.length co36):=(bkc BK185.out 4).trans rfl
 have hfz44_0:=bkf BK185.out 0
 have hfz44_1:=bkf BK185.out 1
 have hfz44_2:=bkf BK185.out 2
 have hfz44_3:=bkf BK185.out 3
 have hfz44_4:=bkf BK185.out 4
 go_upto_if 63 with (first | ((with_reducible refine gate_builtin (b:=.append) (xs:=#[.tmp 56,.tmp 58]) rfl ?_);at_builtin;refine Kd.R_append k47 w.heap.size rfl (.tmp 56) (.tmp 58) 45 47 (.agg #[(.int .i64 0),(.int .i64 0),(.int .i64 0),(.slice none 0 0),(.slice none 0 0)]) 72 rfl Tryz.underlying45 info47 rfl Z2 Z14 u6 x6_1 (⟨t173,t174,t175,t176,t179⟩:S47) [.int .i64 t173,.int .i64 t174,.int .i64 t175,.slice Ao35 t176.length co35,.slice Ao36 t179.length co36] (fun k_=>some k_≠(v164:Value).ownBlock∧k_≠gb185) (fun k_=>((fun k_=>some k_≠(v164:Value).ownBlock∧k_≠gb185)) k_∧some k_≠(u6:Value).ownBlock) rfl rfl ?aP (fun _ hk=>hk) ?aF ?aO (Below.refl _ _) ?aS ?aL ?_;(case aP=>exact k47_mkM _ _ _ (⟨t173,t174,t175,t176,t179⟩:S47) (Kd.R_mono (Kd.R_types (Kd.R_apart' (HO178.out) (Kd.R_typed HO_6.out) Z2) BK185.out Z2) (fun k_ hk=>⟨⟨hk.1.1,hk.2⟩,hk.1.2⟩)) (Kd.R_mono (HO181.out) (fun k_ hk=>⟨⟨hk.2.1,hk.2.2.2⟩,hk.1⟩)));(case aF=>exact (fun k_ hk=>⟨Kd.fresh' (Kd.R_lt (pR HO165.out)) k_ hk,Kd.freshB (g:=gb185) (o:=.cells #[.int .i64 t173,.int .i64 t174,.int .i64 t175,.slice Ao35 t176.length co35,.slice Ao36 t179.length co36] 47 (0,0)) (pB BK185.out) k_ hk⟩));(case aO=>exact (by (with_reducible repeat (first | apply Kd.R_alloc | apply Kd.R_drewN | apply Kd.R_drew));exact Kd.R_mono HO_6.out (fun _ hk=>⟨hk.1,hk.2.2.2⟩)));(case aS=>exact (keep_size (w:=w) (g:=g) (row:=none) Z25));(case aL=>have:=LMc39.out;omega);intro v187 w45 ho hb hg hat;rw [← Ny186.out] at ho;have n0_:=am (IsS72.grown Z22 hg (IsS72.own_ne HI0.out HO_6.out Z2));have n1_:=am (Kd.R_over' (pR HO165.out) (Kd.R_typed (pR HO_6.out)) Z2 hg);have n2_:=am (blk_grown (g:=gb185) (o:=.cells #[.int .i64 t173,.int .i64 t174,.int .i64 t175,.slice Ao35 t176.length co35,.slice Ao36 t179.length co36] 47 (0,0)) (pB BK185.out) hg (Kd.R_away HO_6.out (fun _ hk=>hk.2.2.2)));have n3_:=am (below_weaken Z27 HL.out hb);have n4_:=am (KeepBut.trans Z25 (KeepBut.of_grown hg g) (Kd.R_base2 HO_6.out));have n5_:=am (ho);clear HI0;clear HO165;clear BK185;clear HB;clear HK;clear HO_6;clear HO178;clear HO181;have HI0:=n0_;have HO165:=n1_;have BK185:=n2_;have HB:=n3_;have HK:=n4_;have HO188:=n5_;clear n0_ n1_ n2_ n3_ n4_ n5_;clear ho hb hg hat) | ((with_reducible refine gate_callee (f:=37) rfl ?_);refine goesL_ (some 61) rfl rfl Tryz.func37 Z1 rfl #[.pointer (some ⟨g,0,none⟩)] rfl Z10 ?_;(with_reducible refine (spec_reader_blanks.calls kj8 g t183 t184 t189 t190 w0 _ ?side1 ?side2 A40.out).mono ?_);(case side1=>exact Z22);(case side2=>exact Z27);rintro e w46 ⟨rfl,hi,hb,hk⟩;refine ⟨_,rfl,?_⟩;have n0_:=am (Kd.R_mono (Kd.R_keep (IsS72.apart (show IsS72 w0 _ g t183 t184 from Z22) (pR HO165.out) Z2) hk (fun _ h=>h.2)) (fun _ h=>h.1));have n1_:=am (KeepBut.blk hk (g':=gb185) (o:=.cells #[.int .i64 t173,.int .i64 t174,.int .i64 t175,.slice Ao35 t176.length co35,.slice Ao36 t179.length co36] 47 (0,0)) (pB BK185.out) NB185_0.out Z6);have n2_:=am (Kd.R_mono (Kd.R_keep (IsS72.apart (show IsS72 w0 _ g t183 t184 from Z22) (pR HO188.out) Z2) hk (fun _ h=>h.2)) (fun _ h=>h.1));have n3_:=am (KeepBut.trans Z25 hk (.inl rfl));have n4_:=am (hb);have n5_:=am (hi);clear HO165;clear BK185;clear HO188;clear HK;clear HB;clear HI0;have HO165:=n0_;have BK185:=n1_;have HO188:=n2_;have HK:=n3_;have HB:=n4_;have HI0:=n5_;clear n0_ n1_ n2_ n3_ n4_ n5_;(try clear hb);(try clear hb2);(try clear hk);(try clear hi)) | ((with_reducible refine gate_callee (f:=87) rfl ?_);refine goesL_ (some 63) rfl rfl Tryz.func87 Z1 rfl #[.pointer (some ⟨g,0,none⟩),.int .u8 125] rfl Z10 ?_;(with_reducible refine (spec_reader_take.calls g t189 t190 125 t191 t192 t193 w0 _ ?side1 ?side2 A41.out).mono ?_);(case side1=>exact Z22);(case side2=>exact Z27);rintro e w47 ⟨rfl,hi,hb,hk⟩;refine ⟨_,rfl,?_⟩;have n0_:=am (Kd.R_mono (Kd.R_keep (IsS72.apart (show IsS72 w0 _ g t189 t190 from Z22) (pR HO165.out) Z2) hk (fun _ h=>h.2)) (fun _ h=>h.1));have n1_:=am (KeepBut.blk hk (g':=gb185) (o:=.cells #[.int .i64 t173,.int .i64 t174,.int .i64 t175,.slice Ao35 t176.length co35,.slice Ao36 t179.length co36] 47 (0,0)) (pB BK185.out) NB185_0.out Z6);have n2_:=am (Kd.R_mono (Kd.R_keep (IsS72.apart (show IsS72 w0 _ g t189 t190 from Z22) (pR HO188.out) Z2) hk (fun _ h=>h.2)) (fun _ h=>h.1));have n3_:=am (KeepBut.trans Z25 hk (.inl rfl));have n4_:=am (hb);have n5_:=am (hi);clear HO165;clear BK185;clear HO188;clear HK;clear HB;clear HI0;have HO165:=n0_;have BK185:=n1_;have HO188:=n2_;have HK:=n3_;have HB:=n4_;have HI0:=n5_;clear n0_ n1_ n2_ n3_ n4_ n5_;(try clear hb);(try clear hb2);(try clear hk);(try clear hi)))
 (try simp only [Act.put,List.setIfInBounds_toArray,List.set_cons_zero,List.set_cons_succ])
 have H:=HC42.out
 clear HC42
 by_cases c48:t191=true
 ·
  subst c48
  rw [if_pos rfl] at H
  simp only [Option.some.injEq,Prod.mk.injEq] at H
  obtain ⟨rfl,rfl,rfl,rfl,rfl⟩:=H
  go_wp2
  go_ret3
  exact ⟨_,_,Z12,Z58,Z59,Z22,Z27,Z25⟩
 replace c48:=bef c48
 subst c48
 rw [if_neg (show ¬ (false=true) from Z2)] at H
 replace H:=obs H
 obtain ⟨⟨t194,t195,t196⟩,A490,H⟩:=H
 dsimp only at H
 have A49:=am A490
 clear A490
 have HC50:=am H
 clear H
 go_upto_if 68 with (first | ((with_reducible refine gate_callee (f:=87) rfl ?_);refine goesL_ (some 67) rfl rfl Tryz.func87 Z1 rfl #[.pointer (some ⟨g,0,none⟩),.int .u8 44] rfl Z10 ?_;(with_reducible refine (spec_reader_take.calls g t192 t193 44 t194 t195 t196 w0 _ ?side1 ?side2 A49.out).mono ?_);(case side1=>exact Z22);(case side2=>exact Z27);rintro e w51 ⟨rfl,hi,hb,hk⟩;refine ⟨_,rfl,?_⟩;have n0_:=am (Kd.R_mono (Kd.R_keep (IsS72.apart (show IsS72 w0 _ g t192 t193 from Z22) (pR HO165.out) Z2) hk (fun _ h=>h.2)) (fun _ h=>h.1));have n1_:=am (KeepBut.blk hk (g':=gb185) (o:=.cells #[.int .i64 t173,.int .i64 t174,.int .i64 t175,.slice Ao35 t176.length co35,.slice Ao36 t179.length co36] 47 (0,0)) (pB BK185.out) NB185_0.out Z6);have n2_:=am (Kd.R_mono (Kd.R_keep (IsS72.apart (show IsS72 w0 _ g t192 t193 from Z22) (pR HO188.out) Z2) hk (fun _ h=>h.2)) (fun _ h=>h.1));have n3_:=am (KeepBut.trans Z25 hk (.inl rfl));have n4_:=am (hb);have n5_:=am (hi);clear HO165;clear BK185;clear HO188;clear HK;clear HB;clear HI0;have HO165:=n0_;have BK185:=n1_;have HO188:=n2_;have HK:=n3_;have HB:=n4_;have HI0:=n5_;clear n0_ n1_ n2_ n3_ n4_ n5_;(try clear hb);(try clear hb2);(try clear hk);(try clear hi)))
 (try simp only [Act.put,List.setIfInBounds_toArray,List.set_cons_zero,List.set_cons_succ])
 have H:=HC50.out
 clear HC50
 by_cases c52:t194=true
 rotate_left
 ·
  replace c52:=bef c52
  subst c52
  rw [if_neg (show ¬ (false=true) from Z2)] at H
  simp only [Option.some.injEq,Prod.mk.injEq] at H
  obtain ⟨rfl,rfl,rfl,rfl,rfl⟩:=H
  go_wp2
  go_ret3
  exact ⟨_,_,Z12,Z13,Z13,Z22,Z27,Z25⟩
 subst c52
 rw [if_pos rfl] at H
 replace H:=obs H
 obtain ⟨⟨t197,t198⟩,A530,H⟩:=H
 dsimp only at H
 have A53:=am A530
 clear A530
 have H':=am H
 clear H
 go_wp2_with (first | ((with_reducible refine gate_callee (f:=37) rfl ?_);refine goesL_ (some 70) rfl rfl Tryz.func37 Z1 rfl #[.pointer (some ⟨g,0,none⟩)] rfl Z10 ?_;(with_reducible refine (spec_reader_blanks.calls kj8 g t195 t196 t197 t198 w0 _ ?side1 ?side2 A53.out).mono ?_);(case side1=>exact Z22);(case side2=>exact Z27);rintro e w54 ⟨rfl,hi,hb,hk⟩;refine ⟨_,rfl,?_⟩;have n0_:=am (Kd.R_mono (Kd.R_keep (IsS72.apart (show IsS72 w0 _ g t195 t196 from Z22) (pR HO165.out) Z2) hk (fun _ h=>h.2)) (fun _ h=>h.1));have n1_:=am (KeepBut.blk hk (g':=gb185) (o:=.cells #[.int .i64 t173,.int .i64 t174,.int .i64 t175,.slice Ao35 t176.length co35,.slice Ao36 t179.length co36] 47 (0,0)) (pB BK185.out) NB185_0.out Z6);have n2_:=am (Kd.R_mono (Kd.R_keep (IsS72.apart (show IsS72 w0 _ g t195 t196 from Z22) (pR HO188.out) Z2) hk (fun _ h=>h.2)) (fun _ h=>h.1));have n3_:=am (KeepBut.trans Z25 hk (.inl rfl));have n4_:=am (hb);have n5_:=am (hi);clear HO165;clear BK185;clear HO188;clear HK;clear HB;clear HI0;have HO165:=n0_;have BK185:=n1_;have HO188:=n2_;have HK:=n3_;have HB:=n4_;have HI0:=n5_;clear n0_ n1_ n2_ n3_ n4_ n5_;(try clear hb);(try clear hb2);(try clear hk);(try clear hi)))
 go_roundg kj8
 case measure=>have:=HK1.out;have:=HJ8.out;omega
 case rel=>exact ⟨(y163),(y186),(t197),(t198),H',⟨by have:=HK1.out;have:=HJ8.out;omega⟩,⟨Z58⟩,⟨Z59⟩,⟨Z22⟩,⟨Z25⟩,⟨Z27⟩⟩
theorem spec_reader_elements.step (k:Nat) (ih_64_:∀ k_:Nat,k_<k→∀ (g:Nat) (s0_0:ByteArray) (s0_1:Int) (r1:List (S121)) (r2:List (S47)) (r3:Bool) (r4:ByteArray) (r5:Int) (w0 w:World) (hI:IsS72 w0 w g s0_0 s0_1) (hB:Below w0.heap.size w0 w) (h:spec_reader_members.f k_ s0_0 s0_1=some (r1,r2,r3,r4,r5)),
  Calls Tryz.prog 64 #[.pointer (some ⟨g,0,none⟩)] w fun e w'=>∃ v0_ v1_:Value,e = .returned (.tuple #[v0_,v1_,.bool r3])∧Kd.R k121 121 w' w.heap.size (fun _=>True) v0_ r1∧Kd.R k47 47 w' w.heap.size (fun k_=>some k_≠(v0_:Value).ownBlock) v1_ r2∧IsS72 w0 w' g r4 r5∧Below w0.heap.size w0 w'∧KeepBut w w' g none) (ih_65_:∀ k_:Nat,k_<k→∀ (g:Nat) (s0_0:ByteArray) (s0_1:Int) (r1:List (S47)) (r2:Bool) (r3:ByteArray) (r4:Int) (w0 w:World) (hI:IsS72 w0 w g s0_0 s0_1) (hB:Below w0.heap.size w0 w) (h:spec_reader_elements.f k_ s0_0 s0_1=some (r1,r2,r3,r4)),
  Calls Tryz.prog 65 #[.pointer (some ⟨g,0,none⟩)] w fun e w'=>∃ v0_:Value,e = .returned (.tuple #[v0_,.bool r2])∧Kd.R k47 47 w' w.heap.size (fun _=>True) v0_ r1∧IsS72 w0 w' g r3 r4∧Below w0.heap.size w0 w'∧KeepBut w w' g none) (ih_38_:∀ k_:Nat,k_<k→∀ (g:Nat) (s0_0:ByteArray) (s0_1:Int) (r1:Int) (r2:Int) (r3:Int) (r4:List (S121)) (r5:List (S47)) (r6:Bool) (r7:ByteArray) (r8:Int) (w0 w:World) (hI:IsS72 w0 w g s0_0 s0_1) (hB:Below w0.heap.size w0 w) (h:spec_reader_value.f k_ s0_0 s0_1=some (r1,r2,r3,r4,r5,r6,r7,r8)),
  Calls Tryz.prog 38 #[.pointer (some ⟨g,0,none⟩)] w fun e w'=>∃ v3_ v4_:Value,e = .returned (.tuple #[.agg #[.int .i64 r1,.int .i64 r2,.int .i64 r3,v3_,v4_],.bool r6])∧Kd.R k121 121 w' w.heap.size (fun _=>True) v3_ r4∧Kd.R k47 47 w' w.heap.size (fun k_=>some k_≠(v3_:Value).ownBlock) v4_ r5∧IsS72 w0 w' g r7 r8∧Below w0.heap.size w0 w'∧KeepBut w w' g none):∀ (g:Nat) (s0_0:ByteArray) (s0_1:Int) (r1:List (S47)) (r2:Bool) (r3:ByteArray) (r4:Int) (w0 w:World) (hI:IsS72 w0 w g s0_0 s0_1) (hB:Below w0.heap.size w0 w) (h:spec_reader_elements.f k s0_0 s0_1=some (r1,r2,r3,r4)),
  Calls Tryz.prog 65 #[.pointer (some ⟨g,0,none⟩)] w fun e w'=>∃ v0_:Value,e = .returned (.tuple #[v0_,.bool r2])∧Kd.R k47 47 w' w.heap.size (fun _=>True) v0_ r1∧IsS72 w0 w' g r3 r4∧Below w0.heap.size w0 w'∧KeepBut w w' g none:=by
 intro g s0_0 s0_1 r1 r2 r3 r4 w0 w hI hB h
 cases k with
 | zero=>exact absurd h (by simp [spec_reader_elements.f])
 | succ k=>
 simp only [spec_reader_elements.f] at h
 have hu47:=Tryz.underlying47
 have HI0:=am hI
 have HK:=am (KeepBut.refl w g none)
 have HL:=am hB.size
 clear hI
 have HW0:=am hB.size
 have HB:=am hB
 clear hB
 have H:((spec_reader_blanks.f k s0_0 (wrap64 (s0_1+1))).bind fun bt199=>((spec_reader_take.f bt199.1 bt199.2 93).bind fun bt201=>(if bt201.1=true then (some (([]:List (S47)),true,bt201.2.1,bt201.2.2)) else (spec_reader_elements.l0 k ([]:List (S47)) bt201.2.1 bt201.2.2))))=some (r1,r2,r3,r4):=h
 clear h
 replace H:=obs H
 obtain ⟨⟨t199,t200⟩,A20,H⟩:=H
 dsimp only at H
 have A2:=am A20
 clear A20
 replace H:=obs H
 obtain ⟨⟨t201,t202,t203⟩,A30,H⟩:=H
 dsimp only at H
 have A3:=am A30
 clear A30
 have HC4:=am H
 clear H
 obtain ⟨HGz5,hgz5⟩:=HI0.out
 have hcz5_0:=cellS72_0 HGz5
 have hcz5_1:=cellS72_1 HGz5
 have hfz5_0:=bkf HGz5 0
 have hfz5_1:=bkf HGz5 1
 clear HGz5 hgz5
 go_enter Tryz.func65,Tryz.ntmps65
 go_upto_if 17 with (first | ((with_reducible refine gate_callee (f:=37) rfl ?_);refine goesL_ (some 15) rfl rfl Tryz.func37 Z1 rfl #[.pointer (some ⟨g,0,none⟩)] rfl Z10 ?_;(with_reducible refine (spec_reader_blanks.calls k g s0_0 (wrap64 (s0_1+1)) t199 t200 w0 _ ?side1 ?side2 A2.out).mono ?_);(case side1=>exact Z3);(case side2=>exact Z7);rintro e w6 ⟨rfl,hi,hb,hk⟩;refine ⟨_,rfl,?_⟩;have n0_:=am (KeepBut.trans Z4 hk (.inl rfl));have n1_:=am (hb);have n2_:=am (hi);clear HK;clear HB;clear HI0;have HK:=n0_;have HB:=n1_;have HI0:=n2_;clear n0_ n1_ n2_;(try clear hb);(try clear hb2);(try clear hk);(try clear hi)) | ((with_reducible refine gate_callee (f:=87) rfl ?_);refine goesL_ (some 17) rfl rfl Tryz.func87 Z1 rfl #[.pointer (some ⟨g,0,none⟩),.int .u8 93] rfl Z10 ?_;(with_reducible refine (spec_reader_take.calls g t199 t200 93 t201 t202 t203 w0 _ ?side1 ?side2 A3.out).mono ?_);(case side1=>exact Z3);(case side2=>exact Z7);rintro e w7 ⟨rfl,hi,hb,hk⟩;refine ⟨_,rfl,?_⟩;have n0_:=am (KeepBut.trans Z4 hk (.inl rfl));have n1_:=am (hb);have n2_:=am (hi);clear HK;clear HB;clear HI0;have HK:=n0_;have HB:=n1_;have HI0:=n2_;clear n0_ n1_ n2_;(try clear hb);(try clear hb2);(try clear hk);(try clear hi)))
 (try simp only [Act.put,List.setIfInBounds_toArray,List.set_cons_zero,List.set_cons_succ])
 have H:=HC4.out
 clear HC4
 by_cases c8:t201=true
 ·
  subst c8
  rw [if_pos rfl] at H
  simp only [Option.some.injEq,Prod.mk.injEq] at H
  obtain ⟨rfl,rfl,rfl,rfl⟩:=H
  go_wp2
  go_ret2
  exact ⟨_,Z12,Z13,Z3,Z7,Z4⟩
 replace c8:=bef c8
 subst c8
 rw [if_neg (show ¬ (false=true) from Z2)] at H
 have H':=am H
 clear H
 go_wp2
 (try simp only [Act.put,List.setIfInBounds_toArray,List.set_cons_succ,List.set_cons_zero])
 go_loopg [4] k (fun kq v4 w'=>∃ (x4_1:List (S47)) (x1000_1:ByteArray) (x1001_1:Int),Aside0 (spec_reader_elements.l0 kq x4_1 x1000_1 x1001_1=some (r1,r2,r3,r4))∧Aside0 (kq≤k)∧Aside0 (Kd.R k47 47 w' w.heap.size (fun _=>True) v4 x4_1)∧Aside0 (IsS72 w0 w' g x1000_1 x1001_1)∧Aside0 (KeepBut w w' g none)∧Aside0 (Below w0.heap.size w0 w'))
 case atStart=>exact ⟨(([]:List (S47))),(t202),(t203),H',⟨Nat.le_refl _⟩,⟨Z13⟩,⟨Z3⟩,⟨Z4⟩,⟨Z7⟩⟩
 clear H'
 try clear p2;try clear c3;try clear c6;try clear p6;try clear c8;try clear hcz5_0;try clear hcz5_1;try clear hfz5_0;try clear hfz5_1
 obtain ⟨x4_1,x1000_1,x1001_1,HA,HK1,HO_4,HI0,HK,HB⟩:=hrel
 cases gk with
 | zero=>exact absurd HA.out (by simp [spec_reader_elements.l0])
 | succ k1=>
 have H:=HA.out
 clear HA
 simp only [spec_reader_elements.l0] at H
 replace H:=obs H
 obtain ⟨⟨t204,t205,t206,t207,t210,t213,t214,t215⟩,A90,H⟩:=H
 dsimp only at H
 have A9:=am A90
 clear A90
 have HC10:=am H
 clear H
 go_upto_if 24 with (first | ((with_reducible refine gate_callee (f:=38) rfl ?_);refine goesL_ (some 20) rfl rfl Tryz.func38 Z1 rfl #[.pointer (some ⟨g,0,none⟩)] rfl Z10 ?_;(with_reducible refine (ih_38_ k1 Z19 g x1000_1 x1001_1 t204 t205 t206 t207 t210 t213 t214 t215 w0 _ ?side1 ?side2 A9.out).mono ?_);(case side1=>exact Z3);(case side2=>exact Z7);rintro e w11 ⟨v208,v211,rfl,ho0,ho1,hi,hb,hk⟩;refine ⟨_,rfl,?_⟩;have n0_:=am (Kd.R_mono (Kd.R_told (Kd.R_told (Kd.R_oldK (IsS72.apart (show IsS72 w0 _ g x1000_1 x1001_1 from Z3) (pR HO_4.out) Z2) hk) (Kd.R_base ho0)) (Kd.R_base ho1)) (fun _ h_=>h_.1));have n1_:=am (Kd.R_lower ho0 (keep_size (w:=w) (g:=g) (row:=none) Z4));have n2_:=am (Kd.R_lower (Kd.R_new' ho1 (Kd.R_lt (pR HO_4.out))) (keep_size (w:=w) (g:=g) (row:=none) Z4));have n3_:=am (KeepBut.trans Z4 hk (.inl rfl));have n4_:=am (hb);have n5_:=am (hi);clear HO_4;clear HK;clear HB;clear HI0;have HO_4:=n0_;have HO209:=n1_;have HO212:=n2_;have HK:=n3_;have HB:=n4_;have HI0:=n5_;clear n0_ n1_ n2_ n3_ n4_ n5_;(try clear hb);(try clear hb2);(try clear hk);(try clear hi);(try clear ho0);(try clear ho1)) | ((with_reducible refine gate_dst (N:=5) rfl ?_);refine box_event ?hg (N:=5) ?hd (cs:=#[.int .i64 0,.int .i64 0,.int .i64 0,.slice none 0 0,.slice none 0 0]) (t:=47) ?hr ?_;(case hd=>exact Z9);(case hg=>exact Z9);(case hr=>exact Z17);intro gb216 hg w12 hbox hb;have n0_:=am (Kd.R_below (Kd.R_elderB (pR HO_4.out) gb216 (Nat.le_of_eq hg.symm)) hb);have n1_:=am (Kd.R_below (pR HO209.out) hb);have n2_:=am (Kd.R_below (Kd.R_elderB (pR HO212.out) gb216 (Nat.le_of_eq hg.symm)) hb);have n3_:=am (IsS72.below Z3 hb);have n4_:=am (KeepBut.trans Z4 (KeepBut.of_below hb g none) (.inl rfl));have n5_:=am (below_step Z7 hb);have n6_:=am (hbox);have n7_:=am ((Z77:w.heap.size≤gb216));have n8_:=am ((Nat.le_trans HW0.out (Z77:w.heap.size≤gb216):w0.heap.size≤gb216));have n9_:=am ((by rw [hg];exact Nat.ne_of_lt (IsS72.lt (show IsS72 w0 _ g t214 t215 from Z3)):g≠gb216));have n10_:=am ((by rw [hg];exact Nat.ne_of_gt (IsS72.lt (show IsS72 w0 _ g t214 t215 from Z3)):gb216≠g));clear HO_4;clear HO209;clear HO212;clear HI0;clear HK;clear HB;have HO_4:=n0_;have HO209:=n1_;have HO212:=n2_;have HI0:=n3_;have HK:=n4_;have HB:=n5_;have BK216:=n6_;have GW216:=n7_;have GE216:=n8_;have NB0_216:=n9_;have NB216_0:=n10_;clear n0_ n1_ n2_ n3_ n4_ n5_ n6_ n7_ n8_ n9_ n10_;clear hb hbox hg;have hnb13:=NB216_0.out;have hnc13:=NB0_216.out;have hcz14_0:w12.cell? ⟨gb216,0,none⟩=some (.int .i64 0):=(bkc BK216.out 0).trans rfl;have hcz14_1:w12.cell? ⟨gb216,1,none⟩=some (.int .i64 0):=(bkc BK216.out 1).trans rfl;have hcz14_2:w12.cell? ⟨gb216,2,none⟩=some (.int .i64 0):=(bkc BK216.out 2).trans rfl;have hcz14_3:w12.cell? ⟨gb216,3,none⟩=some (.slice none 0 0):=(bkc BK216.out 3).trans rfl;have hcz14_4:w12.cell? ⟨gb216,4,none⟩=some (.slice none 0 0):=(bkc BK216.out 4).trans rfl;have hfz14_0:=bkf BK216.out 0;have hfz14_1:=bkf BK216.out 1;have hfz14_2:=bkf BK216.out 2;have hfz14_3:=bkf BK216.out 3;have hfz14_4:=bkf BK216.out 4;obtain ⟨Ao15,co15,eo15⟩:=Kd.R_slice HO209.out;subst eo15;obtain ⟨Ao16,co16,eo16⟩:=Kd.R_slice HO212.out;subst eo16))
 have n0_:Aside0 (Kd.R k47 47 (((((w12.setCell ⟨gb216,0,none⟩ (.int .i64 t204)).setCell ⟨gb216,1,none⟩ (.int .i64 t205)).setCell ⟨gb216,2,none⟩ (.int .i64 t206)).setCell ⟨gb216,3,none⟩ (.slice Ao15 t207.length co15)).setCell ⟨gb216,4,none⟩ (.slice Ao16 t210.length co16)) w.heap.size (fun k_=>some k_≠(.slice Ao15 t207.length co15:Value).ownBlock∧some k_≠(.slice Ao16 t210.length co16:Value).ownBlock∧k_≠gb216) u4 x4_1):=⟨by (with_reducible repeat (first | apply Kd.R_alloc | apply Kd.R_drewN | apply Kd.R_drew));exact Kd.R_mono (Kd.R_far (p:=⟨gb216,4,none⟩) (Kd.R_far (p:=⟨gb216,3,none⟩) (Kd.R_far (p:=⟨gb216,2,none⟩) (Kd.R_far (p:=⟨gb216,1,none⟩) (Kd.R_far (p:=⟨gb216,0,none⟩) (Kd.R_mono HO_4.out (fun k_ hk=>(⟨hk,hk.2⟩:_∧k_≠gb216))) (fun _ hk=>hk.2) (.int .i64 t204)) (fun _ hk=>hk.2) (.int .i64 t205)) (fun _ hk=>hk.2) (.int .i64 t206)) (fun _ hk=>hk.2) (.slice Ao15 t207.length co15)) (fun _ hk=>hk.2) (.slice Ao16 t210.length co16)) (fun _ hk=>⟨hk.1.1.1.2,⟨hk.1.1.2,hk.1.2⟩⟩)⟩
 have n1_:Aside0 (Kd.R k121 121 (((((w12.setCell ⟨gb216,0,none⟩ (.int .i64 t204)).setCell ⟨gb216,1,none⟩ (.int .i64 t205)).setCell ⟨gb216,2,none⟩ (.int .i64 t206)).setCell ⟨gb216,3,none⟩ (.slice Ao15 t207.length co15)).setCell ⟨gb216,4,none⟩ (.slice Ao16 t210.length co16)) w.heap.size (fun _=>True) (.slice Ao15 t207.length co15) t207):=⟨by (with_reducible repeat (first | apply Kd.R_alloc | apply Kd.R_drewN | apply Kd.R_drew));exact Kd.R_mono (Kd.R_far (p:=⟨gb216,4,none⟩) (Kd.R_far (p:=⟨gb216,3,none⟩) (Kd.R_far (p:=⟨gb216,2,none⟩) (Kd.R_far (p:=⟨gb216,1,none⟩) (Kd.R_far (p:=⟨gb216,0,none⟩) (Kd.R_types HO209.out BK216.out Z2) (fun _ hk=>hk.2) (.int .i64 t204)) (fun _ hk=>hk.2) (.int .i64 t205)) (fun _ hk=>hk.2) (.int .i64 t206)) (fun _ hk=>hk.2) (.slice Ao15 t207.length co15)) (fun _ hk=>hk.2) (.slice Ao16 t210.length co16)) (fun _ hk=>trivial)⟩
 have n2_:Aside0 (Kd.R k47 47 (((((w12.setCell ⟨gb216,0,none⟩ (.int .i64 t204)).setCell ⟨gb216,1,none⟩ (.int .i64 t205)).setCell ⟨gb216,2,none⟩ (.int .i64 t206)).setCell ⟨gb216,3,none⟩ (.slice Ao15 t207.length co15)).setCell ⟨gb216,4,none⟩ (.slice Ao16 t210.length co16)) w.heap.size (fun k_=>some k_≠(u4:Value).ownBlock∧some k_≠(.slice Ao15 t207.length co15:Value).ownBlock∧k_≠gb216) (.slice Ao16 t210.length co16) t210):=⟨by (with_reducible repeat (first | apply Kd.R_alloc | apply Kd.R_drewN | apply Kd.R_drew));exact Kd.R_mono (Kd.R_far (p:=⟨gb216,4,none⟩) (Kd.R_far (p:=⟨gb216,3,none⟩) (Kd.R_far (p:=⟨gb216,2,none⟩) (Kd.R_far (p:=⟨gb216,1,none⟩) (Kd.R_far (p:=⟨gb216,0,none⟩) (Kd.R_mono HO212.out (fun k_ hk=>(⟨hk,hk.2⟩:_∧k_≠gb216))) (fun _ hk=>hk.2) (.int .i64 t204)) (fun _ hk=>hk.2) (.int .i64 t205)) (fun _ hk=>hk.2) (.int .i64 t206)) (fun _ hk=>hk.2) (.slice Ao15 t207.length co15)) (fun _ hk=>hk.2) (.slice Ao16 t210.length co16)) (fun _ hk=>⟨hk.1.1.2,⟨hk.1.1.1,hk.1.2⟩⟩)⟩
 have n3_:Aside0 ((((((w12.setCell ⟨gb216,0,none⟩ (.int .i64 t204)).setCell ⟨gb216,1,none⟩ (.int .i64 t205)).setCell ⟨gb216,2,none⟩ (.int .i64 t206)).setCell ⟨gb216,3,none⟩ (.slice Ao15 t207.length co15)).setCell ⟨gb216,4,none⟩ (.slice Ao16 t210.length co16)).heap[gb216]? = some (.cells #[.int .i64 t204,.int .i64 t205,.int .i64 t206,.slice Ao15 t207.length co15,.slice Ao16 t210.length co16] 47 (0,0))):=⟨by (with_reducible repeat (first | refine bkn ?_ _ | refine bkd ?_ | refine bka ?_ _));refine blk_put (cs:=#[.int .i64 t204,.int .i64 t205,.int .i64 t206,.slice Ao15 t207.length co15,.slice none 0 0]) ?_ 4 _ rfl;(with_reducible repeat (first | refine bkn ?_ _ | refine bkd ?_ | refine bka ?_ _));refine blk_put (cs:=#[.int .i64 t204,.int .i64 t205,.int .i64 t206,.slice none 0 0,.slice none 0 0]) ?_ 3 _ rfl;(with_reducible repeat (first | refine bkn ?_ _ | refine bkd ?_ | refine bka ?_ _));refine blk_put (cs:=#[.int .i64 t204,.int .i64 t205,.int .i64 0,.slice none 0 0,.slice none 0 0]) ?_ 2 _ rfl;(with_reducible repeat (first | refine bkn ?_ _ | refine bkd ?_ | refine bka ?_ _));refine blk_put (cs:=#[.int .i64 t204,.int .i64 0,.int .i64 0,.slice none 0 0,.slice none 0 0]) ?_ 1 _ rfl;(with_reducible repeat (first | refine bkn ?_ _ | refine bkd ?_ | refine bka ?_ _));refine blk_put (cs:=#[.int .i64 0,.int .i64 0,.int .i64 0,.slice none 0 0,.slice none 0 0]) ?_ 0 _ rfl;(with_reducible repeat (first | refine bkn ?_ _ | refine bkd ?_ | refine bka ?_ _));exact BK216.out⟩
 have n4_:Aside0 (IsS72 w0 (((((w12.setCell ⟨gb216,0,none⟩ (.int .i64 t204)).setCell ⟨gb216,1,none⟩ (.int .i64 t205)).setCell ⟨gb216,2,none⟩ (.int .i64 t206)).setCell ⟨gb216,3,none⟩ (.slice Ao15 t207.length co15)).setCell ⟨gb216,4,none⟩ (.slice Ao16 t210.length co16)) g t214 t215):=⟨Z24⟩
 have n5_:Aside0 (KeepBut w (((((w12.setCell ⟨gb216,0,none⟩ (.int .i64 t204)).setCell ⟨gb216,1,none⟩ (.int .i64 t205)).setCell ⟨gb216,2,none⟩ (.int .i64 t206)).setCell ⟨gb216,3,none⟩ (.slice Ao15 t207.length co15)).setCell ⟨gb216,4,none⟩ (.slice Ao16 t210.length co16)) g none):=⟨Z26⟩
 have n6_:Aside0 (Below w0.heap.size w0 (((((w12.setCell ⟨gb216,0,none⟩ (.int .i64 t204)).setCell ⟨gb216,1,none⟩ (.int .i64 t205)).setCell ⟨gb216,2,none⟩ (.int .i64 t206)).setCell ⟨gb216,3,none⟩ (.slice Ao15 t207.length co15)).setCell ⟨gb216,4,none⟩ (.slice Ao16 t210.length co16))):=⟨Z28⟩
 (try clear HO_4)
 (try clear HO209)
 (try clear HO212)
 (try clear BK216)
 (try clear HI0)
 (try clear HK)
 (try clear HB)
 generalize (((((w12.setCell ⟨gb216,0,none⟩ (.int .i64 t204)).setCell ⟨gb216,1,none⟩ (.int .i64 t205)).setCell ⟨gb216,2,none⟩ (.int .i64 t206)).setCell ⟨gb216,3,none⟩ (.slice Ao15 t207.length co15)).setCell ⟨gb216,4,none⟩ (.slice Ao16 t210.length co16))=w17 at n0_ n1_ n2_ n3_ n4_ n5_ n6_ ⊢
 have HO_4:=n0_
 have HO209:=n1_
 have HO212:=n2_
 have BK216:=n3_
 have HI0:=n4_
 have HK:=n5_
 have HB:=n6_
 clear n0_ n1_ n2_ n3_ n4_ n5_ n6_
 (try simp only [Act.put,List.setIfInBounds_toArray,List.set_cons_zero,List.set_cons_succ])
 have H:=HC10.out
 clear HC10
 by_cases c18:t213=true
 rotate_left
 ·
  replace c18:=bef c18
  subst c18
  rw [if_neg (show ¬ (false=true) from Z2)] at H
  simp only [Option.some.injEq,Prod.mk.injEq] at H
  obtain ⟨rfl,rfl,rfl,rfl⟩:=H
  go_wp2
  go_ret2
  exact ⟨_,Z12,Z13,Z24,Z28,Z26⟩
 subst c18
 rw [if_pos rfl] at H
 by_cases c19:x4_1.length<1954687338268
 rotate_left
 ·
  rw [if_neg c19] at H
  exact absurd H Z6
 rw [if_pos c19] at H
 have LMc19:=am c19
 clear c19
 obtain ⟨y217,hy217⟩:∃ y_:List (S47),y_=(x4_1 ++ [(⟨t204,t205,t206,t207,t210⟩:S47)]):=⟨_,rfl⟩
 first | replace H:=bind_y hy217 H | rw [← hy217] at H
 have Ny217:=am hy217
 clear hy217
 replace H:=obs H
 obtain ⟨⟨t220,t221⟩,A200,H⟩:=H
 dsimp only at H
 have A20:=am A200
 clear A200
 replace H:=obs H
 obtain ⟨⟨t222,t223,t224⟩,A210,H⟩:=H
 dsimp only at H
 have A21:=am A210
 clear A210
 have HC22:=am H
 clear H
 have hnb23:=NB216_0.out
 have hnc23:=NB0_216.out
 have hcz24_0:w17.cell? ⟨gb216,0,none⟩=some (.int .i64 t204):=(bkc BK216.out 0).trans rfl
 have hcz24_1:w17.cell? ⟨gb216,1,none⟩=some (.int .i64 t205):=(bkc BK216.out 1).trans rfl
 have hcz24_2:w17.cell? ⟨gb216,2,none⟩=some (.int .i64 t206):=(bkc BK216.out 2).trans rfl
 have hcz24_3:w17.cell? ⟨gb216,3,none⟩=some (.slice Ao15 t207.length co15):=(bkc BK216.out 3).trans rfl
 have hcz24_4:w17.cell? ⟨gb216,4,none⟩=some (.slice Ao16 t210.length co16):=(bkc BK216.out 4).trans rfl
 have hfz24_0:=bkf BK216.out 0
 have hfz24_1:=bkf BK216.out 1
 have hfz24_2:=bkf BK216.out 2
 have hfz24_3:=bkf BK216.out 3
 have hfz24_4:=bkf BK216.out 4
 go_upto_if 32 with (first | ((with_reducible refine gate_builtin (b:=.append) (xs:=#[.tmp 25,.tmp 27]) rfl ?_);at_builtin;refine Kd.R_append k47 w.heap.size rfl (.tmp 25) (.tmp 27) 45 47 (.agg #[(.int .i64 0),(.int .i64 0),(.int .i64 0),(.slice none 0 0),(.slice none 0 0)]) 72 rfl Tryz.underlying45 info47 rfl Z2 Z14 u4 x4_1 (⟨t204,t205,t206,t207,t210⟩:S47) [.int .i64 t204,.int .i64 t205,.int .i64 t206,.slice Ao15 t207.length co15,.slice Ao16 t210.length co16] (fun k_=>k_≠gb216) (fun k_=>((fun k_=>k_≠gb216)) k_∧some k_≠(u4:Value).ownBlock) rfl rfl ?aP (fun _ hk=>hk) ?aF ?aO (Below.refl _ _) ?aS ?aL ?_;(case aP=>exact k47_mkM _ _ _ (⟨t204,t205,t206,t207,t210⟩:S47) (Kd.R_mono (Kd.R_types (Kd.R_apart' (HO209.out) (Kd.R_typed HO_4.out) Z2) BK216.out Z2) (fun k_ hk=>⟨hk.2,hk.1.2⟩)) (Kd.R_mono (HO212.out) (fun k_ hk=>⟨hk.2.2,hk.1⟩)));(case aF=>exact (fun k_ hk=>Kd.freshB (g:=gb216) (o:=.cells #[.int .i64 t204,.int .i64 t205,.int .i64 t206,.slice Ao15 t207.length co15,.slice Ao16 t210.length co16] 47 (0,0)) (pB BK216.out) k_ hk));(case aO=>exact (by (with_reducible repeat (first | apply Kd.R_alloc | apply Kd.R_drewN | apply Kd.R_drew));exact Kd.R_mono HO_4.out (fun _ hk=>hk.2.2)));(case aS=>exact (keep_size (w:=w) (g:=g) (row:=none) Z26));(case aL=>have:=LMc19.out;omega);intro v218 w25 ho hb hg hat;rw [← Ny217.out] at ho;have n0_:=am (IsS72.grown Z24 hg (IsS72.own_ne HI0.out HO_4.out Z2));have n1_:=am (blk_grown (g:=gb216) (o:=.cells #[.int .i64 t204,.int .i64 t205,.int .i64 t206,.slice Ao15 t207.length co15,.slice Ao16 t210.length co16] 47 (0,0)) (pB BK216.out) hg (Kd.R_away HO_4.out (fun _ hk=>hk.2.2)));have n2_:=am (below_weaken Z28 HL.out hb);have n3_:=am (KeepBut.trans Z26 (KeepBut.of_grown hg g) (Kd.R_base2 HO_4.out));have n4_:=am (ho);clear HI0;clear BK216;clear HB;clear HK;clear HO_4;clear HO209;clear HO212;have HI0:=n0_;have BK216:=n1_;have HB:=n2_;have HK:=n3_;have HO219:=n4_;clear n0_ n1_ n2_ n3_ n4_;clear ho hb hg hat) | ((with_reducible refine gate_callee (f:=37) rfl ?_);refine goesL_ (some 30) rfl rfl Tryz.func37 Z1 rfl #[.pointer (some ⟨g,0,none⟩)] rfl Z10 ?_;(with_reducible refine (spec_reader_blanks.calls k1 g t214 t215 t220 t221 w0 _ ?side1 ?side2 A20.out).mono ?_);(case side1=>exact Z24);(case side2=>exact Z28);rintro e w26 ⟨rfl,hi,hb,hk⟩;refine ⟨_,rfl,?_⟩;have n0_:=am (KeepBut.blk hk (g':=gb216) (o:=.cells #[.int .i64 t204,.int .i64 t205,.int .i64 t206,.slice Ao15 t207.length co15,.slice Ao16 t210.length co16] 47 (0,0)) (pB BK216.out) NB216_0.out Z6);have n1_:=am (Kd.R_mono (Kd.R_keep (IsS72.apart (show IsS72 w0 _ g t214 t215 from Z24) (pR HO219.out) Z2) hk (fun _ h=>h.2)) (fun _ h=>h.1));have n2_:=am (KeepBut.trans Z26 hk (.inl rfl));have n3_:=am (hb);have n4_:=am (hi);clear BK216;clear HO219;clear HK;clear HB;clear HI0;have BK216:=n0_;have HO219:=n1_;have HK:=n2_;have HB:=n3_;have HI0:=n4_;clear n0_ n1_ n2_ n3_ n4_;(try clear hb);(try clear hb2);(try clear hk);(try clear hi)) | ((with_reducible refine gate_callee (f:=87) rfl ?_);refine goesL_ (some 32) rfl rfl Tryz.func87 Z1 rfl #[.pointer (some ⟨g,0,none⟩),.int .u8 93] rfl Z10 ?_;(with_reducible refine (spec_reader_take.calls g t220 t221 93 t222 t223 t224 w0 _ ?side1 ?side2 A21.out).mono ?_);(case side1=>exact Z24);(case side2=>exact Z28);rintro e w27 ⟨rfl,hi,hb,hk⟩;refine ⟨_,rfl,?_⟩;have n0_:=am (KeepBut.blk hk (g':=gb216) (o:=.cells #[.int .i64 t204,.int .i64 t205,.int .i64 t206,.slice Ao15 t207.length co15,.slice Ao16 t210.length co16] 47 (0,0)) (pB BK216.out) NB216_0.out Z6);have n1_:=am (Kd.R_mono (Kd.R_keep (IsS72.apart (show IsS72 w0 _ g t220 t221 from Z24) (pR HO219.out) Z2) hk (fun _ h=>h.2)) (fun _ h=>h.1));have n2_:=am (KeepBut.trans Z26 hk (.inl rfl));have n3_:=am (hb);have n4_:=am (hi);clear BK216;clear HO219;clear HK;clear HB;clear HI0;have BK216:=n0_;have HO219:=n1_;have HK:=n2_;have HB:=n3_;have HI0:=n4_;clear n0_ n1_ n2_ n3_ n4_;(try clear hb);(try clear hb2);(try clear hk);(try clear hi)))
 (try simp only [Act.put,List.setIfInBounds_toArray,List.set_cons_zero,List.set_cons_succ])
 have H:=HC22.out
 clear HC22
 by_cases c28:t222=true
 ·
  subst c28
  rw [if_pos rfl] at H
  simp only [Option.some.injEq,Prod.mk.injEq] at H
  obtain ⟨rfl,rfl,rfl,rfl⟩:=H
  go_wp2
  go_ret2
  exact ⟨_,Z12,Z60,Z24,Z28,Z26⟩
 replace c28:=bef c28
 subst c28
 rw [if_neg (show ¬ (false=true) from Z2)] at H
 replace H:=obs H
 obtain ⟨⟨t225,t226,t227⟩,A290,H⟩:=H
 dsimp only at H
 have A29:=am A290
 clear A290
 have HC30:=am H
 clear H
 go_upto_if 36 with (first | ((with_reducible refine gate_callee (f:=87) rfl ?_);refine goesL_ (some 35) rfl rfl Tryz.func87 Z1 rfl #[.pointer (some ⟨g,0,none⟩),.int .u8 44] rfl Z10 ?_;(with_reducible refine (spec_reader_take.calls g t223 t224 44 t225 t226 t227 w0 _ ?side1 ?side2 A29.out).mono ?_);(case side1=>exact Z24);(case side2=>exact Z28);rintro e w31 ⟨rfl,hi,hb,hk⟩;refine ⟨_,rfl,?_⟩;have n0_:=am (KeepBut.blk hk (g':=gb216) (o:=.cells #[.int .i64 t204,.int .i64 t205,.int .i64 t206,.slice Ao15 t207.length co15,.slice Ao16 t210.length co16] 47 (0,0)) (pB BK216.out) NB216_0.out Z6);have n1_:=am (Kd.R_mono (Kd.R_keep (IsS72.apart (show IsS72 w0 _ g t223 t224 from Z24) (pR HO219.out) Z2) hk (fun _ h=>h.2)) (fun _ h=>h.1));have n2_:=am (KeepBut.trans Z26 hk (.inl rfl));have n3_:=am (hb);have n4_:=am (hi);clear BK216;clear HO219;clear HK;clear HB;clear HI0;have BK216:=n0_;have HO219:=n1_;have HK:=n2_;have HB:=n3_;have HI0:=n4_;clear n0_ n1_ n2_ n3_ n4_;(try clear hb);(try clear hb2);(try clear hk);(try clear hi)))
 (try simp only [Act.put,List.setIfInBounds_toArray,List.set_cons_zero,List.set_cons_succ])
 have H:=HC30.out
 clear HC30
 by_cases c32:t225=true
 rotate_left
 ·
  replace c32:=bef c32
  subst c32
  rw [if_neg (show ¬ (false=true) from Z2)] at H
  simp only [Option.some.injEq,Prod.mk.injEq] at H
  obtain ⟨rfl,rfl,rfl,rfl⟩:=H
  go_wp2
  go_ret2
  exact ⟨_,Z12,Z13,Z24,Z28,Z26⟩
 subst c32
 rw [if_pos rfl] at H
 replace H:=obs H
 obtain ⟨⟨t228,t229⟩,A330,H⟩:=H
 dsimp only at H
 have A33:=am A330
 clear A330
 have H':=am H
 clear H
 go_wp2_with (first | ((with_reducible refine gate_callee (f:=37) rfl ?_);refine goesL_ (some 38) rfl rfl Tryz.func37 Z1 rfl #[.pointer (some ⟨g,0,none⟩)] rfl Z10 ?_;(with_reducible refine (spec_reader_blanks.calls k1 g t226 t227 t228 t229 w0 _ ?side1 ?side2 A33.out).mono ?_);(case side1=>exact Z24);(case side2=>exact Z28);rintro e w34 ⟨rfl,hi,hb,hk⟩;refine ⟨_,rfl,?_⟩;have n0_:=am (KeepBut.blk hk (g':=gb216) (o:=.cells #[.int .i64 t204,.int .i64 t205,.int .i64 t206,.slice Ao15 t207.length co15,.slice Ao16 t210.length co16] 47 (0,0)) (pB BK216.out) NB216_0.out Z6);have n1_:=am (Kd.R_mono (Kd.R_keep (IsS72.apart (show IsS72 w0 _ g t226 t227 from Z24) (pR HO219.out) Z2) hk (fun _ h=>h.2)) (fun _ h=>h.1));have n2_:=am (KeepBut.trans Z26 hk (.inl rfl));have n3_:=am (hb);have n4_:=am (hi);clear BK216;clear HO219;clear HK;clear HB;clear HI0;have BK216:=n0_;have HO219:=n1_;have HK:=n2_;have HB:=n3_;have HI0:=n4_;clear n0_ n1_ n2_ n3_ n4_;(try clear hb);(try clear hb2);(try clear hk);(try clear hi)))
 go_roundg k1
 case measure=>have:=HK1.out;omega
 case rel=>exact ⟨(y217),(t228),(t229),H',⟨Z19⟩,⟨Z60⟩,⟨Z24⟩,⟨Z26⟩,⟨Z28⟩⟩
end Go.Proofs.YtieflhncpjjciaaGreatDoor.PFnGjSquashItems
