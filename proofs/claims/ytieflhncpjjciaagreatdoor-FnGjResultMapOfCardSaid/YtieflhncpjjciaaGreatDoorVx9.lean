import Derived.Test.YtieflhncpjjciaaGreatDoorVq
import Derived.Test.YtieflhncpjjciaaGreatDoorVx0
import Derived.Test.YtieflhncpjjciaaGreatDoorVx5
import Derived.Test.YtieflhncpjjciaaGreatDoorVx8
set_option maxHeartbeats 8000000
set_option maxRecDepth 100000
namespace Go.Proofs.YtieflhncpjjciaaGreatDoor.PFnGjSquashItems
open Go.RowKit Go.Proofs.YtieflhncpjjciaaGreatDoorW.PrintWords Go.Proofs.YtieflhncpjjciaaGreatDoorW.PrintLast Go.Proofs.YtieflhncpjjciaaGreatDoorW.PrintMore
attribute [local go_sem] max2_int min2_int max_two min_two max_three min_three max_four min_four
set_option linter.unusedVariables false
set_option linter.unusedSimpArgs false
def spec_Paired.l0:Nat→ByteArray→Int→Option (Bool)
 | 0,_,_=>none
 | k+1,x0,x3=>if x3<(x0.size:Int) then (if 0≤x3 then (if (bt x0 x3)=92 then ((spec_unit.f k x0 x3).bind fun bt387=>(if bt387.2=true then ((spec_high.f bt387.1).bind fun t389=>(if t389=true then ((spec_unit.f k x0 (wrap64 (x3+6))).bind fun bt390=>(if bt390.2=true then ((spec_low.f bt390.1).bind fun t392=>(if t392=true then (spec_Paired.l0 k x0 (wrap64 (x3+12))) else (some false))) else (some false))) else ((spec_low.f bt387.1).bind fun t393=>(if t393=true then (some false) else (spec_Paired.l0 k x0 (wrap64 (x3+6))))))) else (spec_Paired.l0 k x0 (wrap64 (x3+2))))) else (spec_Paired.l0 k x0 (wrap64 (x3+1)))) else (none)) else (some true)
def spec_Paired.f (k:Nat) (a0:ByteArray):Option (Bool):=spec_Paired.l0 k a0 0
theorem spec_Paired.calls (k:Nat) (a0:ByteArray) (r:Bool) (w:World) (h:spec_Paired.f k a0=some r) :
  Calls Tryz.prog 32 #[.string a0] w fun e w'=>e = .returned (.bool r)∧Drawn0 w w':=by
 have H:(spec_Paired.l0 k a0 0)=some r:=h
 clear h
 have H':=am H
 clear H
 go_enter Tryz.func32,Tryz.ntmps32
 go_wp2
 (try simp only [Act.put,List.setIfInBounds_toArray,List.set_cons_succ,List.set_cons_zero])
 go_loopg [3] k (fun kq v3 w'=>∃ (x3_1:Int),v3 = .int .i64 x3_1∧Aside0 (spec_Paired.l0 kq a0 x3_1=some r)∧Aside0 (kq≤k)∧Drawn0 w w')
 case atStart=>exact ⟨(0),Z0,H',⟨Nat.le_refl _⟩,Z5⟩
 clear H'
 obtain ⟨x3_1,rfl,HA,HK1,⟨m1,rfl⟩⟩:=hrel
 cases gk with
 | zero=>exact absurd HA.out (by simp [spec_Paired.l0])
 | succ k1=>
 have H:=HA.out
 clear HA
 simp only [spec_Paired.l0] at H
 by_cases c2:x3_1<(a0.size:Int)
 rotate_left
 ·
  rw [if_neg c2] at H
  have c2b0:=df c2
  clear c2
  obtain rfl:=Option.some.inj H
  go_wp2
  go_ret
  exact ⟨Z0,Z5⟩
 rw [if_pos c2] at H
 have c2b0:=dt c2
 clear c2
 by_cases c3:0≤x3_1
 rotate_left
 ·
  rw [if_neg c3] at H
  exact absurd H Z6
 rw [if_pos c3] at H
 have c3b0:=dt c3
 clear c3
 by_cases c5:(bt a0 x3_1)=92
 rotate_left
 ·
  rw [if_neg c5] at H
  have c5b0:=bfe c5
  have c5b1:=bne_iff_ne.mpr c5
  have H':=am H
  clear H
  have p4:0≤(x3_1:Int):=od Z8
  have q4:x3_1<(a0.size:Int):=od Z8
  have hx4:=bt_at a0 x3_1
  replace p4:=eq_true p4
  replace q4:=eq_true q4
  go_wp2
  go_roundg k1
  case measure=>have:=HK1.out;omega
  case rel=>exact ⟨(wrap64 (x3_1+1)),Z0,H',⟨Z19⟩,Z5⟩
 rw [if_pos c5] at H
 have c5b0:=beq_iff_eq.mpr c5
 have c5b1:=bnf c5
 clear c5
 replace H:=obs H
 obtain ⟨⟨t387,t388⟩,A60,H⟩:=H
 dsimp only at H
 have A6:=am A60
 clear A60
 have HC7:=am H
 clear H
 have p4:0≤(x3_1:Int):=od Z8
 have q4:x3_1<(a0.size:Int):=od Z8
 have hx4:=bt_at a0 x3_1
 replace p4:=eq_true p4
 replace q4:=eq_true q4
 go_upto_if 26 with (first | ((with_reducible refine gate_callee (f:=54) rfl ?_);refine goesL_ (some 21) rfl rfl Tryz.func54 Z1 rfl #[.string a0,.int .i64 x3_1] rfl Z10 ?_;(with_reducible refine (spec_unit.calls k1 a0 x3_1 t387 t388 _ A6.out).mono ?_);rintro e w' ⟨rfl,⟨nd,rfl⟩⟩;refine ⟨_,rfl,?_⟩))
 (try simp only [Act.put,List.setIfInBounds_toArray,List.set_cons_zero,List.set_cons_succ])
 have H:=HC7.out
 clear HC7
 by_cases c8:t388=true
 rotate_left
 ·
  replace c8:=bef c8
  subst c8
  rw [if_neg (show ¬ (false=true) from Z2)] at H
  have H':=am H
  clear H
  go_wp2
  go_roundg k1
  case measure=>have:=HK1.out;omega
  case rel=>exact ⟨(wrap64 (x3_1+2)),Z0,H',⟨Z19⟩,Z5⟩
 subst c8
 rw [if_pos rfl] at H
 replace H:=obs H
 obtain ⟨t389,A90,H⟩:=H
 have A9:=am A90
 clear A90
 have HC10:=am H
 clear H
 go_upto_if 31 with (first | ((with_reducible refine gate_callee (f:=55) rfl ?_);refine goesL_ (some 33) rfl rfl Tryz.func55 Z1 rfl #[.int .i64 t387] rfl Z10 ?_;(with_reducible refine (spec_high.calls t387 t389 _ A9.out).mono ?_);rintro e w' ⟨rfl,⟨nd,rfl⟩⟩;refine ⟨_,rfl,?_⟩))
 (try simp only [Act.put,List.setIfInBounds_toArray,List.set_cons_zero,List.set_cons_succ])
 have H:=HC10.out
 clear HC10
 by_cases c11:t389=true
 rotate_left
 ·
  replace c11:=bef c11
  subst c11
  rw [if_neg (show ¬ (false=true) from Z2)] at H
  replace H:=obs H
  obtain ⟨t393,A170,H⟩:=H
  have A17:=am A170
  clear A170
  have HC18:=am H
  clear H
  go_upto_if 50 with (first | ((with_reducible refine gate_callee (f:=56) rfl ?_);refine goesL_ (some 52) rfl rfl Tryz.func56 Z1 rfl #[.int .i64 t387] rfl Z10 ?_;(with_reducible refine (spec_low.calls t387 t393 _ A17.out).mono ?_);rintro e w' ⟨rfl,⟨nd,rfl⟩⟩;refine ⟨_,rfl,?_⟩))
  (try simp only [Act.put,List.setIfInBounds_toArray,List.set_cons_zero,List.set_cons_succ])
  have H:=HC18.out
  clear HC18
  by_cases c19:t393=true
  ·
   subst c19
   rw [if_pos rfl] at H
   obtain rfl:=Option.some.inj H
   go_wp2
   go_ret
   exact ⟨Z0,Z5⟩
  replace c19:=bef c19
  subst c19
  rw [if_neg (show ¬ (false=true) from Z2)] at H
  have H':=am H
  clear H
  go_wp2
  go_roundg k1
  case measure=>have:=HK1.out;omega
  case rel=>exact ⟨(wrap64 (x3_1+6)),Z0,H',⟨Z19⟩,Z5⟩
 subst c11
 rw [if_pos rfl] at H
 replace H:=obs H
 obtain ⟨⟨t390,t391⟩,A120,H⟩:=H
 dsimp only at H
 have A12:=am A120
 clear A120
 by_cases c13:t391=true
 rotate_left
 ·
  replace c13:=bef c13
  subst c13
  rw [if_neg (show ¬ (false=true) from Z2)] at H
  obtain rfl:=Option.some.inj H
  go_wp2_with (first | ((with_reducible refine gate_callee (f:=54) rfl ?_);refine goesL_ (some 38) rfl rfl Tryz.func54 Z1 rfl #[.string a0,.int .i64 (wrap64 (x3_1+6))] rfl Z10 ?_;(with_reducible refine (spec_unit.calls k1 a0 (wrap64 (x3_1+6)) t390 false _ A12.out).mono ?_);rintro e w' ⟨rfl,⟨nd,rfl⟩⟩;refine ⟨_,rfl,?_⟩))
  go_ret
  exact ⟨Z0,Z5⟩
 subst c13
 rw [if_pos rfl] at H
 replace H:=obs H
 obtain ⟨t392,A140,H⟩:=H
 have A14:=am A140
 clear A140
 have HC15:=am H
 clear H
 go_upto_if 47 with (first | ((with_reducible refine gate_callee (f:=54) rfl ?_);refine goesL_ (some 38) rfl rfl Tryz.func54 Z1 rfl #[.string a0,.int .i64 (wrap64 (x3_1+6))] rfl Z10 ?_;(with_reducible refine (spec_unit.calls k1 a0 (wrap64 (x3_1+6)) t390 true _ A12.out).mono ?_);rintro e w' ⟨rfl,⟨nd,rfl⟩⟩;refine ⟨_,rfl,?_⟩) | (go_at_call 56;(with_reducible refine (spec_low.calls t390 t392 _ A14.out).mono ?_);rintro e w' ⟨rfl,⟨nd,rfl⟩⟩))
 (try simp only [Act.put,List.setIfInBounds_toArray,List.set_cons_zero,List.set_cons_succ])
 have H:=HC15.out
 clear HC15
 by_cases c16:t392=true
 rotate_left
 ·
  replace c16:=bef c16
  subst c16
  rw [if_neg (show ¬ (false=true) from Z2)] at H
  obtain rfl:=Option.some.inj H
  go_wp2
  go_ret
  exact ⟨Z0,Z5⟩
 subst c16
 rw [if_pos rfl] at H
 have H':=am H
 clear H
 go_wp2
 go_roundg k1
 case measure=>have:=HK1.out;omega
 case rel=>exact ⟨(wrap64 (x3_1+12)),Z0,H',⟨Z19⟩,Z5⟩
def laws_gjText.f (k:Nat) (a0:ByteArray):Option (Int×ByteArray×List ByteArray×(List (S26))×Bool):=if (a0.size:Int) > 65536 then (some (0,(⟨#[]⟩:ByteArray),([]:List ByteArray),([]:List (S26)),false)) else ((spec_UTF8.f k a0).bind fun t395=>(if t395=true then ((spec_Paired.f k a0).bind fun t396=>(if t396=true then ((spec_Read.f k a0).bind fun bt397=>(some (bt397.1,bt397.2.1,bt397.2.2.1,bt397.2.2.2.1,bt397.2.2.2.2))) else (some (0,(⟨#[]⟩:ByteArray),([]:List ByteArray),([]:List (S26)),false)))) else (some (0,(⟨#[]⟩:ByteArray),([]:List ByteArray),([]:List (S26)),false))))
theorem laws_gjText.calls (k:Nat) (a0:ByteArray) (r1:Int) (r2:ByteArray) (r3:List ByteArray) (r4:List (S26)) (r5:Bool) (w:World) (h:laws_gjText.f k a0=some (r1,r2,r3,r4,r5)) :
  Calls Tryz.prog 12 #[.string a0] w fun e w'=>∃ v2_ v3_:Value,e = .returned (.tuple #[.agg #[.int .i64 r1,.string r2,v2_,v3_],.bool r5])∧Kd.R Kd.string 9 w' w.heap.size (fun _=>True) v2_ r3∧Kd.R k26 26 w' w.heap.size (fun k_=>some k_≠(v2_:Value).ownBlock) v3_ r4∧Below w.heap.size w w':=by
 have hu26:=Tryz.underlying26
 have HB:=am (Below.refl w.heap.size w)
 have H:(if (a0.size:Int) > 65536 then (some (0,(⟨#[]⟩:ByteArray),([]:List ByteArray),([]:List (S26)),false)) else ((spec_UTF8.f k a0).bind fun t395=>(if t395=true then ((spec_Paired.f k a0).bind fun t396=>(if t396=true then ((spec_Read.f k a0).bind fun bt397=>(some (bt397.1,bt397.2.1,bt397.2.2.1,bt397.2.2.2.1,bt397.2.2.2.2))) else (some (0,(⟨#[]⟩:ByteArray),([]:List ByteArray),([]:List (S26)),false)))) else (some (0,(⟨#[]⟩:ByteArray),([]:List ByteArray),([]:List (S26)),false)))))=some (r1,r2,r3,r4,r5):=h
 clear h
 by_cases c2:(a0.size:Int) > 65536
 ·
  rw [if_pos c2] at H
  have c2b0:=dt c2
  have c2b1:decide (65536<a0.size)=true:=dt Z14
  clear c2
  simp only [Option.some.injEq,Prod.mk.injEq] at H
  obtain ⟨rfl,rfl,rfl,rfl,rfl⟩:=H
  go_enter Tryz.func12,Tryz.ntmps12
  go_wp2_with (first | ((with_reducible refine gate_dst (N:=2) rfl ?_);refine box_event ?hg (N:=2) ?hd (cs:=#[.int .i64 0,.string (⟨#[]⟩:ByteArray),.slice none 0 0,.slice none 0 0]) (t:=26) ?hr ?_;(case hd=>exact Z9);(case hg=>exact Z9);(case hr=>exact Z17);intro gb394 hg w3 hbox hb;have n0_:=am (below_step Z11 hb);have n1_:=am (hbox);have n2_:=am ((Z75:w.heap.size≤gb394));have n3_:=am ((Z75:w.heap.size≤gb394));clear HB;have HB:=n0_;have BK394:=n1_;have GW394:=n2_;have GE394:=n3_;clear n0_ n1_ n2_ n3_;clear hb hbox hg;have hcz4_0:w3.cell? ⟨gb394,0,none⟩=some (.int .i64 0):=(bkc BK394.out 0).trans rfl;have hcz4_1:w3.cell? ⟨gb394,1,none⟩=some (.string (⟨#[]⟩:ByteArray)):=(bkc BK394.out 1).trans rfl;have hcz4_2:w3.cell? ⟨gb394,2,none⟩=some (.slice none 0 0):=(bkc BK394.out 2).trans rfl;have hcz4_3:w3.cell? ⟨gb394,3,none⟩=some (.slice none 0 0):=(bkc BK394.out 3).trans rfl;have hfz4_0:=bkf BK394.out 0;have hfz4_1:=bkf BK394.out 1;have hfz4_2:=bkf BK394.out 2;have hfz4_3:=bkf BK394.out 3))
  refine bodyPost_ret (results_ct rfl _ _ gb394 26 #[.int .i64 0,.string (⟨#[]⟩:ByteArray),.slice none 0 0,.slice none 0 0] (0,0) _ rfl Z52 Tryz.underlying26 rfl Z1) rfl ?_
  exact ⟨_,_,Z12,Z13,Z13,Z30⟩
 rw [if_neg c2] at H
 have c2b0:=df c2
 have c2b1:decide (65536<a0.size)=false:=df Z14
 clear c2
 replace H:=obs H
 obtain ⟨t395,A50,H⟩:=H
 have A5:=am A50
 clear A50
 by_cases c6:t395=true
 rotate_left
 ·
  replace c6:=bef c6
  subst c6
  rw [if_neg (show ¬ (false=true) from Z2)] at H
  simp only [Option.some.injEq,Prod.mk.injEq] at H
  obtain ⟨rfl,rfl,rfl,rfl,rfl⟩:=H
  go_enter Tryz.func12,Tryz.ntmps12
  go_wp2_with (first | ((with_reducible refine gate_dst (N:=2) rfl ?_);refine box_event ?hg (N:=2) ?hd (cs:=#[.int .i64 0,.string (⟨#[]⟩:ByteArray),.slice none 0 0,.slice none 0 0]) (t:=26) ?hr ?_;(case hd=>exact Z9);(case hg=>exact Z9);(case hr=>exact Z17);intro gb394 hg w17 hbox hb;have n0_:=am (below_step Z11 hb);have n1_:=am (hbox);have n2_:=am ((Z75:w.heap.size≤gb394));have n3_:=am ((Z75:w.heap.size≤gb394));clear HB;have HB:=n0_;have BK394:=n1_;have GW394:=n2_;have GE394:=n3_;clear n0_ n1_ n2_ n3_;clear hb hbox hg) | (go_at_call 31;(with_reducible refine (spec_UTF8.calls k a0 false _ A5.out).mono ?_);rintro e w' ⟨rfl,⟨nd,rfl⟩⟩;(try (rw [drewN_self w17];generalize hq_:World.drewN w17 _=w17;have n0_:Aside0 (w17.heap[gb394]? = some (.cells #[.int .i64 0,.string (⟨#[]⟩:ByteArray),.slice none 0 0,.slice none 0 0] 26 (0,0))):=⟨by rw [← hq_];exact (pB BK394.out)⟩;have n1_:Aside0 (Below w.heap.size w w17):=⟨by rw [← hq_];exact Z30⟩;clear BK394 HB hq_;have BK394:=n0_;have HB:=n1_;clear n0_ n1_));have hcz18_0:w17.cell? ⟨gb394,0,none⟩=some (.int .i64 0):=(bkc BK394.out 0).trans rfl;have hcz18_1:w17.cell? ⟨gb394,1,none⟩=some (.string (⟨#[]⟩:ByteArray)):=(bkc BK394.out 1).trans rfl;have hcz18_2:w17.cell? ⟨gb394,2,none⟩=some (.slice none 0 0):=(bkc BK394.out 2).trans rfl;have hcz18_3:w17.cell? ⟨gb394,3,none⟩=some (.slice none 0 0):=(bkc BK394.out 3).trans rfl;have hfz18_0:=bkf BK394.out 0;have hfz18_1:=bkf BK394.out 1;have hfz18_2:=bkf BK394.out 2;have hfz18_3:=bkf BK394.out 3))
  refine bodyPost_ret (results_ct rfl _ _ gb394 26 #[.int .i64 0,.string (⟨#[]⟩:ByteArray),.slice none 0 0,.slice none 0 0] (0,0) _ rfl Z52 Tryz.underlying26 rfl Z1) rfl ?_
  exact ⟨_,_,Z12,Z13,Z13,Z30⟩
 subst c6
 rw [if_pos rfl] at H
 replace H:=obs H
 obtain ⟨t396,A70,H⟩:=H
 have A7:=am A70
 clear A70
 have HC8:=am H
 clear H
 go_enter Tryz.func12,Tryz.ntmps12
 go_upto_if 16 with (first | ((with_reducible refine gate_dst (N:=2) rfl ?_);refine box_event ?hg (N:=2) ?hd (cs:=#[.int .i64 0,.string (⟨#[]⟩:ByteArray),.slice none 0 0,.slice none 0 0]) (t:=26) ?hr ?_;(case hd=>exact Z9);(case hg=>exact Z9);(case hr=>exact Z17);intro gb394 hg w9 hbox hb;have n0_:=am (below_step Z11 hb);have n1_:=am (hbox);have n2_:=am ((Z75:w.heap.size≤gb394));have n3_:=am ((Z75:w.heap.size≤gb394));clear HB;have HB:=n0_;have BK394:=n1_;have GW394:=n2_;have GE394:=n3_;clear n0_ n1_ n2_ n3_;clear hb hbox hg) | (go_at_call 31;(with_reducible refine (spec_UTF8.calls k a0 true _ A5.out).mono ?_);rintro e w' ⟨rfl,⟨nd,rfl⟩⟩) | (go_at_call 32;(with_reducible refine (spec_Paired.calls k a0 t396 _ A7.out).mono ?_);rintro e w' ⟨rfl,⟨nd,rfl⟩⟩))
 (try simp only [Act.put,List.setIfInBounds_toArray,List.set_cons_zero,List.set_cons_succ])
 have H:=HC8.out
 clear HC8
 by_cases c10:t396=true
 rotate_left
 ·
  replace c10:=bef c10
  subst c10
  rw [if_neg (show ¬ (false=true) from Z2)] at H
  simp only [Option.some.injEq,Prod.mk.injEq] at H
  obtain ⟨rfl,rfl,rfl,rfl,rfl⟩:=H
  have hcz16_0:w9.cell? ⟨gb394,0,none⟩=some (.int .i64 0):=(bkc BK394.out 0).trans rfl
  have hcz16_1:w9.cell? ⟨gb394,1,none⟩=some (.string (⟨#[]⟩:ByteArray)):=(bkc BK394.out 1).trans rfl
  have hcz16_2:w9.cell? ⟨gb394,2,none⟩=some (.slice none 0 0):=(bkc BK394.out 2).trans rfl
  have hcz16_3:w9.cell? ⟨gb394,3,none⟩=some (.slice none 0 0):=(bkc BK394.out 3).trans rfl
  have hfz16_0:=bkf BK394.out 0
  have hfz16_1:=bkf BK394.out 1
  have hfz16_2:=bkf BK394.out 2
  have hfz16_3:=bkf BK394.out 3
  go_wp2
  refine bodyPost_ret (results_ct rfl _ _ gb394 26 #[.int .i64 0,.string (⟨#[]⟩:ByteArray),.slice none 0 0,.slice none 0 0] (0,0) _ rfl Z52 Tryz.underlying26 rfl Z1) rfl ?_
  exact ⟨_,_,Z12,Z13,Z13,Z30⟩
 subst c10
 rw [if_pos rfl] at H
 replace H:=obs H
 obtain ⟨⟨t397,t398,t399,t402,t405⟩,A110,H⟩:=H
 dsimp only at H
 have A11:=am A110
 clear A110
 simp only [Option.some.injEq,Prod.mk.injEq] at H
 obtain ⟨rfl,rfl,rfl,rfl,rfl⟩:=H
 go_wp2_with (first | ((with_reducible refine gate_callee (f:=28) rfl ?_);refine goesL_ (some 19) rfl rfl Tryz.func28 Z1 rfl #[.string a0] rfl Z10 ?_;(with_reducible refine (spec_Read.calls k a0 t397 t398 t399 t402 t405 _ A11.out).mono ?_);rintro e w12 ⟨v400,v403,rfl,ho0,ho1,hb⟩;refine ⟨_,rfl,?_⟩;have n0_:=am (Kd.R_lower ho0 (below_size Z30));have n1_:=am (Kd.R_lower (Kd.R_newB ho1 (g:=gb394) (o:=.cells #[.int .i64 0,.string (⟨#[]⟩:ByteArray),.slice none 0 0,.slice none 0 0] 26 (0,0)) (pB BK394.out)) (below_size Z30));have n2_:=am (blk_below (g:=gb394) (o:=.cells #[.int .i64 0,.string (⟨#[]⟩:ByteArray),.slice none 0 0,.slice none 0 0] 26 (0,0)) (pB BK394.out) hb);have n3_:=am (below_step Z30 hb);clear BK394;clear HB;have HO401:=n0_;have HO404:=n1_;have BK394:=n2_;have HB:=n3_;clear n0_ n1_ n2_ n3_;(try clear hb);(try clear hb2);(try clear hk);(try clear hi);(try clear ho0);(try clear ho1);have hcz13_0:w12.cell? ⟨gb394,0,none⟩=some (.int .i64 0):=(bkc BK394.out 0).trans rfl;have hcz13_1:w12.cell? ⟨gb394,1,none⟩=some (.string (⟨#[]⟩:ByteArray)):=(bkc BK394.out 1).trans rfl;have hcz13_2:w12.cell? ⟨gb394,2,none⟩=some (.slice none 0 0):=(bkc BK394.out 2).trans rfl;have hcz13_3:w12.cell? ⟨gb394,3,none⟩=some (.slice none 0 0):=(bkc BK394.out 3).trans rfl;have hfz13_0:=bkf BK394.out 0;have hfz13_1:=bkf BK394.out 1;have hfz13_2:=bkf BK394.out 2;have hfz13_3:=bkf BK394.out 3;obtain ⟨Ao14,co14,eo14⟩:=Kd.R_slice HO401.out;subst eo14;obtain ⟨Ao15,co15,eo15⟩:=Kd.R_slice HO404.out;subst eo15))
 refine bodyPost_ret (results_ct rfl _ _ gb394 26 #[.int .i64 t397,.string t398,.slice Ao14 t399.length co14,.slice Ao15 t402.length co15] (0,0) _ rfl (by (with_reducible repeat (first | refine bkn ?_ _ | refine bkd ?_ | refine bka ?_ _));refine blk_put (cs:=#[.int .i64 t397,.string t398,.slice Ao14 t399.length co14,.slice none 0 0]) ?_ 3 _ rfl;(with_reducible repeat (first | refine bkn ?_ _ | refine bkd ?_ | refine bka ?_ _));refine blk_put (cs:=#[.int .i64 t397,.string t398,.slice none 0 0,.slice none 0 0]) ?_ 2 _ rfl;(with_reducible repeat (first | refine bkn ?_ _ | refine bkd ?_ | refine bka ?_ _));refine blk_put (cs:=#[.int .i64 t397,.string (⟨#[]⟩:ByteArray),.slice none 0 0,.slice none 0 0]) ?_ 1 _ rfl;(with_reducible repeat (first | refine bkn ?_ _ | refine bkd ?_ | refine bka ?_ _));refine blk_put (cs:=#[.int .i64 0,.string (⟨#[]⟩:ByteArray),.slice none 0 0,.slice none 0 0]) ?_ 0 _ rfl;(with_reducible repeat (first | refine bkn ?_ _ | refine bkd ?_ | refine bka ?_ _));exact BK394.out) Tryz.underlying26 rfl Z1) rfl ?_
 exact ⟨_,_,Z12,by (with_reducible repeat (first | apply Kd.R_alloc | apply Kd.R_drewN | apply Kd.R_drew));exact Kd.R_mono (Kd.R_far (p:=⟨gb394,3,none⟩) (Kd.R_far (p:=⟨gb394,2,none⟩) (Kd.R_far (p:=⟨gb394,1,none⟩) (Kd.R_far (p:=⟨gb394,0,none⟩) (Kd.R_types HO401.out BK394.out Z2) (fun _ hk=>hk.2) (.int .i64 t397)) (fun _ hk=>hk.2) (.string t398)) (fun _ hk=>hk.2) (.slice Ao14 t399.length co14)) (fun _ hk=>hk.2) (.slice Ao15 t402.length co15)) (fun _ hk=>trivial),by (with_reducible repeat (first | apply Kd.R_alloc | apply Kd.R_drewN | apply Kd.R_drew));exact Kd.R_mono (Kd.R_far (p:=⟨gb394,3,none⟩) (Kd.R_far (p:=⟨gb394,2,none⟩) (Kd.R_far (p:=⟨gb394,1,none⟩) (Kd.R_far (p:=⟨gb394,0,none⟩) (Kd.R_mono HO404.out (fun k_ hk=>(⟨hk,hk.2⟩:_∧k_≠gb394))) (fun _ hk=>hk.2) (.int .i64 t397)) (fun _ hk=>hk.2) (.string t398)) (fun _ hk=>hk.2) (.slice Ao14 t399.length co14)) (fun _ hk=>hk.2) (.slice Ao15 t402.length co15)) (fun _ hk=>hk.1.1),Z30⟩
end Go.Proofs.YtieflhncpjjciaaGreatDoor.PFnGjSquashItems
