import Derived.Test.YtieflhncpjjciaaGreatDoorVq
import Derived.Test.YtieflhncpjjciaaGreatDoorVx0
import Derived.Test.YtieflhncpjjciaaGreatDoorVx5
set_option maxHeartbeats 8000000
set_option maxRecDepth 100000
namespace Go.Proofs.YtieflhncpjjciaaGreatDoor.PFnGjSquashItems
open Go.RowKit Go.Proofs.YtieflhncpjjciaaGreatDoorW.PrintWords Go.Proofs.YtieflhncpjjciaaGreatDoorW.PrintLast Go.Proofs.YtieflhncpjjciaaGreatDoorW.PrintMore
attribute [local go_sem] max2_int min2_int max_two min_two max_three min_three max_four min_four
set_option linter.unusedVariables false
set_option linter.unusedSimpArgs false
def spec_Unquote.l0:Nat→List Int→ByteArray→Int→Option (ByteArray)
 | 0,_,_,_=>none
 | k+1,x3,x4,x5=>if x5<(x4.size:Int) then (if 0≤x5 then (if (bt x4 x5)=92 then ((spec_unit.f k x4 x5).bind fun bt318=>(if bt318.2=true then ((spec_unit.f k x4 (wrap64 (x5+6))).bind fun bt324=>(if bt324.2=true then ((spec_high.f bt318.1).bind fun t326=>(if t326=true then ((spec_low.f bt324.1).bind fun t327=>(if t327=true then ((spec_appendUTF8.f k x3 (wrap64 ((wrap64 (65536+(wrap64 ((wrap64 (bt318.1 - 55296)) * 1024))))+(wrap64 (bt324.1 - 56320))))).bind fun t328=>(spec_Unquote.l0 k t328 x4 (wrap64 ((wrap64 (x5+6))+6)))) else ((spec_appendUTF8.f k x3 bt318.1).bind fun t331=>(spec_Unquote.l0 k t331 x4 (wrap64 (x5+6)))))) else ((spec_appendUTF8.f k x3 bt318.1).bind fun t334=>(spec_Unquote.l0 k t334 x4 (wrap64 (x5+6)))))) else ((spec_appendUTF8.f k x3 bt318.1).bind fun t337=>(spec_Unquote.l0 k t337 x4 (wrap64 (x5+6)))))) else (if 0≤(wrap64 (x5+1)) then (if (wrap64 (x5+1))<(x4.size:Int) then ((spec_short.f (bt x4 (wrap64 (x5+1)))).bind fun t320=>(if x3.length<140737488355328 then (spec_Unquote.l0 k (x3 ++ [t320]) x4 (wrap64 (x5+2))) else (none))) else (none)) else (none)))) else (if x3.length<140737488355328 then (spec_Unquote.l0 k (x3 ++ [bt x4 x5]) x4 (wrap64 (x5+1))) else (none))) else (none)) else (some (strOfNums x3))
def spec_Unquote.f (k:Nat) (a0:ByteArray):Option (ByteArray):=if 1≤(wrap64 ((a0.size:Int) - 1)) then (if (wrap64 ((a0.size:Int) - 1))≤(a0.size:Int) then (spec_Unquote.l0 k ([]:List Int) (a0.extract 1 ((wrap64 ((a0.size:Int) - 1)):Int).toNat) 0) else (none)) else (none)
theorem spec_Unquote.calls (k:Nat) (a0:ByteArray) (r:ByteArray) (w:World) (h:spec_Unquote.f k a0=some r) :
  Calls Tryz.prog 81 #[.string a0] w fun e w'=>e = .returned (.string r)∧Below w.heap.size w w':=by
 have HB:=am (Below.refl w.heap.size w)
 have H:(if 1≤(wrap64 ((a0.size:Int) - 1)) then (if (wrap64 ((a0.size:Int) - 1))≤(a0.size:Int) then (spec_Unquote.l0 k ([]:List Int) (a0.extract 1 ((wrap64 ((a0.size:Int) - 1)):Int).toNat) 0) else (none)) else (none))=some r:=h
 clear h
 by_cases c2:1≤(wrap64 ((a0.size:Int) - 1))
 rotate_left
 ·
  rw [if_neg c2] at H
  exact absurd H Z6
 rw [if_pos c2] at H
 have c2b0:=eq_true c2
 have c2b1:=dt c2
 clear c2
 by_cases c3:(wrap64 ((a0.size:Int) - 1))≤(a0.size:Int)
 rotate_left
 ·
  rw [if_neg c3] at H
  exact absurd H Z6
 rw [if_pos c3] at H
 have c3b0:=eq_true c3
 have c3b1:=dt c3
 clear c3
 have H':=am H
 clear H
 go_enter Tryz.func81,Tryz.ntmps81
 go_wp2
 (try simp only [Act.put,List.setIfInBounds_toArray,List.set_cons_succ,List.set_cons_zero])
 obtain ⟨sx,hsx⟩:∃ sx,a0.extract 1 ((wrap64 ((a0.size:Int) - 1)):Int).toNat=sx:=⟨_,rfl⟩
 rw [hsx] at H' ⊢
 clear hsx
 go_loopg [3,5] k (fun kq v3 v5 w'=>∃ (x3_1:List Int) (x5_1:Int),v5 = .int .i64 x5_1∧Aside0 (spec_Unquote.l0 kq x3_1 sx x5_1=some r)∧Aside0 (kq≤k)∧Aside0 (Kd.R (Kd.int .u8) 5 w' w.heap.size (fun _=>True) v3 x3_1)∧Aside0 (Below w.heap.size w w'))
 case atStart=>exact ⟨(([]:List Int)),(0),Z0,H',⟨Nat.le_refl _⟩,⟨Z13⟩,⟨Z11⟩⟩
 clear H'
 try clear c2;try clear c2b0;try clear c2b1;try clear p2;try clear c3;try clear c3b0;try clear c3b1
 obtain ⟨x3_1,x5_1,rfl,HA,HK1,HO_3,HB⟩:=hrel
 cases gk with
 | zero=>exact absurd HA.out (by simp [spec_Unquote.l0])
 | succ k1=>
 have H:=HA.out
 clear HA
 simp only [spec_Unquote.l0] at H
 by_cases c4:x5_1<(sx.size:Int)
 rotate_left
 ·
  rw [if_neg c4] at H
  have c4b0:=df c4
  clear c4
  obtain rfl:=Option.some.inj H
  have hcv40:=own_string (P:=Tryz.prog) Tryz.underlying69 Tryz.underlying5 Tryz.underlying9 (Kd.own_of_R HO_3.out)
  go_wp2
  go_ret
  exact ⟨Z12,Z11⟩
 rw [if_pos c4] at H
 have c4b0:=dt c4
 clear c4
 by_cases c5:0≤x5_1
 rotate_left
 ·
  rw [if_neg c5] at H
  exact absurd H Z6
 rw [if_pos c5] at H
 have c5b0:=dt c5
 clear c5
 by_cases c7:(bt sx x5_1)=92
 rotate_left
 ·
  rw [if_neg c7] at H
  have c7b0:=bfe c7
  have c7b1:=bne_iff_ne.mpr c7
  by_cases c38:x3_1.length<140737488355328
  rotate_left
  ·
   rw [if_neg c38] at H
   exact absurd H Z6
  rw [if_pos c38] at H
  have LMc38:=am c38
  clear c38
  obtain ⟨y315,hy315⟩:∃ y_:List Int,y_=(x3_1 ++ [bt sx x5_1]):=⟨_,rfl⟩
  first | replace H:=bind_y hy315 H | rw [← hy315] at H
  have Ny315:=am hy315
  clear hy315
  have H':=am H
  clear H
  have p6:0≤(x5_1:Int):=od Z8
  have q6:x5_1<(sx.size:Int):=od Z8
  have hx6:=bt_at sx x5_1
  replace p6:=eq_true p6
  replace q6:=eq_true q6
  have p37:0≤(x5_1:Int):=od Z8
  have q37:x5_1<(sx.size:Int):=od Z8
  have hx37:=bt_at sx x5_1
  replace p37:=eq_true p37
  replace q37:=eq_true q37
  go_wp2_with (first | ((with_reducible refine gate_builtin (b:=.append) (xs:=#[.tmp 23,.tmp 27]) rfl ?_);at_builtin;refine Kd.R_append (Kd.int .u8) (w0:=w) w.heap.size rfl (.tmp 23) (.tmp 27) 69 5 (.int .u8 0) 1 rfl Tryz.underlying69 info5 rfl Z2 Z14 u3 x3_1 (bt sx x5_1) [.int .u8 (bt sx x5_1)] (fun _=>True) (fun _=>False) rfl rfl ?aP (fun _ hk=>hk.elim) ?aF ?aO ?aB ?aS ?aL ?_;(case aP=>exact rfl);(case aB=>exact Z11);(case aF=>exact (fun _ _=>trivial));(case aO=>exact (pR HO_3.out));(case aS=>exact (below_size Z11));(case aL=>have:=LMc38.out;omega);intro v316 w39 ho hb hg hat;rw [← Ny315.out] at ho;have n0_:=am (hb);have n1_:=am (ho);clear HB;clear HO_3;have HB:=n0_;have HO317:=n1_;clear n0_ n1_;clear ho hb hg hat))
  go_roundg k1
  case measure=>have:=HK1.out;omega
  case rel=>exact ⟨(y315),(wrap64 (x5_1+1)),Z0,H',⟨Z19⟩,⟨pR HO317.out⟩,⟨Z11⟩⟩
 rw [if_pos c7] at H
 have c7b0:=beq_iff_eq.mpr c7
 have c7b1:=bnf c7
 clear c7
 replace H:=obs H
 obtain ⟨⟨t318,t319⟩,A80,H⟩:=H
 dsimp only at H
 have A8:=am A80
 clear A80
 have HC9:=am H
 clear H
 have p6:0≤(x5_1:Int):=od Z8
 have q6:x5_1<(sx.size:Int):=od Z8
 have hx6:=bt_at sx x5_1
 replace p6:=eq_true p6
 replace q6:=eq_true q6
 go_upto_if 38 with (first | ((with_reducible refine gate_callee (f:=54) rfl ?_);refine goesL_ (some 34) rfl rfl Tryz.func54 Z1 rfl #[.string sx,.int .i64 x5_1] rfl Z10 ?_;(with_reducible refine (spec_unit.calls k1 sx x5_1 t318 t319 _ A8.out).mono ?_);rintro e w' ⟨rfl,⟨nd,rfl⟩⟩;refine ⟨_,rfl,?_⟩))
 (try simp only [Act.put,List.setIfInBounds_toArray,List.set_cons_zero,List.set_cons_succ])
 have H:=HC9.out
 clear HC9
 by_cases c10:t319=true
 rotate_left
 ·
  replace c10:=bef c10
  subst c10
  rw [if_neg (show ¬ (false=true) from Z2)] at H
  obtain ⟨ji30,hji30⟩:∃ j_:Int,(wrap64 (x5_1+1))=j_:=⟨_,rfl⟩
  replace H:(if 0≤(ji30) then (if (ji30)<(sx.size:Int) then ((spec_short.f (bt sx (ji30))).bind fun t320=>(if x3_1.length<140737488355328 then (spec_Unquote.l0 k1 (x3_1 ++ [t320]) sx (wrap64 (x5_1+2))) else (none))) else (none)) else (none))=some r:=by first | (rw [hji30] at H;exact H) | (simp only [hji30] at H ⊢;exact H)
  have hji30w:(IntKind.i64.wrap (x5_1+1))=ji30:=(i64_w _).trans hji30
  by_cases c31:0≤(ji30)
  rotate_left
  ·
   rw [if_neg c31] at H
   exact absurd H Z6
  rw [if_pos c31] at H
  have c31b0:=dt c31
  clear c31
  by_cases c32:(ji30)<(sx.size:Int)
  rotate_left
  ·
   rw [if_neg c32] at H
   exact absurd H Z6
  rw [if_pos c32] at H
  have c32b0:=dt c32
  clear c32
  replace H:=obs H
  obtain ⟨t320,A340,H⟩:=H
  have A34:=am A340
  clear A340
  by_cases c35:x3_1.length<140737488355328
  rotate_left
  ·
   rw [if_neg c35] at H
   exact absurd H Z6
  rw [if_pos c35] at H
  have LMc35:=am c35
  clear c35
  obtain ⟨y321,hy321⟩:∃ y_:List Int,y_=(x3_1 ++ [t320]):=⟨_,rfl⟩
  first | replace H:=bind_y hy321 H | rw [← hy321] at H
  have Ny321:=am hy321
  clear hy321
  have H':=am H
  clear H
  have p33:0≤((ji30):Int):=od Z8
  have q33:(ji30)<(sx.size:Int):=od Z8
  have hx33:=bt_at sx (ji30)
  replace p33:=eq_true p33
  replace q33:=eq_true q33
  go_wp2_with (first | ((with_reducible refine gate_callee (f:=96) rfl ?_);refine goesL_ (some 44) rfl rfl Tryz.func96 Z1 rfl #[.int .u8 (bt sx (ji30))] rfl (by (try simp only [List.map_toArray,List.map_cons,List.map_nil]);first | done | (simp only [hji30];rfl) | rfl | (simp only [List.length_drop,List.length_take];rfl) | (simp only [ByteArray.size_append,Int.natCast_add];first | done | rfl) | (go_simp;first | done | (simp [ByteArray.size_append,ByteArray.size_extract];done))) ?_;(with_reducible refine (spec_short.calls (bt sx (ji30)) t320 _ A34.out).mono ?_);rintro e w' ⟨rfl,⟨nd,rfl⟩⟩;refine ⟨_,rfl,?_⟩) | ((with_reducible refine gate_builtin (b:=.append) (xs:=#[.tmp 39,.tmp 45]) rfl ?_);at_builtin;refine Kd.R_append (Kd.int .u8) (w0:=w) w.heap.size rfl (.tmp 39) (.tmp 45) 69 5 (.int .u8 0) 1 rfl Tryz.underlying69 info5 rfl Z2 Z14 u3 x3_1 t320 [.int .u8 t320] (fun _=>True) (fun _=>False) rfl rfl ?aP (fun _ hk=>hk.elim) ?aF ?aO ?aB ?aS ?aL ?_;(case aP=>exact rfl);(case aB=>exact Z11);(case aF=>exact (fun _ _=>trivial));(case aO=>exact (pR HO_3.out));(case aS=>exact (below_size Z11));(case aL=>have:=LMc35.out;omega);intro v322 w36 ho hb hg hat;rw [← Ny321.out] at ho;have n0_:=am (hb);have n1_:=am (ho);clear HB;clear HO_3;have HB:=n0_;have HO323:=n1_;clear n0_ n1_;clear ho hb hg hat))
  go_roundg k1
  case measure=>have:=HK1.out;omega
  case rel=>exact ⟨(y321),(wrap64 (x5_1+2)),Z0,H',⟨Z19⟩,⟨pR HO323.out⟩,⟨Z11⟩⟩
 subst c10
 rw [if_pos rfl] at H
 replace H:=obs H
 obtain ⟨⟨t324,t325⟩,A110,H⟩:=H
 dsimp only at H
 have A11:=am A110
 clear A110
 by_cases c12:t325=true
 rotate_left
 ·
  replace c12:=bef c12
  subst c12
  rw [if_neg (show ¬ (false=true) from Z2)] at H
  replace H:=obs H
  obtain ⟨t337,A270,H⟩:=H
  have A27:=am A270
  clear A270
  have H':=am H
  clear H
  go_wp2_with (first | ((with_reducible refine gate_callee (f:=54) rfl ?_);refine goesL_ (some 54) rfl rfl Tryz.func54 Z1 rfl #[.string sx,.int .i64 (wrap64 (x5_1+6))] rfl Z10 ?_;(with_reducible refine (spec_unit.calls k1 sx (wrap64 (x5_1+6)) t324 false _ A11.out).mono ?_);rintro e w' ⟨rfl,⟨nd,rfl⟩⟩;refine ⟨_,rfl,?_⟩;obtain ⟨Ao28,co28,eo28⟩:=Kd.R_slice HO_3.out;subst eo28) | ((with_reducible refine gate_callee (f:=97) rfl ?_);refine goesL_ (some 77) rfl rfl Tryz.func97 Z1 rfl #[.slice Ao28 x3_1.length co28,.int .i64 t318] rfl Z10 ?_;(with_reducible refine (spec_appendUTF8.calls k1 (fun k_=>some k_=(.slice Ao28 x3_1.length co28:Value).ownBlock) (.slice Ao28 x3_1.length co28) x3_1 t318 t337 w _ ?side1 ?side2 A27.out).mono ?_);(case side1=>exact Z11);(case side2=>exact Z39);rintro e w29 ⟨v338,rfl,ho0,hb,hkp⟩;refine ⟨_,rfl,?_⟩;have n0_:=am (Kd.R_mono (ok':=fun k_=>True) ho0 (fun k_ hk_=>trivial));have n1_:=am (hb);clear HB;clear HO_3;have HO339:=n0_;have HB:=n1_;clear n0_ n1_;(try clear hb);(try clear hkp);(try clear ho0)))
  go_roundg k1
  case measure=>have:=HK1.out;omega
  case rel=>exact ⟨(t337),(wrap64 (x5_1+6)),Z0,H',⟨Z19⟩,⟨pR HO339.out⟩,⟨Z11⟩⟩
 subst c12
 rw [if_pos rfl] at H
 replace H:=obs H
 obtain ⟨t326,A130,H⟩:=H
 have A13:=am A130
 clear A130
 by_cases c14:t326=true
 rotate_left
 ·
  replace c14:=bef c14
  subst c14
  rw [if_neg (show ¬ (false=true) from Z2)] at H
  replace H:=obs H
  obtain ⟨t334,A240,H⟩:=H
  have A24:=am A240
  clear A240
  have H':=am H
  clear H
  go_wp2_with (first | ((with_reducible refine gate_callee (f:=54) rfl ?_);refine goesL_ (some 54) rfl rfl Tryz.func54 Z1 rfl #[.string sx,.int .i64 (wrap64 (x5_1+6))] rfl Z10 ?_;(with_reducible refine (spec_unit.calls k1 sx (wrap64 (x5_1+6)) t324 true _ A11.out).mono ?_);rintro e w' ⟨rfl,⟨nd,rfl⟩⟩;refine ⟨_,rfl,?_⟩) | (go_at_call 55;(with_reducible refine (spec_high.calls t318 false _ A13.out).mono ?_);rintro e w' ⟨rfl,⟨nd,rfl⟩⟩;obtain ⟨Ao25,co25,eo25⟩:=Kd.R_slice HO_3.out;subst eo25) | ((with_reducible refine gate_callee (f:=97) rfl ?_);refine goesL_ (some 77) rfl rfl Tryz.func97 Z1 rfl #[.slice Ao25 x3_1.length co25,.int .i64 t318] rfl Z10 ?_;(with_reducible refine (spec_appendUTF8.calls k1 (fun k_=>some k_=(.slice Ao25 x3_1.length co25:Value).ownBlock) (.slice Ao25 x3_1.length co25) x3_1 t318 t334 w _ ?side1 ?side2 A24.out).mono ?_);(case side1=>exact Z11);(case side2=>exact Z39);rintro e w26 ⟨v335,rfl,ho0,hb,hkp⟩;refine ⟨_,rfl,?_⟩;have n0_:=am (Kd.R_mono (ok':=fun k_=>True) ho0 (fun k_ hk_=>trivial));have n1_:=am (hb);clear HB;clear HO_3;have HO336:=n0_;have HB:=n1_;clear n0_ n1_;(try clear hb);(try clear hkp);(try clear ho0)))
  go_roundg k1
  case measure=>have:=HK1.out;omega
  case rel=>exact ⟨(t334),(wrap64 (x5_1+6)),Z0,H',⟨Z19⟩,⟨pR HO336.out⟩,⟨Z11⟩⟩
 subst c14
 rw [if_pos rfl] at H
 replace H:=obs H
 obtain ⟨t327,A150,H⟩:=H
 have A15:=am A150
 clear A150
 have HC16:=am H
 clear H
 go_upto_if 65 with (first | ((with_reducible refine gate_callee (f:=54) rfl ?_);refine goesL_ (some 54) rfl rfl Tryz.func54 Z1 rfl #[.string sx,.int .i64 (wrap64 (x5_1+6))] rfl Z10 ?_;(with_reducible refine (spec_unit.calls k1 sx (wrap64 (x5_1+6)) t324 true _ A11.out).mono ?_);rintro e w' ⟨rfl,⟨nd,rfl⟩⟩;refine ⟨_,rfl,?_⟩) | (go_at_call 55;(with_reducible refine (spec_high.calls t318 true _ A13.out).mono ?_);rintro e w' ⟨rfl,⟨nd,rfl⟩⟩) | (go_at_call 56;(with_reducible refine (spec_low.calls t324 t327 _ A15.out).mono ?_);rintro e w' ⟨rfl,⟨nd,rfl⟩⟩))
 (try simp only [Act.put,List.setIfInBounds_toArray,List.set_cons_zero,List.set_cons_succ])
 have H:=HC16.out
 clear HC16
 by_cases c17:t327=true
 rotate_left
 ·
  replace c17:=bef c17
  subst c17
  rw [if_neg (show ¬ (false=true) from Z2)] at H
  replace H:=obs H
  obtain ⟨t331,A210,H⟩:=H
  have A21:=am A210
  clear A210
  have H':=am H
  clear H
  obtain ⟨Ao22,co22,eo22⟩:=Kd.R_slice HO_3.out
  subst eo22
  go_wp2_with (first | ((with_reducible refine gate_callee (f:=97) rfl ?_);refine goesL_ (some 77) rfl rfl Tryz.func97 Z1 rfl #[.slice Ao22 x3_1.length co22,.int .i64 t318] rfl Z10 ?_;(with_reducible refine (spec_appendUTF8.calls k1 (fun k_=>some k_=(.slice Ao22 x3_1.length co22:Value).ownBlock) (.slice Ao22 x3_1.length co22) x3_1 t318 t331 w _ ?side1 ?side2 A21.out).mono ?_);(case side1=>exact Z11);(case side2=>exact Z39);rintro e w23 ⟨v332,rfl,ho0,hb,hkp⟩;refine ⟨_,rfl,?_⟩;have n0_:=am (Kd.R_mono (ok':=fun k_=>True) ho0 (fun k_ hk_=>trivial));have n1_:=am (hb);clear HB;clear HO_3;have HO333:=n0_;have HB:=n1_;clear n0_ n1_;(try clear hb);(try clear hkp);(try clear ho0)))
  go_roundg k1
  case measure=>have:=HK1.out;omega
  case rel=>exact ⟨(t331),(wrap64 (x5_1+6)),Z0,H',⟨Z19⟩,⟨pR HO333.out⟩,⟨Z11⟩⟩
 subst c17
 rw [if_pos rfl] at H
 replace H:=obs H
 obtain ⟨t328,A180,H⟩:=H
 have A18:=am A180
 clear A180
 have H':=am H
 clear H
 obtain ⟨Ao19,co19,eo19⟩:=Kd.R_slice HO_3.out
 subst eo19
 go_wp2_with (first | ((with_reducible refine gate_callee (f:=97) rfl ?_);refine goesL_ (some 77) rfl rfl Tryz.func97 Z1 rfl #[.slice Ao19 x3_1.length co19,.int .i64 (wrap64 ((wrap64 (65536+(wrap64 ((wrap64 (t318 - 55296)) * 1024))))+(wrap64 (t324 - 56320))))] rfl Z10 ?_;(with_reducible refine (spec_appendUTF8.calls k1 (fun k_=>some k_=(.slice Ao19 x3_1.length co19:Value).ownBlock) (.slice Ao19 x3_1.length co19) x3_1 (wrap64 ((wrap64 (65536+(wrap64 ((wrap64 (t318 - 55296)) * 1024))))+(wrap64 (t324 - 56320)))) t328 w _ ?side1 ?side2 A18.out).mono ?_);(case side1=>exact Z11);(case side2=>exact Z39);rintro e w20 ⟨v329,rfl,ho0,hb,hkp⟩;refine ⟨_,rfl,?_⟩;have n0_:=am (Kd.R_mono (ok':=fun k_=>True) ho0 (fun k_ hk_=>trivial));have n1_:=am (hb);clear HB;clear HO_3;have HO330:=n0_;have HB:=n1_;clear n0_ n1_;(try clear hb);(try clear hkp);(try clear ho0)))
 go_roundg k1
 case measure=>have:=HK1.out;omega
 case rel=>exact ⟨(t328),(wrap64 ((wrap64 (x5_1+6))+6)),Z0,H',⟨Z19⟩,⟨pR HO330.out⟩,⟨Z11⟩⟩
end Go.Proofs.YtieflhncpjjciaaGreatDoor.PFnGjSquashItems
