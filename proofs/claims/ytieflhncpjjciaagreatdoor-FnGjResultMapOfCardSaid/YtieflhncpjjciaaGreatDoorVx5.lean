import Derived.Test.YtieflhncpjjciaaGreatDoorVq
import Derived.Test.YtieflhncpjjciaaGreatDoorVx0
import Derived.Test.YtieflhncpjjciaaGreatDoorVx1
set_option maxHeartbeats 8000000
set_option maxRecDepth 100000
namespace Go.Proofs.YtieflhncpjjciaaGreatDoor.PFnGjSquashItems
open Go.RowKit Go.Proofs.YtieflhncpjjciaaGreatDoorW.PrintWords Go.Proofs.YtieflhncpjjciaaGreatDoorW.PrintLast Go.Proofs.YtieflhncpjjciaaGreatDoorW.PrintMore
attribute [local go_sem] max2_int min2_int max_two min_two max_three min_three max_four min_four
set_option linter.unusedVariables false
set_option linter.unusedSimpArgs false
mutual
def spec_unit.j0:Nat→ByteArray→Int→Bool→Option (Int×Bool)
 | 0,_,_,_=>none
 | k+1,x0,x1,x27=>if x27=true then (some (0,false)) else (spec_unit.l0 k x0 x1 0 (wrap64 (x1+2)))
def spec_unit.l0:Nat→ByteArray→Int→Int→Int→Option (Int×Bool)
 | 0,_,_,_,_=>none
 | k+1,x0,x1,x6,x7=>if x7<(wrap64 (x1+6)) then (if 0≤x7 then (if x7<(x0.size:Int) then ((spec_hexDigit.f k (bt x0 x7)).bind fun bt284=>(if bt284.2=true then (spec_unit.l0 k x0 x1 (wrap64 ((wrap64 (x6 * 16))+bt284.1)) (wrap64 (x7+1))) else (some (0,false)))) else (none)) else (none)) else (some (x6,true))
end
def spec_unit.f (k:Nat) (a0:ByteArray) (a1:Int):Option (Int×Bool):=if (wrap64 ((a0.size:Int) - a1))<6 then (spec_unit.j0 k a0 a1 true) else (if 0≤a1 then (if a1<(a0.size:Int) then (if (bt a0 a1)=92 then (if 0≤(wrap64 (a1+1)) then (if (wrap64 (a1+1))<(a0.size:Int) then (spec_unit.j0 k a0 a1 ((bt a0 (wrap64 (a1+1))) != 117)) else (none)) else (none)) else (spec_unit.j0 k a0 a1 true)) else (none)) else (none))
theorem spec_unit.calls (k:Nat) (a0:ByteArray) (a1:Int) (r1:Int) (r2:Bool) (w:World) (h:spec_unit.f k a0 a1=some (r1,r2)) :
  Calls Tryz.prog 54 #[.string a0,.int .i64 a1] w fun e w'=>e = .returned (.tuple #[.int .i64 r1,.bool r2])∧Drawn0 w w':=by
 have H:(if (wrap64 ((a0.size:Int) - a1))<6 then (spec_unit.j0 k a0 a1 true) else (if 0≤a1 then (if a1<(a0.size:Int) then (if (bt a0 a1)=92 then (if 0≤(wrap64 (a1+1)) then (if (wrap64 (a1+1))<(a0.size:Int) then (spec_unit.j0 k a0 a1 ((bt a0 (wrap64 (a1+1))) != 117)) else (none)) else (none)) else (spec_unit.j0 k a0 a1 true)) else (none)) else (none)))=some (r1,r2):=h
 clear h
 have HC3:=am H
 clear H
 go_enter Tryz.func54,Tryz.ntmps54
 go_upto_region 1 with (fail)
 go_cut [27] (fun v27 wc=>∃ (kq:Nat) (x27_2:Bool),v27 = .bool x27_2∧Aside0 (spec_unit.j0 kq a0 a1 x27_2=some (r1,r2))∧Aside0 (kq≤k)∧Drawn0 w wc)
 case first=>
  have H:=HC3.out
  clear HC3
  by_cases c4:(wrap64 ((a0.size:Int) - a1))<6
  ·
   rw [if_pos c4] at H
   have c4b0:=dt c4
   clear c4
   (first | rw [c4b0] | (simp only [i64_w,i32_w];rw [c4b0]) | skip)
   have H':=am H
   clear H
   go_wp2
   go_meet
   case rel=>exact ⟨_,(true),Z0,H',⟨Z15⟩,Z5⟩
  rw [if_neg c4] at H
  have c4b0:=df c4
  clear c4
  (first | rw [c4b0] | (simp only [i64_w,i32_w];rw [c4b0]) | skip)
  by_cases c5:0≤a1
  rotate_left
  ·
   rw [if_neg c5] at H
   exact absurd H Z6
  rw [if_pos c5] at H
  have c5b0:=dt c5
  clear c5
  by_cases c6:a1<(a0.size:Int)
  rotate_left
  ·
   rw [if_neg c6] at H
   exact absurd H Z6
  rw [if_pos c6] at H
  have c6b0:=dt c6
  clear c6
  by_cases c8:(bt a0 a1)=92
  rotate_left
  ·
   rw [if_neg c8] at H
   have c8b0:=bfe c8
   have c8b1:=bne_iff_ne.mpr c8
   have H':=am H
   clear H
   have p7:0≤(a1:Int):=od Z8
   have q7:a1<(a0.size:Int):=od Z8
   have hx7:=bt_at a0 a1
   replace p7:=eq_true p7
   replace q7:=eq_true q7
   go_wp2
   go_meet
   case rel=>exact ⟨_,(true),Z0,H',⟨Z15⟩,Z5⟩
  rw [if_pos c8] at H
  have c8b0:=beq_iff_eq.mpr c8
  have c8b1:=bnf c8
  clear c8
  obtain ⟨ji9,hji9⟩:∃ j_:Int,(wrap64 (a1+1))=j_:=⟨_,rfl⟩
  replace H:(if 0≤(ji9) then (if (ji9)<(a0.size:Int) then (spec_unit.j0 k a0 a1 ((bt a0 (ji9)) != 117)) else (none)) else (none))=some (r1,r2):=by first | (rw [hji9] at H;exact H) | (simp only [hji9] at H ⊢;exact H)
  have hji9w:(IntKind.i64.wrap (a1+1))=ji9:=(i64_w _).trans hji9
  by_cases c10:0≤(ji9)
  rotate_left
  ·
   rw [if_neg c10] at H
   exact absurd H Z6
  rw [if_pos c10] at H
  have c10b0:=dt c10
  clear c10
  by_cases c11:(ji9)<(a0.size:Int)
  rotate_left
  ·
   rw [if_neg c11] at H
   exact absurd H Z6
  rw [if_pos c11] at H
  have c11b0:=dt c11
  clear c11
  have H':=am H
  clear H
  have p7:0≤(a1:Int):=od Z8
  have q7:a1<(a0.size:Int):=od Z8
  have hx7:=bt_at a0 a1
  replace p7:=eq_true p7
  replace q7:=eq_true q7
  have p12:0≤((ji9):Int):=od Z8
  have q12:(ji9)<(a0.size:Int):=od Z8
  have hx12:=bt_at a0 (ji9)
  replace p12:=eq_true p12
  replace q12:=eq_true q12
  go_wp2
  go_meet
  case rel=>exact ⟨_,(((bt a0 (ji9)) != 117)),(by first | rfl | (simp;done) | (simp only [← hji9] <;> (first | rfl | simp)) | (simp [*];done)),H',⟨Z15⟩,Z5⟩
 clear HC3;try clear c1;try clear p1;try clear q1;try clear hx1;try clear p2;try clear c4;try clear c4b0;try clear c5;try clear c5b0;try clear c6;try clear c6b0;try clear p6;try clear p7;try clear q7;try clear hx7;try clear c8;try clear c8b0;try clear c8b1;try clear c10;try clear c10b0;try clear c11;try clear c11b0;try clear p12;try clear q12;try clear hx12;try clear p12;try clear p7;try clear q12;try clear q7
 obtain ⟨kq,x27_2,rfl,HA,HJ2,⟨mc2,rfl⟩⟩:=hcut
 cases kq with
 | zero=>exact absurd HA.out (by simp [spec_unit.j0])
 | succ kj2=>
 have H:=HA.out
 clear HA
 simp only [spec_unit.j0] at H
 by_cases c13:x27_2=true
 ·
  subst c13
  rw [if_pos rfl] at H
  simp only [Option.some.injEq,Prod.mk.injEq] at H
  obtain ⟨rfl,rfl⟩:=H
  go_wp2
  go_ret2
  exact ⟨Z0,Z5⟩
 replace c13:=bef c13
 subst c13
 rw [if_neg (show ¬ (false=true) from Z2)] at H
 have H':=am H
 clear H
 go_wp2
 (try simp only [Act.put,List.setIfInBounds_toArray,List.set_cons_succ,List.set_cons_zero])
 go_loopg [6,7] kj2 (fun kq v6 v7 w'=>∃ (x6_2:Int) (x7_2:Int),v6 = .int .i64 x6_2∧v7 = .int .i64 x7_2∧Aside0 (spec_unit.l0 kq a0 a1 x6_2 x7_2=some (r1,r2))∧Aside0 (kq≤kj2)∧Drawn0 w w')
 case atStart=>exact ⟨(0),(wrap64 (a1+2)),Z0,Z0,H',⟨Nat.le_refl _⟩,Z5⟩
 clear H'
 try clear c1;try clear p1;try clear q1;try clear hx1;try clear c2;try clear p2;try clear c4;try clear c4b0;try clear c5;try clear c5b0;try clear c6;try clear c6b0;try clear p6;try clear p7;try clear q7;try clear hx7;try clear c8;try clear c8b0;try clear c8b1;try clear c10;try clear c10b0;try clear c11;try clear c11b0;try clear p12;try clear q12;try clear hx12;try clear c13;try clear p1;try clear p12;try clear p2;try clear p6;try clear p7;try clear q1;try clear q12;try clear q7
 obtain ⟨x6_2,x7_2,rfl,rfl,HA,HK2,⟨m2,rfl⟩⟩:=hrel
 cases gk with
 | zero=>exact absurd HA.out (by simp [spec_unit.l0])
 | succ k2=>
 have H:=HA.out
 clear HA
 simp only [spec_unit.l0] at H
 by_cases c14:x7_2<(wrap64 (a1+6))
 rotate_left
 ·
  rw [if_neg c14] at H
  have c14b0:=df c14
  clear c14
  simp only [Option.some.injEq,Prod.mk.injEq] at H
  obtain ⟨rfl,rfl⟩:=H
  go_wp2
  go_ret2
  exact ⟨Z0,Z5⟩
 rw [if_pos c14] at H
 have c14b0:=dt c14
 clear c14
 by_cases c15:0≤x7_2
 rotate_left
 ·
  rw [if_neg c15] at H
  exact absurd H Z6
 rw [if_pos c15] at H
 have c15b0:=dt c15
 clear c15
 by_cases c16:x7_2<(a0.size:Int)
 rotate_left
 ·
  rw [if_neg c16] at H
  exact absurd H Z6
 rw [if_pos c16] at H
 have c16b0:=dt c16
 clear c16
 replace H:=obs H
 obtain ⟨⟨t284,t285⟩,A180,H⟩:=H
 dsimp only at H
 have A18:=am A180
 clear A180
 have HC19:=am H
 clear H
 have p17:0≤(x7_2:Int):=od Z8
 have q17:x7_2<(a0.size:Int):=od Z8
 have hx17:=bt_at a0 x7_2
 replace p17:=eq_true p17
 replace q17:=eq_true q17
 go_upto_if 44 with (first | ((with_reducible refine gate_callee (f:=82) rfl ?_);refine goesL_ (some 40) rfl rfl Tryz.func82 Z1 rfl #[.int .u8 (bt a0 x7_2)] rfl Z10 ?_;(with_reducible refine (spec_hexDigit.calls k2 (bt a0 x7_2) t284 t285 _ A18.out).mono ?_);rintro e w' ⟨rfl,⟨nd,rfl⟩⟩;refine ⟨_,rfl,?_⟩))
 (try simp only [Act.put,List.setIfInBounds_toArray,List.set_cons_zero,List.set_cons_succ])
 have H:=HC19.out
 clear HC19
 by_cases c20:t285=true
 rotate_left
 ·
  replace c20:=bef c20
  subst c20
  rw [if_neg (show ¬ (false=true) from Z2)] at H
  simp only [Option.some.injEq,Prod.mk.injEq] at H
  obtain ⟨rfl,rfl⟩:=H
  go_wp2
  go_ret2
  exact ⟨Z0,Z5⟩
 subst c20
 rw [if_pos rfl] at H
 have H':=am H
 clear H
 go_wp2
 go_roundg k2
 case measure=>have:=HJ2.out;have:=HK2.out;omega
 case rel=>exact ⟨(wrap64 ((wrap64 (x6_2 * 16))+t284)),(wrap64 (x7_2+1)),Z0,Z0,H',⟨Z42⟩,Z5⟩
def spec_high.f (a0:Int):Option (Bool):=if 55296≤a0 then (some (decide (a0≤56319))) else (some false)
theorem spec_high.calls (a0:Int) (r:Bool) (w:World) (h:spec_high.f a0=some r) :
  Calls Tryz.prog 55 #[.int .i64 a0] w fun e w'=>e = .returned (.bool r)∧Drawn0 w w':=by
 have H:(if 55296≤a0 then (some (decide (a0≤56319))) else (some false))=some r:=h
 clear h
 by_cases c2:55296≤a0
 ·
  rw [if_pos c2] at H
  have c2b0:=dt c2
  clear c2
  obtain rfl:=Option.some.inj H
  go_enter Tryz.func55,Tryz.ntmps55
  go_wp2
  go_ret
  exact ⟨Z0,Z5⟩
 rw [if_neg c2] at H
 have c2b0:=df c2
 clear c2
 obtain rfl:=Option.some.inj H
 go_enter Tryz.func55,Tryz.ntmps55
 go_wp2
 go_ret
 exact ⟨Z0,Z5⟩
def spec_low.f (a0:Int):Option (Bool):=if 56320≤a0 then (some (decide (a0≤57343))) else (some false)
theorem spec_low.calls (a0:Int) (r:Bool) (w:World) (h:spec_low.f a0=some r) :
  Calls Tryz.prog 56 #[.int .i64 a0] w fun e w'=>e = .returned (.bool r)∧Drawn0 w w':=by
 have H:(if 56320≤a0 then (some (decide (a0≤57343))) else (some false))=some r:=h
 clear h
 by_cases c2:56320≤a0
 ·
  rw [if_pos c2] at H
  have c2b0:=dt c2
  clear c2
  obtain rfl:=Option.some.inj H
  go_enter Tryz.func56,Tryz.ntmps56
  go_wp2
  go_ret
  exact ⟨Z0,Z5⟩
 rw [if_neg c2] at H
 have c2b0:=df c2
 clear c2
 obtain rfl:=Option.some.inj H
 go_enter Tryz.func56,Tryz.ntmps56
 go_wp2
 go_ret
 exact ⟨Z0,Z5⟩
def spec_short.f (a0:Int):Option (Int):=if a0=98 then (some 8) else (if a0=102 then (some 12) else (if a0=110 then (some 10) else (if a0=114 then (some 13) else (if a0=116 then (some 9) else (some a0)))))
theorem spec_short.calls (a0:Int) (r:Int) (w:World) (h:spec_short.f a0=some r) :
  Calls Tryz.prog 96 #[.int .u8 a0] w fun e w'=>e = .returned (.int .u8 r)∧Drawn0 w w':=by
 have H:(if a0=98 then (some 8) else (if a0=102 then (some 12) else (if a0=110 then (some 10) else (if a0=114 then (some 13) else (if a0=116 then (some 9) else (some a0))))))=some r:=h
 clear h
 by_cases c2:a0=98
 ·
  rw [if_pos c2] at H
  have c2b0:=beq_iff_eq.mpr c2
  have c2b1:=bnf c2
  clear c2
  obtain rfl:=Option.some.inj H
  go_enter Tryz.func96,Tryz.ntmps96
  go_wp2
  go_ret
  exact ⟨Z0,Z5⟩
 rw [if_neg c2] at H
 have c2b0:=bfe c2
 have c2b1:=bne_iff_ne.mpr c2
 by_cases c3:a0=102
 ·
  rw [if_pos c3] at H
  have c3b0:=beq_iff_eq.mpr c3
  have c3b1:=bnf c3
  clear c3
  obtain rfl:=Option.some.inj H
  go_enter Tryz.func96,Tryz.ntmps96
  go_wp2
  go_ret
  exact ⟨Z0,Z5⟩
 rw [if_neg c3] at H
 have c3b0:=bfe c3
 have c3b1:=bne_iff_ne.mpr c3
 by_cases c4:a0=110
 ·
  rw [if_pos c4] at H
  have c4b0:=beq_iff_eq.mpr c4
  have c4b1:=bnf c4
  clear c4
  obtain rfl:=Option.some.inj H
  go_enter Tryz.func96,Tryz.ntmps96
  go_wp2
  go_ret
  exact ⟨Z0,Z5⟩
 rw [if_neg c4] at H
 have c4b0:=bfe c4
 have c4b1:=bne_iff_ne.mpr c4
 by_cases c5:a0=114
 ·
  rw [if_pos c5] at H
  have c5b0:=beq_iff_eq.mpr c5
  have c5b1:=bnf c5
  clear c5
  obtain rfl:=Option.some.inj H
  go_enter Tryz.func96,Tryz.ntmps96
  go_wp2
  go_ret
  exact ⟨Z0,Z5⟩
 rw [if_neg c5] at H
 have c5b0:=bfe c5
 have c5b1:=bne_iff_ne.mpr c5
 by_cases c6:a0=116
 rotate_left
 ·
  rw [if_neg c6] at H
  have c6b0:=bfe c6
  have c6b1:=bne_iff_ne.mpr c6
  obtain rfl:=Option.some.inj H
  go_enter Tryz.func96,Tryz.ntmps96
  go_wp2
  go_ret
  exact ⟨Z0,Z5⟩
 rw [if_pos c6] at H
 have c6b0:=beq_iff_eq.mpr c6
 have c6b1:=bnf c6
 clear c6
 obtain rfl:=Option.some.inj H
 go_enter Tryz.func96,Tryz.ntmps96
 go_wp2
 go_ret
 exact ⟨Z0,Z5⟩
def spec_appendUTF8.j0:Nat→List Int→Int→Bool→Option (List Int)
 | 0,_,_,_=>none
 | k+1,x0,x1,x27=>if x27=true then ((some (([239,191,189]:List Int):List Int)).bind fun y297=>(if x0.length+y297.length<140737488355328 then (some (x0 ++ y297)) else (none))) else (if x1<65536 then ((some (([(wrap64 (224+(wrap64 (Int.tdiv x1 4096)))) % 256,(wrap64 (128+(Int.tmod (wrap64 (Int.tdiv x1 64)) 64))) % 256,(wrap64 (128+(Int.tmod x1 64))) % 256]:List Int):List Int)).bind fun y303=>(if x0.length+y303.length<140737488355328 then (some (x0 ++ y303)) else (none))) else ((some (([(wrap64 (240+(wrap64 (Int.tdiv x1 262144)))) % 256,(wrap64 (128+(Int.tmod (wrap64 (Int.tdiv x1 4096)) 64))) % 256,(wrap64 (128+(Int.tmod (wrap64 (Int.tdiv x1 64)) 64))) % 256,(wrap64 (128+(Int.tmod x1 64))) % 256]:List Int):List Int)).bind fun y309=>(if x0.length+y309.length<140737488355328 then (some (x0 ++ y309)) else (none))))
def spec_appendUTF8.f (k:Nat) (l0:List Int) (a1:Int):Option (List Int):=if a1<128 then (if l0.length<140737488355328 then (some (l0 ++ [(a1) % 256])) else (none)) else (if a1<2048 then ((some (([(wrap64 (192+(wrap64 (Int.tdiv a1 64)))) % 256,(wrap64 (128+(Int.tmod a1 64))) % 256]:List Int):List Int)).bind fun y289=>(if l0.length+y289.length<140737488355328 then (some (l0 ++ y289)) else (none))) else ((spec_high.f a1).bind fun t295=>(if t295=true then (spec_appendUTF8.j0 k l0 a1 true) else ((spec_low.f a1).bind fun t296=>(spec_appendUTF8.j0 k l0 a1 t296)))))
theorem spec_appendUTF8.calls (k:Nat) (P0_:Nat→Prop) (u9000_:Value) (l0:List Int) (a1:Int) (r:List Int) (w0 w:World) (hB:Below w0.heap.size w0 w) (ho0:Kd.R (Kd.int .u8) 5 w w0.heap.size P0_ u9000_ l0) (h:spec_appendUTF8.f k l0 a1=some r) :
  Calls Tryz.prog 97 #[u9000_,.int .i64 a1] w fun e w'=>∃ v0_:Value,e = .returned (v0_)∧Kd.R (Kd.int .u8) 5 w' w0.heap.size (fun k_=>(P0_ k_∨w.heap.size≤k_)) v0_ r∧Below w0.heap.size w0 w'∧Kept w w' (fun k_=>P0_ k_):=by
 have HO0:=am (show Kd.R (Kd.int .u8) 5 w w0.heap.size (fun k_=>(P0_ k_∨w.heap.size≤k_)) u9000_ l0 from Kd.R_mono ho0 (fun k_ hk=>(.inl hk)))
 have HK:=am (Kept.refl w (fun k_=>P0_ k_))
 have HW0:=am hB.size
 have HB:=am hB
 clear hB
 have H:(if a1<128 then (if l0.length<140737488355328 then (some (l0 ++ [(a1) % 256])) else (none)) else (if a1<2048 then ((some (([(wrap64 (192+(wrap64 (Int.tdiv a1 64)))) % 256,(wrap64 (128+(Int.tmod a1 64))) % 256]:List Int):List Int)).bind fun y289=>(if l0.length+y289.length<140737488355328 then (some (l0 ++ y289)) else (none))) else ((spec_high.f a1).bind fun t295=>(if t295=true then (spec_appendUTF8.j0 k l0 a1 true) else ((spec_low.f a1).bind fun t296=>(spec_appendUTF8.j0 k l0 a1 t296))))))=some r:=h
 clear h
 by_cases c3:a1<128
 ·
  rw [if_pos c3] at H
  have c3b0:=dt c3
  clear c3
  by_cases c4:l0.length<140737488355328
  rotate_left
  ·
   rw [if_neg c4] at H
   exact absurd H Z6
  rw [if_pos c4] at H
  have LMc4:=am c4
  clear c4
  obtain ⟨y286,hy286⟩:∃ y_:List Int,y_=(l0 ++ [(a1) % 256]):=⟨_,rfl⟩
  first | replace H:=bind_y hy286 H | rw [← hy286] at H
  have Ny286:=am hy286
  clear hy286
  obtain rfl:=Option.some.inj H
  go_enter Tryz.func97,Tryz.ntmps97
  go_wp2_with (first | ((with_reducible refine gate_builtin (b:=.append) (xs:=#[.tmp 8,.tmp 11]) rfl ?_);at_builtin;refine Kd.R_append (Kd.int .u8) (w0:=w0) w0.heap.size rfl (.tmp 8) (.tmp 11) 69 5 (.int .u8 0) 1 rfl Tryz.underlying69 info5 rfl Z2 Z14 u9000_ l0 ((a1) % 256) [.int .u8 ((a1) % 256)] (fun k_=>(P0_ k_∨w.heap.size≤k_)) (fun _=>False) rfl rfl ?aP (fun _ hk=>hk.elim) ?aF ?aO ?aB ?aS ?aL ?_;(case aP=>exact rfl);(case aB=>exact Z11);(case aF=>exact (fun k_ hk=>(.inr (Nat.le_trans Z76 hk))));(case aO=>exact (pR HO0.out));(case aS=>exact (below_size Z11));(case aL=>have:=LMc4.out;omega);intro v287 w5 ho hb hg hat;rw [← Ny286.out] at ho;have n0_:=am (hb);have n1_:=am (Kept.of_grown (S:=(fun k_=>P0_ k_)) hg Z16 (fun k_ e_=>(HO0.out.1 k_ e_)));have n2_:=am (ho);clear HB;clear HK;clear HO0;have HB:=n0_;have HK:=n1_;have HO288:=n2_;clear n0_ n1_ n2_;clear ho hb hg hat))
  go_ret
  exact ⟨_,Z12,pR HO288.out,Z11,Z16⟩
 rw [if_neg c3] at H
 have c3b0:=df c3
 clear c3
 by_cases c6:a1<2048
 ·
  rw [if_pos c6] at H
  have c6b0:=dt c6
  clear c6
  obtain ⟨y289,hy289⟩:∃ y_:List Int,y_=(([(wrap64 (192+(wrap64 (Int.tdiv a1 64)))) % 256,(wrap64 (128+(Int.tmod a1 64))) % 256]:List Int)):=⟨_,rfl⟩
  first | replace H:=bind_y hy289 H | rw [← hy289] at H
  have Ny289:=am hy289
  clear hy289
  by_cases c7:l0.length+y289.length<140737488355328
  rotate_left
  ·
   rw [if_neg c7] at H
   exact absurd H Z6
  rw [if_pos c7] at H
  have LMc7:=am c7
  clear c7
  obtain ⟨y292,hy292⟩:∃ y_:List Int,y_=(l0 ++ y289):=⟨_,rfl⟩
  first | replace H:=bind_y hy292 H | rw [← hy292] at H
  have Ny292:=am hy292
  clear hy292
  obtain rfl:=Option.some.inj H
  go_enter Tryz.func97,Tryz.ntmps97
  go_wp2_with (first | ((with_reducible refine gate_dst (N:=25) rfl ?_);refine Kd.R_lit (Kd.int .u8) _ 5 ?hg (N:=25) ?hd (xs:=([(wrap64 (192+(wrap64 (Int.tdiv a1 64)))) % 256,(wrap64 (128+(Int.tmod a1 64))) % 256]:List Int)) (inner:=[.int .u8 ((wrap64 (192+(wrap64 (Int.tdiv a1 64)))) % 256),.int .u8 ((wrap64 (128+(Int.tmod a1 64))) % 256)]) (ok:=fun _=>True) (okp:=fun _=>True) ?hr ?hp (fun _ hk=>hk) trivial (Below.refl _ _) (Nat.le_refl _) Z6 ?_;(case hd=>exact Z9);(case hg=>exact Z9);(case hr=>exact Z17);(case hp=>exact (Reps.one (show Kd.M (Kd.int .u8) _ _ _ ((wrap64 (192+(wrap64 (Int.tdiv a1 64)))) % 256) [.int .u8 ((wrap64 (192+(wrap64 (Int.tdiv a1 64)))) % 256)] from rfl) (Reps.one (show Kd.M (Kd.int .u8) _ _ _ ((wrap64 (128+(Int.tmod a1 64))) % 256) [.int .u8 ((wrap64 (128+(Int.tmod a1 64))) % 256)] from rfl) (Reps.none _ _))));intro v290 w8 ho9 hb hg_ hnew_;clear hg_ hnew_;(first | rw [← Ny289.out] at ho9 | (simp only [Int.reduceToNat] at ho9;rw [← Ny289.out] at ho9));have n0_:=am (Kd.R_elder' (pR HO0.out) (Kd.R_base ho9) hb);have n1_:=am (Kd.R_lower (Kd.R_new' (Kd.R_newM (M:=fun k_=>(P0_ k_∨w.heap.size≤k_)) ho9 Z76 (fun k_ h_=>.inr h_)) (Kd.R_lt (pR HO0.out))) (below_size Z11));have n2_:=am (Kept.below (S:=(fun k_=>P0_ k_)) Z16 hb);have n3_:=am (below_step Z11 hb);clear HO0;clear HK;clear HB;have HO0:=n0_;have HO291:=n1_;have HK:=n2_;have HB:=n3_;clear n0_ n1_ n2_ n3_;clear hb ho9;obtain ⟨Ao11,co11,eo11⟩:=Kd.R_slice HO291.out;subst eo11) | ((with_reducible refine gate_builtin (b:=.append) (xs:=#[.tmp 16,.tmp 25]) rfl ?_);at_builtin;refine Kd.R_append_rows (Kd.int .u8) (w0:=w0) w0.heap.size rfl (.tmp 16) (.tmp 25) 69 5 (.int .u8 0) 1 rfl Tryz.underlying69 info5 rfl Z2 Z14 u9000_ l0 y289 _ _ _ (fun k_=>(P0_ k_∨w.heap.size≤k_)∧some k_≠(.slice Ao11 y289.length co11:Value).ownBlock) (fun _=>False) rfl rfl ?aO ?aR (fun _ _ h=>h) (fun _ h=>h.elim) ?aF ?aB ?aS ?aL ?_;(case aR=>repeat (first | exact (Kd.R_reads' HO291.out).2.2 | (with_reducible refine Kd.C_alloc ?_ _) | (with_reducible refine Kd.C_drewN ?_ _) | (with_reducible refine Kd.C_drew ?_)));(case aB=>exact Z11);(case aF=>exact (fun k_ hk=>⟨(.inr (Nat.le_trans Z76 hk)),Kd.fresh' (Kd.R_lt (pR HO291.out)) k_ hk⟩));(case aO=>exact (pR HO0.out));(case aS=>exact (below_size Z11));(case aL=>have:=LMc7.out;omega);intro v293 w10 ho hb hg hat;rw [← Ny292.out] at ho;have n0_:=am (Kd.R_after (ok:=(fun k_=>(P0_ k_∨w.heap.size≤k_))) (by (with_reducible repeat (first | apply Kd.R_alloc | apply Kd.R_drewN | apply Kd.R_drew));exact Kd.R_mono HO291.out (fun _ hk=>⟨hk.1.1,hk.2⟩)) hg hat);have n1_:=am (hb);have n2_:=am (Kept.of_grown (S:=(fun k_=>P0_ k_)) hg Z16 (fun k_ e_=>(HO0.out.1 k_ e_).1));have n3_:=am (ho);clear HO291;clear HB;clear HK;clear HO0;have HO291:=n0_;have HB:=n1_;have HK:=n2_;have HO294:=n3_;clear n0_ n1_ n2_ n3_;clear ho hb hg hat))
  go_ret
  exact ⟨_,Z12,by (with_reducible repeat (first | apply Kd.R_alloc | apply Kd.R_drewN | apply Kd.R_drew));exact Kd.R_mono HO294.out (fun _ hk=>hk.1),Z11,Z16⟩
 rw [if_neg c6] at H
 have c6b0:=df c6
 clear c6
 have HC12:=am H
 clear H
 go_enter Tryz.func97,Tryz.ntmps97
 go_upto_region 5 with (fail)
 go_cut [27] (fun v27 wc=>∃ (kq:Nat) (x27_11:Bool),v27 = .bool x27_11∧Aside0 (spec_appendUTF8.j0 kq l0 a1 x27_11=some r)∧Aside0 (kq≤k)∧Aside0 (Kd.R (Kd.int .u8) 5 wc w0.heap.size (fun k_=>(P0_ k_∨w.heap.size≤k_)) u9000_ l0)∧Aside0 (Kept w wc (fun k_=>P0_ k_))∧Aside0 (Below w0.heap.size w0 wc))
 case first=>
  have H:=HC12.out
  clear HC12
  replace H:=obs H
  obtain ⟨t295,A130,H⟩:=H
  have A13:=am A130
  clear A130
  by_cases c14:t295=true
  ·
   subst c14
   rw [if_pos rfl] at H
   have H':=am H
   clear H
   go_wp2_with (first | ((with_reducible refine gate_callee (f:=55) rfl ?_);refine goesL_ (some 29) rfl rfl Tryz.func55 Z1 rfl #[.int .i64 a1] rfl Z10 ?_;(with_reducible refine (spec_high.calls a1 true _ A13.out).mono ?_);rintro e w' ⟨rfl,⟨nd,rfl⟩⟩;refine ⟨_,rfl,?_⟩))
   go_meet
   case rel=>exact ⟨_,(true),Z0,H',⟨Z15⟩,⟨pR HO0.out⟩,⟨Z16⟩,⟨Z11⟩⟩
  replace c14:=bef c14
  subst c14
  rw [if_neg (show ¬ (false=true) from Z2)] at H
  replace H:=obs H
  obtain ⟨t296,A150,H⟩:=H
  have A15:=am A150
  clear A150
  have H':=am H
  clear H
  go_wp2_with (first | ((with_reducible refine gate_callee (f:=55) rfl ?_);refine goesL_ (some 29) rfl rfl Tryz.func55 Z1 rfl #[.int .i64 a1] rfl Z10 ?_;(with_reducible refine (spec_high.calls a1 false _ A13.out).mono ?_);rintro e w' ⟨rfl,⟨nd,rfl⟩⟩;refine ⟨_,rfl,?_⟩) | (go_at_call 56;(with_reducible refine (spec_low.calls a1 t296 _ A15.out).mono ?_);rintro e w' ⟨rfl,⟨nd,rfl⟩⟩))
  go_meet
  case rel=>exact ⟨_,(t296),Z0,H',⟨Z15⟩,⟨pR HO0.out⟩,⟨Z16⟩,⟨Z11⟩⟩
 clear HC12;try clear c1;try clear p2;try clear c3;try clear c3b0;try clear c4;try clear c5;try clear c6;try clear c6b0;try clear p6;try clear c7;try clear c9;try clear c14
 obtain ⟨kq,x27_11,rfl,HA,HJ11,HO_0,HK,HB⟩:=hcut
 cases kq with
 | zero=>exact absurd HA.out (by simp [spec_appendUTF8.j0])
 | succ kj11=>
 have H:=HA.out
 clear HA
 simp only [spec_appendUTF8.j0] at H
 by_cases c16:x27_11=true
 ·
  subst c16
  rw [if_pos rfl] at H
  obtain ⟨y297,hy297⟩:∃ y_:List Int,y_=(([239,191,189]:List Int)):=⟨_,rfl⟩
  first | replace H:=bind_y hy297 H | rw [← hy297] at H
  have Ny297:=am hy297
  clear hy297
  by_cases c17:l0.length+y297.length<140737488355328
  rotate_left
  ·
   rw [if_neg c17] at H
   exact absurd H Z6
  rw [if_pos c17] at H
  have LMc17:=am c17
  clear c17
  obtain ⟨y300,hy300⟩:∃ y_:List Int,y_=(l0 ++ y297):=⟨_,rfl⟩
  first | replace H:=bind_y hy300 H | rw [← hy300] at H
  have Ny300:=am hy300
  clear hy300
  obtain rfl:=Option.some.inj H
  go_wp2_with (first | ((with_reducible refine gate_dst (N:=35) rfl ?_);refine Kd.R_lit (Kd.int .u8) _ 5 ?hg (N:=35) ?hd (xs:=([239,191,189]:List Int)) (inner:=[.int .u8 239,.int .u8 191,.int .u8 189]) (ok:=fun _=>True) (okp:=fun _=>True) ?hr ?hp (fun _ hk=>hk) trivial (Below.refl _ _) (Nat.le_refl _) Z6 ?_;(case hd=>exact Z9);(case hg=>exact Z9);(case hr=>exact Z17);(case hp=>exact (Reps.one (show Kd.M (Kd.int .u8) _ _ _ 239 [.int .u8 239] from rfl) (Reps.one (show Kd.M (Kd.int .u8) _ _ _ 191 [.int .u8 191] from rfl) (Reps.one (show Kd.M (Kd.int .u8) _ _ _ 189 [.int .u8 189] from rfl) (Reps.none _ _)))));intro v298 w18 ho19 hb hg_ hnew_;clear hg_ hnew_;(first | rw [← Ny297.out] at ho19 | (simp only [Int.reduceToNat] at ho19;rw [← Ny297.out] at ho19));have n0_:=am (Kd.R_elder' (pR HO_0.out) (Kd.R_base ho19) hb);have n1_:=am (Kd.R_lower (Kd.R_new' (Kd.R_newM (M:=fun k_=>(P0_ k_∨w.heap.size≤k_)) ho19 Z76 (fun k_ h_=>.inr h_)) (Kd.R_lt (pR HO_0.out))) (below_size Z11));have n2_:=am (Kept.below (S:=(fun k_=>P0_ k_)) Z16 hb);have n3_:=am (below_step Z11 hb);clear HO_0;clear HK;clear HB;have HO_0:=n0_;have HO299:=n1_;have HK:=n2_;have HB:=n3_;clear n0_ n1_ n2_ n3_;clear hb ho19;obtain ⟨Ao21,co21,eo21⟩:=Kd.R_slice HO299.out;subst eo21) | ((with_reducible refine gate_builtin (b:=.append) (xs:=#[.tmp 34,.tmp 35]) rfl ?_);at_builtin;refine Kd.R_append_rows (Kd.int .u8) (w0:=w0) w0.heap.size rfl (.tmp 34) (.tmp 35) 69 5 (.int .u8 0) 1 rfl Tryz.underlying69 info5 rfl Z2 Z14 u9000_ l0 y297 _ _ _ (fun k_=>(P0_ k_∨w.heap.size≤k_)∧some k_≠(.slice Ao21 y297.length co21:Value).ownBlock) (fun _=>False) rfl rfl ?aO ?aR (fun _ _ h=>h) (fun _ h=>h.elim) ?aF ?aB ?aS ?aL ?_;(case aR=>repeat (first | exact (Kd.R_reads' HO299.out).2.2 | (with_reducible refine Kd.C_alloc ?_ _) | (with_reducible refine Kd.C_drewN ?_ _) | (with_reducible refine Kd.C_drew ?_)));(case aB=>exact Z11);(case aF=>exact (fun k_ hk=>⟨(.inr (Nat.le_trans Z76 hk)),Kd.fresh' (Kd.R_lt (pR HO299.out)) k_ hk⟩));(case aO=>exact (pR HO_0.out));(case aS=>exact (below_size Z11));(case aL=>have:=LMc17.out;omega);intro v301 w20 ho hb hg hat;rw [← Ny300.out] at ho;have n0_:=am (Kd.R_after (ok:=(fun k_=>(P0_ k_∨w.heap.size≤k_))) (by (with_reducible repeat (first | apply Kd.R_alloc | apply Kd.R_drewN | apply Kd.R_drew));exact Kd.R_mono HO299.out (fun _ hk=>⟨hk.1.1,hk.2⟩)) hg hat);have n1_:=am (hb);have n2_:=am (Kept.of_grown (S:=(fun k_=>P0_ k_)) hg Z16 (fun k_ e_=>(HO_0.out.1 k_ e_).1));have n3_:=am (ho);clear HO299;clear HB;clear HK;clear HO_0;have HO299:=n0_;have HB:=n1_;have HK:=n2_;have HO302:=n3_;clear n0_ n1_ n2_ n3_;clear ho hb hg hat))
  go_ret
  exact ⟨_,Z12,by (with_reducible repeat (first | apply Kd.R_alloc | apply Kd.R_drewN | apply Kd.R_drew));exact Kd.R_mono HO302.out (fun _ hk=>hk.1),Z11,Z16⟩
 replace c16:=bef c16
 subst c16
 rw [if_neg (show ¬ (false=true) from Z2)] at H
 by_cases c22:a1<65536
 ·
  rw [if_pos c22] at H
  have c22b0:=dt c22
  clear c22
  obtain ⟨y303,hy303⟩:∃ y_:List Int,y_=(([(wrap64 (224+(wrap64 (Int.tdiv a1 4096)))) % 256,(wrap64 (128+(Int.tmod (wrap64 (Int.tdiv a1 64)) 64))) % 256,(wrap64 (128+(Int.tmod a1 64))) % 256]:List Int)):=⟨_,rfl⟩
  first | replace H:=bind_y hy303 H | rw [← hy303] at H
  have Ny303:=am hy303
  clear hy303
  by_cases c23:l0.length+y303.length<140737488355328
  rotate_left
  ·
   rw [if_neg c23] at H
   exact absurd H Z6
  rw [if_pos c23] at H
  have LMc23:=am c23
  clear c23
  obtain ⟨y306,hy306⟩:∃ y_:List Int,y_=(l0 ++ y303):=⟨_,rfl⟩
  first | replace H:=bind_y hy306 H | rw [← hy306] at H
  have Ny306:=am hy306
  clear hy306
  obtain rfl:=Option.some.inj H
  go_wp2_with (first | ((with_reducible refine gate_dst (N:=54) rfl ?_);refine Kd.R_lit (Kd.int .u8) _ 5 ?hg (N:=54) ?hd (xs:=([(wrap64 (224+(wrap64 (Int.tdiv a1 4096)))) % 256,(wrap64 (128+(Int.tmod (wrap64 (Int.tdiv a1 64)) 64))) % 256,(wrap64 (128+(Int.tmod a1 64))) % 256]:List Int)) (inner:=[.int .u8 ((wrap64 (224+(wrap64 (Int.tdiv a1 4096)))) % 256),.int .u8 ((wrap64 (128+(Int.tmod (wrap64 (Int.tdiv a1 64)) 64))) % 256),.int .u8 ((wrap64 (128+(Int.tmod a1 64))) % 256)]) (ok:=fun _=>True) (okp:=fun _=>True) ?hr ?hp (fun _ hk=>hk) trivial (Below.refl _ _) (Nat.le_refl _) Z6 ?_;(case hd=>exact Z9);(case hg=>exact Z9);(case hr=>exact Z17);(case hp=>exact (Reps.one (show Kd.M (Kd.int .u8) _ _ _ ((wrap64 (224+(wrap64 (Int.tdiv a1 4096)))) % 256) [.int .u8 ((wrap64 (224+(wrap64 (Int.tdiv a1 4096)))) % 256)] from rfl) (Reps.one (show Kd.M (Kd.int .u8) _ _ _ ((wrap64 (128+(Int.tmod (wrap64 (Int.tdiv a1 64)) 64))) % 256) [.int .u8 ((wrap64 (128+(Int.tmod (wrap64 (Int.tdiv a1 64)) 64))) % 256)] from rfl) (Reps.one (show Kd.M (Kd.int .u8) _ _ _ ((wrap64 (128+(Int.tmod a1 64))) % 256) [.int .u8 ((wrap64 (128+(Int.tmod a1 64))) % 256)] from rfl) (Reps.none _ _)))));intro v304 w24 ho25 hb hg_ hnew_;clear hg_ hnew_;(first | rw [← Ny303.out] at ho25 | (simp only [Int.reduceToNat] at ho25;rw [← Ny303.out] at ho25));have n0_:=am (Kd.R_elder' (pR HO_0.out) (Kd.R_base ho25) hb);have n1_:=am (Kd.R_lower (Kd.R_new' (Kd.R_newM (M:=fun k_=>(P0_ k_∨w.heap.size≤k_)) ho25 Z76 (fun k_ h_=>.inr h_)) (Kd.R_lt (pR HO_0.out))) (below_size Z11));have n2_:=am (Kept.below (S:=(fun k_=>P0_ k_)) Z16 hb);have n3_:=am (below_step Z11 hb);clear HO_0;clear HK;clear HB;have HO_0:=n0_;have HO305:=n1_;have HK:=n2_;have HB:=n3_;clear n0_ n1_ n2_ n3_;clear hb ho25;obtain ⟨Ao27,co27,eo27⟩:=Kd.R_slice HO305.out;subst eo27) | ((with_reducible refine gate_builtin (b:=.append) (xs:=#[.tmp 40,.tmp 54]) rfl ?_);at_builtin;refine Kd.R_append_rows (Kd.int .u8) (w0:=w0) w0.heap.size rfl (.tmp 40) (.tmp 54) 69 5 (.int .u8 0) 1 rfl Tryz.underlying69 info5 rfl Z2 Z14 u9000_ l0 y303 _ _ _ (fun k_=>(P0_ k_∨w.heap.size≤k_)∧some k_≠(.slice Ao27 y303.length co27:Value).ownBlock) (fun _=>False) rfl rfl ?aO ?aR (fun _ _ h=>h) (fun _ h=>h.elim) ?aF ?aB ?aS ?aL ?_;(case aR=>repeat (first | exact (Kd.R_reads' HO305.out).2.2 | (with_reducible refine Kd.C_alloc ?_ _) | (with_reducible refine Kd.C_drewN ?_ _) | (with_reducible refine Kd.C_drew ?_)));(case aB=>exact Z11);(case aF=>exact (fun k_ hk=>⟨(.inr (Nat.le_trans Z76 hk)),Kd.fresh' (Kd.R_lt (pR HO305.out)) k_ hk⟩));(case aO=>exact (pR HO_0.out));(case aS=>exact (below_size Z11));(case aL=>have:=LMc23.out;omega);intro v307 w26 ho hb hg hat;rw [← Ny306.out] at ho;have n0_:=am (Kd.R_after (ok:=(fun k_=>(P0_ k_∨w.heap.size≤k_))) (by (with_reducible repeat (first | apply Kd.R_alloc | apply Kd.R_drewN | apply Kd.R_drew));exact Kd.R_mono HO305.out (fun _ hk=>⟨hk.1.1,hk.2⟩)) hg hat);have n1_:=am (hb);have n2_:=am (Kept.of_grown (S:=(fun k_=>P0_ k_)) hg Z16 (fun k_ e_=>(HO_0.out.1 k_ e_).1));have n3_:=am (ho);clear HO305;clear HB;clear HK;clear HO_0;have HO305:=n0_;have HB:=n1_;have HK:=n2_;have HO308:=n3_;clear n0_ n1_ n2_ n3_;clear ho hb hg hat))
  go_ret
  exact ⟨_,Z12,by (with_reducible repeat (first | apply Kd.R_alloc | apply Kd.R_drewN | apply Kd.R_drew));exact Kd.R_mono HO308.out (fun _ hk=>hk.1),Z11,Z16⟩
 rw [if_neg c22] at H
 have c22b0:=df c22
 clear c22
 obtain ⟨y309,hy309⟩:∃ y_:List Int,y_=(([(wrap64 (240+(wrap64 (Int.tdiv a1 262144)))) % 256,(wrap64 (128+(Int.tmod (wrap64 (Int.tdiv a1 4096)) 64))) % 256,(wrap64 (128+(Int.tmod (wrap64 (Int.tdiv a1 64)) 64))) % 256,(wrap64 (128+(Int.tmod a1 64))) % 256]:List Int)):=⟨_,rfl⟩
 first | replace H:=bind_y hy309 H | rw [← hy309] at H
 have Ny309:=am hy309
 clear hy309
 by_cases c28:l0.length+y309.length<140737488355328
 rotate_left
 ·
  rw [if_neg c28] at H
  exact absurd H Z6
 rw [if_pos c28] at H
 have LMc28:=am c28
 clear c28
 obtain ⟨y312,hy312⟩:∃ y_:List Int,y_=(l0 ++ y309):=⟨_,rfl⟩
 first | replace H:=bind_y hy312 H | rw [← hy312] at H
 have Ny312:=am hy312
 clear hy312
 obtain rfl:=Option.some.inj H
 go_wp2_with (first | ((with_reducible refine gate_dst (N:=75) rfl ?_);refine Kd.R_lit (Kd.int .u8) _ 5 ?hg (N:=75) ?hd (xs:=([(wrap64 (240+(wrap64 (Int.tdiv a1 262144)))) % 256,(wrap64 (128+(Int.tmod (wrap64 (Int.tdiv a1 4096)) 64))) % 256,(wrap64 (128+(Int.tmod (wrap64 (Int.tdiv a1 64)) 64))) % 256,(wrap64 (128+(Int.tmod a1 64))) % 256]:List Int)) (inner:=[.int .u8 ((wrap64 (240+(wrap64 (Int.tdiv a1 262144)))) % 256),.int .u8 ((wrap64 (128+(Int.tmod (wrap64 (Int.tdiv a1 4096)) 64))) % 256),.int .u8 ((wrap64 (128+(Int.tmod (wrap64 (Int.tdiv a1 64)) 64))) % 256),.int .u8 ((wrap64 (128+(Int.tmod a1 64))) % 256)]) (ok:=fun _=>True) (okp:=fun _=>True) ?hr ?hp (fun _ hk=>hk) trivial (Below.refl _ _) (Nat.le_refl _) Z6 ?_;(case hd=>exact Z9);(case hg=>exact Z9);(case hr=>exact Z17);(case hp=>exact (Reps.one (show Kd.M (Kd.int .u8) _ _ _ ((wrap64 (240+(wrap64 (Int.tdiv a1 262144)))) % 256) [.int .u8 ((wrap64 (240+(wrap64 (Int.tdiv a1 262144)))) % 256)] from rfl) (Reps.one (show Kd.M (Kd.int .u8) _ _ _ ((wrap64 (128+(Int.tmod (wrap64 (Int.tdiv a1 4096)) 64))) % 256) [.int .u8 ((wrap64 (128+(Int.tmod (wrap64 (Int.tdiv a1 4096)) 64))) % 256)] from rfl) (Reps.one (show Kd.M (Kd.int .u8) _ _ _ ((wrap64 (128+(Int.tmod (wrap64 (Int.tdiv a1 64)) 64))) % 256) [.int .u8 ((wrap64 (128+(Int.tmod (wrap64 (Int.tdiv a1 64)) 64))) % 256)] from rfl) (Reps.one (show Kd.M (Kd.int .u8) _ _ _ ((wrap64 (128+(Int.tmod a1 64))) % 256) [.int .u8 ((wrap64 (128+(Int.tmod a1 64))) % 256)] from rfl) (Reps.none _ _))))));intro v310 w29 ho30 hb hg_ hnew_;clear hg_ hnew_;(first | rw [← Ny309.out] at ho30 | (simp only [Int.reduceToNat] at ho30;rw [← Ny309.out] at ho30));have n0_:=am (Kd.R_elder' (pR HO_0.out) (Kd.R_base ho30) hb);have n1_:=am (Kd.R_lower (Kd.R_new' (Kd.R_newM (M:=fun k_=>(P0_ k_∨w.heap.size≤k_)) ho30 Z76 (fun k_ h_=>.inr h_)) (Kd.R_lt (pR HO_0.out))) (below_size Z11));have n2_:=am (Kept.below (S:=(fun k_=>P0_ k_)) Z16 hb);have n3_:=am (below_step Z11 hb);clear HO_0;clear HK;clear HB;have HO_0:=n0_;have HO311:=n1_;have HK:=n2_;have HB:=n3_;clear n0_ n1_ n2_ n3_;clear hb ho30;obtain ⟨Ao32,co32,eo32⟩:=Kd.R_slice HO311.out;subst eo32) | ((with_reducible refine gate_builtin (b:=.append) (xs:=#[.tmp 56,.tmp 75]) rfl ?_);at_builtin;refine Kd.R_append_rows (Kd.int .u8) (w0:=w0) w0.heap.size rfl (.tmp 56) (.tmp 75) 69 5 (.int .u8 0) 1 rfl Tryz.underlying69 info5 rfl Z2 Z14 u9000_ l0 y309 _ _ _ (fun k_=>(P0_ k_∨w.heap.size≤k_)∧some k_≠(.slice Ao32 y309.length co32:Value).ownBlock) (fun _=>False) rfl rfl ?aO ?aR (fun _ _ h=>h) (fun _ h=>h.elim) ?aF ?aB ?aS ?aL ?_;(case aR=>repeat (first | exact (Kd.R_reads' HO311.out).2.2 | (with_reducible refine Kd.C_alloc ?_ _) | (with_reducible refine Kd.C_drewN ?_ _) | (with_reducible refine Kd.C_drew ?_)));(case aB=>exact Z11);(case aF=>exact (fun k_ hk=>⟨(.inr (Nat.le_trans Z76 hk)),Kd.fresh' (Kd.R_lt (pR HO311.out)) k_ hk⟩));(case aO=>exact (pR HO_0.out));(case aS=>exact (below_size Z11));(case aL=>have:=LMc28.out;omega);intro v313 w31 ho hb hg hat;rw [← Ny312.out] at ho;have n0_:=am (Kd.R_after (ok:=(fun k_=>(P0_ k_∨w.heap.size≤k_))) (by (with_reducible repeat (first | apply Kd.R_alloc | apply Kd.R_drewN | apply Kd.R_drew));exact Kd.R_mono HO311.out (fun _ hk=>⟨hk.1.1,hk.2⟩)) hg hat);have n1_:=am (hb);have n2_:=am (Kept.of_grown (S:=(fun k_=>P0_ k_)) hg Z16 (fun k_ e_=>(HO_0.out.1 k_ e_).1));have n3_:=am (ho);clear HO311;clear HB;clear HK;clear HO_0;have HO311:=n0_;have HB:=n1_;have HK:=n2_;have HO314:=n3_;clear n0_ n1_ n2_ n3_;clear ho hb hg hat))
 go_ret
 exact ⟨_,Z12,by (with_reducible repeat (first | apply Kd.R_alloc | apply Kd.R_drewN | apply Kd.R_drew));exact Kd.R_mono HO314.out (fun _ hk=>hk.1),Z11,Z16⟩
end Go.Proofs.YtieflhncpjjciaaGreatDoor.PFnGjSquashItems
