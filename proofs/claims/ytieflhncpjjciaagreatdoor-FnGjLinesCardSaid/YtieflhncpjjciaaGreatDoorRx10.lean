import Derived.Test.YtieflhncpjjciaaGreatDoorRq
import Derived.Test.YtieflhncpjjciaaGreatDoorRx0
set_option maxHeartbeats 8000000
set_option maxRecDepth 100000
namespace Go.Proofs.YtieflhncpjjciaaGreatDoor.PFnGjSquashItems
open Go.RowKit Go.Proofs.YtieflhncpjjciaaGreatDoorW.PrintWords Go.Proofs.YtieflhncpjjciaaGreatDoorW.PrintLast Go.Proofs.YtieflhncpjjciaaGreatDoorW.PrintMore
attribute [local go_sem] max2_int min2_int max_two min_two max_three min_three max_four min_four
set_option linter.unusedVariables false
set_option linter.unusedSimpArgs false
mutual
def gjson_parseString.l0:Nat→ByteArray→Int→Int→Option (Int×ByteArray×Bool×Bool)
 | 0,_,_,_=>none
 | k+1,x0,x1,x8=>if x1<(x0.size:Int) then (if 0≤x1 then (if (bt x0 x1) > 92 then (gjson_parseString.l0 k x0 (wrap64 (x1+1)) x8) else (if (bt x0 x1)=34 then (if 0≤(wrap64 (x8 - 1)) then (if (wrap64 (x8 - 1))≤(wrap64 (x1+1)) then (if (wrap64 (x1+1))≤(x0.size:Int) then (some (wrap64 (x1+1),x0.extract ((wrap64 (x8 - 1)):Int).toNat ((wrap64 (x1+1)):Int).toNat,false,true)) else (none)) else (none)) else (none)) else (if (bt x0 x1)=92 then (gjson_parseString.l1 k x0 (wrap64 (x1+1)) x8) else (gjson_parseString.l0 k x0 (wrap64 (x1+1)) x8)))) else (none)) else (if 0≤(wrap64 (x8 - 1)) then (if (wrap64 (x8 - 1))≤(x0.size:Int) then (some (x1,x0.extract ((wrap64 (x8 - 1)):Int).toNat x0.size,false,false)) else (none)) else (none))
def gjson_parseString.l1:Nat→ByteArray→Int→Int→Option (Int×ByteArray×Bool×Bool)
 | 0,_,_,_=>none
 | k+1,x0,x1,x8=>if x1<(x0.size:Int) then (if 0≤x1 then (if (bt x0 x1) > 92 then (gjson_parseString.l1 k x0 (wrap64 (x1+1)) x8) else (if (bt x0 x1)=34 then (if 0≤(wrap64 (x1 - 1)) then (if (wrap64 (x1 - 1))<(x0.size:Int) then (if (bt x0 (wrap64 (x1 - 1)))=92 then (gjson_parseString.l2 k x0 x1 x8 0 (wrap64 (x1 - 2))) else (if 0≤(wrap64 (x8 - 1)) then (if (wrap64 (x8 - 1))≤(wrap64 (x1+1)) then (if (wrap64 (x1+1))≤(x0.size:Int) then (some (wrap64 (x1+1),x0.extract ((wrap64 (x8 - 1)):Int).toNat ((wrap64 (x1+1)):Int).toNat,true,true)) else (none)) else (none)) else (none))) else (none)) else (none)) else (gjson_parseString.l1 k x0 (wrap64 (x1+1)) x8))) else (none)) else (if 0≤(wrap64 (x8 - 1)) then (if (wrap64 (x8 - 1))≤(x0.size:Int) then (some (x1,x0.extract ((wrap64 (x8 - 1)):Int).toNat x0.size,false,false)) else (none)) else (none))
def gjson_parseString.l2:Nat→ByteArray→Int→Int→Int→Int→Option (Int×ByteArray×Bool×Bool)
 | 0,_,_,_,_,_=>none
 | k+1,x0,x1,x8,x9,x10=>if x10 > 0 then (if 0≤x10 then (if x10<(x0.size:Int) then (if (bt x0 x10)=92 then (gjson_parseString.l2 k x0 x1 x8 (wrap64 (x9+1)) (wrap64 (x10 - 1))) else (if (Int.tmod x9 2)=0 then (gjson_parseString.l1 k x0 (wrap64 (x1+1)) x8) else (if 0≤(wrap64 (x8 - 1)) then (if (wrap64 (x8 - 1))≤(wrap64 (x1+1)) then (if (wrap64 (x1+1))≤(x0.size:Int) then (some (wrap64 (x1+1),x0.extract ((wrap64 (x8 - 1)):Int).toNat ((wrap64 (x1+1)):Int).toNat,true,true)) else (none)) else (none)) else (none)))) else (none)) else (none)) else (if (Int.tmod x9 2)=0 then (gjson_parseString.l1 k x0 (wrap64 (x1+1)) x8) else (if 0≤(wrap64 (x8 - 1)) then (if (wrap64 (x8 - 1))≤(wrap64 (x1+1)) then (if (wrap64 (x1+1))≤(x0.size:Int) then (some (wrap64 (x1+1),x0.extract ((wrap64 (x8 - 1)):Int).toNat ((wrap64 (x1+1)):Int).toNat,true,true)) else (none)) else (none)) else (none)))
end
def gjson_parseString.f (k:Nat) (a0:ByteArray) (a1:Int):Option (Int×ByteArray×Bool×Bool):=gjson_parseString.l0 k a0 a1 a1
theorem gjson_parseString.calls (k:Nat) (a0:ByteArray) (a1:Int) (r1:Int) (r2:ByteArray) (r3:Bool) (r4:Bool) (w:World) (h:gjson_parseString.f k a0 a1=some (r1,r2,r3,r4)) :
  Calls Tryz.prog 60 #[.string a0,.int .i64 a1] w fun e w'=>e = .returned (.tuple #[.int .i64 r1,.string r2,.bool r3,.bool r4])∧Drawn0 w w':=by
 have H:(gjson_parseString.l0 k a0 a1 a1)=some (r1,r2,r3,r4):=h
 clear h
 have H':=am H
 clear H
 go_enter Tryz.func60,Tryz.ntmps60
 go_wp2
 repeat (go_quiet (fail);try go_wp2)
 (try simp only [Act.put,List.setIfInBounds_toArray,List.set_cons_succ,List.set_cons_zero])
 go_loopg [1] k (fun kq v1 w'=>∃ (x1_1:Int),v1 = .int .i64 x1_1∧Aside0 (gjson_parseString.l0 kq a0 x1_1 a1=some (r1,r2,r3,r4))∧Aside0 (kq≤k)∧Drawn0 w w')
 case atStart=>exact ⟨(a1),Z0,H',⟨Nat.le_refl _⟩,Z6⟩
 clear H'
 try clear p2
 obtain ⟨x1_1,rfl,HA,HK1,⟨m1,rfl⟩⟩:=hrel
 cases gk with
 | zero=>exact absurd HA.out (by simp [gjson_parseString.l0])
 | succ k1=>
 have H:=HA.out
 clear HA
 simp only [gjson_parseString.l0] at H
 by_cases c3:x1_1<(a0.size:Int)
 rotate_left
 ·
  rw [if_neg c3] at H
  have c3b0:=df c3
  clear c3
  obtain ⟨ji48,hji48⟩:∃ j_:Int,(wrap64 (a1 - 1))=j_:=⟨_,rfl⟩
  replace H:(if 0≤(ji48) then (if (ji48)≤(a0.size:Int) then (some (x1_1,a0.extract ((ji48):Int).toNat a0.size,false,false)) else (none)) else (none))=some (r1,r2,r3,r4):=by first | (rw [hji48] at H;exact H) | (simp only [hji48] at H ⊢;exact H)
  have hji48w:(IntKind.i64.wrap (a1 - 1))=ji48:=(i64_w _).trans hji48
  by_cases c49:0≤(ji48)
  rotate_left
  ·
   rw [if_neg c49] at H
   exact absurd H Z3
  rw [if_pos c49] at H
  have c49b0:=eq_true c49
  have c49b1:=dt c49
  clear c49
  by_cases c50:(ji48)≤(a0.size:Int)
  rotate_left
  ·
   rw [if_neg c50] at H
   exact absurd H Z3
  rw [if_pos c50] at H
  have c50b0:=eq_true c50
  have c50b1:=dt c50
  clear c50
  simp only [Option.some.injEq,Prod.mk.injEq] at H
  obtain ⟨rfl,rfl,rfl,rfl⟩:=H
  go_wp2
  repeat (go_quiet (fail);try go_wp2)
  refine bodyPost_ret (results_list (rs:=[.tmp 4,.tmp 5,.tmp 6,.tmp 7]) rfl Z3 (.tmp (.tmp (.tmp (.tmp .nil))))) rfl ?_
  exact ⟨by first | rfl | (simp;done) | (simp only [← hji48] <;> (first | rfl | simp)) | (simp [*];done),Z6⟩
 rw [if_pos c3] at H
 have c3b0:=dt c3
 clear c3
 by_cases c4:0≤x1_1
 rotate_left
 ·
  rw [if_neg c4] at H
  exact absurd H Z3
 rw [if_pos c4] at H
 have c4b0:=dt c4
 clear c4
 by_cases c6:(bt a0 x1_1) > 92
 ·
  rw [if_pos c6] at H
  have c6b0:=dt c6
  clear c6
  have H':=am H
  clear H
  have p5:0≤(x1_1:Int):=od Z4
  have q5:x1_1<(a0.size:Int):=od Z4
  have hx5:=bt_at a0 x1_1
  replace p5:=eq_true p5
  replace q5:=eq_true q5
  go_wp2
  repeat (go_quiet (fail);try go_wp2)
  go_roundg k1
  case measure=>have:=HK1.out;omega
  case rel=>exact ⟨(wrap64 (x1_1+1)),Z0,H',⟨Z17⟩,Z6⟩
 rw [if_neg c6] at H
 have c6b0:=df c6
 clear c6
 by_cases c8:(bt a0 x1_1)=34
 ·
  rw [if_pos c8] at H
  have c8b0:=beq_iff_eq.mpr c8
  have c8b1:=bnf c8
  clear c8
  obtain ⟨ji9,hji9⟩:∃ j_:Int,(wrap64 (a1 - 1))=j_:=⟨_,rfl⟩
  replace H:(if 0≤(ji9) then (if (ji9)≤(wrap64 (x1_1+1)) then (if (wrap64 (x1_1+1))≤(a0.size:Int) then (some (wrap64 (x1_1+1),a0.extract ((ji9):Int).toNat ((wrap64 (x1_1+1)):Int).toNat,false,true)) else (none)) else (none)) else (none))=some (r1,r2,r3,r4):=Z72
  have hji9w:(IntKind.i64.wrap (a1 - 1))=ji9:=(i64_w _).trans hji9
  by_cases c10:0≤(ji9)
  rotate_left
  ·
   rw [if_neg c10] at H
   exact absurd H Z3
  rw [if_pos c10] at H
  have c10b0:=eq_true c10
  have c10b1:=dt c10
  clear c10
  by_cases c11:(ji9)≤(wrap64 (x1_1+1))
  rotate_left
  ·
   rw [if_neg c11] at H
   exact absurd H Z3
  rw [if_pos c11] at H
  have c11b0:=eq_true c11
  have c11b1:=dt c11
  by_cases c12:(wrap64 (x1_1+1))≤(a0.size:Int)
  rotate_left
  ·
   rw [if_neg c12] at H
   exact absurd H Z3
  rw [if_pos c12] at H
  have c12b0:=eq_true c12
  have c12b1:=dt c12
  simp only [Option.some.injEq,Prod.mk.injEq] at H
  obtain ⟨rfl,rfl,rfl,rfl⟩:=H
  have p5:0≤(x1_1:Int):=od Z4
  have q5:x1_1<(a0.size:Int):=od Z4
  have hx5:=bt_at a0 x1_1
  replace p5:=eq_true p5
  replace q5:=eq_true q5
  have p7:0≤(x1_1:Int):=od Z4
  have q7:x1_1<(a0.size:Int):=od Z4
  have hx7:=bt_at a0 x1_1
  replace p7:=eq_true p7
  replace q7:=eq_true q7
  go_wp2
  repeat (go_quiet (fail);try go_wp2)
  refine bodyPost_ret (results_list (rs:=[.tmp 4,.tmp 5,.tmp 6,.tmp 7]) rfl Z3 (.tmp (.tmp (.tmp (.tmp .nil))))) rfl ?_
  exact ⟨Z73,Z6⟩
 rw [if_neg c8] at H
 have c8b0:=bfe c8
 have c8b1:=bne_iff_ne.mpr c8
 by_cases c14:(bt a0 x1_1)=92
 rotate_left
 ·
  rw [if_neg c14] at H
  have c14b0:=bfe c14
  have c14b1:=bne_iff_ne.mpr c14
  have H':=am H
  clear H
  have p5:0≤(x1_1:Int):=od Z4
  have q5:x1_1<(a0.size:Int):=od Z4
  have hx5:=bt_at a0 x1_1
  replace p5:=eq_true p5
  replace q5:=eq_true q5
  have p7:0≤(x1_1:Int):=od Z4
  have q7:x1_1<(a0.size:Int):=od Z4
  have hx7:=bt_at a0 x1_1
  replace p7:=eq_true p7
  replace q7:=eq_true q7
  have p13:0≤(x1_1:Int):=od Z4
  have q13:x1_1<(a0.size:Int):=od Z4
  have hx13:=bt_at a0 x1_1
  replace p13:=eq_true p13
  replace q13:=eq_true q13
  go_wp2
  repeat (go_quiet (fail);try go_wp2)
  go_roundg k1
  case measure=>have:=HK1.out;omega
  case rel=>exact ⟨(wrap64 (x1_1+1)),Z0,H',⟨Z17⟩,Z6⟩
 rw [if_pos c14] at H
 have c14b0:=beq_iff_eq.mpr c14
 have c14b1:=bnf c14
 clear c14
 have H':=am H
 clear H
 have p5:0≤(x1_1:Int):=od Z4
 have q5:x1_1<(a0.size:Int):=od Z4
 have hx5:=bt_at a0 x1_1
 replace p5:=eq_true p5
 replace q5:=eq_true q5
 have p7:0≤(x1_1:Int):=od Z4
 have q7:x1_1<(a0.size:Int):=od Z4
 have hx7:=bt_at a0 x1_1
 replace p7:=eq_true p7
 replace q7:=eq_true q7
 have p13:0≤(x1_1:Int):=od Z4
 have q13:x1_1<(a0.size:Int):=od Z4
 have hx13:=bt_at a0 x1_1
 replace p13:=eq_true p13
 replace q13:=eq_true q13
 go_wp2
 repeat (go_quiet (fail);try go_wp2)
 (try simp only [Act.put,List.setIfInBounds_toArray,List.set_cons_succ,List.set_cons_zero])
 go_loopg [1] k1 (fun kq v1 w'=>∃ (x1_2:Int),v1 = .int .i64 x1_2∧Aside0 (gjson_parseString.l1 kq a0 x1_2 a1=some (r1,r2,r3,r4))∧Aside0 (kq≤k1)∧Drawn0 w w')
 case atStart=>exact ⟨(wrap64 (x1_1+1)),Z0,H',⟨Nat.le_refl _⟩,Z6⟩
 clear H'
 try clear c1;try clear p1;try clear q1;try clear hx1;try clear p2;try clear c3;try clear c3b0;try clear c4;try clear c4b0;try clear p5;try clear q5;try clear hx5;try clear c6;try clear c6b0;try clear p6;try clear p7;try clear q7;try clear hx7;try clear c8;try clear c8b0;try clear c8b1;try clear c10;try clear c10b0;try clear c10b1;try clear c11;try clear c11b0;try clear c11b1;try clear c12;try clear c12b0;try clear c12b1;try clear p13;try clear q13;try clear hx13;try clear c14;try clear c14b0;try clear c14b1;try clear p13;try clear p2;try clear p5;try clear p7;try clear q13;try clear q5;try clear q7
 obtain ⟨x1_2,rfl,HA,HK2,⟨m2,rfl⟩⟩:=hrel
 cases gk with
 | zero=>exact absurd HA.out (by simp [gjson_parseString.l1])
 | succ k2=>
 have H:=HA.out
 clear HA
 simp only [gjson_parseString.l1] at H
 by_cases c15:x1_2<(a0.size:Int)
 rotate_left
 ·
  rw [if_neg c15] at H
  have c15b0:=df c15
  clear c15
  obtain ⟨ji45,hji45⟩:∃ j_:Int,(wrap64 (a1 - 1))=j_:=⟨_,rfl⟩
  replace H:(if 0≤(ji45) then (if (ji45)≤(a0.size:Int) then (some (x1_2,a0.extract ((ji45):Int).toNat a0.size,false,false)) else (none)) else (none))=some (r1,r2,r3,r4):=by first | (rw [hji45] at H;exact H) | (simp only [hji45] at H ⊢;exact H)
  have hji45w:(IntKind.i64.wrap (a1 - 1))=ji45:=(i64_w _).trans hji45
  by_cases c46:0≤(ji45)
  rotate_left
  ·
   rw [if_neg c46] at H
   exact absurd H Z3
  rw [if_pos c46] at H
  have c46b0:=eq_true c46
  have c46b1:=dt c46
  clear c46
  by_cases c47:(ji45)≤(a0.size:Int)
  rotate_left
  ·
   rw [if_neg c47] at H
   exact absurd H Z3
  rw [if_pos c47] at H
  have c47b0:=eq_true c47
  have c47b1:=dt c47
  clear c47
  simp only [Option.some.injEq,Prod.mk.injEq] at H
  obtain ⟨rfl,rfl,rfl,rfl⟩:=H
  go_wp2
  repeat (go_quiet (fail);try go_wp2)
  refine bodyPost_ret (results_list (rs:=[.tmp 4,.tmp 5,.tmp 6,.tmp 7]) rfl Z3 (.tmp (.tmp (.tmp (.tmp .nil))))) rfl ?_
  exact ⟨by first | rfl | (simp;done) | (simp only [← hji45] <;> (first | rfl | simp)) | (simp [*];done),Z6⟩
 rw [if_pos c15] at H
 have c15b0:=dt c15
 clear c15
 by_cases c16:0≤x1_2
 rotate_left
 ·
  rw [if_neg c16] at H
  exact absurd H Z3
 rw [if_pos c16] at H
 have c16b0:=dt c16
 clear c16
 by_cases c18:(bt a0 x1_2) > 92
 ·
  rw [if_pos c18] at H
  have c18b0:=dt c18
  clear c18
  have H':=am H
  clear H
  have p17:0≤(x1_2:Int):=od Z4
  have q17:x1_2<(a0.size:Int):=od Z4
  have hx17:=bt_at a0 x1_2
  replace p17:=eq_true p17
  replace q17:=eq_true q17
  go_wp2
  repeat (go_quiet (fail);try go_wp2)
  go_roundg k2
  case measure=>have:=HK1.out;have:=HK2.out;omega
  case rel=>exact ⟨(wrap64 (x1_2+1)),Z0,H',⟨Z43⟩,Z6⟩
 rw [if_neg c18] at H
 have c18b0:=df c18
 clear c18
 by_cases c20:(bt a0 x1_2)=34
 rotate_left
 ·
  rw [if_neg c20] at H
  have c20b0:=bfe c20
  have c20b1:=bne_iff_ne.mpr c20
  have H':=am H
  clear H
  have p17:0≤(x1_2:Int):=od Z4
  have q17:x1_2<(a0.size:Int):=od Z4
  have hx17:=bt_at a0 x1_2
  replace p17:=eq_true p17
  replace q17:=eq_true q17
  have p19:0≤(x1_2:Int):=od Z4
  have q19:x1_2<(a0.size:Int):=od Z4
  have hx19:=bt_at a0 x1_2
  replace p19:=eq_true p19
  replace q19:=eq_true q19
  go_wp2
  repeat (go_quiet (fail);try go_wp2)
  go_roundg k2
  case measure=>have:=HK1.out;have:=HK2.out;omega
  case rel=>exact ⟨(wrap64 (x1_2+1)),Z0,H',⟨Z43⟩,Z6⟩
 rw [if_pos c20] at H
 have c20b0:=beq_iff_eq.mpr c20
 have c20b1:=bnf c20
 clear c20
 obtain ⟨ji21,hji21⟩:∃ j_:Int,(wrap64 (x1_2 - 1))=j_:=⟨_,rfl⟩
 replace H:(if 0≤(ji21) then (if (ji21)<(a0.size:Int) then (if (bt a0 (ji21))=92 then (gjson_parseString.l2 k2 a0 x1_2 a1 0 (wrap64 (x1_2 - 2))) else (if 0≤(wrap64 (a1 - 1)) then (if (wrap64 (a1 - 1))≤(wrap64 (x1_2+1)) then (if (wrap64 (x1_2+1))≤(a0.size:Int) then (some (wrap64 (x1_2+1),a0.extract ((wrap64 (a1 - 1)):Int).toNat ((wrap64 (x1_2+1)):Int).toNat,true,true)) else (none)) else (none)) else (none))) else (none)) else (none))=some (r1,r2,r3,r4):=by first | (rw [hji21] at H;exact H) | (simp only [hji21] at H ⊢;exact H)
 have hji21w:(IntKind.i64.wrap (x1_2 - 1))=ji21:=(i64_w _).trans hji21
 by_cases c22:0≤(ji21)
 rotate_left
 ·
  rw [if_neg c22] at H
  exact absurd H Z3
 rw [if_pos c22] at H
 have c22b0:=dt c22
 clear c22
 by_cases c23:(ji21)<(a0.size:Int)
 rotate_left
 ·
  rw [if_neg c23] at H
  exact absurd H Z3
 rw [if_pos c23] at H
 have c23b0:=dt c23
 clear c23
 by_cases c25:(bt a0 (ji21))=92
 rotate_left
 ·
  rw [if_neg c25] at H
  have c25b0:=bfe c25
  have c25b1:=bne_iff_ne.mpr c25
  obtain ⟨ji41,hji41⟩:∃ j_:Int,(wrap64 (a1 - 1))=j_:=⟨_,rfl⟩
  replace H:(if 0≤(ji41) then (if (ji41)≤(wrap64 (x1_2+1)) then (if (wrap64 (x1_2+1))≤(a0.size:Int) then (some (wrap64 (x1_2+1),a0.extract ((ji41):Int).toNat ((wrap64 (x1_2+1)):Int).toNat,true,true)) else (none)) else (none)) else (none))=some (r1,r2,r3,r4):=by first | (rw [hji41] at H;exact H) | (simp only [hji41] at H ⊢;exact H)
  have hji41w:(IntKind.i64.wrap (a1 - 1))=ji41:=(i64_w _).trans hji41
  by_cases c42:0≤(ji41)
  rotate_left
  ·
   rw [if_neg c42] at H
   exact absurd H Z3
  rw [if_pos c42] at H
  have c42b0:=eq_true c42
  have c42b1:=dt c42
  clear c42
  by_cases c43:(ji41)≤(wrap64 (x1_2+1))
  rotate_left
  ·
   rw [if_neg c43] at H
   exact absurd H Z3
  rw [if_pos c43] at H
  have c43b0:=eq_true c43
  have c43b1:=dt c43
  by_cases c44:(wrap64 (x1_2+1))≤(a0.size:Int)
  rotate_left
  ·
   rw [if_neg c44] at H
   exact absurd H Z3
  rw [if_pos c44] at H
  have c44b0:=eq_true c44
  have c44b1:=dt c44
  simp only [Option.some.injEq,Prod.mk.injEq] at H
  obtain ⟨rfl,rfl,rfl,rfl⟩:=H
  have p17:0≤(x1_2:Int):=od Z4
  have q17:x1_2<(a0.size:Int):=od Z4
  have hx17:=bt_at a0 x1_2
  replace p17:=eq_true p17
  replace q17:=eq_true q17
  have p19:0≤(x1_2:Int):=od Z4
  have q19:x1_2<(a0.size:Int):=od Z4
  have hx19:=bt_at a0 x1_2
  replace p19:=eq_true p19
  replace q19:=eq_true q19
  have p24:0≤((ji21):Int):=od Z4
  have q24:(ji21)<(a0.size:Int):=od Z4
  have hx24:=bt_at a0 (ji21)
  replace p24:=eq_true p24
  replace q24:=eq_true q24
  go_wp2
  repeat (go_quiet (fail);try go_wp2)
  refine bodyPost_ret (results_list (rs:=[.tmp 4,.tmp 5,.tmp 6,.tmp 7]) rfl Z3 (.tmp (.tmp (.tmp (.tmp .nil))))) rfl ?_
  exact ⟨by first | rfl | (simp;done) | (simp only [← hji21,← hji41] <;> (first | rfl | simp)) | (simp [*];done),Z6⟩
 rw [if_pos c25] at H
 have c25b0:=beq_iff_eq.mpr c25
 have c25b1:=bnf c25
 clear c25
 have H':=am H
 clear H
 have p17:0≤(x1_2:Int):=od Z4
 have q17:x1_2<(a0.size:Int):=od Z4
 have hx17:=bt_at a0 x1_2
 replace p17:=eq_true p17
 replace q17:=eq_true q17
 have p19:0≤(x1_2:Int):=od Z4
 have q19:x1_2<(a0.size:Int):=od Z4
 have hx19:=bt_at a0 x1_2
 replace p19:=eq_true p19
 replace q19:=eq_true q19
 have p24:0≤((ji21):Int):=od Z4
 have q24:(ji21)<(a0.size:Int):=od Z4
 have hx24:=bt_at a0 (ji21)
 replace p24:=eq_true p24
 replace q24:=eq_true q24
 go_wp2
 repeat (go_quiet (fail);try go_wp2)
 (try simp only [Act.put,List.setIfInBounds_toArray,List.set_cons_succ,List.set_cons_zero])
 go_loopg [9,10] k2 (fun kq v9 v10 w'=>∃ (x9_3:Int) (x10_3:Int),v9 = .int .i64 x9_3∧v10 = .int .i64 x10_3∧Aside0 (gjson_parseString.l2 kq a0 x1_2 a1 x9_3 x10_3=some (r1,r2,r3,r4))∧Aside0 (kq≤k2)∧Drawn0 w w')
 case atStart=>exact ⟨(0),(wrap64 (x1_2 - 2)),Z0,Z0,H',⟨Nat.le_refl _⟩,Z6⟩
 clear H'
 try clear c1;try clear p1;try clear q1;try clear hx1;try clear c2;try clear p2;try clear q2;try clear hx2;try clear c3;try clear c3b0;try clear c4;try clear c4b0;try clear p5;try clear q5;try clear hx5;try clear c6;try clear c6b0;try clear p6;try clear p7;try clear q7;try clear hx7;try clear c8;try clear c8b0;try clear c8b1;try clear c10;try clear c10b0;try clear c10b1;try clear c11;try clear c11b0;try clear c11b1;try clear c12;try clear c12b0;try clear c12b1;try clear p13;try clear q13;try clear hx13;try clear c14;try clear c14b0;try clear c14b1;try clear c15;try clear c15b0;try clear c16;try clear c16b0;try clear p17;try clear q17;try clear hx17;try clear c18;try clear c18b0;try clear p19;try clear q19;try clear hx19;try clear c20;try clear c20b0;try clear c20b1;try clear c22;try clear c22b0;try clear c23;try clear c23b0;try clear p24;try clear q24;try clear hx24;try clear c25;try clear c25b0;try clear c25b1;try clear p1;try clear p13;try clear p17;try clear p19;try clear p2;try clear p24;try clear p5;try clear p6;try clear p7;try clear q1;try clear q13;try clear q17;try clear q19;try clear q24;try clear q5;try clear q7
 obtain ⟨x9_3,x10_3,rfl,rfl,HA,HK3,⟨m3,rfl⟩⟩:=hrel
 cases gk with
 | zero=>exact absurd HA.out (by simp [gjson_parseString.l2])
 | succ k3=>
 have H:=HA.out
 clear HA
 simp only [gjson_parseString.l2] at H
 by_cases c26:x10_3 > 0
 rotate_left
 ·
  rw [if_neg c26] at H
  have c26b0:=df c26
  clear c26
  by_cases c36:(Int.tmod x9_3 2)=0
  ·
   rw [if_pos c36] at H
   have c36b0:=beq_iff_eq.mpr c36
   have c36b1:=bnf c36
   clear c36
   have H':=am H
   clear H
   go_wp2
   repeat (go_quiet (fail);try go_wp2)
   go_roundg k3
   case measure=>have:=HK1.out;have:=HK2.out;have:=HK3.out;omega
   case rel=>exact ⟨(wrap64 (x1_2+1)),Z0,H',⟨Z58⟩,Z6⟩
  rw [if_neg c36] at H
  have c36b0:=bfe c36
  have c36b1:=bne_iff_ne.mpr c36
  obtain ⟨ji37,hji37⟩:∃ j_:Int,(wrap64 (a1 - 1))=j_:=⟨_,rfl⟩
  replace H:(if 0≤(ji37) then (if (ji37)≤(wrap64 (x1_2+1)) then (if (wrap64 (x1_2+1))≤(a0.size:Int) then (some (wrap64 (x1_2+1),a0.extract ((ji37):Int).toNat ((wrap64 (x1_2+1)):Int).toNat,true,true)) else (none)) else (none)) else (none))=some (r1,r2,r3,r4):=by first | (rw [hji37] at H;exact H) | (simp only [hji37] at H ⊢;exact H)
  have hji37w:(IntKind.i64.wrap (a1 - 1))=ji37:=(i64_w _).trans hji37
  by_cases c38:0≤(ji37)
  rotate_left
  ·
   rw [if_neg c38] at H
   exact absurd H Z3
  rw [if_pos c38] at H
  have c38b0:=eq_true c38
  have c38b1:=dt c38
  clear c38
  by_cases c39:(ji37)≤(wrap64 (x1_2+1))
  rotate_left
  ·
   rw [if_neg c39] at H
   exact absurd H Z3
  rw [if_pos c39] at H
  have c39b0:=eq_true c39
  have c39b1:=dt c39
  by_cases c40:(wrap64 (x1_2+1))≤(a0.size:Int)
  rotate_left
  ·
   rw [if_neg c40] at H
   exact absurd H Z3
  rw [if_pos c40] at H
  have c40b0:=eq_true c40
  have c40b1:=dt c40
  simp only [Option.some.injEq,Prod.mk.injEq] at H
  obtain ⟨rfl,rfl,rfl,rfl⟩:=H
  go_wp2
  repeat (go_quiet (fail);try go_wp2)
  refine bodyPost_ret (results_list (rs:=[.tmp 4,.tmp 5,.tmp 6,.tmp 7]) rfl Z3 (.tmp (.tmp (.tmp (.tmp .nil))))) rfl ?_
  exact ⟨by first | rfl | (simp;done) | (simp only [← hji21,← hji37] <;> (first | rfl | simp)) | (simp [*];done),Z6⟩
 rw [if_pos c26] at H
 have c26b0:=dt c26
 clear c26
 by_cases c27:0≤x10_3
 rotate_left
 ·
  rw [if_neg c27] at H
  exact absurd H Z3
 rw [if_pos c27] at H
 have c27b0:=dt c27
 clear c27
 by_cases c28:x10_3<(a0.size:Int)
 rotate_left
 ·
  rw [if_neg c28] at H
  exact absurd H Z3
 rw [if_pos c28] at H
 have c28b0:=dt c28
 clear c28
 by_cases c30:(bt a0 x10_3)=92
 ·
  rw [if_pos c30] at H
  have c30b0:=beq_iff_eq.mpr c30
  have c30b1:=bnf c30
  clear c30
  have H':=am H
  clear H
  have p29:0≤(x10_3:Int):=od Z4
  have q29:x10_3<(a0.size:Int):=od Z4
  have hx29:=bt_at a0 x10_3
  replace p29:=eq_true p29
  replace q29:=eq_true q29
  go_wp2
  repeat (go_quiet (fail);try go_wp2)
  go_roundg k3
  case measure=>have:=HK1.out;have:=HK2.out;have:=HK3.out;omega
  case rel=>exact ⟨(wrap64 (x9_3+1)),(wrap64 (x10_3 - 1)),Z0,Z0,H',⟨Z58⟩,Z6⟩
 rw [if_neg c30] at H
 have c30b0:=bfe c30
 have c30b1:=bne_iff_ne.mpr c30
 by_cases c31:(Int.tmod x9_3 2)=0
 ·
  rw [if_pos c31] at H
  have c31b0:=beq_iff_eq.mpr c31
  have c31b1:=bnf c31
  clear c31
  have H':=am H
  clear H
  have p29:0≤(x10_3:Int):=od Z4
  have q29:x10_3<(a0.size:Int):=od Z4
  have hx29:=bt_at a0 x10_3
  replace p29:=eq_true p29
  replace q29:=eq_true q29
  go_wp2
  repeat (go_quiet (fail);try go_wp2)
  go_roundg k3
  case measure=>have:=HK1.out;have:=HK2.out;have:=HK3.out;omega
  case rel=>exact ⟨(wrap64 (x1_2+1)),Z0,H',⟨Z58⟩,Z6⟩
 rw [if_neg c31] at H
 have c31b0:=bfe c31
 have c31b1:=bne_iff_ne.mpr c31
 obtain ⟨ji32,hji32⟩:∃ j_:Int,(wrap64 (a1 - 1))=j_:=⟨_,rfl⟩
 replace H:(if 0≤(ji32) then (if (ji32)≤(wrap64 (x1_2+1)) then (if (wrap64 (x1_2+1))≤(a0.size:Int) then (some (wrap64 (x1_2+1),a0.extract ((ji32):Int).toNat ((wrap64 (x1_2+1)):Int).toNat,true,true)) else (none)) else (none)) else (none))=some (r1,r2,r3,r4):=by first | (rw [hji32] at H;exact H) | (simp only [hji32] at H ⊢;exact H)
 have hji32w:(IntKind.i64.wrap (a1 - 1))=ji32:=(i64_w _).trans hji32
 by_cases c33:0≤(ji32)
 rotate_left
 ·
  rw [if_neg c33] at H
  exact absurd H Z3
 rw [if_pos c33] at H
 have c33b0:=eq_true c33
 have c33b1:=dt c33
 clear c33
 by_cases c34:(ji32)≤(wrap64 (x1_2+1))
 rotate_left
 ·
  rw [if_neg c34] at H
  exact absurd H Z3
 rw [if_pos c34] at H
 have c34b0:=eq_true c34
 have c34b1:=dt c34
 by_cases c35:(wrap64 (x1_2+1))≤(a0.size:Int)
 rotate_left
 ·
  rw [if_neg c35] at H
  exact absurd H Z3
 rw [if_pos c35] at H
 have c35b0:=eq_true c35
 have c35b1:=dt c35
 simp only [Option.some.injEq,Prod.mk.injEq] at H
 obtain ⟨rfl,rfl,rfl,rfl⟩:=H
 have p29:0≤(x10_3:Int):=od Z4
 have q29:x10_3<(a0.size:Int):=od Z4
 have hx29:=bt_at a0 x10_3
 replace p29:=eq_true p29
 replace q29:=eq_true q29
 go_wp2
 repeat (go_quiet (fail);try go_wp2)
 refine bodyPost_ret (results_list (rs:=[.tmp 4,.tmp 5,.tmp 6,.tmp 7]) rfl Z3 (.tmp (.tmp (.tmp (.tmp .nil))))) rfl ?_
 exact ⟨by first | rfl | (simp;done) | (simp only [← hji21,← hji32] <;> (first | rfl | simp)) | (simp [*];done),Z6⟩
def gjson_parseLiteral.l0:Nat→ByteArray→Int→Int→Option (Int×ByteArray)
 | 0,_,_,_=>none
 | k+1,x0,x1,x6=>if x1<(x0.size:Int) then (if 0≤x1 then (if (bt x0 x1)<97 then (if 0≤x6 then (if x6≤x1 then (if x1≤(x0.size:Int) then (some (x1,x0.extract (x6:Int).toNat (x1:Int).toNat)) else (none)) else (none)) else (none)) else (if (bt x0 x1) > 122 then (if 0≤x6 then (if x6≤x1 then (if x1≤(x0.size:Int) then (some (x1,x0.extract (x6:Int).toNat (x1:Int).toNat)) else (none)) else (none)) else (none)) else (gjson_parseLiteral.l0 k x0 (wrap64 (x1+1)) x6))) else (none)) else (if 0≤x6 then (if x6≤(x0.size:Int) then (some (x1,x0.extract (x6:Int).toNat x0.size)) else (none)) else (none))
def gjson_parseLiteral.f (k:Nat) (a0:ByteArray) (a1:Int):Option (Int×ByteArray):=gjson_parseLiteral.l0 k a0 (wrap64 (a1+1)) a1
theorem gjson_parseLiteral.calls (k:Nat) (a0:ByteArray) (a1:Int) (r1:Int) (r2:ByteArray) (w:World) (h:gjson_parseLiteral.f k a0 a1=some (r1,r2)) :
  Calls Tryz.prog 78 #[.string a0,.int .i64 a1] w fun e w'=>e = .returned (.tuple #[.int .i64 r1,.string r2])∧Drawn0 w w':=by
 have H:(gjson_parseLiteral.l0 k a0 (wrap64 (a1+1)) a1)=some (r1,r2):=h
 clear h
 have H':=am H
 clear H
 go_enter Tryz.func78,Tryz.ntmps78
 go_wp2
 repeat (go_quiet (fail);try go_wp2)
 (try simp only [Act.put,List.setIfInBounds_toArray,List.set_cons_succ,List.set_cons_zero])
 go_loopg [1] k (fun kq v1 w'=>∃ (x1_1:Int),v1 = .int .i64 x1_1∧Aside0 (gjson_parseLiteral.l0 kq a0 x1_1 a1=some (r1,r2))∧Aside0 (kq≤k)∧Drawn0 w w')
 case atStart=>exact ⟨(wrap64 (a1+1)),Z0,H',⟨Nat.le_refl _⟩,Z6⟩
 clear H'
 try clear p2
 obtain ⟨x1_1,rfl,HA,HK1,⟨m1,rfl⟩⟩:=hrel
 cases gk with
 | zero=>exact absurd HA.out (by simp [gjson_parseLiteral.l0])
 | succ k1=>
 have H:=HA.out
 clear HA
 simp only [gjson_parseLiteral.l0] at H
 by_cases c3:x1_1<(a0.size:Int)
 rotate_left
 ·
  rw [if_neg c3] at H
  have c3b0:=df c3
  clear c3
  by_cases c15:0≤a1
  rotate_left
  ·
   rw [if_neg c15] at H
   exact absurd H Z3
  rw [if_pos c15] at H
  have c15b0:=eq_true c15
  have c15b1:=dt c15
  clear c15
  by_cases c16:a1≤(a0.size:Int)
  rotate_left
  ·
   rw [if_neg c16] at H
   exact absurd H Z3
  rw [if_pos c16] at H
  have c16b0:=eq_true c16
  have c16b1:=dt c16
  clear c16
  simp only [Option.some.injEq,Prod.mk.injEq] at H
  obtain ⟨rfl,rfl⟩:=H
  go_wp2
  repeat (go_quiet (fail);try go_wp2)
  go_ret2
  exact ⟨Z0,Z6⟩
 rw [if_pos c3] at H
 have c3b0:=dt c3
 clear c3
 by_cases c4:0≤x1_1
 rotate_left
 ·
  rw [if_neg c4] at H
  exact absurd H Z3
 rw [if_pos c4] at H
 have c4b0:=dt c4
 clear c4
 by_cases c6:(bt a0 x1_1)<97
 ·
  rw [if_pos c6] at H
  have c6b0:=dt c6
  clear c6
  by_cases c7:0≤a1
  rotate_left
  ·
   rw [if_neg c7] at H
   exact absurd H Z3
  rw [if_pos c7] at H
  have c7b0:=eq_true c7
  have c7b1:=dt c7
  clear c7
  by_cases c8:a1≤x1_1
  rotate_left
  ·
   rw [if_neg c8] at H
   exact absurd H Z3
  rw [if_pos c8] at H
  have c8b0:=eq_true c8
  have c8b1:=dt c8
  clear c8
  by_cases c9:x1_1≤(a0.size:Int)
  rotate_left
  ·
   rw [if_neg c9] at H
   exact absurd H Z3
  rw [if_pos c9] at H
  have c9b0:=eq_true c9
  have c9b1:=dt c9
  clear c9
  simp only [Option.some.injEq,Prod.mk.injEq] at H
  obtain ⟨rfl,rfl⟩:=H
  have p5:0≤(x1_1:Int):=od Z4
  have q5:x1_1<(a0.size:Int):=od Z4
  have hx5:=bt_at a0 x1_1
  replace p5:=eq_true p5
  replace q5:=eq_true q5
  go_wp2
  repeat (go_quiet (fail);try go_wp2)
  go_ret2
  exact ⟨Z0,Z6⟩
 rw [if_neg c6] at H
 have c6b0:=df c6
 clear c6
 by_cases c11:(bt a0 x1_1) > 122
 rotate_left
 ·
  rw [if_neg c11] at H
  have c11b0:=df c11
  clear c11
  have H':=am H
  clear H
  have p5:0≤(x1_1:Int):=od Z4
  have q5:x1_1<(a0.size:Int):=od Z4
  have hx5:=bt_at a0 x1_1
  replace p5:=eq_true p5
  replace q5:=eq_true q5
  have p10:0≤(x1_1:Int):=od Z4
  have q10:x1_1<(a0.size:Int):=od Z4
  have hx10:=bt_at a0 x1_1
  replace p10:=eq_true p10
  replace q10:=eq_true q10
  go_wp2
  repeat (go_quiet (fail);try go_wp2)
  go_roundg k1
  case measure=>have:=HK1.out;omega
  case rel=>exact ⟨(wrap64 (x1_1+1)),Z0,H',⟨Z17⟩,Z6⟩
 rw [if_pos c11] at H
 have c11b0:=dt c11
 clear c11
 by_cases c12:0≤a1
 rotate_left
 ·
  rw [if_neg c12] at H
  exact absurd H Z3
 rw [if_pos c12] at H
 have c12b0:=eq_true c12
 have c12b1:=dt c12
 clear c12
 by_cases c13:a1≤x1_1
 rotate_left
 ·
  rw [if_neg c13] at H
  exact absurd H Z3
 rw [if_pos c13] at H
 have c13b0:=eq_true c13
 have c13b1:=dt c13
 clear c13
 by_cases c14:x1_1≤(a0.size:Int)
 rotate_left
 ·
  rw [if_neg c14] at H
  exact absurd H Z3
 rw [if_pos c14] at H
 have c14b0:=eq_true c14
 have c14b1:=dt c14
 clear c14
 simp only [Option.some.injEq,Prod.mk.injEq] at H
 obtain ⟨rfl,rfl⟩:=H
 have p5:0≤(x1_1:Int):=od Z4
 have q5:x1_1<(a0.size:Int):=od Z4
 have hx5:=bt_at a0 x1_1
 replace p5:=eq_true p5
 replace q5:=eq_true q5
 have p10:0≤(x1_1:Int):=od Z4
 have q10:x1_1<(a0.size:Int):=od Z4
 have hx10:=bt_at a0 x1_1
 replace p10:=eq_true p10
 replace q10:=eq_true q10
 go_wp2
 repeat (go_quiet (fail);try go_wp2)
 go_ret2
 exact ⟨Z0,Z6⟩
end Go.Proofs.YtieflhncpjjciaaGreatDoor.PFnGjSquashItems
