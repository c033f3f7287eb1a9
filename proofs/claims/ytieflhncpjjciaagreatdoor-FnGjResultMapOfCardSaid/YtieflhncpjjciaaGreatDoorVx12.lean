import Derived.Test.YtieflhncpjjciaaGreatDoorVq
import Derived.Test.YtieflhncpjjciaaGreatDoorVx0
set_option maxHeartbeats 8000000
set_option maxRecDepth 100000
namespace Go.Proofs.YtieflhncpjjciaaGreatDoor.PFnGjSquashItems
open Go.RowKit Go.Proofs.YtieflhncpjjciaaGreatDoorW.PrintWords Go.Proofs.YtieflhncpjjciaaGreatDoorW.PrintLast Go.Proofs.YtieflhncpjjciaaGreatDoorW.PrintMore
attribute [local go_sem] max2_int min2_int max_two min_two max_three min_three max_four min_four
set_option linter.unusedVariables false
set_option linter.unusedSimpArgs false
mutual
def gjson_squash.j0:Nat→ByteArray→Int→Int→Option (ByteArray)
 | 0,_,_,_=>none
 | k+1,x0,x3,x4=>gjson_squash.l0 k x0 x3 x4
def gjson_squash.l0:Nat→ByteArray→Int→Int→Option (ByteArray)
 | 0,_,_,_=>none
 | k+1,x0,x3,x4=>if x3<(x0.size:Int) then (if 0≤x3 then (if (bt x0 x3)≥34 then (gjson_squash.j2 k x0 x3 x4 (decide ((bt x0 x3)≤125))) else (gjson_squash.j2 k x0 x3 x4 false)) else (none)) else (some x0)
def gjson_squash.j2:Nat→ByteArray→Int→Int→Bool→Option (ByteArray)
 | 0,_,_,_,_=>none
 | k+1,x0,x3,x4,x26=>if x26=true then (if 0≤x3 then (if x3<(x0.size:Int) then (if (bt x0 x3)=34 then (gjson_squash.l1 k x0 (wrap64 (x3+1)) x4 (wrap64 (x3+1))) else (if (bt x0 x3)=123 then (gjson_squash.j6 k x0 x3 x4 (bt x0 x3) ((bt x0 x3) == 123)) else (if (bt x0 x3)=91 then (gjson_squash.j6 k x0 x3 x4 (bt x0 x3) ((bt x0 x3) == 91)) else (gjson_squash.j6 k x0 x3 x4 (bt x0 x3) ((bt x0 x3) == 40))))) else (none)) else (none)) else (gjson_squash.l0 k x0 (wrap64 (x3+1)) x4)
def gjson_squash.j5:Nat→ByteArray→Int→Int→Option (ByteArray)
 | 0,_,_,_=>none
 | k+1,x0,x3,x4=>if x4=0 then (if x3≥(x0.size:Int) then (some x0) else (if 0≤(wrap64 (x3+1)) then (if (wrap64 (x3+1))≤(x0.size:Int) then (some (x0.extract 0 ((wrap64 (x3+1)):Int).toNat)) else (none)) else (none))) else (gjson_squash.l0 k x0 (wrap64 (x3+1)) x4)
def gjson_squash.l1:Nat→ByteArray→Int→Int→Int→Option (ByteArray)
 | 0,_,_,_,_=>none
 | k+1,x0,x3,x4,x5=>if x3<(x0.size:Int) then (if 0≤x3 then (if (bt x0 x3) > 92 then (gjson_squash.l1 k x0 (wrap64 (x3+1)) x4 x5) else (if (bt x0 x3)=34 then (if 0≤(wrap64 (x3 - 1)) then (if (wrap64 (x3 - 1))<(x0.size:Int) then (if (bt x0 (wrap64 (x3 - 1)))=92 then (gjson_squash.l2 k x0 x3 x4 x5 0 (wrap64 (x3 - 2))) else (gjson_squash.j5 k x0 x3 x4)) else (none)) else (none)) else (gjson_squash.l1 k x0 (wrap64 (x3+1)) x4 x5))) else (none)) else (gjson_squash.j5 k x0 x3 x4)
def gjson_squash.l2:Nat→ByteArray→Int→Int→Int→Int→Int→Option (ByteArray)
 | 0,_,_,_,_,_,_=>none
 | k+1,x0,x3,x4,x5,x6,x7=>if x7 > (wrap64 (x5 - 1)) then (if 0≤x7 then (if x7<(x0.size:Int) then (if (bt x0 x7)=92 then (gjson_squash.l2 k x0 x3 x4 x5 (wrap64 (x6+1)) (wrap64 (x7 - 1))) else (if (Int.tmod x6 2)=0 then (gjson_squash.l1 k x0 (wrap64 (x3+1)) x4 x5) else (gjson_squash.j5 k x0 x3 x4))) else (none)) else (none)) else (if (Int.tmod x6 2)=0 then (gjson_squash.l1 k x0 (wrap64 (x3+1)) x4 x5) else (gjson_squash.j5 k x0 x3 x4))
def gjson_squash.j6:Nat→ByteArray→Int→Int→Int→Bool→Option (ByteArray)
 | 0,_,_,_,_,_=>none
 | k+1,x0,x3,x4,x29,x82=>if x82=true then (gjson_squash.l0 k x0 (wrap64 (x3+1)) (wrap64 (x4+1))) else (if x29=125 then (gjson_squash.j7 k x0 x3 x4 (x29 == 125)) else (if x29=93 then (gjson_squash.j7 k x0 x3 x4 (x29 == 93)) else (gjson_squash.j7 k x0 x3 x4 (x29 == 41))))
def gjson_squash.j7:Nat→ByteArray→Int→Int→Bool→Option (ByteArray)
 | 0,_,_,_,_=>none
 | k+1,x0,x3,x4,x88=>if x88=true then (if (wrap64 (x4 - 1))=0 then (if 0≤(wrap64 (x3+1)) then (if (wrap64 (x3+1))≤(x0.size:Int) then (some (x0.extract 0 ((wrap64 (x3+1)):Int).toNat)) else (none)) else (none)) else (gjson_squash.l0 k x0 (wrap64 (x3+1)) (wrap64 (x4 - 1)))) else (gjson_squash.l0 k x0 (wrap64 (x3+1)) x4)
end
def gjson_squash.f (k:Nat) (a0:ByteArray):Option (ByteArray):=if 0<(a0.size:Int) then (if (bt a0 0)=34 then (gjson_squash.j0 k a0 0 0) else (gjson_squash.j0 k a0 1 1)) else (none)
theorem gjson_squash.calls (k:Nat) (a0:ByteArray) (r:ByteArray) (w:World) (h:gjson_squash.f k a0=some r) :
  Calls Tryz.prog 69 #[.string a0] w fun e w'=>e = .returned (.string r)∧Drawn0 w w':=by
 have H:(if 0<(a0.size:Int) then (if (bt a0 0)=34 then (gjson_squash.j0 k a0 0 0) else (gjson_squash.j0 k a0 1 1)) else (none))=some r:=h
 clear h
 by_cases c2:0<(a0.size:Int)
 rotate_left
 ·
  rw [if_neg c2] at H
  exact absurd H Z6
 rw [if_pos c2] at H
 have c2b0:=dt c2
 have c2b1:decide (0<a0.size)=true:=dt Z14
 clear c2
 have HC4:=am H
 clear H
 have p3:0≤(0:Int):=Z14
 have q3:0<a0.size:=(by have:(0:Int)<(a0.size:Int):=od Z8;omega)
 have hx3:∀ h:0<a0.size,((a0[0]'h).toNat:Int)=bt a0 0:=bt_at a0 0
 clear p3
 have qi3:(0<(a0.size:Int))=True:=eq_true (od Z8)
 replace q3:=eq_true q3
 go_enter Tryz.func69,Tryz.ntmps69
 go_upto_if 10 with (fail)
 go_cut [3,4] (fun v3 v4 wc=>∃ (kq:Nat) (x3_3:Int) (x4_3:Int),v3 = .int .i64 x3_3∧v4 = .int .i64 x4_3∧Aside0 (gjson_squash.j0 kq a0 x3_3 x4_3=some r)∧Aside0 (kq≤k)∧Drawn0 w wc)
 case first=>
  have H:=HC4.out
  clear HC4
  by_cases c5:(bt a0 0)=34
  rotate_left
  ·
   rw [if_neg c5] at H
   have c5b0:=bfe c5
   have c5b1:=bne_iff_ne.mpr c5
   (first | rw [c5b0] | (simp only [i64_w,i32_w];rw [c5b0]) | skip)
   have H':=am H
   clear H
   go_wp2
   go_meet
   case rel=>exact ⟨_,(1),(1),Z0,Z0,H',⟨Z15⟩,Z5⟩
  rw [if_pos c5] at H
  have c5b0:=beq_iff_eq.mpr c5
  have c5b1:=bnf c5
  clear c5
  (first | rw [c5b0] | (simp only [i64_w,i32_w];rw [c5b0]) | skip)
  have H':=am H
  clear H
  go_wp2
  go_meet
  case rel=>exact ⟨_,(0),(0),Z0,Z0,H',⟨Z15⟩,Z5⟩
 clear HC4;try clear c2;try clear c2b0;try clear c2b1;try clear p2;try clear p3;try clear q3;try clear hx3;try clear qi3;try clear c5;try clear c5b0;try clear c5b1;try clear p3;try clear q3
 obtain ⟨kq,x3_3,x4_3,rfl,rfl,HA,HJ3,⟨mc3,rfl⟩⟩:=hcut
 cases kq with
 | zero=>exact absurd HA.out (by simp [gjson_squash.j0])
 | succ kj3=>
 have H:=HA.out
 clear HA
 simp only [gjson_squash.j0] at H
 have H':=am H
 clear H
 go_wp2
 (try simp only [Act.put,List.setIfInBounds_toArray,List.set_cons_succ,List.set_cons_zero])
 go_loopg [3,4] kj3 (fun kq v3 v4 w'=>∃ (x3_2:Int) (x4_2:Int),v3 = .int .i64 x3_2∧v4 = .int .i64 x4_2∧Aside0 (gjson_squash.l0 kq a0 x3_2 x4_2=some r)∧Aside0 (kq≤kj3)∧Drawn0 w w')
 case atStart=>exact ⟨(x3_3),(x4_3),Z0,Z0,H',⟨Nat.le_refl _⟩,Z5⟩
 clear H'
 try clear c2;try clear c2b0;try clear c2b1;try clear p2;try clear c3;try clear p3;try clear q3;try clear hx3;try clear qi3;try clear c5;try clear c5b0;try clear c5b1;try clear p2;try clear p3;try clear q3
 obtain ⟨x3_2,x4_2,rfl,rfl,HA,HK2,⟨m2,rfl⟩⟩:=hrel
 cases gk with
 | zero=>exact absurd HA.out (by simp [gjson_squash.l0])
 | succ k2=>
 have H:=HA.out
 clear HA
 simp only [gjson_squash.l0] at H
 by_cases c6:x3_2<(a0.size:Int)
 rotate_left
 ·
  rw [if_neg c6] at H
  have c6b0:=df c6
  clear c6
  obtain rfl:=Option.some.inj H
  go_wp2
  go_ret
  exact ⟨Z0,Z5⟩
 rw [if_pos c6] at H
 have c6b0:=dt c6
 clear c6
 have HC7:=am H
 clear H
 go_upto_region 6 with (fail)
 go_cut [26] (fun v26 wc=>∃ (kq:Nat) (x26_6:Bool),v26 = .bool x26_6∧Aside0 (gjson_squash.j2 kq a0 x3_2 x4_2 x26_6=some r)∧Aside0 (kq≤k2)∧Drawn0 w wc)
 case first=>
  have H:=HC7.out
  clear HC7
  by_cases c8:0≤x3_2
  rotate_left
  ·
   rw [if_neg c8] at H
   exact absurd H Z6
  rw [if_pos c8] at H
  have c8b0:=dt c8
  clear c8
  (first | rw [c8b0] | (simp only [i64_w,i32_w];rw [c8b0]) | skip)
  by_cases c10:(bt a0 x3_2)≥34
  rotate_left
  ·
   rw [if_neg c10] at H
   have c10b0:=df c10
   clear c10
   have H':=am H
   clear H
   have p9:0≤(x3_2:Int):=od Z8
   have q9:x3_2<(a0.size:Int):=od Z8
   have hx9:=bt_at a0 x3_2
   replace p9:=eq_true p9
   replace q9:=eq_true q9
   go_wp2
   go_meet
   case rel=>exact ⟨_,(false),Z0,H',⟨Z70⟩,Z5⟩
  rw [if_pos c10] at H
  have c10b0:=dt c10
  clear c10
  have H':=am H
  clear H
  have p9:0≤(x3_2:Int):=od Z8
  have q9:x3_2<(a0.size:Int):=od Z8
  have hx9:=bt_at a0 x3_2
  replace p9:=eq_true p9
  replace q9:=eq_true q9
  have p11:0≤(x3_2:Int):=od Z8
  have q11:x3_2<(a0.size:Int):=od Z8
  have hx11:=bt_at a0 x3_2
  replace p11:=eq_true p11
  replace q11:=eq_true q11
  go_wp2
  go_meet
  case rel=>exact ⟨_,(decide ((bt a0 x3_2)≤125)),Z0,H',⟨Z70⟩,Z5⟩
 clear HC7;try clear c1;try clear p1;try clear q1;try clear hx1;try clear c2;try clear c2b0;try clear c2b1;try clear p2;try clear c3;try clear p3;try clear q3;try clear hx3;try clear qi3;try clear c5;try clear c5b0;try clear c5b1;try clear c6;try clear c6b0;try clear c8;try clear c8b0;try clear p9;try clear q9;try clear hx9;try clear c10;try clear c10b0;try clear p11;try clear q11;try clear hx11;try clear p11;try clear p2;try clear p3;try clear p9;try clear q11;try clear q3;try clear q9
 obtain ⟨kq,x26_6,rfl,HA,HJ6,⟨mc6,rfl⟩⟩:=hcut
 cases kq with
 | zero=>exact absurd HA.out (by simp [gjson_squash.j2])
 | succ kj6=>
 have H:=HA.out
 clear HA
 simp only [gjson_squash.j2] at H
 by_cases c12:x26_6=true
 rotate_left
 ·
  replace c12:=bef c12
  subst c12
  rw [if_neg (show ¬ (false=true) from Z2)] at H
  have H':=am H
  clear H
  go_wp2
  go_roundg kj6
  case measure=>have:=HJ3.out;have:=HK2.out;have:=HJ6.out;omega
  case rel=>exact ⟨(wrap64 (x3_2+1)),(x4_2),Z0,Z0,H',⟨by have:=HJ3.out;have:=HK2.out;have:=HJ6.out;omega⟩,Z5⟩
 subst c12
 rw [if_pos rfl] at H
 by_cases c13:0≤x3_2
 rotate_left
 ·
  rw [if_neg c13] at H
  exact absurd H Z6
 rw [if_pos c13] at H
 have c13b0:=dt c13
 clear c13
 by_cases c14:x3_2<(a0.size:Int)
 rotate_left
 ·
  rw [if_neg c14] at H
  exact absurd H Z6
 rw [if_pos c14] at H
 have c14b0:=dt c14
 clear c14
 by_cases c16:(bt a0 x3_2)=34
 rotate_left
 ·
  rw [if_neg c16] at H
  have c16b0:=bfe c16
  have c16b1:=bne_iff_ne.mpr c16
  have HC41:=am H
  clear H
  have p15:0≤(x3_2:Int):=od Z8
  have q15:x3_2<(a0.size:Int):=od Z8
  have hx15:=bt_at a0 x3_2
  replace p15:=eq_true p15
  replace q15:=eq_true q15
  go_upto_if 82 with (fail)
  go_cut [82] (fun v82 wc=>∃ (kq:Nat) (x82_40:Bool),v82 = .bool x82_40∧Aside0 (gjson_squash.j6 kq a0 x3_2 x4_2 (bt a0 x3_2) x82_40=some r)∧Aside0 (kq≤kj6)∧Drawn0 w wc)
  case first=>
   have H:=HC41.out
   clear HC41
   by_cases c42:(bt a0 x3_2)=123
   ·
    rw [if_pos c42] at H
    have c42b0:=beq_iff_eq.mpr c42
    have c42b1:=bnf c42
    clear c42
    (first | rw [c42b0] | (simp only [i64_w,i32_w];rw [c42b0]) | skip)
    have H':=am H
    clear H
    go_wp2
    go_meet
    case rel=>exact ⟨_,(((bt a0 x3_2) == 123)),Z0,H',⟨Z54⟩,Z5⟩
   rw [if_neg c42] at H
   have c42b0:=bfe c42
   have c42b1:=bne_iff_ne.mpr c42
   (first | rw [c42b0] | (simp only [i64_w,i32_w];rw [c42b0]) | skip)
   by_cases c43:(bt a0 x3_2)=91
   rotate_left
   ·
    rw [if_neg c43] at H
    have c43b0:=bfe c43
    have c43b1:=bne_iff_ne.mpr c43
    have H':=am H
    clear H
    go_wp2
    go_meet
    case rel=>exact ⟨_,(((bt a0 x3_2) == 40)),Z0,H',⟨Z54⟩,Z5⟩
   rw [if_pos c43] at H
   have c43b0:=beq_iff_eq.mpr c43
   have c43b1:=bnf c43
   clear c43
   have H':=am H
   clear H
   go_wp2
   go_meet
   case rel=>exact ⟨_,(((bt a0 x3_2) == 91)),Z0,H',⟨Z54⟩,Z5⟩
  clear HC41;try clear c1;try clear p1;try clear q1;try clear hx1;try clear c2;try clear c2b0;try clear c2b1;try clear p2;try clear q2;try clear hx2;try clear c3;try clear p3;try clear q3;try clear hx3;try clear qi3;try clear c4;try clear c5;try clear c5b0;try clear c5b1;try clear c6;try clear c6b0;try clear p6;try clear c8;try clear c8b0;try clear p9;try clear q9;try clear hx9;try clear c10;try clear c10b0;try clear p11;try clear q11;try clear hx11;try clear c12;try clear c13;try clear c13b0;try clear c14;try clear c14b0;try clear p15;try clear q15;try clear hx15;try clear c16;try clear c16b0;try clear c16b1;try clear c18;try clear c18b0;try clear c19;try clear c19b0;try clear p20;try clear q20;try clear hx20;try clear c21;try clear c21b0;try clear p22;try clear q22;try clear hx22;try clear c23;try clear c23b0;try clear c23b1;try clear c25;try clear c25b0;try clear c26;try clear c26b0;try clear p27;try clear q27;try clear hx27;try clear c28;try clear c28b0;try clear c28b1;try clear c29;try clear c29b0;try clear c30;try clear c30b0;try clear c31;try clear c31b0;try clear p32;try clear q32;try clear hx32;try clear c33;try clear c33b0;try clear c33b1;try clear c34;try clear c34b0;try clear c34b1;try clear c35;try clear c35b0;try clear c35b1;try clear c36;try clear c36b0;try clear c36b1;try clear c37;try clear c37b0;try clear c39;try clear c39b0;try clear c39b1;try clear c40;try clear c40b0;try clear c40b1;try clear c42;try clear c42b0;try clear c42b1;try clear c43;try clear c43b0;try clear c43b1;try clear p1;try clear p11;try clear p15;try clear p2;try clear p20;try clear p22;try clear p27;try clear p3;try clear p32;try clear p6;try clear p9;try clear q1;try clear q11;try clear q15;try clear q2;try clear q20;try clear q22;try clear q27;try clear q3;try clear q32;try clear q9
  obtain ⟨kq,x82_40,rfl,HA,HJ40,⟨mc40,rfl⟩⟩:=hcut
  cases kq with
  | zero=>exact absurd HA.out (by simp [gjson_squash.j6])
  | succ kj40=>
  have H:=HA.out
  clear HA
  simp only [gjson_squash.j6] at H
  by_cases c44:x82_40=true
  ·
   subst c44
   rw [if_pos rfl] at H
   have H':=am H
   clear H
   go_wp2
   go_roundg kj40
   case measure=>have:=HJ3.out;have:=HK2.out;have:=HJ6.out;have:=HJ40.out;omega
   case rel=>exact ⟨(wrap64 (x3_2+1)),(wrap64 (x4_2+1)),Z0,Z0,H',⟨by have:=HJ3.out;have:=HK2.out;have:=HJ6.out;have:=HJ40.out;omega⟩,Z5⟩
  replace c44:=bef c44
  subst c44
  rw [if_neg (show ¬ (false=true) from Z2)] at H
  have HC45:=am H
  clear H
  go_upto_if 88 with (fail)
  go_cut [88] (fun v88 wc=>∃ (kq:Nat) (x88_44:Bool),v88 = .bool x88_44∧Aside0 (gjson_squash.j7 kq a0 x3_2 x4_2 x88_44=some r)∧Aside0 (kq≤kj40)∧Drawn0 w wc)
  case first=>
   have H:=HC45.out
   clear HC45
   by_cases c46:(bt a0 x3_2)=125
   ·
    rw [if_pos c46] at H
    have c46b0:=beq_iff_eq.mpr c46
    have c46b1:=bnf c46
    clear c46
    (first | rw [c46b0] | (simp only [i64_w,i32_w];rw [c46b0]) | skip)
    have H':=am H
    clear H
    go_wp2
    go_meet
    case rel=>exact ⟨_,(((bt a0 x3_2) == 125)),Z0,H',⟨Z55⟩,Z5⟩
   rw [if_neg c46] at H
   have c46b0:=bfe c46
   have c46b1:=bne_iff_ne.mpr c46
   (first | rw [c46b0] | (simp only [i64_w,i32_w];rw [c46b0]) | skip)
   by_cases c47:(bt a0 x3_2)=93
   rotate_left
   ·
    rw [if_neg c47] at H
    have c47b0:=bfe c47
    have c47b1:=bne_iff_ne.mpr c47
    have H':=am H
    clear H
    go_wp2
    go_meet
    case rel=>exact ⟨_,(((bt a0 x3_2) == 41)),Z0,H',⟨Z55⟩,Z5⟩
   rw [if_pos c47] at H
   have c47b0:=beq_iff_eq.mpr c47
   have c47b1:=bnf c47
   clear c47
   have H':=am H
   clear H
   go_wp2
   go_meet
   case rel=>exact ⟨_,(((bt a0 x3_2) == 93)),Z0,H',⟨Z55⟩,Z5⟩
  clear HC45;try clear c1;try clear p1;try clear q1;try clear hx1;try clear c2;try clear c2b0;try clear c2b1;try clear p2;try clear q2;try clear hx2;try clear c3;try clear p3;try clear q3;try clear hx3;try clear qi3;try clear c4;try clear c5;try clear c5b0;try clear c5b1;try clear c6;try clear c6b0;try clear p6;try clear c8;try clear c8b0;try clear p9;try clear q9;try clear hx9;try clear c10;try clear c10b0;try clear p11;try clear q11;try clear hx11;try clear c12;try clear c13;try clear c13b0;try clear c14;try clear c14b0;try clear p15;try clear q15;try clear hx15;try clear c16;try clear c16b0;try clear c16b1;try clear c18;try clear c18b0;try clear c19;try clear c19b0;try clear p20;try clear q20;try clear hx20;try clear c21;try clear c21b0;try clear p22;try clear q22;try clear hx22;try clear c23;try clear c23b0;try clear c23b1;try clear c25;try clear c25b0;try clear c26;try clear c26b0;try clear p27;try clear q27;try clear hx27;try clear c28;try clear c28b0;try clear c28b1;try clear c29;try clear c29b0;try clear c30;try clear c30b0;try clear c31;try clear c31b0;try clear p32;try clear q32;try clear hx32;try clear c33;try clear c33b0;try clear c33b1;try clear c34;try clear c34b0;try clear c34b1;try clear c35;try clear c35b0;try clear c35b1;try clear c36;try clear c36b0;try clear c36b1;try clear c37;try clear c37b0;try clear c39;try clear c39b0;try clear c39b1;try clear c40;try clear c40b0;try clear c40b1;try clear c42;try clear c42b0;try clear c42b1;try clear c43;try clear c43b0;try clear c43b1;try clear c44;try clear c46;try clear c46b0;try clear c46b1;try clear c47;try clear c47b0;try clear c47b1;try clear p1;try clear p11;try clear p15;try clear p2;try clear p20;try clear p22;try clear p27;try clear p3;try clear p32;try clear p6;try clear p9;try clear q1;try clear q11;try clear q15;try clear q2;try clear q20;try clear q22;try clear q27;try clear q3;try clear q32;try clear q9
  obtain ⟨kq,x88_44,rfl,HA,HJ44,⟨mc44,rfl⟩⟩:=hcut
  cases kq with
  | zero=>exact absurd HA.out (by simp [gjson_squash.j7])
  | succ kj44=>
  have H:=HA.out
  clear HA
  simp only [gjson_squash.j7] at H
  by_cases c48:x88_44=true
  rotate_left
  ·
   replace c48:=bef c48
   subst c48
   rw [if_neg (show ¬ (false=true) from Z2)] at H
   have H':=am H
   clear H
   go_wp2
   go_roundg kj44
   case measure=>have:=HJ3.out;have:=HK2.out;have:=HJ6.out;have:=HJ40.out;have:=HJ44.out;omega
   case rel=>exact ⟨(wrap64 (x3_2+1)),(x4_2),Z0,Z0,H',⟨Z74⟩,Z5⟩
  subst c48
  rw [if_pos rfl] at H
  by_cases c49:(wrap64 (x4_2 - 1))=0
  rotate_left
  ·
   rw [if_neg c49] at H
   have c49b0:=bfe c49
   have c49b1:=bne_iff_ne.mpr c49
   have H':=am H
   clear H
   go_wp2
   go_roundg kj44
   case measure=>have:=HJ3.out;have:=HK2.out;have:=HJ6.out;have:=HJ40.out;have:=HJ44.out;omega
   case rel=>exact ⟨(wrap64 (x3_2+1)),(wrap64 (x4_2 - 1)),Z0,Z0,H',⟨Z74⟩,Z5⟩
  rw [if_pos c49] at H
  have c49b0:=beq_iff_eq.mpr c49
  have c49b1:=bnf c49
  clear c49
  obtain ⟨ji50,hji50⟩:∃ j_:Int,(wrap64 (x3_2+1))=j_:=⟨_,rfl⟩
  replace H:(if 0≤(ji50) then (if (ji50)≤(a0.size:Int) then (some (a0.extract 0 ((ji50):Int).toNat)) else (none)) else (none))=some r:=by first | (rw [hji50] at H;exact H) | (simp only [hji50] at H ⊢;exact H)
  have hji50w:(IntKind.i64.wrap (x3_2+1))=ji50:=(i64_w _).trans hji50
  by_cases c51:0≤(ji50)
  rotate_left
  ·
   rw [if_neg c51] at H
   exact absurd H Z6
  rw [if_pos c51] at H
  have c51b0:=eq_true c51
  have c51b1:=dt c51
  clear c51
  by_cases c52:(ji50)≤(a0.size:Int)
  rotate_left
  ·
   rw [if_neg c52] at H
   exact absurd H Z6
  rw [if_pos c52] at H
  have c52b0:=eq_true c52
  have c52b1:=dt c52
  clear c52
  obtain rfl:=Option.some.inj H
  go_wp2
  go_ret
  exact ⟨by first | rfl | (simp;done) | (simp only [← hji50] <;> (first | rfl | simp)) | (simp [*];done),Z5⟩
 rw [if_pos c16] at H
 have c16b0:=beq_iff_eq.mpr c16
 have c16b1:=bnf c16
 clear c16
 have HC17:=am H
 clear H
 have p15:0≤(x3_2:Int):=od Z8
 have q15:x3_2<(a0.size:Int):=od Z8
 have hx15:=bt_at a0 x3_2
 replace p15:=eq_true p15
 replace q15:=eq_true q15
 go_upto_block 3 with (fail)
 go_cut [3] (fun v3 wc=>∃ (kq:Nat) (x3_16:Int),v3 = .int .i64 x3_16∧Aside0 (gjson_squash.j5 kq a0 x3_16 x4_2=some r)∧Aside0 (kq≤kj6)∧Drawn0 w wc)
 case first=>
  have H:=HC17.out
  clear HC17
  have H':=am H
  clear H
  go_wp2
  (try simp only [Act.put,List.setIfInBounds_toArray,List.set_cons_succ,List.set_cons_zero])
  go_loopg [3] kj6 (fun kq v3 w'=>∃ (x3_4:Int),v3 = .int .i64 x3_4∧Aside0 (gjson_squash.l1 kq a0 x3_4 x4_2 (wrap64 (x3_2+1))=some r)∧Aside0 (kq≤kj6)∧Drawn0 w w')
  case atStart=>exact ⟨(wrap64 (x3_2+1)),Z0,H',⟨Nat.le_refl _⟩,Z5⟩
  clear H'
  try clear c1;try clear p1;try clear q1;try clear hx1;try clear c2;try clear c2b0;try clear c2b1;try clear p2;try clear c3;try clear p3;try clear q3;try clear hx3;try clear qi3;try clear c5;try clear c5b0;try clear c5b1;try clear c6;try clear c6b0;try clear p6;try clear c8;try clear c8b0;try clear p9;try clear q9;try clear hx9;try clear c10;try clear c10b0;try clear p11;try clear q11;try clear hx11;try clear c12;try clear c13;try clear c13b0;try clear c14;try clear c14b0;try clear p15;try clear q15;try clear hx15;try clear c16;try clear c16b0;try clear c16b1;try clear p1;try clear p11;try clear p15;try clear p2;try clear p3;try clear p9;try clear q1;try clear q11;try clear q15;try clear q3;try clear q9
  obtain ⟨x3_4,rfl,HA,HK4,⟨m4,rfl⟩⟩:=hrel
  cases gk with
  | zero=>exact absurd HA.out (by simp [gjson_squash.l1])
  | succ k4=>
  have H:=HA.out
  clear HA
  simp only [gjson_squash.l1] at H
  by_cases c18:x3_4<(a0.size:Int)
  rotate_left
  ·
   rw [if_neg c18] at H
   have c18b0:=df c18
   clear c18
   (first | rw [c18b0] | (simp only [i64_w,i32_w];rw [c18b0]) | skip)
   have H':=am H
   clear H
   go_wp2
   go_meet
   case rel=>exact ⟨_,(x3_4),Z0,H',⟨Z73⟩,Z5⟩
  rw [if_pos c18] at H
  have c18b0:=dt c18
  clear c18
  (first | rw [c18b0] | (simp only [i64_w,i32_w];rw [c18b0]) | skip)
  by_cases c19:0≤x3_4
  rotate_left
  ·
   rw [if_neg c19] at H
   exact absurd H Z6
  rw [if_pos c19] at H
  have c19b0:=dt c19
  clear c19
  by_cases c21:(bt a0 x3_4) > 92
  ·
   rw [if_pos c21] at H
   have c21b0:=dt c21
   clear c21
   have H':=am H
   clear H
   have p20:0≤(x3_4:Int):=od Z8
   have q20:x3_4<(a0.size:Int):=od Z8
   have hx20:=bt_at a0 x3_4
   replace p20:=eq_true p20
   replace q20:=eq_true q20
   go_wp2
   go_roundg k4
   case measure=>have:=HJ3.out;have:=HK2.out;have:=HJ6.out;have:=HK4.out;omega
   case rel=>exact ⟨(wrap64 (x3_4+1)),Z0,H',⟨Z71⟩,Z5⟩
  rw [if_neg c21] at H
  have c21b0:=df c21
  clear c21
  by_cases c23:(bt a0 x3_4)=34
  rotate_left
  ·
   rw [if_neg c23] at H
   have c23b0:=bfe c23
   have c23b1:=bne_iff_ne.mpr c23
   have H':=am H
   clear H
   have p20:0≤(x3_4:Int):=od Z8
   have q20:x3_4<(a0.size:Int):=od Z8
   have hx20:=bt_at a0 x3_4
   replace p20:=eq_true p20
   replace q20:=eq_true q20
   have p22:0≤(x3_4:Int):=od Z8
   have q22:x3_4<(a0.size:Int):=od Z8
   have hx22:=bt_at a0 x3_4
   replace p22:=eq_true p22
   replace q22:=eq_true q22
   go_wp2
   go_roundg k4
   case measure=>have:=HJ3.out;have:=HK2.out;have:=HJ6.out;have:=HK4.out;omega
   case rel=>exact ⟨(wrap64 (x3_4+1)),Z0,H',⟨Z71⟩,Z5⟩
  rw [if_pos c23] at H
  have c23b0:=beq_iff_eq.mpr c23
  have c23b1:=bnf c23
  clear c23
  obtain ⟨ji24,hji24⟩:∃ j_:Int,(wrap64 (x3_4 - 1))=j_:=⟨_,rfl⟩
  replace H:(if 0≤(ji24) then (if (ji24)<(a0.size:Int) then (if (bt a0 (ji24))=92 then (gjson_squash.l2 k4 a0 x3_4 x4_2 (wrap64 (x3_2+1)) 0 (wrap64 (x3_4 - 2))) else (gjson_squash.j5 k4 a0 x3_4 x4_2)) else (none)) else (none))=some r:=by first | (rw [hji24] at H;exact H) | (simp only [hji24] at H ⊢;exact H)
  have hji24w:(IntKind.i64.wrap (x3_4 - 1))=ji24:=(i64_w _).trans hji24
  by_cases c25:0≤(ji24)
  rotate_left
  ·
   rw [if_neg c25] at H
   exact absurd H Z6
  rw [if_pos c25] at H
  have c25b0:=dt c25
  clear c25
  by_cases c26:(ji24)<(a0.size:Int)
  rotate_left
  ·
   rw [if_neg c26] at H
   exact absurd H Z6
  rw [if_pos c26] at H
  have c26b0:=dt c26
  clear c26
  by_cases c28:(bt a0 (ji24))=92
  rotate_left
  ·
   rw [if_neg c28] at H
   have c28b0:=bfe c28
   have c28b1:=bne_iff_ne.mpr c28
   have H':=am H
   clear H
   have p20:0≤(x3_4:Int):=od Z8
   have q20:x3_4<(a0.size:Int):=od Z8
   have hx20:=bt_at a0 x3_4
   replace p20:=eq_true p20
   replace q20:=eq_true q20
   have p22:0≤(x3_4:Int):=od Z8
   have q22:x3_4<(a0.size:Int):=od Z8
   have hx22:=bt_at a0 x3_4
   replace p22:=eq_true p22
   replace q22:=eq_true q22
   have p27:0≤((ji24):Int):=od Z8
   have q27:(ji24)<(a0.size:Int):=od Z8
   have hx27:=bt_at a0 (ji24)
   replace p27:=eq_true p27
   replace q27:=eq_true q27
   go_wp2
   go_meet
   case rel=>exact ⟨_,(x3_4),Z0,H',⟨Z73⟩,Z5⟩
  rw [if_pos c28] at H
  have c28b0:=beq_iff_eq.mpr c28
  have c28b1:=bnf c28
  clear c28
  have H':=am H
  clear H
  have p20:0≤(x3_4:Int):=od Z8
  have q20:x3_4<(a0.size:Int):=od Z8
  have hx20:=bt_at a0 x3_4
  replace p20:=eq_true p20
  replace q20:=eq_true q20
  have p22:0≤(x3_4:Int):=od Z8
  have q22:x3_4<(a0.size:Int):=od Z8
  have hx22:=bt_at a0 x3_4
  replace p22:=eq_true p22
  replace q22:=eq_true q22
  have p27:0≤((ji24):Int):=od Z8
  have q27:(ji24)<(a0.size:Int):=od Z8
  have hx27:=bt_at a0 (ji24)
  replace p27:=eq_true p27
  replace q27:=eq_true q27
  go_wp2
  (try simp only [Act.put,List.setIfInBounds_toArray,List.set_cons_succ,List.set_cons_zero])
  go_loopg [6,7] k4 (fun kq v6 v7 w'=>∃ (x6_5:Int) (x7_5:Int),v6 = .int .i64 x6_5∧v7 = .int .i64 x7_5∧Aside0 (gjson_squash.l2 kq a0 x3_4 x4_2 (wrap64 (x3_2+1)) x6_5 x7_5=some r)∧Aside0 (kq≤k4)∧Drawn0 w w')
  case atStart=>exact ⟨(0),(wrap64 (x3_4 - 2)),Z0,Z0,H',⟨Nat.le_refl _⟩,Z5⟩
  clear H'
  try clear c1;try clear p1;try clear q1;try clear hx1;try clear c2;try clear c2b0;try clear c2b1;try clear p2;try clear q2;try clear hx2;try clear c3;try clear p3;try clear q3;try clear hx3;try clear qi3;try clear c5;try clear c5b0;try clear c5b1;try clear c6;try clear c6b0;try clear p6;try clear c8;try clear c8b0;try clear p9;try clear q9;try clear hx9;try clear c10;try clear c10b0;try clear p11;try clear q11;try clear hx11;try clear c12;try clear c13;try clear c13b0;try clear c14;try clear c14b0;try clear p15;try clear q15;try clear hx15;try clear c16;try clear c16b0;try clear c16b1;try clear c18;try clear c18b0;try clear c19;try clear c19b0;try clear p20;try clear q20;try clear hx20;try clear c21;try clear c21b0;try clear p22;try clear q22;try clear hx22;try clear c23;try clear c23b0;try clear c23b1;try clear c25;try clear c25b0;try clear c26;try clear c26b0;try clear p27;try clear q27;try clear hx27;try clear c28;try clear c28b0;try clear c28b1;try clear p1;try clear p11;try clear p15;try clear p2;try clear p20;try clear p22;try clear p27;try clear p3;try clear p6;try clear p9;try clear q1;try clear q11;try clear q15;try clear q20;try clear q22;try clear q27;try clear q3;try clear q9
  obtain ⟨x6_5,x7_5,rfl,rfl,HA,HK5,⟨m5,rfl⟩⟩:=hrel
  cases gk with
  | zero=>exact absurd HA.out (by simp [gjson_squash.l2])
  | succ k5=>
  have H:=HA.out
  clear HA
  simp only [gjson_squash.l2] at H
  by_cases c29:x7_5 > (wrap64 ((wrap64 (x3_2+1)) - 1))
  rotate_left
  ·
   rw [if_neg c29] at H
   have c29b0:=df c29
   clear c29
   by_cases c35:(Int.tmod x6_5 2)=0
   rotate_left
   ·
    rw [if_neg c35] at H
    have c35b0:=bfe c35
    have c35b1:=bne_iff_ne.mpr c35
    have H':=am H
    clear H
    go_wp2
    go_meet
    case rel=>exact ⟨_,(x3_4),Z0,H',⟨Z72⟩,Z5⟩
   rw [if_pos c35] at H
   have c35b0:=beq_iff_eq.mpr c35
   have c35b1:=bnf c35
   clear c35
   have H':=am H
   clear H
   go_wp2
   go_roundg k5
   case measure=>have:=HJ3.out;have:=HK2.out;have:=HJ6.out;have:=HK4.out;have:=HK5.out;omega
   case rel=>exact ⟨(wrap64 (x3_4+1)),Z0,H',⟨Z53⟩,Z5⟩
  rw [if_pos c29] at H
  have c29b0:=dt c29
  clear c29
  by_cases c30:0≤x7_5
  rotate_left
  ·
   rw [if_neg c30] at H
   exact absurd H Z6
  rw [if_pos c30] at H
  have c30b0:=dt c30
  clear c30
  by_cases c31:x7_5<(a0.size:Int)
  rotate_left
  ·
   rw [if_neg c31] at H
   exact absurd H Z6
  rw [if_pos c31] at H
  have c31b0:=dt c31
  clear c31
  by_cases c33:(bt a0 x7_5)=92
  ·
   rw [if_pos c33] at H
   have c33b0:=beq_iff_eq.mpr c33
   have c33b1:=bnf c33
   clear c33
   have H':=am H
   clear H
   have p32:0≤(x7_5:Int):=od Z8
   have q32:x7_5<(a0.size:Int):=od Z8
   have hx32:=bt_at a0 x7_5
   replace p32:=eq_true p32
   replace q32:=eq_true q32
   go_wp2
   go_roundg k5
   case measure=>have:=HJ3.out;have:=HK2.out;have:=HJ6.out;have:=HK4.out;have:=HK5.out;omega
   case rel=>exact ⟨(wrap64 (x6_5+1)),(wrap64 (x7_5 - 1)),Z0,Z0,H',⟨Z53⟩,Z5⟩
  rw [if_neg c33] at H
  have c33b0:=bfe c33
  have c33b1:=bne_iff_ne.mpr c33
  by_cases c34:(Int.tmod x6_5 2)=0
  rotate_left
  ·
   rw [if_neg c34] at H
   have c34b0:=bfe c34
   have c34b1:=bne_iff_ne.mpr c34
   have H':=am H
   clear H
   have p32:0≤(x7_5:Int):=od Z8
   have q32:x7_5<(a0.size:Int):=od Z8
   have hx32:=bt_at a0 x7_5
   replace p32:=eq_true p32
   replace q32:=eq_true q32
   go_wp2
   go_meet
   case rel=>exact ⟨_,(x3_4),Z0,H',⟨Z72⟩,Z5⟩
  rw [if_pos c34] at H
  have c34b0:=beq_iff_eq.mpr c34
  have c34b1:=bnf c34
  clear c34
  have H':=am H
  clear H
  have p32:0≤(x7_5:Int):=od Z8
  have q32:x7_5<(a0.size:Int):=od Z8
  have hx32:=bt_at a0 x7_5
  replace p32:=eq_true p32
  replace q32:=eq_true q32
  go_wp2
  go_roundg k5
  case measure=>have:=HJ3.out;have:=HK2.out;have:=HJ6.out;have:=HK4.out;have:=HK5.out;omega
  case rel=>exact ⟨(wrap64 (x3_4+1)),Z0,H',⟨Z53⟩,Z5⟩
 clear HC17;try clear c1;try clear p1;try clear q1;try clear hx1;try clear c2;try clear c2b0;try clear c2b1;try clear p2;try clear q2;try clear hx2;try clear c3;try clear p3;try clear q3;try clear hx3;try clear qi3;try clear c5;try clear c5b0;try clear c5b1;try clear c6;try clear c6b0;try clear p6;try clear c8;try clear c8b0;try clear p9;try clear q9;try clear hx9;try clear c10;try clear c10b0;try clear p11;try clear q11;try clear hx11;try clear c12;try clear c13;try clear c13b0;try clear c14;try clear c14b0;try clear p15;try clear q15;try clear hx15;try clear c16;try clear c16b0;try clear c16b1;try clear c18;try clear c18b0;try clear c19;try clear c19b0;try clear p20;try clear q20;try clear hx20;try clear c21;try clear c21b0;try clear p22;try clear q22;try clear hx22;try clear c23;try clear c23b0;try clear c23b1;try clear c25;try clear c25b0;try clear c26;try clear c26b0;try clear p27;try clear q27;try clear hx27;try clear c28;try clear c28b0;try clear c28b1;try clear c29;try clear c29b0;try clear c30;try clear c30b0;try clear c31;try clear c31b0;try clear p32;try clear q32;try clear hx32;try clear c33;try clear c33b0;try clear c33b1;try clear c34;try clear c34b0;try clear c34b1;try clear c35;try clear c35b0;try clear c35b1;try clear p1;try clear p11;try clear p15;try clear p2;try clear p20;try clear p22;try clear p27;try clear p3;try clear p32;try clear p6;try clear p9;try clear q1;try clear q11;try clear q15;try clear q2;try clear q20;try clear q22;try clear q27;try clear q3;try clear q32;try clear q9
 obtain ⟨kq,x3_16,rfl,HA,HJ16,⟨mc16,rfl⟩⟩:=hcut
 cases kq with
 | zero=>exact absurd HA.out (by simp [gjson_squash.j5])
 | succ kj16=>
 have H:=HA.out
 clear HA
 simp only [gjson_squash.j5] at H
 by_cases c36:x4_2=0
 rotate_left
 ·
  rw [if_neg c36] at H
  have c36b0:=bfe c36
  have c36b1:=bne_iff_ne.mpr c36
  have H':=am H
  clear H
  go_wp2
  go_roundg kj16
  case measure=>have:=HJ3.out;have:=HK2.out;have:=HJ6.out;have:=HJ16.out;omega
  case rel=>exact ⟨(wrap64 (x3_16+1)),(x4_2),Z0,Z0,H',⟨by have:=HJ3.out;have:=HK2.out;have:=HJ6.out;have:=HJ16.out;omega⟩,Z5⟩
 rw [if_pos c36] at H
 have c36b0:=beq_iff_eq.mpr c36
 have c36b1:=bnf c36
 clear c36
 by_cases c37:x3_16≥(a0.size:Int)
 ·
  rw [if_pos c37] at H
  have c37b0:=dt c37
  clear c37
  obtain rfl:=Option.some.inj H
  go_wp2
  go_ret
  exact ⟨Z0,Z5⟩
 rw [if_neg c37] at H
 have c37b0:=df c37
 clear c37
 obtain ⟨ji38,hji38⟩:∃ j_:Int,(wrap64 (x3_16+1))=j_:=⟨_,rfl⟩
 replace H:(if 0≤(ji38) then (if (ji38)≤(a0.size:Int) then (some (a0.extract 0 ((ji38):Int).toNat)) else (none)) else (none))=some r:=by first | (rw [hji38] at H;exact H) | (simp only [hji38] at H ⊢;exact H)
 have hji38w:(IntKind.i64.wrap (x3_16+1))=ji38:=(i64_w _).trans hji38
 by_cases c39:0≤(ji38)
 rotate_left
 ·
  rw [if_neg c39] at H
  exact absurd H Z6
 rw [if_pos c39] at H
 have c39b0:=eq_true c39
 have c39b1:=dt c39
 clear c39
 by_cases c40:(ji38)≤(a0.size:Int)
 rotate_left
 ·
  rw [if_neg c40] at H
  exact absurd H Z6
 rw [if_pos c40] at H
 have c40b0:=eq_true c40
 have c40b1:=dt c40
 clear c40
 obtain rfl:=Option.some.inj H
 go_wp2
 go_ret
 exact ⟨by first | rfl | (simp;done) | (simp only [← hji38] <;> (first | rfl | simp)) | (simp [*];done),Z5⟩
end Go.Proofs.YtieflhncpjjciaaGreatDoor.PFnGjSquashItems
