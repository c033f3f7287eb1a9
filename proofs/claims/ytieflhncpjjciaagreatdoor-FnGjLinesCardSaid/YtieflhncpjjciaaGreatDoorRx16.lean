import Derived.Test.YtieflhncpjjciaaGreatDoorRq
import Derived.Test.YtieflhncpjjciaaGreatDoorRx0
import Derived.Test.YtieflhncpjjciaaGreatDoorRx9
set_option maxHeartbeats 8000000
set_option maxRecDepth 100000
namespace Go.Proofs.YtieflhncpjjciaaGreatDoor.PFnGjSquashItems
open Go.RowKit Go.Proofs.YtieflhncpjjciaaGreatDoorW.PrintWords Go.Proofs.YtieflhncpjjciaaGreatDoorW.PrintLast Go.Proofs.YtieflhncpjjciaaGreatDoorW.PrintMore
attribute [local go_sem] max2_int min2_int max_two min_two max_three min_three max_four min_four
set_option linter.unusedVariables false
set_option linter.unusedSimpArgs false
def laws_zzFits1.l0:Nat→List ByteArray→Int→Int→Option (Bool)
 | 0,_,_,_=>none
 | k+1,x8,x9,x10=>if x10<x9 then (if 0≤x10 then (if x10<(x8.length:Int) then (if ((rdOf ByteArray.empty x8 x10).size:Int) > 2147483647 then (some false) else (laws_zzFits1.l0 k x8 x9 (wrap64 (x10+1)))) else (none)) else (none)) else (some true)
def laws_zzFits1.f (k:Nat) (l0:List ByteArray):Option (Bool):=if (l0.length:Int) > 2147483647 then (some false) else (laws_zzFits1.l0 k l0 (l0.length:Int) 0)
theorem laws_zzFits1.calls (k:Nat) (A0:Option Addr) (c0:Nat) (l0:List ByteArray) (r:Bool) (w:World) (hr0:Kd.C Kd.string w A0 l0.length l0) (hc0:l0.length≤c0) (h:laws_zzFits1.f k l0=some r) :
  Calls Tryz.prog 8 #[.slice A0 l0.length c0] w fun e w'=>e = .returned (.bool r)∧Drawn0 w w':=by
 have HR0:=am hr0
 have HC0:=am hc0
 clear hr0 hc0
 have H:(if (l0.length:Int) > 2147483647 then (some false) else (laws_zzFits1.l0 k l0 (l0.length:Int) 0))=some r:=h
 clear h
 by_cases c2:(l0.length:Int) > 2147483647
 ·
  rw [if_pos c2] at H
  have c2b0:=dt c2
  have c2b1:decide (2147483647<l0.length)=true:=dt Z14
  clear c2
  obtain rfl:=Option.some.inj H
  go_enter Tryz.func8,Tryz.ntmps8
  go_wp2
  go_ret
  exact ⟨Z0,Z6⟩
 rw [if_neg c2] at H
 have c2b0:=df c2
 have c2b1:decide (2147483647<l0.length)=false:=df Z14
 clear c2
 have H':=am H
 clear H
 go_enter Tryz.func8,Tryz.ntmps8
 go_wp2
 (try simp only [Act.put,List.setIfInBounds_toArray,List.set_cons_succ,List.set_cons_zero])
 go_loopg [10] k (fun kq v10 w'=>∃ (x10_1:Int),v10 = .int .i64 x10_1∧Aside0 (laws_zzFits1.l0 kq l0 (l0.length:Int) x10_1=some r)∧Aside0 (kq≤k)∧Drawn0 w w')
 case atStart=>exact ⟨(0),Z0,H',⟨Nat.le_refl _⟩,Z6⟩
 clear H'
 try clear c2;try clear c2b0;try clear c2b1;try clear p2
 obtain ⟨x10_1,rfl,HA,HK1,⟨m1,rfl⟩⟩:=hrel
 cases gk with
 | zero=>exact absurd HA.out (by simp [laws_zzFits1.l0])
 | succ k1=>
 have H:=HA.out
 clear HA
 simp only [laws_zzFits1.l0] at H
 by_cases c3:x10_1<(l0.length:Int)
 rotate_left
 ·
  rw [if_neg c3] at H
  have c3b0:=df c3
  clear c3
  obtain rfl:=Option.some.inj H
  go_wp2
  go_ret
  exact ⟨Z0,Z6⟩
 rw [if_pos c3] at H
 have c3b0:=dt c3
 clear c3
 by_cases c4:0≤x10_1
 rotate_left
 ·
  rw [if_neg c4] at H
  exact absurd H Z3
 rw [if_pos c4] at H
 have c4b0:=dt c4
 clear c4
 by_cases c5:x10_1<(l0.length:Int)
 rotate_left
 ·
  rw [if_neg c5] at H
  exact absurd H Z3
 rw [if_pos c5] at H
 have c5b0:=dt c5
 clear c5
 by_cases c6:((rdOf ByteArray.empty l0 x10_1).size:Int) > 2147483647
 ·
  rw [if_pos c6] at H
  have c6b0:=dt c6
  have c6b1:decide (2147483647<(rdOf ByteArray.empty l0 x10_1).size)=true:=dt Z14
  clear c6
  obtain rfl:=Option.some.inj H
  have p101:0≤(x10_1:Int):=od Z4
  have q101:x10_1<(l0.length:Int):=od Z4
  obtain ⟨ad101,e101,hx101_0⟩:=Kd.at_string HR0.out x10_1 p101 q101
  cases e101
  replace p101:=eq_true p101
  replace q101:=eq_true q101
  go_wp2
  go_ret
  exact ⟨Z0,Z6⟩
 rw [if_neg c6] at H
 have c6b0:=df c6
 have c6b1:decide (2147483647<(rdOf ByteArray.empty l0 x10_1).size)=false:=df Z14
 clear c6
 have H':=am H
 clear H
 have p101:0≤(x10_1:Int):=od Z4
 have q101:x10_1<(l0.length:Int):=od Z4
 obtain ⟨ad101,e101,hx101_0⟩:=Kd.at_string HR0.out x10_1 p101 q101
 cases e101
 replace p101:=eq_true p101
 replace q101:=eq_true q101
 go_wp2
 go_roundg k1
 case measure=>have:=HK1.out;omega
 case rel=>exact ⟨(wrap64 (x10_1+1)),Z0,H',⟨Z17⟩,Z6⟩
def spec_at.l0:Nat→ByteArray→Int→Int→ByteArray→List ByteArray→List (S26)→Option (Int)
 | 0,_,_,_,_,_,_=>none
 | k+1,x1,x5,x408000,x408001,x408002,x408003=>if x5≥0 then (if 0≤x5 then (if x5<(x408002.length:Int) then (if (rdOf ByteArray.empty x408002 x5).toList=x1.toList then (some x5) else (spec_at.l0 k x1 (wrap64 (x5 - 1)) x408000 x408001 x408002 x408003)) else (none)) else (none)) else (some (-1))
def spec_at.f (k:Nat) (a0_0:Int) (a0_1:ByteArray) (l0_2:List ByteArray) (l0_3:List (S26)) (a1:ByteArray):Option (Int):=spec_at.l0 k a1 (wrap64 ((l0_2.length:Int) - 1)) a0_0 a0_1 l0_2 l0_3
theorem spec_at.calls (k:Nat) (a0_0:Int) (a0_1:ByteArray) (A0_2:Option Addr) (c0_2:Nat) (l0_2:List ByteArray) (A0_3:Option Addr) (c0_3:Nat) (l0_3:List (S26)) (a1:ByteArray) (r:Int) (w:World) (hr0_2:Kd.C Kd.string w A0_2 l0_2.length l0_2) (hc0_2:l0_2.length≤c0_2) (hr0_3:Kd.C k26 w A0_3 l0_3.length l0_3) (hc0_3:l0_3.length≤c0_3) (h:spec_at.f k a0_0 a0_1 l0_2 l0_3 a1=some r) :
  Calls Tryz.prog 49 #[.agg #[.int .i64 a0_0,.string a0_1,.slice A0_2 l0_2.length c0_2,.slice A0_3 l0_3.length c0_3],.string a1] w fun e w'=>e = .returned (.int .i64 r)∧Below w.heap.size w w':=by
 have hu26:=Tryz.underlying26
 have HR0_2:=am hr0_2
 have HC0_2:=am hc0_2
 clear hr0_2 hc0_2
 have HR0_3:=am hr0_3
 have HC0_3:=am hc0_3
 clear hr0_3 hc0_3
 have HB:=am (Below.refl w.heap.size w)
 have H:(spec_at.l0 k a1 (wrap64 ((l0_2.length:Int) - 1)) a0_0 a0_1 l0_2 l0_3)=some r:=h
 clear h
 have H':=am H
 clear H
 go_enter Tryz.func49,Tryz.ntmps49
 go_wp2_with (first | ((with_reducible refine gate_dst (N:=2) rfl ?_);refine box_event ?hg (N:=2) ?hd (cs:=#[.int .i64 a0_0,.string a0_1,.slice A0_2 l0_2.length c0_2,.slice A0_3 l0_3.length c0_3]) (t:=26) ?hr ?_;(case hd=>exact Z8);(case hg=>exact Z8);(case hr=>exact Z18);intro gb407 hg w3 hbox hb;have n0_:=am (below_step Z11 hb);have n1_:=am (hbox);have n2_:=am ((Z87:w.heap.size≤gb407));have n3_:=am ((Z87:w.heap.size≤gb407));clear HB;have HB:=n0_;have BK407:=n1_;have GW407:=n2_;have GE407:=n3_;clear n0_ n1_ n2_ n3_;clear hb hbox hg;have hcz4_0:w3.cell? ⟨gb407,0,none⟩=some (.int .i64 a0_0):=(bkc BK407.out 0).trans rfl;have hcz4_1:w3.cell? ⟨gb407,1,none⟩=some (.string a0_1):=(bkc BK407.out 1).trans rfl;have hcz4_2:w3.cell? ⟨gb407,2,none⟩=some (.slice A0_2 l0_2.length c0_2):=(bkc BK407.out 2).trans rfl;have hcz4_3:w3.cell? ⟨gb407,3,none⟩=some (.slice A0_3 l0_3.length c0_3):=(bkc BK407.out 3).trans rfl;have hfz4_0:=bkf BK407.out 0;have hfz4_1:=bkf BK407.out 1;have hfz4_2:=bkf BK407.out 2;have hfz4_3:=bkf BK407.out 3))
 (try simp only [Act.put,List.setIfInBounds_toArray,List.set_cons_succ,List.set_cons_zero])
 go_loopg [5] k (fun kq v5 w'=>∃ (x5_1:Int),v5 = .int .i64 x5_1∧Aside0 (spec_at.l0 kq a1 x5_1 a0_0 a0_1 l0_2 l0_3=some r)∧Aside0 (kq≤k)∧Aside0 (w'.heap[gb407]? = some (.cells #[.int .i64 a0_0,.string a0_1,(.slice A0_2 l0_2.length c0_2),(.slice A0_3 l0_3.length c0_3)] 26 (0,0)))∧Aside0 (Below w.heap.size w w'))
 case atStart=>exact ⟨(wrap64 ((l0_2.length:Int) - 1)),Z0,H',⟨Nat.le_refl _⟩,⟨pB BK407.out⟩,⟨Z44⟩⟩
 clear H'
 try clear p2;try clear c4;try clear hcz4_0;try clear hcz4_1;try clear hcz4_2;try clear hcz4_3;try clear hfz4_0;try clear hfz4_1;try clear hfz4_2;try clear hfz4_3
 obtain ⟨x5_1,rfl,HA,HK1,BK407,HB⟩:=hrel
 cases gk with
 | zero=>exact absurd HA.out (by simp [spec_at.l0])
 | succ k1=>
 have H:=HA.out
 clear HA
 simp only [spec_at.l0] at H
 by_cases c5:x5_1≥0
 rotate_left
 ·
  rw [if_neg c5] at H
  have c5b0:=df c5
  clear c5
  obtain rfl:=Option.some.inj H
  go_wp2
  go_ret
  exact ⟨Z12,Z44⟩
 rw [if_pos c5] at H
 have c5b0:=dt c5
 clear c5
 by_cases c6:0≤x5_1
 rotate_left
 ·
  rw [if_neg c6] at H
  exact absurd H Z3
 rw [if_pos c6] at H
 have c6b0:=dt c6
 clear c6
 by_cases c7:x5_1<(l0_2.length:Int)
 rotate_left
 ·
  rw [if_neg c7] at H
  exact absurd H Z3
 rw [if_pos c7] at H
 have c7b0:=dt c7
 clear c7
 by_cases c8:(rdOf ByteArray.empty l0_2 x5_1).toList=a1.toList
 ·
  rw [if_pos c8] at H
  have c8b0:=beq_iff_eq.mpr c8
  have c8b1:=bnf c8
  clear c8
  obtain rfl:=Option.some.inj H
  have hcz9_0:wr.cell? ⟨gb407,0,none⟩=some (.int .i64 a0_0):=(bkc BK407.out 0).trans rfl
  have hcz9_1:wr.cell? ⟨gb407,1,none⟩=some (.string a0_1):=(bkc BK407.out 1).trans rfl
  have hcz9_2:wr.cell? ⟨gb407,2,none⟩=some (.slice A0_2 l0_2.length c0_2):=(bkc BK407.out 2).trans rfl
  have hcz9_3:wr.cell? ⟨gb407,3,none⟩=some (.slice A0_3 l0_3.length c0_3):=(bkc BK407.out 3).trans rfl
  have hfz9_0:=bkf BK407.out 0
  have hfz9_1:=bkf BK407.out 1
  have hfz9_2:=bkf BK407.out 2
  have hfz9_3:=bkf BK407.out 3
  have p408:0≤(x5_1:Int):=od Z4
  have q408:x5_1<(l0_2.length:Int):=od Z4
  obtain ⟨ad408,e408,hx408_0⟩:=Kd.at_string HR0_2.out x5_1 p408 q408
  cases e408
  replace hx408_0:=(HB.out.cell (blc w _ hx408_0)).trans hx408_0
  replace p408:=eq_true p408
  replace q408:=eq_true q408
  go_wp2
  go_ret
  exact ⟨Z12,Z44⟩
 rw [if_neg c8] at H
 have c8b0:=bfe c8
 have c8b1:=bne_iff_ne.mpr c8
 have H':=am H
 clear H
 have hcz10_0:wr.cell? ⟨gb407,0,none⟩=some (.int .i64 a0_0):=(bkc BK407.out 0).trans rfl
 have hcz10_1:wr.cell? ⟨gb407,1,none⟩=some (.string a0_1):=(bkc BK407.out 1).trans rfl
 have hcz10_2:wr.cell? ⟨gb407,2,none⟩=some (.slice A0_2 l0_2.length c0_2):=(bkc BK407.out 2).trans rfl
 have hcz10_3:wr.cell? ⟨gb407,3,none⟩=some (.slice A0_3 l0_3.length c0_3):=(bkc BK407.out 3).trans rfl
 have hfz10_0:=bkf BK407.out 0
 have hfz10_1:=bkf BK407.out 1
 have hfz10_2:=bkf BK407.out 2
 have hfz10_3:=bkf BK407.out 3
 have p408:0≤(x5_1:Int):=od Z4
 have q408:x5_1<(l0_2.length:Int):=od Z4
 obtain ⟨ad408,e408,hx408_0⟩:=Kd.at_string HR0_2.out x5_1 p408 q408
 cases e408
 replace hx408_0:=(HB.out.cell (blc w _ hx408_0)).trans hx408_0
 replace p408:=eq_true p408
 replace q408:=eq_true q408
 go_wp2
 go_roundg k1
 case measure=>have:=HK1.out;omega
 case rel=>exact ⟨(wrap64 (x5_1 - 1)),Z0,H',⟨Z17⟩,⟨pB BK407.out⟩,⟨Z44⟩⟩
mutual
def spec_Unique.l0:Nat→Int→Int→ByteArray→List ByteArray→List (S26)→Option (Bool)
 | 0,_,_,_,_,_=>none
 | k+1,x3,x410000,x410001,x410002,x410003=>if x3<(x410002.length:Int) then (if 0≤x3 then ((spec_at.f k x410000 x410001 x410002 x410003 (rdOf ByteArray.empty x410002 x3)).bind fun t411=>(if t411=x3 then (spec_Unique.l0 k (wrap64 (x3+1)) x410000 x410001 x410002 x410003) else (some false))) else (none)) else (spec_Unique.l1 k 0 x410000 x410001 x410002 x410003)
def spec_Unique.l1:Nat→Int→Int→ByteArray→List ByteArray→List (S26)→Option (Bool)
 | 0,_,_,_,_,_=>none
 | k+1,x4,x410000,x410001,x410002,x410003=>if x4<(x410003.length:Int) then (if 0≤x4 then ((spec_Unique.f k ((rd_T26 x410003 x4).f0) ((rd_T26 x410003 x4).f1) ((rd_T26 x410003 x4).f2) ((rd_T26 x410003 x4).f3)).bind fun t413=>(if t413=true then (spec_Unique.l1 k (wrap64 (x4+1)) x410000 x410001 x410002 x410003) else (some false))) else (none)) else (some true)
def spec_Unique.f:Nat→Int→ByteArray→List ByteArray→List (S26)→Option (Bool)
 | 0,_,_,_,_=>none
 | k+1,a0_0,a0_1,l0_2,l0_3=>spec_Unique.l0 k 0 a0_0 a0_1 l0_2 l0_3
end
def spec_Unique.T4:Bool×List (List Nat×List Nat):=(true,[([],[]),([],[]),([1],[1]),([],[]),([2,3],[2,3]),([4],[4]),([0,5],[0,5]),([],[]),([6,7],[6,7])])
def spec_Unique.B4:List Nat:=[0,0,2,0,14,30,63,0,255]
theorem spec_Unique.tab4:rtab .any (opsOf Tryz.f24 4)=spec_Unique.T4:=Z2
theorem spec_Unique.bits4:waitsOk spec_Unique.T4.2 spec_Unique.B4=true:=Z2
theorem spec_Unique.calls (k:Nat):∀ (a0_0:Int) (a0_1:ByteArray) (A0_2:Option Addr) (c0_2:Nat) (l0_2:List ByteArray) (A0_3:Option Addr) (c0_3:Nat) (l0_3:List (S26)) (r:Bool) (w:World) (hr0_2:Kd.C Kd.string w A0_2 l0_2.length l0_2) (hc0_2:l0_2.length≤c0_2) (hr0_3:Kd.C k26 w A0_3 l0_3.length l0_3) (hc0_3:l0_3.length≤c0_3) (h:spec_Unique.f k a0_0 a0_1 l0_2 l0_3=some r),
  Calls Tryz.prog 24 #[.agg #[.int .i64 a0_0,.string a0_1,.slice A0_2 l0_2.length c0_2,.slice A0_3 l0_3.length c0_3]] w fun e w'=>e = .returned (.bool r)∧Below w.heap.size w w':=by
 induction k using Nat.strongRecOn with
 | _ k ih=>
 intro a0_0 a0_1 A0_2 c0_2 l0_2 A0_3 c0_3 l0_3 r w hr0_2 hc0_2 hr0_3 hc0_3 h
 cases k with
 | zero=>exact absurd h (by simp [spec_Unique.f])
 | succ k=>
 simp only [spec_Unique.f] at h
 have hu26:=Tryz.underlying26
 have HR0_2:=am hr0_2
 have HC0_2:=am hc0_2
 clear hr0_2 hc0_2
 have HR0_3:=am hr0_3
 have HC0_3:=am hc0_3
 clear hr0_3 hc0_3
 have HB:=am (Below.refl w.heap.size w)
 have H:(spec_Unique.l0 k 0 a0_0 a0_1 l0_2 l0_3)=some r:=h
 clear h
 have H':=am H
 clear H
 go_enter Tryz.func24,Tryz.ntmps24
 go_wp2_with (first | ((with_reducible refine gate_dst (N:=1) rfl ?_);refine box_event ?hg (N:=1) ?hd (cs:=#[.int .i64 a0_0,.string a0_1,.slice A0_2 l0_2.length c0_2,.slice A0_3 l0_3.length c0_3]) (t:=26) ?hr ?_;(case hd=>exact Z8);(case hg=>exact Z8);(case hr=>exact Z18);intro gb409 hg w2 hbox hb;have n0_:=am (below_step Z11 hb);have n1_:=am (hbox);have n2_:=am ((Z87:w.heap.size≤gb409));have n3_:=am ((Z87:w.heap.size≤gb409));clear HB;have HB:=n0_;have BK409:=n1_;have GW409:=n2_;have GE409:=n3_;clear n0_ n1_ n2_ n3_;clear hb hbox hg))
 (try simp only [Act.put,List.setIfInBounds_toArray,List.set_cons_succ,List.set_cons_zero])
 go_loopg [3] k (fun kq v3 w'=>∃ (x3_1:Int),v3 = .int .i64 x3_1∧Aside0 (spec_Unique.l0 kq x3_1 a0_0 a0_1 l0_2 l0_3=some r)∧Aside0 (kq≤k)∧Aside0 (w'.heap[gb409]? = some (.cells #[.int .i64 a0_0,.string a0_1,(.slice A0_2 l0_2.length c0_2),(.slice A0_3 l0_3.length c0_3)] 26 (0,0)))∧Aside0 (Below w.heap.size w w'))
 case atStart=>exact ⟨(0),Z0,H',⟨Nat.le_refl _⟩,⟨pB BK409.out⟩,⟨Z30⟩⟩
 clear H'
 try clear c2;try clear p2
 obtain ⟨x3_1,rfl,HA,HK1,BK409,HB⟩:=hrel
 cases gk with
 | zero=>exact absurd HA.out (by simp [spec_Unique.l0])
 | succ k1=>
 have H:=HA.out
 clear HA
 simp only [spec_Unique.l0] at H
 by_cases c3:x3_1<(l0_2.length:Int)
 rotate_left
 ·
  rw [if_neg c3] at H
  have c3b0:=df c3
  clear c3
  have H':=am H
  clear H
  have hcz11_0:wr.cell? ⟨gb409,0,none⟩=some (.int .i64 a0_0):=(bkc BK409.out 0).trans rfl
  have hcz11_1:wr.cell? ⟨gb409,1,none⟩=some (.string a0_1):=(bkc BK409.out 1).trans rfl
  have hcz11_2:wr.cell? ⟨gb409,2,none⟩=some (.slice A0_2 l0_2.length c0_2):=(bkc BK409.out 2).trans rfl
  have hcz11_3:wr.cell? ⟨gb409,3,none⟩=some (.slice A0_3 l0_3.length c0_3):=(bkc BK409.out 3).trans rfl
  have hfz11_0:=bkf BK409.out 0
  have hfz11_1:=bkf BK409.out 1
  have hfz11_2:=bkf BK409.out 2
  have hfz11_3:=bkf BK409.out 3
  go_wp2
  (try simp only [Act.put,List.setIfInBounds_toArray,List.set_cons_succ,List.set_cons_zero])
  go_loopg [4] k1 (fun kq v4 w'=>∃ (x4_2:Int),v4 = .int .i64 x4_2∧Aside0 (spec_Unique.l1 kq x4_2 a0_0 a0_1 l0_2 l0_3=some r)∧Aside0 (kq≤k1)∧Aside0 (w'.heap[gb409]? = some (.cells #[.int .i64 a0_0,.string a0_1,(.slice A0_2 l0_2.length c0_2),(.slice A0_3 l0_3.length c0_3)] 26 (0,0)))∧Aside0 (Below w.heap.size w w'))
  case atStart=>exact ⟨(0),Z0,H',⟨Nat.le_refl _⟩,⟨pB BK409.out⟩,⟨Z30⟩⟩
  clear H'
  try clear c1;try clear c2;try clear p2;try clear c3;try clear c3b0;try clear c4;try clear c4b0;try clear p4;try clear q4;try clear hx4;try clear p6;try clear c10;try clear c10b0;try clear c10b1;try clear hcz11_0;try clear hcz11_1;try clear hcz11_2;try clear hcz11_3;try clear hcz7_0;try clear hcz7_1;try clear hcz7_2;try clear hcz7_3;try clear hfz11_0;try clear hfz11_1;try clear hfz11_2;try clear hfz11_3;try clear hfz7_0;try clear hfz7_1;try clear hfz7_2;try clear hfz7_3;try clear hx410_0;try clear p2;try clear p410;try clear q410
  obtain ⟨x4_2,rfl,HA,HK2,BK409,HB⟩:=hrel
  cases gk with
  | zero=>exact absurd HA.out (by simp [spec_Unique.l1])
  | succ k2=>
  have H:=HA.out
  clear HA
  simp only [spec_Unique.l1] at H
  by_cases c12:x4_2<(l0_3.length:Int)
  rotate_left
  ·
   rw [if_neg c12] at H
   have c12b0:=df c12
   clear c12
   obtain rfl:=Option.some.inj H
   have hcz19_0:wr.cell? ⟨gb409,0,none⟩=some (.int .i64 a0_0):=(bkc BK409.out 0).trans rfl
   have hcz19_1:wr.cell? ⟨gb409,1,none⟩=some (.string a0_1):=(bkc BK409.out 1).trans rfl
   have hcz19_2:wr.cell? ⟨gb409,2,none⟩=some (.slice A0_2 l0_2.length c0_2):=(bkc BK409.out 2).trans rfl
   have hcz19_3:wr.cell? ⟨gb409,3,none⟩=some (.slice A0_3 l0_3.length c0_3):=(bkc BK409.out 3).trans rfl
   have hfz19_0:=bkf BK409.out 0
   have hfz19_1:=bkf BK409.out 1
   have hfz19_2:=bkf BK409.out 2
   have hfz19_3:=bkf BK409.out 3
   go_wp2
   go_ret
   exact ⟨Z12,Z30⟩
  rw [if_pos c12] at H
  have c12b0:=dt c12
  clear c12
  by_cases c13:0≤x4_2
  rotate_left
  ·
   rw [if_neg c13] at H
   exact absurd H Z3
  rw [if_pos c13] at H
  have c13b0:=dt c13
  clear c13
  replace H:=obs H
  obtain ⟨t413,A140,H⟩:=H
  have A14:=am A140
  clear A140
  have HC15:=am H
  clear H
  have hcz16_0:wr.cell? ⟨gb409,0,none⟩=some (.int .i64 a0_0):=(bkc BK409.out 0).trans rfl
  have hcz16_1:wr.cell? ⟨gb409,1,none⟩=some (.string a0_1):=(bkc BK409.out 1).trans rfl
  have hcz16_2:wr.cell? ⟨gb409,2,none⟩=some (.slice A0_2 l0_2.length c0_2):=(bkc BK409.out 2).trans rfl
  have hcz16_3:wr.cell? ⟨gb409,3,none⟩=some (.slice A0_3 l0_3.length c0_3):=(bkc BK409.out 3).trans rfl
  have hfz16_0:=bkf BK409.out 0
  have hfz16_1:=bkf BK409.out 1
  have hfz16_2:=bkf BK409.out 2
  have hfz16_3:=bkf BK409.out 3
  have p412:0≤(x4_2:Int):=od Z4
  have q412:x4_2<(l0_3.length:Int):=od Z4
  obtain ⟨ad412,A412_2,c412_2,A412_3,c412_3,e412,hx412_0,hx412_1,hx412_2,hx412_3,hl412_2,hi412_2,hl412_3,hi412_3⟩:=at_T26 HR0_3.out x4_2 p412 q412
  cases e412
  replace hx412_0:=(HB.out.cell (blc w _ hx412_0)).trans hx412_0
  replace hx412_1:=(HB.out.cell (blc w _ hx412_1)).trans hx412_1
  replace hx412_2:=(HB.out.cell (blc w _ hx412_2)).trans hx412_2
  replace hx412_3:=(HB.out.cell (blc w _ hx412_3)).trans hx412_3
  have HR412_2:=am hi412_2
  have HC412_2:=am hl412_2
  clear hi412_2 hl412_2
  have HR412_3:=am hi412_3
  have HC412_3:=am hl412_3
  clear hi412_3 hl412_3
  replace p412:=eq_true p412
  replace q412:=eq_true q412
  go_upto_if 34 with (first | ((with_reducible refine gate_callee (f:=24) rfl ?_);refine goesL_ (some 33) rfl rfl Tryz.func24 Z2 rfl #[.agg #[.int .i64 ((rd_T26 l0_3 x4_2).f0),.string ((rd_T26 l0_3 x4_2).f1),.slice A412_2 ((rd_T26 l0_3 x4_2).f2).length c412_2,.slice A412_3 ((rd_T26 l0_3 x4_2).f3).length c412_3]] rfl Z10 ?_;(with_reducible refine (ih k2 Z43 ((rd_T26 l0_3 x4_2).f0) ((rd_T26 l0_3 x4_2).f1) _ _ ((rd_T26 l0_3 x4_2).f2) _ _ ((rd_T26 l0_3 x4_2).f3) t413 _ ?side1 ?side2 ?side3 ?side4 A14.out).mono ?_);(case side1=>repeat (first | exact (Kd.C_below HR412_2.out HB.out) | (with_reducible refine Kd.C_alloc ?_ _) | (with_reducible refine Kd.C_drewN ?_ _) | (with_reducible refine Kd.C_drew ?_)));(case side2=>exact HC412_2.out);(case side3=>repeat (first | exact (Kd.C_below HR412_3.out HB.out) | (with_reducible refine Kd.C_alloc ?_ _) | (with_reducible refine Kd.C_drewN ?_ _) | (with_reducible refine Kd.C_drew ?_)));(case side4=>exact HC412_3.out);rintro e w17 ⟨rfl,hb⟩;refine ⟨_,rfl,?_⟩;have n0_:=am (blk_below (g:=gb409) (o:=.cells #[.int .i64 a0_0,.string a0_1,.slice A0_2 l0_2.length c0_2,.slice (some ad412) l0_3.length c0_3] 26 (0,0)) (pB BK409.out) hb);have n1_:=am (below_step Z30 hb);clear BK409;clear HB;have BK409:=n0_;have HB:=n1_;clear n0_ n1_;(try clear hb);(try clear hb2);(try clear hk);(try clear hi)))
  (try simp only [Act.put,List.setIfInBounds_toArray,List.set_cons_zero,List.set_cons_succ])
  have H:=HC15.out
  clear HC15
  by_cases c18:t413=true
  rotate_left
  ·
   replace c18:=bef c18
   subst c18
   rw [if_neg (show ¬ (false=true) from Z1)] at H
   obtain rfl:=Option.some.inj H
   go_wp2
   go_ret
   exact ⟨Z12,Z30⟩
  subst c18
  rw [if_pos rfl] at H
  have H':=am H
  clear H
  go_wp2
  go_roundg k2
  case measure=>have:=HK1.out;have:=HK2.out;omega
  case rel=>exact ⟨(wrap64 (x4_2+1)),Z0,H',⟨Z43⟩,⟨pB BK409.out⟩,⟨Z30⟩⟩
 rw [if_pos c3] at H
 have c3b0:=dt c3
 clear c3
 by_cases c4:0≤x3_1
 rotate_left
 ·
  rw [if_neg c4] at H
  exact absurd H Z3
 rw [if_pos c4] at H
 have c4b0:=dt c4
 clear c4
 replace H:=obs H
 obtain ⟨t411,A50,H⟩:=H
 have A5:=am A50
 clear A50
 have HC6:=am H
 clear H
 have hcz7_0:wr.cell? ⟨gb409,0,none⟩=some (.int .i64 a0_0):=(bkc BK409.out 0).trans rfl
 have hcz7_1:wr.cell? ⟨gb409,1,none⟩=some (.string a0_1):=(bkc BK409.out 1).trans rfl
 have hcz7_2:wr.cell? ⟨gb409,2,none⟩=some (.slice A0_2 l0_2.length c0_2):=(bkc BK409.out 2).trans rfl
 have hcz7_3:wr.cell? ⟨gb409,3,none⟩=some (.slice A0_3 l0_3.length c0_3):=(bkc BK409.out 3).trans rfl
 have hfz7_0:=bkf BK409.out 0
 have hfz7_1:=bkf BK409.out 1
 have hfz7_2:=bkf BK409.out 2
 have hfz7_3:=bkf BK409.out 3
 try go_wp2
 have n0_:=am (bkd BK409.out)
 have n1_:=am (below_drew1 HB.out)
 clear BK409;clear HB
 have BK409:=n0_
 have HB:=n1_
 clear n0_ n1_
 have p410:0≤(x3_1:Int):=od Z4
 have q410:x3_1<(l0_2.length:Int):=od Z4
 obtain ⟨ad410,e410,hx410_0⟩:=Kd.at_string HR0_2.out x3_1 p410 q410
 have hw410_0:=hx410_0
 cases e410
 replace hx410_0:=(HB.out.cell (blc w _ hx410_0)).trans hx410_0
 replace p410:=eq_true p410
 replace q410:=eq_true q410
 refine start_ (n:=9) (S:=fun w'=>w'.cell? ⟨gb409,0,none⟩=some (.int .i64 a0_0)∧w'.cell? ⟨gb409,1,none⟩=some (.string a0_1)∧w'.cell? ⟨gb409,2,none⟩=some (.slice (some ad410) l0_2.length c0_2)∧w'.cell? ⟨gb409,3,none⟩=some (.slice A0_3 l0_3.length c0_3)∧w'.cell? (ad410.add (x3_1).toNat)=some (.string (rdOf ByteArray.empty l0_2 x3_1))) (ds:=[]) #[false,false,false,false,false,false,false,false,false] Z2 rfl rfl ⟨(bkc BK409.out 0).trans rfl,(bkc BK409.out 1).trans rfl,(bkc BK409.out 2).trans rfl,(bkc BK409.out 3).trans rfl,((HB.out.cell (blc w _ hw410_0)).trans hw410_0)⟩ (fun hHeld=>?_);refine with_tabW spec_Unique.tab4 spec_Unique.bits4 (fun HT_ HW_=>?_)
 generalize wr.drew=w8 at BK409 HB hx410_0 hHeld ⊢
 refine pure_ (i:=1) (N:=some 13) (v:=?_) (a':=?_) #[false,true,false,false,false,false,false,false,false] rfl rfl (any_of HT_.out Z2) (fun _ _ _ h=>h) (Or.inl ⟨Z8,?_⟩) ?_ ?_
 rotate_left
 ·
  intro w'
  go_simp
  with_reducible rfl
 rotate_left
 ·
  simp only [Act.put,List.setIfInBounds_toArray,List.set_cons_zero,List.set_cons_succ,i64_w,i32_w]
  rfl
 refine pure_ (i:=3) (N:=some 15) (v:=?_) (a':=?_) #[false,true,false,true,false,false,false,false,false] rfl rfl (any_of HT_.out Z2) (fun _ _ _ h=>h) (Or.inl ⟨Z8,?_⟩) ?_ ?_
 rotate_left
 ·
  intro w'
  go_simp
  with_reducible rfl
 rotate_left
 ·
  simp only [Act.put,List.setIfInBounds_toArray,List.set_cons_zero,List.set_cons_succ,i64_w,i32_w]
  rfl
 refine pure_ (i:=7) (N:=some 19) (v:=?_) (a':=?_) #[false,true,false,true,false,false,false,true,false] rfl rfl (any_of HT_.out Z2) (fun _ _ _ h=>h) (Or.inl ⟨Z8,?_⟩) ?_ ?_
 rotate_left
 ·
  intro w'
  go_simp
  with_reducible rfl
 rotate_left
 ·
  simp only [Act.put,List.setIfInBounds_toArray,List.set_cons_zero,List.set_cons_succ,i64_w,i32_w]
  rfl
 refine take_ (i:=0) (N:=some 12) (v:=?_) (a':=?_) #[true,true,false,true,false,false,false,true,false] rfl rfl (take_ofW HT_.out HW_.out Z2) (fun _ _ _ h=>h) (Or.inl ⟨Z8,?_⟩) hHeld ?_ ?_
 rotate_left
 ·
  rintro w' ⟨s0,s1,s2,s3,s4⟩
  go_simp
  with_reducible rfl
 rotate_left
 ·
  simp only [Act.put,List.setIfInBounds_toArray,List.set_cons_zero,List.set_cons_succ,i64_w,i32_w]
  rfl
 refine take_ (i:=2) (N:=some 14) (v:=?_) (a':=?_) #[true,true,true,true,false,false,false,true,false] rfl rfl (take_ofW HT_.out HW_.out Z2) (fun _ _ _ h=>h) (Or.inl ⟨Z8,?_⟩) hHeld ?_ ?_
 rotate_left
 ·
  rintro w' ⟨s0,s1,s2,s3,s4⟩
  go_simp
  with_reducible rfl
 rotate_left
 ·
  simp only [Act.put,List.setIfInBounds_toArray,List.set_cons_zero,List.set_cons_succ,i64_w,i32_w]
  rfl
 refine pure_ (i:=4) (N:=some 16) (v:=?_) (a':=?_) #[true,true,true,true,true,false,false,true,false] rfl rfl (any_of HT_.out Z2) (fun _ _ _ h=>h) (Or.inl ⟨Z8,?_⟩) ?_ ?_
 rotate_left
 ·
  intro w'
  go_simp
  with_reducible rfl
 rotate_left
 ·
  simp only [Act.put,List.setIfInBounds_toArray,List.set_cons_zero,List.set_cons_succ,i64_w,i32_w]
  rfl
 refine take_ (i:=5) (N:=some 17) (v:=?_) (a':=?_) #[true,true,true,true,true,true,false,true,false] rfl rfl (take_ofW HT_.out HW_.out Z2) (fun _ _ _ h=>h) (Or.inl ⟨Z8,?_⟩) hHeld ?_ ?_
 rotate_left
 ·
  rintro w' ⟨s0,s1,s2,s3,s4⟩
  go_simp
  with_reducible rfl
 rotate_left
 ·
  simp only [Act.put,List.setIfInBounds_toArray,List.set_cons_zero,List.set_cons_succ,i64_w,i32_w]
  rfl
 refine one_ (i:=6) (N:=some 18) #[true,true,true,true,true,true,true,true,false] rfl rfl (one_of HT_.out Z2) Z1 (fun K hK=>?_)
 refine goes_ Tryz.func49 Z2 rfl #[.agg #[.int .i64 a0_0,.string a0_1,.slice (some ad410) l0_2.length c0_2,.slice A0_3 l0_3.length c0_3],.string (rdOf ByteArray.empty l0_2 x3_1)] Z8 rfl rfl Z10 ?_
 with_reducible refine (spec_at.calls k1 a0_0 a0_1 _ _ l0_2 _ _ l0_3 (rdOf ByteArray.empty l0_2 x3_1) t411 _ ?side1 ?side2 ?side3 ?side4 A5.out).mono ?_
 (case side1=>repeat (first | exact (Kd.C_below HR0_2.out HB.out) | (with_reducible refine Kd.C_alloc ?_ _) | (with_reducible refine Kd.C_drewN ?_ _) | (with_reducible refine Kd.C_drew ?_)))
 (case side2=>exact HC0_2.out)
 (case side3=>repeat (first | exact (Kd.C_below HR0_3.out HB.out) | (with_reducible refine Kd.C_alloc ?_ _) | (with_reducible refine Kd.C_drewN ?_ _) | (with_reducible refine Kd.C_drew ?_)))
 (case side4=>exact HC0_3.out)
 rintro e w9 ⟨rfl,hb⟩
 refine ⟨_,rfl,?_⟩
 have n0_:=am (blk_below (g:=gb409) (o:=.cells #[.int .i64 a0_0,.string a0_1,.slice (some ad410) l0_2.length c0_2,.slice A0_3 l0_3.length c0_3] 26 (0,0)) (pB BK409.out) hb)
 have n1_:=am (below_step Z30 hb)
 clear BK409;clear HB
 have BK409:=n0_
 have HB:=n1_
 clear n0_ n1_
 (try clear hb)
 (try clear hb2)
 (try clear hk)
 (try clear hi)
 refine hK.out _ _ ⟨(bkc BK409.out 0).trans rfl,(bkc BK409.out 1).trans rfl,(bkc BK409.out 2).trans rfl,(bkc BK409.out 3).trans rfl,((HB.out.cell (blc w _ hw410_0)).trans hw410_0)⟩ (fun hHeld=>?_)
 clear hK K
 refine norm_ (a':=?_) ?_ ?_
 rotate_left
 ·
  show Act.put _ (some 18) _=_
  simp only [Act.put,List.setIfInBounds_toArray,List.set_cons_zero,List.set_cons_succ,i64_w,i32_w]
  rfl
 refine pure_ (i:=8) (N:=some 20) (v:=?_) (a':=?_) #[true,true,true,true,true,true,true,true,true] rfl rfl (any_of HT_.out Z2) (fun _ _ _ h=>h) (Or.inl ⟨Z8,?_⟩) ?_ ?_
 rotate_left
 ·
  intro w'
  go_simp
  with_reducible rfl
 rotate_left
 ·
  simp only [Act.put,List.setIfInBounds_toArray,List.set_cons_zero,List.set_cons_succ,i64_w,i32_w]
  rfl
 refine done_ (done_of HT_.out Z2) ?_
 go_upto_if 20 with (fail)
 (try simp only [Act.put,List.setIfInBounds_toArray,List.set_cons_zero,List.set_cons_succ])
 have H:=HC6.out
 clear HC6
 by_cases c10:t411=x3_1
 rotate_left
 ·
  rw [if_neg c10] at H
  have c10b0:=bfe c10
  have c10b1:=bne_iff_ne.mpr c10
  (first | rw [c10b0] | (simp only [i64_w,i32_w];rw [c10b0]) | skip)
  obtain rfl:=Option.some.inj H
  go_wp2
  go_ret
  exact ⟨Z12,Z30⟩
 rw [if_pos c10] at H
 have c10b0:=beq_iff_eq.mpr c10
 have c10b1:=bnf c10
 clear c10
 (first | rw [c10b0] | (simp only [i64_w,i32_w];rw [c10b0]) | skip)
 have H':=am H
 clear H
 go_wp2
 go_roundg k1
 case measure=>have:=HK1.out;omega
 case rel=>exact ⟨(wrap64 (x3_1+1)),Z0,H',⟨Z17⟩,⟨pB BK409.out⟩,⟨Z30⟩⟩
mutual
def laws_gjLines.l0:Nat→List ByteArray→Bool→ByteArray→List ByteArray→Int→Int→Int→ByteArray→List (S26)→Option (Int×ByteArray×List ByteArray×(List (S26))×ByteArray×Bool)
 | 0,_,_,_,_,_,_,_,_,_=>none
 | k+1,x0,x1,x8,x15,x16,x17,x416000,x416001,x416003=>if x17<x16 then (if 0≤x17 then (if x17<(x15.length:Int) then ((laws_gjText.f k (rdOf ByteArray.empty x15 x17)).bind fun bt417=>(if bt417.2.2.2.2=true then ((spec_Unique.f k bt417.1 bt417.2.1 bt417.2.2.1 bt417.2.2.2.1).bind fun t427=>(if t427=true then (laws_gjLines.j1 k x0 x1 x8 x17 (rdOf ByteArray.empty x15 x17) x15 x16 x17 (decide ((wrap64 ((x8.size:Int)+((rdOf ByteArray.empty x15 x17).size:Int))) > 4096)) x416000 x416001 x416003 bt417.1 bt417.2.1 bt417.2.2.1 bt417.2.2.2.1) else (laws_gjLines.j1 k x0 x1 x8 x17 (rdOf ByteArray.empty x15 x17) x15 x16 x17 true x416000 x416001 x416003 bt417.1 bt417.2.1 bt417.2.2.1 bt417.2.2.2.1))) else (laws_gjLines.j1 k x0 x1 x8 x17 (rdOf ByteArray.empty x15 x17) x15 x16 x17 true x416000 x416001 x416003 bt417.1 bt417.2.1 bt417.2.2.1 bt417.2.2.2.1))) else (none)) else (none)) else (some (x416000,x416001,([]:List ByteArray),x416003,x8,true))
def laws_gjLines.j1:Nat→List ByteArray→Bool→ByteArray→Int→ByteArray→List ByteArray→Int→Int→Bool→Int→ByteArray→List (S26)→Int→ByteArray→List ByteArray→List (S26)→Option (Int×ByteArray×List ByteArray×(List (S26))×ByteArray×Bool)
 | 0,_,_,_,_,_,_,_,_,_,_,_,_,_,_,_,_=>none
 | k+1,x0,x1,x8,x9,x10,x15,x16,x17,x41,x416000,x416001,x416003,x427000,x427001,x427002,x427003=>if x41=true then (some (0,(⟨#[]⟩:ByteArray),([]:List ByteArray),([]:List (S26)),(⟨#[]⟩:ByteArray),false)) else (laws_gjLines.l1 k x0 x1 x8 x9 x10 0 x15 x16 x17 x416000 x416001 x416003 x427000 x427001 x427002 x427003)
def laws_gjLines.l1:Nat→List ByteArray→Bool→ByteArray→Int→ByteArray→Int→List ByteArray→Int→Int→Int→ByteArray→List (S26)→Int→ByteArray→List ByteArray→List (S26)→Option (Int×ByteArray×List ByteArray×(List (S26))×ByteArray×Bool)
 | 0,_,_,_,_,_,_,_,_,_,_,_,_,_,_,_,_=>none
 | k+1,x0,x1,x8,x9,x10,x13,x15,x16,x17,x416000,x416001,x416003,x427000,x427001,x427002,x427003=>if x13<(x10.size:Int) then (if 0≤x13 then (if (bt x10 x13)=10 then (some (0,(⟨#[]⟩:ByteArray),([]:List ByteArray),([]:List (S26)),(⟨#[]⟩:ByteArray),false)) else (laws_gjLines.l1 k x0 x1 x8 x9 x10 (wrap64 (x13+1)) x15 x16 x17 x416000 x416001 x416003 x427000 x427001 x427002 x427003)) else (none)) else (if x416003.length<1954687338268 then ((some (x416003 ++ [(⟨x427000,x427001,x427002,x427003⟩:S26)]:List (S26))).bind fun y428=>(if x8.size+x10.size≤9223372036854775807 then (if x1=true then (if (x8 ++ x10).size+1≤9223372036854775807 then (laws_gjLines.l0 k x0 x1 ((x8 ++ x10) ++ (⟨#[10]⟩:ByteArray)) x15 x16 (wrap64 (x17+1)) x416000 x416001 y428) else (none)) else (if x9<(wrap64 ((x0.length:Int) - 1)) then (if (x8 ++ x10).size+1≤9223372036854775807 then (laws_gjLines.l0 k x0 x1 ((x8 ++ x10) ++ (⟨#[10]⟩:ByteArray)) x15 x16 (wrap64 (x17+1)) x416000 x416001 y428) else (none)) else (laws_gjLines.l0 k x0 x1 (x8 ++ x10) x15 x16 (wrap64 (x17+1)) x416000 x416001 y428))) else (none))) else (none))
end
def laws_gjLines.f (k:Nat) (l0:List ByteArray) (a1:Bool):Option (Int×ByteArray×List ByteArray×(List (S26))×ByteArray×Bool):=laws_gjLines.l0 k l0 a1 (⟨#[]⟩:ByteArray) l0 (l0.length:Int) 0 5 (⟨#[]⟩:ByteArray) ([]:List (S26))
theorem laws_gjLines.calls (k:Nat) (A0:Option Addr) (c0:Nat) (l0:List ByteArray) (a1:Bool) (r1:Int) (r2:ByteArray) (r3:List ByteArray) (r4:List (S26)) (r5:ByteArray) (r6:Bool) (w:World) (hr0:Kd.C Kd.string w A0 l0.length l0) (hc0:l0.length≤c0) (h:laws_gjLines.f k l0 a1=some (r1,r2,r3,r4,r5,r6)) :
  Calls Tryz.prog 9 #[.slice A0 l0.length c0,.bool a1] w fun e w'=>∃ v2_ v3_:Value,e = .returned (.tuple #[.agg #[.int .i64 r1,.string r2,v2_,v3_],.string r5,.bool r6])∧Kd.R Kd.string 9 w' w.heap.size (fun _=>True) v2_ r3∧Kd.R k26 26 w' w.heap.size (fun k_=>some k_≠(v2_:Value).ownBlock) v3_ r4∧Below w.heap.size w w':=by
 have hu26:=Tryz.underlying26
 have HR0:=am hr0
 have HC0:=am hc0
 clear hr0 hc0
 have HB:=am (Below.refl w.heap.size w)
 have H:(laws_gjLines.l0 k l0 a1 (⟨#[]⟩:ByteArray) l0 (l0.length:Int) 0 5 (⟨#[]⟩:ByteArray) ([]:List (S26)))=some (r1,r2,r3,r4,r5,r6):=h
 clear h
 have H':=am H
 clear H
 go_enter Tryz.func9,Tryz.ntmps9
 go_wp2_with (first | ((with_reducible refine gate_dst (N:=4) rfl ?_);(try (refine gate_guard Z8 ?_;dsimp only));refine box_event ?hg (N:=4) ?hd (cs:=#[.int .i64 0,.string (⟨#[]⟩:ByteArray),.slice none 0 0,.slice none 0 0]) (t:=26) ?hr ?_;(case hd=>exact Z8);(case hg=>exact Z8);(case hr=>exact Z18);intro gb414 hg w3 hbox hb;have n0_:=am (below_step Z11 hb);have n1_:=am (hbox);have n2_:=am ((Z87:w.heap.size≤gb414));have n3_:=am ((Z87:w.heap.size≤gb414));clear HB;have HB:=n0_;have BK414:=n1_;have GW414:=n2_;have GE414:=n3_;clear n0_ n1_ n2_ n3_;clear hb hbox hg) | ((with_reducible refine gate_dst (N:=7) rfl ?_);(try (refine gate_guard Z8 ?_;dsimp only));refine box_event ?hg (N:=7) ?hd (cs:=#[.int .i64 0,.string (⟨#[]⟩:ByteArray),.slice none 0 0,.slice none 0 0]) (t:=26) ?hr ?_;(case hd=>exact Z8);(case hg=>exact Z8);(case hr=>exact Z18);intro gb415 hg w4 hbox hb;have n0_:=am (blk_below (g:=gb414) (o:=.cells #[.int .i64 0,.string (⟨#[]⟩:ByteArray),.slice none 0 0,.slice none 0 0] 26 (0,0)) (pB BK414.out) hb);have n1_:=am (below_step Z59 hb);have n2_:=am (hbox);have n3_:=am ((by rw [hg];exact (below_size Z59):w.heap.size≤gb415));have n4_:=am ((by rw [hg];exact (below_size Z59):w.heap.size≤gb415));have n5_:=am ((by rw [hg];exact Nat.ne_of_lt (blk_lt (g:=gb414) (o:=.cells #[.int .i64 0,.string (⟨#[]⟩:ByteArray),.slice none 0 0,.slice none 0 0] 26 (0,0)) (pB BK414.out)):gb414≠gb415));have n6_:=am ((by rw [hg];exact Nat.ne_of_gt (blk_lt (g:=gb414) (o:=.cells #[.int .i64 0,.string (⟨#[]⟩:ByteArray),.slice none 0 0,.slice none 0 0] 26 (0,0)) (pB BK414.out)):gb415≠gb414));clear BK414;clear HB;have BK414:=n0_;have HB:=n1_;have BK415:=n2_;have GW415:=n3_;have GE415:=n4_;have NB414_415:=n5_;have NB415_414:=n6_;clear n0_ n1_ n2_ n3_ n4_ n5_ n6_;clear hb hbox hg;have hnb5:=NB415_414.out;have hnc5:=NB414_415.out;have hcz6_0:w4.cell? ⟨gb415,0,none⟩=some (.int .i64 0):=(bkc BK415.out 0).trans rfl;have hcz6_1:w4.cell? ⟨gb415,1,none⟩=some (.string (⟨#[]⟩:ByteArray)):=(bkc BK415.out 1).trans rfl;have hcz6_2:w4.cell? ⟨gb415,2,none⟩=some (.slice none 0 0):=(bkc BK415.out 2).trans rfl;have hcz6_3:w4.cell? ⟨gb415,3,none⟩=some (.slice none 0 0):=(bkc BK415.out 3).trans rfl;have hfz6_0:=bkf BK415.out 0;have hfz6_1:=bkf BK415.out 1;have hfz6_2:=bkf BK415.out 2;have hfz6_3:=bkf BK415.out 3))
 (try simp only [Act.put,List.setIfInBounds_toArray,List.set_cons_succ,List.set_cons_zero])
 go_loopg [8,17] k (fun kq v8 v17 w'=>∃ (x8_1:ByteArray) (x17_1:Int) (x415000_1:Int) (x415001_1:ByteArray) (x416003_1:List (S26)) (u416003:Value),v8 = .string x8_1∧v17 = .int .i64 x17_1∧Aside0 (laws_gjLines.l0 kq l0 a1 x8_1 l0 (l0.length:Int) x17_1 5 (⟨#[]⟩:ByteArray) x416003_1=some (r1,r2,r3,r4,r5,r6))∧Aside0 (kq≤k)∧Aside0 (Kd.R k26 26 w' w.heap.size (fun k_=>k_≠gb414∧k_≠gb415) u416003 x416003_1)∧Aside0 (w'.heap[gb414]? = some (.cells #[.int .i64 x415000_1,.string x415001_1,(.slice none 0 0),(.slice none 0 0)] 26 (0,0)))∧Aside0 (w'.heap[gb415]? = some (.cells #[.int .i64 5,.string (⟨#[]⟩:ByteArray),(.slice none 0 0),u416003] 26 (0,0)))∧Aside0 (Below w.heap.size w w'))
 case atStart=>exact ⟨((⟨#[]⟩:ByteArray)),(0),(0),((⟨#[]⟩:ByteArray)),(([]:List (S26))),(.slice none 0 0),Z0,Z0,H',⟨Nat.le_refl _⟩,⟨Z13⟩,⟨by (with_reducible repeat (first | refine bkn ?_ _ | refine bkd ?_ | refine bka ?_ _));refine blk_far ?_ NB414_415.out _;(with_reducible repeat (first | refine bkn ?_ _ | refine bkd ?_ | refine bka ?_ _));refine blk_far ?_ NB414_415.out _;(with_reducible repeat (first | refine bkn ?_ _ | refine bkd ?_ | refine bka ?_ _));refine blk_far ?_ NB414_415.out _;(with_reducible repeat (first | refine bkn ?_ _ | refine bkd ?_ | refine bka ?_ _));refine blk_far ?_ NB414_415.out _;(with_reducible repeat (first | refine bkn ?_ _ | refine bkd ?_ | refine bka ?_ _));exact BK414.out⟩,⟨by (with_reducible repeat (first | refine bkn ?_ _ | refine bkd ?_ | refine bka ?_ _));refine blk_put (cs:=#[.int .i64 5,.string (⟨#[]⟩:ByteArray),.slice none 0 0,.slice none 0 0]) ?_ 3 _ rfl;(with_reducible repeat (first | refine bkn ?_ _ | refine bkd ?_ | refine bka ?_ _));refine blk_put (cs:=#[.int .i64 5,.string (⟨#[]⟩:ByteArray),.slice none 0 0,.slice none 0 0]) ?_ 2 _ rfl;(with_reducible repeat (first | refine bkn ?_ _ | refine bkd ?_ | refine bka ?_ _));refine blk_put (cs:=#[.int .i64 5,.string (⟨#[]⟩:ByteArray),.slice none 0 0,.slice none 0 0]) ?_ 1 _ rfl;(with_reducible repeat (first | refine bkn ?_ _ | refine bkd ?_ | refine bka ?_ _));refine blk_put (cs:=#[.int .i64 0,.string (⟨#[]⟩:ByteArray),.slice none 0 0,.slice none 0 0]) ?_ 0 _ rfl;(with_reducible repeat (first | refine bkn ?_ _ | refine bkd ?_ | refine bka ?_ _));exact BK415.out⟩,⟨Z32⟩⟩
 clear H'
 try clear p2;try clear c5;try clear hcz6_0;try clear hcz6_1;try clear hcz6_2;try clear hcz6_3;try clear hfz6_0;try clear hfz6_1;try clear hfz6_2;try clear hfz6_3
 obtain ⟨x8_1,x17_1,x415000_1,x415001_1,x416003_1,u416003,rfl,rfl,HA,HK1,HO_416003,BK414,BK415,HB⟩:=hrel
 cases gk with
 | zero=>exact absurd HA.out (by simp [laws_gjLines.l0])
 | succ k1=>
 have H:=HA.out
 clear HA
 simp only [laws_gjLines.l0] at H
 by_cases c7:x17_1<(l0.length:Int)
 rotate_left
 ·
  rw [if_neg c7] at H
  have c7b0:=df c7
  clear c7
  simp only [Option.some.injEq,Prod.mk.injEq] at H
  obtain ⟨rfl,rfl,rfl,rfl,rfl,rfl⟩:=H
  have hnb67:=NB415_414.out
  have hnc67:=NB414_415.out
  have hcz68_0:wr.cell? ⟨gb415,0,none⟩=some (.int .i64 5):=(bkc BK415.out 0).trans rfl
  have hcz68_1:wr.cell? ⟨gb415,1,none⟩=some (.string (⟨#[]⟩:ByteArray)):=(bkc BK415.out 1).trans rfl
  have hcz68_2:wr.cell? ⟨gb415,2,none⟩=some (.slice none 0 0):=(bkc BK415.out 2).trans rfl
  have hcz68_3:wr.cell? ⟨gb415,3,none⟩=some (u416003):=(bkc BK415.out 3).trans rfl
  have hfz68_0:=bkf BK415.out 0
  have hfz68_1:=bkf BK415.out 1
  have hfz68_2:=bkf BK415.out 2
  have hfz68_3:=bkf BK415.out 3
  have hcz69_0:wr.cell? ⟨gb414,0,none⟩=some (.int .i64 x415000_1):=(bkc BK414.out 0).trans rfl
  have hcz69_1:wr.cell? ⟨gb414,1,none⟩=some (.string x415001_1):=(bkc BK414.out 1).trans rfl
  have hcz69_2:wr.cell? ⟨gb414,2,none⟩=some (.slice none 0 0):=(bkc BK414.out 2).trans rfl
  have hcz69_3:wr.cell? ⟨gb414,3,none⟩=some (.slice none 0 0):=(bkc BK414.out 3).trans rfl
  have hfz69_0:=bkf BK414.out 0
  have hfz69_1:=bkf BK414.out 1
  have hfz69_2:=bkf BK414.out 2
  have hfz69_3:=bkf BK414.out 3
  obtain ⟨Ao70,co70,eo70⟩:=Kd.R_slice HO_416003.out
  subst eo70
  go_wp2
  refine bodyPost_ret (results_ctt rfl _ _ gb414 26 #[.int .i64 5,.string (⟨#[]⟩:ByteArray),.slice none 0 0,.slice Ao70 x416003_1.length co70] (0,0) _ rfl (by (with_reducible repeat (first | refine bkn ?_ _ | refine bkd ?_ | refine bka ?_ _));refine blk_put (cs:=#[.int .i64 5,.string (⟨#[]⟩:ByteArray),.slice none 0 0,.slice none 0 0]) ?_ 3 _ rfl;(with_reducible repeat (first | refine bkn ?_ _ | refine bkd ?_ | refine bka ?_ _));refine blk_put (cs:=#[.int .i64 5,.string (⟨#[]⟩:ByteArray),.slice none 0 0,.slice none 0 0]) ?_ 2 _ rfl;(with_reducible repeat (first | refine bkn ?_ _ | refine bkd ?_ | refine bka ?_ _));refine blk_put (cs:=#[.int .i64 5,.string x415001_1,.slice none 0 0,.slice none 0 0]) ?_ 1 _ rfl;(with_reducible repeat (first | refine bkn ?_ _ | refine bkd ?_ | refine bka ?_ _));refine blk_put (cs:=#[.int .i64 x415000_1,.string x415001_1,.slice none 0 0,.slice none 0 0]) ?_ 0 _ rfl;(with_reducible repeat (first | refine bkn ?_ _ | refine bkd ?_ | refine bka ?_ _));exact BK414.out) Tryz.underlying26 rfl Z2) rfl ?_
  exact ⟨_,_,Z12,Z13,by (with_reducible repeat (first | apply Kd.R_alloc | apply Kd.R_drewN | apply Kd.R_drew));exact Kd.R_mono (Kd.R_far (p:=⟨gb414,3,none⟩) (Kd.R_far (p:=⟨gb414,2,none⟩) (Kd.R_far (p:=⟨gb414,1,none⟩) (Kd.R_far (p:=⟨gb414,0,none⟩) (Kd.R_mono HO_416003.out (fun k_ hk=>(⟨hk,hk.1⟩:_∧k_≠gb414))) (fun _ hk=>hk.2) (.int .i64 5)) (fun _ hk=>hk.2) (.string (⟨#[]⟩:ByteArray))) (fun _ hk=>hk.2) (.slice none 0 0)) (fun _ hk=>hk.2) (.slice Ao70 x416003_1.length co70)) (fun _ hk=>(by simp [Value.ownBlock])),Z32⟩
 rw [if_pos c7] at H
 have c7b0:=dt c7
 clear c7
 by_cases c8:0≤x17_1
 rotate_left
 ·
  rw [if_neg c8] at H
  exact absurd H Z3
 rw [if_pos c8] at H
 have c8b0:=dt c8
 clear c8
 by_cases c9:x17_1<(l0.length:Int)
 rotate_left
 ·
  rw [if_neg c9] at H
  exact absurd H Z3
 rw [if_pos c9] at H
 have c9b0:=dt c9
 clear c9
 replace H:=obs H
 obtain ⟨⟨t417,t418,t419,t422,t425⟩,A100,H⟩:=H
 dsimp only at H
 have A10:=am A100
 clear A100
 have HC11:=am H
 clear H
 have p416:0≤(x17_1:Int):=od Z4
 have q416:x17_1<(l0.length:Int):=od Z4
 obtain ⟨ad416,e416,hx416_0⟩:=Kd.at_string HR0.out x17_1 p416 q416
 cases e416
 replace hx416_0:=(HB.out.cell (blc w _ hx416_0)).trans hx416_0
 replace p416:=eq_true p416
 replace q416:=eq_true q416
 go_upto_region 6 with (first | ((with_reducible refine gate_callee (f:=12) rfl ?_);refine goesL_ (some 24) rfl rfl Tryz.func12 Z2 rfl #[.string (rdOf ByteArray.empty l0 x17_1)] rfl Z10 ?_;(with_reducible refine (laws_gjText.calls k1 (rdOf ByteArray.empty l0 x17_1) t417 t418 t419 t422 t425 _ A10.out).mono ?_);rintro e w12 ⟨v420,v423,rfl,ho0,ho1,hb⟩;refine ⟨_,rfl,?_⟩;have n0_:=am (Kd.R_mono (Kd.R_told (Kd.R_told (Kd.R_old (pR HO_416003.out) hb) (Kd.R_base ho0)) (Kd.R_base ho1)) (fun _ h_=>h_.1));have n1_:=am (Kd.R_lower ho0 (below_size Z32));have n2_:=am (Kd.R_lower (Kd.R_newB (Kd.R_newB (Kd.R_new' ho1 (Kd.R_lt (pR HO_416003.out))) (g:=gb414) (o:=.cells #[.int .i64 x415000_1,.string x415001_1,.slice none 0 0,.slice none 0 0] 26 (0,0)) (pB BK414.out)) (g:=gb415) (o:=.cells #[.int .i64 5,.string (⟨#[]⟩:ByteArray),.slice none 0 0,u416003] 26 (0,0)) (pB BK415.out)) (below_size Z32));have n3_:=am (blk_below (g:=gb414) (o:=.cells #[.int .i64 x415000_1,.string x415001_1,.slice none 0 0,.slice none 0 0] 26 (0,0)) (pB BK414.out) hb);have n4_:=am (blk_below (g:=gb415) (o:=.cells #[.int .i64 5,.string (⟨#[]⟩:ByteArray),.slice none 0 0,u416003] 26 (0,0)) (pB BK415.out) hb);have n5_:=am (below_step Z32 hb);clear HO_416003;clear BK414;clear BK415;clear HB;have HO_416003:=n0_;have HO421:=n1_;have HO424:=n2_;have BK414:=n3_;have BK415:=n4_;have HB:=n5_;clear n0_ n1_ n2_ n3_ n4_ n5_;(try clear hb);(try clear hb2);(try clear hk);(try clear hi);(try clear ho0);(try clear ho1)) | ((with_reducible refine gate_dst (N:=11) rfl ?_);(try (refine gate_guard Z8 ?_;dsimp only));refine box_event ?hg (N:=11) ?hd (cs:=#[.int .i64 0,.string (⟨#[]⟩:ByteArray),.slice none 0 0,.slice none 0 0]) (t:=26) ?hr ?_;(case hd=>exact Z8);(case hg=>exact Z8);(case hr=>exact Z18);intro gb426 hg w13 hbox hb;have n0_:=am (Kd.R_below (Kd.R_elderB (pR HO_416003.out) gb426 (Nat.le_of_eq hg.symm)) hb);have n1_:=am (Kd.R_below (pR HO421.out) hb);have n2_:=am (Kd.R_below (Kd.R_elderB (pR HO424.out) gb426 (Nat.le_of_eq hg.symm)) hb);have n3_:=am (blk_below (g:=gb414) (o:=.cells #[.int .i64 x415000_1,.string x415001_1,.slice none 0 0,.slice none 0 0] 26 (0,0)) (pB BK414.out) hb);have n4_:=am (blk_below (g:=gb415) (o:=.cells #[.int .i64 5,.string (⟨#[]⟩:ByteArray),.slice none 0 0,u416003] 26 (0,0)) (pB BK415.out) hb);have n5_:=am (below_step Z32 hb);have n6_:=am (hbox);have n7_:=am ((by rw [hg];exact (below_size Z32):w.heap.size≤gb426));have n8_:=am ((by rw [hg];exact (below_size Z32):w.heap.size≤gb426));have n9_:=am ((by rw [hg];exact Nat.ne_of_lt (blk_lt (g:=gb414) (o:=.cells #[.int .i64 x415000_1,.string x415001_1,.slice none 0 0,.slice none 0 0] 26 (0,0)) (pB BK414.out)):gb414≠gb426));have n10_:=am ((by rw [hg];exact Nat.ne_of_gt (blk_lt (g:=gb414) (o:=.cells #[.int .i64 x415000_1,.string x415001_1,.slice none 0 0,.slice none 0 0] 26 (0,0)) (pB BK414.out)):gb426≠gb414));have n11_:=am ((by rw [hg];exact Nat.ne_of_lt (blk_lt (g:=gb415) (o:=.cells #[.int .i64 5,.string (⟨#[]⟩:ByteArray),.slice none 0 0,u416003] 26 (0,0)) (pB BK415.out)):gb415≠gb426));have n12_:=am ((by rw [hg];exact Nat.ne_of_gt (blk_lt (g:=gb415) (o:=.cells #[.int .i64 5,.string (⟨#[]⟩:ByteArray),.slice none 0 0,u416003] 26 (0,0)) (pB BK415.out)):gb426≠gb415));clear HO_416003;clear HO421;clear HO424;clear BK414;clear BK415;clear HB;have HO_416003:=n0_;have HO421:=n1_;have HO424:=n2_;have BK414:=n3_;have BK415:=n4_;have HB:=n5_;have BK426:=n6_;have GW426:=n7_;have GE426:=n8_;have NB414_426:=n9_;have NB426_414:=n10_;have NB415_426:=n11_;have NB426_415:=n12_;clear n0_ n1_ n2_ n3_ n4_ n5_ n6_ n7_ n8_ n9_ n10_ n11_ n12_;clear hb hbox hg;have hnb14:=NB426_414.out;have hnc14:=NB414_426.out;have hnb15:=NB426_415.out;have hnc15:=NB415_426.out;have hcz16_0:w13.cell? ⟨gb426,0,none⟩=some (.int .i64 0):=(bkc BK426.out 0).trans rfl;have hcz16_1:w13.cell? ⟨gb426,1,none⟩=some (.string (⟨#[]⟩:ByteArray)):=(bkc BK426.out 1).trans rfl;have hcz16_2:w13.cell? ⟨gb426,2,none⟩=some (.slice none 0 0):=(bkc BK426.out 2).trans rfl;have hcz16_3:w13.cell? ⟨gb426,3,none⟩=some (.slice none 0 0):=(bkc BK426.out 3).trans rfl;have hfz16_0:=bkf BK426.out 0;have hfz16_1:=bkf BK426.out 1;have hfz16_2:=bkf BK426.out 2;have hfz16_3:=bkf BK426.out 3;obtain ⟨Ao17,co17,eo17⟩:=Kd.R_slice HO421.out;subst eo17;obtain ⟨Ao18,co18,eo18⟩:=Kd.R_slice HO424.out;subst eo18))
 (try simp only [Act.put,List.setIfInBounds_toArray,List.set_cons_zero,List.set_cons_succ])
 go_cut [41] (fun v41 wc=>∃ (kq:Nat) (x41_10:Bool),v41 = .bool x41_10∧Aside0 (laws_gjLines.j1 kq l0 a1 x8_1 x17_1 (rdOf ByteArray.empty l0 x17_1) l0 (l0.length:Int) x17_1 x41_10 5 (⟨#[]⟩:ByteArray) x416003_1 t417 t418 t419 t422=some (r1,r2,r3,r4,r5,r6))∧Aside0 (kq≤k1)∧Aside0 (Kd.R k26 26 wc w.heap.size (fun k_=>some k_≠((.slice Ao17 t419.length co17):Value).ownBlock∧some k_≠((.slice Ao18 t422.length co18):Value).ownBlock∧k_≠gb414∧k_≠gb415∧k_≠gb426) u416003 x416003_1)∧Aside0 (Kd.R Kd.string 9 wc w.heap.size (fun _=>True) (.slice Ao17 t419.length co17) t419)∧Aside0 (Kd.R k26 26 wc w.heap.size (fun k_=>some k_≠(u416003:Value).ownBlock∧some k_≠((.slice Ao17 t419.length co17):Value).ownBlock∧k_≠gb414∧k_≠gb415∧k_≠gb426) (.slice Ao18 t422.length co18) t422)∧Aside0 (wc.heap[gb414]? = some (.cells #[.int .i64 x415000_1,.string x415001_1,(.slice none 0 0),(.slice none 0 0)] 26 (0,0)))∧Aside0 (wc.heap[gb415]? = some (.cells #[.int .i64 5,.string (⟨#[]⟩:ByteArray),(.slice none 0 0),u416003] 26 (0,0)))∧Aside0 (wc.heap[gb426]? = some (.cells #[.int .i64 t417,.string t418,(.slice Ao17 t419.length co17),(.slice Ao18 t422.length co18)] 26 (0,0)))∧Aside0 (Below w.heap.size w wc))
 case first=>
  have H:=HC11.out
  clear HC11
  by_cases c19:t425=true
  rotate_left
  ·
   replace c19:=bef c19
   subst c19
   rw [if_neg (show ¬ (false=true) from Z1)] at H
   have H':=am H
   clear H
   go_wp2
   go_meet
   case rel=>exact ⟨_,(true),Z0,H',⟨Z38⟩,⟨by (with_reducible repeat (first | apply Kd.R_alloc | apply Kd.R_drewN | apply Kd.R_drew));exact Kd.R_mono (Kd.R_far (p:=⟨gb426,3,none⟩) (Kd.R_far (p:=⟨gb426,2,none⟩) (Kd.R_far (p:=⟨gb426,1,none⟩) (Kd.R_far (p:=⟨gb426,0,none⟩) (Kd.R_mono HO_416003.out (fun k_ hk=>(⟨hk,hk.2⟩:_∧k_≠gb426))) (fun _ hk=>hk.2) (.int .i64 t417)) (fun _ hk=>hk.2) (.string t418)) (fun _ hk=>hk.2) (.slice Ao17 t419.length co17)) (fun _ hk=>hk.2) (.slice Ao18 t422.length co18)) (fun _ hk=>⟨hk.1.1.1.2,⟨hk.1.1.2,⟨hk.1.1.1.1.1,⟨hk.1.1.1.1.2,hk.1.2⟩⟩⟩⟩)⟩,⟨by (with_reducible repeat (first | apply Kd.R_alloc | apply Kd.R_drewN | apply Kd.R_drew));exact Kd.R_mono (Kd.R_far (p:=⟨gb426,3,none⟩) (Kd.R_far (p:=⟨gb426,2,none⟩) (Kd.R_far (p:=⟨gb426,1,none⟩) (Kd.R_far (p:=⟨gb426,0,none⟩) (Kd.R_types HO421.out BK426.out Z1) (fun _ hk=>hk.2) (.int .i64 t417)) (fun _ hk=>hk.2) (.string t418)) (fun _ hk=>hk.2) (.slice Ao17 t419.length co17)) (fun _ hk=>hk.2) (.slice Ao18 t422.length co18)) (fun _ hk=>trivial)⟩,⟨by (with_reducible repeat (first | apply Kd.R_alloc | apply Kd.R_drewN | apply Kd.R_drew));exact Kd.R_mono (Kd.R_far (p:=⟨gb426,3,none⟩) (Kd.R_far (p:=⟨gb426,2,none⟩) (Kd.R_far (p:=⟨gb426,1,none⟩) (Kd.R_far (p:=⟨gb426,0,none⟩) (Kd.R_mono HO424.out (fun k_ hk=>(⟨hk,hk.2⟩:_∧k_≠gb426))) (fun _ hk=>hk.2) (.int .i64 t417)) (fun _ hk=>hk.2) (.string t418)) (fun _ hk=>hk.2) (.slice Ao17 t419.length co17)) (fun _ hk=>hk.2) (.slice Ao18 t422.length co18)) (fun _ hk=>⟨hk.1.1.1.1.2,⟨hk.1.1.1.1.1,⟨hk.1.1.1.2,⟨hk.1.1.2,hk.1.2⟩⟩⟩⟩)⟩,⟨Z60⟩,⟨Z61⟩,⟨Z62⟩,⟨Z23⟩⟩
  subst c19
  rw [if_pos rfl] at H
  replace H:=obs H
  obtain ⟨t427,A200,H⟩:=H
  have A20:=am A200
  clear A200
  by_cases c21:t427=true
  rotate_left
  ·
   replace c21:=bef c21
   subst c21
   rw [if_neg (show ¬ (false=true) from Z1)] at H
   have H':=am H
   clear H
   have hnb26:=NB426_414.out
   have hnc26:=NB414_426.out
   have hnb27:=NB426_415.out
   have hnc27:=NB415_426.out
   have hcz28_0:w13.cell? ⟨gb426,0,none⟩=some (.int .i64 0):=(bkc BK426.out 0).trans rfl
   have hcz28_1:w13.cell? ⟨gb426,1,none⟩=some (.string (⟨#[]⟩:ByteArray)):=(bkc BK426.out 1).trans rfl
   have hcz28_2:w13.cell? ⟨gb426,2,none⟩=some (.slice none 0 0):=(bkc BK426.out 2).trans rfl
   have hcz28_3:w13.cell? ⟨gb426,3,none⟩=some (.slice none 0 0):=(bkc BK426.out 3).trans rfl
   have hfz28_0:=bkf BK426.out 0
   have hfz28_1:=bkf BK426.out 1
   have hfz28_2:=bkf BK426.out 2
   have hfz28_3:=bkf BK426.out 3
   go_wp2_with (first | (go_at_call 24;(with_reducible refine (spec_Unique.calls k1 t417 t418 _ _ t419 _ _ t422 false _ ?side1 ?side2 ?side3 ?side4 A20.out).mono ?_);(case side1=>exact Z93);(case side2=>exact (Kd.R_reads' HO421.out).2.1);(case side3=>exact Z92);(case side4=>exact (Kd.R_reads' HO424.out).2.1);rintro e w29 ⟨rfl,hb⟩;have n0_:=am (Kd.R_below Z80 hb);have n1_:=am (Kd.R_below Z90 hb);have n2_:=am (Kd.R_below Z45 hb);have n3_:=am (blk_below (g:=gb414) (o:=.cells #[.int .i64 x415000_1,.string x415001_1,.slice none 0 0,.slice none 0 0] 26 (0,0)) Z60 hb);have n4_:=am (blk_below (g:=gb415) (o:=.cells #[.int .i64 5,.string (⟨#[]⟩:ByteArray),.slice none 0 0,u416003] 26 (0,0)) Z61 hb);have n5_:=am (blk_below (g:=gb426) (o:=.cells #[.int .i64 t417,.string t418,.slice Ao17 t419.length co17,.slice Ao18 t422.length co18] 26 (0,0)) Z62 hb);have n6_:=am (below_step Z23 hb);clear HO_416003;clear HO421;clear HO424;clear BK414;clear BK415;clear BK426;clear HB;have HO_416003:=n0_;have HO421:=n1_;have HO424:=n2_;have BK414:=n3_;have BK415:=n4_;have BK426:=n5_;have HB:=n6_;clear n0_ n1_ n2_ n3_ n4_ n5_ n6_;(try clear hb);(try clear hb2);(try clear hk);(try clear hi)))
   go_meet
   case rel=>exact ⟨_,(true),Z0,H',⟨Z38⟩,⟨Z81⟩,⟨pR HO421.out⟩,⟨Z82⟩,⟨pB BK414.out⟩,⟨pB BK415.out⟩,⟨pB BK426.out⟩,⟨Z23⟩⟩
  subst c21
  rw [if_pos rfl] at H
  have H':=am H
  clear H
  have hnb22:=NB426_414.out
  have hnc22:=NB414_426.out
  have hnb23:=NB426_415.out
  have hnc23:=NB415_426.out
  have hcz24_0:w13.cell? ⟨gb426,0,none⟩=some (.int .i64 0):=(bkc BK426.out 0).trans rfl
  have hcz24_1:w13.cell? ⟨gb426,1,none⟩=some (.string (⟨#[]⟩:ByteArray)):=(bkc BK426.out 1).trans rfl
  have hcz24_2:w13.cell? ⟨gb426,2,none⟩=some (.slice none 0 0):=(bkc BK426.out 2).trans rfl
  have hcz24_3:w13.cell? ⟨gb426,3,none⟩=some (.slice none 0 0):=(bkc BK426.out 3).trans rfl
  have hfz24_0:=bkf BK426.out 0
  have hfz24_1:=bkf BK426.out 1
  have hfz24_2:=bkf BK426.out 2
  have hfz24_3:=bkf BK426.out 3
  go_wp2_with (first | (go_at_call 24;(with_reducible refine (spec_Unique.calls k1 t417 t418 _ _ t419 _ _ t422 true _ ?side1 ?side2 ?side3 ?side4 A20.out).mono ?_);(case side1=>exact Z93);(case side2=>exact (Kd.R_reads' HO421.out).2.1);(case side3=>exact Z92);(case side4=>exact (Kd.R_reads' HO424.out).2.1);rintro e w25 ⟨rfl,hb⟩;have n0_:=am (Kd.R_below Z80 hb);have n1_:=am (Kd.R_below Z90 hb);have n2_:=am (Kd.R_below Z45 hb);have n3_:=am (blk_below (g:=gb414) (o:=.cells #[.int .i64 x415000_1,.string x415001_1,.slice none 0 0,.slice none 0 0] 26 (0,0)) Z60 hb);have n4_:=am (blk_below (g:=gb415) (o:=.cells #[.int .i64 5,.string (⟨#[]⟩:ByteArray),.slice none 0 0,u416003] 26 (0,0)) Z61 hb);have n5_:=am (blk_below (g:=gb426) (o:=.cells #[.int .i64 t417,.string t418,.slice Ao17 t419.length co17,.slice Ao18 t422.length co18] 26 (0,0)) Z62 hb);have n6_:=am (below_step Z23 hb);clear HO_416003;clear HO421;clear HO424;clear BK414;clear BK415;clear BK426;clear HB;have HO_416003:=n0_;have HO421:=n1_;have HO424:=n2_;have BK414:=n3_;have BK415:=n4_;have BK426:=n5_;have HB:=n6_;clear n0_ n1_ n2_ n3_ n4_ n5_ n6_;(try clear hb);(try clear hb2);(try clear hk);(try clear hi)))
  go_meet
  case rel=>exact ⟨_,(decide ((wrap64 ((x8_1.size:Int)+((rdOf ByteArray.empty l0 x17_1).size:Int))) > 4096)),Z0,H',⟨Z38⟩,⟨Z81⟩,⟨pR HO421.out⟩,⟨Z82⟩,⟨pB BK414.out⟩,⟨pB BK415.out⟩,⟨pB BK426.out⟩,⟨Z23⟩⟩
 clear HC11;try clear c1;try clear c2;try clear p2;try clear p4;try clear q4;try clear hx4;try clear c5;try clear p6;try clear c7;try clear c7b0;try clear c8;try clear c8b0;try clear c9;try clear c9b0;try clear c12;try clear c14;try clear c15;try clear c19;try clear c21;try clear c22;try clear c23;try clear c26;try clear c27;try clear hcz16_0;try clear hcz16_1;try clear hcz16_2;try clear hcz16_3;try clear hcz24_0;try clear hcz24_1;try clear hcz24_2;try clear hcz24_3;try clear hcz28_0;try clear hcz28_1;try clear hcz28_2;try clear hcz28_3;try clear hcz6_0;try clear hcz6_1;try clear hcz6_2;try clear hcz6_3;try clear hfz16_0;try clear hfz16_1;try clear hfz16_2;try clear hfz16_3;try clear hfz24_0;try clear hfz24_1;try clear hfz24_2;try clear hfz24_3;try clear hfz28_0;try clear hfz28_1;try clear hfz28_2;try clear hfz28_3;try clear hfz6_0;try clear hfz6_1;try clear hfz6_2;try clear hfz6_3;try clear hx416_0;try clear p2;try clear p416;try clear q416
 obtain ⟨kq,x41_10,rfl,HA,HJ10,HO_416003,HO_427002,HO_427003,BK414,BK415,BK426,HB⟩:=hcut
 cases kq with
 | zero=>exact absurd HA.out (by simp [laws_gjLines.j1])
 | succ kj10=>
 have H:=HA.out
 clear HA
 simp only [laws_gjLines.j1] at H
 by_cases c30:x41_10=true
 ·
  subst c30
  rw [if_pos rfl] at H
  simp only [Option.some.injEq,Prod.mk.injEq] at H
  obtain ⟨rfl,rfl,rfl,rfl,rfl,rfl⟩:=H
  have hnb31:=NB414_415.out
  have hnc31:=NB415_414.out
  have hnb32:=NB414_426.out
  have hnc32:=NB426_414.out
  have hcz33_0:wc.cell? ⟨gb414,0,none⟩=some (.int .i64 x415000_1):=(bkc BK414.out 0).trans rfl
  have hcz33_1:wc.cell? ⟨gb414,1,none⟩=some (.string x415001_1):=(bkc BK414.out 1).trans rfl
  have hcz33_2:wc.cell? ⟨gb414,2,none⟩=some (.slice none 0 0):=(bkc BK414.out 2).trans rfl
  have hcz33_3:wc.cell? ⟨gb414,3,none⟩=some (.slice none 0 0):=(bkc BK414.out 3).trans rfl
  have hfz33_0:=bkf BK414.out 0
  have hfz33_1:=bkf BK414.out 1
  have hfz33_2:=bkf BK414.out 2
  have hfz33_3:=bkf BK414.out 3
  go_wp2
  refine bodyPost_ret (results_ctt rfl _ _ gb414 26 #[.int .i64 0,.string (⟨#[]⟩:ByteArray),.slice none 0 0,.slice none 0 0] (0,0) _ rfl (by (with_reducible repeat (first | refine bkn ?_ _ | refine bkd ?_ | refine bka ?_ _));refine blk_put (cs:=#[.int .i64 0,.string (⟨#[]⟩:ByteArray),.slice none 0 0,.slice none 0 0]) ?_ 3 _ rfl;(with_reducible repeat (first | refine bkn ?_ _ | refine bkd ?_ | refine bka ?_ _));refine blk_put (cs:=#[.int .i64 0,.string (⟨#[]⟩:ByteArray),.slice none 0 0,.slice none 0 0]) ?_ 2 _ rfl;(with_reducible repeat (first | refine bkn ?_ _ | refine bkd ?_ | refine bka ?_ _));refine blk_put (cs:=#[.int .i64 0,.string x415001_1,.slice none 0 0,.slice none 0 0]) ?_ 1 _ rfl;(with_reducible repeat (first | refine bkn ?_ _ | refine bkd ?_ | refine bka ?_ _));refine blk_put (cs:=#[.int .i64 x415000_1,.string x415001_1,.slice none 0 0,.slice none 0 0]) ?_ 0 _ rfl;(with_reducible repeat (first | refine bkn ?_ _ | refine bkd ?_ | refine bka ?_ _));exact BK414.out) Tryz.underlying26 rfl Z2) rfl ?_
  exact ⟨_,_,Z12,Z13,Z13,Z23⟩
 replace c30:=bef c30
 subst c30
 rw [if_neg (show ¬ (false=true) from Z1)] at H
 have H':=am H
 clear H
 go_wp2
 (try simp only [Act.put,List.setIfInBounds_toArray,List.set_cons_succ,List.set_cons_zero])
 go_loopg [13] kj10 (fun kq v13 w'=>∃ (x13_3:Int) (x415000_3:Int) (x415001_3:ByteArray),v13 = .int .i64 x13_3∧Aside0 (laws_gjLines.l1 kq l0 a1 x8_1 x17_1 (rdOf ByteArray.empty l0 x17_1) x13_3 l0 (l0.length:Int) x17_1 5 (⟨#[]⟩:ByteArray) x416003_1 t417 t418 t419 t422=some (r1,r2,r3,r4,r5,r6))∧Aside0 (kq≤kj10)∧Aside0 (Kd.R k26 26 w' w.heap.size (fun k_=>some k_≠((.slice Ao17 t419.length co17):Value).ownBlock∧some k_≠((.slice Ao18 t422.length co18):Value).ownBlock∧k_≠gb414∧k_≠gb415∧k_≠gb426) u416003 x416003_1)∧Aside0 (Kd.R Kd.string 9 w' w.heap.size (fun _=>True) (.slice Ao17 t419.length co17) t419)∧Aside0 (Kd.R k26 26 w' w.heap.size (fun k_=>some k_≠(u416003:Value).ownBlock∧some k_≠((.slice Ao17 t419.length co17):Value).ownBlock∧k_≠gb414∧k_≠gb415∧k_≠gb426) (.slice Ao18 t422.length co18) t422)∧Aside0 (w'.heap[gb414]? = some (.cells #[.int .i64 x415000_3,.string x415001_3,(.slice none 0 0),(.slice none 0 0)] 26 (0,0)))∧Aside0 (w'.heap[gb415]? = some (.cells #[.int .i64 5,.string (⟨#[]⟩:ByteArray),(.slice none 0 0),u416003] 26 (0,0)))∧Aside0 (w'.heap[gb426]? = some (.cells #[.int .i64 t417,.string t418,(.slice Ao17 t419.length co17),(.slice Ao18 t422.length co18)] 26 (0,0)))∧Aside0 (Below w.heap.size w w'))
 case atStart=>exact ⟨(0),(x415000_1),(x415001_1),Z0,H',⟨Nat.le_refl _⟩,⟨pR HO_416003.out⟩,⟨pR HO_427002.out⟩,⟨pR HO_427003.out⟩,⟨pB BK414.out⟩,⟨pB BK415.out⟩,⟨pB BK426.out⟩,⟨Z23⟩⟩
 clear H'
 try clear c1;try clear c2;try clear p2;try clear c3;try clear p4;try clear q4;try clear hx4;try clear c5;try clear p6;try clear c7;try clear c7b0;try clear c8;try clear c8b0;try clear c9;try clear c9b0;try clear c12;try clear c14;try clear c15;try clear c19;try clear c21;try clear c22;try clear c23;try clear c26;try clear c27;try clear c30;try clear c31;try clear c32;try clear hcz16_0;try clear hcz16_1;try clear hcz16_2;try clear hcz16_3;try clear hcz24_0;try clear hcz24_1;try clear hcz24_2;try clear hcz24_3;try clear hcz28_0;try clear hcz28_1;try clear hcz28_2;try clear hcz28_3;try clear hcz33_0;try clear hcz33_1;try clear hcz33_2;try clear hcz33_3;try clear hcz6_0;try clear hcz6_1;try clear hcz6_2;try clear hcz6_3;try clear hfz16_0;try clear hfz16_1;try clear hfz16_2;try clear hfz16_3;try clear hfz24_0;try clear hfz24_1;try clear hfz24_2;try clear hfz24_3;try clear hfz28_0;try clear hfz28_1;try clear hfz28_2;try clear hfz28_3;try clear hfz33_0;try clear hfz33_1;try clear hfz33_2;try clear hfz33_3;try clear hfz6_0;try clear hfz6_1;try clear hfz6_2;try clear hfz6_3;try clear hx416_0;try clear p2;try clear p4;try clear p416;try clear p6;try clear q4;try clear q416
 obtain ⟨x13_3,x415000_3,x415001_3,rfl,HA,HK3,HO_416003,HO_427002,HO_427003,BK414,BK415,BK426,HB⟩:=hrel
 cases gk with
 | zero=>exact absurd HA.out (by simp [laws_gjLines.l1])
 | succ k3=>
 have H:=HA.out
 clear HA
 simp only [laws_gjLines.l1] at H
 by_cases c34:x13_3<((rdOf ByteArray.empty l0 x17_1).size:Int)
 ·
  rw [if_pos c34] at H
  have c34b0:=dt c34
  clear c34
  by_cases c35:0≤x13_3
  rotate_left
  ·
   rw [if_neg c35] at H
   exact absurd H Z3
  rw [if_pos c35] at H
  have c35b0:=dt c35
  clear c35
  by_cases c37:(bt (rdOf ByteArray.empty l0 x17_1) x13_3)=10
  rotate_left
  ·
   rw [if_neg c37] at H
   have c37b0:=bfe c37
   have c37b1:=bne_iff_ne.mpr c37
   have H':=am H
   clear H
   have p36:0≤(x13_3:Int):=od Z4
   have q36:x13_3<((rdOf ByteArray.empty l0 x17_1).size:Int):=od Z4
   have hx36:=bt_at (rdOf ByteArray.empty l0 x17_1) x13_3
   replace p36:=eq_true p36
   replace q36:=eq_true q36
   go_wp2
   go_roundg k3
   case measure=>have:=HK1.out;have:=HJ10.out;have:=HK3.out;omega
   case rel=>exact ⟨(wrap64 (x13_3+1)),(x415000_3),(x415001_3),Z0,H',⟨Z46⟩,⟨pR HO_416003.out⟩,⟨pR HO_427002.out⟩,⟨pR HO_427003.out⟩,⟨pB BK414.out⟩,⟨pB BK415.out⟩,⟨pB BK426.out⟩,⟨Z23⟩⟩
  rw [if_pos c37] at H
  have c37b0:=beq_iff_eq.mpr c37
  have c37b1:=bnf c37
  clear c37
  simp only [Option.some.injEq,Prod.mk.injEq] at H
  obtain ⟨rfl,rfl,rfl,rfl,rfl,rfl⟩:=H
  have p36:0≤(x13_3:Int):=od Z4
  have q36:x13_3<((rdOf ByteArray.empty l0 x17_1).size:Int):=od Z4
  have hx36:=bt_at (rdOf ByteArray.empty l0 x17_1) x13_3
  replace p36:=eq_true p36
  replace q36:=eq_true q36
  have hnb38:=NB414_415.out
  have hnc38:=NB415_414.out
  have hnb39:=NB414_426.out
  have hnc39:=NB426_414.out
  have hcz40_0:wr.cell? ⟨gb414,0,none⟩=some (.int .i64 x415000_3):=(bkc BK414.out 0).trans rfl
  have hcz40_1:wr.cell? ⟨gb414,1,none⟩=some (.string x415001_3):=(bkc BK414.out 1).trans rfl
  have hcz40_2:wr.cell? ⟨gb414,2,none⟩=some (.slice none 0 0):=(bkc BK414.out 2).trans rfl
  have hcz40_3:wr.cell? ⟨gb414,3,none⟩=some (.slice none 0 0):=(bkc BK414.out 3).trans rfl
  have hfz40_0:=bkf BK414.out 0
  have hfz40_1:=bkf BK414.out 1
  have hfz40_2:=bkf BK414.out 2
  have hfz40_3:=bkf BK414.out 3
  go_wp2
  refine bodyPost_ret (results_ctt rfl _ _ gb414 26 #[.int .i64 0,.string (⟨#[]⟩:ByteArray),.slice none 0 0,.slice none 0 0] (0,0) _ rfl (by (with_reducible repeat (first | refine bkn ?_ _ | refine bkd ?_ | refine bka ?_ _));refine blk_put (cs:=#[.int .i64 0,.string (⟨#[]⟩:ByteArray),.slice none 0 0,.slice none 0 0]) ?_ 3 _ rfl;(with_reducible repeat (first | refine bkn ?_ _ | refine bkd ?_ | refine bka ?_ _));refine blk_put (cs:=#[.int .i64 0,.string (⟨#[]⟩:ByteArray),.slice none 0 0,.slice none 0 0]) ?_ 2 _ rfl;(with_reducible repeat (first | refine bkn ?_ _ | refine bkd ?_ | refine bka ?_ _));refine blk_put (cs:=#[.int .i64 0,.string x415001_3,.slice none 0 0,.slice none 0 0]) ?_ 1 _ rfl;(with_reducible repeat (first | refine bkn ?_ _ | refine bkd ?_ | refine bka ?_ _));refine blk_put (cs:=#[.int .i64 x415000_3,.string x415001_3,.slice none 0 0,.slice none 0 0]) ?_ 0 _ rfl;(with_reducible repeat (first | refine bkn ?_ _ | refine bkd ?_ | refine bka ?_ _));exact BK414.out) Tryz.underlying26 rfl Z2) rfl ?_
  exact ⟨_,_,Z12,Z13,Z13,Z23⟩
 rw [if_neg c34] at H
 have c34b0:=df c34
 clear c34
 by_cases c41:x416003_1.length<1954687338268
 rotate_left
 ·
  rw [if_neg c41] at H
  exact absurd H Z3
 rw [if_pos c41] at H
 have LMc41:=am c41
 clear c41
 obtain ⟨y428,hy428⟩:∃ y_:List (S26),y_=(x416003_1 ++ [(⟨t417,t418,t419,t422⟩:S26)]):=⟨_,rfl⟩
 first | replace H:=bind_y hy428 H | rw [← hy428] at H
 have Ny428:=am hy428
 clear hy428
 by_cases c42:x8_1.size+(rdOf ByteArray.empty l0 x17_1).size≤9223372036854775807
 rotate_left
 ·
  rw [if_neg c42] at H
  exact absurd H Z3
 rw [if_pos c42] at H
 have c42b0:=eq_true c42
 have c42b1:=dt c42
 try have c42b2:(9223372036854775807<x8_1.size+(rdOf ByteArray.empty l0 x17_1).size)=False:=eq_false (Nat.not_lt.2 c42)
 by_cases c43:a1=true
 ·
  subst c43
  rw [if_pos rfl] at H
  have HC44:=am H
  clear H
  have hnb45:=NB415_414.out
  have hnc45:=NB414_415.out
  have hnb46:=NB415_426.out
  have hnc46:=NB426_415.out
  have hcz47_0:wr.cell? ⟨gb415,0,none⟩=some (.int .i64 5):=(bkc BK415.out 0).trans rfl
  have hcz47_1:wr.cell? ⟨gb415,1,none⟩=some (.string (⟨#[]⟩:ByteArray)):=(bkc BK415.out 1).trans rfl
  have hcz47_2:wr.cell? ⟨gb415,2,none⟩=some (.slice none 0 0):=(bkc BK415.out 2).trans rfl
  have hcz47_3:wr.cell? ⟨gb415,3,none⟩=some (u416003):=(bkc BK415.out 3).trans rfl
  have hfz47_0:=bkf BK415.out 0
  have hfz47_1:=bkf BK415.out 1
  have hfz47_2:=bkf BK415.out 2
  have hfz47_3:=bkf BK415.out 3
  have hnb48:=NB426_414.out
  have hnc48:=NB414_426.out
  have hcz49_0:wr.cell? ⟨gb426,0,none⟩=some (.int .i64 t417):=(bkc BK426.out 0).trans rfl
  have hcz49_1:wr.cell? ⟨gb426,1,none⟩=some (.string t418):=(bkc BK426.out 1).trans rfl
  have hcz49_2:wr.cell? ⟨gb426,2,none⟩=some (.slice Ao17 t419.length co17):=(bkc BK426.out 2).trans rfl
  have hcz49_3:wr.cell? ⟨gb426,3,none⟩=some (.slice Ao18 t422.length co18):=(bkc BK426.out 3).trans rfl
  have hfz49_0:=bkf BK426.out 0
  have hfz49_1:=bkf BK426.out 1
  have hfz49_2:=bkf BK426.out 2
  have hfz49_3:=bkf BK426.out 3
  go_upto_if 70 with (first | ((with_reducible refine gate_builtin (b:=.append) (xs:=#[.tmp 55,.tmp 57]) rfl ?_);(try (refine gate_guard Z8 ?_;dsimp only));at_builtin;refine Kd.R_append k26 (w0:=w) w.heap.size rfl (.tmp 55) (.tmp 57) 24 26 (.agg #[(.int .i64 0),(.string ⟨#[]⟩),(.slice none 0 0),(.slice none 0 0)]) 72 rfl Tryz.underlying24 info26 rfl Z1 Z14 u416003 x416003_1 (⟨t417,t418,t419,t422⟩:S26) [.int .i64 t417,.string t418,.slice Ao17 t419.length co17,.slice Ao18 t422.length co18] (fun k_=>k_≠gb414∧k_≠gb415∧k_≠gb426) (fun k_=>((fun k_=>k_≠gb414∧k_≠gb415∧k_≠gb426)) k_∧some k_≠(u416003:Value).ownBlock) rfl rfl ?aP (fun _ hk=>hk) ?aF ?aO ?aB ?aS ?aL ?_;(case aP=>exact k26_mkM _ _ _ (⟨t417,t418,t419,t422⟩:S26) (Kd.R_mono (Kd.R_types (Kd.R_types (Kd.R_types (Kd.R_apart' (HO_427002.out) (Kd.R_typed HO_416003.out) Z1) BK414.out Z1) BK415.out Z1) BK426.out Z1) (fun k_ hk=>⟨⟨hk.1.1.2,⟨hk.1.2,hk.2⟩⟩,hk.1.1.1.2⟩)) (Kd.R_mono (HO_427003.out) (fun k_ hk=>⟨⟨hk.2.2.1,⟨hk.2.2.2.1,hk.2.2.2.2⟩⟩,hk.1⟩)));(case aB=>exact Z23);(case aF=>exact (fun k_ hk=>⟨Kd.freshB (g:=gb414) (o:=.cells #[.int .i64 x415000_3,.string x415001_3,.slice none 0 0,.slice none 0 0] 26 (0,0)) (pB BK414.out) k_ hk,Kd.freshB (g:=gb415) (o:=.cells #[.int .i64 5,.string (⟨#[]⟩:ByteArray),.slice none 0 0,u416003] 26 (0,0)) (pB BK415.out) k_ hk,Kd.freshB (g:=gb426) (o:=.cells #[.int .i64 t417,.string t418,.slice Ao17 t419.length co17,.slice Ao18 t422.length co18] 26 (0,0)) (pB BK426.out) k_ hk⟩));(case aO=>exact Z83);(case aS=>exact (below_size Z23));(case aL=>have:=LMc41.out;omega);intro v429 w50 ho hb hg hat;rw [← Ny428.out] at ho;have n0_:=am (blk_grown (g:=gb414) (o:=.cells #[.int .i64 x415000_3,.string x415001_3,.slice none 0 0,.slice none 0 0] 26 (0,0)) (pB BK414.out) hg (Kd.R_away HO_416003.out (fun _ hk=>hk.2.2.1)));have n1_:=am (blk_grown (g:=gb415) (o:=.cells #[.int .i64 5,.string (⟨#[]⟩:ByteArray),.slice none 0 0,u416003] 26 (0,0)) (pB BK415.out) hg (Kd.R_away HO_416003.out (fun _ hk=>hk.2.2.2.1)));have n2_:=am (blk_grown (g:=gb426) (o:=.cells #[.int .i64 t417,.string t418,.slice Ao17 t419.length co17,.slice Ao18 t422.length co18] 26 (0,0)) (pB BK426.out) hg (Kd.R_away HO_416003.out (fun _ hk=>hk.2.2.2.2)));have n3_:=am (hb);have n4_:=am (ho);clear BK414;clear BK415;clear BK426;clear HB;clear HO_416003;clear HO_427002;clear HO_427003;have BK414:=n0_;have BK415:=n1_;have BK426:=n2_;have HB:=n3_;have HO430:=n4_;clear n0_ n1_ n2_ n3_ n4_;clear ho hb hg hat;obtain ⟨Ao51,co51,eo51⟩:=Kd.R_slice HO430.out;subst eo51;have hcz52_0:w50.cell? ⟨gb415,0,none⟩=some (.int .i64 5):=(bkc BK415.out 0).trans rfl;have hcz52_1:w50.cell? ⟨gb415,1,none⟩=some (.string (⟨#[]⟩:ByteArray)):=(bkc BK415.out 1).trans rfl;have hcz52_2:w50.cell? ⟨gb415,2,none⟩=some (.slice none 0 0):=(bkc BK415.out 2).trans rfl;have hcz52_3:w50.cell? ⟨gb415,3,none⟩=some (u416003):=(bkc BK415.out 3).trans rfl;have hfz52_0:=bkf BK415.out 0;have hfz52_1:=bkf BK415.out 1;have hfz52_2:=bkf BK415.out 2;have hfz52_3:=bkf BK415.out 3))
  have n0_:Aside0 (Kd.R k26 26 (w50.setCell ⟨gb415,3,none⟩ (.slice Ao51 y428.length co51)) w.heap.size (fun k_=>k_≠gb414∧k_≠gb415∧k_≠gb426) (.slice Ao51 y428.length co51) y428):=⟨by (with_reducible repeat (first | apply Kd.R_alloc | apply Kd.R_drewN | apply Kd.R_drew));exact Kd.R_mono (Kd.R_far (p:=⟨gb415,3,none⟩) (Kd.R_mono HO430.out (fun k_ hk=>(⟨hk,hk.2.1⟩:_∧k_≠gb415))) (fun _ hk=>hk.2) (.slice Ao51 y428.length co51)) (fun _ hk=>⟨hk.1.1,⟨hk.1.2.1,hk.1.2.2⟩⟩)⟩
  have n1_:Aside0 ((w50.setCell ⟨gb415,3,none⟩ (.slice Ao51 y428.length co51)).heap[gb414]? = some (.cells #[.int .i64 x415000_3,.string x415001_3,.slice none 0 0,.slice none 0 0] 26 (0,0))):=⟨Z84⟩
  have n2_:Aside0 ((w50.setCell ⟨gb415,3,none⟩ (.slice Ao51 y428.length co51)).heap[gb415]? = some (.cells #[.int .i64 5,.string (⟨#[]⟩:ByteArray),.slice none 0 0,.slice Ao51 y428.length co51] 26 (0,0))):=⟨Z85⟩
  have n3_:Aside0 ((w50.setCell ⟨gb415,3,none⟩ (.slice Ao51 y428.length co51)).heap[gb426]? = some (.cells #[.int .i64 t417,.string t418,.slice Ao17 t419.length co17,.slice Ao18 t422.length co18] 26 (0,0))):=⟨Z86⟩
  have n4_:Aside0 (Below w.heap.size w (w50.setCell ⟨gb415,3,none⟩ (.slice Ao51 y428.length co51))):=⟨Z23⟩
  (try clear HO430)
  (try clear BK414)
  (try clear BK415)
  (try clear BK426)
  (try clear HB)
  generalize (w50.setCell ⟨gb415,3,none⟩ (.slice Ao51 y428.length co51))=w53 at n0_ n1_ n2_ n3_ n4_ ⊢
  have HO430:=n0_
  have BK414:=n1_
  have BK415:=n2_
  have BK426:=n3_
  have HB:=n4_
  clear n0_ n1_ n2_ n3_ n4_
  (try simp only [Act.put,List.setIfInBounds_toArray,List.set_cons_zero,List.set_cons_succ])
  have H:=HC44.out
  clear HC44
  by_cases c54:(x8_1 ++ (rdOf ByteArray.empty l0 x17_1)).size+1≤9223372036854775807
  rotate_left
  ·
   rw [if_neg c54] at H
   exact absurd H Z3
  rw [if_pos c54] at H
  have c54b0:=eq_true c54
  have c54b1:=dt c54
  have c54b3:x8_1.size+(rdOf ByteArray.empty l0 x17_1).size+1≤9223372036854775807:=by rw [← ByteArray.size_append];exact c54
  have c54b4:=dt c54b3
  try have c54b2:(9223372036854775807<(x8_1 ++ (rdOf ByteArray.empty l0 x17_1)).size+1)=False:=eq_false (Nat.not_lt.2 c54)
  have H':=am H
  clear H
  go_wp2
  go_roundg k3
  case measure=>have:=HK1.out;have:=HJ10.out;have:=HK3.out;omega
  case rel=>exact ⟨((x8_1 ++ (rdOf ByteArray.empty l0 x17_1)) ++ (⟨#[10]⟩:ByteArray)),(wrap64 (x17_1+1)),(x415000_3),(x415001_3),(y428),(.slice Ao51 y428.length co51),Z0,Z0,H',⟨Z46⟩,⟨Z63⟩,⟨pB BK414.out⟩,⟨pB BK415.out⟩,⟨Z23⟩⟩
 replace c43:=bef c43
 subst c43
 rw [if_neg (show ¬ (false=true) from Z1)] at H
 have HC55:=am H
 clear H
 have hnb56:=NB415_414.out
 have hnc56:=NB414_415.out
 have hnb57:=NB415_426.out
 have hnc57:=NB426_415.out
 have hcz58_0:wr.cell? ⟨gb415,0,none⟩=some (.int .i64 5):=(bkc BK415.out 0).trans rfl
 have hcz58_1:wr.cell? ⟨gb415,1,none⟩=some (.string (⟨#[]⟩:ByteArray)):=(bkc BK415.out 1).trans rfl
 have hcz58_2:wr.cell? ⟨gb415,2,none⟩=some (.slice none 0 0):=(bkc BK415.out 2).trans rfl
 have hcz58_3:wr.cell? ⟨gb415,3,none⟩=some (u416003):=(bkc BK415.out 3).trans rfl
 have hfz58_0:=bkf BK415.out 0
 have hfz58_1:=bkf BK415.out 1
 have hfz58_2:=bkf BK415.out 2
 have hfz58_3:=bkf BK415.out 3
 have hnb59:=NB426_414.out
 have hnc59:=NB414_426.out
 have hcz60_0:wr.cell? ⟨gb426,0,none⟩=some (.int .i64 t417):=(bkc BK426.out 0).trans rfl
 have hcz60_1:wr.cell? ⟨gb426,1,none⟩=some (.string t418):=(bkc BK426.out 1).trans rfl
 have hcz60_2:wr.cell? ⟨gb426,2,none⟩=some (.slice Ao17 t419.length co17):=(bkc BK426.out 2).trans rfl
 have hcz60_3:wr.cell? ⟨gb426,3,none⟩=some (.slice Ao18 t422.length co18):=(bkc BK426.out 3).trans rfl
 have hfz60_0:=bkf BK426.out 0
 have hfz60_1:=bkf BK426.out 1
 have hfz60_2:=bkf BK426.out 2
 have hfz60_3:=bkf BK426.out 3
 go_upto_if 70 with (first | ((with_reducible refine gate_builtin (b:=.append) (xs:=#[.tmp 55,.tmp 57]) rfl ?_);(try (refine gate_guard Z8 ?_;dsimp only));at_builtin;refine Kd.R_append k26 (w0:=w) w.heap.size rfl (.tmp 55) (.tmp 57) 24 26 (.agg #[(.int .i64 0),(.string ⟨#[]⟩),(.slice none 0 0),(.slice none 0 0)]) 72 rfl Tryz.underlying24 info26 rfl Z1 Z14 u416003 x416003_1 (⟨t417,t418,t419,t422⟩:S26) [.int .i64 t417,.string t418,.slice Ao17 t419.length co17,.slice Ao18 t422.length co18] (fun k_=>k_≠gb414∧k_≠gb415∧k_≠gb426) (fun k_=>((fun k_=>k_≠gb414∧k_≠gb415∧k_≠gb426)) k_∧some k_≠(u416003:Value).ownBlock) rfl rfl ?aP (fun _ hk=>hk) ?aF ?aO ?aB ?aS ?aL ?_;(case aP=>exact k26_mkM _ _ _ (⟨t417,t418,t419,t422⟩:S26) (Kd.R_mono (Kd.R_types (Kd.R_types (Kd.R_types (Kd.R_apart' (HO_427002.out) (Kd.R_typed HO_416003.out) Z1) BK414.out Z1) BK415.out Z1) BK426.out Z1) (fun k_ hk=>⟨⟨hk.1.1.2,⟨hk.1.2,hk.2⟩⟩,hk.1.1.1.2⟩)) (Kd.R_mono (HO_427003.out) (fun k_ hk=>⟨⟨hk.2.2.1,⟨hk.2.2.2.1,hk.2.2.2.2⟩⟩,hk.1⟩)));(case aB=>exact Z23);(case aF=>exact (fun k_ hk=>⟨Kd.freshB (g:=gb414) (o:=.cells #[.int .i64 x415000_3,.string x415001_3,.slice none 0 0,.slice none 0 0] 26 (0,0)) (pB BK414.out) k_ hk,Kd.freshB (g:=gb415) (o:=.cells #[.int .i64 5,.string (⟨#[]⟩:ByteArray),.slice none 0 0,u416003] 26 (0,0)) (pB BK415.out) k_ hk,Kd.freshB (g:=gb426) (o:=.cells #[.int .i64 t417,.string t418,.slice Ao17 t419.length co17,.slice Ao18 t422.length co18] 26 (0,0)) (pB BK426.out) k_ hk⟩));(case aO=>exact Z83);(case aS=>exact (below_size Z23));(case aL=>have:=LMc41.out;omega);intro v429 w61 ho hb hg hat;rw [← Ny428.out] at ho;have n0_:=am (blk_grown (g:=gb414) (o:=.cells #[.int .i64 x415000_3,.string x415001_3,.slice none 0 0,.slice none 0 0] 26 (0,0)) (pB BK414.out) hg (Kd.R_away HO_416003.out (fun _ hk=>hk.2.2.1)));have n1_:=am (blk_grown (g:=gb415) (o:=.cells #[.int .i64 5,.string (⟨#[]⟩:ByteArray),.slice none 0 0,u416003] 26 (0,0)) (pB BK415.out) hg (Kd.R_away HO_416003.out (fun _ hk=>hk.2.2.2.1)));have n2_:=am (blk_grown (g:=gb426) (o:=.cells #[.int .i64 t417,.string t418,.slice Ao17 t419.length co17,.slice Ao18 t422.length co18] 26 (0,0)) (pB BK426.out) hg (Kd.R_away HO_416003.out (fun _ hk=>hk.2.2.2.2)));have n3_:=am (hb);have n4_:=am (ho);clear BK414;clear BK415;clear BK426;clear HB;clear HO_416003;clear HO_427002;clear HO_427003;have BK414:=n0_;have BK415:=n1_;have BK426:=n2_;have HB:=n3_;have HO430:=n4_;clear n0_ n1_ n2_ n3_ n4_;clear ho hb hg hat;obtain ⟨Ao62,co62,eo62⟩:=Kd.R_slice HO430.out;subst eo62;have hcz63_0:w61.cell? ⟨gb415,0,none⟩=some (.int .i64 5):=(bkc BK415.out 0).trans rfl;have hcz63_1:w61.cell? ⟨gb415,1,none⟩=some (.string (⟨#[]⟩:ByteArray)):=(bkc BK415.out 1).trans rfl;have hcz63_2:w61.cell? ⟨gb415,2,none⟩=some (.slice none 0 0):=(bkc BK415.out 2).trans rfl;have hcz63_3:w61.cell? ⟨gb415,3,none⟩=some (u416003):=(bkc BK415.out 3).trans rfl;have hfz63_0:=bkf BK415.out 0;have hfz63_1:=bkf BK415.out 1;have hfz63_2:=bkf BK415.out 2;have hfz63_3:=bkf BK415.out 3))
 have n0_:Aside0 (Kd.R k26 26 (w61.setCell ⟨gb415,3,none⟩ (.slice Ao62 y428.length co62)) w.heap.size (fun k_=>k_≠gb414∧k_≠gb415∧k_≠gb426) (.slice Ao62 y428.length co62) y428):=⟨by (with_reducible repeat (first | apply Kd.R_alloc | apply Kd.R_drewN | apply Kd.R_drew));exact Kd.R_mono (Kd.R_far (p:=⟨gb415,3,none⟩) (Kd.R_mono HO430.out (fun k_ hk=>(⟨hk,hk.2.1⟩:_∧k_≠gb415))) (fun _ hk=>hk.2) (.slice Ao62 y428.length co62)) (fun _ hk=>⟨hk.1.1,⟨hk.1.2.1,hk.1.2.2⟩⟩)⟩
 have n1_:Aside0 ((w61.setCell ⟨gb415,3,none⟩ (.slice Ao62 y428.length co62)).heap[gb414]? = some (.cells #[.int .i64 x415000_3,.string x415001_3,.slice none 0 0,.slice none 0 0] 26 (0,0))):=⟨Z84⟩
 have n2_:Aside0 ((w61.setCell ⟨gb415,3,none⟩ (.slice Ao62 y428.length co62)).heap[gb415]? = some (.cells #[.int .i64 5,.string (⟨#[]⟩:ByteArray),.slice none 0 0,.slice Ao62 y428.length co62] 26 (0,0))):=⟨Z85⟩
 have n3_:Aside0 ((w61.setCell ⟨gb415,3,none⟩ (.slice Ao62 y428.length co62)).heap[gb426]? = some (.cells #[.int .i64 t417,.string t418,.slice Ao17 t419.length co17,.slice Ao18 t422.length co18] 26 (0,0))):=⟨Z86⟩
 have n4_:Aside0 (Below w.heap.size w (w61.setCell ⟨gb415,3,none⟩ (.slice Ao62 y428.length co62))):=⟨Z23⟩
 (try clear HO430)
 (try clear BK414)
 (try clear BK415)
 (try clear BK426)
 (try clear HB)
 generalize (w61.setCell ⟨gb415,3,none⟩ (.slice Ao62 y428.length co62))=w64 at n0_ n1_ n2_ n3_ n4_ ⊢
 have HO430:=n0_
 have BK414:=n1_
 have BK415:=n2_
 have BK426:=n3_
 have HB:=n4_
 clear n0_ n1_ n2_ n3_ n4_
 (try simp only [Act.put,List.setIfInBounds_toArray,List.set_cons_zero,List.set_cons_succ])
 have H:=HC55.out
 clear HC55
 by_cases c65:x17_1<(wrap64 ((l0.length:Int) - 1))
 rotate_left
 ·
  rw [if_neg c65] at H
  have c65b0:=df c65
  clear c65
  (first | rw [c65b0] | (simp only [i64_w,i32_w];rw [c65b0]) | skip)
  have H':=am H
  clear H
  go_wp2
  go_roundg k3
  case measure=>have:=HK1.out;have:=HJ10.out;have:=HK3.out;omega
  case rel=>exact ⟨(x8_1 ++ (rdOf ByteArray.empty l0 x17_1)),(wrap64 (x17_1+1)),(x415000_3),(x415001_3),(y428),(.slice Ao62 y428.length co62),Z0,Z0,H',⟨Z46⟩,⟨Z63⟩,⟨pB BK414.out⟩,⟨pB BK415.out⟩,⟨Z23⟩⟩
 rw [if_pos c65] at H
 have c65b0:=dt c65
 clear c65
 (first | rw [c65b0] | (simp only [i64_w,i32_w];rw [c65b0]) | skip)
 by_cases c66:(x8_1 ++ (rdOf ByteArray.empty l0 x17_1)).size+1≤9223372036854775807
 rotate_left
 ·
  rw [if_neg c66] at H
  exact absurd H Z3
 rw [if_pos c66] at H
 have c66b0:=eq_true c66
 have c66b1:=dt c66
 have c66b3:x8_1.size+(rdOf ByteArray.empty l0 x17_1).size+1≤9223372036854775807:=by rw [← ByteArray.size_append];exact c66
 have c66b4:=dt c66b3
 try have c66b2:(9223372036854775807<(x8_1 ++ (rdOf ByteArray.empty l0 x17_1)).size+1)=False:=eq_false (Nat.not_lt.2 c66)
 have H':=am H
 clear H
 go_wp2
 go_roundg k3
 case measure=>have:=HK1.out;have:=HJ10.out;have:=HK3.out;omega
 case rel=>exact ⟨((x8_1 ++ (rdOf ByteArray.empty l0 x17_1)) ++ (⟨#[10]⟩:ByteArray)),(wrap64 (x17_1+1)),(x415000_3),(x415001_3),(y428),(.slice Ao62 y428.length co62),Z0,Z0,H',⟨Z46⟩,⟨Z63⟩,⟨pB BK414.out⟩,⟨pB BK415.out⟩,⟨Z23⟩⟩
end Go.Proofs.YtieflhncpjjciaaGreatDoor.PFnGjSquashItems
