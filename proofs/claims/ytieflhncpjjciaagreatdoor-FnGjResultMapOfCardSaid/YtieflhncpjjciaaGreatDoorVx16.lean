import Derived.Test.YtieflhncpjjciaaGreatDoorVq
import Derived.Test.YtieflhncpjjciaaGreatDoorVx0
import Derived.Test.YtieflhncpjjciaaGreatDoorVx9
set_option maxHeartbeats 8000000
set_option maxRecDepth 100000
namespace Go.Proofs.YtieflhncpjjciaaGreatDoor.PFnGjSquashItems
open Go.RowKit Go.Proofs.YtieflhncpjjciaaGreatDoorW.PrintWords Go.Proofs.YtieflhncpjjciaaGreatDoorW.PrintLast Go.Proofs.YtieflhncpjjciaaGreatDoorW.PrintMore
attribute [local go_sem] max2_int min2_int max_two min_two max_three min_three max_four min_four
set_option linter.unusedVariables false
set_option linter.unusedSimpArgs false
def spec_at.l0:Nat→ByteArray→Int→Int→ByteArray→List ByteArray→List (S26)→Option (Int)
 | 0,_,_,_,_,_,_=>none
 | k+1,x1,x5,x408000,x408001,x408002,x408003=>if x5≥0 then (if 0≤x5 then (if x5<(x408002.length:Int) then (if (rdOf ByteArray.empty x408002 x5).toList=x1.toList then (some x5) else (spec_at.l0 k x1 (wrap64 (x5 - 1)) x408000 x408001 x408002 x408003)) else (none)) else (none)) else (some (-1))
def spec_at.f (k:Nat) (a0_0:Int) (a0_1:ByteArray) (l0_2:List ByteArray) (l0_3:List (S26)) (a1:ByteArray):Option (Int):=spec_at.l0 k a1 (wrap64 ((l0_2.length:Int) - 1)) a0_0 a0_1 l0_2 l0_3
theorem spec_at.calls (k:Nat) (a0_0:Int) (a0_1:ByteArray) (A0_2:Option Addr) (c0_2:Nat) (l0_2:List ByteArray) (A0_3:Option Addr) (c0_3:Nat) (l0_3:List (S26)) (a1:ByteArray) (r:Int) (w:World) (hr0_2:Kd.C Kd.string w A0_2 l0_2.length l0_2) (hc0_2:l0_2.length≤c0_2) (hr0_3:Kd.C k26 w A0_3 l0_3.length l0_3) (hc0_3:l0_3.length≤c0_3) (h:spec_at.f k a0_0 a0_1 l0_2 l0_3 a1=some r) :
  Calls Tryz.prog 49 #[.agg #[.int .i64 a0_0,.string a0_1,.slice A0_2 l0_2.length c0_2,.slice A0_3 l0_3.length c0_3],.string a1] w fun e w'=>e = .returned (.int .i64 r)∧Below w.heap.size w w':=by
 have hu26:=Tryz.underlying26
 have HR0_2:=am hr0_2
 have HC0_2:=am hc0_2
 clear hr0_2 hc0_2
 have HR0_3:=am hr0_3
 have HC0_3:=am hc0_3
 clear hr0_3 hc0_3
 have HB:=am (Below.refl w.heap.size w)
 have H:(spec_at.l0 k a1 (wrap64 ((l0_2.length:Int) - 1)) a0_0 a0_1 l0_2 l0_3)=some r:=h
 clear h
 have H':=am H
 clear H
 go_enter Tryz.func49,Tryz.ntmps49
 go_wp2_with (first | ((with_reducible refine gate_dst (N:=2) rfl ?_);refine box_event ?hg (N:=2) ?hd (cs:=#[.int .i64 a0_0,.string a0_1,.slice A0_2 l0_2.length c0_2,.slice A0_3 l0_3.length c0_3]) (t:=26) ?hr ?_;(case hd=>exact Z9);(case hg=>exact Z9);(case hr=>exact Z17);intro gb407 hg w3 hbox hb;have n0_:=am (below_step Z11 hb);have n1_:=am (hbox);have n2_:=am ((Z75:w.heap.size≤gb407));have n3_:=am ((Z75:w.heap.size≤gb407));clear HB;have HB:=n0_;have BK407:=n1_;have GW407:=n2_;have GE407:=n3_;clear n0_ n1_ n2_ n3_;clear hb hbox hg;have hcz4_0:w3.cell? ⟨gb407,0,none⟩=some (.int .i64 a0_0):=(bkc BK407.out 0).trans rfl;have hcz4_1:w3.cell? ⟨gb407,1,none⟩=some (.string a0_1):=(bkc BK407.out 1).trans rfl;have hcz4_2:w3.cell? ⟨gb407,2,none⟩=some (.slice A0_2 l0_2.length c0_2):=(bkc BK407.out 2).trans rfl;have hcz4_3:w3.cell? ⟨gb407,3,none⟩=some (.slice A0_3 l0_3.length c0_3):=(bkc BK407.out 3).trans rfl;have hfz4_0:=bkf BK407.out 0;have hfz4_1:=bkf BK407.out 1;have hfz4_2:=bkf BK407.out 2;have hfz4_3:=bkf BK407.out 3))
 (try simp only [Act.put,List.setIfInBounds_toArray,List.set_cons_succ,List.set_cons_zero])
 go_loopg [5] k (fun kq v5 w'=>∃ (x5_1:Int),v5 = .int .i64 x5_1∧Aside0 (spec_at.l0 kq a1 x5_1 a0_0 a0_1 l0_2 l0_3=some r)∧Aside0 (kq≤k)∧Aside0 (w'.heap[gb407]? = some (.cells #[.int .i64 a0_0,.string a0_1,(.slice A0_2 l0_2.length c0_2),(.slice A0_3 l0_3.length c0_3)] 26 (0,0)))∧Aside0 (Below w.heap.size w w'))
 case atStart=>exact ⟨(wrap64 ((l0_2.length:Int) - 1)),Z0,H',⟨Nat.le_refl _⟩,⟨pB BK407.out⟩,⟨Z40⟩⟩
 clear H'
 try clear p2;try clear c4;try clear hcz4_0;try clear hcz4_1;try clear hcz4_2;try clear hcz4_3;try clear hfz4_0;try clear hfz4_1;try clear hfz4_2;try clear hfz4_3
 obtain ⟨x5_1,rfl,HA,HK1,BK407,HB⟩:=hrel
 cases gk with
 | zero=>exact absurd HA.out (by simp [spec_at.l0])
 | succ k1=>
 have H:=HA.out
 clear HA
 simp only [spec_at.l0] at H
 by_cases c5:x5_1≥0
 rotate_left
 ·
  rw [if_neg c5] at H
  have c5b0:=df c5
  clear c5
  obtain rfl:=Option.some.inj H
  go_wp2
  go_ret
  exact ⟨Z12,Z40⟩
 rw [if_pos c5] at H
 have c5b0:=dt c5
 clear c5
 by_cases c6:0≤x5_1
 rotate_left
 ·
  rw [if_neg c6] at H
  exact absurd H Z6
 rw [if_pos c6] at H
 have c6b0:=dt c6
 clear c6
 by_cases c7:x5_1<(l0_2.length:Int)
 rotate_left
 ·
  rw [if_neg c7] at H
  exact absurd H Z6
 rw [if_pos c7] at H
 have c7b0:=dt c7
 clear c7
 by_cases c8:(rdOf ByteArray.empty l0_2 x5_1).toList=a1.toList
 ·
  rw [if_pos c8] at H
  have c8b0:=beq_iff_eq.mpr c8
  have c8b1:=bnf c8
  clear c8
  obtain rfl:=Option.some.inj H
  have hcz9_0:wr.cell? ⟨gb407,0,none⟩=some (.int .i64 a0_0):=(bkc BK407.out 0).trans rfl
  have hcz9_1:wr.cell? ⟨gb407,1,none⟩=some (.string a0_1):=(bkc BK407.out 1).trans rfl
  have hcz9_2:wr.cell? ⟨gb407,2,none⟩=some (.slice A0_2 l0_2.length c0_2):=(bkc BK407.out 2).trans rfl
  have hcz9_3:wr.cell? ⟨gb407,3,none⟩=some (.slice A0_3 l0_3.length c0_3):=(bkc BK407.out 3).trans rfl
  have hfz9_0:=bkf BK407.out 0
  have hfz9_1:=bkf BK407.out 1
  have hfz9_2:=bkf BK407.out 2
  have hfz9_3:=bkf BK407.out 3
  have p408:0≤(x5_1:Int):=od Z8
  have q408:x5_1<(l0_2.length:Int):=od Z8
  obtain ⟨ad408,e408,hx408_0⟩:=Kd.at_string HR0_2.out x5_1 p408 q408
  cases e408
  replace hx408_0:=(HB.out.cell (blc w _ hx408_0)).trans hx408_0
  replace p408:=eq_true p408
  replace q408:=eq_true q408
  go_wp2
  go_ret
  exact ⟨Z12,Z40⟩
 rw [if_neg c8] at H
 have c8b0:=bfe c8
 have c8b1:=bne_iff_ne.mpr c8
 have H':=am H
 clear H
 have hcz10_0:wr.cell? ⟨gb407,0,none⟩=some (.int .i64 a0_0):=(bkc BK407.out 0).trans rfl
 have hcz10_1:wr.cell? ⟨gb407,1,none⟩=some (.string a0_1):=(bkc BK407.out 1).trans rfl
 have hcz10_2:wr.cell? ⟨gb407,2,none⟩=some (.slice A0_2 l0_2.length c0_2):=(bkc BK407.out 2).trans rfl
 have hcz10_3:wr.cell? ⟨gb407,3,none⟩=some (.slice A0_3 l0_3.length c0_3):=(bkc BK407.out 3).trans rfl
 have hfz10_0:=bkf BK407.out 0
 have hfz10_1:=bkf BK407.out 1
 have hfz10_2:=bkf BK407.out 2
 have hfz10_3:=bkf BK407.out 3
 have p408:0≤(x5_1:Int):=od Z8
 have q408:x5_1<(l0_2.length:Int):=od Z8
 obtain ⟨ad408,e408,hx408_0⟩:=Kd.at_string HR0_2.out x5_1 p408 q408
 cases e408
 replace hx408_0:=(HB.out.cell (blc w _ hx408_0)).trans hx408_0
 replace p408:=eq_true p408
 replace q408:=eq_true q408
 go_wp2
 go_roundg k1
 case measure=>have:=HK1.out;omega
 case rel=>exact ⟨(wrap64 (x5_1 - 1)),Z0,H',⟨Z19⟩,⟨pB BK407.out⟩,⟨Z40⟩⟩
mutual
def spec_Unique.l0:Nat→Int→Int→ByteArray→List ByteArray→List (S26)→Option (Bool)
 | 0,_,_,_,_,_=>none
 | k+1,x3,x410000,x410001,x410002,x410003=>if x3<(x410002.length:Int) then (if 0≤x3 then ((spec_at.f k x410000 x410001 x410002 x410003 (rdOf ByteArray.empty x410002 x3)).bind fun t411=>(if t411=x3 then (spec_Unique.l0 k (wrap64 (x3+1)) x410000 x410001 x410002 x410003) else (some false))) else (none)) else (spec_Unique.l1 k 0 x410000 x410001 x410002 x410003)
def spec_Unique.l1:Nat→Int→Int→ByteArray→List ByteArray→List (S26)→Option (Bool)
 | 0,_,_,_,_,_=>none
 | k+1,x4,x410000,x410001,x410002,x410003=>if x4<(x410003.length:Int) then (if 0≤x4 then ((spec_Unique.f k ((rd_T26 x410003 x4).f0) ((rd_T26 x410003 x4).f1) ((rd_T26 x410003 x4).f2) ((rd_T26 x410003 x4).f3)).bind fun t413=>(if t413=true then (spec_Unique.l1 k (wrap64 (x4+1)) x410000 x410001 x410002 x410003) else (some false))) else (none)) else (some true)
def spec_Unique.f:Nat→Int→ByteArray→List ByteArray→List (S26)→Option (Bool)
 | 0,_,_,_,_=>none
 | k+1,a0_0,a0_1,l0_2,l0_3=>spec_Unique.l0 k 0 a0_0 a0_1 l0_2 l0_3
end
def spec_Unique.T4:Bool×List (List Nat×List Nat):=(true,[([],[]),([],[]),([1],[1]),([],[]),([2,3],[2,3]),([4],[4]),([0,5],[0,5]),([],[]),([6,7],[6,7])])
def spec_Unique.B4:List Nat:=[0,0,2,0,14,30,63,0,255]
theorem spec_Unique.tab4:rtab .any (opsOf Tryz.f24 4)=spec_Unique.T4:=Z1
theorem spec_Unique.bits4:waitsOk spec_Unique.T4.2 spec_Unique.B4=true:=Z1
theorem spec_Unique.calls (k:Nat):∀ (a0_0:Int) (a0_1:ByteArray) (A0_2:Option Addr) (c0_2:Nat) (l0_2:List ByteArray) (A0_3:Option Addr) (c0_3:Nat) (l0_3:List (S26)) (r:Bool) (w:World) (hr0_2:Kd.C Kd.string w A0_2 l0_2.length l0_2) (hc0_2:l0_2.length≤c0_2) (hr0_3:Kd.C k26 w A0_3 l0_3.length l0_3) (hc0_3:l0_3.length≤c0_3) (h:spec_Unique.f k a0_0 a0_1 l0_2 l0_3=some r),
  Calls Tryz.prog 24 #[.agg #[.int .i64 a0_0,.string a0_1,.slice A0_2 l0_2.length c0_2,.slice A0_3 l0_3.length c0_3]] w fun e w'=>e = .returned (.bool r)∧Below w.heap.size w w':=by
 induction k using Nat.strongRecOn with
 | _ k ih=>
 intro a0_0 a0_1 A0_2 c0_2 l0_2 A0_3 c0_3 l0_3 r w hr0_2 hc0_2 hr0_3 hc0_3 h
 cases k with
 | zero=>exact absurd h (by simp [spec_Unique.f])
 | succ k=>
 simp only [spec_Unique.f] at h
 have hu26:=Tryz.underlying26
 have HR0_2:=am hr0_2
 have HC0_2:=am hc0_2
 clear hr0_2 hc0_2
 have HR0_3:=am hr0_3
 have HC0_3:=am hc0_3
 clear hr0_3 hc0_3
 have HB:=am (Below.refl w.heap.size w)
 have H:(spec_Unique.l0 k 0 a0_0 a0_1 l0_2 l0_3)=some r:=h
 clear h
 have H':=am H
 clear H
 go_enter Tryz.func24,Tryz.ntmps24
 go_wp2_with (first | ((with_reducible refine gate_dst (N:=1) rfl ?_);refine box_event ?hg (N:=1) ?hd (cs:=#[.int .i64 a0_0,.string a0_1,.slice A0_2 l0_2.length c0_2,.slice A0_3 l0_3.length c0_3]) (t:=26) ?hr ?_;(case hd=>exact Z9);(case hg=>exact Z9);(case hr=>exact Z17);intro gb409 hg w2 hbox hb;have n0_:=am (below_step Z11 hb);have n1_:=am (hbox);have n2_:=am ((Z75:w.heap.size≤gb409));have n3_:=am ((Z75:w.heap.size≤gb409));clear HB;have HB:=n0_;have BK409:=n1_;have GW409:=n2_;have GE409:=n3_;clear n0_ n1_ n2_ n3_;clear hb hbox hg))
 (try simp only [Act.put,List.setIfInBounds_toArray,List.set_cons_succ,List.set_cons_zero])
 go_loopg [3] k (fun kq v3 w'=>∃ (x3_1:Int),v3 = .int .i64 x3_1∧Aside0 (spec_Unique.l0 kq x3_1 a0_0 a0_1 l0_2 l0_3=some r)∧Aside0 (kq≤k)∧Aside0 (w'.heap[gb409]? = some (.cells #[.int .i64 a0_0,.string a0_1,(.slice A0_2 l0_2.length c0_2),(.slice A0_3 l0_3.length c0_3)] 26 (0,0)))∧Aside0 (Below w.heap.size w w'))
 case atStart=>exact ⟨(0),Z0,H',⟨Nat.le_refl _⟩,⟨pB BK409.out⟩,⟨Z29⟩⟩
 clear H'
 try clear c2;try clear p2
 obtain ⟨x3_1,rfl,HA,HK1,BK409,HB⟩:=hrel
 cases gk with
 | zero=>exact absurd HA.out (by simp [spec_Unique.l0])
 | succ k1=>
 have H:=HA.out
 clear HA
 simp only [spec_Unique.l0] at H
 by_cases c3:x3_1<(l0_2.length:Int)
 rotate_left
 ·
  rw [if_neg c3] at H
  have c3b0:=df c3
  clear c3
  have H':=am H
  clear H
  have hcz11_0:wr.cell? ⟨gb409,0,none⟩=some (.int .i64 a0_0):=(bkc BK409.out 0).trans rfl
  have hcz11_1:wr.cell? ⟨gb409,1,none⟩=some (.string a0_1):=(bkc BK409.out 1).trans rfl
  have hcz11_2:wr.cell? ⟨gb409,2,none⟩=some (.slice A0_2 l0_2.length c0_2):=(bkc BK409.out 2).trans rfl
  have hcz11_3:wr.cell? ⟨gb409,3,none⟩=some (.slice A0_3 l0_3.length c0_3):=(bkc BK409.out 3).trans rfl
  have hfz11_0:=bkf BK409.out 0
  have hfz11_1:=bkf BK409.out 1
  have hfz11_2:=bkf BK409.out 2
  have hfz11_3:=bkf BK409.out 3
  go_wp2
  (try simp only [Act.put,List.setIfInBounds_toArray,List.set_cons_succ,List.set_cons_zero])
  go_loopg [4] k1 (fun kq v4 w'=>∃ (x4_2:Int),v4 = .int .i64 x4_2∧Aside0 (spec_Unique.l1 kq x4_2 a0_0 a0_1 l0_2 l0_3=some r)∧Aside0 (kq≤k1)∧Aside0 (w'.heap[gb409]? = some (.cells #[.int .i64 a0_0,.string a0_1,(.slice A0_2 l0_2.length c0_2),(.slice A0_3 l0_3.length c0_3)] 26 (0,0)))∧Aside0 (Below w.heap.size w w'))
  case atStart=>exact ⟨(0),Z0,H',⟨Nat.le_refl _⟩,⟨pB BK409.out⟩,⟨Z29⟩⟩
  clear H'
  try clear c1;try clear c2;try clear p2;try clear c3;try clear c3b0;try clear c4;try clear c4b0;try clear p4;try clear q4;try clear hx4;try clear p6;try clear c10;try clear c10b0;try clear c10b1;try clear hcz11_0;try clear hcz11_1;try clear hcz11_2;try clear hcz11_3;try clear hcz7_0;try clear hcz7_1;try clear hcz7_2;try clear hcz7_3;try clear hfz11_0;try clear hfz11_1;try clear hfz11_2;try clear hfz11_3;try clear hfz7_0;try clear hfz7_1;try clear hfz7_2;try clear hfz7_3;try clear hx410_0;try clear p2;try clear p410;try clear q410
  obtain ⟨x4_2,rfl,HA,HK2,BK409,HB⟩:=hrel
  cases gk with
  | zero=>exact absurd HA.out (by simp [spec_Unique.l1])
  | succ k2=>
  have H:=HA.out
  clear HA
  simp only [spec_Unique.l1] at H
  by_cases c12:x4_2<(l0_3.length:Int)
  rotate_left
  ·
   rw [if_neg c12] at H
   have c12b0:=df c12
   clear c12
   obtain rfl:=Option.some.inj H
   have hcz19_0:wr.cell? ⟨gb409,0,none⟩=some (.int .i64 a0_0):=(bkc BK409.out 0).trans rfl
   have hcz19_1:wr.cell? ⟨gb409,1,none⟩=some (.string a0_1):=(bkc BK409.out 1).trans rfl
   have hcz19_2:wr.cell? ⟨gb409,2,none⟩=some (.slice A0_2 l0_2.length c0_2):=(bkc BK409.out 2).trans rfl
   have hcz19_3:wr.cell? ⟨gb409,3,none⟩=some (.slice A0_3 l0_3.length c0_3):=(bkc BK409.out 3).trans rfl
   have hfz19_0:=bkf BK409.out 0
   have hfz19_1:=bkf BK409.out 1
   have hfz19_2:=bkf BK409.out 2
   have hfz19_3:=bkf BK409.out 3
   go_wp2
   go_ret
   exact ⟨Z12,Z29⟩
  rw [if_pos c12] at H
  have c12b0:=dt c12
  clear c12
  by_cases c13:0≤x4_2
  rotate_left
  ·
   rw [if_neg c13] at H
   exact absurd H Z6
  rw [if_pos c13] at H
  have c13b0:=dt c13
  clear c13
  replace H:=obs H
  obtain ⟨t413,A140,H⟩:=H
  have A14:=am A140
  clear A140
  have HC15:=am H
  clear H
  have hcz16_0:wr.cell? ⟨gb409,0,none⟩=some (.int .i64 a0_0):=(bkc BK409.out 0).trans rfl
  have hcz16_1:wr.cell? ⟨gb409,1,none⟩=some (.string a0_1):=(bkc BK409.out 1).trans rfl
  have hcz16_2:wr.cell? ⟨gb409,2,none⟩=some (.slice A0_2 l0_2.length c0_2):=(bkc BK409.out 2).trans rfl
  have hcz16_3:wr.cell? ⟨gb409,3,none⟩=some (.slice A0_3 l0_3.length c0_3):=(bkc BK409.out 3).trans rfl
  have hfz16_0:=bkf BK409.out 0
  have hfz16_1:=bkf BK409.out 1
  have hfz16_2:=bkf BK409.out 2
  have hfz16_3:=bkf BK409.out 3
  have p412:0≤(x4_2:Int):=od Z8
  have q412:x4_2<(l0_3.length:Int):=od Z8
  obtain ⟨ad412,A412_2,c412_2,A412_3,c412_3,e412,hx412_0,hx412_1,hx412_2,hx412_3,hl412_2,hi412_2,hl412_3,hi412_3⟩:=at_T26 HR0_3.out x4_2 p412 q412
  cases e412
  replace hx412_0:=(HB.out.cell (blc w _ hx412_0)).trans hx412_0
  replace hx412_1:=(HB.out.cell (blc w _ hx412_1)).trans hx412_1
  replace hx412_2:=(HB.out.cell (blc w _ hx412_2)).trans hx412_2
  replace hx412_3:=(HB.out.cell (blc w _ hx412_3)).trans hx412_3
  have HR412_2:=am hi412_2
  have HC412_2:=am hl412_2
  clear hi412_2 hl412_2
  have HR412_3:=am hi412_3
  have HC412_3:=am hl412_3
  clear hi412_3 hl412_3
  replace p412:=eq_true p412
  replace q412:=eq_true q412
  go_upto_if 34 with (first | ((with_reducible refine gate_callee (f:=24) rfl ?_);refine goesL_ (some 33) rfl rfl Tryz.func24 Z1 rfl #[.agg #[.int .i64 ((rd_T26 l0_3 x4_2).f0),.string ((rd_T26 l0_3 x4_2).f1),.slice A412_2 ((rd_T26 l0_3 x4_2).f2).length c412_2,.slice A412_3 ((rd_T26 l0_3 x4_2).f3).length c412_3]] rfl Z10 ?_;(with_reducible refine (ih k2 (by have:=HK1.out;have:=HK2.out;omega) ((rd_T26 l0_3 x4_2).f0) ((rd_T26 l0_3 x4_2).f1) _ _ ((rd_T26 l0_3 x4_2).f2) _ _ ((rd_T26 l0_3 x4_2).f3) t413 _ ?side1 ?side2 ?side3 ?side4 A14.out).mono ?_);(case side1=>repeat (first | exact (Kd.C_below HR412_2.out HB.out) | (with_reducible refine Kd.C_alloc ?_ _) | (with_reducible refine Kd.C_drewN ?_ _) | (with_reducible refine Kd.C_drew ?_)));(case side2=>exact HC412_2.out);(case side3=>repeat (first | exact (Kd.C_below HR412_3.out HB.out) | (with_reducible refine Kd.C_alloc ?_ _) | (with_reducible refine Kd.C_drewN ?_ _) | (with_reducible refine Kd.C_drew ?_)));(case side4=>exact HC412_3.out);rintro e w17 ⟨rfl,hb⟩;refine ⟨_,rfl,?_⟩;have n0_:=am (blk_below (g:=gb409) (o:=.cells #[.int .i64 a0_0,.string a0_1,.slice A0_2 l0_2.length c0_2,.slice (some ad412) l0_3.length c0_3] 26 (0,0)) (pB BK409.out) hb);have n1_:=am (below_step Z29 hb);clear BK409;clear HB;have BK409:=n0_;have HB:=n1_;clear n0_ n1_;(try clear hb);(try clear hb2);(try clear hk);(try clear hi)))
  (try simp only [Act.put,List.setIfInBounds_toArray,List.set_cons_zero,List.set_cons_succ])
  have H:=HC15.out
  clear HC15
  by_cases c18:t413=true
  rotate_left
  ·
   replace c18:=bef c18
   subst c18
   rw [if_neg (show ¬ (false=true) from Z2)] at H
   obtain rfl:=Option.some.inj H
   go_wp2
   go_ret
   exact ⟨Z12,Z29⟩
  subst c18
  rw [if_pos rfl] at H
  have H':=am H
  clear H
  go_wp2
  go_roundg k2
  case measure=>have:=HK1.out;have:=HK2.out;omega
  case rel=>exact ⟨(wrap64 (x4_2+1)),Z0,H',⟨by have:=HK1.out;have:=HK2.out;omega⟩,⟨pB BK409.out⟩,⟨Z29⟩⟩
 rw [if_pos c3] at H
 have c3b0:=dt c3
 clear c3
 by_cases c4:0≤x3_1
 rotate_left
 ·
  rw [if_neg c4] at H
  exact absurd H Z6
 rw [if_pos c4] at H
 have c4b0:=dt c4
 clear c4
 replace H:=obs H
 obtain ⟨t411,A50,H⟩:=H
 have A5:=am A50
 clear A50
 have HC6:=am H
 clear H
 have hcz7_0:wr.cell? ⟨gb409,0,none⟩=some (.int .i64 a0_0):=(bkc BK409.out 0).trans rfl
 have hcz7_1:wr.cell? ⟨gb409,1,none⟩=some (.string a0_1):=(bkc BK409.out 1).trans rfl
 have hcz7_2:wr.cell? ⟨gb409,2,none⟩=some (.slice A0_2 l0_2.length c0_2):=(bkc BK409.out 2).trans rfl
 have hcz7_3:wr.cell? ⟨gb409,3,none⟩=some (.slice A0_3 l0_3.length c0_3):=(bkc BK409.out 3).trans rfl
 have hfz7_0:=bkf BK409.out 0
 have hfz7_1:=bkf BK409.out 1
 have hfz7_2:=bkf BK409.out 2
 have hfz7_3:=bkf BK409.out 3
 try go_wp2
 have n0_:=am (bkd BK409.out)
 have n1_:=am (below_drew1 HB.out)
 clear BK409;clear HB
 have BK409:=n0_
 have HB:=n1_
 clear n0_ n1_
 have p410:0≤(x3_1:Int):=od Z8
 have q410:x3_1<(l0_2.length:Int):=od Z8
 obtain ⟨ad410,e410,hx410_0⟩:=Kd.at_string HR0_2.out x3_1 p410 q410
 have hw410_0:=hx410_0
 cases e410
 replace hx410_0:=(HB.out.cell (blc w _ hx410_0)).trans hx410_0
 replace p410:=eq_true p410
 replace q410:=eq_true q410
 refine start_ (n:=9) (S:=fun w'=>w'.cell? ⟨gb409,0,none⟩=some (.int .i64 a0_0)∧w'.cell? ⟨gb409,1,none⟩=some (.string a0_1)∧w'.cell? ⟨gb409,2,none⟩=some (.slice (some ad410) l0_2.length c0_2)∧w'.cell? ⟨gb409,3,none⟩=some (.slice A0_3 l0_3.length c0_3)∧w'.cell? (ad410.add (x3_1).toNat)=some (.string (rdOf ByteArray.empty l0_2 x3_1))) (ds:=[]) #[false,false,false,false,false,false,false,false,false] Z1 rfl rfl ⟨(bkc BK409.out 0).trans rfl,(bkc BK409.out 1).trans rfl,(bkc BK409.out 2).trans rfl,(bkc BK409.out 3).trans rfl,((HB.out.cell (blc w _ hw410_0)).trans hw410_0)⟩ (fun hHeld=>?_);refine with_tabW spec_Unique.tab4 spec_Unique.bits4 (fun HT_ HW_=>?_)
 generalize wr.drew=w8 at BK409 HB hx410_0 hHeld ⊢
 refine pure_ (i:=1) (N:=some 13) (v:=?_) (a':=?_) #[false,true,false,false,false,false,false,false,false] rfl rfl (any_of HT_.out Z1) (fun _ _ _ h=>h) (Or.inl ⟨Z9,?_⟩) ?_ ?_
 rotate_left
 ·
  intro w'
  go_simp
  with_reducible rfl
 rotate_left
 ·
  simp only [Act.put,List.setIfInBounds_toArray,List.set_cons_zero,List.set_cons_succ,i64_w,i32_w]
  rfl
 refine pure_ (i:=3) (N:=some 15) (v:=?_) (a':=?_) #[false,true,false,true,false,false,false,false,false] rfl rfl (any_of HT_.out Z1) (fun _ _ _ h=>h) (Or.inl ⟨Z9,?_⟩) ?_ ?_
 rotate_left
 ·
  intro w'
  go_simp
  with_reducible rfl
 rotate_left
 ·
  simp only [Act.put,List.setIfInBounds_toArray,List.set_cons_zero,List.set_cons_succ,i64_w,i32_w]
  rfl
 refine pure_ (i:=7) (N:=some 19) (v:=?_) (a':=?_) #[false,true,false,true,false,false,false,true,false] rfl rfl (any_of HT_.out Z1) (fun _ _ _ h=>h) (Or.inl ⟨Z9,?_⟩) ?_ ?_
 rotate_left
 ·
  intro w'
  go_simp
  with_reducible rfl
 rotate_left
 ·
  simp only [Act.put,List.setIfInBounds_toArray,List.set_cons_zero,List.set_cons_succ,i64_w,i32_w]
  rfl
 refine take_ (i:=0) (N:=some 12) (v:=?_) (a':=?_) #[true,true,false,true,false,false,false,true,false] rfl rfl (take_ofW HT_.out HW_.out Z1) (fun _ _ _ h=>h) (Or.inl ⟨Z9,?_⟩) hHeld ?_ ?_
 rotate_left
 ·
  rintro w' ⟨s0,s1,s2,s3,s4⟩
  go_simp
  with_reducible rfl
 rotate_left
 ·
  simp only [Act.put,List.setIfInBounds_toArray,List.set_cons_zero,List.set_cons_succ,i64_w,i32_w]
  rfl
 refine take_ (i:=2) (N:=some 14) (v:=?_) (a':=?_) #[true,true,true,true,false,false,false,true,false] rfl rfl (take_ofW HT_.out HW_.out Z1) (fun _ _ _ h=>h) (Or.inl ⟨Z9,?_⟩) hHeld ?_ ?_
 rotate_left
 ·
  rintro w' ⟨s0,s1,s2,s3,s4⟩
  go_simp
  with_reducible rfl
 rotate_left
 ·
  simp only [Act.put,List.setIfInBounds_toArray,List.set_cons_zero,List.set_cons_succ,i64_w,i32_w]
  rfl
 refine pure_ (i:=4) (N:=some 16) (v:=?_) (a':=?_) #[true,true,true,true,true,false,false,true,false] rfl rfl (any_of HT_.out Z1) (fun _ _ _ h=>h) (Or.inl ⟨Z9,?_⟩) ?_ ?_
 rotate_left
 ·
  intro w'
  go_simp
  with_reducible rfl
 rotate_left
 ·
  simp only [Act.put,List.setIfInBounds_toArray,List.set_cons_zero,List.set_cons_succ,i64_w,i32_w]
  rfl
 refine take_ (i:=5) (N:=some 17) (v:=?_) (a':=?_) #[true,true,true,true,true,true,false,true,false] rfl rfl (take_ofW HT_.out HW_.out Z1) (fun _ _ _ h=>h) (Or.inl ⟨Z9,?_⟩) hHeld ?_ ?_
 rotate_left
 ·
  rintro w' ⟨s0,s1,s2,s3,s4⟩
  go_simp
  with_reducible rfl
 rotate_left
 ·
  simp only [Act.put,List.setIfInBounds_toArray,List.set_cons_zero,List.set_cons_succ,i64_w,i32_w]
  rfl
 refine one_ (i:=6) (N:=some 18) #[true,true,true,true,true,true,true,true,false] rfl rfl (one_of HT_.out Z1) Z2 (fun K hK=>?_)
 refine goes_ Tryz.func49 Z1 rfl #[.agg #[.int .i64 a0_0,.string a0_1,.slice (some ad410) l0_2.length c0_2,.slice A0_3 l0_3.length c0_3],.string (rdOf ByteArray.empty l0_2 x3_1)] Z9 rfl rfl Z10 ?_
 with_reducible refine (spec_at.calls k1 a0_0 a0_1 _ _ l0_2 _ _ l0_3 (rdOf ByteArray.empty l0_2 x3_1) t411 _ ?side1 ?side2 ?side3 ?side4 A5.out).mono ?_
 (case side1=>repeat (first | exact (Kd.C_below HR0_2.out HB.out) | (with_reducible refine Kd.C_alloc ?_ _) | (with_reducible refine Kd.C_drewN ?_ _) | (with_reducible refine Kd.C_drew ?_)))
 (case side2=>exact HC0_2.out)
 (case side3=>repeat (first | exact (Kd.C_below HR0_3.out HB.out) | (with_reducible refine Kd.C_alloc ?_ _) | (with_reducible refine Kd.C_drewN ?_ _) | (with_reducible refine Kd.C_drew ?_)))
 (case side4=>exact HC0_3.out)
 rintro e w9 ⟨rfl,hb⟩
 refine ⟨_,rfl,?_⟩
 have n0_:=am (blk_below (g:=gb409) (o:=.cells #[.int .i64 a0_0,.string a0_1,.slice (some ad410) l0_2.length c0_2,.slice A0_3 l0_3.length c0_3] 26 (0,0)) (pB BK409.out) hb)
 have n1_:=am (below_step Z29 hb)
 clear BK409;clear HB
 have BK409:=n0_
 have HB:=n1_
 clear n0_ n1_
 (try clear hb)
 (try clear hb2)
 (try clear hk)
 (try clear hi)
 refine hK.out _ _ ⟨(bkc BK409.out 0).trans rfl,(bkc BK409.out 1).trans rfl,(bkc BK409.out 2).trans rfl,(bkc BK409.out 3).trans rfl,((HB.out.cell (blc w _ hw410_0)).trans hw410_0)⟩ (fun hHeld=>?_)
 clear hK K
 refine norm_ (a':=?_) ?_ ?_
 rotate_left
 ·
  show Act.put _ (some 18) _=_
  simp only [Act.put,List.setIfInBounds_toArray,List.set_cons_zero,List.set_cons_succ,i64_w,i32_w]
  rfl
 refine pure_ (i:=8) (N:=some 20) (v:=?_) (a':=?_) #[true,true,true,true,true,true,true,true,true] rfl rfl (any_of HT_.out Z1) (fun _ _ _ h=>h) (Or.inl ⟨Z9,?_⟩) ?_ ?_
 rotate_left
 ·
  intro w'
  go_simp
  with_reducible rfl
 rotate_left
 ·
  simp only [Act.put,List.setIfInBounds_toArray,List.set_cons_zero,List.set_cons_succ,i64_w,i32_w]
  rfl
 refine done_ (done_of HT_.out Z1) ?_
 go_upto_if 20 with (fail)
 (try simp only [Act.put,List.setIfInBounds_toArray,List.set_cons_zero,List.set_cons_succ])
 have H:=HC6.out
 clear HC6
 by_cases c10:t411=x3_1
 rotate_left
 ·
  rw [if_neg c10] at H
  have c10b0:=bfe c10
  have c10b1:=bne_iff_ne.mpr c10
  (first | rw [c10b0] | (simp only [i64_w,i32_w];rw [c10b0]) | skip)
  obtain rfl:=Option.some.inj H
  go_wp2
  go_ret
  exact ⟨Z12,Z29⟩
 rw [if_pos c10] at H
 have c10b0:=beq_iff_eq.mpr c10
 have c10b1:=bnf c10
 clear c10
 (first | rw [c10b0] | (simp only [i64_w,i32_w];rw [c10b0]) | skip)
 have H':=am H
 clear H
 go_wp2
 go_roundg k1
 case measure=>have:=HK1.out;omega
 case rel=>exact ⟨(wrap64 (x3_1+1)),Z0,H',⟨Z19⟩,⟨pB BK409.out⟩,⟨Z29⟩⟩
end Go.Proofs.YtieflhncpjjciaaGreatDoor.PFnGjSquashItems
