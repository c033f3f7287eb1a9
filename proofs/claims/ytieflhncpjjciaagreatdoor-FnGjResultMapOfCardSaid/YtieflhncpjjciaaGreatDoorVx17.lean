import Derived.Test.YtieflhncpjjciaaGreatDoorVq
import Derived.Test.YtieflhncpjjciaaGreatDoorVx0
set_option maxHeartbeats 8000000
set_option maxRecDepth 100000
namespace Go.Proofs.YtieflhncpjjciaaGreatDoor.PFnGjSquashItems
open Go.RowKit Go.Proofs.YtieflhncpjjciaaGreatDoorW.PrintWords Go.Proofs.YtieflhncpjjciaaGreatDoorW.PrintLast Go.Proofs.YtieflhncpjjciaaGreatDoorW.PrintMore
attribute [local go_sem] max2_int min2_int max_two min_two max_three min_three max_four min_four
set_option linter.unusedVariables false
set_option linter.unusedSimpArgs false
def spec_Member.l0:Nat→ByteArray→List ByteArray→Int→Int→Option (Int)
 | 0,_,_,_,_=>none
 | k+1,x1,x8,x9,x10=>if x10<x9 then (if 0≤x10 then (if x10<(x8.length:Int) then (if (rdOf ByteArray.empty x8 x10).toList=x1.toList then (some x10) else (spec_Member.l0 k x1 x8 x9 (wrap64 (x10+1)))) else (none)) else (none)) else (some (-1))
def spec_Member.f (k:Nat) (a0_0:Int) (a0_1:ByteArray) (l0_2:List ByteArray) (l0_3:List (S26)) (a1:ByteArray):Option (Int):=spec_Member.l0 k a1 l0_2 (l0_2.length:Int) 0
theorem spec_Member.calls (k:Nat) (a0_0:Int) (a0_1:ByteArray) (A0_2:Option Addr) (c0_2:Nat) (l0_2:List ByteArray) (A0_3:Option Addr) (c0_3:Nat) (l0_3:List (S26)) (a1:ByteArray) (r:Int) (w:World) (hr0_2:Kd.C Kd.string w A0_2 l0_2.length l0_2) (hc0_2:l0_2.length≤c0_2) (hr0_3:Kd.C k26 w A0_3 l0_3.length l0_3) (hc0_3:l0_3.length≤c0_3) (h:spec_Member.f k a0_0 a0_1 l0_2 l0_3 a1=some r) :
  Calls Tryz.prog 19 #[.agg #[.int .i64 a0_0,.string a0_1,.slice A0_2 l0_2.length c0_2,.slice A0_3 l0_3.length c0_3],.string a1] w fun e w'=>e = .returned (.int .i64 r)∧Below w.heap.size w w':=by
 have hu26:=Tryz.underlying26
 have HR0_2:=am hr0_2
 have HC0_2:=am hc0_2
 clear hr0_2 hc0_2
 have HR0_3:=am hr0_3
 have HC0_3:=am hc0_3
 clear hr0_3 hc0_3
 have HB:=am (Below.refl w.heap.size w)
 have H:(spec_Member.l0 k a1 l0_2 (l0_2.length:Int) 0)=some r:=h
 clear h
 have H':=am H
 clear H
 go_enter Tryz.func19,Tryz.ntmps19
 go_wp2_with (first | ((with_reducible refine gate_dst (N:=2) rfl ?_);refine box_event ?hg (N:=2) ?hd (cs:=#[.int .i64 a0_0,.string a0_1,.slice A0_2 l0_2.length c0_2,.slice A0_3 l0_3.length c0_3]) (t:=26) ?hr ?_;(case hd=>exact Z9);(case hg=>exact Z9);(case hr=>exact Z17);intro gb463 hg w3 hbox hb;have n0_:=am (below_step Z11 hb);have n1_:=am (hbox);have n2_:=am ((Z75:w.heap.size≤gb463));have n3_:=am ((Z75:w.heap.size≤gb463));clear HB;have HB:=n0_;have BK463:=n1_;have GW463:=n2_;have GE463:=n3_;clear n0_ n1_ n2_ n3_;clear hb hbox hg;have hcz4_0:w3.cell? ⟨gb463,0,none⟩=some (.int .i64 a0_0):=(bkc BK463.out 0).trans rfl;have hcz4_1:w3.cell? ⟨gb463,1,none⟩=some (.string a0_1):=(bkc BK463.out 1).trans rfl;have hcz4_2:w3.cell? ⟨gb463,2,none⟩=some (.slice A0_2 l0_2.length c0_2):=(bkc BK463.out 2).trans rfl;have hcz4_3:w3.cell? ⟨gb463,3,none⟩=some (.slice A0_3 l0_3.length c0_3):=(bkc BK463.out 3).trans rfl;have hfz4_0:=bkf BK463.out 0;have hfz4_1:=bkf BK463.out 1;have hfz4_2:=bkf BK463.out 2;have hfz4_3:=bkf BK463.out 3))
 (try simp only [Act.put,List.setIfInBounds_toArray,List.set_cons_succ,List.set_cons_zero])
 go_loopg [10] k (fun kq v10 w'=>∃ (x10_1:Int),v10 = .int .i64 x10_1∧Aside0 (spec_Member.l0 kq a1 l0_2 (l0_2.length:Int) x10_1=some r)∧Aside0 (kq≤k)∧Aside0 (w'.heap[gb463]? = some (.cells #[.int .i64 a0_0,.string a0_1,(.slice A0_2 l0_2.length c0_2),(.slice A0_3 l0_3.length c0_3)] 26 (0,0)))∧Aside0 (Below w.heap.size w w'))
 case atStart=>exact ⟨(0),Z0,H',⟨Nat.le_refl _⟩,⟨pB BK463.out⟩,⟨Z41⟩⟩
 clear H'
 try clear c1;try clear p2;try clear hcz4_0;try clear hcz4_1;try clear hcz4_2;try clear hcz4_3;try clear hfz4_0;try clear hfz4_1;try clear hfz4_2;try clear hfz4_3
 obtain ⟨x10_1,rfl,HA,HK1,BK463,HB⟩:=hrel
 cases gk with
 | zero=>exact absurd HA.out (by simp [spec_Member.l0])
 | succ k1=>
 have H:=HA.out
 clear HA
 simp only [spec_Member.l0] at H
 by_cases c5:x10_1<(l0_2.length:Int)
 rotate_left
 ·
  rw [if_neg c5] at H
  have c5b0:=df c5
  clear c5
  obtain rfl:=Option.some.inj H
  go_wp2
  go_ret
  exact ⟨Z12,Z41⟩
 rw [if_pos c5] at H
 have c5b0:=dt c5
 clear c5
 by_cases c6:0≤x10_1
 rotate_left
 ·
  rw [if_neg c6] at H
  exact absurd H Z6
 rw [if_pos c6] at H
 have c6b0:=dt c6
 clear c6
 by_cases c7:x10_1<(l0_2.length:Int)
 rotate_left
 ·
  rw [if_neg c7] at H
  exact absurd H Z6
 rw [if_pos c7] at H
 have c7b0:=dt c7
 clear c7
 by_cases c8:(rdOf ByteArray.empty l0_2 x10_1).toList=a1.toList
 ·
  rw [if_pos c8] at H
  have c8b0:=beq_iff_eq.mpr c8
  have c8b1:=bnf c8
  clear c8
  obtain rfl:=Option.some.inj H
  have p464:0≤(x10_1:Int):=od Z8
  have q464:x10_1<(l0_2.length:Int):=od Z8
  obtain ⟨ad464,e464,hx464_0⟩:=Kd.at_string HR0_2.out x10_1 p464 q464
  cases e464
  replace hx464_0:=(HB.out.cell (blc w _ hx464_0)).trans hx464_0
  replace p464:=eq_true p464
  replace q464:=eq_true q464
  go_wp2
  go_ret
  exact ⟨Z12,Z41⟩
 rw [if_neg c8] at H
 have c8b0:=bfe c8
 have c8b1:=bne_iff_ne.mpr c8
 have H':=am H
 clear H
 have p464:0≤(x10_1:Int):=od Z8
 have q464:x10_1<(l0_2.length:Int):=od Z8
 obtain ⟨ad464,e464,hx464_0⟩:=Kd.at_string HR0_2.out x10_1 p464 q464
 cases e464
 replace hx464_0:=(HB.out.cell (blc w _ hx464_0)).trans hx464_0
 replace p464:=eq_true p464
 replace q464:=eq_true q464
 go_wp2
 go_roundg k1
 case measure=>have:=HK1.out;omega
 case rel=>exact ⟨(wrap64 (x10_1+1)),Z0,H',⟨Z19⟩,⟨pB BK463.out⟩,⟨Z41⟩⟩
end Go.Proofs.YtieflhncpjjciaaGreatDoor.PFnGjSquashItems
