import Derived.Test.YtieflhncpjjciaaGreatDoorVq
import Derived.Test.YtieflhncpjjciaaGreatDoorVx0
import Derived.Test.YtieflhncpjjciaaGreatDoorVx1
set_option maxHeartbeats 8000000
set_option maxRecDepth 100000
namespace Go.Proofs.YtieflhncpjjciaaGreatDoor.PFnGjSquashItems
open Go.RowKit Go.Proofs.YtieflhncpjjciaaGreatDoorW.PrintWords Go.Proofs.YtieflhncpjjciaaGreatDoorW.PrintLast Go.Proofs.YtieflhncpjjciaaGreatDoorW.PrintMore
attribute [local go_sem] max2_int min2_int max_two min_two max_three min_three max_four min_four
set_option linter.unusedVariables false
set_option linter.unusedSimpArgs false
def spec_reader_quoted.l0:Nat→ByteArray→Int→Option (Bool×ByteArray×Int)
 | 0,_,_=>none
 | k+1,x1000,x1001=>if x1001<(x1000.size:Int) then (if 0≤x1001 then (if (bt x1000 x1001)=34 then (some (true,x1000,wrap64 (x1001+1))) else (if (bt x1000 x1001)<32 then (some (false,x1000,wrap64 (x1001+1))) else (if (bt x1000 x1001)=92 then ((spec_reader_escape.f k x1000 (wrap64 (x1001+1))).bind fun bt110=>(if bt110.1=true then (spec_reader_quoted.l0 k bt110.2.1 bt110.2.2) else (some (false,bt110.2.1,bt110.2.2)))) else (spec_reader_quoted.l0 k x1000 (wrap64 (x1001+1)))))) else (none)) else (some (false,x1000,x1001))
def spec_reader_quoted.f (k:Nat) (s0_0:ByteArray) (s0_1:Int):Option (Bool×ByteArray×Int):=spec_reader_quoted.l0 k s0_0 (wrap64 (s0_1+1))
theorem spec_reader_quoted.calls (k:Nat) (g:Nat) (s0_0:ByteArray) (s0_1:Int) (r1:Bool) (r2:ByteArray) (r3:Int) (w0 w:World) (hI:IsS72 w0 w g s0_0 s0_1) (hB:Below w0.heap.size w0 w) (h:spec_reader_quoted.f k s0_0 s0_1=some (r1,r2,r3)) :
  Calls Tryz.prog 66 #[.pointer (some ⟨g,0,none⟩)] w fun e w'=>e = .returned (.bool r1)∧IsS72 w0 w' g r2 r3∧Below w0.heap.size w0 w'∧KeepBut w w' g none:=by
 have HI0:=am hI
 have HK:=am (KeepBut.refl w g none)
 have HL:=am hB.size
 clear hI
 have HW0:=am hB.size
 have HB:=am hB
 clear hB
 have H:(spec_reader_quoted.l0 k s0_0 (wrap64 (s0_1+1)))=some (r1,r2,r3):=h
 clear h
 have H':=am H
 clear H
 obtain ⟨HGz2,hgz2⟩:=HI0.out
 have hcz2_0:=cellS72_0 HGz2
 have hcz2_1:=cellS72_1 HGz2
 have hfz2_0:=bkf HGz2 0
 have hfz2_1:=bkf HGz2 1
 clear HGz2 hgz2
 go_enter Tryz.func66,Tryz.ntmps66
 go_wp2
 repeat (go_quiet (fail);try go_wp2)
 (try simp only [Act.put,List.setIfInBounds_toArray,List.set_cons_succ,List.set_cons_zero])
 go_loopg [] k (fun kq w'=>∃ (x1000_1:ByteArray) (x1001_1:Int),Aside0 (spec_reader_quoted.l0 kq x1000_1 x1001_1=some (r1,r2,r3))∧Aside0 (kq≤k)∧Aside0 (IsS72 w0 w' g x1000_1 x1001_1)∧Aside0 (KeepBut w w' g none)∧Aside0 (Below w0.heap.size w0 w'))
 case atStart=>exact ⟨(s0_0),(wrap64 (s0_1+1)),H',⟨Nat.le_refl _⟩,⟨Z3⟩,⟨Z4⟩,⟨Z7⟩⟩
 clear H'
 try clear p2;try clear hcz2_0;try clear hcz2_1;try clear hfz2_0;try clear hfz2_1
 obtain ⟨x1000_1,x1001_1,HA,HK1,HI0,HK,HB⟩:=hrel
 cases gk with
 | zero=>exact absurd HA.out (by simp [spec_reader_quoted.l0])
 | succ k1=>
 have H:=HA.out
 clear HA
 simp only [spec_reader_quoted.l0] at H
 by_cases c3:x1001_1<(x1000_1.size:Int)
 rotate_left
 ·
  rw [if_neg c3] at H
  have c3b0:=df c3
  clear c3
  simp only [Option.some.injEq,Prod.mk.injEq] at H
  obtain ⟨rfl,rfl,rfl⟩:=H
  obtain ⟨HGz16,hgz16⟩:=HI0.out
  have hcz16_0:=cellS72_0 HGz16
  have hcz16_1:=cellS72_1 HGz16
  have hfz16_0:=bkf HGz16 0
  have hfz16_1:=bkf HGz16 1
  clear HGz16 hgz16
  go_wp2
  repeat (go_quiet (fail);try go_wp2)
  go_ret
  exact ⟨Z12,Z3,Z7,Z4⟩
 rw [if_pos c3] at H
 have c3b0:=dt c3
 clear c3
 by_cases c4:0≤x1001_1
 rotate_left
 ·
  rw [if_neg c4] at H
  exact absurd H Z6
 rw [if_pos c4] at H
 have c4b0:=dt c4
 clear c4
 have HC6:=am H
 clear H
 obtain ⟨HGz7,hgz7⟩:=HI0.out
 have hcz7_0:=cellS72_0 HGz7
 have hcz7_1:=cellS72_1 HGz7
 have hfz7_0:=bkf HGz7 0
 have hfz7_1:=bkf HGz7 1
 clear HGz7 hgz7
 have p5:0≤(x1001_1:Int):=od Z8
 have q5:x1001_1<(x1000_1.size:Int):=od Z8
 have hx5:=bt_at x1000_1 x1001_1
 replace p5:=eq_true p5
 replace q5:=eq_true q5
 try go_upto_if 37 with (fail)
 repeat (go_quiet (fail);try go_upto_if 37 with (fail))
 refine wp_named ?_
 intro w8 hw_
 have n0_:Aside0 (IsS72 w0 w8 g x1000_1 (wrap64 (x1001_1+1))):=⟨by rw [hw_];repeat (first | (with_reducible first | exact HI0.out | apply IsS72.alloc | apply IsS72.drewN | apply IsS72.drew | apply IsS72.set_0 | apply IsS72.set_1) | exact HI0.out)⟩
 have n1_:Aside0 (KeepBut w w8 g none):=⟨by rw [hw_];repeat (first | (with_reducible first | exact HK.out | apply KeepBut.set_ | apply keep_drewN | apply keep_drew | apply keep_alloc) | exact HK.out)⟩
 have n2_:Aside0 (Below w0.heap.size w0 w8):=⟨by rw [hw_];repeat (first | (with_reducible first | exact HB.out | apply below_alloc | apply pw_below_drewN | apply below_drew1 | refine below_set ?_ (IsS72.ge HI0.out)) | exact HB.out)⟩
 (try clear HI0)
 (try clear HK)
 (try clear HB)
 clear hw_
 have HI0:=n0_
 have HK:=n1_
 have HB:=n2_
 clear n0_ n1_ n2_
 (try simp only [Act.put,List.setIfInBounds_toArray,List.set_cons_zero,List.set_cons_succ])
 have H:=HC6.out
 clear HC6
 by_cases c9:(bt x1000_1 x1001_1)=34
 ·
  rw [if_pos c9] at H
  have c9b0:=beq_iff_eq.mpr c9
  have c9b1:=bnf c9
  clear c9
  (first | rw [c9b0] | (simp only [i64_w,i32_w];rw [c9b0]) | skip)
  simp only [Option.some.injEq,Prod.mk.injEq] at H
  obtain ⟨rfl,rfl,rfl⟩:=H
  go_wp2
  repeat (go_quiet (fail);try go_wp2)
  go_ret
  exact ⟨Z12,Z3,Z7,Z4⟩
 rw [if_neg c9] at H
 have c9b0:=bfe c9
 have c9b1:=bne_iff_ne.mpr c9
 (first | rw [c9b0] | (simp only [i64_w,i32_w];rw [c9b0]) | skip)
 by_cases c10:(bt x1000_1 x1001_1)<32
 ·
  rw [if_pos c10] at H
  have c10b0:=dt c10
  clear c10
  simp only [Option.some.injEq,Prod.mk.injEq] at H
  obtain ⟨rfl,rfl,rfl⟩:=H
  go_wp2
  repeat (go_quiet (fail);try go_wp2)
  go_ret
  exact ⟨Z12,Z3,Z7,Z4⟩
 rw [if_neg c10] at H
 have c10b0:=df c10
 clear c10
 by_cases c11:(bt x1000_1 x1001_1)=92
 rotate_left
 ·
  rw [if_neg c11] at H
  have c11b0:=bfe c11
  have c11b1:=bne_iff_ne.mpr c11
  have H':=am H
  clear H
  go_wp2
  repeat (go_quiet (fail);try go_wp2)
  go_roundg k1
  case measure=>have:=HK1.out;omega
  case rel=>exact ⟨(x1000_1),(wrap64 (x1001_1+1)),H',⟨Z19⟩,⟨Z3⟩,⟨Z4⟩,⟨Z7⟩⟩
 rw [if_pos c11] at H
 have c11b0:=beq_iff_eq.mpr c11
 have c11b1:=bnf c11
 clear c11
 replace H:=obs H
 obtain ⟨⟨t110,t111,t112⟩,A120,H⟩:=H
 dsimp only at H
 have A12:=am A120
 clear A120
 have HC13:=am H
 clear H
 try go_upto_if 48 with (first | (go_at_call 88;(with_reducible refine (spec_reader_escape.calls k1 g x1000_1 (wrap64 (x1001_1+1)) t110 t111 t112 w0 _ ?side1 ?side2 A12.out).mono ?_);(case side1=>exact Z3);(case side2=>exact Z7);rintro e w14 ⟨rfl,hi,hb,hk⟩;have n0_:=am (KeepBut.trans Z4 hk (.inl rfl));have n1_:=am (hb);have n2_:=am (hi);clear HK;clear HB;clear HI0;have HK:=n0_;have HB:=n1_;have HI0:=n2_;clear n0_ n1_ n2_;(try clear hb);(try clear hb2);(try clear hk);(try clear hi)))
 repeat (go_quiet (first | (go_at_call 88;(with_reducible refine (spec_reader_escape.calls k1 g x1000_1 (wrap64 (x1001_1+1)) t110 t111 t112 w0 _ ?side1 ?side2 A12.out).mono ?_);(case side1=>exact Z3);(case side2=>exact Z7);rintro e w14 ⟨rfl,hi,hb,hk⟩;have n0_:=am (KeepBut.trans Z4 hk (.inl rfl));have n1_:=am (hb);have n2_:=am (hi);clear HK;clear HB;clear HI0;have HK:=n0_;have HB:=n1_;have HI0:=n2_;clear n0_ n1_ n2_;(try clear hb);(try clear hb2);(try clear hk);(try clear hi)));try go_upto_if 48 with (first | (go_at_call 88;(with_reducible refine (spec_reader_escape.calls k1 g x1000_1 (wrap64 (x1001_1+1)) t110 t111 t112 w0 _ ?side1 ?side2 A12.out).mono ?_);(case side1=>exact Z3);(case side2=>exact Z7);rintro e w14 ⟨rfl,hi,hb,hk⟩;have n0_:=am (KeepBut.trans Z4 hk (.inl rfl));have n1_:=am (hb);have n2_:=am (hi);clear HK;clear HB;clear HI0;have HK:=n0_;have HB:=n1_;have HI0:=n2_;clear n0_ n1_ n2_;(try clear hb);(try clear hb2);(try clear hk);(try clear hi))))
 (try simp only [Act.put,List.setIfInBounds_toArray,List.set_cons_zero,List.set_cons_succ])
 have H:=HC13.out
 clear HC13
 by_cases c15:t110=true
 ·
  subst c15
  rw [if_pos rfl] at H
  have H':=am H
  clear H
  go_wp2
  repeat (go_quiet (fail);try go_wp2)
  go_roundg k1
  case measure=>have:=HK1.out;omega
  case rel=>exact ⟨(t111),(t112),H',⟨Z19⟩,⟨Z3⟩,⟨Z4⟩,⟨Z7⟩⟩
 replace c15:=bef c15
 subst c15
 rw [if_neg (show ¬ (false=true) from Z2)] at H
 simp only [Option.some.injEq,Prod.mk.injEq] at H
 obtain ⟨rfl,rfl,rfl⟩:=H
 go_wp2
 repeat (go_quiet (fail);try go_wp2)
 go_ret
 exact ⟨Z12,Z3,Z7,Z4⟩
def spec_reader_take.f (s0_0:ByteArray) (s0_1:Int) (a1:Int):Option (Bool×ByteArray×Int):=if s0_1<(s0_0.size:Int) then (if 0≤s0_1 then (if (bt s0_0 s0_1)=a1 then (some (true,s0_0,wrap64 (s0_1+1))) else (some (false,s0_0,s0_1))) else (none)) else (some (false,s0_0,s0_1))
theorem spec_reader_take.calls (g:Nat) (s0_0:ByteArray) (s0_1:Int) (a1:Int) (r1:Bool) (r2:ByteArray) (r3:Int) (w0 w:World) (hI:IsS72 w0 w g s0_0 s0_1) (hB:Below w0.heap.size w0 w) (h:spec_reader_take.f s0_0 s0_1 a1=some (r1,r2,r3)) :
  Calls Tryz.prog 87 #[.pointer (some ⟨g,0,none⟩),.int .u8 a1] w fun e w'=>e = .returned (.bool r1)∧IsS72 w0 w' g r2 r3∧Below w0.heap.size w0 w'∧KeepBut w w' g none:=by
 have HI0:=am hI
 have HK:=am (KeepBut.refl w g none)
 have HL:=am hB.size
 clear hI
 have HW0:=am hB.size
 have HB:=am hB
 clear hB
 have H:(if s0_1<(s0_0.size:Int) then (if 0≤s0_1 then (if (bt s0_0 s0_1)=a1 then (some (true,s0_0,wrap64 (s0_1+1))) else (some (false,s0_0,s0_1))) else (none)) else (some (false,s0_0,s0_1)))=some (r1,r2,r3):=h
 clear h
 by_cases c3:s0_1<(s0_0.size:Int)
 rotate_left
 ·
  rw [if_neg c3] at H
  have c3b0:=df c3
  clear c3
  simp only [Option.some.injEq,Prod.mk.injEq] at H
  obtain ⟨rfl,rfl,rfl⟩:=H
  obtain ⟨HGz9,hgz9⟩:=HI0.out
  have hcz9_0:=cellS72_0 HGz9
  have hcz9_1:=cellS72_1 HGz9
  have hfz9_0:=bkf HGz9 0
  have hfz9_1:=bkf HGz9 1
  clear HGz9 hgz9
  go_enter Tryz.func87,Tryz.ntmps87
  go_wp2
  repeat (go_quiet (fail);try go_wp2)
  go_ret
  exact ⟨Z12,Z3,Z7,Z4⟩
 rw [if_pos c3] at H
 have c3b0:=dt c3
 clear c3
 by_cases c4:0≤s0_1
 rotate_left
 ·
  rw [if_neg c4] at H
  exact absurd H Z6
 rw [if_pos c4] at H
 have c4b0:=dt c4
 clear c4
 by_cases c6:(bt s0_0 s0_1)=a1
 rotate_left
 ·
  rw [if_neg c6] at H
  have c6b0:=bfe c6
  have c6b1:=bne_iff_ne.mpr c6
  simp only [Option.some.injEq,Prod.mk.injEq] at H
  obtain ⟨rfl,rfl,rfl⟩:=H
  obtain ⟨HGz8,hgz8⟩:=HI0.out
  have hcz8_0:=cellS72_0 HGz8
  have hcz8_1:=cellS72_1 HGz8
  have hfz8_0:=bkf HGz8 0
  have hfz8_1:=bkf HGz8 1
  clear HGz8 hgz8
  have p5:0≤(s0_1:Int):=od Z8
  have q5:s0_1<(s0_0.size:Int):=od Z8
  have hx5:=bt_at s0_0 s0_1
  replace p5:=eq_true p5
  replace q5:=eq_true q5
  go_enter Tryz.func87,Tryz.ntmps87
  go_wp2
  repeat (go_quiet (fail);try go_wp2)
  go_ret
  exact ⟨Z12,Z3,Z7,Z4⟩
 rw [if_pos c6] at H
 have c6b0:=beq_iff_eq.mpr c6
 have c6b1:=bnf c6
 clear c6
 simp only [Option.some.injEq,Prod.mk.injEq] at H
 obtain ⟨rfl,rfl,rfl⟩:=H
 obtain ⟨HGz7,hgz7⟩:=HI0.out
 have hcz7_0:=cellS72_0 HGz7
 have hcz7_1:=cellS72_1 HGz7
 have hfz7_0:=bkf HGz7 0
 have hfz7_1:=bkf HGz7 1
 clear HGz7 hgz7
 have p5:0≤(s0_1:Int):=od Z8
 have q5:s0_1<(s0_0.size:Int):=od Z8
 have hx5:=bt_at s0_0 s0_1
 replace p5:=eq_true p5
 replace q5:=eq_true q5
 go_enter Tryz.func87,Tryz.ntmps87
 go_wp2
 repeat (go_quiet (fail);try go_wp2)
 go_ret
 exact ⟨Z12,Z3,Z7,Z4⟩
def spec_reader_digits.l0:Nat→Int→Int→ByteArray→Int→Option (Bool×ByteArray×Int)
 | 0,_,_,_,_=>none
 | k+1,x3,x4,x1000,x1001=>if 48≤x4 then (if x4≤57 then ((spec_reader_here.f x1000 (wrap64 (x1001+1))).bind fun bt116=>(spec_reader_digits.l0 k x3 bt116.1 bt116.2.1 bt116.2.2)) else (some (decide (x1001 > x3),x1000,x1001))) else (some (decide (x1001 > x3),x1000,x1001))
def spec_reader_digits.f (k:Nat) (s0_0:ByteArray) (s0_1:Int):Option (Bool×ByteArray×Int):=(spec_reader_here.f s0_0 s0_1).bind fun bt113=>(spec_reader_digits.l0 k s0_1 bt113.1 bt113.2.1 bt113.2.2)
theorem spec_reader_digits.calls (k:Nat) (g:Nat) (s0_0:ByteArray) (s0_1:Int) (r1:Bool) (r2:ByteArray) (r3:Int) (w0 w:World) (hI:IsS72 w0 w g s0_0 s0_1) (hB:Below w0.heap.size w0 w) (h:spec_reader_digits.f k s0_0 s0_1=some (r1,r2,r3)) :
  Calls Tryz.prog 89 #[.pointer (some ⟨g,0,none⟩)] w fun e w'=>e = .returned (.bool r1)∧IsS72 w0 w' g r2 r3∧Below w0.heap.size w0 w'∧KeepBut w w' g none:=by
 have HI0:=am hI
 have HK:=am (KeepBut.refl w g none)
 have HL:=am hB.size
 clear hI
 have HW0:=am hB.size
 have HB:=am hB
 clear hB
 have H:((spec_reader_here.f s0_0 s0_1).bind fun bt113=>(spec_reader_digits.l0 k s0_1 bt113.1 bt113.2.1 bt113.2.2))=some (r1,r2,r3):=h
 clear h
 replace H:=obs H
 obtain ⟨⟨t113,t114,t115⟩,A20,H⟩:=H
 dsimp only at H
 have A2:=am A20
 clear A20
 have H':=am H
 clear H
 obtain ⟨HGz3,hgz3⟩:=HI0.out
 have hcz3_0:=cellS72_0 HGz3
 have hcz3_1:=cellS72_1 HGz3
 have hfz3_0:=bkf HGz3 0
 have hfz3_1:=bkf HGz3 1
 clear HGz3 hgz3
 go_enter Tryz.func89,Tryz.ntmps89
 go_wp2_with (first | ((with_reducible refine gate_callee (f:=63) rfl ?_);refine goesL_ (some 10) rfl rfl Tryz.func63 Z1 rfl #[.pointer (some ⟨g,0,none⟩)] rfl Z10 ?_;(with_reducible refine (spec_reader_here.calls g s0_0 s0_1 t113 t114 t115 w0 _ ?side1 ?side2 A2.out).mono ?_);(case side1=>exact Z3);(case side2=>exact Z7);rintro e w4 ⟨rfl,hi,hb,hk⟩;refine ⟨_,rfl,?_⟩;have n0_:=am (KeepBut.trans Z4 hk (.inl rfl));have n1_:=am (hb);have n2_:=am (hi);clear HK;clear HB;clear HI0;have HK:=n0_;have HB:=n1_;have HI0:=n2_;clear n0_ n1_ n2_;(try clear hb);(try clear hb2);(try clear hk);(try clear hi)))
 (try simp only [Act.put,List.setIfInBounds_toArray,List.set_cons_succ,List.set_cons_zero])
 go_loopg [4] k (fun kq v4 w'=>∃ (x4_1:Int) (x1000_1:ByteArray) (x1001_1:Int),v4 = .int .u8 x4_1∧Aside0 (spec_reader_digits.l0 kq s0_1 x4_1 x1000_1 x1001_1=some (r1,r2,r3))∧Aside0 (kq≤k)∧Aside0 (IsS72 w0 w' g x1000_1 x1001_1)∧Aside0 (KeepBut w w' g none)∧Aside0 (Below w0.heap.size w0 w'))
 case atStart=>exact ⟨(t113),(t114),(t115),Z0,H',⟨Nat.le_refl _⟩,⟨Z3⟩,⟨Z4⟩,⟨Z7⟩⟩
 clear H'
 try clear p2;try clear hcz3_0;try clear hcz3_1;try clear hfz3_0;try clear hfz3_1
 obtain ⟨x4_1,x1000_1,x1001_1,rfl,HA,HK1,HI0,HK,HB⟩:=hrel
 cases gk with
 | zero=>exact absurd HA.out (by simp [spec_reader_digits.l0])
 | succ k1=>
 have H:=HA.out
 clear HA
 simp only [spec_reader_digits.l0] at H
 by_cases c5:48≤x4_1
 rotate_left
 ·
  rw [if_neg c5] at H
  have c5b0:=df c5
  clear c5
  simp only [Option.some.injEq,Prod.mk.injEq] at H
  obtain ⟨rfl,rfl,rfl⟩:=H
  obtain ⟨HGz11,hgz11⟩:=HI0.out
  have hcz11_0:=cellS72_0 HGz11
  have hcz11_1:=cellS72_1 HGz11
  have hfz11_0:=bkf HGz11 0
  have hfz11_1:=bkf HGz11 1
  clear HGz11 hgz11
  go_wp2
  go_ret
  exact ⟨Z12,Z3,Z7,Z4⟩
 rw [if_pos c5] at H
 have c5b0:=dt c5
 clear c5
 by_cases c6:x4_1≤57
 rotate_left
 ·
  rw [if_neg c6] at H
  have c6b0:=df c6
  clear c6
  simp only [Option.some.injEq,Prod.mk.injEq] at H
  obtain ⟨rfl,rfl,rfl⟩:=H
  obtain ⟨HGz10,hgz10⟩:=HI0.out
  have hcz10_0:=cellS72_0 HGz10
  have hcz10_1:=cellS72_1 HGz10
  have hfz10_0:=bkf HGz10 0
  have hfz10_1:=bkf HGz10 1
  clear HGz10 hgz10
  go_wp2
  go_ret
  exact ⟨Z12,Z3,Z7,Z4⟩
 rw [if_pos c6] at H
 have c6b0:=dt c6
 clear c6
 replace H:=obs H
 obtain ⟨⟨t116,t117,t118⟩,A70,H⟩:=H
 dsimp only at H
 have A7:=am A70
 clear A70
 have H':=am H
 clear H
 obtain ⟨HGz8,hgz8⟩:=HI0.out
 have hcz8_0:=cellS72_0 HGz8
 have hcz8_1:=cellS72_1 HGz8
 have hfz8_0:=bkf HGz8 0
 have hfz8_1:=bkf HGz8 1
 clear HGz8 hgz8
 go_wp2_with (first | ((with_reducible refine gate_callee (f:=63) rfl ?_);refine goesL_ (some 18) rfl rfl Tryz.func63 Z1 rfl #[.pointer (some ⟨g,0,none⟩)] rfl Z10 ?_;(with_reducible refine (spec_reader_here.calls g x1000_1 (wrap64 (x1001_1+1)) t116 t117 t118 w0 _ ?side1 ?side2 A7.out).mono ?_);(case side1=>exact Z3);(case side2=>exact Z7);rintro e w9 ⟨rfl,hi,hb,hk⟩;refine ⟨_,rfl,?_⟩;have n0_:=am (KeepBut.trans Z4 hk (.inl rfl));have n1_:=am (hb);have n2_:=am (hi);clear HK;clear HB;clear HI0;have HK:=n0_;have HB:=n1_;have HI0:=n2_;clear n0_ n1_ n2_;(try clear hb);(try clear hb2);(try clear hk);(try clear hi)))
 go_roundg k1
 case measure=>have:=HK1.out;omega
 case rel=>exact ⟨(t116),(t117),(t118),Z0,H',⟨Z19⟩,⟨Z3⟩,⟨Z4⟩,⟨Z7⟩⟩
mutual
def spec_reader_number.j0:Nat→Bool→ByteArray→Int→Option (Bool×ByteArray×Int)
 | 0,_,_,_=>none
 | k+1,x12,x1000,x1001=>if x12=true then (some (false,x1000,x1001)) else ((spec_reader_take.f x1000 x1001 46).bind fun bt128=>(if bt128.1=true then ((spec_reader_digits.f k bt128.2.1 bt128.2.2).bind fun bt131=>(spec_reader_number.j1 k (!bt131.1) bt131.2.1 bt131.2.2)) else (spec_reader_number.j1 k false bt128.2.1 bt128.2.2)))
def spec_reader_number.j1:Nat→Bool→ByteArray→Int→Option (Bool×ByteArray×Int)
 | 0,_,_,_=>none
 | k+1,x19,x1000,x1001=>if x19=true then (some (false,x1000,x1001)) else ((spec_reader_take.f x1000 x1001 101).bind fun bt134=>(if bt134.1=true then (spec_reader_number.j2 k true bt134.2.1 bt134.2.2) else ((spec_reader_take.f bt134.2.1 bt134.2.2 69).bind fun bt137=>(spec_reader_number.j2 k bt137.1 bt137.2.1 bt137.2.2))))
def spec_reader_number.j2:Nat→Bool→ByteArray→Int→Option (Bool×ByteArray×Int)
 | 0,_,_,_=>none
 | k+1,x25,x1000,x1001=>if x25=true then ((spec_reader_take.f x1000 x1001 43).bind fun bt140=>(if bt140.1=true then ((spec_reader_digits.f k bt140.2.1 bt140.2.2).bind fun bt143=>(some (bt143.1,bt143.2.1,bt143.2.2))) else ((spec_reader_take.f bt140.2.1 bt140.2.2 45).bind fun bt146=>((spec_reader_digits.f k bt146.2.1 bt146.2.2).bind fun bt149=>(some (bt149.1,bt149.2.1,bt149.2.2)))))) else (some (true,x1000,x1001))
end
def spec_reader_number.f (k:Nat) (s0_0:ByteArray) (s0_1:Int):Option (Bool×ByteArray×Int):=(spec_reader_take.f s0_0 s0_1 45).bind fun bt119=>((spec_reader_take.f bt119.2.1 bt119.2.2 48).bind fun bt122=>(if bt122.1=true then (spec_reader_number.j0 k false bt122.2.1 bt122.2.2) else ((spec_reader_digits.f k bt122.2.1 bt122.2.2).bind fun bt125=>(spec_reader_number.j0 k (!bt125.1) bt125.2.1 bt125.2.2))))
theorem spec_reader_number.calls (k:Nat) (g:Nat) (s0_0:ByteArray) (s0_1:Int) (r1:Bool) (r2:ByteArray) (r3:Int) (w0 w:World) (hI:IsS72 w0 w g s0_0 s0_1) (hB:Below w0.heap.size w0 w) (h:spec_reader_number.f k s0_0 s0_1=some (r1,r2,r3)) :
  Calls Tryz.prog 67 #[.pointer (some ⟨g,0,none⟩)] w fun e w'=>e = .returned (.bool r1)∧IsS72 w0 w' g r2 r3∧Below w0.heap.size w0 w'∧KeepBut w w' g none:=by
 have HI0:=am hI
 have HK:=am (KeepBut.refl w g none)
 have HL:=am hB.size
 clear hI
 have HW0:=am hB.size
 have HB:=am hB
 clear hB
 have H:((spec_reader_take.f s0_0 s0_1 45).bind fun bt119=>((spec_reader_take.f bt119.2.1 bt119.2.2 48).bind fun bt122=>(if bt122.1=true then (spec_reader_number.j0 k false bt122.2.1 bt122.2.2) else ((spec_reader_digits.f k bt122.2.1 bt122.2.2).bind fun bt125=>(spec_reader_number.j0 k (!bt125.1) bt125.2.1 bt125.2.2)))))=some (r1,r2,r3):=h
 clear h
 replace H:=obs H
 obtain ⟨⟨t119,t120,t121⟩,A20,H⟩:=H
 dsimp only at H
 have A2:=am A20
 clear A20
 have HC3:=am H
 clear H
 go_enter Tryz.func67,Tryz.ntmps67
 go_upto_region 2 with (first | ((with_reducible refine gate_callee (f:=87) rfl ?_);refine goesL_ (some 4) rfl rfl Tryz.func87 Z1 rfl #[.pointer (some ⟨g,0,none⟩),.int .u8 45] rfl Z10 ?_;(with_reducible refine (spec_reader_take.calls g s0_0 s0_1 45 t119 t120 t121 w0 _ ?side1 ?side2 A2.out).mono ?_);(case side1=>exact Z3);(case side2=>exact Z7);rintro e w4 ⟨rfl,hi,hb,hk⟩;refine ⟨_,rfl,?_⟩;have n0_:=am (KeepBut.trans Z4 hk (.inl rfl));have n1_:=am (hb);have n2_:=am (hi);clear HK;clear HB;clear HI0;have HK:=n0_;have HB:=n1_;have HI0:=n2_;clear n0_ n1_ n2_;(try clear hb);(try clear hb2);(try clear hk);(try clear hi)))
 (try simp only [Act.put,List.setIfInBounds_toArray,List.set_cons_zero,List.set_cons_succ])
 go_cut [12] (fun v12 wc=>∃ (kq:Nat) (x12_2:Bool) (x1000_2:ByteArray) (x1001_2:Int),v12 = .bool x12_2∧Aside0 (spec_reader_number.j0 kq x12_2 x1000_2 x1001_2=some (r1,r2,r3))∧Aside0 (kq≤k)∧Aside0 (IsS72 w0 wc g x1000_2 x1001_2)∧Aside0 (KeepBut w wc g none)∧Aside0 (Below w0.heap.size w0 wc))
 case first=>
  have H:=HC3.out
  clear HC3
  replace H:=obs H
  obtain ⟨⟨t122,t123,t124⟩,A50,H⟩:=H
  dsimp only at H
  have A5:=am A50
  clear A50
  by_cases c6:t122=true
  ·
   subst c6
   rw [if_pos rfl] at H
   have H':=am H
   clear H
   go_wp2_with (first | ((with_reducible refine gate_callee (f:=87) rfl ?_);refine goesL_ (some 6) rfl rfl Tryz.func87 Z1 rfl #[.pointer (some ⟨g,0,none⟩),.int .u8 48] rfl Z10 ?_;(with_reducible refine (spec_reader_take.calls g t120 t121 48 true t123 t124 w0 _ ?side1 ?side2 A5.out).mono ?_);(case side1=>exact Z3);(case side2=>exact Z7);rintro e w7 ⟨rfl,hi,hb,hk⟩;refine ⟨_,rfl,?_⟩;have n0_:=am (KeepBut.trans Z4 hk (.inl rfl));have n1_:=am (hb);have n2_:=am (hi);clear HK;clear HB;clear HI0;have HK:=n0_;have HB:=n1_;have HI0:=n2_;clear n0_ n1_ n2_;(try clear hb);(try clear hb2);(try clear hk);(try clear hi)))
   go_meet
   case rel=>exact ⟨_,(false),(t123),(t124),Z0,H',⟨Z15⟩,⟨Z3⟩,⟨Z4⟩,⟨Z7⟩⟩
  replace c6:=bef c6
  subst c6
  rw [if_neg (show ¬ (false=true) from Z2)] at H
  replace H:=obs H
  obtain ⟨⟨t125,t126,t127⟩,A80,H⟩:=H
  dsimp only at H
  have A8:=am A80
  clear A80
  have H':=am H
  clear H
  go_wp2_with (first | ((with_reducible refine gate_callee (f:=87) rfl ?_);refine goesL_ (some 6) rfl rfl Tryz.func87 Z1 rfl #[.pointer (some ⟨g,0,none⟩),.int .u8 48] rfl Z10 ?_;(with_reducible refine (spec_reader_take.calls g t120 t121 48 false t123 t124 w0 _ ?side1 ?side2 A5.out).mono ?_);(case side1=>exact Z3);(case side2=>exact Z7);rintro e w9 ⟨rfl,hi,hb,hk⟩;refine ⟨_,rfl,?_⟩;have n0_:=am (KeepBut.trans Z4 hk (.inl rfl));have n1_:=am (hb);have n2_:=am (hi);clear HK;clear HB;clear HI0;have HK:=n0_;have HB:=n1_;have HI0:=n2_;clear n0_ n1_ n2_;(try clear hb);(try clear hb2);(try clear hk);(try clear hi)) | (go_at_call 89;(with_reducible refine (spec_reader_digits.calls k g t123 t124 t125 t126 t127 w0 _ ?side1 ?side2 A8.out).mono ?_);(case side1=>exact Z3);(case side2=>exact Z7);rintro e w10 ⟨rfl,hi,hb,hk⟩;have n0_:=am (KeepBut.trans Z4 hk (.inl rfl));have n1_:=am (hb);have n2_:=am (hi);clear HK;clear HB;clear HI0;have HK:=n0_;have HB:=n1_;have HI0:=n2_;clear n0_ n1_ n2_;(try clear hb);(try clear hb2);(try clear hk);(try clear hi)))
  go_meet
  case rel=>exact ⟨_,(!t125),(t126),(t127),Z0,H',⟨Z15⟩,⟨Z3⟩,⟨Z4⟩,⟨Z7⟩⟩
 clear HC3;try clear p2;try clear c6;try clear c8
 obtain ⟨kq,x12_2,x1000_2,x1001_2,rfl,HA,HJ2,HI0,HK,HB⟩:=hcut
 cases kq with
 | zero=>exact absurd HA.out (by simp [spec_reader_number.j0])
 | succ kj2=>
 have H:=HA.out
 clear HA
 simp only [spec_reader_number.j0] at H
 by_cases c11:x12_2=true
 ·
  subst c11
  rw [if_pos rfl] at H
  simp only [Option.some.injEq,Prod.mk.injEq] at H
  obtain ⟨rfl,rfl,rfl⟩:=H
  go_wp2
  go_ret
  exact ⟨Z12,Z3,Z7,Z4⟩
 replace c11:=bef c11
 subst c11
 rw [if_neg (show ¬ (false=true) from Z2)] at H
 have HC12:=am H
 clear H
 go_upto_region 4 with (fail)
 go_cut [19] (fun v19 wc=>∃ (kq:Nat) (x19_11:Bool) (x1000_11:ByteArray) (x1001_11:Int),v19 = .bool x19_11∧Aside0 (spec_reader_number.j1 kq x19_11 x1000_11 x1001_11=some (r1,r2,r3))∧Aside0 (kq≤kj2)∧Aside0 (IsS72 w0 wc g x1000_11 x1001_11)∧Aside0 (KeepBut w wc g none)∧Aside0 (Below w0.heap.size w0 wc))
 case first=>
  have H:=HC12.out
  clear HC12
  replace H:=obs H
  obtain ⟨⟨t128,t129,t130⟩,A130,H⟩:=H
  dsimp only at H
  have A13:=am A130
  clear A130
  by_cases c14:t128=true
  rotate_left
  ·
   replace c14:=bef c14
   subst c14
   rw [if_neg (show ¬ (false=true) from Z2)] at H
   have H':=am H
   clear H
   go_wp2_with (first | ((with_reducible refine gate_callee (f:=87) rfl ?_);refine goesL_ (some 14) rfl rfl Tryz.func87 Z1 rfl #[.pointer (some ⟨g,0,none⟩),.int .u8 46] rfl Z10 ?_;(with_reducible refine (spec_reader_take.calls g x1000_2 x1001_2 46 false t129 t130 w0 _ ?side1 ?side2 A13.out).mono ?_);(case side1=>exact Z3);(case side2=>exact Z7);rintro e w18 ⟨rfl,hi,hb,hk⟩;refine ⟨_,rfl,?_⟩;have n0_:=am (KeepBut.trans Z4 hk (.inl rfl));have n1_:=am (hb);have n2_:=am (hi);clear HK;clear HB;clear HI0;have HK:=n0_;have HB:=n1_;have HI0:=n2_;clear n0_ n1_ n2_;(try clear hb);(try clear hb2);(try clear hk);(try clear hi)))
   go_meet
   case rel=>exact ⟨_,(false),(t129),(t130),Z0,H',⟨by have:=HJ2.out;first | omega | exact Nat.le_refl _⟩,⟨Z3⟩,⟨Z4⟩,⟨Z7⟩⟩
  subst c14
  rw [if_pos rfl] at H
  replace H:=obs H
  obtain ⟨⟨t131,t132,t133⟩,A150,H⟩:=H
  dsimp only at H
  have A15:=am A150
  clear A150
  have H':=am H
  clear H
  go_wp2_with (first | ((with_reducible refine gate_callee (f:=87) rfl ?_);refine goesL_ (some 14) rfl rfl Tryz.func87 Z1 rfl #[.pointer (some ⟨g,0,none⟩),.int .u8 46] rfl Z10 ?_;(with_reducible refine (spec_reader_take.calls g x1000_2 x1001_2 46 true t129 t130 w0 _ ?side1 ?side2 A13.out).mono ?_);(case side1=>exact Z3);(case side2=>exact Z7);rintro e w16 ⟨rfl,hi,hb,hk⟩;refine ⟨_,rfl,?_⟩;have n0_:=am (KeepBut.trans Z4 hk (.inl rfl));have n1_:=am (hb);have n2_:=am (hi);clear HK;clear HB;clear HI0;have HK:=n0_;have HB:=n1_;have HI0:=n2_;clear n0_ n1_ n2_;(try clear hb);(try clear hb2);(try clear hk);(try clear hi)) | (go_at_call 89;(with_reducible refine (spec_reader_digits.calls kj2 g t129 t130 t131 t132 t133 w0 _ ?side1 ?side2 A15.out).mono ?_);(case side1=>exact Z3);(case side2=>exact Z7);rintro e w17 ⟨rfl,hi,hb,hk⟩;have n0_:=am (KeepBut.trans Z4 hk (.inl rfl));have n1_:=am (hb);have n2_:=am (hi);clear HK;clear HB;clear HI0;have HK:=n0_;have HB:=n1_;have HI0:=n2_;clear n0_ n1_ n2_;(try clear hb);(try clear hb2);(try clear hk);(try clear hi)))
  go_meet
  case rel=>exact ⟨_,(!t131),(t132),(t133),Z0,H',⟨by have:=HJ2.out;first | omega | exact Nat.le_refl _⟩,⟨Z3⟩,⟨Z4⟩,⟨Z7⟩⟩
 clear HC12;try clear c1;try clear p2;try clear c6;try clear c8;try clear c11;try clear c14;try clear p2
 obtain ⟨kq,x19_11,x1000_11,x1001_11,rfl,HA,HJ11,HI0,HK,HB⟩:=hcut
 cases kq with
 | zero=>exact absurd HA.out (by simp [spec_reader_number.j1])
 | succ kj11=>
 have H:=HA.out
 clear HA
 simp only [spec_reader_number.j1] at H
 by_cases c19:x19_11=true
 ·
  subst c19
  rw [if_pos rfl] at H
  simp only [Option.some.injEq,Prod.mk.injEq] at H
  obtain ⟨rfl,rfl,rfl⟩:=H
  go_wp2
  go_ret
  exact ⟨Z12,Z3,Z7,Z4⟩
 replace c19:=bef c19
 subst c19
 rw [if_neg (show ¬ (false=true) from Z2)] at H
 have HC20:=am H
 clear H
 go_upto_region 6 with (fail)
 go_cut [25] (fun v25 wc=>∃ (kq:Nat) (x25_19:Bool) (x1000_19:ByteArray) (x1001_19:Int),v25 = .bool x25_19∧Aside0 (spec_reader_number.j2 kq x25_19 x1000_19 x1001_19=some (r1,r2,r3))∧Aside0 (kq≤kj11)∧Aside0 (IsS72 w0 wc g x1000_19 x1001_19)∧Aside0 (KeepBut w wc g none)∧Aside0 (Below w0.heap.size w0 wc))
 case first=>
  have H:=HC20.out
  clear HC20
  replace H:=obs H
  obtain ⟨⟨t134,t135,t136⟩,A210,H⟩:=H
  dsimp only at H
  have A21:=am A210
  clear A210
  by_cases c22:t134=true
  ·
   subst c22
   rw [if_pos rfl] at H
   have H':=am H
   clear H
   go_wp2_with (first | ((with_reducible refine gate_callee (f:=87) rfl ?_);refine goesL_ (some 21) rfl rfl Tryz.func87 Z1 rfl #[.pointer (some ⟨g,0,none⟩),.int .u8 101] rfl Z10 ?_;(with_reducible refine (spec_reader_take.calls g x1000_11 x1001_11 101 true t135 t136 w0 _ ?side1 ?side2 A21.out).mono ?_);(case side1=>exact Z3);(case side2=>exact Z7);rintro e w23 ⟨rfl,hi,hb,hk⟩;refine ⟨_,rfl,?_⟩;have n0_:=am (KeepBut.trans Z4 hk (.inl rfl));have n1_:=am (hb);have n2_:=am (hi);clear HK;clear HB;clear HI0;have HK:=n0_;have HB:=n1_;have HI0:=n2_;clear n0_ n1_ n2_;(try clear hb);(try clear hb2);(try clear hk);(try clear hi)))
   go_meet
   case rel=>exact ⟨_,(true),(t135),(t136),Z0,H',⟨Z57⟩,⟨Z3⟩,⟨Z4⟩,⟨Z7⟩⟩
  replace c22:=bef c22
  subst c22
  rw [if_neg (show ¬ (false=true) from Z2)] at H
  replace H:=obs H
  obtain ⟨⟨t137,t138,t139⟩,A240,H⟩:=H
  dsimp only at H
  have A24:=am A240
  clear A240
  have H':=am H
  clear H
  go_wp2_with (first | ((with_reducible refine gate_callee (f:=87) rfl ?_);refine goesL_ (some 21) rfl rfl Tryz.func87 Z1 rfl #[.pointer (some ⟨g,0,none⟩),.int .u8 101] rfl Z10 ?_;(with_reducible refine (spec_reader_take.calls g x1000_11 x1001_11 101 false t135 t136 w0 _ ?side1 ?side2 A21.out).mono ?_);(case side1=>exact Z3);(case side2=>exact Z7);rintro e w25 ⟨rfl,hi,hb,hk⟩;refine ⟨_,rfl,?_⟩;have n0_:=am (KeepBut.trans Z4 hk (.inl rfl));have n1_:=am (hb);have n2_:=am (hi);clear HK;clear HB;clear HI0;have HK:=n0_;have HB:=n1_;have HI0:=n2_;clear n0_ n1_ n2_;(try clear hb);(try clear hb2);(try clear hk);(try clear hi)) | (go_at_call 87;(with_reducible refine (spec_reader_take.calls g t135 t136 69 t137 t138 t139 w0 _ ?side1 ?side2 A24.out).mono ?_);(case side1=>exact Z3);(case side2=>exact Z7);rintro e w26 ⟨rfl,hi,hb,hk⟩;have n0_:=am (KeepBut.trans Z4 hk (.inl rfl));have n1_:=am (hb);have n2_:=am (hi);clear HK;clear HB;clear HI0;have HK:=n0_;have HB:=n1_;have HI0:=n2_;clear n0_ n1_ n2_;(try clear hb);(try clear hb2);(try clear hk);(try clear hi)))
  go_meet
  case rel=>exact ⟨_,(t137),(t138),(t139),Z0,H',⟨Z57⟩,⟨Z3⟩,⟨Z4⟩,⟨Z7⟩⟩
 clear HC20;try clear c1;try clear c2;try clear p2;try clear c6;try clear c8;try clear c11;try clear c14;try clear c19;try clear c22;try clear p2
 obtain ⟨kq,x25_19,x1000_19,x1001_19,rfl,HA,HJ19,HI0,HK,HB⟩:=hcut
 cases kq with
 | zero=>exact absurd HA.out (by simp [spec_reader_number.j2])
 | succ kj19=>
 have H:=HA.out
 clear HA
 simp only [spec_reader_number.j2] at H
 by_cases c27:x25_19=true
 rotate_left
 ·
  replace c27:=bef c27
  subst c27
  rw [if_neg (show ¬ (false=true) from Z2)] at H
  simp only [Option.some.injEq,Prod.mk.injEq] at H
  obtain ⟨rfl,rfl,rfl⟩:=H
  go_wp2
  go_ret
  exact ⟨Z12,Z3,Z7,Z4⟩
 subst c27
 rw [if_pos rfl] at H
 replace H:=obs H
 obtain ⟨⟨t140,t141,t142⟩,A280,H⟩:=H
 dsimp only at H
 have A28:=am A280
 clear A280
 have HC29:=am H
 clear H
 go_upto_if 28 with (first | ((with_reducible refine gate_callee (f:=87) rfl ?_);refine goesL_ (some 27) rfl rfl Tryz.func87 Z1 rfl #[.pointer (some ⟨g,0,none⟩),.int .u8 43] rfl Z10 ?_;(with_reducible refine (spec_reader_take.calls g x1000_19 x1001_19 43 t140 t141 t142 w0 _ ?side1 ?side2 A28.out).mono ?_);(case side1=>exact Z3);(case side2=>exact Z7);rintro e w30 ⟨rfl,hi,hb,hk⟩;refine ⟨_,rfl,?_⟩;have n0_:=am (KeepBut.trans Z4 hk (.inl rfl));have n1_:=am (hb);have n2_:=am (hi);clear HK;clear HB;clear HI0;have HK:=n0_;have HB:=n1_;have HI0:=n2_;clear n0_ n1_ n2_;(try clear hb);(try clear hb2);(try clear hk);(try clear hi)))
 (try simp only [Act.put,List.setIfInBounds_toArray,List.set_cons_zero,List.set_cons_succ])
 have H:=HC29.out
 clear HC29
 by_cases c31:t140=true
 ·
  subst c31
  rw [if_pos rfl] at H
  replace H:=obs H
  obtain ⟨⟨t143,t144,t145⟩,A320,H⟩:=H
  dsimp only at H
  have A32:=am A320
  clear A320
  simp only [Option.some.injEq,Prod.mk.injEq] at H
  obtain ⟨rfl,rfl,rfl⟩:=H
  go_wp2_with (first | ((with_reducible refine gate_callee (f:=89) rfl ?_);refine goesL_ (some 32) rfl rfl Tryz.func89 Z1 rfl #[.pointer (some ⟨g,0,none⟩)] rfl Z10 ?_;(with_reducible refine (spec_reader_digits.calls kj19 g t141 t142 t143 t144 t145 w0 _ ?side1 ?side2 A32.out).mono ?_);(case side1=>exact Z3);(case side2=>exact Z7);rintro e w33 ⟨rfl,hi,hb,hk⟩;refine ⟨_,rfl,?_⟩;have n0_:=am (KeepBut.trans Z4 hk (.inl rfl));have n1_:=am (hb);have n2_:=am (hi);clear HK;clear HB;clear HI0;have HK:=n0_;have HB:=n1_;have HI0:=n2_;clear n0_ n1_ n2_;(try clear hb);(try clear hb2);(try clear hk);(try clear hi)))
  go_ret
  exact ⟨Z12,Z3,Z7,Z4⟩
 replace c31:=bef c31
 subst c31
 rw [if_neg (show ¬ (false=true) from Z2)] at H
 replace H:=obs H
 obtain ⟨⟨t146,t147,t148⟩,A340,H⟩:=H
 dsimp only at H
 have A34:=am A340
 clear A340
 replace H:=obs H
 obtain ⟨⟨t149,t150,t151⟩,A350,H⟩:=H
 dsimp only at H
 have A35:=am A350
 clear A350
 simp only [Option.some.injEq,Prod.mk.injEq] at H
 obtain ⟨rfl,rfl,rfl⟩:=H
 go_wp2_with (first | ((with_reducible refine gate_callee (f:=87) rfl ?_);refine goesL_ (some 30) rfl rfl Tryz.func87 Z1 rfl #[.pointer (some ⟨g,0,none⟩),.int .u8 45] rfl Z10 ?_;(with_reducible refine (spec_reader_take.calls g t141 t142 45 t146 t147 t148 w0 _ ?side1 ?side2 A34.out).mono ?_);(case side1=>exact Z3);(case side2=>exact Z7);rintro e w36 ⟨rfl,hi,hb,hk⟩;refine ⟨_,rfl,?_⟩;have n0_:=am (KeepBut.trans Z4 hk (.inl rfl));have n1_:=am (hb);have n2_:=am (hi);clear HK;clear HB;clear HI0;have HK:=n0_;have HB:=n1_;have HI0:=n2_;clear n0_ n1_ n2_;(try clear hb);(try clear hb2);(try clear hk);(try clear hi)) | ((with_reducible refine gate_callee (f:=89) rfl ?_);refine goesL_ (some 32) rfl rfl Tryz.func89 Z1 rfl #[.pointer (some ⟨g,0,none⟩)] rfl Z10 ?_;(with_reducible refine (spec_reader_digits.calls kj19 g t147 t148 t149 t150 t151 w0 _ ?side1 ?side2 A35.out).mono ?_);(case side1=>exact Z3);(case side2=>exact Z7);rintro e w37 ⟨rfl,hi,hb,hk⟩;refine ⟨_,rfl,?_⟩;have n0_:=am (KeepBut.trans Z4 hk (.inl rfl));have n1_:=am (hb);have n2_:=am (hi);clear HK;clear HB;clear HI0;have HK:=n0_;have HB:=n1_;have HI0:=n2_;clear n0_ n1_ n2_;(try clear hb);(try clear hb2);(try clear hk);(try clear hi)))
 go_ret
 exact ⟨Z12,Z3,Z7,Z4⟩
def spec_reader_word.f (s0_0:ByteArray) (s0_1:Int) (a1:ByteArray):Option (Bool×ByteArray×Int):=if (wrap64 ((s0_0.size:Int) - s0_1))<(a1.size:Int) then (some (false,s0_0,s0_1)) else (if 0≤s0_1 then (if s0_1≤(wrap64 (s0_1+(a1.size:Int))) then (if (wrap64 (s0_1+(a1.size:Int)))≤(s0_0.size:Int) then (if (s0_0.extract (s0_1:Int).toNat ((wrap64 (s0_1+(a1.size:Int))):Int).toNat).toList=a1.toList then (some (true,s0_0,wrap64 (s0_1+(a1.size:Int)))) else (some (false,s0_0,s0_1))) else (none)) else (none)) else (none))
theorem spec_reader_word.calls (g:Nat) (s0_0:ByteArray) (s0_1:Int) (a1:ByteArray) (r1:Bool) (r2:ByteArray) (r3:Int) (w0 w:World) (hI:IsS72 w0 w g s0_0 s0_1) (hB:Below w0.heap.size w0 w) (h:spec_reader_word.f s0_0 s0_1 a1=some (r1,r2,r3)) :
  Calls Tryz.prog 68 #[.pointer (some ⟨g,0,none⟩),.string a1] w fun e w'=>e = .returned (.bool r1)∧IsS72 w0 w' g r2 r3∧Below w0.heap.size w0 w'∧KeepBut w w' g none:=by
 have HI0:=am hI
 have HK:=am (KeepBut.refl w g none)
 have HL:=am hB.size
 clear hI
 have HW0:=am hB.size
 have HB:=am hB
 clear hB
 have H:(if (wrap64 ((s0_0.size:Int) - s0_1))<(a1.size:Int) then (some (false,s0_0,s0_1)) else (if 0≤s0_1 then (if s0_1≤(wrap64 (s0_1+(a1.size:Int))) then (if (wrap64 (s0_1+(a1.size:Int)))≤(s0_0.size:Int) then (if (s0_0.extract (s0_1:Int).toNat ((wrap64 (s0_1+(a1.size:Int))):Int).toNat).toList=a1.toList then (some (true,s0_0,wrap64 (s0_1+(a1.size:Int)))) else (some (false,s0_0,s0_1))) else (none)) else (none)) else (none)))=some (r1,r2,r3):=h
 clear h
 by_cases c3:(wrap64 ((s0_0.size:Int) - s0_1))<(a1.size:Int)
 ·
  rw [if_pos c3] at H
  have c3b0:=dt c3
  clear c3
  simp only [Option.some.injEq,Prod.mk.injEq] at H
  obtain ⟨rfl,rfl,rfl⟩:=H
  obtain ⟨HGz4,hgz4⟩:=HI0.out
  have hcz4_0:=cellS72_0 HGz4
  have hcz4_1:=cellS72_1 HGz4
  have hfz4_0:=bkf HGz4 0
  have hfz4_1:=bkf HGz4 1
  clear HGz4 hgz4
  go_enter Tryz.func68,Tryz.ntmps68
  go_wp2
  repeat (go_quiet (fail);try go_wp2)
  go_ret
  exact ⟨Z12,Z3,Z7,Z4⟩
 rw [if_neg c3] at H
 have c3b0:=df c3
 clear c3
 by_cases c5:0≤s0_1
 rotate_left
 ·
  rw [if_neg c5] at H
  exact absurd H Z6
 rw [if_pos c5] at H
 have c5b0:=eq_true c5
 have c5b1:=dt c5
 clear c5
 by_cases c6:s0_1≤(wrap64 (s0_1+(a1.size:Int)))
 rotate_left
 ·
  rw [if_neg c6] at H
  exact absurd H Z6
 rw [if_pos c6] at H
 have c6b0:=eq_true c6
 have c6b1:=dt c6
 by_cases c7:(wrap64 (s0_1+(a1.size:Int)))≤(s0_0.size:Int)
 rotate_left
 ·
  rw [if_neg c7] at H
  exact absurd H Z6
 rw [if_pos c7] at H
 have c7b0:=eq_true c7
 have c7b1:=dt c7
 by_cases c8:(s0_0.extract (s0_1:Int).toNat ((wrap64 (s0_1+(a1.size:Int))):Int).toNat).toList=a1.toList
 ·
  rw [if_pos c8] at H
  have c8b0:=beq_iff_eq.mpr c8
  have c8b1:=bnf c8
  clear c8
  simp only [Option.some.injEq,Prod.mk.injEq] at H
  obtain ⟨rfl,rfl,rfl⟩:=H
  obtain ⟨HGz9,hgz9⟩:=HI0.out
  have hcz9_0:=cellS72_0 HGz9
  have hcz9_1:=cellS72_1 HGz9
  have hfz9_0:=bkf HGz9 0
  have hfz9_1:=bkf HGz9 1
  clear HGz9 hgz9
  go_enter Tryz.func68,Tryz.ntmps68
  go_wp2
  repeat (go_quiet (fail);try go_wp2)
  go_ret
  exact ⟨Z12,Z3,Z7,Z4⟩
 rw [if_neg c8] at H
 have c8b0:=bfe c8
 have c8b1:=bne_iff_ne.mpr c8
 simp only [Option.some.injEq,Prod.mk.injEq] at H
 obtain ⟨rfl,rfl,rfl⟩:=H
 obtain ⟨HGz10,hgz10⟩:=HI0.out
 have hcz10_0:=cellS72_0 HGz10
 have hcz10_1:=cellS72_1 HGz10
 have hfz10_0:=bkf HGz10 0
 have hfz10_1:=bkf HGz10 1
 clear HGz10 hgz10
 go_enter Tryz.func68,Tryz.ntmps68
 go_wp2
 repeat (go_quiet (fail);try go_wp2)
 go_ret
 exact ⟨Z12,Z3,Z7,Z4⟩
end Go.Proofs.YtieflhncpjjciaaGreatDoor.PFnGjSquashItems
