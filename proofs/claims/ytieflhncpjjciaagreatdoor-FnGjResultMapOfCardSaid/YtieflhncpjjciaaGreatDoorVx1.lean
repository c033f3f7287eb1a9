import Derived.Test.YtieflhncpjjciaaGreatDoorVq
import Derived.Test.YtieflhncpjjciaaGreatDoorVx0
set_option maxHeartbeats 8000000
set_option maxRecDepth 100000
namespace Go.Proofs.YtieflhncpjjciaaGreatDoor.PFnGjSquashItems
open Go.RowKit Go.Proofs.YtieflhncpjjciaaGreatDoorW.PrintWords Go.Proofs.YtieflhncpjjciaaGreatDoorW.PrintLast Go.Proofs.YtieflhncpjjciaaGreatDoorW.PrintMore
attribute [local go_sem] max2_int min2_int max_two min_two max_three min_three max_four min_four
set_option linter.unusedVariables false
set_option linter.unusedSimpArgs false
def spec_Blank.f (a0:Int):Option (Bool):=if a0=32 then (some true) else (if a0=9 then (some true) else (if a0=10 then (some true) else (some (a0 == 13))))
theorem spec_Blank.calls (a0:Int) (r:Bool) (w:World) (h:spec_Blank.f a0=some r) :
  Calls Tryz.prog 40 #[.int .u8 a0] w fun e w'=>e = .returned (.bool r)∧Drawn0 w w':=by
 have H:(if a0=32 then (some true) else (if a0=9 then (some true) else (if a0=10 then (some true) else (some (a0 == 13)))))=some r:=h
 clear h
 by_cases c2:a0=32
 ·
  rw [if_pos c2] at H
  have c2b0:=beq_iff_eq.mpr c2
  have c2b1:=bnf c2
  clear c2
  obtain rfl:=Option.some.inj H
  go_enter Tryz.func40,Tryz.ntmps40
  go_wp2
  go_ret
  exact ⟨Z0,Z5⟩
 rw [if_neg c2] at H
 have c2b0:=bfe c2
 have c2b1:=bne_iff_ne.mpr c2
 by_cases c3:a0=9
 ·
  rw [if_pos c3] at H
  have c3b0:=beq_iff_eq.mpr c3
  have c3b1:=bnf c3
  clear c3
  obtain rfl:=Option.some.inj H
  go_enter Tryz.func40,Tryz.ntmps40
  go_wp2
  go_ret
  exact ⟨Z0,Z5⟩
 rw [if_neg c3] at H
 have c3b0:=bfe c3
 have c3b1:=bne_iff_ne.mpr c3
 by_cases c4:a0=10
 rotate_left
 ·
  rw [if_neg c4] at H
  have c4b0:=bfe c4
  have c4b1:=bne_iff_ne.mpr c4
  obtain rfl:=Option.some.inj H
  go_enter Tryz.func40,Tryz.ntmps40
  go_wp2
  go_ret
  exact ⟨Z0,Z5⟩
 rw [if_pos c4] at H
 have c4b0:=beq_iff_eq.mpr c4
 have c4b1:=bnf c4
 clear c4
 obtain rfl:=Option.some.inj H
 go_enter Tryz.func40,Tryz.ntmps40
 go_wp2
 go_ret
 exact ⟨Z0,Z5⟩
def IsS72 (w0 W:World) (g:Nat) (f0:ByteArray) (f1:Int):Prop:=W.heap[g]? = some (.cells #[.string f0,.int .i64 f1] 72 (0,0))∧w0.heap.size≤g
theorem IsS72.grown {w0 W:World} {g:Nat} {f0:ByteArray} {f1:Int} {W1:World} {row:Option Nat} (h:IsS72 w0 W g f0 f1) (hw:W.grownBy W1 row) (hne:some g≠row):IsS72 w0 W1 g f0 f1:=by
 obtain ⟨hb,hg⟩:=h
 exact ⟨blk_grown hb hw hne,hg⟩
theorem IsS72.fresh {w0 W:World} {g:Nat} {f0:ByteArray} {f1:Int} (h:IsS72 w0 W g f0 f1):∀ k,W.heap.size≤k→k≠g:=by
 obtain ⟨hb,hg⟩:=h
 exact Kd.freshB hb
theorem IsS72.kept {w0 W:World} {g:Nat} {f0:ByteArray} {f1:Int} {W1:World} {S:Nat→Prop} (h:IsS72 w0 W g f0 f1) (hk:Kept W W1 S) (hne:¬ S g):IsS72 w0 W1 g f0 f1:=by
 obtain ⟨hb,hg⟩:=h
 exact ⟨blk_kept hb hk hne,hg⟩
theorem IsS72.below {w0 W:World} {g:Nat} {f0:ByteArray} {f1:Int} {W1:World} (h:IsS72 w0 W g f0 f1) (hw:Below W.heap.size W W1):IsS72 w0 W1 g f0 f1:=h.grown (grown_of_below hw none) Z6
theorem IsS72.alloc {w0 W:World} {g:Nat} {f0:ByteArray} {f1:Int} (h:IsS72 w0 W g f0 f1) (o:Obj):IsS72 w0 (W.alloc o) g f0 f1:=h.below (below_alloc (Below.refl _ _) o)
theorem IsS72.drewN {w0 W:World} {g:Nat} {f0:ByteArray} {f1:Int} (h:IsS72 w0 W g f0 f1) (m:Nat):IsS72 w0 (W.drewN m) g f0 f1:=h
theorem IsS72.drew {w0 W:World} {g:Nat} {f0:ByteArray} {f1:Int} (h:IsS72 w0 W g f0 f1):IsS72 w0 W.drew g f0 f1:=h
theorem IsS72.at_ {w0 W:World} {g:Nat} {f0:ByteArray} {f1:Int} {w':World} {m:Nat} (hq:W.drewN m=w') (h:IsS72 w0 W g f0 f1):IsS72 w0 w' g f0 f1:=by subst hq;exact IsS72.drewN h m
theorem IsS72.apart {w0 W:World} {g:Nat} {f0:ByteArray} {f1:Int} {α:Type} {d:Kd α} {e:Nat} {base:Nat} {ok:Nat→Prop} {v:Value} {xs:List α} (h:IsS72 w0 W g f0 f1) (ho:d.R e W base ok v xs) (ht:∀ q,q∈e :: d.E→q≠72):d.R e W base (fun k=>ok k∧k≠g) v xs:=by
 obtain ⟨hb,hg⟩:=h
 exact Kd.R_types ho hb ht
theorem IsS72.own_ne {w0 W:World} {g:Nat} {f0:ByteArray} {f1:Int} {α:Type} {d:Kd α} {e:Nat} {base:Nat} {ok:Nat→Prop} {v:Value} {xs:List α} (h:IsS72 w0 W g f0 f1) (ho:d.R e W base ok v xs) (ht:e≠72):some g≠v.ownBlock:=by
 obtain ⟨hb,hg⟩:=h
 exact Kd.R_ne ho hb ht
theorem IsS72.lt {w0 W:World} {g:Nat} {f0:ByteArray} {f1:Int} (h:IsS72 w0 W g f0 f1):g<W.heap.size:=by
 obtain ⟨hb,hg⟩:=h
 exact blk_lt hb
theorem IsS72.ge {w0 W:World} {g:Nat} {f0:ByteArray} {f1:Int} (h:IsS72 w0 W g f0 f1):w0.heap.size≤g:=by
 obtain ⟨hb,hg⟩:=h
 exact hg
theorem IsS72.far {w0 W:World} {g:Nat} {f0:ByteArray} {f1:Int} {p:Addr} (h:IsS72 w0 W g f0 f1) (hne:g≠p.block) (u:Value):IsS72 w0 (W.setCell p u) g f0 f1:=by
 obtain ⟨hb,hg⟩:=h
 exact ⟨blk_far hb hne u,hg⟩
theorem cellS72_0 {W:World} {g:Nat} {f0:ByteArray} {f1:Int} (h:W.heap[g]? = some (.cells #[.string f0,.int .i64 f1] 72 (0,0))):W.cell? ⟨g,0,none⟩=some (.string f0):=(bkc h 0).trans rfl
theorem IsS72.set_0 {w0 W:World} {g:Nat} {f0:ByteArray} {f1:Int} (h:IsS72 w0 W g f0 f1) (x:ByteArray):IsS72 w0 (W.setCell ⟨g,0,none⟩ (.string x)) g x f1:=by
 obtain ⟨hb,hg⟩:=h
 exact ⟨by simpa using blk_set hb 0 (.string x),hg⟩
theorem cellS72_1 {W:World} {g:Nat} {f0:ByteArray} {f1:Int} (h:W.heap[g]? = some (.cells #[.string f0,.int .i64 f1] 72 (0,0))):W.cell? ⟨g,1,none⟩=some (.int .i64 f1):=(bkc h 1).trans rfl
theorem IsS72.set_1 {w0 W:World} {g:Nat} {f0:ByteArray} {f1:Int} (h:IsS72 w0 W g f0 f1) (x:Int):IsS72 w0 (W.setCell ⟨g,1,none⟩ (.int .i64 x)) g f0 x:=by
 obtain ⟨hb,hg⟩:=h
 exact ⟨by simpa using blk_set hb 1 (.int .i64 x),hg⟩
theorem IsS72.new (w0 W:World) (f0:ByteArray) (f1:Int) (hB:Below w0.heap.size w0 W):IsS72 w0 (W.alloc (.cells #[.string f0,.int .i64 f1] 72)) W.heap.size f0 f1:=⟨by simpa using heap_alloc_new W _,hB.size⟩
def spec_reader_blanks.l0:Nat→ByteArray→Int→Option (ByteArray×Int)
 | 0,_,_=>none
 | k+1,x1000,x1001=>if x1001<(x1000.size:Int) then (if 0≤x1001 then ((spec_Blank.f (bt x1000 x1001)).bind fun t101=>(if t101=true then (spec_reader_blanks.l0 k x1000 (wrap64 (x1001+1))) else (some (x1000,x1001)))) else (none)) else (some (x1000,x1001))
def spec_reader_blanks.f (k:Nat) (s0_0:ByteArray) (s0_1:Int):Option (ByteArray×Int):=spec_reader_blanks.l0 k s0_0 s0_1
theorem spec_reader_blanks.calls (k:Nat) (g:Nat) (s0_0:ByteArray) (s0_1:Int) (r1:ByteArray) (r2:Int) (w0 w:World) (hI:IsS72 w0 w g s0_0 s0_1) (hB:Below w0.heap.size w0 w) (h:spec_reader_blanks.f k s0_0 s0_1=some (r1,r2)) :
  Calls Tryz.prog 37 #[.pointer (some ⟨g,0,none⟩)] w fun e w'=>e = .returned (.tuple #[])∧IsS72 w0 w' g r1 r2∧Below w0.heap.size w0 w'∧KeepBut w w' g none:=by
 have HI0:=am hI
 have HK:=am (KeepBut.refl w g none)
 have HL:=am hB.size
 clear hI
 have HW0:=am hB.size
 have HB:=am hB
 clear hB
 have H:(spec_reader_blanks.l0 k s0_0 s0_1)=some (r1,r2):=h
 clear h
 have H':=am H
 clear H
 go_enter Tryz.func37,Tryz.ntmps37
 go_wp2
 repeat (go_quiet (fail);try go_wp2)
 (try simp only [Act.put,List.setIfInBounds_toArray,List.set_cons_succ,List.set_cons_zero])
 go_loopg [] k (fun kq w'=>∃ (x1001_1:Int),Aside0 (spec_reader_blanks.l0 kq s0_0 x1001_1=some (r1,r2))∧Aside0 (kq≤k)∧Aside0 (IsS72 w0 w' g s0_0 x1001_1)∧Aside0 (KeepBut w w' g none)∧Aside0 (Below w0.heap.size w0 w'))
 case atStart=>exact ⟨(s0_1),H',⟨Nat.le_refl _⟩,⟨Z3⟩,⟨Z4⟩,⟨Z7⟩⟩
 clear H'
 obtain ⟨x1001_1,HA,HK1,HI0,HK,HB⟩:=hrel
 cases gk with
 | zero=>exact absurd HA.out (by simp [spec_reader_blanks.l0])
 | succ k1=>
 have H:=HA.out
 clear HA
 simp only [spec_reader_blanks.l0] at H
 by_cases c2:x1001_1<(s0_0.size:Int)
 rotate_left
 ·
  rw [if_neg c2] at H
  have c2b0:=df c2
  clear c2
  simp only [Option.some.injEq,Prod.mk.injEq] at H
  obtain ⟨rfl,rfl⟩:=H
  obtain ⟨HGz10,hgz10⟩:=HI0.out
  have hcz10_0:=cellS72_0 HGz10
  have hcz10_1:=cellS72_1 HGz10
  have hfz10_0:=bkf HGz10 0
  have hfz10_1:=bkf HGz10 1
  clear HGz10 hgz10
  go_wp2
  repeat (go_quiet (fail);try go_wp2)
  first | go_end0 | ((try simp only [Exit.inBlock,Exit.then]);refine bodyPost_ret (results_none rfl _ _ _) rfl ?_)
  exact ⟨Z12,Z3,Z7,Z4⟩
 rw [if_pos c2] at H
 have c2b0:=dt c2
 clear c2
 by_cases c3:0≤x1001_1
 rotate_left
 ·
  rw [if_neg c3] at H
  exact absurd H Z6
 rw [if_pos c3] at H
 have c3b0:=dt c3
 clear c3
 replace H:=obs H
 obtain ⟨t101,A50,H⟩:=H
 have A5:=am A50
 clear A50
 have HC6:=am H
 clear H
 obtain ⟨HGz7,hgz7⟩:=HI0.out
 have hcz7_0:=cellS72_0 HGz7
 have hcz7_1:=cellS72_1 HGz7
 have hfz7_0:=bkf HGz7 0
 have hfz7_1:=bkf HGz7 1
 clear HGz7 hgz7
 have p4:0≤(x1001_1:Int):=od Z8
 have q4:x1001_1<(s0_0.size:Int):=od Z8
 have hx4:=bt_at s0_0 x1001_1
 replace p4:=eq_true p4
 replace q4:=eq_true q4
 try go_upto_if 23 with (first | (go_at_call 40;(with_reducible refine (spec_Blank.calls (bt s0_0 x1001_1) t101 _ A5.out).mono ?_);rintro e w' ⟨rfl,⟨nd,rfl⟩⟩;(try first | exact ⟨rfl,_,World.drewN_drewN _ _ _⟩ | exact ⟨rfl,_,Eq.trans (World.drewN_drewN _ _ _) (congrArg (World.drewN _) (Nat.add_assoc _ _ _))⟩)))
 repeat (go_quiet (first | (go_at_call 40;(with_reducible refine (spec_Blank.calls (bt s0_0 x1001_1) t101 _ A5.out).mono ?_);rintro e w' ⟨rfl,⟨nd,rfl⟩⟩;(try first | exact ⟨rfl,_,World.drewN_drewN _ _ _⟩ | exact ⟨rfl,_,Eq.trans (World.drewN_drewN _ _ _) (congrArg (World.drewN _) (Nat.add_assoc _ _ _))⟩)));try go_upto_if 23 with (first | (go_at_call 40;(with_reducible refine (spec_Blank.calls (bt s0_0 x1001_1) t101 _ A5.out).mono ?_);rintro e w' ⟨rfl,⟨nd,rfl⟩⟩;(try first | exact ⟨rfl,_,World.drewN_drewN _ _ _⟩ | exact ⟨rfl,_,Eq.trans (World.drewN_drewN _ _ _) (congrArg (World.drewN _) (Nat.add_assoc _ _ _))⟩))))
 (try simp only [Act.put,List.setIfInBounds_toArray,List.set_cons_zero,List.set_cons_succ])
 have H:=HC6.out
 clear HC6
 by_cases c8:t101=true
 rotate_left
 ·
  replace c8:=bef c8
  subst c8
  rw [if_neg (show ¬ (false=true) from Z2)] at H
  simp only [Option.some.injEq,Prod.mk.injEq] at H
  obtain ⟨rfl,rfl⟩:=H
  go_wp2
  repeat (go_quiet (fail);try go_wp2)
  first | go_end0 | ((try simp only [Exit.inBlock,Exit.then]);refine bodyPost_ret (results_none rfl _ _ _) rfl ?_)
  exact ⟨Z12,Z3,Z7,Z4⟩
 subst c8
 rw [if_pos rfl] at H
 have H':=am H
 clear H
 obtain ⟨HGz9,hgz9⟩:=HI0.out
 have hcz9_0:=cellS72_0 HGz9
 have hcz9_1:=cellS72_1 HGz9
 have hfz9_0:=bkf HGz9 0
 have hfz9_1:=bkf HGz9 1
 clear HGz9 hgz9
 go_wp2
 repeat (go_quiet (fail);try go_wp2)
 go_roundg k1
 case measure=>have:=HK1.out;omega
 case rel=>exact ⟨(wrap64 (x1001_1+1)),H',⟨Z19⟩,⟨Z3⟩,⟨Z4⟩,⟨Z7⟩⟩
def spec_reader_here.f (s0_0:ByteArray) (s0_1:Int):Option (Int×ByteArray×Int):=if s0_1<(s0_0.size:Int) then (if 0≤s0_1 then (some (bt s0_0 s0_1,s0_0,s0_1)) else (none)) else (some (0,s0_0,s0_1))
theorem spec_reader_here.calls (g:Nat) (s0_0:ByteArray) (s0_1:Int) (r1:Int) (r2:ByteArray) (r3:Int) (w0 w:World) (hI:IsS72 w0 w g s0_0 s0_1) (hB:Below w0.heap.size w0 w) (h:spec_reader_here.f s0_0 s0_1=some (r1,r2,r3)) :
  Calls Tryz.prog 63 #[.pointer (some ⟨g,0,none⟩)] w fun e w'=>e = .returned (.int .u8 r1)∧IsS72 w0 w' g r2 r3∧Below w0.heap.size w0 w'∧KeepBut w w' g none:=by
 have HI0:=am hI
 have HK:=am (KeepBut.refl w g none)
 have HL:=am hB.size
 clear hI
 have HW0:=am hB.size
 have HB:=am hB
 clear hB
 have H:(if s0_1<(s0_0.size:Int) then (if 0≤s0_1 then (some (bt s0_0 s0_1,s0_0,s0_1)) else (none)) else (some (0,s0_0,s0_1)))=some (r1,r2,r3):=h
 clear h
 by_cases c2:s0_1<(s0_0.size:Int)
 rotate_left
 ·
  rw [if_neg c2] at H
  have c2b0:=df c2
  clear c2
  simp only [Option.some.injEq,Prod.mk.injEq] at H
  obtain ⟨rfl,rfl,rfl⟩:=H
  obtain ⟨HGz6,hgz6⟩:=HI0.out
  have hcz6_0:=cellS72_0 HGz6
  have hcz6_1:=cellS72_1 HGz6
  have hfz6_0:=bkf HGz6 0
  have hfz6_1:=bkf HGz6 1
  clear HGz6 hgz6
  go_enter Tryz.func63,Tryz.ntmps63
  go_wp2
  repeat (go_quiet (fail);try go_wp2)
  go_ret
  exact ⟨Z12,Z3,Z7,Z4⟩
 rw [if_pos c2] at H
 have c2b0:=dt c2
 clear c2
 by_cases c3:0≤s0_1
 rotate_left
 ·
  rw [if_neg c3] at H
  exact absurd H Z6
 rw [if_pos c3] at H
 have c3b0:=dt c3
 clear c3
 simp only [Option.some.injEq,Prod.mk.injEq] at H
 obtain ⟨rfl,rfl,rfl⟩:=H
 obtain ⟨HGz5,hgz5⟩:=HI0.out
 have hcz5_0:=cellS72_0 HGz5
 have hcz5_1:=cellS72_1 HGz5
 have hfz5_0:=bkf HGz5 0
 have hfz5_1:=bkf HGz5 1
 clear HGz5 hgz5
 have p4:0≤(s0_1:Int):=od Z8
 have q4:s0_1<(s0_0.size:Int):=od Z8
 have hx4:=bt_at s0_0 s0_1
 replace p4:=eq_true p4
 replace q4:=eq_true q4
 go_enter Tryz.func63,Tryz.ntmps63
 go_wp2
 repeat (go_quiet (fail);try go_wp2)
 go_ret
 exact ⟨Z12,Z3,Z7,Z4⟩
mutual
def spec_hexDigit.j0:Nat→Int→Bool→Option (Int×Bool)
 | 0,_,_=>none
 | k+1,x0,x4=>if x4=true then (some ((x0 - 48) % 256,true)) else (if 97≤x0 then (spec_hexDigit.j1 k x0 (decide (x0≤102))) else (spec_hexDigit.j1 k x0 false))
def spec_hexDigit.j1:Nat→Int→Bool→Option (Int×Bool)
 | 0,_,_=>none
 | k+1,x0,x14=>if x14=true then (some (((x0 - 97) % 256)+10,true)) else (if 65≤x0 then (if x0≤70 then (some (((x0 - 65) % 256)+10,true)) else (some (0,false))) else (some (0,false)))
end
def spec_hexDigit.f (k:Nat) (a0:Int):Option (Int×Bool):=if 48≤a0 then (spec_hexDigit.j0 k a0 (decide (a0≤57))) else (spec_hexDigit.j0 k a0 false)
theorem spec_hexDigit.mono_l:∀ k,(∀ y0 y1,LeO (spec_hexDigit.j0 k y0 y1) (spec_hexDigit.j0 (k+1) y0 y1))∧(∀ y0 y1,LeO (spec_hexDigit.j1 k y0 y1) (spec_hexDigit.j1 (k+1) y0 y1))
 | 0=>⟨fun _ _ r h=>by simp [spec_hexDigit.j0] at h,fun _ _ r h=>by simp [spec_hexDigit.j1] at h⟩
 | k+1=>by
  obtain ⟨ih0,ih1⟩:=spec_hexDigit.mono_l k
  refine ⟨?_,?_⟩
  ·
   intro y0 y1
   unfold spec_hexDigit.j0
   exact Z56
  intro y0 y1
  unfold spec_hexDigit.j1
  exact Z56
theorem spec_hexDigit.mono:∀ a0 k,LeO (spec_hexDigit.f k a0) (spec_hexDigit.f (k+1) a0):=by
 intro a0 k
 obtain ⟨ih0,ih1⟩:=spec_hexDigit.mono_l k
 unfold spec_hexDigit.f
 repeat' first
   | (with_reducible exact ih0 _ _)
   | (with_reducible exact ih1 _ _)
   | (with_reducible exact LeO.refl _)
   | (with_reducible exact LeO.none _)
   | (with_reducible refine LeO.ite ?_ ?_)
   | (with_reducible refine LeO.bind ?_ (fun _=>?_))
   | exact ih0 _ _
   | exact ih1 _ _
   | exact LeO.none _
   | refine LeO.ite ?_ ?_
   | refine LeO.bind ?_ (fun _=>?_)
theorem spec_hexDigit.calls (k:Nat) (a0:Int) (r1:Int) (r2:Bool) (w:World) (h:spec_hexDigit.f k a0=some (r1,r2)) :
  Calls Tryz.prog 82 #[.int .u8 a0] w fun e w'=>e = .returned (.tuple #[.int .i64 r1,.bool r2])∧Drawn0 w w':=by
 have H:(if 48≤a0 then (spec_hexDigit.j0 k a0 (decide (a0≤57))) else (spec_hexDigit.j0 k a0 false))=some (r1,r2):=h
 clear h
 have HC2:=am H
 clear H
 go_enter Tryz.func82,Tryz.ntmps82
 go_upto_region 1 with (fail)
 go_cut [4] (fun v4 wc=>∃ (kq:Nat) (x4_1:Bool),v4 = .bool x4_1∧Aside0 (spec_hexDigit.j0 kq a0 x4_1=some (r1,r2))∧Aside0 (kq≤k)∧Drawn0 w wc)
 case first=>
  have H:=HC2.out
  clear HC2
  by_cases c3:48≤a0
  rotate_left
  ·
   rw [if_neg c3] at H
   have c3b0:=df c3
   clear c3
   (first | rw [c3b0] | (simp only [i64_w,i32_w];rw [c3b0]) | skip)
   have H':=am H
   clear H
   go_wp2
   go_meet
   case rel=>exact ⟨_,(false),Z0,H',⟨Z15⟩,Z5⟩
  rw [if_pos c3] at H
  have c3b0:=dt c3
  clear c3
  (first | rw [c3b0] | (simp only [i64_w,i32_w];rw [c3b0]) | skip)
  have H':=am H
  clear H
  go_wp2
  go_meet
  case rel=>exact ⟨_,(decide (a0≤57)),Z0,H',⟨Z15⟩,Z5⟩
 clear HC2;try clear p2;try clear c3;try clear c3b0
 obtain ⟨kq,x4_1,rfl,HA,HJ1,⟨mc1,rfl⟩⟩:=hcut
 cases kq with
 | zero=>exact absurd HA.out (by simp [spec_hexDigit.j0])
 | succ kj1=>
 have H:=HA.out
 clear HA
 simp only [spec_hexDigit.j0] at H
 by_cases c4:x4_1=true
 ·
  subst c4
  rw [if_pos rfl] at H
  simp only [Option.some.injEq,Prod.mk.injEq] at H
  obtain ⟨rfl,rfl⟩:=H
  go_wp2
  go_ret2
  exact ⟨Z0,Z5⟩
 replace c4:=bef c4
 subst c4
 rw [if_neg (show ¬ (false=true) from Z2)] at H
 have HC5:=am H
 clear H
 go_upto_region 3 with (fail)
 go_cut [14] (fun v14 wc=>∃ (kq:Nat) (x14_4:Bool),v14 = .bool x14_4∧Aside0 (spec_hexDigit.j1 kq a0 x14_4=some (r1,r2))∧Aside0 (kq≤kj1)∧Drawn0 w wc)
 case first=>
  have H:=HC5.out
  clear HC5
  by_cases c6:97≤a0
  rotate_left
  ·
   rw [if_neg c6] at H
   have c6b0:=df c6
   clear c6
   (first | rw [c6b0] | (simp only [i64_w,i32_w];rw [c6b0]) | skip)
   have H':=am H
   clear H
   go_wp2
   go_meet
   case rel=>exact ⟨_,(false),Z0,H',⟨by have:=HJ1.out;first | omega | exact Nat.le_refl _⟩,Z5⟩
  rw [if_pos c6] at H
  have c6b0:=dt c6
  clear c6
  (first | rw [c6b0] | (simp only [i64_w,i32_w];rw [c6b0]) | skip)
  have H':=am H
  clear H
  go_wp2
  go_meet
  case rel=>exact ⟨_,(decide (a0≤102)),Z0,H',⟨by have:=HJ1.out;first | omega | exact Nat.le_refl _⟩,Z5⟩
 clear HC5;try clear c1;try clear p2;try clear c3;try clear c3b0;try clear c4;try clear c6;try clear c6b0;try clear p2
 obtain ⟨kq,x14_4,rfl,HA,HJ4,⟨mc4,rfl⟩⟩:=hcut
 cases kq with
 | zero=>exact absurd HA.out (by simp [spec_hexDigit.j1])
 | succ kj4=>
 have H:=HA.out
 clear HA
 simp only [spec_hexDigit.j1] at H
 by_cases c7:x14_4=true
 ·
  subst c7
  rw [if_pos rfl] at H
  simp only [Option.some.injEq,Prod.mk.injEq] at H
  obtain ⟨rfl,rfl⟩:=H
  go_wp2
  go_ret2
  exact ⟨Z0,Z5⟩
 replace c7:=bef c7
 subst c7
 rw [if_neg (show ¬ (false=true) from Z2)] at H
 by_cases c8:65≤a0
 rotate_left
 ·
  rw [if_neg c8] at H
  have c8b0:=df c8
  clear c8
  simp only [Option.some.injEq,Prod.mk.injEq] at H
  obtain ⟨rfl,rfl⟩:=H
  go_wp2
  go_ret2
  exact ⟨Z0,Z5⟩
 rw [if_pos c8] at H
 have c8b0:=dt c8
 clear c8
 by_cases c9:a0≤70
 ·
  rw [if_pos c9] at H
  have c9b0:=dt c9
  clear c9
  simp only [Option.some.injEq,Prod.mk.injEq] at H
  obtain ⟨rfl,rfl⟩:=H
  go_wp2
  go_ret2
  exact ⟨Z0,Z5⟩
 rw [if_neg c9] at H
 have c9b0:=df c9
 clear c9
 simp only [Option.some.injEq,Prod.mk.injEq] at H
 obtain ⟨rfl,rfl⟩:=H
 go_wp2
 go_ret2
 exact ⟨Z0,Z5⟩
mutual
def spec_reader_escape.j0:Nat→Int→Bool→ByteArray→Int→Option (Bool×ByteArray×Int)
 | 0,_,_,_,_=>none
 | k+1,x7,x8,x1000,x1001=>if x8=true then (some (true,x1000,wrap64 (x1001+1))) else (if x7=117 then (spec_reader_escape.l0 k 0 x1000 (wrap64 (x1001+1))) else (some (false,x1000,x1001)))
def spec_reader_escape.l0:Nat→Int→ByteArray→Int→Option (Bool×ByteArray×Int)
 | 0,_,_,_=>none
 | k+1,x3,x1000,x1001=>if x3<4 then ((spec_reader_here.f x1000 x1001).bind fun bt105=>((spec_hexDigit.f k bt105.1).bind fun bt108=>(if bt108.2=true then (spec_reader_escape.l0 k (wrap64 (x3+1)) bt105.2.1 (wrap64 (bt105.2.2+1))) else (some (false,bt105.2.1,bt105.2.2))))) else (some (true,x1000,x1001))
end
def spec_reader_escape.f (k:Nat) (s0_0:ByteArray) (s0_1:Int):Option (Bool×ByteArray×Int):=(spec_reader_here.f s0_0 s0_1).bind fun bt102=>(if bt102.1=34 then (spec_reader_escape.j0 k bt102.1 (bt102.1 == 34) bt102.2.1 bt102.2.2) else (if bt102.1=92 then (spec_reader_escape.j0 k bt102.1 (bt102.1 == 92) bt102.2.1 bt102.2.2) else (if bt102.1=47 then (spec_reader_escape.j0 k bt102.1 (bt102.1 == 47) bt102.2.1 bt102.2.2) else (if bt102.1=98 then (spec_reader_escape.j0 k bt102.1 (bt102.1 == 98) bt102.2.1 bt102.2.2) else (if bt102.1=102 then (spec_reader_escape.j0 k bt102.1 (bt102.1 == 102) bt102.2.1 bt102.2.2) else (if bt102.1=110 then (spec_reader_escape.j0 k bt102.1 (bt102.1 == 110) bt102.2.1 bt102.2.2) else (if bt102.1=114 then (spec_reader_escape.j0 k bt102.1 (bt102.1 == 114) bt102.2.1 bt102.2.2) else (spec_reader_escape.j0 k bt102.1 (bt102.1 == 116) bt102.2.1 bt102.2.2))))))))
theorem spec_reader_escape.calls (k:Nat) (g:Nat) (s0_0:ByteArray) (s0_1:Int) (r1:Bool) (r2:ByteArray) (r3:Int) (w0 w:World) (hI:IsS72 w0 w g s0_0 s0_1) (hB:Below w0.heap.size w0 w) (h:spec_reader_escape.f k s0_0 s0_1=some (r1,r2,r3)) :
  Calls Tryz.prog 88 #[.pointer (some ⟨g,0,none⟩)] w fun e w'=>e = .returned (.bool r1)∧IsS72 w0 w' g r2 r3∧Below w0.heap.size w0 w'∧KeepBut w w' g none:=by
 have HI0:=am hI
 have HK:=am (KeepBut.refl w g none)
 have HL:=am hB.size
 clear hI
 have HW0:=am hB.size
 have HB:=am hB
 clear hB
 have H:((spec_reader_here.f s0_0 s0_1).bind fun bt102=>(if bt102.1=34 then (spec_reader_escape.j0 k bt102.1 (bt102.1 == 34) bt102.2.1 bt102.2.2) else (if bt102.1=92 then (spec_reader_escape.j0 k bt102.1 (bt102.1 == 92) bt102.2.1 bt102.2.2) else (if bt102.1=47 then (spec_reader_escape.j0 k bt102.1 (bt102.1 == 47) bt102.2.1 bt102.2.2) else (if bt102.1=98 then (spec_reader_escape.j0 k bt102.1 (bt102.1 == 98) bt102.2.1 bt102.2.2) else (if bt102.1=102 then (spec_reader_escape.j0 k bt102.1 (bt102.1 == 102) bt102.2.1 bt102.2.2) else (if bt102.1=110 then (spec_reader_escape.j0 k bt102.1 (bt102.1 == 110) bt102.2.1 bt102.2.2) else (if bt102.1=114 then (spec_reader_escape.j0 k bt102.1 (bt102.1 == 114) bt102.2.1 bt102.2.2) else (spec_reader_escape.j0 k bt102.1 (bt102.1 == 116) bt102.2.1 bt102.2.2)))))))))=some (r1,r2,r3):=h
 clear h
 replace H:=obs H
 obtain ⟨⟨t102,t103,t104⟩,A20,H⟩:=H
 dsimp only at H
 have A2:=am A20
 clear A20
 have HC3:=am H
 clear H
 go_enter Tryz.func88,Tryz.ntmps88
 go_upto_if 8 with (first | ((with_reducible refine gate_callee (f:=63) rfl ?_);refine goesL_ (some 7) rfl rfl Tryz.func63 Z1 rfl #[.pointer (some ⟨g,0,none⟩)] rfl Z10 ?_;(with_reducible refine (spec_reader_here.calls g s0_0 s0_1 t102 t103 t104 w0 _ ?side1 ?side2 A2.out).mono ?_);(case side1=>exact Z3);(case side2=>exact Z7);rintro e w4 ⟨rfl,hi,hb,hk⟩;refine ⟨_,rfl,?_⟩;have n0_:=am (KeepBut.trans Z4 hk (.inl rfl));have n1_:=am (hb);have n2_:=am (hi);clear HK;clear HB;clear HI0;have HK:=n0_;have HB:=n1_;have HI0:=n2_;clear n0_ n1_ n2_;(try clear hb);(try clear hb2);(try clear hk);(try clear hi)))
 (try simp only [Act.put,List.setIfInBounds_toArray,List.set_cons_zero,List.set_cons_succ])
 go_cut [8] (fun v8 wc=>∃ (kq:Nat) (x8_2:Bool),v8 = .bool x8_2∧Aside0 (spec_reader_escape.j0 kq t102 x8_2 t103 t104=some (r1,r2,r3))∧Aside0 (kq≤k)∧Aside0 (IsS72 w0 wc g t103 t104)∧Aside0 (KeepBut w wc g none)∧Aside0 (Below w0.heap.size w0 wc))
 case first=>
  have H:=HC3.out
  clear HC3
  by_cases c5:t102=34
  ·
   rw [if_pos c5] at H
   have c5b0:=beq_iff_eq.mpr c5
   have c5b1:=bnf c5
   clear c5
   (first | rw [c5b0] | (simp only [i64_w,i32_w];rw [c5b0]) | skip)
   have H':=am H
   clear H
   go_wp2
   go_meet
   case rel=>exact ⟨_,((t102 == 34)),Z0,H',⟨Z15⟩,⟨Z3⟩,⟨Z4⟩,⟨Z7⟩⟩
  rw [if_neg c5] at H
  have c5b0:=bfe c5
  have c5b1:=bne_iff_ne.mpr c5
  (first | rw [c5b0] | (simp only [i64_w,i32_w];rw [c5b0]) | skip)
  by_cases c6:t102=92
  ·
   rw [if_pos c6] at H
   have c6b0:=beq_iff_eq.mpr c6
   have c6b1:=bnf c6
   clear c6
   have H':=am H
   clear H
   go_wp2
   go_meet
   case rel=>exact ⟨_,((t102 == 92)),Z0,H',⟨Z15⟩,⟨Z3⟩,⟨Z4⟩,⟨Z7⟩⟩
  rw [if_neg c6] at H
  have c6b0:=bfe c6
  have c6b1:=bne_iff_ne.mpr c6
  by_cases c7:t102=47
  ·
   rw [if_pos c7] at H
   have c7b0:=beq_iff_eq.mpr c7
   have c7b1:=bnf c7
   clear c7
   have H':=am H
   clear H
   go_wp2
   go_meet
   case rel=>exact ⟨_,((t102 == 47)),Z0,H',⟨Z15⟩,⟨Z3⟩,⟨Z4⟩,⟨Z7⟩⟩
  rw [if_neg c7] at H
  have c7b0:=bfe c7
  have c7b1:=bne_iff_ne.mpr c7
  by_cases c8:t102=98
  ·
   rw [if_pos c8] at H
   have c8b0:=beq_iff_eq.mpr c8
   have c8b1:=bnf c8
   clear c8
   have H':=am H
   clear H
   go_wp2
   go_meet
   case rel=>exact ⟨_,((t102 == 98)),Z0,H',⟨Z15⟩,⟨Z3⟩,⟨Z4⟩,⟨Z7⟩⟩
  rw [if_neg c8] at H
  have c8b0:=bfe c8
  have c8b1:=bne_iff_ne.mpr c8
  by_cases c9:t102=102
  ·
   rw [if_pos c9] at H
   have c9b0:=beq_iff_eq.mpr c9
   have c9b1:=bnf c9
   clear c9
   have H':=am H
   clear H
   go_wp2
   go_meet
   case rel=>exact ⟨_,((t102 == 102)),Z0,H',⟨Z15⟩,⟨Z3⟩,⟨Z4⟩,⟨Z7⟩⟩
  rw [if_neg c9] at H
  have c9b0:=bfe c9
  have c9b1:=bne_iff_ne.mpr c9
  by_cases c10:t102=110
  ·
   rw [if_pos c10] at H
   have c10b0:=beq_iff_eq.mpr c10
   have c10b1:=bnf c10
   clear c10
   have H':=am H
   clear H
   go_wp2
   go_meet
   case rel=>exact ⟨_,((t102 == 110)),Z0,H',⟨Z15⟩,⟨Z3⟩,⟨Z4⟩,⟨Z7⟩⟩
  rw [if_neg c10] at H
  have c10b0:=bfe c10
  have c10b1:=bne_iff_ne.mpr c10
  by_cases c11:t102=114
  rotate_left
  ·
   rw [if_neg c11] at H
   have c11b0:=bfe c11
   have c11b1:=bne_iff_ne.mpr c11
   have H':=am H
   clear H
   go_wp2
   go_meet
   case rel=>exact ⟨_,((t102 == 116)),Z0,H',⟨Z15⟩,⟨Z3⟩,⟨Z4⟩,⟨Z7⟩⟩
  rw [if_pos c11] at H
  have c11b0:=beq_iff_eq.mpr c11
  have c11b1:=bnf c11
  clear c11
  have H':=am H
  clear H
  go_wp2
  go_meet
  case rel=>exact ⟨_,((t102 == 114)),Z0,H',⟨Z15⟩,⟨Z3⟩,⟨Z4⟩,⟨Z7⟩⟩
 clear HC3;try clear c1;try clear p2;try clear c5;try clear c5b0;try clear c5b1;try clear c6;try clear c6b0;try clear c6b1;try clear c7;try clear c7b0;try clear c7b1;try clear c8;try clear c8b0;try clear c8b1;try clear c9;try clear c9b0;try clear c9b1;try clear c10;try clear c10b0;try clear c10b1;try clear c11;try clear c11b0;try clear c11b1
 obtain ⟨kq,x8_2,rfl,HA,HJ2,HI0,HK,HB⟩:=hcut
 cases kq with
 | zero=>exact absurd HA.out (by simp [spec_reader_escape.j0])
 | succ kj2=>
 have H:=HA.out
 clear HA
 simp only [spec_reader_escape.j0] at H
 by_cases c12:x8_2=true
 ·
  subst c12
  rw [if_pos rfl] at H
  simp only [Option.some.injEq,Prod.mk.injEq] at H
  obtain ⟨rfl,rfl,rfl⟩:=H
  obtain ⟨HGz13,hgz13⟩:=HI0.out
  have hcz13_0:=cellS72_0 HGz13
  have hcz13_1:=cellS72_1 HGz13
  have hfz13_0:=bkf HGz13 0
  have hfz13_1:=bkf HGz13 1
  clear HGz13 hgz13
  go_wp2
  go_ret
  exact ⟨Z12,Z3,Z7,Z4⟩
 replace c12:=bef c12
 subst c12
 rw [if_neg (show ¬ (false=true) from Z2)] at H
 by_cases c14:t102=117
 rotate_left
 ·
  rw [if_neg c14] at H
  have c14b0:=bfe c14
  have c14b1:=bne_iff_ne.mpr c14
  simp only [Option.some.injEq,Prod.mk.injEq] at H
  obtain ⟨rfl,rfl,rfl⟩:=H
  go_wp2
  go_ret
  exact ⟨Z12,Z3,Z7,Z4⟩
 rw [if_pos c14] at H
 have c14b0:=beq_iff_eq.mpr c14
 have c14b1:=bnf c14
 clear c14
 have H':=am H
 clear H
 obtain ⟨HGz15,hgz15⟩:=HI0.out
 have hcz15_0:=cellS72_0 HGz15
 have hcz15_1:=cellS72_1 HGz15
 have hfz15_0:=bkf HGz15 0
 have hfz15_1:=bkf HGz15 1
 clear HGz15 hgz15
 go_wp2
 (try simp only [Act.put,List.setIfInBounds_toArray,List.set_cons_succ,List.set_cons_zero])
 go_loopg [3] kj2 (fun kq v3 w'=>∃ (x3_2:Int) (x1000_2:ByteArray) (x1001_2:Int),v3 = .int .i64 x3_2∧Aside0 (spec_reader_escape.l0 kq x3_2 x1000_2 x1001_2=some (r1,r2,r3))∧Aside0 (kq≤kj2)∧Aside0 (IsS72 w0 w' g x1000_2 x1001_2)∧Aside0 (KeepBut w w' g none)∧Aside0 (Below w0.heap.size w0 w'))
 case atStart=>exact ⟨(0),(t103),(wrap64 (t104+1)),Z0,H',⟨Nat.le_refl _⟩,⟨Z3⟩,⟨Z4⟩,⟨Z7⟩⟩
 clear H'
 try clear c1;try clear p2;try clear c5;try clear c5b0;try clear c5b1;try clear c6;try clear c6b0;try clear c6b1;try clear p6;try clear c7;try clear c7b0;try clear c7b1;try clear c8;try clear c8b0;try clear c8b1;try clear c9;try clear c9b0;try clear c9b1;try clear c10;try clear c10b0;try clear c10b1;try clear c11;try clear c11b0;try clear c11b1;try clear c12;try clear c14;try clear c14b0;try clear c14b1;try clear hcz13_0;try clear hcz13_1;try clear hcz15_0;try clear hcz15_1;try clear hfz13_0;try clear hfz13_1;try clear hfz15_0;try clear hfz15_1;try clear p2
 obtain ⟨x3_2,x1000_2,x1001_2,rfl,HA,HK2,HI0,HK,HB⟩:=hrel
 cases gk with
 | zero=>exact absurd HA.out (by simp [spec_reader_escape.l0])
 | succ k2=>
 have H:=HA.out
 clear HA
 simp only [spec_reader_escape.l0] at H
 by_cases c16:x3_2<4
 rotate_left
 ·
  rw [if_neg c16] at H
  have c16b0:=df c16
  clear c16
  simp only [Option.some.injEq,Prod.mk.injEq] at H
  obtain ⟨rfl,rfl,rfl⟩:=H
  go_wp2
  go_ret
  exact ⟨Z12,Z3,Z7,Z4⟩
 rw [if_pos c16] at H
 have c16b0:=dt c16
 clear c16
 replace H:=obs H
 obtain ⟨⟨t105,t106,t107⟩,A170,H⟩:=H
 dsimp only at H
 have A17:=am A170
 clear A170
 replace H:=obs H
 obtain ⟨⟨t108,t109⟩,A180,H⟩:=H
 dsimp only at H
 have A18:=am A180
 clear A180
 have HC19:=am H
 clear H
 go_upto_if 44 with (first | ((with_reducible refine gate_callee (f:=63) rfl ?_);refine goesL_ (some 39) rfl rfl Tryz.func63 Z1 rfl #[.pointer (some ⟨g,0,none⟩)] rfl Z10 ?_;(with_reducible refine (spec_reader_here.calls g x1000_2 x1001_2 t105 t106 t107 w0 _ ?side1 ?side2 A17.out).mono ?_);(case side1=>exact Z3);(case side2=>exact Z7);rintro e w20 ⟨rfl,hi,hb,hk⟩;refine ⟨_,rfl,?_⟩;have n0_:=am (KeepBut.trans Z4 hk (.inl rfl));have n1_:=am (hb);have n2_:=am (hi);clear HK;clear HB;clear HI0;have HK:=n0_;have HB:=n1_;have HI0:=n2_;clear n0_ n1_ n2_;(try clear hb);(try clear hb2);(try clear hk);(try clear hi)) | ((with_reducible refine gate_callee (f:=82) rfl ?_);refine goesL_ (some 40) rfl rfl Tryz.func82 Z1 rfl #[.int .u8 t105] rfl Z10 ?_;(with_reducible refine (spec_hexDigit.calls k2 t105 t108 t109 _ A18.out).mono ?_);rintro e w' ⟨rfl,⟨nd,rfl⟩⟩;refine ⟨_,rfl,?_⟩))
 (try simp only [Act.put,List.setIfInBounds_toArray,List.set_cons_zero,List.set_cons_succ])
 have H:=HC19.out
 clear HC19
 by_cases c21:t109=true
 rotate_left
 ·
  replace c21:=bef c21
  subst c21
  rw [if_neg (show ¬ (false=true) from Z2)] at H
  simp only [Option.some.injEq,Prod.mk.injEq] at H
  obtain ⟨rfl,rfl,rfl⟩:=H
  go_wp2
  go_ret
  exact ⟨Z12,Z3,Z7,Z4⟩
 subst c21
 rw [if_pos rfl] at H
 have H':=am H
 clear H
 obtain ⟨HGz22,hgz22⟩:=HI0.out
 have hcz22_0:=cellS72_0 HGz22
 have hcz22_1:=cellS72_1 HGz22
 have hfz22_0:=bkf HGz22 0
 have hfz22_1:=bkf HGz22 1
 clear HGz22 hgz22
 go_wp2
 go_roundg k2
 case measure=>have:=HJ2.out;have:=HK2.out;omega
 case rel=>exact ⟨(wrap64 (x3_2+1)),(t106),(wrap64 (t107+1)),Z0,H',⟨Z42⟩,⟨Z3⟩,⟨Z4⟩,⟨Z7⟩⟩
end Go.Proofs.YtieflhncpjjciaaGreatDoor.PFnGjSquashItems
