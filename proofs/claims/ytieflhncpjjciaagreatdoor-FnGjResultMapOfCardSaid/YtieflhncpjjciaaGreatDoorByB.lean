/- Walks and plain laws of this claim. -/
import Derived.Test.YtieflhncpjjciaaGreatDoorByA
import Derived.Laws.Externs
import Derived.StillTailTactics
set_option maxHeartbeats 8000000
set_option maxRecDepth 100000
set_option linter.unusedVariables false
set_option linter.unusedSimpArgs false
namespace Go.Proofs.YtieflhncpjjciaaGreatDoor.Dc
open Go Go.RowKit
structure TB (w:World) (B:Nat):Prop where
 lc:LC w B
 mb:w.cell? ⟨5,0,none⟩=some (.int .u64 52)
 eb:w.cell? ⟨5,1,none⟩=some (.int .u64 11)
 bi:w.cell? ⟨5,2,none⟩=some (.int .i64 (-1023))
 pw:∃ lb lo c:Nat,lb<B∧w.cell? ⟨7,0,none⟩=some (.slice (some ⟨lb,lo,none⟩) 9 c)∧∀ i,i<9→∃ z:Nat,w.cell? ⟨lb,lo+i,none⟩=some (.int .i64 (z:Int))∧1≤z∧z≤27
theorem TB.below {w w':World} {B:Nat} (h:TB w B) (hb:Below B w w'):TB w' B:=by
 have h10:=h.lc.ten
 obtain ⟨lb,lo,c,p1,p2,p3⟩:=h.pw
 refine ⟨h.lc.below hb,(hb.cell (p:=⟨5,0,none⟩) (by show 5<B;omega)).trans h.mb,(hb.cell (p:=⟨5,1,none⟩) (by show 5<B;omega)).trans h.eb,(hb.cell (p:=⟨5,2,none⟩) (by show 5<B;omega)).trans h.bi,lb,lo,c,p1,(hb.cell (p:=⟨7,0,none⟩) (by show 7<B;omega)).trans p2,fun i hi=>?_⟩
 obtain ⟨z,z1,z2⟩:=p3 i hi
 exact ⟨z,(hb.cell (p:=⟨lb,lo+i,none⟩) p1).trans z1,z2⟩
inductive IsUB:Ending→Prop
 | mk (x:Int) (r:Bool):IsUB (.returned (.tuple #[.int .u64 x,.bool r]))
structure JF (w0:World) (b:Nat) (ng:Bool) (a:Act) (w:World):Prop where
 defers:a.defers = []
 size:a.tmps.size=243
 s0:a.tmps.getD 0 undef = .pointer (some ⟨b,0,none⟩)
 s1:a.tmps.getD 1 undef = .pointer (some ⟨5,0,none⟩)
 s5:∃ r:Bool,a.tmps.getD 5 undef = .bool r
 s6:∃ x:Int,a.tmps.getD 6 undef = .int .i64 x∧-1000000≤x∧x≤1000000
 s7:∃ x:Int,a.tmps.getD 7 undef = .int .u64 x∧0≤x∧x<18446744073709551616
 below:Below b w0 w
 dec:∃ (d:List Int) (n dp:Int) (tr:Bool),D w b d n dp ng tr
theorem fbits_any {w:World} {b:Nat} {a:List Int} {dp:Int} {ng tr:Bool} {n:Nat} (h:D w b a (n:Int) dp ng tr) (hn:n=0∨Norm a n) (ht:TB w b) :
  Calls Tryz.prog 149 #[.pointer (some ⟨b,0,none⟩),.pointer (some ⟨5,0,none⟩)] w fun e w'=>IsUB e∧Below b w w':=by
 have hu:=Tryz.underlying191
 have hu2:=Tryz.underlying182
 have H:=hdd h;clear h
 have HN:=hdd hn;clear hn
 have HT:=hdd ht;clear ht
 go_enter Tryz.func149,Tryz.ntmps149
 go_wp2_with fail
 refine scope_labels (fun l a' w'=>(l=0∨l=1)∧JF w b ng a' w') ?_ ?_
 ·
  have hT:=HT.out
  have c50:=hT.mb
  have c51:=hT.eb
  have c52:=hT.bi
  have HT2:=hdd hT;clear hT
  have c800:=H.out.nd_
  have c801:=H.out.dp_
  rcases Nat.eq_zero_or_pos n with n0 | np
  ·
   subst n0
   go_wp2_with fail
   go_step3
   simp only [Exit.then,Exit.inBlock,jumps]
   exact ⟨.inl rfl,⟨rfl,rfl,rfl,rfl,⟨_,rfl⟩,⟨_,rfl,Yy0,Yy0⟩,⟨_,rfl,Yy0,Yy0⟩,Below.refl b w,⟨_,_,_,_,H.out⟩⟩⟩
  ·
   have hN:Norm a n:=HN.out.resolve_left Yy0
   have nn0:((n:Int) == 0)=false:=bfo Yy0
   have NP:=hdd np;clear np
   have HNN:=hdd hN;clear hN
   by_cases d1:310<dp
   ·
    have t1:decide (310<dp)=true:=dtt d1
    go_wp2_with fail
    go_step3
    simp only [Exit.then,Exit.inBlock,jumps]
    exact ⟨.inr rfl,⟨rfl,rfl,rfl,rfl,⟨_,rfl⟩,⟨_,rfl,Yy0,Yy0⟩,⟨_,rfl,Yy0,Yy0⟩,Below.refl b w,⟨_,_,_,_,H.out⟩⟩⟩
   ·
    have t1:decide (310<dp)=false:=dff d1
    by_cases d2:dp < -330
    ·
     have t2:decide (dp < -330)=true:=dtt d2
     go_wp2_with fail
     go_step3
     simp only [Exit.then,Exit.inBlock,jumps]
     exact ⟨.inl rfl,⟨rfl,rfl,rfl,rfl,⟨_,rfl⟩,⟨_,rfl,Yy0,Yy0⟩,⟨_,rfl,Yy0,Yy0⟩,Below.refl b w,⟨_,_,_,_,H.out⟩⟩⟩
    ·
     have t2:decide (dp < -330)=false:=dff d2
     have D1:=hdd d1;clear d1
     have D2:=hdd d2;clear d2
     go_upto_block 0 with (fail)
     go_cut [6,8] (fun v6 v8 wc=>∃ (a':List Int) (m:Nat) (dp':Int) (tr':Bool) (x:Int),v6 = .int .i64 x∧Hid (Norm a' m)∧Hid (D wc b a' (m:Int) dp' ng tr')∧Hid (Below b w wc)∧Hid (-1540≤dp'∧dp'≤0)∧Hid (0≤x∧x≤90000))
     case first=>
      obtain ⟨M0,hM0⟩:∃ M0:Nat,M0=(dp * 10+a.getD 0 0 - 48).toNat:=⟨_,rfl⟩
      have hl0:=HNN.out.digs 0 HNN.out.pos
      have HM0:=hdd hM0;clear hM0
      have HL0:=hdd hl0;clear hl0
      go_wp2_with fail
      go_loopg [6,8] M0 (fun g v6 v8 wc=>∃ (a':List Int) (m:Nat) (dp':Int) (tr':Bool) (x:Int),v6 = .int .i64 x∧Hid (Norm a' m)∧Hid (D wc b a' (m:Int) dp' ng tr')∧Hid (Below b w wc)∧Hid (-1540≤dp'∧dp'≤310)∧Hid (0≤x∧x+27 * (g:Int)≤90000)∧Hid (g=(dp' * 10+a'.getD 0 0 - 48).toNat))
      case atStart=>exact ⟨a,n,dp,tr,0,rfl,HNN,H,hdd (Below.refl b w),hdd (by have:=D1.out;have:=D2.out;omega),hdd (by have h1:=HM0.out;have h2:=HL0.out.2;have:=D1.out;have:=D2.out;omega),HM0⟩
      case round=>
       obtain ⟨a',m,dp',tr',x,rfl,hN,hD,hB,hdp,hx,hg⟩:=hrel
       have x0:0≤x:=hx.out.1
       have x1:x≤90000:=by have:=hx.out.2;omega
       have c801':=hD.out.dp_
       have hT:=HT2.out.below hB.out
       obtain ⟨lb,lo,cc,p1,c7,p3⟩:=hT.pw
       have HT':=hdd hT;clear hT
       have P3:=hdd p3;clear p3
       by_cases e1:0<dp'
       ·
        have t3:decide (0<dp')=true:=dtt e1
        by_cases e2:9≤dp'
        ·
         have t4:decide (9≤dp')=true:=dtt e2
         have E1:=hdd e1;clear e1
         have CT:=hdd (fun q:Nat=>shr_any (w:=wr.drewN q) (k:=27) (hD.out.drewN q) hN.out Yy0 Yy0 Yy8 Yy8)
         go_wp2_with fail
         go_quiet (fail)
         go_wp2_with (go_at_call 165;refine (CT.out _).mono ?_;rintro e w' ⟨rfl,⟨a2,m2,dp2,tr2,q1,q2,q3,q4,q5⟩,hbt⟩;have Q1:=hdd q1;have Q2:=hdd q2;have Q3:=hdd q3;have Q4:=hdd q4;have Q5:=hdd q5;have HBT:=hdd hbt;clear hbt q1 q2 q3 q4 q5)
         have hl2:=hdd (Q1.out.digs 0 Q1.out.pos)
         have hl1:=hdd (hN.out.digs 0 hN.out.pos)
         have hlt:Hid ((dp2 * 10+a2.getD 0 0 - 48).toNat<gk):=hdd (by
          have h1:=hg.out
          have h2:=hl1.out
          have h3:=hl2.out
          unfold IsDig at h2 h3
          have h4:=Q3.out
          have h5:=Q5.out
          rcases Int.lt_or_eq_of_le h4 with h | h
          ·
           have:=E1.out;omega
          ·
           have:=h5 h;have:=E1.out;omega)
         go_roundg (dp2 * 10+a2.getD 0 0 - 48).toNat
         case measure=>exact hlt.out
         case rel=>exact ⟨a2,m2,dp2,tr2,_,rfl,Q1,Q2,hdd ((hB.out.trans (Joins.below_draws b wr _)).trans HBT.out),hdd Yy47,hdd Yy48,hdd rfl⟩
        ·
         have t4:decide (9≤dp')=false:=dff e2
         obtain ⟨j,rfl⟩:∃ j:Nat,dp'=(j:Int):=⟨dp'.toNat,Yy0⟩
         have j0:0≤(j:Int):=Yy0
         have j9:(j:Int)<9:=Yy0
         have j9':j<9:=Yy0
         have t3':decide (0<j)=true:=dtt Yy0
         have t4':decide (9≤j)=false:=dff Yy0
         obtain ⟨z,cz,z1,z2⟩:=P3.out j j9'
         have z0:0≤(z:Int):=Yy0
         have z27:(z:Int)≤27:=Yy0
         have E1:=hdd e1;clear e1
         have CT:=hdd (fun q:Nat=>shr_any (w:=wr.drewN q) (k:=z) (hD.out.drewN q) hN.out Yy0 Yy0 Yy8 Yy8)
         go_wp2_with fail
         go_quiet (fail)
         go_wp2_with fail
         go_quiet (fail)
         go_wp2_with (go_at_call 165;refine (CT.out _).mono ?_;rintro e w' ⟨rfl,⟨a2,m2,dp2,tr2,q1,q2,q3,q4,q5⟩,hbt⟩;have Q1:=hdd q1;have Q2:=hdd q2;have Q3:=hdd q3;have Q4:=hdd q4;have Q5:=hdd q5;have HBT:=hdd hbt;clear hbt q1 q2 q3 q4 q5)
         have hl2:=hdd (Q1.out.digs 0 Q1.out.pos)
         have hl1:=hdd (hN.out.digs 0 hN.out.pos)
         have hlt:Hid ((dp2 * 10+a2.getD 0 0 - 48).toNat<gk):=hdd (by
          have h1:=hg.out
          have h2:=hl1.out
          have h3:=hl2.out
          unfold IsDig at h2 h3
          have h4:=Q3.out
          have h5:=Q5.out
          rcases Int.lt_or_eq_of_le h4 with h | h
          ·
           have:=E1.out;omega
          ·
           have:=h5 h;have:=E1.out;omega)
         go_roundg (dp2 * 10+a2.getD 0 0 - 48).toNat
         case measure=>exact hlt.out
         case rel=>exact ⟨a2,m2,dp2,tr2,_,rfl,Q1,Q2,hdd ((hB.out.trans (Joins.below_draws b wr _)).trans HBT.out),hdd Yy47,hdd Yy48,hdd rfl⟩
       ·
        have t3:decide (0<dp')=false:=dff e1
        go_wp2_with fail
        go_meet
        exact ⟨a',m,dp',tr',x,rfl,hN,hD,hB,hdd Yy8,hdd ⟨x0,x1⟩⟩
     case rest=>
      obtain ⟨a1,n1,dp1,tr1,y1,rfl,hN,hD,hB,hdp,hy⟩:=hcut
      go_upto_block 2 with (fail)
      go_cut [6,9] (fun v6 v9 wd=>∃ (a':List Int) (m:Nat) (dp':Int) (tr':Bool) (x:Int),v6 = .int .i64 x∧Hid (Norm a' m)∧Hid (D wd b a' (m:Int) dp' ng tr')∧Hid (Below b w wd)∧Hid (0≤dp'∧dp'≤20)∧Hid (-420000≤x∧x≤90000))
      case first=>
       obtain ⟨M0,hM0⟩:∃ M0:Nat,M0=(-dp1 * 10+58 - a1.getD 0 0).toNat:=⟨_,rfl⟩
       have hl0:=hN.out.digs 0 hN.out.pos
       have HM0:=hdd hM0;clear hM0
       have HL0:=hdd hl0;clear hl0
       go_wp2_with fail
       go_loopg [6,9] M0 (fun g v6 v9 wd=>∃ (a':List Int) (m:Nat) (dp':Int) (tr':Bool) (x:Int),v6 = .int .i64 x∧Hid (Norm a' m)∧Hid (D wd b a' (m:Int) dp' ng tr')∧Hid (Below b w wd)∧Hid (-1540≤dp'∧dp'≤20)∧Hid (-420000≤x - 27 * (g:Int)∧x≤90000)∧Hid (g=(-dp' * 10+58 - a'.getD 0 0).toNat))
       case atStart=>exact ⟨a1,n1,dp1,tr1,y1,rfl,hN,hD,hB,hdd Yy8,hdd (by have h1:=HM0.out;have h2:=HL0.out.1;have:=hdp.out;have:=hy.out;omega),HM0⟩
       case round=>
        clear hN hD hB hdp hy HM0 HL0
        obtain ⟨a',m,dp',tr',x,rfl,hN,hD,hB,hdp,hx,hg⟩:=hrel
        have x0:-420000≤x:=by have:=hx.out.1;omega
        have x1:x≤90000:=hx.out.2
        have dq0:-1540≤dp':=hdp.out.1
        have dq1:dp'≤20:=hdp.out.2
        have c801':=hD.out.dp_
        obtain ⟨y,hyy⟩:∃ y,y=a'.getD 0 0:=⟨_,rfl⟩
        have cd0:=hD.out.d 0 Yy0
        rw [← hyy] at cd0
        have HY:=hdd hyy;clear hyy
        have hT:=HT2.out.below hB.out
        obtain ⟨lb,lo,cc,p1,c7,p3⟩:=hT.pw
        have HTT:=hdd hT;clear hT
        have P3:=hdd p3;clear p3
        by_cases e1:0<dp'∨(dp'=0∧¬ y<53)
        ·
         rcases e1 with e1 | ⟨e1,e2⟩
         ·
          have t3:decide (dp'<0)=false:=dff Yy0
          have t4:(dp' == 0)=false:=bfo Yy0
          go_wp2_with fail
          go_meet
          exact ⟨a',m,dp',tr',x,rfl,hN,hD,hB,hdd Yy8,hdd ⟨x0,x1⟩⟩
         ·
          subst e1
          have t5:decide (y<53)=false:=dff e2
          go_wp2_with fail
          go_meet
          exact ⟨a',m,0,tr',x,rfl,hN,hD,hB,hdd Yy8,hdd ⟨x0,x1⟩⟩
        ·
         have E1:Hid (dp'<0∨dp'=0∧y<53):=hdd Yy0
         clear e1
         rcases Int.lt_or_eq_of_le (show dp'≤0 by have:=E1.out;omega) with e2 | e2
         ·
          by_cases e3:dp'≤-9
          ·
           have t3:decide (dp'<0)=true:=dtt e2
           have t6:decide (9≤-dp')=true:=dtt Yy0
           have CT:=hdd (fun q:Nat=>shl_any (w:=wr.drewN q) (k:=27) (hD.out.drewN q) hN.out (HTT.out.lc.below (Joins.below_draws b wr q)) Yy0 Yy0 Yy0 Yy0)
           go_wp2_with fail
           go_quiet (fail)
           go_wp2_with (go_at_call 165;refine (CT.out _).mono ?_;rintro e w' ⟨rfl,⟨a2,m2,dp2,tr2,q1,q2,q3,q4,q5⟩,hbt⟩;have Q1:=hdd q1;have Q2:=hdd q2;have Q3:=hdd q3;have Q4:=hdd q4;have Q5:=hdd q5;have HBT:=hdd hbt;clear hbt q1 q2 q3 q4 q5)
           have hl2:=hdd (Q1.out.digs 0 Q1.out.pos)
           have hl1:=hdd (hN.out.digs 0 hN.out.pos)
           have hlt:Hid ((-dp2 * 10+58 - a2.getD 0 0).toNat<gk):=hdd (by
            have h1:=hg.out
            have h2:=hl1.out
            have h3:=hl2.out
            unfold IsDig at h2 h3
            have h4:=Q3.out
            have h5:=Q5.out
            have h7:=E1.out
            rcases Int.lt_or_eq_of_le h4 with h | h
            ·
             omega
            ·
             have:=h5 h.symm;omega)
           go_roundg (-dp2 * 10+58 - a2.getD 0 0).toNat
           case measure=>exact hlt.out
           case rel=>exact ⟨a2,m2,dp2,tr2,_,rfl,Q1,Q2,hdd ((hB.out.trans (Joins.below_draws b wr _)).trans HBT.out),hdd Yy47,hdd Yy48,hdd rfl⟩
          ·
           obtain ⟨j,rfl⟩:∃ j:Nat,dp' = -(j:Int):=⟨(-dp').toNat,Yy0⟩
           have j0:0≤(j:Int):=Yy0
           have j9:(j:Int)<9:=Yy0
           have j9':j<9:=Yy0
           have t3:decide (-(j:Int)<0)=true:=dtt e2
           have t3':decide (0<j)=true:=dtt Yy0
           have t4:decide (9≤(j:Int))=false:=dff Yy0
           have t4':decide (9≤j)=false:=dff Yy0
           obtain ⟨z,cz,z1,z2⟩:=P3.out j j9'
           have z0:0≤(z:Int):=Yy0
           have z27:(z:Int)≤27:=Yy0
           have CT:=hdd (fun q:Nat=>shl_any (w:=wr.drewN q) (k:=z) (hD.out.drewN q) hN.out (HTT.out.lc.below (Joins.below_draws b wr q)) Yy0 Yy0 Yy0 Yy0)
           go_wp2_with fail
           go_quiet (fail)
           go_wp2_with fail
           go_quiet (fail)
           go_wp2_with (go_at_call 165;refine (CT.out _).mono ?_;rintro e w' ⟨rfl,⟨a2,m2,dp2,tr2,q1,q2,q3,q4,q5⟩,hbt⟩;have Q1:=hdd q1;have Q2:=hdd q2;have Q3:=hdd q3;have Q4:=hdd q4;have Q5:=hdd q5;have HBT:=hdd hbt;clear hbt q1 q2 q3 q4 q5)
           have hl2:=hdd (Q1.out.digs 0 Q1.out.pos)
           have hl1:=hdd (hN.out.digs 0 hN.out.pos)
           have hlt:Hid ((-dp2 * 10+58 - a2.getD 0 0).toNat<gk):=hdd (by
            have h1:=hg.out
            have h2:=hl1.out
            have h3:=hl2.out
            unfold IsDig at h2 h3
            have h4:=Q3.out
            have h5:=Q5.out
            have h7:=E1.out
            rcases Int.lt_or_eq_of_le h4 with h | h
            ·
             omega
            ·
             have:=h5 h.symm;omega)
           go_roundg (-dp2 * 10+58 - a2.getD 0 0).toNat
           case measure=>exact hlt.out
           case rel=>exact ⟨a2,m2,dp2,tr2,_,rfl,Q1,Q2,hdd ((hB.out.trans (Joins.below_draws b wr _)).trans HBT.out),hdd Yy47,hdd Yy48,hdd rfl⟩
         ·
          subst e2
          have t5:decide (y<53)=true:=dtt (by have:=E1.out;omega)
          obtain ⟨z,cz,z1,z2⟩:=P3.out 0 Yy0
          rw [Nat.add_zero] at cz
          have z0:0≤(z:Int):=Yy0
          have z27:(z:Int)≤27:=Yy0
          have CT:=hdd (fun q:Nat=>shl_any (w:=wr.drewN q) (k:=z) (hD.out.drewN q) hN.out (HTT.out.lc.below (Joins.below_draws b wr q)) Yy0 Yy0 Yy0 Yy0)
          go_wp2_with fail
          go_quiet (fail)
          go_wp2_with fail
          go_quiet (fail)
          go_wp2_with (go_at_call 165;refine (CT.out _).mono ?_;rintro e w' ⟨rfl,⟨a2,m2,dp2,tr2,q1,q2,q3,q4,q5⟩,hbt⟩;have Q1:=hdd q1;have Q2:=hdd q2;have Q3:=hdd q3;have Q4:=hdd q4;have Q5:=hdd q5;have HBT:=hdd hbt;clear hbt q1 q2 q3 q4 q5)
          have hl2:=hdd (Q1.out.digs 0 Q1.out.pos)
          have hl1:=hdd (hN.out.digs 0 hN.out.pos)
          have hlt:Hid ((-dp2 * 10+58 - a2.getD 0 0).toNat<gk):=hdd (by
           have h1:=hg.out
           have h2:=hl1.out
           have h3:=hl2.out
           unfold IsDig at h2 h3
           have h4:=Q3.out
           have h5:=Q5.out
           have h7:=E1.out
           rcases Int.lt_or_eq_of_le h4 with h | h
           ·
            omega
           ·
            have:=h5 h.symm;omega)
          go_roundg (-dp2 * 10+58 - a2.getD 0 0).toNat
          case measure=>exact hlt.out
          case rel=>exact ⟨a2,m2,dp2,tr2,_,rfl,Q1,Q2,hdd ((hB.out.trans (Joins.below_draws b wr _)).trans HBT.out),hdd Yy47,hdd Yy48,hdd rfl⟩
      case rest=>
       clear hN hD hB hdp hy
       obtain ⟨a2,n2,dp2,tr2,y2,rfl,hN,hD,hB,hdp,hy⟩:=hcut
       obtain ⟨x,rfl⟩:∃ x,y2=x+1:=⟨y2 - 1,Yy0⟩
       have x0:-420001≤x:=by have:=hy.out.1;omega
       have x1:x≤90000:=by have:=hy.out.2;omega
       have hT:=HT2.out.below hB.out
       have c50':=hT.mb
       have c51':=hT.eb
       have c52':=hT.bi
       have HT3:=hdd hT;clear hT
       go_upto_if 111 with (fail)
       go_cut [6,10] (fun v6 v10 we=>∃ (a':List Int) (m:Nat) (dp':Int) (tr':Bool) (x:Int),v6 = .int .i64 x∧Hid (Norm a' m)∧Hid (D we b a' (m:Int) dp' ng tr')∧Hid (Below b w we)∧Hid (-100000000≤dp'∧dp'≤100000000)∧Hid (-900000≤x∧x≤900000))
       case first=>
        by_cases e1:x < -1022
        ·
         have t3:decide (x < -1022)=true:=dtt e1
         obtain ⟨K,hK⟩:∃ K:Nat,-1022 - x=(K:Int):=⟨(-1022 - x).toNat,Yy0⟩
         have k0:0≤(K:Int):=Yy0
         have k1:(K:Int)≤500000:=Yy0
         have CT:=hdd (shr_any (k:=K) hD.out hN.out Yy0 Yy0 Yy8 Yy8)
         go_wp2_with (go_at_call 165;refine CT.out.mono ?_;rintro e w' ⟨rfl,⟨a2,m2,dp2,tr2,q1,q2,q3,q4,q5⟩,hbt⟩;have Q1:=hdd q1;have Q2:=hdd q2;have Q3:=hdd q3;have Q4:=hdd q4;have HBT:=hdd hbt;clear hbt q1 q2 q3 q4 q5)
         go_meet
         exact ⟨a2,m2,dp2,tr2,_,rfl,Q1,Q2,hdd (hB.out.trans HBT.out),hdd Yy67,hdd Yy0⟩
        ·
         have t3:decide (x < -1022)=false:=dff e1
         go_wp2_with fail
         go_meet
         exact ⟨a2,n2,dp2,tr2,x,rfl,hN,hD,hB,hdd Yy8,hdd Yy0⟩
       case rest=>
        clear hN hD hB hdp hy x0 x1
        obtain ⟨a3,n3,dp3,tr3,x,rfl,hN,hD,hB,hdp,hx⟩:=hcut
        have x0:-900000≤x:=hx.out.1
        have x1:x≤900000:=hx.out.2
        have hT:=HT2.out.below hB.out
        have c50'':=hT.mb
        have c51'':=hT.eb
        have c52'':=hT.bi
        have HT4:=hdd hT;clear hT
        by_cases e1:2047≤x+1023
        ·
         have t3:decide (2047≤x+1023)=true:=dtt e1
         go_wp2_with fail
         go_quiet (fail)
         go_wp2_with fail
         go_step3
         simp only [Exit.then,Exit.inBlock,jumps]
         exact ⟨.inr rfl,⟨rfl,rfl,rfl,rfl,⟨_,rfl⟩,⟨_,rfl,Yy0,Yy0⟩,⟨_,rfl,Yy0,Yy0⟩,hB.out.trans (Joins.below_draws b _ _),⟨_,_,_,_,hD.out.drewN _⟩⟩⟩
        ·
         have t3:decide (2047≤x+1023)=false:=dff e1
         have CT:=hdd (fun q:Nat=>shl_any (w:=wc.drewN q) (k:=53) (hD.out.drewN q) hN.out (HT4.out.lc.below (Joins.below_draws b wc q)) Yy0 Yy0 Yy8 Yy8)
         go_wp2_with fail
         go_quiet (fail)
         go_upto_region 32 with (go_at_call 165;refine (CT.out _).mono ?_;rintro e w' ⟨rfl,⟨a2,m2,dp2,tr2,q1,q2,q3,q4,q5⟩,hbt⟩;have Q1:=hdd q1;have Q2:=hdd q2;have Q3:=hdd q3;have Q4:=hdd q4;have HBT:=hdd hbt;clear hbt q1 q2 q3 q4 q5)
         have HB5:=hdd ((hB.out.trans (Joins.below_draws b wc _)).trans HBT.out)
         have hT:=HT2.out.below HB5.out
         have c50p:=hT.mb
         have c51p:=hT.eb
         have c52p:=hT.bi
         have HT5:=hdd hT;clear hT
         have CR:=hdd (rint_any Q2.out Q1.out Yy67 Yy67)
         go_upto_region 33 with (go_at_call 166;refine CR.out.mono ?_;rintro e w' ⟨⟨m,m0,m1⟩,rfl⟩)
         by_cases hm:m=9007199254740992
         ·
          subst hm
          by_cases e2:2047≤x+1+1023
          ·
           have t4:decide (2047≤x+1+1023)=true:=dtt e2
           go_wp2_with fail
           go_quiet (fail)
           go_wp2_with fail
           go_step3
           simp only [Exit.then,Exit.inBlock,jumps]
           exact ⟨.inr rfl,⟨rfl,rfl,rfl,rfl,⟨_,rfl⟩,⟨_,rfl,Yy0,Yy0⟩,⟨_,rfl,Yy0,Yy0⟩,HB5.out.trans (Joins.below_draws b _ _),⟨_,_,_,_,Q2.out.drewN _⟩⟩⟩
          ·
           have t4:decide (2047≤x+1+1023)=false:=dff e2
           go_wp2_with fail
           go_quiet (fail)
           go_wp2_with fail
           go_step3
           simp only [Exit.then,Exit.inBlock,jumps]
           exact ⟨.inl rfl,⟨rfl,rfl,rfl,rfl,⟨_,rfl⟩,⟨_,rfl,Yy0,Yy0⟩,⟨_,rfl,Yy0,Yy0⟩,HB5.out.trans (Joins.below_draws b _ _),⟨_,_,_,_,Q2.out.drewN _⟩⟩⟩
         ·
          have t4:(m == 9007199254740992)=false:=bfo hm
          go_wp2_with fail
          ·
           go_step3
           simp only [Exit.then,Exit.inBlock,jumps]
           exact ⟨.inl rfl,⟨rfl,rfl,rfl,rfl,⟨_,rfl⟩,⟨_,rfl,Yy0,Yy0⟩,⟨_,rfl,Yy0,Yy0⟩,HB5.out,⟨_,_,_,_,Q2.out⟩⟩⟩
          ·
           go_step3
           simp only [Exit.then,Exit.inBlock,jumps]
           exact ⟨.inl rfl,⟨rfl,rfl,rfl,rfl,⟨_,rfl⟩,⟨_,rfl,Yy0,Yy0⟩,⟨_,rfl,Yy0,Yy0⟩,HB5.out,⟨_,_,_,_,Q2.out⟩⟩⟩
 ·
  rintro l a' w' ⟨rfl | rfl,hJ⟩
  ·
   refine ⟨_,rfl,?_⟩
   obtain ⟨t,ds⟩:=a'
   obtain ⟨j1,j2,j3,j4,⟨r,j5⟩,⟨x,j6,x0,x1⟩,⟨m,j7,m0,m1⟩,hB,⟨d,dn,ddp,dtr,hD⟩⟩:=hJ
   obtain ⟨v,hv,rfl⟩:=frame243 t j2
   obtain rfl:ds = []:=j1
   rw [← hv] at j3 j4 j5 j6 j7
   rw [j3,j4,j5,j6,j7]
   clear hv j2 j3 j4 j5 j6 j7
   have c802:=hD.ng_
   have TT:=HT.out.below hB
   have c50:=TT.mb
   have c51:=TT.eb
   have c52:=TT.bi
   have HD:=hdd hD;clear hD
   have HB:=hdd hB;clear hB
   have HTT:=hdd TT;clear TT
   cases ng with
   | true=>
    go_wp2_with fail
    go_quiet (fail)
    go_wp2_with fail
    go_quiet (fail)
    go_wp2_with fail
    simp only [jumps]
    go_ret2
    exact ⟨.mk _ _,Yy61⟩
   | false=>
    go_wp2_with fail
    go_quiet (fail)
    go_wp2_with fail
    simp only [jumps]
    go_ret2
    exact ⟨.mk _ _,Yy61⟩
  ·
   refine ⟨_,rfl,?_⟩
   obtain ⟨t,ds⟩:=a'
   obtain ⟨j1,j2,j3,j4,⟨r,j5⟩,⟨x,j6,x0,x1⟩,⟨m,j7,m0,m1⟩,hB,⟨d,dn,ddp,dtr,hD⟩⟩:=hJ
   obtain ⟨v,hv,rfl⟩:=frame243 t j2
   obtain rfl:ds = []:=j1
   rw [← hv] at j3 j4 j5 j6 j7
   rw [j3,j4,j5,j6,j7]
   clear hv j2 j3 j4 j5 j6 j7
   have c802:=hD.ng_
   have TT:=HT.out.below hB
   have c50:=TT.mb
   have c51:=TT.eb
   have c52:=TT.bi
   have HD:=hdd hD;clear hD
   have HB:=hdd hB;clear hB
   have HTT:=hdd TT;clear TT
   cases ng with
   | true=>
    go_wp2_with fail
    go_quiet (fail)
    go_wp2_with fail
    go_step3
    go_wp2_with fail
    go_quiet (fail)
    go_wp2_with fail
    go_quiet (fail)
    go_wp2_with fail
    simp only [jumps]
    go_ret2
    exact ⟨.mk _ _,Yy61⟩
   | false=>
    go_wp2_with fail
    go_quiet (fail)
    go_wp2_with fail
    go_step3
    go_wp2_with fail
    go_quiet (fail)
    go_wp2_with fail
    simp only [jumps]
    go_ret2
    exact ⟨.mk _ _,Yy61⟩
theorem bool2u {w:World} (r:Bool):Calls Tryz.prog 150 #[.bool r] w fun e w'=>e = .returned (.int .u64 (if r then 1 else 0))∧w'=w:=by
 cases r
 all_goals
  go_enter Tryz.func150,Tryz.ntmps150
  go_wp2_with fail
  go_ret
  exact ⟨rfl,rfl⟩
theorem bool2i {w:World} (r:Bool):Calls Tryz.prog 161 #[.bool r] w fun e w'=>e = .returned (.int .i64 (if r then 1 else 0))∧w'=w:=by
 cases r
 all_goals
  go_enter Tryz.func161,Tryz.ntmps161
  go_wp2_with fail
  go_ret
  exact ⟨rfl,rfl⟩
inductive IsV:Ending→Prop
 | mk (x:Int):IsV (.returned (.int .u64 x))
theorem unmin_any {w:World} (x:Int) (h0:0≤x) (h1:x<18446744073709551616):Calls Tryz.prog 162 #[.int .u64 x] w fun e w'=>IsU e∧w'=w:=by
 go_enter Tryz.func162,Tryz.ntmps162
 go_wp2_with fail
 go_ret
 exact ⟨.mk _ (u64_range _).1 (u64_range _).2,rfl⟩
theorem log2_any {w:World} (x:Int) (h0:-10000≤x) (h1:x≤10000):Calls Tryz.prog 158 #[.int .i64 x] w fun e w'=>e = .returned (.int .i64 (x * 108853 / 32768))∧w'=w:=by
 go_enter Tryz.func158,Tryz.ntmps158
 go_wp2_with fail
 go_ret
 exact ⟨rfl,rfl⟩
theorem rnd_any {w:World} (x:Int) (h0:0≤x) (h1:x<18446744073709551616):Calls Tryz.prog 164 #[.int .u64 x] w fun e w'=>IsV e∧w'=w:=by
 go_enter Tryz.func164,Tryz.ntmps164
 go_wp2_with fail
 go_ret
 exact ⟨.mk _,rfl⟩
theorem ffb (x:Int) (w:World):(callFunc 151 #[.int .u64 x]).run Tryz.prog w = .ok (.value (.float .f64 x.toNat)) w:=
 (run_callFunc_extern Tryz.func151 Yy1 Yy1 Yy1 (e:=Extern.MathFloatBits.float64frombits) Yy1 _ w).trans rfl
inductive IsFE:Ending→Prop
 | good (x:Nat):IsFE (.returned (.tuple #[.float .f64 x,.nilIface]))
 | bad (x:Nat):IsFE (.returned (.tuple #[.float .f64 x,.iface 153 (.int .i64 1)]))
theorem pack_any {w:World} (x y:Int) (h0:0≤x) (h1:x<18446744073709551616) (y0:-100000≤y) (y1:y≤100000):Calls Tryz.prog 167 #[.int .u64 x,.int .i64 y] w fun e w'=>IsFE e∧w'=w:=by
 have hf:=fun x:Int=>ffb x w
 go_enter Tryz.func167,Tryz.ntmps167
 go_wp2_with fail
 ·
  go_ret2
  exact ⟨.good _,rfl⟩
 ·
  go_ret2
  exact ⟨.bad _,rfl⟩
 ·
  go_ret2
  exact ⟨.good _,rfl⟩
inductive IsUU:Ending→Prop
 | mk (x y:Int) (x0:0≤x) (x1:x<18446744073709551616) (y0:0≤y) (y1:y<18446744073709551616):IsUU (.returned (.tuple #[.int .u64 x,.int .u64 y]))
theorem mul_any {w:World} (x y:Int) (h0:0≤x) (h1:x<18446744073709551616) (y0:0≤y) (y1:y<18446744073709551616):Calls Tryz.prog 169 #[.int .u64 x,.int .u64 y] w fun e w'=>IsUU e∧w'=w:=by
 go_enter Tryz.func169,Tryz.ntmps169
 go_wp2_with fail
 go_ret2
 exact ⟨.mk _ _ (u64_range _).1 (u64_range _).2 (u64_range _).1 (u64_range _).2,rfl⟩
theorem bits_range (op:BinOp) (a b:Int):0≤bits op .u64 a b∧bits op .u64 a b<18446744073709551616:=by
 unfold bits
 exact u64_range _
theorem and63:∀ c:Fin 64,bits .and .i64 ((c.val:Nat):Int) 63=((c.val:Nat):Int):=Yy3
theorem uscale_any {w:World} (p:Nat) (x y z s:Int) (c:Nat) (h0:0≤x) (h1:x<18446744073709551616) (y0:0≤y) (y1:y<18446744073709551616) (z0:0≤z) (z1:z<18446744073709551616)
  (cy:w.cell? ⟨p,0,none⟩=some (.int .u64 y)) (cz:w.cell? ⟨p,1,none⟩=some (.int .u64 z)) (cs:w.cell? ⟨p,2,none⟩=some (.int .i64 s)) (hs:bits .and .i64 s 63=(c:Int)) (hc:c≤63) :
  Calls Tryz.prog 160 #[.int .u64 x,.pointer (some ⟨p,0,none⟩)] w fun e w'=>IsU e∧∃ q,w'=w.drewN q:=by
 have hu:=Tryz.underlying208
 have M1:=hdd (mul_any (w:=w) x y h0 h1 y0 y1)
 have M2:=hdd (mul_any (w:=w) x z h0 h1 z0 z1)
 have B:=hdd (fun (w:World) r=>bool2u (w:=w) r)
 have c0:0≤(c:Int):=Yy0
 have c1:(c:Int)≤63:=Yy0
 go_enter Tryz.func160,Tryz.ntmps160
 go_upto_region 2 with (go_at_call 169;refine M1.out.mono ?_;rintro e w' ⟨⟨u,v,u0,u1,v0,v1⟩,rfl⟩)
 go_wp2_with (first | (go_at_call 169;refine M2.out.mono ?_;rintro e w' ⟨⟨u,v,u0,u1,v0,v1⟩,rfl⟩) | (go_at_call 150;refine (B.out _ _).mono ?_;rintro e w' ⟨rfl,rfl⟩))
 ·
  go_ret
  exact ⟨.mk _ (bits_range _ _ _).1 (bits_range _ _ _).2,0,rfl⟩
 all_goals
  go_quiet ((go_at_call 150;exact Calls.quiet_of_same (B.out _ _)))
  go_wp2_with fail
  all_goals
   go_ret
   exact ⟨.mk _ (bits_range _ _ _).1 (bits_range _ _ _).2,_,rfl⟩
theorem prescale_any {w:World} (p:Nat) (e x l y z:Int) (i:Nat) (hi:x+348=(i:Int)) (i1:i<696) (e0:-100000≤e) (e1:e≤100000) (l0:-100000≤l) (l1:l≤100000)
  (cy:w.cell? ⟨9,i * 2,none⟩=some (.int .u64 y)) (cz:w.cell? ⟨9,i * 2+1,none⟩=some (.int .u64 z)) (hp:9<p) (v0 v1 v2:Value)
  (c0:w.cell? ⟨p,0,none⟩=some v0) (c1:w.cell? ⟨p,1,none⟩=some v1) (c2:w.cell? ⟨p,2,none⟩=some v2) (f0:w.frozen? ⟨p,0,none⟩=false) (f1:w.frozen? ⟨p,1,none⟩=false) (f2:w.frozen? ⟨p,2,none⟩=false) :
  Calls Tryz.prog 159 #[.pointer (some ⟨p,0,none⟩),.int .i64 e,.int .i64 x,.int .i64 l] w fun en w'=>en = .returned (.tuple #[])∧w'=((w.setCell ⟨p,0,none⟩ (.int .u64 y)).setCell ⟨p,1,none⟩ (.int .u64 z)).setCell ⟨p,2,none⟩ (.int .i64 (-(e+l+3))):=by
 have hu:=Tryz.underlying208
 have hu2:=Tryz.underlying222
 have hu3:=Tryz.underlying223
 have i0:0≤(i:Int):=Yy0
 have i2:(i:Int)<696:=Yy0
 have x0:-348≤x:=Yy0
 have x1:x<348:=Yy0
 have hne:(9:Nat)≠p:=Yy0
 go_enter Tryz.func159,Tryz.ntmps159
 go_wp2_with fail
 go_end0
 exact ⟨rfl,rfl⟩
theorem prescale_blk {w:World} (p:Nat) (e x l y z:Int) (i:Nat) (hi:x+348=(i:Int)) (i1:i<696) (e0:-100000≤e) (e1:e≤100000) (l0:-100000≤l) (l1:l≤100000)
  (cy:w.cell? ⟨9,i * 2,none⟩=some (.int .u64 y)) (cz:w.cell? ⟨9,i * 2+1,none⟩=some (.int .u64 z)) (hp:9<p) (v0 v1 v2:Value)
  (hk:w.heap[p]? = some (.cells #[v0,v1,v2] 208 (0,0))) :
  Calls Tryz.prog 159 #[.pointer (some ⟨p,0,none⟩),.int .i64 e,.int .i64 x,.int .i64 l] w fun en w'=>en = .returned (.tuple #[])∧Below p w w'∧w'.heap[p]? = some (.cells #[.int .u64 y,.int .u64 z,.int .i64 (-(e+l+3))] 208 (0,0)):=by
 refine (prescale_any p e x l y z i hi i1 e0 e1 l0 l1 cy cz hp v0 v1 v2 (by simp [World.cell?,hk]) (by simp [World.cell?,hk]) (by simp [World.cell?,hk]) (by simp [World.frozen?,hk]) (by simp [World.frozen?,hk]) (by simp [World.frozen?,hk])).mono ?_
 rintro en w' ⟨rfl,rfl⟩
 refine ⟨rfl,(((Below.refl p w).setCell (nlr _) _).setCell (nlr _) _).setCell (nlr _) _,?_⟩
 exact (Joins.block_setCell ((Joins.block_setCell ((Joins.block_setCell hk _).trans rfl) _).trans rfl) _).trans rfl
inductive IsL:Ending→Prop
 | mk (n:Nat) (h:n≤64):IsL (.returned (.int .i64 (n:Int)))
theorem tab8 (t:ByteArray) (ht:t.data.toList.all (fun c=>decide (c.toNat≤8))=true) (i:Nat) (h:i<t.size):t[i].toNat≤8:=by
 have:=List.all_eq_true.mp ht t[i] (by
  have:t[i]=t.data.toList[i]'(by simpa using h):=by simp [ByteArray.getElem_eq_getElem_data]
  rw [this];exact List.getElem_mem _)
 simpa using this
theorem IsL.zero (v:Nat) (hv:v≤8):IsL (.returned (.int .i64 (wrap64 (wrap64 (v:Int))))):=by
 have e:wrap64 (wrap64 (v:Int))=((v:Nat):Int):=by unfold wrap64;omega
 rw [e];exact .mk _ Yy0
theorem IsL.more (k v:Nat) (hk:k≤56) (hv:v≤8):IsL (.returned (.int .i64 (wrap64 ((k:Int)+wrap64 (v:Int))))):=by
 have e:wrap64 ((k:Int)+wrap64 (v:Int))=((k+v:Nat):Int):=by unfold wrap64;omega
 rw [e];exact .mk _ Yy0
theorem len_any {w:World} (x:Int) (h0:0≤x) (h1:x<18446744073709551616):Calls Tryz.prog 110 #[.int .u64 x] w fun en w'=>IsL en∧w'=w:=by
 go_enter Tryz.func110,Tryz.ntmps110
 go_wp2_with fail
 all_goals
  go_ret
  refine ⟨?_,rfl⟩
  first
   | exact IsL.zero _ (tab8 _ Yy1 _ _)
   | exact IsL.more 8 _ Yy3 (tab8 _ Yy1 _ _)
   | exact IsL.more 16 _ Yy3 (tab8 _ Yy1 _ _)
   | exact IsL.more 24 _ Yy3 (tab8 _ Yy1 _ _)
   | exact IsL.more 32 _ Yy3 (tab8 _ Yy1 _ _)
   | exact IsL.more 40 _ Yy3 (tab8 _ Yy1 _ _)
   | exact IsL.more 48 _ Yy3 (tab8 _ Yy1 _ _)
   | exact IsL.more 56 _ Yy3 (tab8 _ Yy1 _ _)
theorem pf64_any {w:World} (x e s y z:Int) (i:Nat) (h0:0≤x) (h1:x<18446744073709551616) (hi:e+348=(i:Int)) (i1:i<696) (s0:0≤s) (s1:s<18446744073709551616)
  (cy:w.cell? ⟨9,i * 2,none⟩=some (.int .u64 y)) (cz:w.cell? ⟨9,i * 2+1,none⟩=some (.int .u64 z)) (y0:0≤y) (y1:y<18446744073709551616) (z0:0≤z) (z1:z<18446744073709551616) (hb:9<w.heap.size) :
  Calls Tryz.prog 153 #[.int .u64 x,.int .i64 e,.int .u64 s] w fun en w'=>IsFE en∧Below w.heap.size w w':=by
 have hu:=Tryz.underlying208
 have L:=hdd (len_any (w:=w) x h0 h1)
 have e0:-348≤e:=Yy0
 have e1:e<348:=Yy0
 have G:=hdd (log2_any (w:=w) e Yy0 Yy0)
 obtain ⟨g,hg⟩:∃ g,e * 108853 / 32768=g:=⟨_,rfl⟩
 rw [hg] at G
 have g0:-1157≤g:=Yy0
 have g1:g≤1156:=Yy0
 have HG:=hdd hg;clear hg
 have HB:=hdd hb;clear hb
 go_enter Tryz.func153,Tryz.ntmps153
 go_wp2_with fail
 go_at_call 110
 refine L.out.mono ?_
 rintro en w' ⟨⟨n,hn⟩,rfl⟩
 have n0:0≤(n:Int):=Yy0
 have n1:(n:Int)≤64:=Yy0
 go_upto_region 5 with (go_at_call 158;refine G.out.mono ?_;rintro en w' ⟨rfl,rfl⟩)
 have HBL:=hdd (Joins.below_alloc1 w' (Obj.cells #[Value.int IntKind.u64 0,Value.int IntKind.u64 0,Value.int IntKind.i64 0] 208))
 have hk:(w'.alloc (Obj.cells #[Value.int IntKind.u64 0,Value.int IntKind.u64 0,Value.int IntKind.i64 0] 208)).heap[w'.heap.size]? = some (.cells #[Value.int IntKind.u64 0,Value.int IntKind.u64 0,Value.int IntKind.i64 0] 208 (0,0)):=Array.getElem?_push_size
 have cy':=(HBL.out.cell (p:=⟨9,i * 2,none⟩) HB.out).trans cy
 have cz':=(HBL.out.cell (p:=⟨9,i * 2+1,none⟩) HB.out).trans cz
 obtain ⟨t,ht⟩:∃ t,min 1074 (53 - (n:Int) - g)=t:=⟨_,rfl⟩
 have ht':(if 53 - (n:Int) - g<1074 then 53 - (n:Int) - g else 1074)=t:=by rw [← ht];split <;> omega
 first | rw [ht] | rw [ht']
 clear ht'
 have t0:-3000≤t:=Yy0
 have t1:t≤3000:=Yy0
 have PR:=hdd (prescale_blk w'.heap.size (t - (64 - (n:Int))) e g y z i hi i1 Yy0 Yy0 Yy0 Yy0 cy' cz' HB.out _ _ _ hk)
 clear hk
 obtain ⟨S,hS⟩:∃ S,-(t - (64 - (n:Int))+g+3)=S:=⟨_,rfl⟩
 rw [hS] at PR
 have S0:-10000≤S:=Yy0
 have S1:S≤10000:=Yy0
 have HS:=hdd hS;clear hS
 have HT:=hdd ht;clear ht
 go_upto_region 6 with (go_at_call 159;refine PR.out.mono ?_;rintro en w2 ⟨rfl,hb2,hk2⟩;have HB2:=hdd (hb2);have HK2:=hdd hk2;clear hb2 hk2)
 have d0:w2.cell? ⟨w'.heap.size,0,none⟩=some (.int .u64 y):=by simp [World.cell?,HK2.out]
 have d1:w2.cell? ⟨w'.heap.size,1,none⟩=some (.int .u64 z):=by simp [World.cell?,HK2.out]
 have d2:w2.cell? ⟨w'.heap.size,2,none⟩=some (.int .i64 S):=by simp [World.cell?,HK2.out]
 have hf:=fun x:Int=>ffb x w2
 by_cases big:64≤S
 ·
  have tb:decide (64≤S)=true:=dtt big
  go_wp2_with fail
  go_ret2
  exact ⟨.good _,HBL.out.trans HB2.out⟩
 ·
  have S8:8≤S:=by
   have h1:=HT.out
   have h2:=HS.out
   omega
  have tb:decide (64≤S)=false:=dff big
  obtain ⟨c,rfl⟩:∃ c:Nat,S=(c:Int):=⟨S.toNat,Yy0⟩
  have hs:=hdd (and63 ⟨c,Yy0⟩)
  have c63:c≤63:=Yy0
  have tb':decide (64≤c)=false:=dff Yy0
  have sh:(0:Int)≤64 - (n:Int):=Yy0
  have U:=hdd (fun (v:Int)=>uscale_any w'.heap.size (IntKind.u64.wrap v) y z (c:Int) c (u64_range _).1 (u64_range _).2 y0 y1 z0 z1 d0 d1 d2 hs.out c63)
  go_upto_region 9 with (go_at_call 160;refine (U.out _).mono ?_;rintro en w3 ⟨⟨u,u0,u1⟩,q,rfl⟩)
  go_upto_region 10 with (first | (go_at_call 162;refine (unmin_any _ Yy3 Yy3).mono ?_;rintro en w4 ⟨⟨a,a0,a1⟩,rfl⟩) | (go_at_call 161;refine (bool2i _).mono ?_;rintro en w4 ⟨rfl,rfl⟩))
  have hq:=hdd (fun x:Int=>ffb x (w2.drewN q))
  generalize hr:decide (a≤u)=r
  cases r
  all_goals
   clear hr
   go_wp2_with (first | (go_at_call 164;refine (rnd_any _ (bits_range _ _ _).1 (bits_range _ _ _).2).mono ?_;rintro en w4 ⟨⟨o⟩,rfl⟩) | (go_at_call 167;refine (pack_any _ _ (bits_range _ _ _).1 (bits_range _ _ _).2 Yy0 Yy0).mono ?_;rintro en w4 ⟨⟨f⟩ | ⟨f⟩,rfl⟩))
  all_goals
   go_ret2
   refine ⟨by first | exact .good _ | exact .bad _,(HBL.out.trans HB2.out).trans (Joins.below_draws _ _ _)⟩
def isN (c:Nat):Bool:=c == 43 || c == 45 || c == 46 || (decide (48≤c) && decide (c≤57)) || c == 69 || c == 101
def NumStr (s:ByteArray):Prop:=∀ i (h:i<s.size),isN s[i].toNat=true
theorem isN_cases {c:Nat} (h:isN c=true):c=43∨c=45∨c=46∨(48≤c∧c≤57)∨c=69∨c=101:=by
 simp [isN] at h
 omega
theorem isN_us {c:Nat} (h:isN c=true):((c:Int) == 95)=false:=by
 have:=isN_cases h
 rw [beq_eq_false_iff_ne]
 omega
theorem lower_any {w:World} (c:Nat):Calls Tryz.prog 138 #[.int .u8 (c:Int)] w fun e w'=>e = .returned (.int .u8 (bits .or .u8 (c:Int) 32))∧w'=w:=by
 go_enter Tryz.func138,Tryz.ntmps138
 go_wp2_with fail
 go_ret
 exact ⟨rfl,rfl⟩
def SetTo (w:World) (b:Nat):Prop:=∃ (a:List Int) (n:Nat) (dp:Int) (ng tr:Bool),(n=0∨Norm a n)∧D w b a (n:Int) dp ng tr
theorem SetTo.mk' {w:World} {b:Nat} {a:List Int} {n:Nat} {dp:Int} {ng tr:Bool} (h:n=0∨Norm a n) (h2:D w b a (n:Int) dp ng tr):SetTo w b:=⟨a,n,dp,ng,tr,h,h2⟩
theorem norm_snoc {a:List Int} (hl:a.length=800) {n:Nat} (hn:n<800) (h:n=0∨Norm a n) (x:Int) (x0:48≤x) (x1:x≤57) (hx:n=0→x≠48):Norm (a.set n x) (n+1):=by
 refine ⟨Yy0,Yy0,fun i hi=>?_,?_⟩
 ·
  rcases Nat.lt_or_ge i n with h1 | h1
  ·
   rcases h with h | h
   ·
    omega
   ·
    have:=h.digs i h1
    rw [List.getD_eq_getElem?_getD,List.getElem?_set_ne Yy0,← List.getD_eq_getElem?_getD]
    exact this
  ·
   obtain rfl:i=n:=Yy0
   rw [List.getD_eq_getElem?_getD,List.getElem?_set_self Yy0]
   exact ⟨x0,x1⟩
 ·
  rcases Nat.eq_zero_or_pos n with h1 | h1
  ·
   subst h1
   rw [List.getD_eq_getElem?_getD,List.getElem?_set_self Yy0]
   have:=hx rfl
   show 49≤x
   omega
  ·
   rcases h with h | h
   ·
    omega
   ·
    rw [List.getD_eq_getElem?_getD,List.getElem?_set_ne Yy0,← List.getD_eq_getElem?_getD]
    exact h.lead
theorem set_any {w : World} {b:Nat} {a:List Int} {ng tr:Bool} (h:D w b a 0 0 ng tr) (s:ByteArray) (hs:s.size≤65536) (hN:NumStr s) :
  Calls Tryz.prog 148 #[.pointer (some ⟨b,0,none⟩),.string s] w fun e w'=>IsB e∧SetTo w' b∧Below b w w':=by
 have hu:=Tryz.underlying191
 have hu2:=Tryz.underlying189
 have HN:=hdd hN;clear hN
 have ss:(s.size:Int)≤65536:=Yy0
 have c802:=h.ng_
 have f802:=h.free 802
 have h1:=h.set_ng false
 have c803:=h1.tr_
 have f803:=h1.free 803
 have h2:=h1.set_tr false
 have B2:Hid (Below b w ((w.setCell ⟨b,802,none⟩ (.bool false)).setCell ⟨b,803,none⟩ (.bool false))):=hdd (((Below.refl b w).setCell (nlr _) _).setCell (nlr _) _)
 have H:=hdd h;clear h
 have H1:=hdd h1;clear h1
 have H2:=hdd h2;clear h2
 rcases Nat.eq_zero_or_pos s.size with e | e
 ·
  obtain rfl:s=ByteArray.empty:=by
   apply ByteArray.ext;apply Array.eq_empty_of_size_eq_zero;exact e
  go_enter Tryz.func148,Tryz.ntmps148
  go_wp2_with fail
  go_ret
  exact ⟨.mk _,.mk' (n:=0) (.inl rfl) H2.out,B2.out⟩
 ·
  have t0:¬ s=ByteArray.empty:=fun h=>by rw [h] at e;exact absurd e Yy3
  go_enter Tryz.func148,Tryz.ntmps148
  go_upto_block 0 with (fail)
  go_cut [5] (fun v5 wc=>∃ (i:Nat) (ng':Bool),v5 = .int .i64 (i:Int)∧Hid (i≤s.size)∧Hid (D wc b a 0 0 ng' false)∧Hid (Below b w wc))
  case first=>
   have f802':=H2.out.free 802
   have c802':=H2.out.ng_
   go_wp2_with fail
   ·
    go_meet
    exact ⟨1,_,rfl,hdd Yy0,H2,B2⟩
   ·
    go_meet
    exact ⟨1,_,rfl,hdd Yy0,hdd (H2.out.set_ng true),hdd (B2.out.setCell (nlr _) _)⟩
   ·
    go_meet
    exact ⟨0,_,rfl,hdd Yy0,H2,B2⟩
  case rest =>
   obtain ⟨i,ng',rfl,hi,hD,hB⟩:=hcut
   clear c802 f802 c803 f803
   go_upto_block 1 with (fail)
   go_cut [5,6,7] (fun v5 v6 v7 wd=>∃ (i n:Nat) (dp:Int) (a:List Int) (sd sg tr:Bool),v5 = .int .i64 (i:Int)∧v6 = .bool sd∧v7 = .bool sg∧Hid (i≤s.size)∧Hid (n=0∨Norm a n)∧Hid (D wd b a (n:Int) dp ng' tr)∧Hid (Below b w wd)∧Hid (-65536≤dp∧dp≤800))
   case first=>
    go_wp2_with fail
    go_loopg [5,6,7] (s.size - i) (fun m v5 v6 v7 wd=>∃ (i n:Nat) (dp:Int) (a:List Int) (sd sg tr:Bool),v5 = .int .i64 (i:Int)∧v6 = .bool sd∧v7 = .bool sg∧Hid (i+m=s.size)∧Hid (n=0∨Norm a n)∧Hid (D wd b a (n:Int) dp ng' tr)∧Hid (Below b w wd)∧Hid (-(i:Int)≤dp∧dp≤800))
    case atStart=>exact ⟨i,0,0,a,false,false,false,rfl,rfl,rfl,hdd Yy9,hdd (.inl rfl),hD,hB,hdd Yy0⟩
    case round=>
     clear hD hB hi
     obtain ⟨i,n,dp,a,sd,sg,tr,rfl,rfl,rfl,hi,hn,hD,hB,hdp⟩:=hrel
     by_cases hlt:i<s.size
     ·
      have t1:decide (i<s.size)=true:=dtt hlt
      have hc:=hdd (isN_cases (HN.out i hlt))
      have p95:=isN_us (HN.out i hlt)
      have i0:0≤(i:Int):=Yy0
      have i1:(i:Int)≤65536:=Yy0
      have d0:-65536≤dp:=Yy8
      have d1:dp≤800:=hdp.out.2
      have n0:0≤(n:Int):=Yy0
      have n8:(n:Int)≤800:=by rcases hn.out with h | h;omega;have:=h.le;omega
      have c800:=hD.out.nd_
      have c801:=hD.out.dp_
      have c803:=hD.out.tr_
      have f801:=hD.out.free 801
      have f800:=hD.out.free 800
      have f803:=hD.out.free 803
      by_cases e46:s[i].toNat=46
      ·
       have p46:((s[i].toNat:Int) == 46)=true:=beq_iff_eq.mpr Yy0
       have E46:=hdd e46;clear e46
       cases sd with
       | true=>
        as_aux_lemma=>
        go_wp2_with fail
        go_ret
        exact ⟨.mk _,.mk' hn.out hD.out,hB.out⟩
       | false=>
        as_aux_lemma=>
        go_wp2_with fail
        go_roundg (gk - 1)
        case measure=>have:=hi.out;omega
        case rel=>exact ⟨i+1,n,(n:Int),a,true,sg,tr,Yy6,rfl,rfl,hdd Yy9,hn,hdd (hD.out.set_dp _),hdd (hB.out.setCell (nlr _) _),hdd Yy0⟩
      ·
       have p46:((s[i].toNat:Int) == 46)=false:=bfo Yy0
       have E46:=hdd e46;clear e46
       by_cases dg:48≤s[i].toNat∧s[i].toNat≤57
       ·
        have p48:decide (48≤(s[i].toNat:Int))=true:=dtt Yy0
        have p57:decide ((s[i].toNat:Int)≤57)=true:=dtt Yy0
        have DG:=hdd dg;clear dg
        by_cases z:s[i].toNat=48
        ·
         have pz:((s[i].toNat:Int) == 48)=true:=beq_iff_eq.mpr Yy0
         have pz':((s[i].toNat:Int) != 48)=false:=by simp [bne,pz]
         have Z:=hdd z;clear z
         by_cases zn:n=0
         ·
          subst zn
          as_aux_lemma=>
          go_wp2_with fail
          go_roundg (gk - 1)
          case measure=>have:=hi.out;omega
          case rel=>exact ⟨i+1,0,dp - 1,a,sd,true,tr,Yy6,rfl,rfl,hdd Yy9,hdd (.inl rfl),hdd (hD.out.set_dp _),hdd (hB.out.setCell (nlr _) _),hdd Yy8⟩
         ·
          have pn:((n:Int) == 0)=false:=bfo Yy0
          have ZN:=hdd zn;clear zn
          by_cases nb:n<800
          ·
           have pb:decide ((n:Int)<800)=true:=dtt Yy0
           have NB:=hdd nb
           have nI:(n:Int)<800:=Yy0
           have iI:(i:Int)<(s.size:Int):=Yy0
           have n8':¬ n=800:=Yy0
           clear nb
           as_aux_lemma=>
           go_wp2_with fail
           go_still_tail 11,Yy1
           change wpList _ _ _ _ _ (World.drew _)
           obtain ⟨w2,hw2⟩:∃ w2,w2=wr.drew:=⟨_,rfl⟩
           rw [← hw2]
           have hD2:D w2 b a (n:Int) dp ng' tr:=by rw [hw2];exact hD.out.drew
           have hB2:Below b w w2:=by rw [hw2];exact hB.out.trans (Joins.below_draws b wr 1)
           have HD2:=hdd hD2
           have HB2:=hdd hB2
           have e800:=hD2.nd_
           have g800:=hD2.free 800
           have gn:=hD2.free n
           obtain ⟨z,hz⟩:∃ z,w2.cell? ⟨b,n,none⟩=some (.int .u8 z):=⟨_,hD2.d n NB.out⟩
           have hD3:=hD2.set_d n NB.out (s[i].toNat:Int)
           have e800':=hD3.nd_
           have g800':=hD3.free 800
           have HD3:=hdd hD3
           clear hD2 hB2 hD3 hw2
           as_aux_lemma=>
           go_wp2_with fail
           go_roundg (gk - 1)
           case measure=>have:=hi.out;omega
           case rel=>exact ⟨i+1,n+1,dp,a.set n (s[i].toNat:Int),sd,true,tr,Yy6,rfl,rfl,hdd Yy9,hdd (.inr (norm_snoc HD2.out.len NB.out hn.out _ Yy39 Yy39 (fun h=>by exact absurd h ZN.out))),hdd (HD3.out.set_nd _),hdd ((HB2.out.setCell (nlr _) _).setCell (nlr _) _),hdd Yy8⟩
          ·
           have pb:decide ((n:Int)<800)=false:=dff Yy0
           have NB:=hdd nb;clear nb
           as_aux_lemma=>
           go_wp2_with fail
           go_roundg (gk - 1)
           case measure=>have:=hi.out;omega
           case rel=>exact ⟨i+1,n,dp,a,sd,true,tr,Yy6,rfl,rfl,hdd Yy9,hn,hD,hB,hdd Yy8⟩
        ·
         have pz:((s[i].toNat:Int) == 48)=false:=bfo Yy0
         have pz':((s[i].toNat:Int) != 48)=true:=by simp [bne,pz]
         have Z:=hdd z;clear z
         by_cases nb:n<800
         ·
          have pb:decide ((n:Int)<800)=true:=dtt Yy0
          have NB:=hdd nb
          have nI:(n:Int)<800:=Yy0
          have iI:(i:Int)<(s.size:Int):=Yy0
          have n8':¬ n=800:=Yy0
          clear nb
          as_aux_lemma=>
          go_wp2_with fail
          go_still_tail 11,Yy1
          change wpList _ _ _ _ _ (World.drew _)
          obtain ⟨w2,hw2⟩:∃ w2,w2=wr.drew:=⟨_,rfl⟩
          rw [← hw2]
          have hD2:D w2 b a (n:Int) dp ng' tr:=by rw [hw2];exact hD.out.drew
          have hB2:Below b w w2:=by rw [hw2];exact hB.out.trans (Joins.below_draws b wr 1)
          have HD2:=hdd hD2
          have HB2:=hdd hB2
          have e800:=hD2.nd_
          have g800:=hD2.free 800
          have gn:=hD2.free n
          obtain ⟨z,hz⟩:∃ z,w2.cell? ⟨b,n,none⟩=some (.int .u8 z):=⟨_,hD2.d n NB.out⟩
          have hD3:=hD2.set_d n NB.out (s[i].toNat:Int)
          have e800':=hD3.nd_
          have g800':=hD3.free 800
          have HD3:=hdd hD3
          clear hD2 hB2 hD3 hw2
          as_aux_lemma=>
          go_wp2_with fail
          go_roundg (gk - 1)
          case measure=>have:=hi.out;omega
          case rel=>exact ⟨i+1,n+1,dp,a.set n (s[i].toNat:Int),sd,true,tr,Yy6,rfl,rfl,hdd Yy9,hdd (.inr (norm_snoc HD2.out.len NB.out hn.out _ Yy39 Yy39 (fun h=>by have:=Z.out;omega))),hdd (HD3.out.set_nd _),hdd ((HB2.out.setCell (nlr _) _).setCell (nlr _) _),hdd Yy8⟩
         ·
          have pb:decide ((n:Int)<800)=false:=dff Yy0
          have NB:=hdd nb;clear nb
          as_aux_lemma=>
          go_wp2_with fail
          go_roundg (gk - 1)
          case measure=>have:=hi.out;omega
          case rel=>exact ⟨i+1,n,dp,a,sd,true,true,Yy6,rfl,rfl,hdd Yy9,hn,hdd (hD.out.set_tr _),hdd (hB.out.setCell (nlr _) _),hdd Yy8⟩
       ·
        have p48:¬ (48≤s[i].toNat∧s[i].toNat≤57):=dg
        have DG:=hdd dg;clear dg p48
        by_cases lo:48≤s[i].toNat
        ·
         have p48:decide (48≤(s[i].toNat:Int))=true:=dtt Yy0
         have p57:decide ((s[i].toNat:Int)≤57)=false:=dff Yy39
         have LO:=hdd lo;clear lo
         as_aux_lemma=>
         go_wp2_with fail
         go_meet
         exact ⟨i,n,dp,a,sd,sg,tr,rfl,rfl,rfl,hdd Yy0,hn,hD,hB,hdd Yy0⟩
        ·
         have p48:decide (48≤(s[i].toNat:Int))=false:=dff Yy0
         have LO:=hdd lo;clear lo
         as_aux_lemma=>
         go_wp2_with fail
         go_meet
         exact ⟨i,n,dp,a,sd,sg,tr,rfl,rfl,rfl,hdd Yy0,hn,hD,hB,hdd Yy0⟩
     ·
      have t1:decide (i<s.size)=false:=dff hlt
      as_aux_lemma=>
      go_wp2_with fail
      go_meet
      exact ⟨i,n,dp,a,sd,sg,tr,rfl,rfl,rfl,hdd Yy9,hn,hD,hB,hdd (by have:=hdp.out;have:=hi.out;omega)⟩
   case rest =>
    clear hD hB hi
    obtain ⟨i,n,dp,a,sd,sg,tr,rfl,rfl,rfl,hi,hn,hD,hB,hdp⟩:=hcut
    cases sg with
    | false=>
     as_aux_lemma=>
     go_wp2_with fail
     go_ret
     exact ⟨.mk _,.mk' hn.out hD.out,hB.out⟩
    | true =>
     go_upto_if 120 with (fail)
     go_cut [] (fun we=>∃ dp:Int,Hid (D we b a (n:Int) dp ng' tr)∧Hid (Below b w we)∧Hid (-65536≤dp∧dp≤800))
     case first=>
      have c800:=hD.out.nd_
      have c801:=hD.out.dp_
      have f801:=hD.out.free 801
      cases sd with
      | true=>
       as_aux_lemma=>
       go_wp2_with fail
       go_meet
       exact ⟨dp,hD,hB,hdp⟩
      | false=>
       as_aux_lemma=>
       go_wp2_with fail
       go_meet
       exact ⟨(n:Int),hdd (hD.out.set_dp _),hdd (hB.out.setCell (nlr _) _),hdd (by rcases hn.out with h | h;omega;have:=h.le;omega)⟩
     case rest =>
      clear hD hB hdp
      obtain ⟨dp,hD,hB,hdp⟩:=hcut
      have i0:0≤(i:Int):=Yy0
      have i1:(i:Int)≤65536:=Yy9
      by_cases hlt:i<s.size
      ·
       have t1:decide (i<s.size)=true:=dtt hlt
       by_cases he:bits .or .u8 (s[i].toNat:Int) 32=101
       ·
        have te:(bits .or .u8 (s[i].toNat:Int) 32 == 101)=true:=beq_iff_eq.mpr he
        have HE:=hdd he;clear he
        by_cases hl2:s.size≤i+1
        ·
         have t2:decide ((s.size:Int)≤(i:Int)+1)=true:=dtt Yy0
         go_wp2_with (go_at_call 138;refine (lower_any _).mono ?_;rintro e w' ⟨rfl,rfl⟩)
         go_ret
         exact ⟨.mk _,.mk' hn.out hD.out,hB.out⟩
        ·
         have t2:decide ((s.size:Int)≤(i:Int)+1)=false:=dff Yy0
         have t2':i+1<s.size:=Yy0
         go_upto_block 4 with (go_at_call 138;refine (lower_any _).mono ?_;rintro e w' ⟨rfl,rfl⟩)
         go_cut [5,8] (fun v5 v8 wf=>∃ (j:Nat) (sg:Int),v5 = .int .i64 (j:Int)∧v8 = .int .i64 sg∧Hid (j≤s.size)∧Hid (sg=1∨sg = -1)∧Hid (D wf b a (n:Int) dp ng' tr)∧Hid (Below b w wf))
         case first=>
          as_aux_lemma=>
          go_wp2_with fail
          ·
           go_meet
           exact ⟨i+1+1,_,Yy6,rfl,hdd Yy0,hdd (.inl rfl),hD,hB⟩
          ·
           go_meet
           exact ⟨i+1+1,_,Yy6,rfl,hdd Yy0,hdd (.inr rfl),hD,hB⟩
          ·
           go_meet
           exact ⟨i+1,_,Yy6,rfl,hdd Yy0,hdd (.inl rfl),hD,hB⟩
         case rest =>
          clear t1 te hD hB
          obtain ⟨j,sg,rfl,rfl,hj,hsg,hD,hB⟩:=hcut
          have j0:0≤(j:Int):=Yy0
          have j1:(j:Int)≤65536:=Yy14
          by_cases bad:s.size≤j
          ·
           have t3:decide (s.size≤j)=true:=dtt bad
           as_aux_lemma=>
           go_wp2_with fail
           go_ret
           exact ⟨.mk _,.mk' hn.out hD.out,hB.out⟩
          ·
           have t3:decide (s.size≤j)=false:=dff bad
           have jI:j<s.size:=Yy0
           by_cases lo:s[j].toNat<48
           ·
            have t4:decide ((s[j].toNat:Int)<48)=true:=dtt Yy0
            as_aux_lemma=>
            go_wp2_with fail
            go_ret
            exact ⟨.mk _,.mk' hn.out hD.out,hB.out⟩
           ·
            have t4:decide ((s[j].toNat:Int)<48)=false:=dff Yy0
            by_cases hi':57<s[j].toNat
            ·
             have t5:decide (57<(s[j].toNat:Int))=true:=dtt Yy0
             as_aux_lemma=>
             go_wp2_with fail
             go_ret
             exact ⟨.mk _,.mk' hn.out hD.out,hB.out⟩
            ·
             have t5:decide (57<(s[j].toNat:Int))=false:=dff Yy0
             go_upto_block 5 with (fail)
             go_cut [5,9] (fun v5 v9 wg=>∃ (j:Nat) (e:Int),v5 = .int .i64 (j:Int)∧v9 = .int .i64 e∧Hid (j≤s.size)∧Hid (0≤e∧e≤100009)∧Hid (D wg b a (n:Int) dp ng' tr)∧Hid (Below b w wg))
             case first=>
              skip
              as_aux_lemma=>
              go_wp2_with fail
              go_loopg [5,9] (s.size - j) (fun m v5 v9 wg=>∃ (j:Nat) (e:Int),v5 = .int .i64 (j:Int)∧v9 = .int .i64 e∧Hid (j+m=s.size)∧Hid (0≤e∧e≤100009)∧Hid (D wg b a (n:Int) dp ng' tr)∧Hid (Below b w wg))
              case atStart=>exact ⟨j,0,rfl,rfl,hdd Yy14,hdd Yy0,hD,hB⟩
              case round=>
               clear hD hB hj
               obtain ⟨j,e,rfl,rfl,hj,he,hD,hB⟩:=hrel
               have j0:0≤(j:Int):=Yy0
               have j1:(j:Int)≤65536:=Yy14
               have e0:0≤e:=he.out.1
               have e1:e≤100009:=he.out.2
               by_cases hlt:j<s.size
               ·
                have t1:decide (j<s.size)=true:=dtt hlt
                have p95:=isN_us (HN.out j hlt)
                by_cases lo:48≤s[j].toNat
                ·
                 have t4:decide (48≤(s[j].toNat:Int))=true:=dtt Yy0
                 by_cases hi':s[j].toNat≤57
                 ·
                  have t5:decide ((s[j].toNat:Int)≤57)=true:=dtt Yy0
                  have x0:48≤(s[j].toNat:Int):=Yy0
                  have x1:(s[j].toNat:Int)≤57:=Yy0
                  by_cases big:e<10000
                  ·
                   have t6:decide (e<10000)=true:=dtt big
                   go_wp2_with fail
                   go_roundg (gk - 1)
                   case measure=>have:=hj.out;omega
                   case rel=>exact ⟨j+1,_,Yy6,rfl,hdd Yy14,hdd Yy0,hD,hB⟩
                  ·
                   have t6:decide (e<10000)=false:=dff big
                   go_wp2_with fail
                   go_roundg (gk - 1)
                   case measure=>have:=hj.out;omega
                   case rel=>exact ⟨j+1,e,Yy6,rfl,hdd Yy14,he,hD,hB⟩
                 ·
                  have t5:decide ((s[j].toNat:Int)≤57)=false:=dff Yy0
                  go_wp2_with fail
                  go_meet
                  exact ⟨j,e,rfl,rfl,hdd Yy0,he,hD,hB⟩
                ·
                 have t4:decide (48≤(s[j].toNat:Int))=false:=dff Yy0
                 go_wp2_with fail
                 go_meet
                 exact ⟨j,e,rfl,rfl,hdd Yy0,he,hD,hB⟩
               ·
                have t1:decide (j<s.size)=false:=dff hlt
                go_wp2_with fail
                go_meet
                exact ⟨j,e,rfl,rfl,hdd Yy14,he,hD,hB⟩
             case rest=>
              clear hD hB hj
              obtain ⟨j,e,rfl,rfl,hj,he,hD,hB⟩:=hcut
              have e0:0≤e:=he.out.1
              have e1:e≤100009:=he.out.2
              have d0:-65536≤dp:=hdp.out.1
              have d1:dp≤800:=hdp.out.2
              have c801:=hD.out.dp_
              have f801:=hD.out.free 801
              rcases hsg.out with h | h
              all_goals
               subst h
               clear hsg
               as_aux_lemma=>
               go_wp2_with fail
               all_goals
                go_ret
                exact ⟨.mk _,.mk' hn.out (hD.out.set_dp _),hB.out.setCell (nlr _) _⟩
       ·
        have te:(bits .or .u8 (s[i].toNat:Int) 32 == 101)=false:=bfo he
        have HE:=hdd he;clear he
        go_wp2_with (go_at_call 138;refine (lower_any _).mono ?_;rintro e w' ⟨rfl,rfl⟩)
        all_goals
         go_ret
         exact ⟨.mk _,.mk' hn.out hD.out,hB.out⟩
      ·
       have t1:decide (i<s.size)=false:=dff hlt
       as_aux_lemma=>
       go_wp2_with fail
       all_goals
        go_ret
        exact ⟨.mk _,.mk' hn.out hD.out,hB.out⟩
end Go.Proofs.YtieflhncpjjciaaGreatDoor.Dc
