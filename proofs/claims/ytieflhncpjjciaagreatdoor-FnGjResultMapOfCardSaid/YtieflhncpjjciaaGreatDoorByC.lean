/- Walks and plain laws of this claim. -/
import Derived.Test.YtieflhncpjjciaaGreatDoorByB
import Derived.WalkLawsBesides
import Derived.Laws.FloatArith
import Derived.Shelf.LaysC
import Derived.Shelf.Strconv.ToError
import Derived.Shelf.Strconv.ToErrorRange
import Derived.Test.YtieflhncpjjciaaGreatDoorProg
import Derived.Test.YtieflhncpjjciaaGreatDoorByA
set_option maxHeartbeats 8000000
set_option maxRecDepth 100000
set_option linter.unusedVariables false
set_option linter.unusedSimpArgs false
namespace Go.Proofs.YtieflhncpjjciaaGreatDoor.Dc
open Go Go.RowKit
theorem NumStr.extract {s:ByteArray} (h:NumStr s) (a b:Nat):NumStr (s.extract a b):=by
 intro i hi
 have h1:i<min b s.size - a:=by rw [ByteArray.size_extract] at hi;exact hi
 have h2:(s.extract a b)[i]=s[a+i]' Yy0:=by rw [ByteArray.getElem_extract]
 rw [h2]
 exact h _ _
theorem cp_any {w:World} (s:ByteArray) (hs:s.size≤65536) (hN:NumStr s) :
  Calls Tryz.prog 155 #[.string s,.string ⟨#[105,110,102,105,110,105,116,121]⟩] w fun e w'=>e = .returned (.int .i64 0)∧w'=w:=by
 have HN:=hdd hN;clear hN
 rcases Nat.eq_zero_or_pos s.size with e | e
 ·
  obtain rfl:s=ByteArray.empty:=by
   apply ByteArray.ext;apply Array.eq_empty_of_size_eq_zero;exact e
  go_enter Tryz.func155,Tryz.ntmps155
  go_wp2_with fail
  go_loopg [6,7] 0 (fun m v6 v7 wd=>v6 = .int .i64 0∧wd=w)
  case atStart=>exact ⟨rfl,rfl⟩
  case round=>
   obtain ⟨rfl,rfl⟩:=hrel
   go_wp2_with fail
   go_ret
   exact ⟨rfl,rfl⟩
 ·
  have hc:=hdd (isN_cases (HN.out 0 e))
  have te:decide (0<s.size)=true:=dtt e
  have te':decide (0<(s.size:Int))=true:=dtt Yy0
  by_cases c69:s[0].toNat=69
  ·
   have p65:decide ((65:Int)≤(s[0].toNat:Int))=true:=dtt Yy0
   have p90:decide ((s[0].toNat:Int)≤90)=true:=dtt Yy0
   have cI:(s[0].toNat:Int)≤69:=Yy0
   have cJ:(69:Int)≤(s[0].toNat:Int):=Yy0
   have pe:((s[0].toNat:Int)+32 != ((ByteArray.mk #[105,110,102,105,110,105,116,121])[0].toNat:Int))=true:=by rw [c69];decide
   have C:=hdd c69;clear c69
   go_enter Tryz.func155,Tryz.ntmps155
   go_wp2_with fail
   all_goals
    go_loopg [6,7] 0 (fun m v6 v7 wd=>v6 = .int .i64 0∧wd=w)
    case atStart=>exact ⟨rfl,rfl⟩
    case round=>
     obtain ⟨rfl,rfl⟩:=hrel
     go_wp2_with fail
     go_ret
     exact ⟨rfl,rfl⟩
  ·
   by_cases c101:s[0].toNat=101
   ·
    have p65:decide ((65:Int)≤(s[0].toNat:Int))=true:=dtt Yy0
    have p90:decide ((s[0].toNat:Int)≤90)=false:=dff Yy0
    have C1:=hdd c101;clear c101
    have pe:((s[0].toNat:Int) != ((ByteArray.mk #[105,110,102,105,110,105,116,121])[0].toNat:Int))=true:=Yy74
    have C:=hdd c69;clear c69
    go_enter Tryz.func155,Tryz.ntmps155
    go_wp2_with fail
    all_goals
     go_loopg [6,7] 0 (fun m v6 v7 wd=>v6 = .int .i64 0∧wd=w)
     case atStart=>exact ⟨rfl,rfl⟩
     case round=>
      obtain ⟨rfl,rfl⟩:=hrel
      go_wp2_with fail
      go_ret
      exact ⟨rfl,rfl⟩
   ·
    have q57:¬ (65:Int)≤(s[0].toNat:Int):=Yy49
    have p65:decide ((65:Int)≤(s[0].toNat:Int))=false:=dff q57
    have Q57:=hdd q57
    have C1:=hdd c101;clear q57 c101
    have pe:((s[0].toNat:Int) != ((ByteArray.mk #[105,110,102,105,110,105,116,121])[0].toNat:Int))=true:=Yy74
    have C:=hdd c69;clear c69
    go_enter Tryz.func155,Tryz.ntmps155
    go_wp2_with fail
    all_goals
     go_loopg [6,7] 0 (fun m v6 v7 wd=>v6 = .int .i64 0∧wd=w)
     case atStart=>exact ⟨rfl,rfl⟩
     case round=>
      obtain ⟨rfl,rfl⟩:=hrel
      go_wp2_with fail
      go_ret
      exact ⟨rfl,rfl⟩
def special0:Value:=.tuple #[.float .f64 0,.int .i64 0,.bool false]
theorem special_any {w:World} (s:ByteArray) (hs:s.size≤65536) (hN:NumStr s) :
  Calls Tryz.prog 141 #[.string s] w fun e w'=>e = .returned special0∧w'=w:=by
 have HN:=hdd hN;clear hN
 rcases Nat.eq_zero_or_pos s.size with e | e
 ·
  obtain rfl:s=ByteArray.empty:=by
   apply ByteArray.ext;apply Array.eq_empty_of_size_eq_zero;exact e
  go_enter Tryz.func141,Tryz.ntmps141
  go_wp2_with fail
  go_ret3
  exact ⟨rfl,rfl⟩
 ·
  have hc:=hdd (isN_cases (HN.out 0 e))
  have t0:¬ s=ByteArray.empty:=fun h=>by rw [h] at e;exact absurd e Yy3
  have CP:=hdd (cp_any (w:=w) (s.extract 1 s.size) Yy13 (HN.out.extract _ _))
  have e':1≤s.size:=e
  by_cases c43:s[0].toNat=43∨s[0].toNat=45
  ·
   rcases c43 with h | h
   ·
    have p43:((s[0].toNat:Int) == 43)=true:=beq_iff_eq.mpr Yy0
    have p45:((s[0].toNat:Int) == 45)=false:=bfo Yy0
    have C:=hdd h;clear h
    go_enter Tryz.func141,Tryz.ntmps141
    go_wp2_with (go_at_call 155;refine CP.out.mono ?_;rintro e w' ⟨rfl,rfl⟩)
    go_ret3
    exact ⟨rfl,rfl⟩
   ·
    have p43:((s[0].toNat:Int) == 43)=false:=bfo Yy0
    have p45:((s[0].toNat:Int) == 45)=true:=beq_iff_eq.mpr Yy0
    have C:=hdd h;clear h
    go_enter Tryz.func141,Tryz.ntmps141
    go_wp2_with (go_at_call 155;refine CP.out.mono ?_;rintro e w' ⟨rfl,rfl⟩)
    go_ret3
    exact ⟨rfl,rfl⟩
  ·
   have p43:((s[0].toNat:Int) == 43)=false:=bfo Yy0
   have p45:((s[0].toNat:Int) == 45)=false:=bfo Yy0
   have q1:((s[0].toNat:Int) == 105)=false:=bfo Yy49
   have q2:((s[0].toNat:Int) == 73)=false:=bfo Yy49
   have q3:((s[0].toNat:Int) == 110)=false:=bfo Yy49
   have q4:((s[0].toNat:Int) == 78)=false:=bfo Yy49
   have C:=hdd c43;clear c43
   go_enter Tryz.func141,Tryz.ntmps141
   go_wp2_with fail
   go_ret3
   exact ⟨rfl,rfl⟩
theorem results_tmp7 {fn:Func} {a b c d e f g:Tmp} (h:fn.results=#[.tmp a,.tmp b,.tmp c,.tmp d,.tmp e,.tmp f,.tmp g]) (tmps:Array Value) (P:Program) (w:World) :
  (results fn tmps).run P w = .ok (.tuple #[tmps.getD a undef,tmps.getD b undef,tmps.getD c undef,tmps.getD d undef,tmps.getD e undef,tmps.getD f undef,tmps.getD g undef]) w:=by
 simp [results,h]
inductive IsRF (n:Nat):Ending→Prop
 | mk (m p:Int) (ng tr:Bool) (k:Nat) (ok:Bool) (m0:0≤m) (m1:m<18446744073709551616) (p0:-200000≤p) (p1:p≤200000) (hk:k≤n) :
   IsRF n (.returned (.tuple #[.int .u64 m,.int .i64 p,.bool ng,.bool tr,.bool false,.int .i64 (k:Int),.bool ok]))
theorem dig_x:∀ c:Fin 10,(bits .or .u8 (((c.val+48:Nat)):Int) 32 == 120)=false:=Yy3
theorem isN_x {c:Nat} (h:isN c=true):(bits .or .u8 (c:Int) 32 == 120)=false:=by
 rcases isN_cases h with h | h | h | h | h | h
 ·
  subst h;decide
 ·
  subst h;decide
 ·
  subst h;decide
 ·
  have:=dig_x ⟨c - 48,Yy0⟩
  have e:c - 48+48=c:=Yy0
  simpa [e] using this
 ·
  subst h;decide
 ·
  subst h;decide
theorem read_any {w : World} (s:ByteArray) (hs:s.size≤65536) (hN:NumStr s) :
  Calls Tryz.prog 142 #[.string s] w fun e w'=>IsRF s.size e∧w'=w:=by
 have HN:=hdd hN;clear hN
 have ss:(s.size:Int)≤65536:=Yy0
 rcases Nat.eq_zero_or_pos s.size with e | e
 ·
  obtain rfl:s=ByteArray.empty:=by
   apply ByteArray.ext;apply Array.eq_empty_of_size_eq_zero;exact e
  go_enter Tryz.func142,Tryz.ntmps142
  go_wp2_with fail
  refine scope_labels (fun _ _ _=>False) ?_ (fun l a w h=>h.elim)
  go_wp2_with fail
  simp only [jumps]
  refine bodyPost_ret (results_tmp7 rfl _ _ _) rfl ?_
  exact ⟨.mk _ _ _ _ 0 _ Yy0 Yy0 Yy0 Yy0 Yy0,rfl⟩
 ·
  have t0:¬ s=ByteArray.empty:=fun h=>by rw [h] at e;exact absurd e Yy3
  go_enter Tryz.func142,Tryz.ntmps142
  go_wp2_with fail
  refine scope_labels (fun _ _ _=>False) ?_ (fun l a w h=>h.elim)
  go_upto_block 0 with (fail)
  go_cut [4,7] (fun v4 v7 wc=>∃ (i:Nat) (ng:Bool),v4 = .bool ng∧v7 = .int .i64 (i:Int)∧Hid (i≤s.size)∧Hid (wc=w))
  case first=>
   as_aux_lemma=>
   go_wp2_with fail
   ·
    go_meet
    exact ⟨1,_,rfl,rfl,hdd Yy0,hdd rfl⟩
   ·
    go_meet
    exact ⟨1,_,rfl,rfl,hdd Yy0,hdd rfl⟩
   ·
    go_meet
    exact ⟨0,_,rfl,rfl,hdd Yy0,hdd rfl⟩
  case rest =>
   obtain ⟨i,ng,rfl,rfl,hi,hw⟩:=hcut
   have i0:0≤(i:Int):=Yy0
   have i1:(i:Int)≤65536:=Yy9
   go_upto_region 12 with (fail)
   go_cut [54] (fun v54 wd=>v54 = .bool false∧Hid (wd=w))
   case first=>
    as_aux_lemma=>
    by_cases h2:i+2<s.size
    ·
     have t1:decide ((i:Int)+2<(s.size:Int))=true:=dtt Yy0
     have hx:=isN_x (HN.out (i+1) Yy0)
     have t2:i<s.size:=Yy0
     have t3:i+1<s.size:=Yy0
     go_wp2_with (go_at_call 138;refine (lower_any _).mono ?_;rintro e w' ⟨rfl,rfl⟩)
     all_goals
      go_meet
      exact ⟨rfl,hw⟩
    ·
     have t1:decide ((i:Int)+2<(s.size:Int))=false:=dff Yy0
     go_wp2_with fail
     go_meet
     exact ⟨rfl,hw⟩
   case rest =>
    obtain ⟨rfl,hw⟩:=hcut
    go_upto_block 1 with (fail)
    go_step3
    go_upto_block 1 with (fail)
    go_cut [2,5,7,9,13,14,15,16,17,18] (fun v2 v5 v7 v9 v13 v14 v15 v16 v17 v18 wd=>∃ (i nd nm:Nat) (m dp:Int) (tr sd sg:Bool),v2 = .int .u64 m∧v5 = .bool tr∧v7 = .int .i64 (i:Int)∧v9 = .bool false∧v13 = .bool sd∧v14 = .bool sg∧v15 = .int .i64 (nd:Int)∧v16 = .int .i64 (nm:Int)∧v17 = .int .i64 dp∧Hid (i≤s.size)∧Hid (0≤m∧m<18446744073709551616)∧Hid (nm≤19)∧Hid (nd≤i)∧Hid (-65536≤dp∧dp≤65536)∧Hid (wd=w))
    case first=>
     as_aux_lemma=>
     go_wp2_with fail
     go_loopg [2,5,7,9,13,14,15,16,17,18] (s.size - i) (fun M v2 v5 v7 v9 v13 v14 v15 v16 v17 v18 wd=>∃ (i nd nm:Nat) (m dp:Int) (tr sd sg:Bool),v2 = .int .u64 m∧v5 = .bool tr∧v7 = .int .i64 (i:Int)∧v9 = .bool false∧v13 = .bool sd∧v14 = .bool sg∧v15 = .int .i64 (nd:Int)∧v16 = .int .i64 (nm:Int)∧v17 = .int .i64 dp∧Hid (i+M=s.size)∧Hid (0≤m∧m<18446744073709551616)∧Hid (nm≤19)∧Hid (nd≤i)∧Hid (-(i:Int)≤dp∧dp≤(i:Int))∧Hid (wd=w))
     case atStart=>exact ⟨i,0,0,0,0,false,false,false,rfl,rfl,rfl,rfl,rfl,rfl,rfl,rfl,rfl,hdd Yy9,hdd Yy0,hdd Yy0,hdd Yy0,hdd Yy0,hw⟩
     case round=>
      clear hi
      obtain ⟨i,nd,nm,m,dp,tr,sd,sg,rfl,rfl,rfl,rfl,rfl,rfl,rfl,rfl,rfl,hi,hm,hnm,hnd,hdp,hw⟩:=hrel
      by_cases hlt:i<s.size
      ·
       have t1:decide (i<s.size)=true:=dtt hlt
       have hc:=hdd (isN_cases (HN.out i hlt))
       have p95:=isN_us (HN.out i hlt)
       have i0:0≤(i:Int):=Yy0
       have i1:(i:Int)≤65536:=Yy0
       have d0:-65536≤dp:=Yy8
       have d1:dp≤65536:=Yy8
       have n0:0≤(nd:Int):=Yy0
       have n1:(nd:Int)≤65536:=Yy26
       have k0:0≤(nm:Int):=Yy0
       have k1:(nm:Int)≤19:=by have:=hnm.out;omega
       have m0:0≤m:=hm.out.1
       have m1:m<18446744073709551616:=hm.out.2
       by_cases e46:s[i].toNat=46
       ·
        have p46:((s[i].toNat:Int) == 46)=true:=beq_iff_eq.mpr Yy0
        have E46:=hdd e46;clear e46
        cases sd with
        | true=>
         as_aux_lemma=>
         go_wp2_with fail
         go_meet
         exact ⟨i,nd,nm,m,dp,tr,true,sg,rfl,rfl,rfl,rfl,rfl,rfl,rfl,rfl,rfl,hdd Yy0,hm,hnm,hnd,hdd Yy0,hw⟩
        | false=>
         as_aux_lemma=>
         go_wp2_with fail
         go_roundg (gk - 1)
         case measure=>have:=hi.out;omega
         case rel=>exact ⟨i+1,nd,nm,m,_,tr,true,sg,rfl,rfl,Yy6,rfl,rfl,rfl,rfl,rfl,rfl,hdd Yy9,hm,hnm,hdd Yy26,hdd Yy26,hw⟩
       ·
        have p46:((s[i].toNat:Int) == 46)=false:=bfo Yy0
        have E46:=hdd e46;clear e46
        by_cases dg:48≤s[i].toNat∧s[i].toNat≤57
        ·
         have p48:decide ((48:Int)≤(s[i].toNat:Int))=true:=dtt Yy0
         have p57:decide ((s[i].toNat:Int)≤57)=true:=dtt Yy0
         have x0:(48:Int)≤(s[i].toNat:Int):=Yy0
         have x1:(s[i].toNat:Int)≤57:=Yy0
         have DG:=hdd dg;clear dg
         by_cases z:s[i].toNat=48∧nd=0
         ·
          obtain ⟨z,rfl⟩:=z
          have pz:((s[i].toNat:Int) == 48)=true:=beq_iff_eq.mpr Yy0
          have Z:=hdd z;clear z
          as_aux_lemma=>
          go_wp2_with fail
          go_roundg (gk - 1)
          case measure=>have:=hi.out;omega
          case rel=>exact ⟨i+1,0,nm,m,_,tr,sd,true,rfl,rfl,Yy6,rfl,rfl,rfl,rfl,rfl,rfl,hdd Yy9,hm,hnm,hdd Yy0,hdd Yy8,hw⟩
         ·
          have ZZ:=hdd z;clear z
          by_cases nb:nm<19
          ·
           have pb:decide ((nm:Int)<19)=true:=dtt Yy0
           have NB:=hdd nb;clear nb
           by_cases z:s[i].toNat=48
           ·
            have pz:((s[i].toNat:Int) == 48)=true:=beq_iff_eq.mpr Yy0
            have pn:((nd:Int) == 0)=false:=bfo (by have:=ZZ.out;omega)
            have Z:=hdd z;clear z
            as_aux_lemma=>
            go_wp2_with fail
            go_roundg (gk - 1)
            case measure=>have:=hi.out;omega
            case rel=>exact ⟨i+1,nd+1,nm+1,_,_,tr,sd,true,rfl,rfl,Yy6,rfl,rfl,rfl,Yy6,Yy6,rfl,hdd Yy9,hdd (u64_range _),hdd (by have:=NB.out;omega),hdd Yy26,hdd Yy8,hw⟩
           ·
            have pz:((s[i].toNat:Int) == 48)=false:=bfo Yy0
            have Z:=hdd z;clear z
            as_aux_lemma=>
            go_wp2_with fail
            go_roundg (gk - 1)
            case measure=>have:=hi.out;omega
            case rel=>exact ⟨i+1,nd+1,nm+1,_,_,tr,sd,true,rfl,rfl,Yy6,rfl,rfl,rfl,Yy6,Yy6,rfl,hdd Yy9,hdd (u64_range _),hdd (by have:=NB.out;omega),hdd Yy26,hdd Yy8,hw⟩
          ·
           have pb:decide ((nm:Int)<19)=false:=dff Yy0
           have NB:=hdd nb;clear nb
           by_cases z:s[i].toNat=48
           ·
            have pz:((s[i].toNat:Int) == 48)=true:=beq_iff_eq.mpr Yy0
            have pz':((s[i].toNat:Int) != 48)=false:=by simp [bne,pz]
            have pn:((nd:Int) == 0)=false:=bfo (by have:=ZZ.out;omega)
            have Z:=hdd z;clear z
            as_aux_lemma=>
            go_wp2_with fail
            go_roundg (gk - 1)
            case measure=>have:=hi.out;omega
            case rel=>exact ⟨i+1,nd+1,nm,m,_,tr,sd,true,rfl,rfl,Yy6,rfl,rfl,rfl,Yy6,rfl,rfl,hdd Yy9,hm,hnm,hdd Yy26,hdd Yy8,hw⟩
           ·
            have pz:((s[i].toNat:Int) == 48)=false:=bfo Yy0
            have pz':((s[i].toNat:Int) != 48)=true:=by simp [bne,pz]
            have Z:=hdd z;clear z
            as_aux_lemma=>
            go_wp2_with fail
            go_roundg (gk - 1)
            case measure=>have:=hi.out;omega
            case rel=>exact ⟨i+1,nd+1,nm,m,_,true,sd,true,rfl,rfl,Yy6,rfl,rfl,rfl,Yy6,rfl,rfl,hdd Yy9,hm,hnm,hdd Yy26,hdd Yy8,hw⟩
        ·
         have DG:=hdd dg;clear dg
         by_cases lo:48≤s[i].toNat
         ·
          have p48:decide ((48:Int)≤(s[i].toNat:Int))=true:=dtt Yy0
          have p57:decide ((s[i].toNat:Int)≤57)=false:=dff Yy39
          have LO:=hdd lo;clear lo
          as_aux_lemma=>
          go_wp2_with fail
          go_meet
          exact ⟨i,nd,nm,m,dp,tr,sd,sg,rfl,rfl,rfl,rfl,rfl,rfl,rfl,rfl,rfl,hdd Yy0,hm,hnm,hnd,hdd Yy0,hw⟩
         ·
          have p48:decide ((48:Int)≤(s[i].toNat:Int))=false:=dff Yy0
          have LO:=hdd lo;clear lo
          as_aux_lemma=>
          go_wp2_with fail
          go_meet
          exact ⟨i,nd,nm,m,dp,tr,sd,sg,rfl,rfl,rfl,rfl,rfl,rfl,rfl,rfl,rfl,hdd Yy0,hm,hnm,hnd,hdd Yy0,hw⟩
      ·
       have t1:decide (i<s.size)=false:=dff hlt
       as_aux_lemma=>
       go_wp2_with fail
       go_meet
       exact ⟨i,nd,nm,m,dp,tr,sd,sg,rfl,rfl,rfl,rfl,rfl,rfl,rfl,rfl,rfl,hdd Yy9,hm,hnm,hnd,hdd (by have:=hi.out;have:=hdp.out;omega),hw⟩
    case rest =>
     clear i0 i1
     obtain ⟨i,nd,nm,m,dp,tr,sd,sg,rfl,rfl,rfl,rfl,rfl,rfl,rfl,rfl,rfl,hi,hm,hnm,hnd,hdp,hw⟩:=hcut
     have i0:0≤(i:Int):=Yy0
     have i1:(i:Int)≤65536:=Yy9
     have n0:0≤(nd:Int):=Yy0
     have n1:(nd:Int)≤65536:=Yy26
     have k0:0≤(nm:Int):=Yy0
     have k1:(nm:Int)≤19:=by have:=hnm.out;omega
     cases sg with
     | false=>
      as_aux_lemma=>
      go_wp2_with fail
      simp only [jumps]
      refine bodyPost_ret (results_tmp7 rfl _ _ _) rfl ?_
      exact ⟨.mk _ _ _ _ i _ Yy11 Yy11 Yy0 Yy0 Yy9,hw.out⟩
     | true =>
      go_upto_if 142 with (fail)
      go_cut [17] (fun v17 we=>∃ dp:Int,v17 = .int .i64 dp∧Hid (-65536≤dp∧dp≤65536)∧Hid (we=w))
      case first=>
       cases sd with
       | true=>
        go_wp2_with fail
        go_meet
        exact ⟨dp,rfl,hdp,hw⟩
       | false=>
        go_wp2_with fail
        go_meet
        exact ⟨(nd:Int),rfl,hdd Yy26,hw⟩
      case rest =>
       clear hdp
       obtain ⟨dp,rfl,hdp,hw⟩:=hcut
       have d0:-65536≤dp:=hdp.out.1
       have d1:dp≤65536:=hdp.out.2
       by_cases hlt:i<s.size
       ·
        have t1:decide (i<s.size)=true:=dtt hlt
        by_cases he:bits .or .u8 (s[i].toNat:Int) 32=101
        ·
         have te:(bits .or .u8 (s[i].toNat:Int) 32 == 101)=true:=beq_iff_eq.mpr he
         have HE:=hdd he;clear he
         by_cases hl2:s.size≤i+1
         ·
          have t2:decide ((s.size:Int)≤(i:Int)+1)=true:=dtt Yy0
          have ei:(i:Int)+1=((i+1:Nat):Int):=Yy0
          have EI:=hdd ei;clear ei
          as_aux_lemma=>
          go_wp2_with (go_at_call 138;refine (lower_any _).mono ?_;rintro e w' ⟨rfl,rfl⟩)
          simp only [jumps]
          refine bodyPost_ret (results_tmp7 rfl _ _ _) rfl ?_
          exact ⟨.mk _ _ _ _ (i+1) _ Yy11 Yy11 Yy0 Yy0 Yy0,hw.out⟩
         ·
          have t2:decide ((s.size:Int)≤(i:Int)+1)=false:=dff Yy0
          have t2':i+1<s.size:=Yy0
          go_upto_block 4 with (go_at_call 138;refine (lower_any _).mono ?_;rintro e w' ⟨rfl,rfl⟩)
          go_cut [7,19] (fun v7 v19 wf=>∃ (j:Nat) (sg:Int),v7 = .int .i64 (j:Int)∧v19 = .int .i64 sg∧Hid (j≤s.size)∧Hid (sg=1∨sg = -1)∧Hid (wf=w))
          case first=>
           as_aux_lemma=>
           go_wp2_with fail
           ·
            go_meet
            exact ⟨i+1+1,_,Yy6,rfl,hdd Yy0,hdd (.inl rfl),hw⟩
           ·
            go_meet
            exact ⟨i+1+1,_,Yy6,rfl,hdd Yy0,hdd (.inr rfl),hw⟩
           ·
            go_meet
            exact ⟨i+1,_,Yy6,rfl,hdd Yy0,hdd (.inl rfl),hw⟩
          case rest =>
           clear t1 te
           obtain ⟨j,sg,rfl,rfl,hj,hsg,hw⟩:=hcut
           have j0:0≤(j:Int):=Yy0
           have j1:(j:Int)≤65536:=Yy14
           by_cases bad:s.size≤j
           ·
            have t3:decide (s.size≤j)=true:=dtt bad
            as_aux_lemma=>
            go_wp2_with fail
            simp only [jumps]
            refine bodyPost_ret (results_tmp7 rfl _ _ _) rfl ?_
            exact ⟨.mk _ _ _ _ j _ Yy11 Yy11 Yy0 Yy0 Yy14,hw.out⟩
           ·
            have t3:decide (s.size≤j)=false:=dff bad
            have jI:j<s.size:=Yy0
            by_cases lo:s[j].toNat<48
            ·
             have t4:decide ((s[j].toNat:Int)<48)=true:=dtt Yy0
             as_aux_lemma=>
             go_wp2_with fail
             simp only [jumps]
             refine bodyPost_ret (results_tmp7 rfl _ _ _) rfl ?_
             exact ⟨.mk _ _ _ _ j _ Yy11 Yy11 Yy0 Yy0 Yy14,hw.out⟩
            ·
             have t4:decide ((s[j].toNat:Int)<48)=false:=dff Yy0
             by_cases hi':57<s[j].toNat
             ·
              have t5:decide ((57:Int)<(s[j].toNat:Int))=true:=dtt Yy0
              as_aux_lemma=>
              go_wp2_with fail
              simp only [jumps]
              refine bodyPost_ret (results_tmp7 rfl _ _ _) rfl ?_
              exact ⟨.mk _ _ _ _ j _ Yy11 Yy11 Yy0 Yy0 Yy14,hw.out⟩
             ·
              have t5:decide ((57:Int)<(s[j].toNat:Int))=false:=dff Yy0
              go_upto_block 5 with (fail)
              go_cut [7,9,20] (fun v7 v9 v20 wg=>∃ (j:Nat) (e:Int),v7 = .int .i64 (j:Int)∧v9 = .bool false∧v20 = .int .i64 e∧Hid (j≤s.size)∧Hid (0≤e∧e≤100009)∧Hid (wg=w))
              case first=>
               as_aux_lemma=>
               go_wp2_with fail
               go_loopg [7,9,20] (s.size - j) (fun M v7 v9 v20 wg=>∃ (j:Nat) (e:Int),v7 = .int .i64 (j:Int)∧v9 = .bool false∧v20 = .int .i64 e∧Hid (j+M=s.size)∧Hid (0≤e∧e≤100009)∧Hid (wg=w))
               case atStart=>exact ⟨j,0,rfl,rfl,rfl,hdd Yy14,hdd Yy0,hw⟩
               case round=>
                clear hj
                obtain ⟨j,e,rfl,rfl,rfl,hj,he,hw⟩:=hrel
                have j0:0≤(j:Int):=Yy0
                have j1:(j:Int)≤65536:=Yy14
                have e0:0≤e:=he.out.1
                have e1:e≤100009:=he.out.2
                by_cases hlt:j<s.size
                ·
                 have t1:decide (j<s.size)=true:=dtt hlt
                 have p95:=isN_us (HN.out j hlt)
                 by_cases lo:48≤s[j].toNat
                 ·
                  have t4:decide ((48:Int)≤(s[j].toNat:Int))=true:=dtt Yy0
                  by_cases hi':s[j].toNat≤57
                  ·
                   have t5:decide ((s[j].toNat:Int)≤57)=true:=dtt Yy0
                   have x0:(48:Int)≤(s[j].toNat:Int):=Yy0
                   have x1:(s[j].toNat:Int)≤57:=Yy0
                   by_cases big:e<10000
                   ·
                    have t6:decide (e<10000)=true:=dtt big
                    go_wp2_with fail
                    go_roundg (gk - 1)
                    case measure=>have:=hj.out;omega
                    case rel=>exact ⟨j+1,_,Yy6,rfl,rfl,hdd Yy14,hdd Yy0,hw⟩
                   ·
                    have t6:decide (e<10000)=false:=dff big
                    go_wp2_with fail
                    go_roundg (gk - 1)
                    case measure=>have:=hj.out;omega
                    case rel=>exact ⟨j+1,e,Yy6,rfl,rfl,hdd Yy14,he,hw⟩
                  ·
                   have t5:decide ((s[j].toNat:Int)≤57)=false:=dff Yy0
                   go_wp2_with fail
                   go_meet
                   exact ⟨j,e,rfl,rfl,rfl,hdd Yy0,he,hw⟩
                 ·
                  have t4:decide ((48:Int)≤(s[j].toNat:Int))=false:=dff Yy0
                  go_wp2_with fail
                  go_meet
                  exact ⟨j,e,rfl,rfl,rfl,hdd Yy0,he,hw⟩
                ·
                 have t1:decide (j<s.size)=false:=dff hlt
                 go_wp2_with fail
                 go_meet
                 exact ⟨j,e,rfl,rfl,rfl,hdd Yy14,he,hw⟩
              case rest=>
               clear hj
               obtain ⟨j,e,rfl,rfl,rfl,hj,he,hw⟩:=hcut
               have e0:0≤e:=he.out.1
               have e1:e≤100009:=he.out.2
               have m0:0≤m:=hm.out.1
               rcases hsg.out with h | h
               all_goals
                subst h
                clear hsg
                as_aux_lemma=>
                go_wp2_with fail
                all_goals
                 simp only [jumps]
                 refine bodyPost_ret (results_tmp7 rfl _ _ _) rfl ?_
                 exact ⟨.mk _ _ _ _ j _ Yy11 Yy11 Yy0 Yy0 Yy14,hw.out⟩
        ·
         have te:(bits .or .u8 (s[i].toNat:Int) 32 == 101)=false:=bfo he
         have HE:=hdd he;clear he
         as_aux_lemma=>
         go_wp2_with (go_at_call 138;refine (lower_any _).mono ?_;rintro e w' ⟨rfl,rfl⟩)
         all_goals
          simp only [jumps]
          refine bodyPost_ret (results_tmp7 rfl _ _ _) rfl ?_
          exact ⟨.mk _ _ _ _ i _ Yy11 Yy11 Yy0 Yy0 Yy9,hw.out⟩
       ·
        have t1:decide (i<s.size)=false:=dff hlt
        as_aux_lemma=>
        go_wp2_with fail
        all_goals
         simp only [jumps]
         refine bodyPost_ret (results_tmp7 rfl _ _ _) rfl ?_
         exact ⟨.mk _ _ _ _ i _ Yy11 Yy11 Yy0 Yy0 Yy9,hw.out⟩
structure TS (w:World) (B:Nat):Prop where
 tb:TB w B
 op:w.cell? ⟨4,0,none⟩=some (.bool true)
 fp:∃ lb lo c:Nat,lb<B∧w.cell? ⟨8,0,none⟩=some (.slice (some ⟨lb,lo,none⟩) 23 c)∧∀ i,i<23→∃ f:Nat,w.cell? ⟨lb,lo+i,none⟩=some (.float .f64 f)
 pt:∀ i,i<696→∃ y z:Int,w.cell? ⟨9,i * 2,none⟩=some (.int .u64 y)∧w.cell? ⟨9,i * 2+1,none⟩=some (.int .u64 z)∧0≤y∧y<18446744073709551616∧0≤z∧z<18446744073709551616
 e1:∃ t v,w.cell? ⟨1,0,none⟩=some (.iface t v)
 e2:∃ t v,w.cell? ⟨2,0,none⟩=some (.iface t v)
theorem TS.below {w w':World} {B:Nat} (h:TS w B) (hb:Below B w w'):TS w' B:=by
 have h10:=h.tb.lc.ten
 obtain ⟨lb,lo,c,p1,p2,p3⟩:=h.fp
 obtain ⟨t1,v1,q1⟩:=h.e1
 obtain ⟨t2,v2,q2⟩:=h.e2
 refine ⟨h.tb.below hb,(hb.cell (p:=⟨4,0,none⟩) (by show 4<B;omega)).trans h.op,⟨lb,lo,c,p1,(hb.cell (p:=⟨8,0,none⟩) (by show 8<B;omega)).trans p2,fun i hi=>?_⟩,fun i hi=>?_,⟨t1,v1,(hb.cell (p:=⟨1,0,none⟩) (by show 1<B;omega)).trans q1⟩,⟨t2,v2,(hb.cell (p:=⟨2,0,none⟩) (by show 2<B;omega)).trans q2⟩⟩
 ·
  obtain ⟨f,hf⟩:=p3 i hi
  exact ⟨f,(hb.cell (p:=⟨lb,lo+i,none⟩) p1).trans hf⟩
 ·
  obtain ⟨y,z,a,b,r⟩:=h.pt i hi
  exact ⟨y,z,(hb.cell (p:=⟨9,i * 2,none⟩) (by show 9<B;omega)).trans a,(hb.cell (p:=⟨9,i * 2+1,none⟩) (by show 9<B;omega)).trans b,r⟩
theorem unary_neg_f (k:FloatKind) (b:Nat):Op.unary .neg (.float k b)=pure (.float k (Op.negFloat k b)):=rfl
theorem flt_run (op:BinOp) (h:op = .mul∨op = .quo) (t:TypeId) (x y:Nat) (w:World):∃ r q,(binOp op t (.float .f64 x) (.float .f64 y)).run Tryz.prog w = .ok (.float .f64 r) (w.drewN q):=by
 cases hr:floatBits op .f64 x y with
 | some r=>exact ⟨r,0,run_float_arith w op t .f64 x y r hr⟩
 | none=>
  rcases h with rfl | rfl
  ·
   have hr':FloatKind.f64.format.mul x y=none:=hr
   refine ⟨(Question.nanBits .f64 x y).cut (w.tape w.drawn (Question.nanBits .f64 x y)),1,?_⟩
   simp [binOp,Op.floatArith,hr',Question.forced]
   rfl
  ·
   have hr':FloatKind.f64.format.div x y=none:=hr
   refine ⟨(Question.nanBits .f64 x y).cut (w.tape w.drawn (Question.nanBits .f64 x y)),1,?_⟩
   simp [binOp,Op.floatArith,hr',Question.forced]
   rfl
attribute [local go_sem] unary_neg_f
inductive IsFB:Ending→Prop
 | mk (x:Nat) (r:Bool):IsFB (.returned (.tuple #[.float .f64 x,.bool r]))
theorem exact_any {w:World} {B:Nat} (h:TS w B) (m p:Int) (ng:Bool) (m0:0≤m) (m1:m<18446744073709551616) (p0:-200000≤p) (p1:p≤200000) :
  Calls Tryz.prog 152 #[.int .u64 m,.int .i64 p,.bool ng] w fun e w'=>IsFB e∧∃ q,w'=w.drewN q:=by
 have hu:=Tryz.underlying182
 have c50:=h.tb.mb
 obtain ⟨lb,lo,c,b1,c8,b3⟩:=h.fp
 have H:=hdd h;clear h
 have HB:=hdd b3;clear b3
 obtain ⟨f22,k22⟩:=HB.out 22 Yy0
 cases ng
 ·
  rcases Int.lt_trichotomy p 0 with hp | hp | hp
  ·
   have t0:(p == 0)=false:=bfo Yy0
   have t1:decide (0<p)=false:=dff Yy0
   have t2:decide (p<0)=true:=dtt hp
   by_cases h2:-22≤p
   ·
    have t3:decide (-22≤p)=true:=dtt h2
    obtain ⟨f,hf⟩:=HB.out (-p).toNat Yy0
    have q0:0≤-p:=Yy0
    have q1:-p<23:=Yy0
    obtain ⟨r1,d1,g1⟩:=flt_run .quo (.inr rfl) 32 (floatOfInt .f64 m) f w
    go_enter Tryz.func152,Tryz.ntmps152
    go_wp2_with fail
    all_goals
     go_ret2
     first | exact ⟨.mk _ _,0,rfl⟩ | exact ⟨.mk _ _,_,rfl⟩
   ·
    have t3:decide (-22≤p)=false:=dff h2
    go_enter Tryz.func152,Tryz.ntmps152
    go_wp2_with fail
    all_goals
     go_ret2
     exact ⟨.mk _ _,0,rfl⟩
  ·
   subst hp
   go_enter Tryz.func152,Tryz.ntmps152
   go_wp2_with fail
   all_goals
    go_ret2
    exact ⟨.mk _ _,0,rfl⟩
  ·
   have t0:(p == 0)=false:=bfo Yy0
   have t1:decide (0<p)=true:=dtt Yy0
   have t2:decide (p<0)=false:=dff Yy0
   by_cases h2:p≤37
   ·
    have t3:decide (p≤37)=true:=dtt h2
    by_cases h3:22<p
    ·
     have t4:decide (22<p)=true:=dtt h3
     obtain ⟨f,hf⟩:=HB.out (p - 22).toNat Yy0
     have q0:0≤p - 22:=Yy0
     have q1:p - 22<23:=Yy0
     obtain ⟨r1,d1,g1⟩:=flt_run .mul (.inl rfl) 32 (floatOfInt .f64 m) f w
     obtain ⟨r2,d2,g2⟩:=flt_run .mul (.inl rfl) 32 r1 f22 (w.drewN d1)
     go_enter Tryz.func152,Tryz.ntmps152
     go_wp2_with fail
     all_goals
      go_ret2
      first | exact ⟨.mk _ _,0,rfl⟩ | exact ⟨.mk _ _,_,rfl⟩
    ·
     have t4:decide (22<p)=false:=dff h3
     obtain ⟨f,hf⟩:=HB.out p.toNat Yy0
     have q0:0≤p:=Yy0
     have q1:p<23:=Yy0
     obtain ⟨r1,d1,g1⟩:=flt_run .mul (.inl rfl) 32 (floatOfInt .f64 m) f w
     go_enter Tryz.func152,Tryz.ntmps152
     go_wp2_with fail
     all_goals
      go_ret2
      first | exact ⟨.mk _ _,0,rfl⟩ | exact ⟨.mk _ _,_,rfl⟩
   ·
    have t3:decide (p≤37)=false:=dff h2
    go_enter Tryz.func152,Tryz.ntmps152
    go_wp2_with fail
    all_goals
     go_ret2
     exact ⟨.mk _ _,0,rfl⟩
 ·
  rcases Int.lt_trichotomy p 0 with hp | hp | hp
  ·
   have t0:(p == 0)=false:=bfo Yy0
   have t1:decide (0<p)=false:=dff Yy0
   have t2:decide (p<0)=true:=dtt hp
   by_cases h2:-22≤p
   ·
    have t3:decide (-22≤p)=true:=dtt h2
    obtain ⟨f,hf⟩:=HB.out (-p).toNat Yy0
    have q0:0≤-p:=Yy0
    have q1:-p<23:=Yy0
    obtain ⟨r1,d1,g1⟩:=flt_run .quo (.inr rfl) 32 (Op.negFloat .f64 (floatOfInt .f64 m)) f w
    go_enter Tryz.func152,Tryz.ntmps152
    go_wp2_with fail
    all_goals
     go_ret2
     first | exact ⟨.mk _ _,0,rfl⟩ | exact ⟨.mk _ _,_,rfl⟩
   ·
    have t3:decide (-22≤p)=false:=dff h2
    go_enter Tryz.func152,Tryz.ntmps152
    go_wp2_with fail
    all_goals
     go_ret2
     exact ⟨.mk _ _,0,rfl⟩
  ·
   subst hp
   go_enter Tryz.func152,Tryz.ntmps152
   go_wp2_with fail
   all_goals
    go_ret2
    exact ⟨.mk _ _,0,rfl⟩
  ·
   have t0:(p == 0)=false:=bfo Yy0
   have t1:decide (0<p)=true:=dtt Yy0
   have t2:decide (p<0)=false:=dff Yy0
   by_cases h2:p≤37
   ·
    have t3:decide (p≤37)=true:=dtt h2
    by_cases h3:22<p
    ·
     have t4:decide (22<p)=true:=dtt h3
     obtain ⟨f,hf⟩:=HB.out (p - 22).toNat Yy0
     have q0:0≤p - 22:=Yy0
     have q1:p - 22<23:=Yy0
     obtain ⟨r1,d1,g1⟩:=flt_run .mul (.inl rfl) 32 (Op.negFloat .f64 (floatOfInt .f64 m)) f w
     obtain ⟨r2,d2,g2⟩:=flt_run .mul (.inl rfl) 32 r1 f22 (w.drewN d1)
     go_enter Tryz.func152,Tryz.ntmps152
     go_wp2_with fail
     all_goals
      go_ret2
      first | exact ⟨.mk _ _,0,rfl⟩ | exact ⟨.mk _ _,_,rfl⟩
    ·
     have t4:decide (22<p)=false:=dff h3
     obtain ⟨f,hf⟩:=HB.out p.toNat Yy0
     have q0:0≤p:=Yy0
     have q1:p<23:=Yy0
     obtain ⟨r1,d1,g1⟩:=flt_run .mul (.inl rfl) 32 (Op.negFloat .f64 (floatOfInt .f64 m)) f w
     go_enter Tryz.func152,Tryz.ntmps152
     go_wp2_with fail
     all_goals
      go_ret2
      first | exact ⟨.mk _ _,0,rfl⟩ | exact ⟨.mk _ _,_,rfl⟩
   ·
    have t3:decide (p≤37)=false:=dff h2
    go_enter Tryz.func152,Tryz.ntmps152
    go_wp2_with fail
    all_goals
     go_ret2
     exact ⟨.mk _ _,0,rfl⟩
theorem zero191:Tryz.zeroCells191=dcells (List.replicate 800 0) 0 0 false false:=Yy1
theorem D.fresh (w:World):D (w.alloc (.cells Tryz.zeroCells191 191)) w.heap.size (List.replicate 800 0) 0 0 false false:=
 ⟨by rw [zero191];exact Array.getElem?_push_size,by rw [List.length_replicate]⟩
theorem LC.mono {w:World} {B B':Nat} (h:LC w B) (hB:B≤B'):LC w B':=by
 obtain ⟨h0,lb,lo,c,h1,h2,h3⟩:=h
 exact ⟨Nat.lt_of_lt_of_le h0 hB,lb,lo,c,Nat.lt_of_lt_of_le h1 hB,h2,h3⟩
theorem TB.mono {w:World} {B B':Nat} (h:TB w B) (hB:B≤B'):TB w B':=by
 obtain ⟨h0,h1,h2,h3,lb,lo,c,h4,h5⟩:=h
 exact ⟨h0.mono hB,h1,h2,h3,lb,lo,c,Nat.lt_of_lt_of_le h4 hB,h5⟩
inductive IsAF (n:Nat):Ending→Prop
 | mk (f k:Nat) (er:Value) (hk:k≤n) (he:er = .nilIface∨er = .iface 153 (.int .i64 1)∨er = .iface 153 (.int .i64 2)):IsAF n (.returned (.tuple #[.float .f64 f,.int .i64 (k:Int),er]))
theorem IsFE.one {e:Ending} (h:IsFE e):∃ (x:Nat) (er:Value),e = .returned (.tuple #[.float .f64 x,er])∧(er = .nilIface∨er = .iface 153 (.int .i64 1)):=by
 cases h with
 | good x=>exact ⟨x,_,rfl,.inl rfl⟩
 | bad x=>exact ⟨x,_,rfl,.inr rfl⟩
theorem pf64_at {w:World} {B:Nat} (h:TS w B) (hB:B≤w.heap.size) (x e s:Int) (h0:0≤x) (h1:x<18446744073709551616) (e0:-345≤e) (e1:e≤310) (s0:0≤s) (s1:s<18446744073709551616) :
  Calls Tryz.prog 153 #[.int .u64 x,.int .i64 e,.int .u64 s] w fun en w'=>IsFE en∧Below w.heap.size w w':=by
 obtain ⟨y,z,cy,cz,y0,y1,z0,z1⟩:=h.pt (e+348).toNat Yy0
 have:=h.tb.lc.ten
 exact pf64_any x e s y z (e+348).toNat h0 h1 Yy0 Yy0 s0 s1 cy cz y0 y1 z0 z1 Yy0
theorem at64_any {w:World} {B:Nat} (h:TS w B) (hB:B≤w.heap.size) (s:ByteArray) (hs:s.size≤65536) (hN:NumStr s) :
  Calls Tryz.prog 134 #[.string s] w fun e w'=>IsAF s.size e∧Below w.heap.size w w':=by
 have SP:=special_any (w:=w) s hs hN
 unfold special0 at SP
 have SP':=hdd SP;clear SP
 have RD:=hdd (read_any (w:=w) s hs hN)
 have c4:=h.op
 have HN:=hdd hN;clear hN
 have H:=hdd h;clear h
 have HB:=hdd hB;clear hB
 go_enter Tryz.func134,Tryz.ntmps134
 go_upto_region 5 with (first | (go_at_call 141;refine SP'.out.mono ?_;rintro e w' ⟨rfl,rfl⟩) | (go_at_call 142;refine RD.out.mono ?_;rintro e w' ⟨⟨m,p,ng,tr,k,ok,m0,m1,p0,p1,hk⟩,rfl⟩))
 cases ok with
 | false=>
  as_aux_lemma=>
  go_wp2_with fail
  go_ret3
  exact ⟨.mk _ _ _ hk (.inr (.inr rfl)),Below.refl _ _⟩
 | true =>
  obtain ⟨X,hX⟩:∃ X:Int,(if ng then 1 else 0)=X:=⟨_,rfl⟩
  have BU:=bool2u (w:=w') ng
  rw [hX] at BU
  have BU':=hdd BU;clear BU hX
  go_upto_region 11 with (fail)
  go_cut [16] (fun v16 wc=>∃ S:Int,v16 = .int .u64 S∧Hid (0≤S∧S<18446744073709551616)∧wc=w')
  case first=>
   as_aux_lemma=>
   go_wp2_with (go_at_call 150;refine BU'.out.mono ?_;rintro e w' ⟨rfl,rfl⟩)
   all_goals
    go_meet
    exact ⟨_,rfl,hdd (by first | decide | exact u64_range _ | exact bits_range _ _ _),rfl⟩
  case rest=>
   obtain ⟨S,rfl,hS,rfl⟩:=hcut
   have S0:0≤S:=hS.out.1
   have S1:S<18446744073709551616:=hS.out.2
   have hf:=fun x:Int=>ffb x wc
   by_cases hm:m=0
   ·
    subst hm
    as_aux_lemma=>
    go_wp2_with fail
    go_ret3
    exact ⟨.mk _ _ _ hk (.inl rfl),Below.refl _ _⟩
   ·
    have t0:(m == 0)=false:=bfo hm
    have HM:=hdd hm;clear hm
    by_cases h1:310<p
    ·
     have t1:decide (310<p)=true:=dtt h1
     as_aux_lemma=>
     go_wp2_with fail
     go_ret3
     exact ⟨.mk _ _ _ hk (.inr (.inl rfl)),Below.refl _ _⟩
    ·
     have t1:decide (310<p)=false:=dff h1
     by_cases h2:p < -345
     ·
      have t2:decide (p < -345)=true:=dtt h2
      as_aux_lemma=>
      go_wp2_with fail
      go_ret3
      exact ⟨.mk _ _ _ hk (.inl rfl),Below.refl _ _⟩
     ·
      have t2:decide (p < -345)=false:=dff h2
      have EX:=hdd (exact_any H.out m p ng m0 m1 p0 p1)
      have PF:=hdd (fun q:Nat=>pf64_at (w:=wc.drewN q) (B:=B) (H.out.below (Joins.below_draws B wc q)) HB.out m p S m0 m1 Yy0 Yy0 S0 S1)
      clear hf
      cases tr with
      | false=>
       as_aux_lemma=>
       go_upto_region 20 with (go_at_call 152;refine EX.out.mono ?_;rintro e w' ⟨⟨f,r⟩,q,rfl⟩)
       cases r with
       | true=>
        go_wp2_with fail
        go_ret3
        exact ⟨.mk _ _ _ hk (.inl rfl),Joins.below_draws _ _ _⟩
       | false=>
        go_upto_region 23 with (go_at_call 153;refine (PF.out _).mono ?_;rintro e w2 ⟨hf,hb⟩;obtain ⟨x,er,rfl,her⟩:=hf.one;clear hf;have HBT:=hdd hb;have HER:=hdd her;clear hb her)
        go_wp2_with fail
        go_ret3
        exact ⟨.mk _ _ _ hk (by rcases HER.out with h | h;exact .inl h;exact .inr (.inl h)),(Joins.below_draws _ _ _).trans HBT.out⟩
      | true=>
       go_upto_region 23 with (go_at_call 153;refine (PF.out 0).mono ?_;rintro e w2 ⟨hf,hb⟩;obtain ⟨x,er,rfl,her⟩:=hf.one;clear hf;have HBT:=hdd hb;have HER:=hdd her;clear hb her)
       have T2:=hdd (H.out.below (HBT.out.mono HB.out))
       have HB2:=hdd (Nat.le_trans HB.out HBT.out.size)
       go_upto_region 26 with (go_at_call 153;refine (pf64_at (B:=B) T2.out HB2.out _ p S (u64_range _).1 (u64_range _).2 Yy0 Yy0 S0 S1).mono ?_;rintro e w3 ⟨hf,hb⟩;obtain ⟨x2,er2,rfl,her2⟩:=hf.one;clear hf her2;have HBT2:=hdd hb;clear hb)
       have HB3:=hdd (HBT.out.trans (HBT2.out.mono HBT.out.size))
       go_upto_region 28 with (fail)
       ·
        go_ret3
        exact ⟨.mk _ _ _ hk (by rcases HER.out with h | h;exact .inl h;exact .inr (.inl h)),HB3.out⟩
       ·
        have k0:0≤(k:Int):=Yy0
        have k1:(k:Int)≤(s.size:Int):=Yy0
        have B3:=hdd (Joins.below_alloc1 w3 (Obj.cells Tryz.zeroCells191 191))
        have ST:=hdd (set_any (D.fresh w3) (s.extract 0 k) Yy13 (HN.out.extract 0 k))
        have hz3:=hdd HBT2.out.size
        have T3:=hdd (T2.out.below (HBT2.out.mono HB2.out))
        go_upto_region 29 with (fail)
        go_wp2_with (go_at_call 148;refine ST.out.mono ?_;rintro e w4 ⟨⟨r⟩,⟨a5,n5,d5,g5,r5,hn5,hD5⟩,hb5⟩;have HN5:=hdd hn5;have HD5:=hdd hD5;have HB5:=hdd hb5;clear hn5 hD5 hb5)
        ·
         go_ret3
         exact ⟨.mk _ _ _ hk (.inr (.inr rfl)),HB3.out.trans ((B3.out.trans HB5.out).mono HB3.out.size)⟩
        ·
         have T4:=hdd ((T3.out.tb.mono (Nat.le_trans HB2.out hz3.out)).below (B3.out.trans HB5.out))
         have FB:=hdd (fbits_any HD5.out HN5.out T4.out)
         have hq:=fun (W:World) (x:Int)=>ffb x W
         go_at_call 149
         refine FB.out.mono ?_
         rintro e w5 ⟨⟨x5,r6⟩,hb6⟩
         have HB6:=hdd hb6
         clear hb6
         go_wp2_with fail
         all_goals
          go_ret3
          exact ⟨.mk _ _ _ hk (by first | exact .inl rfl | exact .inr (.inl rfl)),HB3.out.trans (((B3.out.trans HB5.out).trans HB6.out).mono HB3.out.size)⟩
end Go.Proofs.YtieflhncpjjciaaGreatDoor.Dc
namespace Go.Proofs
open Go.Proofs.YtieflhncpjjciaaGreatDoor
open Go.Shelf
def Tryz.laysC245_ren:Go.Shelf.Ren:=⟨fun | 245=>95 | 279=>119 | 280=>120 | 281=>121 | 282=>122 | 316=>135 | 171=>137 | 205=>136 | 243=>154 | 246=>168 | 283=>173 | 284=>174 | 285=>175 | 286=>176 | 129=>110 | 317=>179 | 318=>161 | 319=>180 | 320=>181 | 337=>182 | 338=>183 | n=>n,fun | 9=>9 | 3=>3 | 75=>117 | 167=>153 | 4=>4 | 168=>154 | 210=>169 | 37=>69 | 0=>0 | 127=>199 | 145=>202 | 143=>200 | 2=>2 | 171=>228 | 53=>137 | 5=>5 | 173=>230 | 212=>237 | 51=>140 | 20=>20 | 213=>238 | 46=>132 | 232=>239 | 233=>240 | 80=>241 | n=>n,fun | 15=>1 | 16=>2 | 17=>11 | 18=>12 | 19=>13 | n=>n⟩
theorem Tryz.laysC245:Go.Proofs.LaysC.n245 Tryz.prog Tryz.laysC245_ren:={
 mixed:=Yy1
 f129:=Tryz.func110.trans (congrArg some Yy1)
 f171:=Tryz.func137.trans (congrArg some Yy1)
 f205:=Tryz.func136.trans (congrArg some Yy1)
 f243:=Tryz.func154.trans (congrArg some Yy1)
 f245:=Tryz.func95.trans (congrArg some Yy1)
 f246:=Tryz.func168.trans (congrArg some Yy1)
 f279:=Tryz.func119.trans (congrArg some Yy1)
 f280:=Tryz.func120.trans (congrArg some Yy1)
 f281:=Tryz.func121.trans (congrArg some Yy1)
 f282:=Tryz.func122.trans (congrArg some Yy1)
 f283:=Tryz.func173.trans (congrArg some Yy1)
 f284:=Tryz.func174.trans (congrArg some Yy1)
 f285:=Tryz.func175.trans (congrArg some Yy1)
 f286:=Tryz.func176.trans (congrArg some Yy1)
 f316:=Tryz.func135.trans (congrArg some Yy1)
 f317:=Tryz.func179.trans (congrArg some Yy1)
 f318:=Tryz.func161.trans (congrArg some Yy1)
 f319:=Tryz.func180.trans (congrArg some Yy1)
 f320:=Tryz.func181.trans (congrArg some Yy1)
 f337:=Tryz.func182.trans (congrArg some Yy1)
 f338:=Tryz.func183.trans (congrArg some Yy1)
 t0:=Tryz.underlying0
 a0:=Tryz.isAgg0
 z0:=Tryz.sizeOf0
 v0:=Tryz.zeroValue0
 t2:=Tryz.underlying2
 a2:=Tryz.isAgg2
 z2:=Tryz.sizeOf2
 v2:=Tryz.zeroValue2
 t3:=Tryz.underlying3
 a3:=Tryz.isAgg3
 z3:=Tryz.sizeOf3
 v3:=Tryz.zeroValue3
 t4:=Tryz.underlying4
 a4:=Tryz.isAgg4
 z4:=Tryz.sizeOf4
 v4:=Tryz.zeroValue4
 t5:=Tryz.underlying5
 a5:=Tryz.isAgg5
 z5:=Tryz.sizeOf5
 v5:=Tryz.zeroValue5
 t9:=Tryz.underlying9
 a9:=Tryz.isAgg9
 z9:=Tryz.sizeOf9
 v9:=Tryz.zeroValue9
 t20:=Tryz.underlying20
 a20:=Tryz.isAgg20
 z20:=Tryz.sizeOf20
 v20:=Tryz.zeroValue20
 t37:=Tryz.underlying69
 a37:=Tryz.isAgg69
 z37:=Tryz.sizeOf69
 v37:=Tryz.zeroValue69
 t46:=Tryz.underlying132
 a46:=Tryz.isAgg132
 z46:=Tryz.sizeOf132
 v46:=Tryz.zeroValue132
 t51:=Tryz.underlying140
 a51:=Tryz.isAgg140
 z51:=Tryz.sizeOf140
 v51:=Tryz.zeroValue140
 t53:=Tryz.underlying137
 a53:=Tryz.isAgg137
 z53:=Tryz.sizeOf137
 v53:=Tryz.zeroValue137
 t75:=Tryz.underlying117
 a75:=Tryz.isAgg117
 z75:=Tryz.sizeOf117
 v75:=Tryz.zeroValue117
 t127:=Tryz.underlying199
 a127:=Tryz.isAgg199
 z127:=Tryz.sizeOf199
 v127:=Tryz.zeroValue199
 t143:=Tryz.underlying200
 a143:=Tryz.isAgg200
 z143:=Tryz.sizeOf200
 v143:=Tryz.zeroValue200
 t145:=Tryz.underlying202
 a145:=Tryz.isAgg202
 z145:=Tryz.sizeOf202
 v145:=Tryz.zeroValue202
 t167:=Tryz.underlying153
 a167:=Tryz.isAgg153
 z167:=Tryz.sizeOf153
 v167:=Tryz.zeroValue153
 t168:=Tryz.underlying154
 a168:=Tryz.isAgg154
 z168:=Tryz.sizeOf154
 v168:=Tryz.zeroValue154
 t171:=Tryz.underlying228
 a171:=Tryz.isAgg228
 z171:=Tryz.sizeOf228
 v171:=Tryz.zeroValue228
 t173:=Tryz.underlying230
 a173:=Tryz.isAgg230
 z173:=Tryz.sizeOf230
 v173:=Tryz.zeroValue230
 t210:=Tryz.underlying169
 a210:=Tryz.isAgg169
 z210:=Tryz.sizeOf169
 v210:=Tryz.zeroValue169
 t212:=Tryz.underlying237
 a212:=Tryz.isAgg237
 z212:=Tryz.sizeOf237
 v212:=Tryz.zeroValue237
 t213:=Tryz.underlying238
 a213:=Tryz.isAgg238
 z213:=Tryz.sizeOf238
 t232:=Tryz.underlying239
 a232:=Tryz.isAgg239
 z232:=Tryz.sizeOf239
 v232:=Tryz.zeroValue239
 t233:=Tryz.underlying240
 a233:=Tryz.isAgg240
 z233:=Tryz.sizeOf240
 v233:=Tryz.zeroValue240
 g15:=Yy1
 g16:=Yy1
 g17:=Yy1
 g18:=Yy1
 g19:=Yy1
 t80:=Tryz.underlying241
 a80:=Tryz.isAgg241
 z80:=Tryz.sizeOf241
 v80:=Tryz.zeroValue241
 i0:=Yy1
 i2:=Yy1
 i3:=Yy1
 i4:=Yy1
 i5:=Yy1
 i9:=Yy1
 i20:=Yy1
 i37:=Yy1
 i46:=Yy1
 i51:=Yy1
 i53:=Yy1
 i75:=Yy1
 i80:=Yy1
 i127:=Yy1
 i143:=Yy1
 i145:=Yy1
 i167:=Yy1
 i168:=Yy1
 i171:=Yy1
 i173:=Yy1
 i210:=Yy1
 i212:=Yy1
 i232:=Yy1
 i233:=Yy1
 m15:=Yy1
 m16:=Yy1
 m17:=Yy1
 m18:=Yy1
 m19:=Yy1
 c0:=Yy1
 c2:=Yy1
 c3:=Yy1
 c4:=Yy1
 c5:=Yy1
 c9:=Yy1
 c20:=Yy1
 c37:=Yy1
 c46:=Yy1
 c51:=Yy1
 c53:=Yy1
 c75:=Yy1
 c80:=Yy1
 c127:=Yy1
 c143:=Yy1
 c145:=Yy1
 c167:=Yy1
 c168:=Yy1
 c171:=Yy1
 c173:=Yy1
 c210:=Yy1
 c212:=Yy1
 c213:=Yy1
 c232:=Yy1
 c233:=by kernel_rfl }
open Go.RowKit in
theorem Tryz.strconv_toError_syntax (fn s:ByteArray) (base bits:Int) (ev:Value) (w:World) (hlim:s.size≤281474976710656) (hv:w.cell? ⟨1,0,none⟩=some ev) (hev:ev = .nilIface∨∃ te pe,ev = .iface te pe) :
  Calls Tryz.prog 95 #[.string fn,.string s,.int .i64 base,.int .i64 bits,.iface 153 (.int .i64 2)] w fun e w'=>∃ N,e = .returned (.iface 154 (.pointer (some ⟨N,0,none⟩)))∧w.heap.size≤N∧w'.heap[N]? = some (.cells #[.string fn,.string s,ev] 169 (0,0))∧Below w.heap.size w w':=Any.strconv_toError_syntax Tryz.laysC245 fn s base bits ev w hlim hv hev
open Go.RowKit in
theorem Tryz.strconv_toError_range (fn s:ByteArray) (base bits:Int) (ev:Value) (w:World) (hlim:s.size≤281474976710656) (hv:w.cell? ⟨2,0,none⟩=some ev) (hev:ev = .nilIface∨∃ te pe,ev = .iface te pe) :
  Calls Tryz.prog 95 #[.string fn,.string s,.int .i64 base,.int .i64 bits,.iface 153 (.int .i64 1)] w fun e w'=>∃ N,e = .returned (.iface 154 (.pointer (some ⟨N,0,none⟩)))∧w.heap.size≤N∧w'.heap[N]? = some (.cells #[.string fn,.string s,ev] 169 (0,0))∧Below w.heap.size w w':=Any.strconv_toError_range Tryz.laysC245 fn s base bits ev w hlim hv hev
end Go.Proofs
namespace Go.Proofs.YtieflhncpjjciaaGreatDoor.Dc
open Go Go.RowKit
theorem pfp_any {w:World} {B:Nat} (h:TS w B) (hB:B≤w.heap.size) (s:ByteArray) (hs:s.size≤65536) (hN:NumStr s) :
  Calls Tryz.prog 118 #[.string s,.int .i64 64] w fun e w'=>IsAF s.size e∧Below w.heap.size w w':=by
 have A:=hdd (at64_any h hB s hs hN)
 have HN:=hdd hN;clear hN
 have H:=hdd h;clear h
 go_enter Tryz.func118,Tryz.ntmps118
 go_wp2_with (go_at_call 134;refine A.out.mono ?_;rintro e w' ⟨⟨f,k,er,hk,he⟩,hb⟩;have HE:=hdd he;have HB:=hdd hb;clear he hb)
 go_ret3
 exact ⟨.mk _ _ _ hk HE.out,HB.out⟩
inductive IsPF:Ending→Prop
 | mk (f:Nat) (er:Value) (he:er = .nilIface∨er = .iface 153 (.int .i64 1)∨er = .iface 153 (.int .i64 2)):IsPF (.returned (.tuple #[.float .f64 f,er]))
theorem ipf_any {w:World} {B:Nat} (h:TS w B) (hB:B≤w.heap.size) (s:ByteArray) (hs:s.size≤65536) (hN:NumStr s) :
  Calls Tryz.prog 94 #[.string s,.int .i64 64] w fun e w'=>IsPF e∧Below w.heap.size w w':=by
 have A:=hdd (pfp_any h hB s hs hN)
 have HN:=hdd hN;clear hN
 have H:=hdd h;clear h
 go_enter Tryz.func94,Tryz.ntmps94
 go_wp2_with (go_at_call 118;refine A.out.mono ?_;rintro e w' ⟨⟨f,k,er,hk,he⟩,hb⟩;have HE:=hdd he;have HB:=hdd hb;clear he hb)
 ·
  go_ret2
  exact ⟨.mk _ _ (.inr (.inr rfl)),HB.out⟩
 ·
  go_ret2
  exact ⟨.mk _ _ HE.out,HB.out⟩
inductive IsF2:Ending→Prop
 | mk (f:Nat) (er:Value):IsF2 (.returned (.tuple #[.float .f64 f,er]))
theorem parsefloat_any {w:World} {B:Nat} (h:TS w B) (hB:B≤w.heap.size) (s:ByteArray) (hs:s.size≤65536) (hN:NumStr s) :
  Calls Tryz.prog 80 #[.string s,.int .i64 64] w fun e w'=>IsF2 e∧Below w.heap.size w w':=by
 have A:=hdd (ipf_any h hB s hs hN)
 have HN:=hdd hN;clear hN
 have H:=hdd h;clear h
 have HB0:=hdd hB;clear hB
 go_enter Tryz.func80,Tryz.ntmps80
 go_upto_region 2 with (go_at_call 94;refine A.out.mono ?_;rintro e w' ⟨⟨f,er,he⟩,hb⟩;have HE:=hdd he;have HB:=hdd hb;clear he hb)
 rcases HE.out with h | h | h
 ·
  subst h
  go_wp2_with fail
  go_ret2
  exact ⟨.mk _ _,HB.out⟩
 ·
  subst h
  obtain ⟨t,v,hv⟩:=(H.out.below (HB.out.mono HB0.out)).e2
  have TE:=hdd (Tryz.strconv_toError_range ⟨#[80,97,114,115,101,70,108,111,97,116]⟩ s 0 64 (.iface t v) w' Yy0 hv (.inr ⟨t,v,rfl⟩))
  go_wp2_with (go_at_call 95;refine TE.out.mono ?_;rintro e w2 ⟨N,rfl,-,-,hb⟩;have HB2:=hdd hb;clear hb)
  go_ret2
  exact ⟨.mk _ _,HB.out.trans (HB2.out.mono HB.out.size)⟩
 ·
  subst h
  obtain ⟨t,v,hv⟩:=(H.out.below (HB.out.mono HB0.out)).e1
  have TE:=hdd (Tryz.strconv_toError_syntax ⟨#[80,97,114,115,101,70,108,111,97,116]⟩ s 0 64 (.iface t v) w' Yy0 hv (.inr ⟨t,v,rfl⟩))
  go_wp2_with (go_at_call 95;refine TE.out.mono ?_;rintro e w2 ⟨N,rfl,-,-,hb⟩;have HB2:=hdd hb;clear hb)
  go_ret2
  exact ⟨.mk _ _,HB.out.trans (HB2.out.mono HB.out.size)⟩
end Go.Proofs.YtieflhncpjjciaaGreatDoor.Dc
