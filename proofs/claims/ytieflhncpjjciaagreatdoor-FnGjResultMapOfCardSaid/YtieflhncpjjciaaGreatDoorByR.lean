/- Walks and plain laws of this claim. -/
import Derived.Test.YtieflhncpjjciaaGreatDoorByQ
import Derived.Sort.KeysCollected
import Derived.Sort.OwnSorted
import Derived.Maps.AppendAt
import Derived.Test.YtieflhncpjjciaaGreatDoorByA
set_option maxHeartbeats 8000000
set_option maxRecDepth 100000
set_option linter.unusedVariables false
set_option linter.unusedSimpArgs false
namespace Go.Proofs.YtieflhncpjjciaaGreatDoor.Dc
open Go Go.RowKit Go.Maps Go.Sort Go.Proofs.YtieflhncpjjciaaGreatDoorW.PrintWords Go.Proofs.YtieflhncpjjciaaGreatDoor.PFnGjSquashItems
open Go.Proofs (encStr)
theorem inf9:(Tryz.prog.info? 9).map (fun i=>(i.zero,i.size,i.bytes))=some (some (.string ⟨#[]⟩),1,16):=Yy1
theorem inf34:(Tryz.prog.info? 34).map (fun i=>(i.zero,i.size,i.bytes))=some (some (.agg #[.int .i64 0,.string ⟨#[]⟩,.string ⟨#[]⟩,.float .f64 0,.bool false]),5,56):=Yy1
theorem ownsRow_base {w:World} {b b':Nat} {e:TypeId} {size:Nat} {v:Value} {n:Nat} {xs:List Value} (h:w.ownsRow b e size v n xs) (hb:b'≤b):w.ownsRow b' e size v n xs:=
 ⟨h.1,h.2.imp id (fun ⟨g,cap,cur,h1,h2,h3⟩=>⟨g,cap,cur,h1,Nat.le_trans hb h2,h3⟩)⟩
theorem grow_below {w w':World} {B:Nat} {row:Option Nat} (hg:w.grownBy w' row) (h:∀ j,row=some j→B≤j) (hb:B≤w.heap.size):Below B w w':=
 ⟨hg.os,hg.tape,hg.output,hg.size,fun i hi=>hg.block i Yy0 (fun e=>by have:=h i e.symm;omega)⟩
def NmOK (nm:ItT→ByteArray) (l:List ItT) (ts:List (List UInt8)):Prop:=ts.length=l.length∧ts.Pairwise (fun x y=>x<y)∧∀ x∈ts,∃ (j:Nat) (t:ItT),l[j]? = some t∧(nm t).data.toList=x
def GmPost (u:ByteArray) (nm:ItT→ByteArray) (l:List ItT) (w:World) (en:Ending) (w':World):Prop:=
 ∃ (ts:List (List UInt8)) (rs:List RV) (v5 v7:Value),en = .returned (.tuple #[v5,v7])∧NmOK nm l ts∧rs.length=ts.length∧(∀ (i:Nat) (x:List UInt8) (r:RV),ts[i]? = some x→rs[i]? = some r→∃ (j:Nat) (t:ItT),l[j]? = some t∧(nm t).data.toList=x∧ValOK u t r) ∧
  w'.ownsRow w.heap.size 9 1 v5 ts.length (ts.map encStr)∧w'.ownsRow w.heap.size 34 5 v7 rs.length (rs.flatMap RV.cells)∧Below w.heap.size w w'
theorem has_range {u:ByteArray} {nm:ItT→ByteArray} {l:List ItT} {D:DataW Unit} (h:MapHas u nm l l.length D) {x:List UInt8} (hx:Maps.has D (.string x)=true):∃ (j:Nat) (t:ItT),l[j]? = some t∧(nm t).data.toList=x:=by
 obtain ⟨j,t,_,h2,h3⟩:=(h.has x).mp hx
 exact ⟨j,t,h2,h3⟩
theorem lt_of_leB {x y:List UInt8} (h:leB x y=true) (hne:x≠y):x<y:=by
 have h1:x≤y:=of_decide_eq_true h
 rcases List.le_iff_lt_or_eq.mp h1 with h2 | h2
 ·
  exact h2
 ·
  exact absurd h2 hne
theorem nm_sorted {u:ByteArray} {nm:ItT→ByteArray} {l:List ItT} {D:DataW Unit} (hH:MapHas u nm l l.length D) (ha:Apart nm l) {left:Lit→Bool} {ss:List (List UInt8)} (hC:Collected D left ss) (hl:∀ kl,left kl=false):NmOK nm l (ss.mergeSort leB):=by
 have hp:=List.mergeSort_perm ss leB
 have hnd:(ss.mergeSort leB).Nodup:=hp.nodup_iff.mpr hC.1
 have hmem:∀ x,x∈ss↔Maps.has D (.string x)=true:=fun x=>by rw [hC.2 x,hl];simp
 have tr:∀ a b c:List UInt8,leB a b=true→leB b c=true→leB a c=true:=fun a b c h1 h2=>by simp only [leB,decide_eq_true_eq] at *;exact List.le_trans h1 h2
 have tot:∀ a b:List UInt8,(leB a b || leB b a)=true:=fun a b=>by simp only [leB,Bool.or_eq_true,decide_eq_true_eq];exact List.le_total a b
 refine ⟨?_,?_,fun x hx=>has_range hH ((hmem x).mp (hp.mem_iff.mp hx))⟩
 ·
  rw [hp.length_eq]
  have hn2:(l.map fun t=>(nm t).data.toList).Nodup:=by
   unfold List.Nodup
   rw [List.pairwise_map,List.pairwise_iff_getElem]
   intro i j hi hj hij e
   exact ha i j _ _ hij (List.getElem?_eq_getElem hi) (List.getElem?_eq_getElem hj) (ba_list e)
  have:ss.Perm (l.map fun t=>(nm t).data.toList):=(List.perm_ext_iff_of_nodup hC.1 hn2).mpr (fun x=>by
   rw [hmem,hH.has,List.mem_map]
   constructor
   ·
    rintro ⟨j,t,_,h2,h3⟩;exact ⟨t,List.mem_of_getElem? h2,h3⟩
   ·
    rintro ⟨t,h2,h3⟩
    obtain ⟨j,hj⟩:=List.mem_iff_getElem?.mp h2
    exact ⟨j,t,(List.getElem?_eq_some_iff.mp hj).1,hj,h3⟩)
  rw [this.length_eq,List.length_map]
 ·
  have hs:=List.pairwise_mergeSort tr tot ss
  exact (List.pairwise_and_iff.mpr ⟨hs,hnd⟩).imp (fun {a b} ⟨h1,h2⟩=>lt_of_leB h1 h2)
theorem own_shape {w:World} {base e size n:Nat} {v:Value} {xs:List Value} (h:w.ownsRow base e size v n xs):∃ A c,v = .slice A n c∧n≤c∧(0<n→∃ g,A=some ⟨g,0,none⟩):=by
 rcases h.2 with ⟨h1,rfl⟩ | ⟨g,cap,cur,h1,_,_,h3,_⟩
 ·
  exact ⟨none,0,h1,nlr _,fun h=>absurd h Yy0⟩
 ·
  exact ⟨_,cap,h1,h3,fun _=>⟨g,rfl⟩⟩
theorem look_rv {w:World} {M n:Nat} {D:DataW Unit} (h:w.ownsMap Tryz.prog 9 rvR M n D) {x:List UInt8} (hx:x.length≤maxLen) {r:RV} (hat:∀ z,D.atKey (.string x) z=rvD r):(Instr.lookup 75 (.map (some M)) (encStr x) false).run Tryz.prog w = .ok r.val w:=by
 have hk:keyOf Tryz.prog 9 (encStr x)=some (.string x):=by
  have:=key9 (s:=⟨x.toArray⟩) (by show x.toArray.size≤maxLen;simpa using hx)
  simpa using this
 obtain ⟨v,ps,hrun,hv⟩:=h.lookup law9 Tryz.underlying75 (zero61 w) (rvR_val RV.z) hk
 obtain ⟨r',rfl,hy⟩:=rvR_inv hv
 have:=congrArg Prod.fst hy
 rw [hat] at this
 rw [hrun,rvD_inj this]
theorem gm_any {w:World} {b0:Nat} (h:TS w b0) (hBB:b0≤w.heap.size) (u:ByteArray) (hs:u.size≤65536) (h0:bt u 0=123) (nm:ItT→ByteArray) (l:List ItT) (hT:Tkn u 1 (toks l)) (hnm:∀ t∈l,∀ str,KStr (u.extract (t.ni+1) (t.nj - 1)) str→str=nm t) (hnz:∀ t∈l,(nm t).size≤262144) (ha:Apart nm l) (hl:l.length≤65536) :
  Calls Tryz.prog 18 #[.agg #[.int .i64 5,.string u,.string ⟨#[]⟩,.float .f64 0,.bool true]] w (GmPost u nm l w):=by
 have MC:Hid (∀ w':World,TS w' b0→b0≤w'.heap.size→Calls Tryz.prog 42 #[.agg #[.int .i64 5,.string u,.string ⟨#[]⟩,.float .f64 0,.int .i64 0,.slice none 0 0]] w' fun e w''=>∃ M,e = .returned (.map (some M))∧(∃ D,w''.ownsMap Tryz.prog 9 rvR M l.length D∧MapHas u nm l l.length D)∧Below w'.heap.size w' w''∧w'.heap.size≤M):=hdd (fun w' h1 h2=>aom_map h1 h2 u hs h0 nm l hT hnm hnz ha hl)
 have HM:=hdd h;have HBB:=hdd hBB;have HA:=hdd ha;have HL:=hdd hl;have HNZ:=hdd hnz
 clear h hBB hs h0 hT hnm hnz ha hl
 obtain ⟨i0,hi,hz0,hz1,hz2⟩:=info_parts inf9
 have HI:=hdd hi;have HZ0:=hdd hz0;have HZ1:=hdd hz1;have HZ2:=hdd hz2
 clear hi hz0 hz1 hz2
 obtain ⟨i3,hi,hz0,hz1,hz2⟩:=info_parts inf34
 have JI:=hdd hi;have JZ0:=hdd hz0;have JZ1:=hdd hz1;have JZ2:=hdd hz2
 clear hi hz0 hz1 hz2
 obtain ⟨B,hB⟩:∃ B,w.heap.size=B:=⟨_,rfl⟩
 go_enter Tryz.func18,Tryz.ntmps18
 go_upto_region 1 with (fail)
 obtain ⟨w1,hw1⟩:∃ w1,w.alloc (Obj.cells #[.int .i64 5,.string u,.string ⟨#[]⟩,.float .f64 0,.bool true] 34)=w1:=⟨_,rfl⟩
 have b1:Below B w w1:=by rw [← hw1];exact (Below.refl _ w).alloc Yy0 _
 have s1:w1.heap.size=B+1:=Yy18
 have r0:w1.rangeAt B 0 [.int .i64 5,.string u,.string ⟨#[]⟩,.float .f64 0,.bool true]:=by rw [← hw1,← hB];exact rng_new w [.int .i64 5,.string u,.string ⟨#[]⟩,.float .f64 0,.bool true] 34
 rw [hw1]
 clear hw1
 have c0:w1.cell? ⟨B,0,none⟩=some (.int .i64 5):=r0 0 _ rfl
 have c1:w1.cell? ⟨B,1,none⟩=some (.string u):=r0 1 _ rfl
 have c2:w1.cell? ⟨B,2,none⟩=some (.string ⟨#[]⟩):=r0 2 _ rfl
 have c3:w1.cell? ⟨B,3,none⟩=some (.float .f64 0):=r0 3 _ rfl
 have c4:w1.cell? ⟨B,4,none⟩=some (.bool true):=r0 4 _ rfl
 have B1:=hdd b1;have S1:=hdd s1
 clear r0 b1 s1
 go_upto_region 3 with (first | (go_at_call 41;refine (gjof_any _ _ _ _ _).mono ?_;rintro en w2 ⟨rfl,hb2⟩;have B2:Hid (Below B w w2):=hdd (B1.out.trans (hb2.mono (by have:=S1.out;omega)));have CT:=hdd (MC.out w2 (HM.out.below (B2.out.mono (by have:=HBB.out;omega))) (by have:=B2.out.size;have:=HBB.out;omega));clear hb2) | (go_at_call 42;(with_reducible refine CT.out.mono ?_);rintro en w3 ⟨M,rfl,⟨D,hD,hH⟩,hb3,hM⟩;have B3:Hid (Below B w w3):=hdd (B2.out.trans (hb3.mono (by have:=B2.out.size;omega)));have HD:=hdd hD;have HH:=hdd hH;have HMM:Hid (B≤M):=hdd (by have:=B2.out.size;omega);clear hD hH hb3 hM))
 clear c0 c1 c2 c3 c4 S1 B1 CT B2
 obtain ⟨R,hR⟩:∃ R,w3.heap.size=R:=⟨_,rfl⟩
 have MR:Hid (M<R):=hdd (by have:=HD.out.lt;omega)
 have BR:Hid (B≤R):=hdd (by have:=B3.out.size;omega)
 have DZ:Hid (Maps.size D≤65536):=hdd (Nat.le_trans HD.out.size_le HL.out)
 go_upto_block 0 with (at_range;refine wpList_range_own _ rfl _ 75 rfl 9 61 law9 Tryz.underlying75 rvR M l.length D rfl HD.out ?_;intro w4 hrg4 hg4 hs4;have RG:=hdd hrg4;have G4:=hdd hg4;have S4:=hdd hs4;clear hrg4 hg4 hs4;go_frame)
 rw [hR] at RG S4 ⊢
 have B4:Hid (Below B w w4):=hdd (B3.out.trans (grow_below G4.out (fun j hj=>by cases hj) Yy43))
 clear G4 hR
 go_wp2_with fail
 go_loopg [5] (Maps.size D) (fun m v5 wr=>∃ (left:Lit→Bool) (ss:List (List UInt8)),Hid (wr.ranges Tryz.prog 9 rvR M R l.length D left m)∧Hid (ss.length+m≤Maps.size D)∧Hid (wr.ownsRow (R+1) 9 1 v5 ss.length (ss.map encStr))∧Hid (Collected D left ss)∧Hid (Below B w wr)∧Hid (R+1≤wr.heap.size))
 case atStart=>exact ⟨_,[],RG,hdd Yy4,hdd (World.ownsRow_nil _ _ _ _),hdd (Collected.start D),B4,hdd (by have:=S4.out;omega)⟩
 case round=>
  clear RG S4 B4
  obtain ⟨left,ss,hrg,hcs,hrow,hC,hnx,hsz⟩:=hrel
  go_wp2_with (at_next;refine wpList_next_ranges _ rfl _ rfl 9 law9 rvR encStr RV.val (fun key kl hk=>by obtain ⟨x,hx,_⟩:=Maps.keyOf_str Tryz.underlying9 hk;exact ⟨x,hx⟩) (fun v y hv=>by obtain ⟨c,h,_⟩:=rvR_inv hv;exact ⟨c,h⟩) M R l.length _ _ _ rfl hrg.out ?_ ?_)
  ·
   intro hc0 hl0
   have NK:=hdd (nm_sorted HH.out HA.out hC.out hl0)
   have HOM:=hdd hrg.out.owns
   have ssz:ss.length≤65536:=by have:=hcs.out;have:=DZ.out;omega
   have LE:=hdd (List.length_mergeSort (le:=leB) ss)
   clear hc0 hl0 hrg hcs hC
   go_upto_region 7 with (fail)
   go_cut [5] (fun v5 wc=>Hid (wc.ownsRow (R+1) 9 1 v5 (ss.mergeSort leB).length ((ss.mergeSort leB).map encStr))∧Hid (wc.ownsMap Tryz.prog 9 rvR M l.length D)∧Hid (Below B w wc)∧Hid (R+1≤wc.heap.size))
   case first=>
    as_aux_lemma=>
    rcases hrow.out.2 with ⟨rfl,hnil⟩ | ⟨g,cap,cur,rfl,hbase,hb,h1,h2,h3,h4⟩
    ·
     have hss:ss = []:=List.eq_nil_of_length_eq_zero hnil
     subst hss
     go_wp2_with (go_at_call 43;refine sorts_nil.mono ?_;rintro en w7 ⟨rfl,rfl⟩)
     go_meet
     exact ⟨hdd (by rw [List.mergeSort_nil];exact hrow.out),HOM,hnx,hsz⟩
    ·
     have hH:Holds encStr wr g 0 ss.toArray:=holds_of_block hb (by simpa using h4)
     have hgl:g<wr.heap.size:=(Array.getElem?_eq_some_iff.1 hb).1
     have SC:=hdd (Tryz.sort_Strings g 0 cap ss wr hH hgl Yy0)
     have HBS:=hdd hbase;have HB2:=hdd hb;have H1:=hdd h1;have H2:=hdd h2;have H3:=hdd h3
     clear hH hgl hb h1 h2 h3 h4 hbase
     go_wp2_with (go_at_call 43;(with_reducible refine SC.out.mono ?_);rintro en w7 ⟨rfl,nn,os,hw7⟩;have OS:Hid (w7.ownsRow (R+1) 9 1 (.slice (some ⟨g,0,none⟩) (ss.mergeSort leB).length cap) (ss.mergeSort leB).length ((ss.mergeSort leB).map encStr)):=hdd (by rw [hw7,LE.out];exact ownsRow_sorted Yy4 HBS.out HB2.out H1.out H2.out H3.out);have GS:Hid (wr.grownBy w7 (some g)):=hdd (by rw [hw7];exact grownBy_sorted _);clear hw7)
     go_meet
     exact ⟨by rw [← LE.out];exact OS,hdd (HOM.out.kept GS.out (by have:=HBS.out;have:=MR.out;simp;omega)),hdd (hnx.out.trans (grow_below GS.out (fun j hj=>by injection hj with hj;have:=HBS.out;have:=BR.out;omega) (by have:=BR.out;have:=hsz.out;omega))),hdd (by have:=GS.out.size;have:=hsz.out;omega)⟩
   case rest=>
    obtain ⟨ROW,HOM2,BC,SZC⟩:=hcut
    clear hrow HOM hnx hsz LE ssz
    obtain ⟨ts,hts⟩:∃ ts,ss.mergeSort leB=ts:=⟨_,rfl⟩
    rw [hts] at ROW NK
    clear hts
    obtain ⟨n,hn⟩:∃ n,ts.length=n:=⟨_,rfl⟩
    have n65:(n:Int)≤65536:=by have:=NK.out.1;have:=HL.out;omega
    have HN:=hdd hn
    rw [hn] at ROW
    clear hn
    obtain ⟨A5,c5,rfl,hc5,hg5⟩:=own_shape ROW.out
    have HG5:=hdd hg5
    clear hg5
    go_upto_block 2 with (fail)
    go_wp2_with fail
    go_loopg [27,7] n (fun m v27 v7 wr=>∃ (k:Nat) (rs:List RV),v27 = .int .i64 (k:Int)∧Hid (k+m=n)∧Hid (rs.length=k)∧Hid (wr.ownsRow (R+1) 34 5 v7 k (rs.flatMap RV.cells))∧Hid (wr.ownsRow (R+1) 9 1 (.slice A5 n c5) n (ts.map encStr))∧Hid (v7.ownBlock=none∨v7.ownBlock≠(Value.slice A5 n c5).ownBlock)∧Hid (wr.ownsMap Tryz.prog 9 rvR M l.length D)∧Hid (Below B w wr)∧Hid (R+1≤wr.heap.size)∧Hid (∀ (i:Nat) (x:List UInt8) (r:RV),ts[i]? = some x→rs[i]? = some r→∃ (j:Nat) (t:ItT),l[j]? = some t∧(nm t).data.toList=x∧ValOK u t r))
    case atStart=>exact ⟨0,[],rfl,hdd Yy0,hdd rfl,hdd (World.ownsRow_nil _ _ _ _),ROW,hdd (.inl rfl),HOM2,BC,SZC,hdd (fun i x r _ h=>Yy10)⟩
    case round=>
     clear ROW HOM2 BC SZC
     obtain ⟨k,rs,rfl,hkm,hrs,O7,ROW,NE,HOM,BC,SZC,AL⟩:=hrel
     have hkn:k≤n:=Yy53
     rcases eol hkn with h | h
     ·
      have t5:decide (k<n)=false:=dff Yy0
      have HK:=hdd h
      clear h hkn
      go_wp2_with fail
      go_ret2
      have e1:=HN.out
      have e2:=hrs.out
      have e3:=HK.out
      refine ⟨ts,rs,_,_,rfl,NK.out,Yy0,AL.out,?_,?_,by rw [hB];exact BC.out⟩
      ·
       rw [e1,hB];exact ownsRow_base ROW.out Yy43
      ·
       rw [e2,hB];exact ownsRow_base O7.out Yy43
     ·
      as_aux_lemma=>
      have t5:decide (k<n)=true:=dtt h
      obtain ⟨x,hx⟩:∃ x,ts[k]? = some x:=⟨_,List.getElem?_eq_getElem (by have:=HN.out;omega)⟩
      obtain ⟨j,t,hj,hnt⟩:=NK.out.2.2 x (List.mem_of_getElem? hx)
      obtain ⟨⟨rk,rraw,rstr,rq,rix⟩,hvo,hat⟩:=HH.out.atk j t (List.getElem?_eq_some_iff.mp hj).1 hj
      rw [hnt] at hat
      have hxz:x.length≤maxLen:=by
       have h9:=HNZ.out t (List.mem_of_getElem? hj)
       have:(nm t).data.toList.length=(nm t).size:=Yy4
       rw [hnt] at this
       unfold maxLen
       omega
      have hlook:(Instr.lookup 75 (.map (some M)) (.string ⟨x.toArray⟩) false).run Tryz.prog wr = .ok (.agg #[.int .i64 rk,.string rraw,.string rstr,.float .f64 rq,.int .i64 rix,.slice none 0 0]) wr:=look_rv HOM.out hxz hat
      obtain ⟨g5,rfl⟩:=HG5.out Yy0
      have cx:wr.cell? ⟨g5,k,none⟩=some (.string ⟨x.toArray⟩):=by
       rw [ROW.out.cellAt k Yy0,List.getElem?_map,hx]
       rfl
      have AL2:Hid (∀ (i:Nat) (y:List UInt8) (r:RV),ts[i]? = some y→(rs ++ [⟨rk,rraw,rstr,rq,rix⟩])[i]? = some r→∃ (j:Nat) (t:ItT),l[j]? = some t∧(nm t).data.toList=y∧ValOK u t r):=hdd (fun i y r h1 h2=>by
       rcases Nat.lt_or_ge i rs.length with e | e
       ·
        rw [List.getElem?_append_left e] at h2
        exact AL.out i y r h1 h2
       ·
        have e9:=hrs.out
        rw [List.getElem?_append_right e] at h2
        have e0:i - rs.length=0:=by
         have:=(List.getElem?_eq_some_iff.mp h2).1
         simp at this
         omega
        rw [e0] at h2
        obtain rfl:=Option.some.inj h2
        obtain rfl:i=k:=Yy0
        rw [hx] at h1
        obtain rfl:=Option.some.inj h1
        exact ⟨j,t,hj,hnt,hvo⟩)
      have kb:(k:Int)+1≤65536:=Yy0
      have k65:k≤65536:=Yy0
      have sz0:=SZC.out
      clear hj hnt hvo hat hxz hx hkn
      go_wp2_with (first | (go_at_call 27;refine (gj_any _ _ _ _ _ _).mono ?_;rintro en w5 ⟨rfl,hb5⟩;have HB5:=hdd hb5;have sz5:R+1≤w5.heap.size:=(by have:=hb5.size;omega);have O75:Hid (w5.ownsRow (R+1) 34 5 u7 k (rs.flatMap RV.cells)):=hdd (O7.out.kept (row:=none) ⟨hb5.os,hb5.tape,hb5.output,hb5.size,fun i hi _=>hb5.block i hi⟩ (Classical.em _));clear hb5) | (at_builtin;refine wpList_append_own_at _ rfl _ _ 29 rfl (R+1) 34 i3 _ 5 56 Tryz.underlying29 JI.out JZ0.out JZ1.out JZ2.out rfl Yy3 _ _ _ rfl (O75.out.alloc _) ⟨w5.heap.size,0,none⟩ 1 1 [.int .i64 rk,.string rraw,.string rstr,.float .f64 rq,.bool (rk != 0 || (rraw.size:Int) != 0)] rfl rfl (World.news_of_block (cs:=#[.int .i64 rk,.string rraw,.string rstr,.float .f64 rq,.bool (rk != 0 || (rraw.size:Int) != 0)]) (t:=34) (fr:=(0,0)) (heap_alloc_new w5 _)) Yy44 (by unfold maxLen;omega) Yy0 Yy12 ?_;intro v' w6 hown6 hg6 hnil6 hat6;have OW6:=hdd hown6;have G6:Hid (World.grownBy (w5.alloc (Obj.cells #[.int .i64 rk,.string rraw,.string rstr,.float .f64 rq,.bool (rk != 0 || (rraw.size:Int) != 0)] 34)) w6 u7.ownBlock):=hdd hg6;have AT6:Hid (v'.ownBlock=u7.ownBlock∨v'.ownBlock=some (w5.alloc (Obj.cells #[.int .i64 rk,.string rraw,.string rstr,.float .f64 rq,.bool (rk != 0 || (rraw.size:Int) != 0)] 34)).heap.size):=hdd hat6;clear hown6 hg6 hnil6 hat6;go_frame))
      have nM:=row_ne_low O7.out (b:=M) (by have:=MR.out;omega)
      have gg:wr.grownBy w5 none:=⟨HB5.out.os,HB5.out.tape,HB5.out.output,HB5.out.size,fun i hi _=>HB5.out.block i hi⟩
      have hz5:=HB5.out.size
      have F1:Hid (w6.ownsRow (R+1) 9 1 (.slice (some ⟨g5,0,none⟩) n c5) n (ts.map encStr)):=hdd (((ROW.out.kept gg (.inr (by simp [Value.ownBlock]))).alloc _).kept G6.out (.inr (by
       rcases NE.out with e | e
       ·
        rw [e];simp [Value.ownBlock]
       ·
        exact fun h=>e h.symm)))
      have F2:Hid (w6.ownsMap Tryz.prog 9 rvR M l.length D):=hdd (((HOM.out.kept gg Yy4).alloc _).kept G6.out nM)
      have F3:Hid (Below B w w6):=hdd (((BC.out.trans (HB5.out.mono Yy43)).alloc Yy43 (Obj.cells #[.int .i64 rk,.string rraw,.string rstr,.float .f64 rq,.bool (rk != 0 || (rraw.size:Int) != 0)] 34)).trans (grow_below G6.out (fun j hj=>by have:=(O75.out.lt j hj).1;have:=BR.out;omega) (by rw [World.size_alloc];have:=BR.out;omega)))
      have F4:Hid (R+1≤w6.heap.size):=hdd (by have:=G6.out.size;rw [World.size_alloc] at this;omega)
      have F5:Hid (v'.ownBlock=none∨v'.ownBlock≠(Value.slice (some ⟨g5,0,none⟩) n c5).ownBlock):=hdd (by
       rcases AT6.out with e | e
       ·
        rw [e];exact NE.out
       ·
        right
        rw [e,World.size_alloc]
        have h8:=(ROW.out.lt g5 rfl).2
        intro h
        have h9:w5.heap.size+1=g5:=Option.some.inj h
        omega)
      have F6:Hid (w6.ownsRow (R+1) 34 5 v' (k+1) ((rs ++ [(⟨rk,rraw,rstr,rq,rix⟩:RV)]).flatMap RV.cells)):=hdd (by rw [List.flatMap_append];exact OW6.out)
      go_roundg (gk - 1)
      case measure=>have:=hkm.out;omega
      case rel=>exact ⟨k+1,rs ++ [⟨rk,rraw,rstr,rq,rix⟩],Yy6,hdd Yy53,hdd (by rw [List.length_append];exact congrArg (· + 1) hrs.out),F6,F1,F5,F2,F3,F4,AL2⟩
  ·
   intro x c kl yd yp w5 cnt5 hkey hlk hv hat hrg5 hlt hg5 hs5 hen
   obtain ⟨x',ex,rfl,_⟩:=Maps.keyOf_str Tryz.underlying9 hkey
   obtain rfl:x=x':=encStr_inj ex
   have ROW5:=hdd (hrow.out.kept hg5 (Or.inr (row_ne_low hrow.out Yy0).symm))
   have RG5:=hdd hrg5;have LT:=hdd hlt;have C5:=hdd (hC.out.step hlk hat)
   have B5:Hid (Below B w w5):=hdd (hnx.out.trans ((grow_below hg5 (B:=R) (fun j hj=>by injection hj with hj;omega) (by have:=hsz.out;omega)).mono BR.out))
   have sz5:R+1≤w5.heap.size:=by have:=hsz.out;omega
   have ssz:ss.length≤65536:=by have:=hcs.out;have:=DZ.out;omega
   have LX:=hdd (show (ss ++ [x]).length+cnt5≤Maps.size D by have:=hcs.out;rw [List.length_append,List.length_cons,List.length_nil];omega)
   clear hs5 hg5 hkey hlk hv hat hrg5 hlt hrg hcs hrow hC hnx hsz ex
   go_wp2_with (at_builtin;refine wpList_append_own_at _ rfl _ _ 22 rfl (R+1) 9 i0 (.string ⟨#[]⟩) 1 16 Tryz.underlying22 HI.out HZ0.out HZ1.out HZ2.out rfl Yy3 _ _ _ rfl (ROW5.out.alloc _) ⟨w5.heap.size,0,none⟩ 1 1 [encStr x] rfl rfl (cell_one_new _ _ _) (by simp [Value.oneCell',encStr]) (by unfold maxLen;omega) Yy0 Yy12 ?_;intro v' w6 hown6 hg6 hnil6 hat6;have OW6:=hdd hown6;have G6:Hid (World.grownBy (w5.alloc (Obj.cells #[encStr x] 9)) w6 u5.ownBlock):=hdd hg6;clear hown6 hg6 hnil6 hat6;go_frame)
   have nM:=row_ne_low ROW5.out (b:=M) (by have:=MR.out;omega)
   have nR:=row_ne_low ROW5.out (b:=R) Yy0
   have RG6:=hdd ((RG5.out.alloc (Obj.cells #[encStr x] 9)).kept G6.out nM nR)
   have B6:Hid (Below B w w6):=hdd ((B5.out.alloc Yy43 (Obj.cells #[encStr x] 9)).trans (grow_below G6.out (fun j hj=>by have:=(ROW5.out.lt j hj).1;have:=BR.out;omega) (by rw [World.size_alloc];have:=BR.out;omega)))
   have Z6':Hid (R+1≤w6.heap.size):=hdd (by have:=G6.out.size;rw [World.size_alloc] at this;omega)
   have O6:Hid (w6.ownsRow (R+1) 9 1 v' (ss ++ [x]).length ((ss ++ [x]).map encStr)):=hdd (by rw [List.length_append,List.map_append];exact OW6.out)
   go_roundg cnt5
   case measure=>exact LT.out
   case rel=>exact ⟨_,ss ++ [x],RG6,LX,O6,C5,B6,Z6'⟩
end Go.Proofs.YtieflhncpjjciaaGreatDoor.Dc
