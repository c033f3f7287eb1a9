/- Walks and plain laws of this claim. -/
import Derived.Test.YtieflhncpjjciaaGreatDoorBxJ
import Derived.Deep.AppendLies
import Derived.Deep.RegionHeld3
import Derived.Test.YtieflhncpjjciaaGreatDoorBxI
import Derived.Test.YtieflhncpjjciaaGreatDoorBxH
import Derived.Test.YtieflhncpjjciaaGreatDoorRx15
import Derived.Test.YtieflhncpjjciaaGreatDoorBxA
set_option maxHeartbeats 8000000
set_option maxRecDepth 100000
set_option linter.unusedVariables false
set_option linter.unusedSimpArgs false
namespace Go.Proofs.YtieflhncpjjciaaGreatDoor.Dc
open Go Go.RowKit Go.Proofs.YtieflhncpjjciaaGreatDoorW.PrintWords
theorem info34:(Tryz.prog.info? 34).map (fun i=>(i.zero,i.size,i.bytes))=some (some (.agg #[.int .i64 0,.string ⟨#[]⟩,.string ⟨#[]⟩,.float .f64 0,.bool false]),5,56):=Yy1
def contS (stop:Int) (L:List (RV×RV)):Bool:=(L.length:Int) != stop
def keyCells (p:RV×RV):List Value:=p.1.cells
structure OtP (e size:Nat) (f:RV×RV→List Value) (pins:List (Nat×Value)) (ob base:Nat) (L:List (RV×RV)) (w:World):Prop where
 ex:∃ v,w.cell? ⟨ob,0,none⟩=some v∧w.ownsRow base e size v L.length (L.flatMap f)∧v.ownBlock≠some ob∧∀ p∈pins,v.ownBlock≠some p.1
 fr:w.frozen? ⟨ob,0,none⟩=false
 pin:∀ p∈pins,w.cell? ⟨p.1,0,none⟩=some p.2∧p.1≠ob
def CP (pins:List (Nat×Value)) (ob:Nat) (g:Nat):Prop:=g=ob∨∃ p∈pins,g=p.1
theorem OtP.off {e size:Nat} {f:RV×RV→List Value} {pins:List (Nat×Value)} {ob base:Nat} {L:List (RV×RV)} {w w':World} (h:OtP e size f pins ob base L w) (k:OffC (CP pins ob) base w w'):OtP e size f pins ob base L w':=by
 obtain ⟨⟨v,hc,ho,hn,hp⟩,hf,hpin⟩:=h
 have hlt:=blo w _ hc
 have hb:=k.block ob hlt (Or.inl (Or.inl rfl))
 refine ⟨⟨v,by rw [World.cell?_of_block (w:=w) hb];exact hc,⟨ho.1,?_⟩,hn,hp⟩,?_,fun p h1=>⟨?_,(hpin p h1).2⟩⟩
 ·
  rcases ho.2 with h2 | ⟨g,cap,cur,hv,hg,hh,hr⟩
  ·
   exact .inl h2
  ·
   exact .inr ⟨g,cap,cur,hv,hg,Yy66,hr⟩
 ·
  rw [← hf]
  unfold World.frozen?
  simp only [hb]
 ·
  have hp1:=(hpin p h1).1
  rw [World.cell?_of_block (w:=w) (k.block p.1 (blo w _ hp1) (Or.inl (Or.inr ⟨p,h1,rfl⟩)))]
  exact hp1
theorem Keep.toCP {pins:List (Nat×Value)} {ob base:Nat} {w w':World} (h:Keep ob base w w'):KeepC (CP pins ob) base w w':=⟨h.os,h.tape,h.output,h.size,fun g h1 h2=>h.block g h1 (fun e=>h2 (Or.inl e))⟩
theorem otp_push {e size:Nat} {f:RV×RV→List Value} {pins:List (Nat×Value)} {w w7:World} {ob base gg cap:Nat} {v v':Value} {L:List (RV×RV)} {p:RV×RV} (e7:w7.cell? ⟨ob,0,none⟩=some v') (f7:w7.frozen? ⟨ob,0,none⟩=false) (hown:w7.ownsRow base e size (.slice (some ⟨gg,0,none⟩) (L.length+1) cap) (L.length+1) (L.flatMap f ++ f p)) (hg:gg≠ob)
  (hpin:∀ p∈pins,w.cell? ⟨p.1,0,none⟩=some p.2∧p.1≠ob) (hp7:∀ p∈pins,w7.cell? ⟨p.1,0,none⟩=some p.2∧gg≠p.1) :
  OtP e size f pins ob base (L ++ [p]) (w7.setCell ⟨ob,0,none⟩ (.slice (some ⟨gg,0,none⟩) (L.length+1) cap)):=by
 have hl:(L ++ [p]).length=L.length+1:=Yy3
 have hf:(L ++ [p]).flatMap f=L.flatMap f ++ f p:=Yy3
 refine ⟨⟨_,World.cell?_setCell_same' _ _ _ (by rw [e7];rfl),?_,?_,?_⟩,by simp [go_sem,f7],fun p hp=>⟨?_,(hpin p hp).2⟩⟩
 ·
  rw [hl,hf]
  refine ⟨hown.1,?_⟩
  rcases hown.2 with ⟨h2,_⟩ | ⟨g,cap',cur,hv,hb,hh,hr⟩
  ·
   cases h2
  ·
   refine .inr ⟨g,cap',cur,hv,hb,?_,hr⟩
   cases hv
   rw [Below.heap_setCell w7 _ _ _ hg];exact hh
 ·
  intro h
  exact hg (Option.some.inj h)
 ·
  intro p hp h
  exact (hp7 p hp).2 (Option.some.inj h)
 ·
  exact setO (hp7 p hp).1 (fun h=>(hpin p hp).2 h.symm)
theorem pin7 {w w7:World} {row:Option Nat} (hg:w.grownBy w7 row) {v:Value} (hr:row=v.ownBlock) {g gg:Nat} {x:Value} (hc:w.cell? ⟨g,0,none⟩=some x) (hv:v.ownBlock≠some g) (hat:v.ownBlock=some gg∨g<gg):w7.cell? ⟨g,0,none⟩=some x∧gg≠g:=by
 refine ⟨farB hg (by rw [hr];exact hv) hc,fun e=>?_⟩
 subst e
 rcases hat with h | h
 ·
  exact hv h
 ·
  omega
theorem clo26_any {w:World} {ob sb base:Nat} {stop:Int} {pins:List (Nat×Value)} {L:List (RV×RV)} (h:OtP 34 5 keyCells pins ob base L w) (hs:(sb,Value.int .i64 stop)∈pins) (hb:base≤w.heap.size) (hL:L.length≤65536) (a b:RV) :
  Calls Tryz.prog 26 #[a.val,.pointer (some ⟨ob,0,none⟩),.pointer (some ⟨sb,0,none⟩)] w fun e w'=>e = .returned (.bool (contS stop (L ++ [(a,b)])))∧OtP 34 5 keyCells pins ob base (L ++ [(a,b)]) w'∧Keep ob base w w':=by
 obtain ⟨i0,hi,hz0,hz1,hz2⟩:=info_parts info34
 have HI:=hdd hi;have HZ0:=hdd hz0;have HZ1:=hdd hz1;have HZ2:=hdd hz2
 clear hi hz0 hz1 hz2
 obtain ⟨⟨v,hc,hown,hne,hnp⟩,hfr,hpin⟩:=h
 have HC:=hdd hc;have HO:=hdd hown;have HN:=hdd hne;have HF:=hdd hfr;have HNP:=hdd hnp;have HPIN:=hdd hpin;have HSB:=hdd hs
 have hlt:=blo w _ hc
 have CT:Hid (contS stop (L ++ [(a,b)])=(((L.length+1:Nat):Int) != stop)):=hdd (by unfold contS;rw [List.length_append];rfl)
 clear hc hown hne hfr hnp hpin hs
 obtain ⟨ak,araw,astr,aq,aix⟩:=a
 rw [cons_val]
 dsimp only
 rw [CT.out]
 obtain ⟨B,hB⟩:∃ B,w.heap.size=B:=⟨_,rfl⟩
 go_enter Tryz.func26,Tryz.ntmps26
 go_upto_region 1 with (fail)
 obtain ⟨w1,hw1⟩:∃ w1,w.alloc (Obj.cells #[.int .i64 ak,.string araw,.string astr,.float .f64 aq,.int .i64 aix,.slice none 0 0] 61)=w1:=⟨_,rfl⟩
 have hs1:w1.heap.size=B+1:=Yy9
 have b1:Below B w w1:=by rw [← hw1];exact (Below.refl _ w).alloc Yy0 _
 have c0:w1.drew.cell? ⟨B,0,none⟩=some (.int .i64 ak):=Yy9
 have c1:w1.drew.cell? ⟨B,1,none⟩=some (.string araw):=Yy9
 have c2:w1.drew.cell? ⟨B,2,none⟩=some (.string astr):=Yy9
 have c3:w1.drew.cell? ⟨B,3,none⟩=some (.float .f64 aq):=Yy9
 have c4:w1.drew.cell? ⟨B,4,none⟩=some (.int .i64 aix):=Yy9
 have c5:w1.drew.cell? ⟨B,5,none⟩=some (.slice none 0 0):=Yy9
 have hobB:ob<B:=by rw [← hB];exact hlt
 have hob0:ob≠B:=Yy0
 have hob1:ob≠B+1:=Yy0
 have e0:w1.drew.cell? ⟨ob,0,none⟩=some v:=by show w1.cell? _=_;rw [b1.cell (by show ob<B;omega)];exact HC.out
 have f0:w1.drew.frozen? ⟨ob,0,none⟩=false:=by show w1.frozen? _=_;rw [b1.frozen (by show ob<B;omega)];exact HF.out
 have sd:B+1≤w1.drew.heap.size:=by show B+1≤w1.heap.size;omega
 have hbd:Below w.heap.size w w1.drew:=by rw [hB];exact b1.drew
 have O1:Hid (w1.drew.ownsRow base 34 5 v L.length (L.flatMap keyCells)):=hdd (ownB hbd HO.out)
 have BB1:Hid (Below w.heap.size w w1.drew):=hdd hbd
 have HG:Hid (∀ g,v.ownBlock=some g→g<B):=hdd (fun g hg=>by rw [← hB];exact own_lt HO.out hg)
 have P1:Hid (Keep ob base w w1.drew):=hdd (Keep.of hbd hb)
 rw [hw1]
 clear hw1
 go_region_law (first
   | (go_simp;go_at_call 27;refine (gj_any _ _ _ _ _ _).mono ?_;rintro en wz ⟨rfl,hbz⟩;have e5:=cellB hbz e0;have f5:=frozB hbz e0 f0;have P5:=hdd (P1.out.below hbz hb);have O5:=hdd (ownB hbz O1.out);have BB5:=hdd (BB1.out.trans (hbz.mono BB1.out.size));have ks:B+1≤wz.heap.size:=Nat.le_trans sd hbz.size;have hal:∀ o,Below wz.heap.size wz (wz.alloc o):=fun o=>(Below.refl _ wz).alloc (nlr _) o;have e6:∀ o,(wz.alloc o).cell? ⟨ob,0,none⟩=some v:=fun o=>cellB (hal o) e5;have z0:w.heap.size≤wz.heap.size:=Yy0;have kc0:=cellB hbz c0;have kc1:=cellB hbz c1;have kc2:=cellB hbz c2;have kc3:=cellB hbz c3;have kc4:=cellB hbz c4;have kc5:=cellB hbz c5)
   | (refine step_append_lies _ Yy6 _ _ _ Yy6 base 34 i0 _ 5 56 Tryz.underlying29 HI.out HZ0.out HZ1.out HZ2.out rfl Yy0 v L.length (L.flatMap keyCells) Yy6 (ownB (hal _) O5.out) ⟨wz.heap.size,0,none⟩ 1 1 [.int .i64 ak,.string araw,.string astr,.float .f64 aq,.bool (ak != 0 || (araw.size:Int) != 0)] Yy6 Yy6 (World.news_of_block (cs:=#[.int .i64 ak,.string araw,.string astr,.float .f64 aq,.bool (ak != 0 || (araw.size:Int) != 0)]) (t:=34) (fr:=(0,0)) (heap_alloc_new wz _)) Yy24 Yy0 (by unfold maxLen;omega) Yy0 Yy43 (wz.heap.size+1) Yy34 ?_;intro gg cap w7 hown7 hgrow7 hat7 hlt7;have P7:=hdd ((P5.out.below (hal _) hb).trans (Keep.grown hgrow7 Yy43 (fun g hg=>own_ge HO.out hg)));have e7:=farB hgrow7 HN.out (cellB (hal _) e5);have f7:=farF hgrow7 HN.out (cellB (hal _) e5) (frozB (hal _) e5 f5);have ms:B+1≤w7.heap.size:=Nat.le_trans (Nat.le_trans ks (hal _).size) hgrow7.size;have PN:Hid (∀ p∈pins,w7.cell? ⟨p.1,0,none⟩=some p.2∧gg≠p.1):=hdd (fun p hp=>pin7 hgrow7 rfl (cellB (hal _) (cellB BB5.out (HPIN.out p hp).1)) (HNP.out p hp) (by rcases hat7 with h7 | h7;exact .inl h7;exact .inr (by have h9:p.1<w.heap.size:=blo w _ (HPIN.out p hp).1;omega)));have mc0:=farB hgrow7 (fun h=>absurd (HG.out _ h) Yy44) (cellB (hal _) kc0);have mc1:=farB hgrow7 (fun h=>absurd (HG.out _ h) Yy44) (cellB (hal _) kc1);have mc2:=farB hgrow7 (fun h=>absurd (HG.out _ h) Yy44) (cellB (hal _) kc2);have mc3:=farB hgrow7 (fun h=>absurd (HG.out _ h) Yy44) (cellB (hal _) kc3);have mc4:=farB hgrow7 (fun h=>absurd (HG.out _ h) Yy44) (cellB (hal _) kc4);have mc5:=farB hgrow7 (fun h=>absurd (HG.out _ h) Yy44) (cellB (hal _) kc5)))
 all_goals
  have hgg:gg≠ob:=fun h=>by
   subst h
   rcases hat7 with h7 | h7
   ·
    exact HN.out h7
   ·
    omega
  have PU:=hdd (otp_push (p:=⟨⟨ak,araw,astr,aq,aix⟩,b⟩) (v:=v) e7 f7 hown7 hgg HPIN.out PN.out)
  have s9:(w7.setCell ⟨ob,0,none⟩ (.slice (some ⟨gg,0,none⟩) (L.length+1) cap)).cell? ⟨sb,0,none⟩=some (.int .i64 stop):=(PU.out.pin _ HSB.out).1
  have o9:(w7.setCell ⟨ob,0,none⟩ (.slice (some ⟨gg,0,none⟩) (L.length+1) cap)).cell? ⟨ob,0,none⟩=some (.slice (some ⟨gg,0,none⟩) (L.length+1) cap):=World.cell?_setCell_same' _ _ _ (by rw [e7];rfl)
  have P9:=hdd (P7.out.trans (Keep.set (ob:=ob) (base:=base) w7 0 (.slice (some ⟨gg,0,none⟩) (L.length+1) cap)))
  obtain ⟨w9,hw9⟩:∃ w9,w7.setCell ⟨ob,0,none⟩ (.slice (some ⟨gg,0,none⟩) (L.length+1) cap)=w9:=⟨_,rfl⟩
  rw [hw9] at PU s9 o9 P9
  rw [hw9]
  clear hw9
  obtain ⟨n9,hn9⟩:∃ n9,L.length+1=n9:=⟨_,rfl⟩
  rw [hn9] at o9 ⊢
  go_wp2_with fail
  go_ret
  exact ⟨by first | rfl | (rw [hn9];rfl),PU.out,P9.out⟩
open Go Go.RowKit Go.Proofs.YtieflhncpjjciaaGreatDoorW.PrintWords Go.Proofs.YtieflhncpjjciaaGreatDoor.PFnGjSquashItems
attribute [local go_sem] run_store_flt
structure LV where
 kd:Int
 v:Nat
 j:Nat
inductive Tx (u:ByteArray):Nat→List LV→Prop
 | nil {p:Nat} (h:p≤u.size) (hb:∀ q,p≤q→q<u.size→bt u (q:Int)≤32):Tx u p []
 | cons {p:Nat} {t:LV} {l:List LV} (h:p≤t.v) (hb:∀ q,p≤q→q<t.v→bt u (q:Int)≤32) (vk:VK u t.kd t.v t.j) (he:NumEnd u t.j) (r:Tx u t.j l):Tx u p (t :: l)
theorem Tx.le {u:ByteArray} {p:Nat} {l:List LV} (h:Tx u p l):p≤u.size:=by
 cases h with
 | nil h _=>exact h
 | cons h _ vk _ _=>have:=vk.1;have:=vk.2.1;omega
def LOK (u:ByteArray) (t:LV) (val:RV):Prop:=val.k=gkd t.kd∧val.raw=u.extract t.v t.j∧(t.kd=4→KStr (u.extract (t.v+1) (t.j - 1)) val.str)∧(t.kd≠4→val.str=⟨#[]⟩)
inductive RunL (u:ByteArray) (cont:List (RV×RV)→Bool):List (RV×RV)→List LV→List (RV×RV)→Prop
 | nil (L:List (RV×RV)):RunL u cont L [] L
 | stop {L:List (RV×RV)} {t:LV} {l:List LV} {p:RV} (h:LOK u t p) (hc:cont (L ++ [(p,RV.z)])=false):RunL u cont L (t :: l) (L ++ [(p,RV.z)])
 | next {L Z:List (RV×RV)} {t:LV} {l:List LV} {p:RV} (h:LOK u t p) (hc:cont (L ++ [(p,RV.z)])=true) (r:RunL u cont (L ++ [(p,RV.z)]) l Z):RunL u cont L (t :: l) Z
structure IterL (f:Nat) (caps:Array Value) (C:Nat→Prop) (Inv:Nat→List (RV×RV)→World→Prop) (cont:List (RV×RV)→Bool):Prop where
 enter:∀ (args:Array Value) (w:World),(callFunc f args).run Tryz.prog w = .ok (.enter f args) w
 step:∀ (base:Nat) (L:List (RV×RV)) (a b:RV) (w:World),Inv base L w→base≤w.heap.size→L.length≤65536→Calls Tryz.prog f (#[a.val] ++ caps) w fun e w'=>e = .returned (.bool (cont (L ++ [(a,b)])))∧Inv base (L ++ [(a,b)]) w'∧KeepC C base w w'
 off:∀ (base:Nat) (L:List (RV×RV)) (w w':World),Inv base L w→OffC C base w w'→Inv base L w'
structure LS (C:Nat→Prop) (Inv:Nat→List (RV×RV)→World→Prop) (A:Nat) (L:List (RV×RV)) (w wr:World) (val:RV):Prop where
 vr:wr.rangeAt A 0 val.cl
 vt:wr.there A 0 6
 inv:Inv (A+1) L wr
 keep:KeepC C A w wr
 sz:A+1≤wr.heap.size
section
variable {f:Nat} {caps:Array Value} {C:Nat→Prop} {Inv:Nat→List (RV×RV)→World→Prop} {cont:List (RV×RV)→Bool} {A:Nat} {val:RV} {L:List (RV×RV)} {w wr w':World}
theorem LS.below (h:LS C Inv A L w wr val) (hi:IterL f caps C Inv cont) (hb:Below wr.heap.size wr w'):LS C Inv A L w w' val:=
 ⟨rng_b h.vr hb,thr_b h.vt hb,hi.off _ _ _ _ h.inv (OffC.of hb),h.keep.trans (KeepC.of hb (by have:=h.sz;omega)),Nat.le_trans h.sz hb.size⟩
theorem LS.dn (h:LS C Inv A L w wr val) (hi:IterL f caps C Inv cont) (n:Nat):LS C Inv A L w (wr.drewN n) val:=h.below hi (Below.drewNs (Below.refl _ _) n)
theorem LS.valSet (h:LS C Inv A L w wr val) (hi:IterL f caps C Inv cont) (hC:∀ g,C g→g<A) (i:Nat) (hl:i<6) (v:Value) (val':RV) (hk:val.cl.set i v=val'.cl):LS C Inv A L w (wr.setCell ⟨A,i,none⟩ v) val':=by
 have hb:=below_set (B:=A) wr ⟨A,i,none⟩ v (by show A≤A;omega)
 exact ⟨by rw [← hk];exact rng_set h.vr i v (by simpa [RV.cl_len] using hl),thr_set h.vt _ v,hi.off _ _ _ _ h.inv (OffC.set wr _ v (fun hc=>by have h9:A<A:=hC _ hc;omega) (by show A<A+1;omega)),h.keep.trans (KeepC.of hb (nlr _)),Nat.le_trans h.sz hb.size⟩
theorem LS.valAll (h:LS C Inv A L w wr val) (hi:IterL f caps C Inv cont) (hC:∀ g,C g→g<A) (val':RV):LS C Inv A L w ((((((wr.setCell ⟨A,0,none⟩ (.int .i64 val'.k)).setCell ⟨A,1,none⟩ (.string val'.raw)).setCell ⟨A,2,none⟩ (.string val'.str)).setCell ⟨A,3,none⟩ (.float .f64 val'.q)).setCell ⟨A,4,none⟩ (.int .i64 val'.ix)).setCell ⟨A,5,none⟩ (.slice none 0 0)) val':=
 (((((h.valSet hi hC 0 Yy0 _ ⟨val'.k,val.raw,val.str,val.q,val.ix⟩ rfl).valSet hi hC 1 Yy0 _ ⟨val'.k,val'.raw,val.str,val.q,val.ix⟩ rfl).valSet hi hC 2 Yy0 _ ⟨val'.k,val'.raw,val'.str,val.q,val.ix⟩ rfl).valSet hi hC 3 Yy0 _ ⟨val'.k,val'.raw,val'.str,val'.q,val.ix⟩ rfl).valSet hi hC 4 Yy0 _ ⟨val'.k,val'.raw,val'.str,val'.q,val'.ix⟩ rfl).valSet hi hC 5 Yy0 _ _ rfl
theorem LS.iter (h:LS C Inv A L w wr val) (hC:∀ g,C g→g<A) {L':List (RV×RV)} (hi:Inv (A+1) L' w') (hk:KeepC C (A+1) wr w'):LS C Inv A L' w w' val:=by
 have blk:w'.heap[A]? = wr.heap[A]?:=hk.block A Yy0 (fun hc=>by have:=hC A hc;omega)
 have cl:∀ o,w'.cell? ⟨A,o,none⟩=wr.cell? ⟨A,o,none⟩:=fun o=>World.cell?_of_block blk
 have fz:∀ o,w'.frozen? ⟨A,o,none⟩=wr.frozen? ⟨A,o,none⟩:=fun o=>by
  unfold World.frozen?
  simp only [blk]
 exact ⟨fun j v hv=>by rw [cl];exact h.vr j v hv,fun j hj=>by rw [cl,fz];exact h.vt j hj,hi,h.keep.trans (hk.mono Yy0),Nat.le_trans h.sz hk.size⟩
theorem LS.ms {b0:Nat} (h:LS C Inv A L w wr val) (hm:MS w b0) (hb:b0≤A) (hC:∀ g,C g→b0≤g):MS wr b0∧b0≤wr.heap.size:=
 ⟨hm.below (h.keep.toBelow hb hC),by have:=h.sz;omega⟩
end
def FlPost (C:Nat→Prop) (Inv:Nat→List (RV×RV)→World→Prop) (cont:List (RV×RV)→Bool) (u:ByteArray) (l:List LV) (w:World) (e:Ending) (w':World):Prop:=
 e = .returned (.tuple #[])∧∃ L base,RunL u cont [] l L∧Inv base L w'∧KeepC C w.heap.size w w'
theorem lines_any {f:Nat} {caps:Array Value} {C:Nat→Prop} {Inv:Nat→List (RV×RV)→World→Prop} {cont:List (RV×RV)→Bool} (hi:IterL f caps C Inv cont) {w:World} {b0:Nat} (h:MS w b0) (hBB:b0≤w.heap.size) (hC:∀ g,C g→b0≤g∧g<w.heap.size) (h0:∀ base,Inv base [] w)
  (u:ByteArray) (hs:u.size≤65536) (l:List LV) (hl:Tx u 0 l) :
  Calls Tryz.prog 25 #[.string u,.func (.func f) #[] caps] w (FlPost C Inv cont u l w):=by
 obtain ⟨A,hA⟩:∃ A,w.heap.size=A:=⟨_,rfl⟩
 have ss:(u.size:Int)≤65536:=Yy0
 have HI:=hdd hi;have HM:=hdd h;have HBB:=hdd hBB;have H0:=hdd h0;have HL:=hdd hl
 have HCA:Hid (∀ g,C g→g<A):=hdd (fun g hg=>by rw [← hA];exact (hC g hg).2)
 have HCb:Hid (∀ g,C g→b0≤g):=hdd (fun g hg=>(hC g hg).1)
 clear hi h hBB hC h0 hl
 go_enter Tryz.func25,Tryz.ntmps25
 go_upto_block 0 with (fail)
 have S1:Hid (LS C Inv A [] w (w.alloc (Obj.cells RV.z.cl.toArray 61)) RV.z):=hdd (by
  have b1:Below A w (w.alloc (Obj.cells RV.z.cl.toArray 61)):=(Below.refl _ w).alloc Yy0 _
  have hv:=rng_new w RV.z.cl 61
  have hvt:=thr_new w RV.z.cl 61
  rw [hA] at hv hvt
  exact ⟨hv,hvt,HI.out.off _ _ _ _ (H0.out (A+1)) (OffC.of (by rw [hA];exact b1)),KeepC.of b1 (nlr _),by rw [World.size_alloc,hA];omega⟩)
 obtain ⟨w1,hw1⟩:∃ w1,w.alloc (Obj.cells RV.z.cl.toArray 61)=w1:=⟨_,rfl⟩
 rw [hw1] at S1
 simp only [RV.z,RV.cl] at hw1
 rw [hw1]
 clear hw1
 go_wp2_with fail
 go_loopg [5] l.length (fun m v5 wr=>∃ (i:Nat) (l':List LV) (L:List (RV×RV)) (val:RV),v5 = .int .i64 (i:Int)∧Hid (l'.length=m)∧Hid (Tx u i l')∧Hid (∀ Z,RunL u cont L l' Z→RunL u cont [] l Z)∧Hid (LS C Inv A L w wr val)∧Hid (L.length≤i))
 case atStart=>exact ⟨0,l,[],RV.z,rfl,hdd rfl,HL,hdd (fun Z h=>h),S1,hdd Yy3⟩
 case round=>
  clear S1
  obtain ⟨i,l',L,val,rfl,hm,hT,hRun,S5,hLi⟩:=hrel
  have hiu:i≤u.size:=hT.out.le
  have hi65:(i:Int)≤65536:=Yy0
  obtain ⟨hms,hmz⟩:=S5.out.ms HM.out (by rw [← hA];exact HBB.out) HCb.out
  cases l' with
  | nil=>
   have CALL:Hid (Calls Tryz.prog 50 #[.string u,.int .i64 (i:Int),.bool true] wr (AnyNone wr)):=hdd (any_none u hs i hiu (fun q h1 h2=>.inl (by cases hT.out with | nil _ hb=>exact hb q h1 h2)))
   clear hms hmz
   have ex0:((0:Int) != 0 || (((⟨#[]⟩:ByteArray).size:Int) != 0))=false:=rfl
   go_upto_region 3 with (go_at_call 50;(with_reducible refine CALL.out.mono ?_);rintro en w6 ⟨ii,rfl,hb6⟩;have S6:=hdd (S5.out.below HI.out hb6);clear hb6;simp only [RV.val,RV.z];have k0:w6.cell? ⟨A,0,none⟩=some (.int .i64 val.k):=S6.out.vr 0 _ rfl;have kf0:w6.frozen? ⟨A,0,none⟩=false:=(S6.out.vt 0 Yy0).2;have k1:w6.cell? ⟨A,1,none⟩=some (.string val.raw):=S6.out.vr 1 _ rfl;have kf1:w6.frozen? ⟨A,1,none⟩=false:=(S6.out.vt 1 Yy0).2;have k2:w6.cell? ⟨A,2,none⟩=some (.string val.str):=S6.out.vr 2 _ rfl;have kf2:w6.frozen? ⟨A,2,none⟩=false:=(S6.out.vt 2 Yy0).2;have k3:w6.cell? ⟨A,3,none⟩=some (.float .f64 val.q):=S6.out.vr 3 _ rfl;have kf3:w6.frozen? ⟨A,3,none⟩=false:=(S6.out.vt 3 Yy0).2;have k4:w6.cell? ⟨A,4,none⟩=some (.int .i64 val.ix):=S6.out.vr 4 _ rfl;have kf4:w6.frozen? ⟨A,4,none⟩=false:=(S6.out.vt 4 Yy0).2;have k5:w6.cell? ⟨A,5,none⟩=some (.slice none 0 0):=S6.out.vr 5 _ rfl;have kf5:w6.frozen? ⟨A,5,none⟩=false:=(S6.out.vt 5 Yy0).2;skip)
   have S7:Hid (LS C Inv A L w ((((((w6.setCell ⟨A,0,none⟩ (.int .i64 0)).setCell ⟨A,1,none⟩ (.string ⟨#[]⟩)).setCell ⟨A,2,none⟩ (.string ⟨#[]⟩)).setCell ⟨A,3,none⟩ (.float .f64 0)).setCell ⟨A,4,none⟩ (.int .i64 0)).setCell ⟨A,5,none⟩ (.slice none 0 0)) RV.z):=hdd (S6.out.valAll HI.out HCA.out RV.z)
   obtain ⟨w7,hw7⟩:∃ w7,((((((w6.setCell ⟨A,0,none⟩ (.int .i64 0)).setCell ⟨A,1,none⟩ (.string ⟨#[]⟩)).setCell ⟨A,2,none⟩ (.string ⟨#[]⟩)).setCell ⟨A,3,none⟩ (.float .f64 0)).setCell ⟨A,4,none⟩ (.int .i64 0)).setCell ⟨A,5,none⟩ (.slice none 0 0))=w7:=⟨_,rfl⟩
   rw [hw7] at S7
   rw [hw7]
   clear hw7 k0 kf0 k1 kf1 k2 kf2 k3 kf3 k4 kf4 k5 kf5 S6 CALL
   have k0:w7.cell? ⟨A,0,none⟩=some (.int .i64 0):=S7.out.vr 0 _ rfl
   have k1:w7.cell? ⟨A,1,none⟩=some (.string ⟨#[]⟩):=S7.out.vr 1 _ rfl
   have k2:w7.cell? ⟨A,2,none⟩=some (.string ⟨#[]⟩):=S7.out.vr 2 _ rfl
   have k3:w7.cell? ⟨A,3,none⟩=some (.float .f64 0):=S7.out.vr 3 _ rfl
   have k4:w7.cell? ⟨A,4,none⟩=some (.int .i64 0):=S7.out.vr 4 _ rfl
   have k5:w7.cell? ⟨A,5,none⟩=some (.slice none 0 0):=S7.out.vr 5 _ rfl
   go_wp2_with (go_at_call 51;refine (exists_any _ _ _ _ _ _).mono ?_;rintro en w8 ⟨rfl,hb8⟩;rw [ex0];have S8:=hdd (S7.out.below HI.out hb8);clear hb8)
   go_end0
   exact ⟨rfl,L,A+1,hRun.out L (.nil L),S8.out.inv,by rw [hA];exact S8.out.keep⟩
  | cons t l2=>
   obtain ⟨hpv,hsk,hvk,hne,hT2⟩:i≤t.v∧(∀ q,i≤q→q<t.v→bt u (q:Int)≤32)∧VK u t.kd t.v t.j∧NumEnd u t.j∧Tx u t.j l2:=by
    cases hT.out with | cons h hb vk he r=>exact ⟨h,hb,vk,he,r⟩
   have CALL:Hid (Calls Tryz.prog 50 #[.string u,.int .i64 (i:Int),.bool true] wr (AnyPost u t.kd t.v t.j wr)):=hdd (any_any hms hmz u hs i t.v t.j t.kd hpv hsk hvk hne)
   have HT2:=hdd hT2;have HIJ:Hid (i<t.j):=hdd (by have:=hvk.1;omega)
   have ex1:∀ x:Int,(x != 0 || (((u.extract t.v t.j).size:Int) != 0))=true:=fun x=>by
    have hz:(u.extract t.v t.j).size≠0:=by have:=hvk.1;have:=hvk.2.1;rw [ByteArray.size_extract];omega
    rw [Bool.or_eq_true];exact .inr (bne_iff_ne.mpr Yy0)
   clear hms hmz hpv hsk hvk hne hT2
   go_upto_region 3 with (go_at_call 50;(with_reducible refine CALL.out.mono ?_);rintro en w6 ⟨q9,ix9,st9,rfl,hix9,hs1,hs2,hb6⟩;have S6:=hdd (S5.out.below HI.out hb6);have HX1:=hdd hs1;have HX2:=hdd hs2;clear hb6 hs1 hs2;simp only [RV.val];have k0:w6.cell? ⟨A,0,none⟩=some (.int .i64 val.k):=S6.out.vr 0 _ rfl;have kf0:w6.frozen? ⟨A,0,none⟩=false:=(S6.out.vt 0 Yy0).2;have k1:w6.cell? ⟨A,1,none⟩=some (.string val.raw):=S6.out.vr 1 _ rfl;have kf1:w6.frozen? ⟨A,1,none⟩=false:=(S6.out.vt 1 Yy0).2;have k2:w6.cell? ⟨A,2,none⟩=some (.string val.str):=S6.out.vr 2 _ rfl;have kf2:w6.frozen? ⟨A,2,none⟩=false:=(S6.out.vt 2 Yy0).2;have k3:w6.cell? ⟨A,3,none⟩=some (.float .f64 val.q):=S6.out.vr 3 _ rfl;have kf3:w6.frozen? ⟨A,3,none⟩=false:=(S6.out.vt 3 Yy0).2;have k4:w6.cell? ⟨A,4,none⟩=some (.int .i64 val.ix):=S6.out.vr 4 _ rfl;have kf4:w6.frozen? ⟨A,4,none⟩=false:=(S6.out.vt 4 Yy0).2;have k5:w6.cell? ⟨A,5,none⟩=some (.slice none 0 0):=S6.out.vr 5 _ rfl;have kf5:w6.frozen? ⟨A,5,none⟩=false:=(S6.out.vt 5 Yy0).2;skip)
   have S7:Hid (LS C Inv A L w ((((((w6.setCell ⟨A,0,none⟩ (.int .i64 (gkd t.kd))).setCell ⟨A,1,none⟩ (.string (u.extract t.v t.j))).setCell ⟨A,2,none⟩ (.string st9)).setCell ⟨A,3,none⟩ (.float .f64 q9)).setCell ⟨A,4,none⟩ (.int .i64 (ix9:Int))).setCell ⟨A,5,none⟩ (.slice none 0 0)) ⟨gkd t.kd,u.extract t.v t.j,st9,q9,(ix9:Int)⟩):=hdd (S6.out.valAll HI.out HCA.out ⟨gkd t.kd,u.extract t.v t.j,st9,q9,(ix9:Int)⟩)
   obtain ⟨w7,hw7⟩:∃ w7,((((((w6.setCell ⟨A,0,none⟩ (.int .i64 (gkd t.kd))).setCell ⟨A,1,none⟩ (.string (u.extract t.v t.j))).setCell ⟨A,2,none⟩ (.string st9)).setCell ⟨A,3,none⟩ (.float .f64 q9)).setCell ⟨A,4,none⟩ (.int .i64 (ix9:Int))).setCell ⟨A,5,none⟩ (.slice none 0 0))=w7:=⟨_,rfl⟩
   rw [hw7] at S7
   rw [hw7]
   clear hw7 k0 kf0 k1 kf1 k2 kf2 k3 kf3 k4 kf4 k5 kf5 S6 CALL
   have PO:Hid (LOK u t ⟨gkd t.kd,u.extract t.v t.j,st9,q9,(ix9:Int)⟩):=hdd ⟨rfl,rfl,HX1.out,HX2.out⟩
   have k0:w7.cell? ⟨A,0,none⟩=some (.int .i64 (gkd t.kd)):=S7.out.vr 0 _ rfl
   have k1:w7.cell? ⟨A,1,none⟩=some (.string (u.extract t.v t.j)):=S7.out.vr 1 _ rfl
   have k2:w7.cell? ⟨A,2,none⟩=some (.string st9):=S7.out.vr 2 _ rfl
   have k3:w7.cell? ⟨A,3,none⟩=some (.float .f64 q9):=S7.out.vr 3 _ rfl
   have k4:w7.cell? ⟨A,4,none⟩=some (.int .i64 (ix9:Int)):=S7.out.vr 4 _ rfl
   have k5:w7.cell? ⟨A,5,none⟩=some (.slice none 0 0):=S7.out.vr 5 _ rfl
   obtain ⟨raw9,hraw⟩:∃ raw9,u.extract t.v t.j=raw9:=⟨_,rfl⟩
   obtain ⟨kd9,hkd⟩:∃ kd9,gkd t.kd=kd9:=⟨_,rfl⟩
   rw [hraw] at k1 S7 PO ex1
   rw [hkd] at k0 S7 PO
   have ex2:=ex1 kd9
   clear ex1 hraw hkd
   go_upto_region 4 with (go_at_call 51;refine (exists_any _ _ _ _ _ _).mono ?_;rintro en w8 ⟨rfl,hb8⟩;rw [ex2];have S8:=hdd (S7.out.below HI.out hb8);have k0:=cellB hb8 k0;have k1:=cellB hb8 k1;have k2:=cellB hb8 k2;have k3:=cellB hb8 k3;have k4:=cellB hb8 k4;have k5:=cellB hb8 k5;clear hb8)
   have ST:Hid (Calls Tryz.prog f (#[.agg #[.int .i64 kd9,.string raw9,.string st9,.float .f64 q9,.int .i64 (ix9:Int),.slice none 0 0]] ++ caps) w8 fun e w'=>e = .returned (.bool (cont (L ++ [(⟨kd9,raw9,st9,q9,(ix9:Int)⟩,RV.z)])))∧Inv (A+1) (L ++ [(⟨kd9,raw9,st9,q9,(ix9:Int)⟩,RV.z)]) w'∧KeepC C (A+1) w8 w'):=hdd (HI.out.step (A+1) L ⟨kd9,raw9,st9,q9,(ix9:Int)⟩ RV.z w8 S8.out.inv S8.out.sz (by have:=hLi.out;omega))
   obtain ⟨b,hbc⟩:∃ b,cont (L ++ [(⟨kd9,raw9,st9,q9,(ix9:Int)⟩,RV.z)])=b:=⟨_,rfl⟩
   have heg:=HI.out.enter
   rw [hbc] at ST
   have HB:=hdd hbc
   clear hbc
   cases b with
   | false=>
    go_wp2_with ((with_reducible refine ST.out.mono ?_);rintro en w9 ⟨rfl,hI,hK⟩;have HI7:=hdd hI;have HK7:=hdd hK;clear hI hK)
    go_end0
    exact ⟨rfl,_,A+1,hRun.out _ (.stop PO.out HB.out),HI7.out,by rw [hA];exact (S8.out.iter HCA.out HI7.out HK7.out).keep⟩
   | true=>
    go_wp2_with ((with_reducible refine ST.out.mono ?_);rintro en w9 ⟨rfl,hI,hK⟩;have HI7:=hdd hI;have HK7:=hdd hK;clear hI hK)
    go_roundg l2.length
    case measure=>have:=hm.out;simp at this;omega
    case rel=>exact ⟨t.j,l2,L ++ [(⟨kd9,raw9,st9,q9,(ix9:Int)⟩,RV.z)],⟨kd9,raw9,st9,q9,(ix9:Int)⟩,Yy5,hdd rfl,HT2,hdd (fun Z hZ=>hRun.out Z (.next PO.out HB.out hZ)),hdd (S8.out.iter HCA.out HI7.out HK7.out),hdd (by have:=hLi.out;have:=HIJ.out;simp;omega)⟩
theorem iter_lines {ob sb:Nat} {stop:Int} {pins:List (Nat×Value)} (hs:(sb,Value.int .i64 stop)∈pins):IterL 26 #[.pointer (some ⟨ob,0,none⟩),.pointer (some ⟨sb,0,none⟩)] (CP pins ob) (fun base L w=>OtP 34 5 keyCells pins ob base L w) (contS stop):=
 ⟨fun _ _=>Yy34,fun base L a b w h hb hL=>(clo26_any h hs hb hL a b).mono fun e w' ⟨h1,h2,h3⟩=>⟨h1,h2,h3.toCP⟩,fun base L w w' h k=>h.off k⟩
def ColL (R:List (RV×RV)→Prop) (w:World) (en:Ending) (w':World):Prop:=
 ∃ L base v,en = .returned v∧R L∧w'.ownsRow base 34 5 v L.length (L.flatMap keyCells)∧Below w.heap.size w w'
theorem gjlines_any {w:World} {b0:Nat} (h:MS w b0) (hBB:b0≤w.heap.size) (u:ByteArray) (hs:u.size≤65536) (stop:Int) (l:List LV) (hl:Tx u 0 l) :
  Calls Tryz.prog 10 #[.string u,.int .i64 stop] w (ColL (RunL u (contS stop) [] l) w):=by
 obtain ⟨B,hB⟩:∃ B,w.heap.size=B:=⟨_,rfl⟩
 have HM:=hdd h;have HBB:=hdd hBB;have HL:=hdd hl
 clear h hBB hl
 go_enter Tryz.func10,Tryz.ntmps10
 go_upto_region 2 with (fail)
 obtain ⟨w1,hw1⟩:∃ w1,(w.alloc (Obj.cells #[.int .i64 stop] 3)).alloc (Obj.cells #[.slice none 0 0] 29)=w1:=⟨_,rfl⟩
 have hs1:w1.heap.size=B+2:=Yy9
 have b1:Hid (Below B w w1):=hdd Yy72
 have S1:Hid (w1.cell? ⟨B,0,none⟩=some (.int .i64 stop)):=hdd Yy9
 have O1:Hid (w1.cell? ⟨B+1,0,none⟩=some (.slice none 0 0)):=hdd Yy9
 have F1:Hid (w1.frozen? ⟨B+1,0,none⟩=false):=hdd Yy9
 rw [hw1]
 clear hw1
 have HS1:=hdd hs1
 clear hs1
 have M1:Hid (MS w1 b0):=hdd (HM.out.below (b1.out.mono (by have:=HBB.out;omega)))
 have GO:Hid (Calls Tryz.prog 25 #[.string u,.func (.func 26) #[] #[.pointer (some ⟨B+1,0,none⟩),.pointer (some ⟨B,0,none⟩)]] w1 fun e w'=>e = .returned (.tuple #[])∧∃ (L:List (RV×RV)) (base:Nat) (v:Value),RunL u (contS stop) [] l L∧w'.cell? ⟨B+1,0,none⟩=some v∧w'.ownsRow base 34 5 v L.length (L.flatMap keyCells)∧Below B w w'):=hdd (by
  have hz:=HS1.out
  have FE:=lines_any (iter_lines (ob:=B+1) (sb:=B) (stop:=stop) (pins:=[(B,Value.int .i64 stop)]) Yy3) (w:=w1) M1.out (by have:=HBB.out;rw [hz];omega) (fun g hg=>by
   have:=HBB.out
   rw [hz]
   rcases hg with rfl | ⟨p,hp,rfl⟩
   ·
    omega
   ·
    simp at hp
    subst hp;dsimp only;omega) (fun base=>⟨⟨_,O1.out,World.ownsRow_nil _ _ _ _,by simp [Value.ownBlock],fun p hp=>by simp [Value.ownBlock]⟩,F1.out,fun p hp=>by
   simp at hp
   subst hp
   exact ⟨S1.out,by dsimp only;omega⟩⟩) u hs l HL.out
  refine FE.mono ?_
  rintro e w' ⟨he,L,base,hR,⟨⟨v,hc,hown,_,_⟩,_,_⟩,hk⟩
  refine ⟨he,L,base,v,hR,hc,hown,b1.out.trans ⟨hk.os,hk.tape,hk.output,hk.size,fun g hg=>hk.block g (by rw [hz];omega) (fun hc=>?_)⟩⟩
  rcases hc with rfl | ⟨p,hp,rfl⟩
  ·
   omega
  ·
   simp at hp
   subst hp;dsimp only at hg;omega)
 go_upto_region 3 with (go_at_call 25;(with_reducible refine GO.out.mono ?_);rintro en w4 ⟨rfl,L,base,v,hR,hc,hown,hbel⟩;have RR:=hdd hR;have OW:=hdd hown;have BW:=hdd hbel;clear hR hown hbel)
 go_wp2_with fail
 go_ret
 exact ⟨L,base,v,rfl,RR.out,OW.out,by rw [hB];exact BW.out⟩
section
variable {s u:ByteArray} {o:Nat}
theorem win_str0 (W:Win s u 0 o s.size) {a b:Nat} (h:StrTok0 s a b):StrTok0 u (o+a) (o+b):=by
 have h1:=h.1
 have h2:=h.2.1
 have w:=W.sub a (b - a) Yy0
 rw [Nat.zero_add] at w
 have:=w.str0 (by rw [show a+(b - a)=b from Yy0];exact h)
 rwa [show o+a+(b - a)=o+b from Yy0] at this
theorem win_str (W:Win s u 0 o s.size) {a b:Nat} (h:StrTok s a b):StrTok u (o+a) (o+b):=by
 have h1:=h.1.1
 have h2:=h.1.2.1
 have w:=W.sub a (b - a) Yy0
 rw [Nat.zero_add] at w
 have:=w.str (by rw [show a+(b - a)=b from Yy0];exact h)
 rwa [show o+a+(b - a)=o+b from Yy0] at this
theorem win_at (W:Win s u 0 o s.size) {q:Nat} (h:q<s.size):bt u ((o+q:Nat):Int)=bt s (q:Int):=by
 have:=W.b q h
 rwa [Nat.zero_add] at this
theorem win_ext (W:Win s u 0 o s.size) {a b:Nat} (h1:a≤b) (h2:b≤s.size):u.extract (o+a) (o+b)=s.extract a b:=by
 have w:=W.sub a (b - a) Yy0
 rw [Nat.zero_add] at w
 have:=w.ext
 rwa [show o+a+(b - a)=o+b from Yy0,show a+(b - a)=b from Yy0] at this
theorem win_sq (W:Win s u 0 o s.size) {e:Nat}:∀ i d,Sq s e i d→Sq u (o+e) (o+i) d:=by
 have hz:=W.zu
 intro i d k
 induction k with
 | stop he hv=>exact .stop Yy0 (by rw [win_at W he];exact hv)
 | @plain i d hi hv r ih=>exact .plain Yy0 (by rw [win_at W hi];exact hv) ih
 | @opened i d hi hv r ih=>exact .opened Yy0 (by rw [win_at W hi];exact hv) ih
 | @shut i d hi hd hv r ih=>exact .shut Yy0 hd (by rw [win_at W hi];exact hv) ih
 | @str i j d hst r ih=>exact .str (win_str0 W hst) ih
theorem win_vk (W:Win s u 0 o s.size) {kd:Int} {i j:Nat} (k:VK s kd i j):VK u kd (o+i) (o+j):=by
 obtain ⟨h1,h2,h3⟩:=k
 have hz:=W.zu
 have up:∀ P:Int→Prop,(∀ q,i≤q→q<j→P (bt s (q:Int)))→∀ q,o+i≤q→q<o+j→P (bt u (q:Int)):=fun P hP q q1 q2=>by
  have:=win_at W (q:=q - o) Yy0
  rw [show o+(q - o)=q from Yy0] at this
  rw [this]
  exact hP _ Yy0 Yy0
 refine ⟨Yy0,Yy0,?_⟩
 rcases h3 with ⟨a,b⟩ | ⟨a,b,c⟩ | ⟨a,b⟩ | ⟨a,b⟩
 ·
  exact .inl ⟨a,win_str W b⟩
 ·
  exact .inr (.inl ⟨a,by rw [win_at W Yy0];exact b,up numOK c⟩)
 ·
  refine .inr (.inr (.inl ⟨?_,up (fun c=>97≤c∧c≤122) b⟩))
  rw [win_at W (q:=i) Yy0]
  rcases a with ⟨a1,a2,a3⟩ | a | a
  ·
   have hin:=bt_in a3 Yy2
   exact .inl ⟨a1,a2,by rw [show o+i+1=o+(i+1) from Yy0,win_at W hin];exact a3⟩
  ·
   exact .inr (.inl a)
  ·
   exact .inr (.inr a)
 ·
  refine .inr (.inr (.inr ⟨by rw [win_at W Yy0];exact a,?_⟩))
  have:=win_sq W _ _ b
  rwa [show o+(j - 1)=o+j - 1 from Yy0,show o+(i+1)=o+i+1 from Yy0] at this
end
def LX (u:ByteArray) (t:LV) (x:S26):Prop:=
 Ev (fun k=>spec_Read.f k (u.extract t.v t.j)) (x.f0,x.f1,x.f2,x.f3,true)∧SmOK x∧laws_gjKind.f x.f0=some (gkd t.kd)∧(x.f0=4→∀ str,KStr (u.extract (t.v+1) (t.j - 1)) str→str=x.f1)∧x.f0=t.kd
theorem leaf_kd {s:ByteArray} {kd:Int} {i j:Nat} (h:LeafOK s kd i j):kd=0∨kd=1∨kd=2∨kd=3∨kd=4:=by
 rcases h with h | h | h | h | h <;> (have:=h.1;omega)
theorem kind_t {s:ByteArray} {t:T} (h:t.wf s):laws_gjKind.f t.s.1=some (gkd t.s.1):=by
 cases t with
 | leaf kd i j=>
  rcases leaf_kd h.2.2 with e | e | e | e | e <;> (subst e;rfl)
 | arr i j es=>rfl
 | obj i j ms=>rfl
theorem lx_t {s u:ByteArray} (hs:s.size≤65536) {o:Nat} (W:Win s u 0 o s.size) {t:T} (h:t.wf s) (hp:t.pd s) (hj:t.j≤s.size):LX u ⟨t.s.1,o+t.i,o+t.j⟩ (t.n s):=by
 have hlt:=T.wf_lt t h
 refine ⟨?_,sm_t hs t h,by rw [T.n_kind];exact kind_t h,fun h4 str hk=>?_,T.n_kind s t⟩
 ·
  show Ev (fun k=>spec_Read.f k (u.extract (o+t.i) (o+t.j))) _
  rw [win_ext W Yy0 hj]
  exact read_val hs h
 ·
  rw [T.n_kind] at h4
  have vk:=wf_vk h
  have hst:StrTok s t.i t.j:=by
   rcases vk.2.2 with a | a | a | a <;> first | exact a.2 | omega
  have h2:=hst.1.1
  have e:u.extract (o+t.i+1) (o+t.j - 1)=s.extract (t.i+1) (t.j - 1):=by
   have:=win_ext W (a:=t.i+1) (b:=t.j - 1) Yy0 Yy0
   rwa [show o+(t.i+1)=o+t.i+1 from Yy0,show o+(t.j - 1)=o+t.j - 1 from Yy0] at this
  have hk':KStr (s.extract (t.i+1) (t.j - 1)) str:=by rw [← e];exact hk
  cases t with
  | leaf kd i j=>
   have h4':kd=4:=h4
   subst h4'
   have:=uq_is hs hst (hp rfl) hk'
   show str=(T.n s (.leaf 4 i j)).f1
   rw [T.n]
   show str=textOf s 4 i j
   rw [← this]
   rfl
  | arr i j es=>exact absurd (show (5:Int)=4 from h4) Yy2
  | obj i j ms=>exact absurd (show (6:Int)=4 from h4) Yy2
theorem bt_app_l {a b:ByteArray} {k:Nat} (h:k<a.size):bt (a ++ b) (k:Int)=bt a (k:Int):=by
 have h2:k<(a ++ b).size:=Yy57
 rw [PFnGjSquashItems.bt_at h2,PFnGjSquashItems.bt_at h,ByteArray.getElem_append_left h]
theorem bt_app_r {a b:ByteArray} {k:Nat} (h:k<b.size):bt (a ++ b) ((a.size+k:Nat):Int)=bt b (k:Int):=by
 have h2:a.size+k<(a ++ b).size:=Yy57
 rw [PFnGjSquashItems.bt_at h2,PFnGjSquashItems.bt_at h,ByteArray.getElem_append_right Yy0]
 simp
theorem blk_le {s:ByteArray} {i j q:Nat} (h:Blk s i j) (h1:i≤q) (h2:q<j):bt s (q:Int)≤32:=by
 have:=isB_le (h.2.2 q h1 h2)
 omega
theorem tx_of (e:Bool):∀ {ls:List ByteArray} {xs:List S26},Two LnOK ls xs→∀ (u:ByteArray) (p o:Nat),p≤o→(∀ q,p≤q→q<o→bt u (q:Int)≤32)→(∀ k:Nat,k<(ltx e ls).size→bt u ((o+k:Nat):Int)=bt (ltx e ls) (k:Int))→u.size=o+(ltx e ls).size →
  ∃ l,Tx u p l∧Two (LX u) l xs:=by
 intro ls xs h
 induction h with
 | nil=>
  intro u p o hpo hb _ hz
  have hz':u.size=o:=hz
  exact ⟨[],.nil Yy0 (fun q h1 h2=>hb q h1 Yy0),.nil⟩
 | @cons x n ls xs hx r ih=>
  intro u p o hpo hb hw hz
  obtain ⟨hs,h10,t,hwf,rfl,hb0,hbj,hpd⟩:=hx
  rw [ltx] at hw hz
  obtain ⟨sep,hsep⟩:∃ sep,(if e || !ls.isEmpty then lnl else (⟨#[]⟩:ByteArray))=sep:=⟨_,rfl⟩
  rw [hsep] at hw hz
  rw [ByteArray.size_append,ByteArray.size_append] at hz
  have htj:=(wf_sq t hwf).1
  have hlt:=T.wf_lt t hwf
  have hti:=hb0.1
  have W:Win x u 0 o x.size:=⟨fun k hk=>by rw [Nat.zero_add,hw k Yy57,bt_app_l hk],Yy0,Yy0⟩
  have hsb:sep.size≤1∧(∀ k:Nat,k<sep.size→bt sep (k:Int)≤32)∧(sep.size=0→ls = []):=by
   rw [← hsep]
   split
   ·
    refine ⟨nlr _,fun k hk=>?_,fun h=>absurd h Yy2⟩
    have hk':k<1:=hk
    obtain rfl:k=0:=Yy0
    show bt lnl 0≤32
    decide
   ·
    rename_i hn
    refine ⟨Nat.zero_le _,fun k hk=>absurd hk (Nat.not_lt_zero _),fun _=>?_⟩
    simp only [Bool.or_eq_true,Bool.not_eq_true',not_or] at hn
    exact List.isEmpty_iff.mp (by simpa using hn.2)
  have rest:∀ k:Nat,k<sep.size+(ltx e ls).size→bt u ((o+x.size+k:Nat):Int)=bt (sep ++ ltx e ls) (k:Int):=fun k hk=>by
   rw [Nat.add_assoc,hw (x.size+k) (by rw [ByteArray.size_append,ByteArray.size_append];omega),bt_app_r Yy57]
  have gap:∀ q,o+t.j≤q→q<o+x.size+sep.size→bt u (q:Int)≤32:=fun q h1 h2=>by
   rcases Nat.lt_or_ge q (o+x.size) with h3 | h3
   ·
    have:=win_at W (q:=q - o) Yy0
    rw [show o+(q - o)=q from Yy0] at this
    rw [this]
    exact blk_le hbj Yy0 Yy0
   ·
    have:=rest (q - (o+x.size)) Yy0
    rw [show o+x.size+(q - (o+x.size))=q from Yy0] at this
    rw [this,bt_app_l Yy0]
    exact hsb.2.1 _ Yy0
  obtain ⟨l,hT,hX⟩:=ih u (o+t.j) (o+x.size+sep.size) Yy0 gap (fun k hk=>by rw [Nat.add_assoc,rest (sep.size+k) Yy0,bt_app_r hk]) Yy0
  have hne:NumEnd u (o+t.j):=by
   by_cases hq:o+t.j=u.size
   ·
    exact .inl hq
   ·
    refine .inr (.inl ?_)
    rcases Nat.lt_or_ge (o+t.j) (o+x.size+sep.size) with h3 | h3
    ·
     exact gap _ (nlr _) h3
    ·
     exfalso
     have h0:sep.size=0:=Yy0
     have:=hsb.2.2 h0
     subst this
     have:(ltx e []).size=0:=rfl
     omega
  exact ⟨⟨t.s.1,o+t.i,o+t.j⟩ :: l,.cons (by show p≤o+t.i;omega) (fun q h1 h2=>by
   have h2':q<o+t.i:=h2
   rcases Nat.lt_or_ge q o with h3 | h3
   ·
    exact hb q h1 h3
   ·
    have:=win_at W (q:=q - o) Yy0
    rw [show o+(q - o)=q from Yy0] at this
    rw [this]
    exact blk_le hb0 Yy0 Yy0) (win_vk W (wf_vk hwf)) hne hT,.cons (lx_t hs W hwf hpd htj) hX⟩
theorem zz_l0 (ls:List ByteArray) (hl:ls.length≤2147483647):∀ m i:Nat,ls.length - i=m→i≤ls.length→∃ b,Ev (fun k=>laws_zzFits1.l0 k ls (ls.length:Int) (i:Int)) b∧(b=true→∀ x∈ls.drop i,x.size≤2147483647):=by
 intro m
 induction m with
 | zero=>
  intro i hm hi
  exact ⟨true,Ev.step (f:=fun _=>some true) (fun n=>by rw [laws_zzFits1.l0,if_neg Yy0]) (Ev.now _),fun _ x hx=>by rw [List.drop_eq_nil_of_le Yy0] at hx;cases hx⟩
 | succ m ih=>
  intro i hm hi
  have hlt:i<ls.length:=Yy0
  obtain ⟨b,h1,h2⟩:=ih (i+1) Yy0 Yy0
  have hr:=rdOf_at hlt
  by_cases hz:((ls[i].size:Nat):Int) > 2147483647
  ·
   exact ⟨false,Ev.step (f:=fun _=>some false) (fun n=>by rw [laws_zzFits1.l0,if_pos Yy0,if_pos Yy0,if_pos Yy0,hr,if_pos hz]) (Ev.now _),fun h=>Yy15⟩
  ·
   refine ⟨b,Ev.step (fun n=>?_) h1,fun hb x hx=>?_⟩
   ·
    rw [laws_zzFits1.l0,if_pos Yy0,if_pos Yy0,if_pos Yy0,hr,if_neg hz,w64 Yy0 Yy0]
    rfl
   ·
    rw [List.drop_eq_getElem_cons hlt] at hx
    rcases List.mem_cons.mp hx with rfl | hx
    ·
     omega
    ·
     exact h2 hb x hx
theorem zz_ev (ls:List ByteArray):∃ b,Ev (fun k=>laws_zzFits1.f k ls) b∧(b=true→ls.length≤2147483647∧∀ x∈ls,x.size≤2147483647):=by
 by_cases hl:(ls.length:Int) > 2147483647
 ·
  exact ⟨false,Ev.step (f:=fun _=>some false) (fun n=>by rw [laws_zzFits1.f,if_pos hl]) (Ev.now _),fun h=>Yy15⟩
 ·
  obtain ⟨b,h1,h2⟩:=zz_l0 ls Yy0 _ 0 rfl (Nat.zero_le _)
  exact ⟨b,Ev.congr (fun n=>by rw [laws_zzFits1.f,if_neg hl];rfl) h1,fun hb=>⟨Yy0,by simpa using h2 hb⟩⟩
theorem runl_len {u:ByteArray} {stop:Int} {L0 L:List (RV×RV)} {l:List LV} (h:RunL u (contS stop) L0 l L) :
  ∃ P,L=L0 ++ P∧P.length≤l.length∧(P.length=l.length∨(((L0.length+P.length:Nat):Int)=stop∧P≠[]))∧(∀ k:Nat,1≤k→k<P.length→((L0.length+k:Nat):Int)≠stop) ∧
   ∀ (k:Nat) (t:LV) (p:RV×RV),l[k]? = some t→P[k]? = some p→LOK u t p.1:=by
 induction h with
 | nil L=>exact ⟨[],Yy3,Yy3,.inl rfl,fun k h1 h2=>absurd h2 Yy3,fun k t p h1 h2=>by simp at h2⟩
 | @stop L t l p hp hc=>
  refine ⟨[(p,RV.z)],rfl,Yy3,.inr ⟨?_,Yy3⟩,fun k h1 h2=>?_,fun k t' p' h1 h2=>?_⟩
  ·
   unfold contS at hc
   rw [List.length_append] at hc
   simpa using hc
  ·
   have h3:k<1:=h2
   omega
  ·
   cases k with
   | zero=>obtain rfl:=Option.some.inj h1;obtain rfl:=Option.some.inj h2;exact hp
   | succ k=>simp at h2
 | @next L Z t l p hp hc r ih=>
  obtain ⟨P,e1,e2,e3,e4,e5⟩:=ih
  have hn:((L.length+1:Nat):Int)≠stop:=by
   unfold contS at hc
   rw [List.length_append] at hc
   simpa using hc
  have hle:(L ++ [(p,RV.z)]).length=L.length+1:=Yy3
  rw [hle] at e3 e4
  refine ⟨(p,RV.z) :: P,by rw [e1];simp,by simpa using e2,?_,fun k h1 h2=>?_,fun k t' p' h1 h2=>?_⟩
  ·
   rcases e3 with e3 | ⟨e3,_⟩
   ·
    exact .inl (by simp [e3])
   ·
    exact .inr ⟨by rw [List.length_cons];omega,Yy3⟩
  ·
   rcases eol h1 with h3 | h3
   ·
    subst h3;exact hn
   ·
    have h5:k<P.length+1:=h2
    have:=e4 (k - 1) Yy0 Yy0
    intro h4
    exact this Yy0
  ·
   cases k with
   | zero=>obtain rfl:=Option.some.inj h1;obtain rfl:=Option.some.inj h2;exact hp
   | succ k=>exact e5 k t' p' h1 h2
def LG (r:RV) (x:S26):Prop:=
 Ev (fun k=>spec_Read.f k r.raw) (x.f0,x.f1,x.f2,x.f3,true)∧SmOK x∧laws_gjKind.f x.f0=some r.k∧(x.f0=4→r.str=x.f1)∧(r.k != 0 || (r.raw.size:Int) != 0)=true
theorem two_get {α β:Type} {R:α→β→Prop} {l:List α} {m:List β} (h:Two R l m):∀ {k:Nat} {b:β},m[k]? = some b→∃ a,l[k]? = some a∧R a b:=by
 induction h with
 | nil=>intro k b hb;simp at hb
 | @cons a b l m h r ih=>
  intro k b' hb
  cases k with
  | zero=>obtain rfl:=Option.some.inj hb;exact ⟨a,rfl,h⟩
  | succ k=>exact ih hb
theorem Tx.in {u:ByteArray} {p:Nat} {l:List LV} (h:Tx u p l):∀ t∈l,t.v<t.j∧t.j≤u.size:=by
 induction h with
 | nil=>intro t ht;cases ht
 | cons h hb vk he r ih=>
  intro t ht
  rcases List.mem_cons.mp ht with rfl | ht
  ·
   exact ⟨vk.1,vk.2.1⟩
  ·
   exact ih t ht
theorem tx_few {u:ByteArray} {p:Nat} {l:List LV} (h:Tx u p l):p+l.length≤u.size:=by
 induction h with
 | nil h _=>exact h
 | cons h hb vk he r ih=>have:=vk.1;rw [List.length_cons];omega
theorem runl_sum {u:ByteArray} {stop:Int} {l:List LV} {xs:List S26} (hT:Tx u 0 l) (hX:Two (LX u) l xs) {m:Nat} (hm:m=if 0<stop∧stop<(xs.length:Int) then stop.toNat else xs.length) {L:List (RV×RV)} (h:RunL u (contS stop) [] l L) :
  L.length=m∧m≤xs.length∧∀ (k:Nat) (a:RV×RV) (x:S26),L[k]? = some a→xs[k]? = some x→LG a.1 x:=by
 obtain ⟨P,e1,e2,e3,e4,e5⟩:=runl_len h
 rw [List.nil_append] at e1
 subst e1
 have hlen:=hX.len
 have hz:([]:List (RV×RV)).length=0:=rfl
 rw [hz] at e3 e4
 have hml:m≤xs.length:=by
  rw [hm]
  split <;> omega
 refine ⟨?_,hml,fun k a x ha hx=>?_⟩
 ·
  rw [hm]
  split
  ·
   rename_i hc
   rcases e3 with e3 | ⟨e3,_⟩
   ·
    exact absurd (show ((0+stop.toNat:Nat):Int)=stop from Yy0) (e4 stop.toNat Yy0 Yy0)
   ·
    omega
  ·
   rename_i hc
   rcases e3 with e3 | ⟨e3,e6⟩
   ·
    omega
   ·
    have:0<L.length:=List.length_pos_iff.mpr e6
    omega
 ·
  obtain ⟨t,ht,h1,h2,h3,h4,h5⟩:=two_get hX hx
  obtain ⟨g1,g2,g3,g4⟩:=e5 k t a ht ha
  have hin:=hT.in t (List.mem_of_getElem? ht)
  have hz:a.1.raw.size≠0:=by rw [g2,ByteArray.size_extract];omega
  refine ⟨by rw [g2];exact h1,h2,by rw [g1];exact h3,fun h=>h4 h _ (g3 (by rw [← h5];exact h)),?_⟩
  rw [Bool.or_eq_true]
  exact .inr (bne_iff_ne.mpr Yy0)
end Go.Proofs.YtieflhncpjjciaaGreatDoor.Dc
