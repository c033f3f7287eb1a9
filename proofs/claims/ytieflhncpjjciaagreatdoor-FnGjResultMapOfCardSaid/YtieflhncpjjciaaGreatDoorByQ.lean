/- Walks and plain laws of this claim. -/
import Derived.Test.YtieflhncpjjciaaGreatDoorByP
import Derived.Test.YtieflhncpjjciaaGreatDoorVx12
import Derived.Maps.RangeWalk
import Derived.Deep.RegionHeld3
import Derived.Test.YtieflhncpjjciaaGreatDoorByB
import Derived.Shelf.Sort.Plain
import Derived.Test.YtieflhncpjjciaaGreatDoorProg
import Derived.Test.YtieflhncpjjciaaGreatDoorByA
set_option maxHeartbeats 8000000
set_option maxRecDepth 100000
set_option linter.unusedVariables false
set_option linter.unusedSimpArgs false
namespace Go.Proofs.YtieflhncpjjciaaGreatDoor.Dc
open Go Go.RowKit Go.Proofs.YtieflhncpjjciaaGreatDoorW.PrintWords Go.Proofs.YtieflhncpjjciaaGreatDoor.PFnGjSquashItems
theorem run_store_map {P:Program} {w:World} (a:Addr) (m:Mode) (x:Option Nat):(store a (.map x) m).run P w=stored P w a (.map x) m:=run_store P w a _ m rfl
attribute [local go_sem] run_store_flt run_store_map
theorem law9:Maps.Keyed Tryz.prog 9:=Maps.string_keyed Tryz.underlying9
theorem zero61 (w:World):(zeroValue 61).run Tryz.prog w = .ok (.agg #[.int .i64 0,.string ⟨#[]⟩,.string ⟨#[]⟩,.float .f64 0,.int .i64 0,.slice none 0 0]) w:=Yy1
theorem key9 {s:ByteArray} (h:s.size≤maxLen):keyOf Tryz.prog 9 (.string s)=some (.string s.data.toList):=WideMaps.keyOf_string_mk Tryz.underlying9 h
theorem wpList_lookup_miss {P:Program} (w:World) {ops:Array Oper} {rest:List Oper} {o:Oper} {a:Act} {Q:Exit→Act→World→Prop} (hg:o.guard=none) (m x:Operand) (t:TypeId) (hop:o.op=Op.lookup t m x true)
  (k e:TypeId) (K:Maps.Keyed P k) (ht:P.underlying t=some (.map k e)) {R:Value→Option (DataW Unit×List MemPlace)} {z:Value} (hz:(zeroValue e).run P w = .ok z w) (b n:Nat) (D:DataW Unit)
  (hm:a.eval m = .map (some b)) (hown:w.ownsMap P k R b n D) (key:Value) (kl:Lit) (hx:a.eval x=key) (hkey:keyOf P k key=some kl) (hno:Maps.has D kl=false)
  (hK:wpList P ops Q rest (a.put o.dst (.tuple #[z,.bool false])) w) :
  wpList P ops Q (o :: rest) a w:=by
 refine wpList_plain hg fun K' hK'=>?_
 have hrun:(Instr.lookup t (.map (some b)) key true).run P w = .ok (.tuple #[z,.bool false]) w:=by
  obtain ⟨es,clock,hb,F,_,rfl⟩:=hown
  rcases Maps.fit_look true K ht hz hb F hkey with ⟨hrun,_,hat⟩ | ⟨e0,y,_,_,hrun,hRv,hat,_⟩
  ·
   exact hrun
  ·
   rw [Maps.has_true_of_atKey hat] at hno;cases hno
 unfold Oper.wp
 simp [execOp,hop,hm,hx,hrun,Result.andThen]
 exact hK' _ _ hK
theorem vk_nosp {u:ByteArray} {kd:Int} {v j:Nat} (h:VK u kd v j):32<bt u (v:Int):=by
 obtain ⟨h1,h2,a | a | a | a⟩:=h
 ·
  have:=a.2.1.2.2.1;omega
 ·
  have:=a.2.1;omega
 ·
  have:=a.2 v (nlr _) h1;omega
 ·
  rcases a.1 with b | b <;> omega
def aRow (M:Nat):List Value:=[.slice none 0 0,.slice none 0 0,.map (some M),.map none,.int .u8 123]
structure AM (u:ByteArray) (nm:ItT→ByteArray) (l:List ItT) (w:World) (B M k:Nat) (key val:RV) (wr:World):Prop where
 tr:wr.rangeAt B 0 (RV.cl ⟨5,u,⟨#[]⟩,0,0⟩)
 rr:wr.rangeAt (B+1) 0 (aRow M)
 vr:wr.rangeAt (B+2) 0 val.cl
 vt:wr.there (B+2) 0 6
 kr:wr.rangeAt (B+3) 0 key.cl
 kt:wr.there (B+3) 0 6
 mp:∃ D,wr.ownsMap Tryz.prog 9 rvR M k D∧MapHas u nm l k D
 be:Below B w wr
 mb:B+4≤M
section
variable {u:ByteArray} {nm:ItT→ByteArray} {l:List ItT} {w wr w':World} {B M k:Nat} {key val:RV}
theorem AM.ms (h:AM u nm l w B M k key val wr):M<wr.heap.size:=by obtain ⟨D,hD,_⟩:=h.mp;exact hD.lt
theorem AM.below (h:AM u nm l w B M k key val wr) (hb:Below wr.heap.size wr w'):AM u nm l w B M k key val w':=by
 have hm:=h.ms
 have mb:=h.mb
 obtain ⟨D,hD,hh⟩:=h.mp
 have hg:wr.grownBy w' none:=⟨hb.os,hb.tape,hb.output,hb.size,fun i hi _=>hb.block i hi⟩
 exact ⟨rng_b h.tr hb,rng_b h.rr hb,rng_b h.vr hb,thr_b h.vt hb,rng_b h.kr hb,thr_b h.kt hb,⟨D,hD.kept hg Yy4,hh⟩,h.be.trans (hb.mono Yy0),mb⟩
theorem AM.valSet (h:AM u nm l w B M k key val wr) (i:Nat) (hl:i<6) (v:Value) (val':RV) (hk:val.cl.set i v=val'.cl):AM u nm l w B M k key val' (wr.setCell ⟨B+2,i,none⟩ v):=by
 have mb:=h.mb
 obtain ⟨D,hD,hh⟩:=h.mp
 exact ⟨rng_oth h.tr (B+2) i v Yy0,rng_oth h.rr (B+2) i v Yy0,Yy90,thr_set h.vt _ v,rng_oth h.kr (B+2) i v Yy0,thr_set h.kt _ v,⟨D,hD.setCell (by show M≠B+2;omega) v,hh⟩,h.be.setCell (p:=⟨B+2,i,none⟩) (by show B≤B+2;omega) v,mb⟩
theorem AM.keySet (h:AM u nm l w B M k key val wr) (i:Nat) (hl:i<6) (v:Value) (key':RV) (hk:key.cl.set i v=key'.cl):AM u nm l w B M k key' val (wr.setCell ⟨B+3,i,none⟩ v):=by
 have mb:=h.mb
 obtain ⟨D,hD,hh⟩:=h.mp
 exact ⟨rng_oth h.tr (B+3) i v Yy0,rng_oth h.rr (B+3) i v Yy0,rng_oth h.vr (B+3) i v Yy0,thr_set h.vt _ v,by rw [← hk];exact rng_set h.kr i v Yy51,thr_set h.kt _ v,⟨D,hD.setCell (by show M≠B+3;omega) v,hh⟩,h.be.setCell (p:=⟨B+3,i,none⟩) (by show B≤B+3;omega) v,mb⟩
theorem AM.keyAll (h:AM u nm l w B M k key val wr) (key':RV):AM u nm l w B M k key' val ((((((wr.setCell ⟨B+3,0,none⟩ (.int .i64 key'.k)).setCell ⟨B+3,1,none⟩ (.string key'.raw)).setCell ⟨B+3,2,none⟩ (.string key'.str)).setCell ⟨B+3,3,none⟩ (.float .f64 key'.q)).setCell ⟨B+3,4,none⟩ (.int .i64 key'.ix)).setCell ⟨B+3,5,none⟩ (.slice none 0 0)):=
 (((((h.keySet 0 Yy0 _ ⟨key'.k,key.raw,key.str,key.q,key.ix⟩ rfl).keySet 1 Yy0 _ ⟨key'.k,key'.raw,key.str,key.q,key.ix⟩ rfl).keySet 2 Yy0 _ ⟨key'.k,key'.raw,key'.str,key.q,key.ix⟩ rfl).keySet 3 Yy0 _ ⟨key'.k,key'.raw,key'.str,key'.q,key.ix⟩ rfl).keySet 4 Yy0 _ ⟨key'.k,key'.raw,key'.str,key'.q,key'.ix⟩ rfl).keySet 5 Yy0 _ key' rfl
theorem AM.put (h:AM u nm l w B M k key val wr) {D':DataW Unit} (ho:w'.ownsMap Tryz.prog 9 rvR M (k+1) D') (hh:MapHas u nm l (k+1) D') (hg:wr.grownBy w' (some M)):AM u nm l w B M (k+1) key val w':=by
 have hm:=h.ms
 have mb:=h.mb
 have hb:Below M wr w':=⟨hg.os,hg.tape,hg.output,hg.size,fun i hi=>hg.block i Yy0 (by intro e;injection e with e;omega)⟩
 have rg:∀ {b:Nat} {cs:List Value},b<M→wr.rangeAt b 0 cs→w'.rangeAt b 0 cs:=fun hb' hr j v hv=>by rw [hb.cell (p:=⟨_,_,none⟩) (by show _<M;exact hb')];exact hr j v hv
 have th:∀ {b n:Nat},b<M→wr.there b 0 n→w'.there b 0 n:=fun hb' hr j hj=>by rw [hb.cell (p:=⟨_,_,none⟩) (by show _<M;exact hb'),hb.frozen (p:=⟨_,_,none⟩) (by show _<M;exact hb')];exact hr j hj
 exact ⟨rg Yy0 h.tr,rg Yy0 h.rr,rg Yy0 h.vr,th Yy0 h.vt,rg Yy0 h.kr,th Yy0 h.kt,⟨D',ho,hh⟩,h.be.trans (hb.mono Yy0),mb⟩
end
def Ph (l:List ItT) (nm:ItT→ByteArray) (c k:Nat) (L:List (Int×Nat×Nat)) (key:RV):Prop:=
 k≤l.length∧((c=2 * k∧L=toks (l.drop k))∨(c=2 * k+1∧∃ t,l[k]? = some t∧L=(t.kd,t.v,t.j) :: toks (l.drop (k+1))∧key.str=nm t))
theorem Ph.end_ {l:List ItT} {nm:ItT→ByteArray} {c k:Nat} {key:RV} (h:Ph l nm c k [] key):k=l.length:=by
 obtain ⟨h0,⟨_,h2⟩ | ⟨_,t,_,h2,_⟩⟩:=h
 ·
  cases hd:l.drop k with
  | nil=>rw [List.drop_eq_nil_iff] at hd;omega
  | cons t r=>rw [hd] at h2;simp [toks] at h2
 ·
  cases h2
theorem Ph.tok {l:List ItT} {nm:ItT→ByteArray} {c k:Nat} {L:List (Int×Nat×Nat)} {key:RV} {kd:Int} {q j:Nat} (h:Ph l nm c k ((kd,q,j) :: L) key) :
  (c % 2=0∧∃ t,l[k]? = some t∧kd=4∧t.ni=q∧t.nj=j∧∀ key':RV,key'.str=nm t→Ph l nm (c+1) k L key') ∨
  (c % 2=1∧∃ t,l[k]? = some t∧t.kd=kd∧t.v=q∧t.j=j∧key.str=nm t∧∀ key':RV,Ph l nm (c+1) (k+1) L key'):=by
 obtain ⟨h0,⟨h1,h2⟩ | ⟨h1,t,h2,h3,h4⟩⟩:=h
 ·
  refine .inl ⟨Yy0,?_⟩
  cases hd:l.drop k with
  | nil=>rw [hd] at h2;cases h2
  | cons t r=>
   have hk:k<l.length:=by
    rcases Nat.lt_or_ge k l.length with e | e
    ·
     exact e
    ·
     rw [List.drop_eq_nil_of_le e] at hd;cases hd
   rw [List.drop_eq_getElem_cons hk] at hd
   injection hd with e1 e2
   rw [List.drop_eq_getElem_cons hk,e1,toks] at h2
   injection h2 with e3 e4
   injection e3 with e5 e6
   injection e6 with e6 e7
   exact ⟨t,by rw [List.getElem?_eq_getElem hk,e1],e5,e6.symm,e7.symm,fun key' hk'=>⟨h0,.inr ⟨Yy0,t,by rw [List.getElem?_eq_getElem hk,e1],e4,hk'⟩⟩⟩
 ·
  have hk:=(List.getElem?_eq_some_iff.mp h2).1
  injection h3 with e3 e4
  injection e3 with e5 e6
  injection e6 with e6 e7
  exact .inr ⟨Yy0,t,h2,e5.symm,e6.symm,e7.symm,h4,fun key'=>⟨Yy0,.inl ⟨Yy0,e4⟩⟩⟩
def TV (u:ByteArray) (kd:Int) (q j:Nat) (val:RV):Prop:=val.k=gkd kd∧val.raw=u.extract q j∧(kd=4→KStr (u.extract (q+1) (j - 1)) val.str)∧(kd≠4→val.str=⟨#[]⟩)
def AomPost (u:ByteArray) (nm:ItT→ByteArray) (l:List ItT) (w:World) (en:Ending) (w':World):Prop:=
 ∃ M,en = .returned (.agg #[.slice none 0 0,.slice none 0 0,.map (some M),.map none,.int .u8 123])∧(∃ D,w'.ownsMap Tryz.prog 9 rvR M l.length D∧MapHas u nm l l.length D)∧Below w.heap.size w w'∧w.heap.size≤M
theorem aom_any {w:World} {b0:Nat} (h:TS w b0) (hBB:b0≤w.heap.size) (u:ByteArray) (hs:u.size≤65536) (h0:bt u 0=123) (nm:ItT→ByteArray) (l:List ItT) (hT:Tkn u 1 (toks l)) (hnm:∀ t∈l,∀ str,KStr (u.extract (t.ni+1) (t.nj - 1)) str→str=nm t) (hnz:∀ t∈l,(nm t).size≤262144) (ha:Apart nm l) (hl:l.length≤65536) :
  Calls Tryz.prog 70 #[.agg #[.int .i64 5,.string u,.string ⟨#[]⟩,.float .f64 0,.int .i64 0,.slice none 0 0],.int .u8 123,.bool false] w (AomPost u nm l w):=by
 obtain ⟨B,hB⟩:∃ B,w.heap.size=B:=⟨_,rfl⟩
 have ss:(u.size:Int)≤65536:=Yy0
 have hus:0<u.size:=bt_in (s:=u) (i:=0) h0 Yy3
 have HM:=hdd h;have HBB:=hdd hBB;have HT:=hdd hT;have HNM:=hdd hnm;have HNZ:=hdd hnz;have HA:=hdd ha;have HL:=hdd hl
 rw [show (0:Int)=((0:Nat):Int) from rfl,PFnGjSquashItems.bt_at hus] at h0
 clear h hBB hT hnm hnz ha hl
 have hmm:=@run_makeMap Tryz.prog
 go_enter Tryz.func70,Tryz.ntmps70
 go_wp2_with fail
 refine scope_labels (fun _ _ _=>False) ?_ (fun l a w h=>h.elim)
 go_upto_region 1 with (fail)
 obtain ⟨w0,hw0⟩:∃ w0,(w.alloc (Obj.cells #[.int .i64 5,.string u,.string ⟨#[]⟩,.float .f64 0,.int .i64 0,.slice none 0 0] 61)).alloc (Obj.cells #[.slice none 0 0,.slice none 0 0,.map none,.map none,.int .u8 0] 110)=w0:=⟨_,rfl⟩
 have s0:w0.heap.size=B+2:=Yy42
 have n0:(w.alloc (Obj.cells #[.int .i64 5,.string u,.string ⟨#[]⟩,.float .f64 0,.int .i64 0,.slice none 0 0] 61)).heap.size=w.heap.size+1:=by simp [go_sem]
 have b0':Below B w w0:=by rw [← hw0];exact ((Below.refl _ w).alloc Yy0 _).alloc (by simp [go_sem];omega) _
 have r0:w0.rangeAt B 0 [.int .i64 5,.string u,.string ⟨#[]⟩,.float .f64 0,.int .i64 0,.slice none 0 0]:=by rw [← hw0,← hB];exact rng_al (rng_new w [.int .i64 5,.string u,.string ⟨#[]⟩,.float .f64 0,.int .i64 0,.slice none 0 0] 61) _
 have r1:w0.rangeAt (B+1) 0 [.slice none 0 0,.slice none 0 0,.map none,.map none,.int .u8 0]:=by rw [← hw0,← hB];have hn:=rng_new (w.alloc (Obj.cells #[.int .i64 5,.string u,.string ⟨#[]⟩,.float .f64 0,.int .i64 0,.slice none 0 0] 61)) [.slice none 0 0,.slice none 0 0,.map none,.map none,.int .u8 0] 110;rwa [n0] at hn
 have t1:w0.there (B+1) 0 5:=by rw [← hw0,← hB];have hn:=thr_new (w.alloc (Obj.cells #[.int .i64 5,.string u,.string ⟨#[]⟩,.float .f64 0,.int .i64 0,.slice none 0 0] 61)) [.slice none 0 0,.slice none 0 0,.map none,.map none,.int .u8 0] 110;rwa [n0] at hn
 rw [hw0]
 clear hw0 n0
 have c1:w0.cell? ⟨B,1,none⟩=some (.string u):=r0 1 _ rfl
 have R0:=hdd r0;have R1:=hdd r1;have T1:=hdd t1;have B0:=hdd b0'
 clear r0 r1 t1 b0'
 go_upto_block 2 with (fail)
 obtain ⟨w1,hw1⟩:∃ w1,(w0.alloc (Obj.cells #[.int .i64 0,.string ⟨#[]⟩,.string ⟨#[]⟩,.float .f64 0,.int .i64 0,.slice none 0 0] 61)).alloc (Obj.cells #[.int .i64 0,.string ⟨#[]⟩,.string ⟨#[]⟩,.float .f64 0,.int .i64 0,.slice none 0 0] 61)=w1:=⟨_,rfl⟩
 have n1:(w0.alloc (Obj.cells #[.int .i64 0,.string ⟨#[]⟩,.string ⟨#[]⟩,.float .f64 0,.int .i64 0,.slice none 0 0] 61)).heap.size=w0.heap.size+1:=by simp [go_sem]
 have s1:w1.heap.size=B+4:=by rw [← hw1,World.size_alloc,n1,s0]
 have B1:Hid (Below B w w1):=hdd (by rw [← hw1];exact (B0.out.alloc Yy0 _).alloc (by rw [n1,s0];omega) _)
 have Q0:Hid (w1.rangeAt B 0 [.int .i64 5,.string u,.string ⟨#[]⟩,.float .f64 0,.int .i64 0,.slice none 0 0]):=hdd (by rw [← hw1];exact rng_al (rng_al R0.out _) _)
 have Q1:Hid (w1.rangeAt (B+1) 0 [.slice none 0 0,.slice none 0 0,.map none,.map none,.int .u8 0]):=hdd (by rw [← hw1];exact rng_al (rng_al R1.out _) _)
 have U1:Hid (w1.there (B+1) 0 5):=hdd (by rw [← hw1];exact thr_al (thr_al T1.out _) _)
 have Q2:Hid (w1.rangeAt (B+2) 0 [.int .i64 0,.string ⟨#[]⟩,.string ⟨#[]⟩,.float .f64 0,.int .i64 0,.slice none 0 0]):=hdd (by rw [← hw1,← s0];exact rng_al (rng_new w0 [.int .i64 0,.string ⟨#[]⟩,.string ⟨#[]⟩,.float .f64 0,.int .i64 0,.slice none 0 0] 61) _)
 have U2:Hid (w1.there (B+2) 0 6):=hdd (by rw [← hw1,← s0];exact thr_al (thr_new w0 [.int .i64 0,.string ⟨#[]⟩,.string ⟨#[]⟩,.float .f64 0,.int .i64 0,.slice none 0 0] 61) _)
 have Q3:Hid (w1.rangeAt (B+3) 0 [.int .i64 0,.string ⟨#[]⟩,.string ⟨#[]⟩,.float .f64 0,.int .i64 0,.slice none 0 0]):=hdd (by rw [← hw1];have hn:=rng_new (w0.alloc (Obj.cells #[.int .i64 0,.string ⟨#[]⟩,.string ⟨#[]⟩,.float .f64 0,.int .i64 0,.slice none 0 0] 61)) [.int .i64 0,.string ⟨#[]⟩,.string ⟨#[]⟩,.float .f64 0,.int .i64 0,.slice none 0 0] 61;rwa [n1,s0] at hn)
 have U3:Hid (w1.there (B+3) 0 6):=hdd (by rw [← hw1];have hn:=thr_new (w0.alloc (Obj.cells #[.int .i64 0,.string ⟨#[]⟩,.string ⟨#[]⟩,.float .f64 0,.int .i64 0,.slice none 0 0] 61)) [.int .i64 0,.string ⟨#[]⟩,.string ⟨#[]⟩,.float .f64 0,.int .i64 0,.slice none 0 0] 61;rwa [n1,s0] at hn)
 rw [hw1]
 try rw [show B+2+1=B+3 from rfl]
 clear hw1 n1 c1 R0 R1 T1 B0
 go_cut [8] (fun v8 wc=>v8 = .int .i64 1∧Hid (wc=w1))
 case first=>
  have c1:w1.cell? ⟨B,1,none⟩=some (.string u):=Q0.out 1 _ rfl
  go_wp2_with fail
  go_loopg [8] 0 (fun m v8 wr=>v8 = .int .i64 0∧Hid (wr=w1))
  case atStart=>exact ⟨rfl,hdd rfl⟩
  case round=>
   obtain ⟨rfl,hwr⟩:=hrel
   obtain rfl:=hwr.out
   have z1:decide (0<u.size)=true:=dtt hus
   have z2:decide ((0:Int)<(u.size:Int))=true:=dtt Yy0
   go_wp2_with fail
   go_meet
   exact ⟨rfl,hdd rfl⟩
 case rest=>
  obtain ⟨rfl,hwc⟩:=hcut
  obtain rfl:=hwc.out
  clear hwc h0
  have d4:wc.cell? ⟨B+1,4,none⟩=some (.int .u8 0):=Q1.out 4 _ rfl
  have f4:wc.frozen? ⟨B+1,4,none⟩=false:=(U1.out 4 Yy0).2
  go_upto_region 19 with (fail)
  obtain ⟨w2,hw2⟩:∃ w2,wc.setCell ⟨B+1,4,none⟩ (.int .u8 123)=w2:=⟨_,rfl⟩
  have P0:Hid (w2.rangeAt B 0 [.int .i64 5,.string u,.string ⟨#[]⟩,.float .f64 0,.int .i64 0,.slice none 0 0]):=hdd (by rw [← hw2];exact rng_oth Q0.out (B+1) 4 _ Yy0)
  have P1:Hid (w2.rangeAt (B+1) 0 [.slice none 0 0,.slice none 0 0,.map none,.map none,.int .u8 123]):=hdd (by rw [← hw2];exact rng_set Q1.out 4 _ Yy4)
  have V1:Hid (w2.there (B+1) 0 5):=hdd (by rw [← hw2];exact thr_set U1.out _ _)
  have P2:Hid (w2.rangeAt (B+2) 0 [.int .i64 0,.string ⟨#[]⟩,.string ⟨#[]⟩,.float .f64 0,.int .i64 0,.slice none 0 0]):=hdd (by rw [← hw2];exact rng_oth Q2.out (B+1) 4 _ Yy0)
  have V2:Hid (w2.there (B+2) 0 6):=hdd (by rw [← hw2];exact thr_set U2.out _ _)
  have P3:Hid (w2.rangeAt (B+3) 0 [.int .i64 0,.string ⟨#[]⟩,.string ⟨#[]⟩,.float .f64 0,.int .i64 0,.slice none 0 0]):=hdd (by rw [← hw2];exact rng_oth Q3.out (B+1) 4 _ Yy0)
  have V3:Hid (w2.there (B+3) 0 6):=hdd (by rw [← hw2];exact thr_set U3.out _ _)
  have B2:Hid (Below B w w2):=hdd (by rw [← hw2];exact B1.out.setCell (p:=⟨B+1,4,none⟩) (by show B≤B+1;omega) _)
  have s2:w2.heap.size=B+4:=by rw [← hw2,← s1];exact World.size_setCell _ _ _
  rw [hw2]
  clear hw2 d4 f4 Q0 Q1 U1 Q2 U2 Q3 U3 B1 s1
  obtain ⟨M,hM⟩:∃ M,w2.heap.size=M:=⟨_,rfl⟩
  have MB:Hid (M=B+4):=hdd Yy0
  clear s2
  have d4:w2.cell? ⟨B+1,4,none⟩=some (.int .u8 123):=P1.out 4 _ rfl
  have d2:w2.cell? ⟨B+1,2,none⟩=some (.map none):=P1.out 2 _ rfl
  have f2:w2.frozen? ⟨B+1,2,none⟩=false:=(V1.out 2 Yy0).2
  have m1:B+1<M:=by have:=MB.out;omega
  have m2:B+1≠M:=Yy0
  have d2':(w2.alloc (Obj.map #[] 0)).cell? ⟨B+1,2,none⟩=some (.map none):=cellB ((Below.refl _ w2).alloc (nlr _) _) d2
  have f2':(w2.alloc (Obj.map #[] 0)).frozen? ⟨B+1,2,none⟩=false:=frozB ((Below.refl _ w2).alloc (nlr _) _) d2 f2
  go_upto_block 4 with (fail)
  obtain ⟨w3,hw3⟩:∃ w3,(w2.setCell ⟨B+1,2,none⟩ (.map (some M))).alloc (Obj.map #[] 0)=w3:=⟨_,rfl⟩
  have A3:Hid (AM u nm l w B M 0 RV.z RV.z w3):=hdd (by
   rw [← hw3]
   have mb:=MB.out
   refine ⟨rng_al (rng_oth P0.out (B+1) 2 _ Yy0) _,rng_al (rng_set P1.out 2 _ Yy4) _,rng_al (rng_oth P2.out (B+1) 2 _ Yy0) _,thr_al (thr_set V2.out _ _) _,rng_al (rng_oth P3.out (B+1) 2 _ Yy0) _,thr_al (thr_set V3.out _ _) _,⟨.map [],?_,MapHas.zero _ _ _⟩,(B2.out.setCell (p:=⟨B+1,2,none⟩) (by show B≤B+1;omega) _).alloc (by rw [World.size_setCell];omega) _,Yy0⟩
   have:=World.ownsMap_made (H:=Unit) (w2.setCell ⟨B+1,2,none⟩ (.map (some M))) Tryz.prog 9 rvR
   rwa [World.size_setCell,hM] at this)
  rw [hw3]
  clear hw3 P0 P1 V1 P2 V2 P3 V3 B2 d4 d2 f2 d2' f2' m1 m2 hM hmm
  go_wp2_with fail
  go_loopg [8,10] (u.size - 1) (fun m v8 v10 wr=>∃ (q c k:Nat) (L:List (Int×Nat×Nat)) (key val:RV),v8 = .int .i64 (q:Int)∧v10 = .int .i64 (c:Int)∧Hid (q+m=u.size)∧Hid (Tkn u q L)∧Hid (Ph l nm c k L key)∧Hid (AM u nm l w B M k key val wr))
  case atStart=>exact ⟨1,0,0,toks l,RV.z,RV.z,rfl,rfl,hdd Yy0,HT,hdd ⟨Nat.zero_le _,.inl ⟨rfl,rfl⟩⟩,A3⟩
  case round=>
   clear A3
   obtain ⟨q,c,k,L,key,val,rfl,rfl,hm,hT,hP,hA⟩:=hrel
   have b1:wr.cell? ⟨B,1,none⟩=some (.string u):=hA.out.tr 1 _ rfl
   rcases hT.out.head with ⟨hsp,hqs,hT2⟩ | ⟨rfl,h125,hqs⟩ | ⟨kd,j,L2,rfl,hvk,hj,hne,hT2⟩
   ·
    have t0:decide (q<u.size)=true:=dtt hqs
    have q65:(q:Int)≤65536:=Yy0
    have HT2:=hdd hT2
    rw [PFnGjSquashItems.bt_at hqs] at hsp
    clear hT2 b1
    have more:∀ {P:Prop},P→P:=fun h=>h
    rcases hsp with hb | hb | hb
    ·
     have e1:decide ((u[q].toNat:Int)≤32)=true:=dtt hb
     clear hb
     go_wp2_with fail
     go_roundg (gk - 1)
     case measure=>have:=hm.out;omega
     case rel=>exact ⟨q+1,c,k,L,key,val,Yy6,rfl,hdd Yy11,HT2,hP,hA⟩
    all_goals
     go_wp2_with fail
     go_roundg (gk - 1)
     case measure=>have:=hm.out;omega
     case rel=>exact ⟨q+1,c,k,L,key,val,Yy6,rfl,hdd Yy11,HT2,hP,hA⟩
   ·
    have t0:decide (q<u.size)=true:=dtt hqs
    have q65:(q:Int)≤65536:=Yy0
    rw [PFnGjSquashItems.bt_at hqs] at h125
    have a5:wr.cell? ⟨B,5,none⟩=some (.slice none 0 0):=hA.out.tr 5 _ rfl
    have hneq:=fun (W:World)=>run_neq_slice_nil_any (P:=Tryz.prog) W 59 3 none 0 0 0 0 Tryz.underlying59
    go_wp2_with fail
    refine wp_label ?_
    go_wp2_with fail
    simp only [jumps]
    refine bodyPost_ret (results_cell1 rfl _ _ (B+1) _ _ rfl hA.out.rr Tryz.underlying110 rfl Yy1) rfl ?_
    have hk:=hP.out.end_
    subst hk
    have hb:=hA.out.be
    rw [← hB] at hb
    exact ⟨M,rfl,hA.out.mp,hb,by have:=hA.out.mb;omega⟩
   ·
    have hqj:q<j:=hvk.1
    have hju:j≤u.size:=hvk.2.1
    have hqs:q<u.size:=Yy0
    have t0:decide (q<u.size)=true:=dtt hqs
    have q65:(q:Int)≤65536:=Yy0
    obtain ⟨n9,hn9⟩:∃ n9,j - q=n9:=⟨_,rfl⟩
    have SF:=Suf.of u (Nat.le_of_lt hqs)
    have UK:VK (u.extract q u.size) kd 0 n9:=SF.vk (by rw [Nat.add_zero,← hn9,show q+(j - q)=j from Yy0];exact hvk)
    have UE:kd≠4→NumEnd (u.extract q u.size) n9:=fun h=>by
     have hz:=SF.sz
     rcases hne h with h | h
     ·
      left;omega
     ·
      right;rw [SF.b,← hn9,show q+(j - q)=j from Yy0];exact h
    have UZ:Hid ((u.extract q u.size).size≤65536∧0<n9∧n9≤(u.extract q u.size).size):=hdd ⟨Yy13,UK.1,UK.2.1⟩
    have EX:Hid ((u.extract q u.size).extract 0 n9=u.extract q j):=hdd (by rw [Suf.extract rfl (Nat.le_of_lt hqs) Yy0,Nat.add_zero,← hn9,show q+(j - q)=j from Yy0])
    have hsl:∀ W:World,(Instr.slice 9 (.string u) (some (.int .i64 (q:Int))) none none).run Tryz.prog W = .ok (.string (u.extract q u.size)) W:=fun W=>by
     rw [run_slice_string_from_if (P:=Tryz.prog) (w:=W) 9 u .i64 (q:Int) Tryz.underlying9,if_pos ⟨Yy0,Yy0⟩,Int.toNat_natCast]
    have hby:32<bt u (q:Int)∧bt u (q:Int)≠93∧bt u (q:Int)≠125:=by
     refine ⟨vk_nosp hvk,?_⟩
     rcases hvk.2.2 with ⟨_,b⟩ | ⟨_,b,_⟩ | ⟨a,b⟩ | ⟨a,_⟩
     ·
      have:=b.1.2.2.1;omega
     ·
      omega
     ·
      have:=b q (nlr _) hqj;omega
     ·
      rcases a with ⟨_,a⟩ | ⟨_,a⟩ <;> omega
    rw [PFnGjSquashItems.bt_at hqs] at hby
    have e1:decide ((u[q].toNat:Int)≤32)=false:=dff Yy0
    have e2:((u[q].toNat:Int) == 93)=false:=bfo hby.2.1
    have e3:((u[q].toNat:Int) == 125)=false:=bfo hby.2.2
    have HK:=hdd hvk;have HUK:=hdd UK;have HUE:=hdd UE;have HT2:=hdd hT2;have HN9:=hdd hn9
    have PT:=hdd hP.out.tok
    have n1:1≤(n9:Int):=Yy0
    have n2:(n9:Int)≤65536:=Yy0
    clear hvk hne hT2 UK UE SF hn9 hby
    go_upto_block 6 with (fail)
    go_cut [8,102] (fun v8 v102 wc=>∃ val2:RV,v8 = .int .i64 (q:Int)∧Hid (TV u kd q j val2)∧Hid (AM u nm l w B M k key val2 wc))
    case first=>
     clear b1 e1 e2 e3
     have v0:wr.cell? ⟨B+2,0,none⟩=some (.int .i64 val.k):=hA.out.vr 0 _ rfl
     have vf0:wr.frozen? ⟨B+2,0,none⟩=false:=(hA.out.vt 0 Yy0).2
     rcases HK.out.2.2 with ⟨hkd,hst⟩ | ⟨hkd,hb,-⟩ | ⟨⟨hkd,hb,-⟩ | ⟨hkd,hb⟩ | ⟨hkd,hb⟩,-⟩ | ⟨⟨hkd,hb⟩ | ⟨hkd,hb⟩,-⟩
     ·
      as_aux_lemma=>
       have HKD:=hdd hkd
       have ust:StrTok (u.extract q u.size) 0 n9:=by rcases HUK.out.2.2 with ⟨_,b⟩ | ⟨a,_⟩ | ⟨⟨a,_⟩ | ⟨a,_⟩ | ⟨a,_⟩,_⟩ | ⟨⟨a,_⟩ | ⟨a,_⟩,_⟩ <;> first | exact b | omega
       have hj2:q+2≤j:=hst.1.1
       have hb:bt u (q:Int)=34:=hst.1.2.2.1
       rw [PFnGjSquashItems.bt_at hqs] at hb
       obtain ⟨e,he⟩:∃ e,n9=e+1:=⟨n9 - 1,by have:=HN9.out;omega⟩
       have EX1:Hid ((u.extract q u.size).extract 0 (e+1)=u.extract q j):=hdd (by rw [← he];exact EX.out)
       have EX2:Hid ((u.extract q u.size).extract 1 e=u.extract (q+1) (j - 1)):=hdd (by rw [Suf.extract rfl (Nat.le_of_lt hqs) (by have:=HN9.out;omega),show q+e=j - 1 by have:=HN9.out;omega])
       have CT:Hid (∀ w:World,Calls Tryz.prog 59 #[.string (u.extract q u.size)] w (TsPost (u.extract q u.size) e w)):=hdd (fun w=>tostr_any _ UZ.out.1 e (by rw [← he];exact ust))
       clear hst ust he hkd
       have A4:Hid (AM u nm l w B M k key ⟨3,val.raw,val.str,val.q,val.ix⟩ (wr.setCell ⟨B+2,0,none⟩ (.int .i64 3))):=hdd (hA.out.valSet 0 Yy0 _ _ rfl)
       go_wp2_with (go_at_call 59;(with_reducible refine (CT.out _).mono ?_);rintro en wz ⟨str9,rfl,hks,hbz⟩;rw [EX1.out];rw [EX2.out] at hks;have KS:=hdd hks;have A5:=hdd (A4.out.below hbz);clear hbz hks;have x1:wz.cell? ⟨B+2,1,none⟩=some (.string val.raw):=A5.out.vr 1 _ rfl;have xf1:wz.frozen? ⟨B+2,1,none⟩=false:=(A5.out.vt 1 Yy0).2;have x2:wz.cell? ⟨B+2,2,none⟩=some (.string val.str):=A5.out.vr 2 _ rfl;have xf2:wz.frozen? ⟨B+2,2,none⟩=false:=(A5.out.vt 2 Yy0).2;have x3:wz.cell? ⟨B+2,3,none⟩=some (.float .f64 val.q):=A5.out.vr 3 _ rfl;have xf3:wz.frozen? ⟨B+2,3,none⟩=false:=(A5.out.vt 3 Yy0).2)
       go_meet
       exact ⟨⟨3,u.extract q j,str9,0,val.ix⟩,rfl,hdd ⟨Yy35,rfl,fun _=>KS.out,fun h=>absurd HKD.out h⟩,hdd (((A5.out.valSet 1 Yy0 (.string (u.extract q j)) ⟨3,u.extract q j,val.str,val.q,val.ix⟩ rfl).valSet 2 Yy0 (.string str9) ⟨3,u.extract q j,str9,val.q,val.ix⟩ rfl).valSet 3 Yy0 (.float .f64 0) ⟨3,u.extract q j,str9,0,val.ix⟩ rfl)⟩
     ·
      as_aux_lemma=>
       have HKD:=hdd hkd
       have hnm:∀ x,0≤x→x<n9→numOK (bt (u.extract q u.size) (x:Int)):=by rcases HUK.out.2.2 with ⟨a,_⟩ | ⟨_,_,b⟩ | ⟨⟨a,_⟩ | ⟨a,_⟩ | ⟨a,_⟩,_⟩ | ⟨⟨a,_⟩ | ⟨a,_⟩,_⟩ <;> first | exact b | omega
       have A4:Hid (AM u nm l w B M k key ⟨2,val.raw,val.str,val.q,val.ix⟩ (wr.setCell ⟨B+2,0,none⟩ (.int .i64 2))):=hdd (hA.out.valSet 0 Yy0 _ _ rfl)
       have M2:Hid (TS (wr.setCell ⟨B+2,0,none⟩ (.int .i64 2)) b0∧b0≤(World.heap (wr.setCell ⟨B+2,0,none⟩ (.int .i64 2))).size):=hdd ⟨HM.out.below (A4.out.be.mono (by have:=HBB.out;omega)),by have:=HBB.out;have:=A4.out.be.size;omega⟩
       have CT:Hid (Calls Tryz.prog 57 #[.string (u.extract q u.size)] (wr.setCell ⟨B+2,0,none⟩ (.int .i64 2)) (TnPost (u.extract q u.size) n9 (wr.setCell ⟨B+2,0,none⟩ (.int .i64 2)))):=hdd (tonum_ts M2.out.1 M2.out.2 _ UZ.out.1 n9 UZ.out.2.1 UZ.out.2.2 hnm (HUE.out Yy20))
       clear hnm hkd
       rw [PFnGjSquashItems.bt_at hqs] at hb
       rcases hb with hb | hb
       ·
        go_wp2_with (go_at_call 57;(with_reducible refine CT.out.mono ?_);rintro en wz ⟨q9,rfl,hbz⟩;rw [EX.out];have A5:=hdd (A4.out.below hbz);clear hbz;have x1:wz.cell? ⟨B+2,1,none⟩=some (.string val.raw):=A5.out.vr 1 _ rfl;have xf1:wz.frozen? ⟨B+2,1,none⟩=false:=(A5.out.vt 1 Yy0).2;have x2:wz.cell? ⟨B+2,2,none⟩=some (.string val.str):=A5.out.vr 2 _ rfl;have xf2:wz.frozen? ⟨B+2,2,none⟩=false:=(A5.out.vt 2 Yy0).2;have x3:wz.cell? ⟨B+2,3,none⟩=some (.float .f64 val.q):=A5.out.vr 3 _ rfl;have xf3:wz.frozen? ⟨B+2,3,none⟩=false:=(A5.out.vt 3 Yy0).2)
        go_meet
        exact ⟨⟨2,u.extract q j,⟨#[]⟩,q9,val.ix⟩,rfl,hdd ⟨Yy35,rfl,fun h=>absurd h Yy20,fun _=>rfl⟩,hdd (((A5.out.valSet 1 Yy0 (.string (u.extract q j)) ⟨2,u.extract q j,val.str,val.q,val.ix⟩ rfl).valSet 3 Yy0 (.float .f64 q9) ⟨2,u.extract q j,val.str,q9,val.ix⟩ rfl).valSet 2 Yy0 (.string ⟨#[]⟩) ⟨2,u.extract q j,⟨#[]⟩,q9,val.ix⟩ rfl)⟩
       ·
        have g1:((u[q].toNat:Int) == 123)=false:=bfo Yy0
        have g2:((u[q].toNat:Int) == 91)=false:=bfo Yy0
        have g3:((u[q].toNat:Int) == 110)=false:=bfo Yy0
        have g4:((u[q].toNat:Int) == 116)=false:=bfo Yy0
        have g5:((u[q].toNat:Int) == 102)=false:=bfo Yy0
        have g6:((u[q].toNat:Int) == 34)=false:=bfo Yy0
        have g7:decide ((48:Int)≤(u[q].toNat:Int))=true:=dtt hb.1
        have g8:decide ((u[q].toNat:Int)≤57)=true:=dtt hb.2
        clear hb
        go_wp2_with (go_at_call 57;(with_reducible refine CT.out.mono ?_);rintro en wz ⟨q9,rfl,hbz⟩;rw [EX.out];have A5:=hdd (A4.out.below hbz);clear hbz;have x1:wz.cell? ⟨B+2,1,none⟩=some (.string val.raw):=A5.out.vr 1 _ rfl;have xf1:wz.frozen? ⟨B+2,1,none⟩=false:=(A5.out.vt 1 Yy0).2;have x2:wz.cell? ⟨B+2,2,none⟩=some (.string val.str):=A5.out.vr 2 _ rfl;have xf2:wz.frozen? ⟨B+2,2,none⟩=false:=(A5.out.vt 2 Yy0).2;have x3:wz.cell? ⟨B+2,3,none⟩=some (.float .f64 val.q):=A5.out.vr 3 _ rfl;have xf3:wz.frozen? ⟨B+2,3,none⟩=false:=(A5.out.vt 3 Yy0).2)
        go_meet
        exact ⟨⟨2,u.extract q j,⟨#[]⟩,q9,val.ix⟩,rfl,hdd ⟨Yy35,rfl,fun h=>absurd h Yy20,fun _=>rfl⟩,hdd (((A5.out.valSet 1 Yy0 (.string (u.extract q j)) ⟨2,u.extract q j,val.str,val.q,val.ix⟩ rfl).valSet 3 Yy0 (.float .f64 q9) ⟨2,u.extract q j,val.str,q9,val.ix⟩ rfl).valSet 2 Yy0 (.string ⟨#[]⟩) ⟨2,u.extract q j,⟨#[]⟩,q9,val.ix⟩ rfl)⟩
     ·
      as_aux_lemma=>
       have HKD:=hdd hkd
       rw [PFnGjSquashItems.bt_at hqs] at hb
       have hnm:∀ x,0≤x→x<n9→97≤bt (u.extract q u.size) (x:Int)∧bt (u.extract q u.size) (x:Int)≤122:=Yy71
       have CT:Hid (∀ w:World,Calls Tryz.prog 58 #[.string (u.extract q u.size)] w fun en w'=>en = .returned (.string ((u.extract q u.size).extract 0 n9))∧w'=w):=hdd (fun w=>tolit_any _ UZ.out.1 n9 UZ.out.2.1 UZ.out.2.2 hnm (HUE.out Yy20))
       clear hnm hkd
       have A4:Hid (AM u nm l w B M k key ⟨0,val.raw,val.str,val.q,val.ix⟩ (wr.setCell ⟨B+2,0,none⟩ (.int .i64 0))):=hdd (hA.out.valSet 0 Yy0 _ _ rfl)
       go_wp2_with (go_at_call 58;(with_reducible refine (CT.out _).mono ?_);rintro en wz ⟨rfl,hwz⟩;rw [EX.out];have A5:Hid (AM u nm l w B M k key ⟨0,val.raw,val.str,val.q,val.ix⟩ wz):=hdd (by rw [hwz];exact A4.out);clear hwz;have x1:wz.cell? ⟨B+2,1,none⟩=some (.string val.raw):=A5.out.vr 1 _ rfl;have xf1:wz.frozen? ⟨B+2,1,none⟩=false:=(A5.out.vt 1 Yy0).2;have x2:wz.cell? ⟨B+2,2,none⟩=some (.string val.str):=A5.out.vr 2 _ rfl;have xf2:wz.frozen? ⟨B+2,2,none⟩=false:=(A5.out.vt 2 Yy0).2;have x3:wz.cell? ⟨B+2,3,none⟩=some (.float .f64 val.q):=A5.out.vr 3 _ rfl;have xf3:wz.frozen? ⟨B+2,3,none⟩=false:=(A5.out.vt 3 Yy0).2)
       go_meet
       exact ⟨⟨0,u.extract q j,⟨#[]⟩,0,val.ix⟩,rfl,hdd ⟨Yy35,rfl,fun h=>absurd h Yy20,fun _=>rfl⟩,hdd (((A5.out.valSet 1 Yy0 (.string (u.extract q j)) ⟨0,u.extract q j,val.str,val.q,val.ix⟩ rfl).valSet 2 Yy0 (.string ⟨#[]⟩) ⟨0,u.extract q j,⟨#[]⟩,val.q,val.ix⟩ rfl).valSet 3 Yy0 (.float .f64 0) ⟨0,u.extract q j,⟨#[]⟩,0,val.ix⟩ rfl)⟩
     ·
      as_aux_lemma=>
       have HKD:=hdd hkd
       rw [PFnGjSquashItems.bt_at hqs] at hb
       have hnm:∀ x,0≤x→x<n9→97≤bt (u.extract q u.size) (x:Int)∧bt (u.extract q u.size) (x:Int)≤122:=Yy71
       have CT:Hid (∀ w:World,Calls Tryz.prog 58 #[.string (u.extract q u.size)] w fun en w'=>en = .returned (.string ((u.extract q u.size).extract 0 n9))∧w'=w):=hdd (fun w=>tolit_any _ UZ.out.1 n9 UZ.out.2.1 UZ.out.2.2 hnm (HUE.out Yy20))
       clear hnm hkd
       have A4:Hid (AM u nm l w B M k key ⟨1,val.raw,val.str,val.q,val.ix⟩ (wr.setCell ⟨B+2,0,none⟩ (.int .i64 1))):=hdd (hA.out.valSet 0 Yy0 _ _ rfl)
       go_wp2_with (go_at_call 58;(with_reducible refine (CT.out _).mono ?_);rintro en wz ⟨rfl,hwz⟩;rw [EX.out];have A5:Hid (AM u nm l w B M k key ⟨1,val.raw,val.str,val.q,val.ix⟩ wz):=hdd (by rw [hwz];exact A4.out);clear hwz;have x1:wz.cell? ⟨B+2,1,none⟩=some (.string val.raw):=A5.out.vr 1 _ rfl;have xf1:wz.frozen? ⟨B+2,1,none⟩=false:=(A5.out.vt 1 Yy0).2;have x2:wz.cell? ⟨B+2,2,none⟩=some (.string val.str):=A5.out.vr 2 _ rfl;have xf2:wz.frozen? ⟨B+2,2,none⟩=false:=(A5.out.vt 2 Yy0).2;have x3:wz.cell? ⟨B+2,3,none⟩=some (.float .f64 val.q):=A5.out.vr 3 _ rfl;have xf3:wz.frozen? ⟨B+2,3,none⟩=false:=(A5.out.vt 3 Yy0).2)
       go_meet
       exact ⟨⟨1,u.extract q j,⟨#[]⟩,0,val.ix⟩,rfl,hdd ⟨Yy35,rfl,fun h=>absurd h Yy20,fun _=>rfl⟩,hdd (((A5.out.valSet 1 Yy0 (.string (u.extract q j)) ⟨1,u.extract q j,val.str,val.q,val.ix⟩ rfl).valSet 2 Yy0 (.string ⟨#[]⟩) ⟨1,u.extract q j,⟨#[]⟩,val.q,val.ix⟩ rfl).valSet 3 Yy0 (.float .f64 0) ⟨1,u.extract q j,⟨#[]⟩,0,val.ix⟩ rfl)⟩
     ·
      as_aux_lemma=>
       have HKD:=hdd hkd
       rw [PFnGjSquashItems.bt_at hqs] at hb
       have hnm:∀ x,0≤x→x<n9→97≤bt (u.extract q u.size) (x:Int)∧bt (u.extract q u.size) (x:Int)≤122:=Yy71
       have CT:Hid (∀ w:World,Calls Tryz.prog 58 #[.string (u.extract q u.size)] w fun en w'=>en = .returned (.string ((u.extract q u.size).extract 0 n9))∧w'=w):=hdd (fun w=>tolit_any _ UZ.out.1 n9 UZ.out.2.1 UZ.out.2.2 hnm (HUE.out Yy20))
       clear hnm hkd
       have A4:Hid (AM u nm l w B M k key ⟨4,val.raw,val.str,val.q,val.ix⟩ (wr.setCell ⟨B+2,0,none⟩ (.int .i64 4))):=hdd (hA.out.valSet 0 Yy0 _ _ rfl)
       go_wp2_with (go_at_call 58;(with_reducible refine (CT.out _).mono ?_);rintro en wz ⟨rfl,hwz⟩;rw [EX.out];have A5:Hid (AM u nm l w B M k key ⟨4,val.raw,val.str,val.q,val.ix⟩ wz):=hdd (by rw [hwz];exact A4.out);clear hwz;have x1:wz.cell? ⟨B+2,1,none⟩=some (.string val.raw):=A5.out.vr 1 _ rfl;have xf1:wz.frozen? ⟨B+2,1,none⟩=false:=(A5.out.vt 1 Yy0).2;have x2:wz.cell? ⟨B+2,2,none⟩=some (.string val.str):=A5.out.vr 2 _ rfl;have xf2:wz.frozen? ⟨B+2,2,none⟩=false:=(A5.out.vt 2 Yy0).2;have x3:wz.cell? ⟨B+2,3,none⟩=some (.float .f64 val.q):=A5.out.vr 3 _ rfl;have xf3:wz.frozen? ⟨B+2,3,none⟩=false:=(A5.out.vt 3 Yy0).2)
       go_meet
       exact ⟨⟨4,u.extract q j,⟨#[]⟩,0,val.ix⟩,rfl,hdd ⟨Yy35,rfl,fun h=>absurd h Yy20,fun _=>rfl⟩,hdd (((A5.out.valSet 1 Yy0 (.string (u.extract q j)) ⟨4,u.extract q j,val.str,val.q,val.ix⟩ rfl).valSet 2 Yy0 (.string ⟨#[]⟩) ⟨4,u.extract q j,⟨#[]⟩,val.q,val.ix⟩ rfl).valSet 3 Yy0 (.float .f64 0) ⟨4,u.extract q j,⟨#[]⟩,0,val.ix⟩ rfl)⟩
     ·
      as_aux_lemma=>
       have HKD:=hdd hkd
       rw [PFnGjSquashItems.bt_at hqs] at hb
       obtain ⟨kq,hkq⟩:=squash_vk UZ.out.1 HUK.out Yy20
       have CT:Hid (∀ w:World,Calls Tryz.prog 69 #[.string (u.extract q u.size)] w fun en w'=>en = .returned (.string ((u.extract q u.size).extract 0 n9))∧Drawn0 w w'):=hdd (fun w=>gjson_squash.calls kq _ _ w (hkq kq (nlr _)))
       clear hkq hkd
       have A4:Hid (AM u nm l w B M k key ⟨5,val.raw,val.str,val.q,val.ix⟩ (wr.setCell ⟨B+2,0,none⟩ (.int .i64 5))):=hdd (hA.out.valSet 0 Yy0 _ _ rfl)
       go_wp2_with (go_at_call 69;(with_reducible refine (CT.out _).mono ?_);rintro en wz ⟨rfl,hd⟩;rw [EX.out];obtain ⟨nd,hwz⟩:=of_drawn0 hd;have A5:Hid (AM u nm l w B M k key ⟨5,val.raw,val.str,val.q,val.ix⟩ wz):=hdd (by rw [hwz];exact A4.out.below (Below.drewNs (Below.refl _ _) nd));clear hwz hd;have x1:wz.cell? ⟨B+2,1,none⟩=some (.string val.raw):=A5.out.vr 1 _ rfl;have xf1:wz.frozen? ⟨B+2,1,none⟩=false:=(A5.out.vt 1 Yy0).2;have x2:wz.cell? ⟨B+2,2,none⟩=some (.string val.str):=A5.out.vr 2 _ rfl;have xf2:wz.frozen? ⟨B+2,2,none⟩=false:=(A5.out.vt 2 Yy0).2;have x3:wz.cell? ⟨B+2,3,none⟩=some (.float .f64 val.q):=A5.out.vr 3 _ rfl;have xf3:wz.frozen? ⟨B+2,3,none⟩=false:=(A5.out.vt 3 Yy0).2)
       go_meet
       exact ⟨⟨5,u.extract q j,⟨#[]⟩,0,val.ix⟩,rfl,hdd ⟨Yy35,rfl,fun h=>absurd h Yy20,fun _=>rfl⟩,hdd (((A5.out.valSet 1 Yy0 (.string (u.extract q j)) ⟨5,u.extract q j,val.str,val.q,val.ix⟩ rfl).valSet 2 Yy0 (.string ⟨#[]⟩) ⟨5,u.extract q j,⟨#[]⟩,val.q,val.ix⟩ rfl).valSet 3 Yy0 (.float .f64 0) ⟨5,u.extract q j,⟨#[]⟩,0,val.ix⟩ rfl)⟩
     ·
      as_aux_lemma=>
       have HKD:=hdd hkd
       rw [PFnGjSquashItems.bt_at hqs] at hb
       obtain ⟨kq,hkq⟩:=squash_vk UZ.out.1 HUK.out Yy20
       have CT:Hid (∀ w:World,Calls Tryz.prog 69 #[.string (u.extract q u.size)] w fun en w'=>en = .returned (.string ((u.extract q u.size).extract 0 n9))∧Drawn0 w w'):=hdd (fun w=>gjson_squash.calls kq _ _ w (hkq kq (nlr _)))
       clear hkq hkd
       have A4:Hid (AM u nm l w B M k key ⟨5,val.raw,val.str,val.q,val.ix⟩ (wr.setCell ⟨B+2,0,none⟩ (.int .i64 5))):=hdd (hA.out.valSet 0 Yy0 _ _ rfl)
       go_wp2_with (go_at_call 69;(with_reducible refine (CT.out _).mono ?_);rintro en wz ⟨rfl,hd⟩;rw [EX.out];obtain ⟨nd,hwz⟩:=of_drawn0 hd;have A5:Hid (AM u nm l w B M k key ⟨5,val.raw,val.str,val.q,val.ix⟩ wz):=hdd (by rw [hwz];exact A4.out.below (Below.drewNs (Below.refl _ _) nd));clear hwz hd;have x1:wz.cell? ⟨B+2,1,none⟩=some (.string val.raw):=A5.out.vr 1 _ rfl;have xf1:wz.frozen? ⟨B+2,1,none⟩=false:=(A5.out.vt 1 Yy0).2;have x2:wz.cell? ⟨B+2,2,none⟩=some (.string val.str):=A5.out.vr 2 _ rfl;have xf2:wz.frozen? ⟨B+2,2,none⟩=false:=(A5.out.vt 2 Yy0).2;have x3:wz.cell? ⟨B+2,3,none⟩=some (.float .f64 val.q):=A5.out.vr 3 _ rfl;have xf3:wz.frozen? ⟨B+2,3,none⟩=false:=(A5.out.vt 3 Yy0).2)
       go_meet
       exact ⟨⟨5,u.extract q j,⟨#[]⟩,0,val.ix⟩,rfl,hdd ⟨Yy35,rfl,fun h=>absurd h Yy20,fun _=>rfl⟩,hdd (((A5.out.valSet 1 Yy0 (.string (u.extract q j)) ⟨5,u.extract q j,val.str,val.q,val.ix⟩ rfl).valSet 2 Yy0 (.string ⟨#[]⟩) ⟨5,u.extract q j,⟨#[]⟩,val.q,val.ix⟩ rfl).valSet 3 Yy0 (.float .f64 0) ⟨5,u.extract q j,⟨#[]⟩,0,val.ix⟩ rfl)⟩
    case rest=>
     as_aux_lemma=>
      obtain ⟨⟨vk,vraw,vstr,vq,vix⟩,rfl,hTV,hA2⟩:=hcut
      obtain rfl:vraw=u.extract q j:=hTV.out.2.1
      have TVH:=hdd hTV.out
      clear hA hTV b1 e1 e2 e3 hsl EX UZ HK HUK HUE
      have a4:wc.cell? ⟨B,4,none⟩=some (.int .i64 0):=hA2.out.tr 4 _ rfl
      have v1:wc.cell? ⟨B+2,1,none⟩=some (.string (u.extract q j)):=hA2.out.vr 1 _ rfl
      have v4:wc.cell? ⟨B+2,4,none⟩=some (.int .i64 vix):=hA2.out.vr 4 _ rfl
      have vf4:wc.frozen? ⟨B+2,4,none⟩=false:=(hA2.out.vt 4 Yy0).2
      have xz:(u.extract q j).size=n9:=by have:=HN9.out;rw [ByteArray.size_extract];omega
      have hq9:(q:Int)+((n9:Int) - 1)=((j - 1:Nat):Int):=by have:=HN9.out;omega
      obtain ⟨j1,hj1⟩:∃ j1,j - 1=j1:=⟨_,rfl⟩
      have HJ1:=hdd hj1
      rw [hj1] at hq9
      have j65:(j1:Int)≤65536:=Yy0
      clear hj1
      go_upto_region 58 with (fail)
      obtain ⟨wd,hwd⟩:∃ wd,wc.setCell ⟨B+2,4,none⟩ (.int .i64 (q:Int))=wd:=⟨_,rfl⟩
      have A3:Hid (AM u nm l w B M k key ⟨vk,u.extract q j,vstr,vq,(q:Int)⟩ wd):=hdd (by rw [← hwd];exact hA2.out.valSet 4 Yy0 _ _ rfl)
      rw [hwd]
      clear hwd a4 v1 v4 vf4 hA2 n1 n2 hq9 xz t0
      have r4:wd.cell? ⟨B+1,4,none⟩=some (.int .u8 123):=A3.out.rr 4 _ rfl
      have v0:wd.cell? ⟨B+2,0,none⟩=some (.int .i64 vk):=A3.out.vr 0 _ rfl
      have v1:wd.cell? ⟨B+2,1,none⟩=some (.string (u.extract q j)):=A3.out.vr 1 _ rfl
      have v2:wd.cell? ⟨B+2,2,none⟩=some (.string vstr):=A3.out.vr 2 _ rfl
      have v3:wd.cell? ⟨B+2,3,none⟩=some (.float .f64 vq):=A3.out.vr 3 _ rfl
      have v4:wd.cell? ⟨B+2,4,none⟩=some (.int .i64 (q:Int)):=A3.out.vr 4 _ rfl
      have v5:wd.cell? ⟨B+2,5,none⟩=some (.slice none 0 0):=A3.out.vr 5 _ rfl
      have cb:(c:Int)≤140000:=by have:=hP.out.1;have:=HL.out;rcases hP.out.2 with ⟨h1,_⟩ | ⟨h1,_⟩ <;> omega
      have MJ:Hid (u.size - j<gk):=hdd Yy11
      rcases PT.out with ⟨hc,t,ht,hk4,hni,hnj,hN⟩ | ⟨hc,t,ht,hkd,htv,htj,hks,hN⟩
      ·
       as_aux_lemma=>
        have c0:(Int.tmod (c:Int) 2 == 0)=true:=by rw [beq_iff_eq];exact (tmod2 c).mpr hc
        have c1:((c:Int) % 2 == 0)=true:=beq_iff_eq.mpr Yy0
        have NS:Hid (vstr=nm t):=hdd (HNM.out t (List.mem_of_getElem? ht) vstr (by rw [hni,hnj];exact TVH.out.2.2.1 hk4))
        have HN:=hdd hN
        clear hN ht hk4 hni hnj hc PT
        have kc0:wd.cell? ⟨B+3,0,none⟩=some (.int .i64 key.k):=A3.out.kr 0 _ rfl
        have kf0:wd.frozen? ⟨B+3,0,none⟩=false:=(A3.out.kt 0 Yy0).2
        have kc1:wd.cell? ⟨B+3,1,none⟩=some (.string key.raw):=A3.out.kr 1 _ rfl
        have kf1:wd.frozen? ⟨B+3,1,none⟩=false:=(A3.out.kt 1 Yy0).2
        have kc2:wd.cell? ⟨B+3,2,none⟩=some (.string key.str):=A3.out.kr 2 _ rfl
        have kf2:wd.frozen? ⟨B+3,2,none⟩=false:=(A3.out.kt 2 Yy0).2
        have kc3:wd.cell? ⟨B+3,3,none⟩=some (.float .f64 key.q):=A3.out.kr 3 _ rfl
        have kf3:wd.frozen? ⟨B+3,3,none⟩=false:=(A3.out.kt 3 Yy0).2
        have kc4:wd.cell? ⟨B+3,4,none⟩=some (.int .i64 key.ix):=A3.out.kr 4 _ rfl
        have kf4:wd.frozen? ⟨B+3,4,none⟩=false:=(A3.out.kt 4 Yy0).2
        have kc5:wd.cell? ⟨B+3,5,none⟩=some (.slice none 0 0):=A3.out.kr 5 _ rfl
        have kf5:wd.frozen? ⟨B+3,5,none⟩=false:=(A3.out.kt 5 Yy0).2
        go_wp2_with fail
        go_roundg (u.size - j)
        case measure=>exact MJ.out
        case rel=>exact ⟨j,c+1,k,L2,⟨vk,u.extract q j,vstr,vq,(q:Int)⟩,⟨vk,u.extract q j,vstr,vq,(q:Int)⟩,by have:=HJ1.out;congr 1;omega,Yy6,hdd Yy0,HT2,hdd (HN.out _ NS.out),hdd (A3.out.keyAll ⟨vk,u.extract q j,vstr,vq,(q:Int)⟩)⟩
      ·
       as_aux_lemma=>
        have c0:(Int.tmod (c:Int) 2 == 0)=false:=by rw [beq_eq_false_iff_ne];intro h;have:=(tmod2 c).mp h;omega
        have c1:((c:Int) % 2 == 0)=false:=bfo Yy0
        obtain ⟨kk,kraw,kstr,kq,kix⟩:=key
        obtain ⟨D,hD,hH⟩:=A3.out.mp
        have VO:Hid (ValOK u t ⟨vk,u.extract q j,vstr,vq,(q:Int)⟩):=hdd (by
         obtain ⟨g1,g2,g3,g4⟩:=TVH.out
         refine ⟨by rw [hkd];exact g1,by rw [htv,htj],fun h=>by rw [htv,htj];exact g3 (by rw [← hkd];exact h),fun h=>g4 (by rw [← hkd];exact h)⟩)
        have hkl:=(List.getElem?_eq_some_iff.mp ht).1
        have NZ:=HNZ.out t (List.mem_of_getElem? ht)
        have NO0:=hH.new HA.out ht
        have ST:Hid (MapHas u nm l (k+1) (D.put (.string (nm t).data.toList) (rvD ⟨vk,u.extract q j,vstr,vq,(q:Int)⟩))):=hdd (hH.step hD.isMap HA.out ht VO.out)
        have HD:=hdd hD
        have KM:Hid (k<maxLen):=hdd (by have:=HL.out;unfold maxLen;omega)
        have HN:=hdd hN
        have r2:wd.cell? ⟨B+1,2,none⟩=some (.map (some M)):=A3.out.rr 2 _ rfl
        have y2:wd.cell? ⟨B+3,2,none⟩=some (.string kstr):=A3.out.kr 2 _ rfl
        obtain rfl:kstr=nm t:=hks
        obtain ⟨nt,hnt⟩:∃ nt,nm t=nt:=⟨_,rfl⟩
        rw [hnt] at y2 ST NO0 NZ A3
        have KY:Hid (keyOf Tryz.prog 9 (.string nt)=some (.string nt.data.toList)):=hdd (key9 (by unfold maxLen;omega))
        have NO:=hdd NO0
        clear hN hD hH hc PT ht hkd htv htj hnt NZ NO0 hkl
        go_upto_region 66 with (at_lookup;refine wpList_lookup_miss _ rfl _ _ 75 rfl 9 61 law9 Tryz.underlying75 (zero61 _) M k D rfl HD.out _ _ rfl KY.out NO.out ?_)
        obtain ⟨we,hwe⟩:∃ we,wd.alloc (Obj.cells #[.int .i64 0,.string ⟨#[]⟩,.string ⟨#[]⟩,.float .f64 0,.int .i64 0,.slice none 0 0] 61)=we:=⟨_,rfl⟩
        have bE:Hid (Below wd.heap.size wd we):=hdd (by rw [← hwe];exact (Below.refl _ wd).alloc (nlr _) _)
        have A6:Hid (AM u nm l w B M k ⟨kk,kraw,nt,kq,kix⟩ ⟨vk,u.extract q j,vstr,vq,(q:Int)⟩ we):=hdd (A3.out.below bE.out)
        have HE:Hid (we.ownsMap Tryz.prog 9 rvR M k D):=hdd (HD.out.kept (row:=none) ⟨bE.out.os,bE.out.tape,bE.out.output,bE.out.size,fun i hi _=>bE.out.block i hi⟩ Yy4)
        rw [hwe]
        clear hwe r2 y2 r4 v0 v1 v2 v3 v4 v5 A3 HD
        have r2:we.cell? ⟨B+1,2,none⟩=some (.map (some M)):=A6.out.rr 2 _ rfl
        have y2:we.cell? ⟨B+3,2,none⟩=some (.string nt):=A6.out.kr 2 _ rfl
        have v0:we.cell? ⟨B+2,0,none⟩=some (.int .i64 vk):=A6.out.vr 0 _ rfl
        have v1:we.cell? ⟨B+2,1,none⟩=some (.string (u.extract q j)):=A6.out.vr 1 _ rfl
        have v2:we.cell? ⟨B+2,2,none⟩=some (.string vstr):=A6.out.vr 2 _ rfl
        have v3:we.cell? ⟨B+2,3,none⟩=some (.float .f64 vq):=A6.out.vr 3 _ rfl
        have v4:we.cell? ⟨B+2,4,none⟩=some (.int .i64 (q:Int)):=A6.out.vr 4 _ rfl
        have v5:we.cell? ⟨B+2,5,none⟩=some (.slice none 0 0):=A6.out.vr 5 _ rfl
        go_wp2_with (at_mapUpdate;refine wpList_mapUpdate_own _ rfl _ _ _ 75 rfl 9 61 law9 Tryz.underlying75 rvR M k D rfl HE.out KM.out _ _ _ rfl rfl KY.out (rvD ⟨vk,u.extract q j,vstr,vq,(q:Int)⟩) [] rfl ?_;intro w1 hown1 hgrow1;have A7:=hdd (A6.out.put hown1 ST.out hgrow1);clear hown1 hgrow1)
        go_roundg (u.size - j)
        case measure=>exact MJ.out
        case rel=>exact ⟨j,c+1,k+1,L2,⟨kk,kraw,nt,kq,kix⟩,⟨vk,u.extract q j,vstr,vq,(q:Int)⟩,by have:=HJ1.out;congr 1;omega,Yy6,hdd Yy0,HT2,hdd (HN.out _),A7⟩
attribute [local go_sem] run_store_flt run_store_map
theorem gjof_any {w:World} (k:Int) (raw str:ByteArray) (q:Nat) (b:Bool) :
  Calls Tryz.prog 41 #[.agg #[.int .i64 k,.string raw,.string str,.float .f64 q,.bool b]] w fun e w'=>e = .returned (.agg #[.int .i64 k,.string raw,.string str,.float .f64 q,.int .i64 0,.slice none 0 0])∧Below w.heap.size w w':=by
 obtain ⟨B,hB⟩:∃ B,w.heap.size=B:=⟨_,rfl⟩
 go_enter Tryz.func41,Tryz.ntmps41
 go_upto_region 1 with (fail)
 obtain ⟨w1,hw1⟩:∃ w1,(w.alloc (Obj.cells #[.int .i64 k,.string raw,.string str,.float .f64 q,.bool b] 34)).alloc (Obj.cells #[.int .i64 0,.string ⟨#[]⟩,.string ⟨#[]⟩,.float .f64 0,.int .i64 0,.slice none 0 0] 61)=w1:=⟨_,rfl⟩
 have n0:(w.alloc (Obj.cells #[.int .i64 k,.string raw,.string str,.float .f64 q,.bool b] 34)).heap.size=w.heap.size+1:=by simp [go_sem]
 have b1:Below B w w1:=by rw [← hw1];exact ((Below.refl _ w).alloc Yy0 _).alloc (by rw [n0];omega) _
 have r0:w1.rangeAt B 0 [.int .i64 k,.string raw,.string str,.float .f64 q,.bool b]:=by rw [← hw1,← hB];exact rng_al (rng_new w [.int .i64 k,.string raw,.string str,.float .f64 q,.bool b] 34) _
 have r1:w1.rangeAt (B+1) 0 Z6:=by rw [← hw1,← hB];have hn:=rng_new (w.alloc (Obj.cells #[.int .i64 k,.string raw,.string str,.float .f64 q,.bool b] 34)) Z6 61;rwa [n0] at hn
 have t1:w1.there (B+1) 0 6:=by rw [← hw1,← hB];have hn:=thr_new (w.alloc (Obj.cells #[.int .i64 k,.string raw,.string str,.float .f64 q,.bool b] 34)) Z6 61;rwa [n0] at hn
 rw [hw1]
 clear hw1 n0
 have c0:w1.cell? ⟨B,0,none⟩=some (.int .i64 k):=r0 0 _ rfl
 have c1:w1.cell? ⟨B,1,none⟩=some (.string raw):=r0 1 _ rfl
 have c2:w1.cell? ⟨B,2,none⟩=some (.string str):=r0 2 _ rfl
 have c3:w1.cell? ⟨B,3,none⟩=some (.float .f64 q):=r0 3 _ rfl
 have d0:w1.cell? ⟨B+1,0,none⟩=some (.int .i64 0):=r1 0 _ rfl
 have d1:w1.cell? ⟨B+1,1,none⟩=some (.string ⟨#[]⟩):=r1 1 _ rfl
 have d2:w1.cell? ⟨B+1,2,none⟩=some (.string ⟨#[]⟩):=r1 2 _ rfl
 have d3:w1.cell? ⟨B+1,3,none⟩=some (.float .f64 0):=r1 3 _ rfl
 have d4:w1.cell? ⟨B+1,4,none⟩=some (.int .i64 0):=r1 4 _ rfl
 have d5:w1.cell? ⟨B+1,5,none⟩=some (.slice none 0 0):=r1 5 _ rfl
 have f0:w1.frozen? ⟨B+1,0,none⟩=false:=(t1 0 Yy0).2
 have f1:w1.frozen? ⟨B+1,1,none⟩=false:=(t1 1 Yy0).2
 have f2:w1.frozen? ⟨B+1,2,none⟩=false:=(t1 2 Yy0).2
 have f3:w1.frozen? ⟨B+1,3,none⟩=false:=(t1 3 Yy0).2
 have f4:w1.frozen? ⟨B+1,4,none⟩=false:=(t1 4 Yy0).2
 have f5:w1.frozen? ⟨B+1,5,none⟩=false:=(t1 5 Yy0).2
 have R1:=hdd r1;have B1:=hdd b1
 clear r0 r1 t1 b1
 go_wp2_with fail
 refine bodyPost_ret (results_cell1 rfl _ _ (B+1) _ _ rfl (rng_set (rng_set (rng_set (rng_set (rng_set (rng_set R1.out 0 (.int .i64 k) (by simp [Z6])) 1 (.string raw) (by simp [Z6])) 2 (.string str) (by simp [Z6])) 3 (.float .f64 q) (by simp [Z6])) 4 (.int .i64 0) (by simp [Z6])) 5 (.slice none 0 0) (by simp [Z6])) Tryz.underlying61 rfl Yy1) rfl ?_
 refine ⟨rfl,?_⟩
 rw [hB]
 exact (((((B1.out.setCell (p:=⟨B+1,0,none⟩) (Nat.le_succ B) _).setCell (p:=⟨B+1,1,none⟩) (Nat.le_succ B) _).setCell (p:=⟨B+1,2,none⟩) (Nat.le_succ B) _).setCell (p:=⟨B+1,3,none⟩) (Nat.le_succ B) _).setCell (p:=⟨B+1,4,none⟩) (Nat.le_succ B) _).setCell (p:=⟨B+1,5,none⟩) (Nat.le_succ B) _
theorem aom_map {w:World} {b0:Nat} (h:TS w b0) (hBB:b0≤w.heap.size) (u:ByteArray) (hs:u.size≤65536) (h0:bt u 0=123) (nm:ItT→ByteArray) (l:List ItT) (hT:Tkn u 1 (toks l)) (hnm:∀ t∈l,∀ str,KStr (u.extract (t.ni+1) (t.nj - 1)) str→str=nm t) (hnz:∀ t∈l,(nm t).size≤262144) (ha:Apart nm l) (hl:l.length≤65536) :
  Calls Tryz.prog 42 #[.agg #[.int .i64 5,.string u,.string ⟨#[]⟩,.float .f64 0,.int .i64 0,.slice none 0 0]] w fun e w'=>∃ M,e = .returned (.map (some M))∧(∃ D,w'.ownsMap Tryz.prog 9 rvR M l.length D∧MapHas u nm l l.length D)∧Below w.heap.size w w'∧w.heap.size≤M:=by
 have AC:Hid (∀ w':World,TS w' b0→b0≤w'.heap.size→Calls Tryz.prog 70 #[.agg #[.int .i64 5,.string u,.string ⟨#[]⟩,.float .f64 0,.int .i64 0,.slice none 0 0],.int .u8 123,.bool false] w' (AomPost u nm l w')):=hdd (fun w' h1 h2=>aom_any h1 h2 u hs h0 nm l hT hnm hnz ha hl)
 have HM:=hdd h;have HBB:=hdd hBB
 clear h hBB hs h0 hT hnm hnz ha hl
 obtain ⟨B,hB⟩:∃ B,w.heap.size=B:=⟨_,rfl⟩
 go_enter Tryz.func42,Tryz.ntmps42
 go_upto_region 1 with (fail)
 obtain ⟨w1,hw1⟩:∃ w1,w.alloc (Obj.cells #[.int .i64 5,.string u,.string ⟨#[]⟩,.float .f64 0,.int .i64 0,.slice none 0 0] 61)=w1:=⟨_,rfl⟩
 have b1:Below B w w1:=by rw [← hw1];exact (Below.refl _ w).alloc Yy0 _
 have s1:w1.heap.size=B+1:=Yy18
 have r0:w1.rangeAt B 0 [.int .i64 5,.string u,.string ⟨#[]⟩,.float .f64 0,.int .i64 0,.slice none 0 0]:=by rw [← hw1,← hB];exact rng_new w [.int .i64 5,.string u,.string ⟨#[]⟩,.float .f64 0,.int .i64 0,.slice none 0 0] 61
 rw [hw1]
 clear hw1
 have c0:w1.cell? ⟨B,0,none⟩=some (.int .i64 5):=r0 0 _ rfl
 have c1:w1.cell? ⟨B,1,none⟩=some (.string u):=r0 1 _ rfl
 have c2:w1.cell? ⟨B,2,none⟩=some (.string ⟨#[]⟩):=r0 2 _ rfl
 have c3:w1.cell? ⟨B,3,none⟩=some (.float .f64 0):=r0 3 _ rfl
 have c4:w1.cell? ⟨B,4,none⟩=some (.int .i64 0):=r0 4 _ rfl
 have c5:w1.cell? ⟨B,5,none⟩=some (.slice none 0 0):=r0 5 _ rfl
 have CT:=hdd (AC.out w1 (HM.out.below (b1.mono (by have:=HBB.out;omega))) (by have:=HBB.out;omega))
 have B1:=hdd b1;have S1:=hdd s1
 clear r0 b1 s1
 go_wp2_with (go_at_call 70;(with_reducible refine CT.out.mono ?_);rintro en w2 ⟨M,rfl,hmp,hb2,hM⟩;have MP:=hdd hmp;have B2:=hdd hb2;have HM2:=hdd hM;clear hmp hb2 hM)
 go_ret
 obtain ⟨D,hD,hH⟩:=MP.out
 have b2:=B2.out
 have s1:=S1.out
 have m2:=HM2.out
 refine ⟨M,rfl,⟨D,hD.alloc _,hH⟩,?_,Yy0⟩
 rw [hB]
 exact (B1.out.trans (b2.mono Yy0)).alloc (by have:=b2.size;omega) _
theorem ins_nil {w:World}:Calls Tryz.prog 100 #[.slice none 0 0,.int .i64 0,.int .i64 0] w fun e w'=>e = .returned (.tuple #[])∧w'=w:=by
 go_enter Tryz.func100,Tryz.ntmps100
 go_wp2_with fail
 go_loopg [6] 0 (fun m v6 wr=>v6 = .int .i64 1∧Hid (wr=w))
 case atStart=>exact ⟨rfl,hdd rfl⟩
 case round=>
  obtain ⟨rfl,hwr⟩:=hrel
  obtain rfl:=hwr.out
  go_wp2_with fail
  go_end0
  exact ⟨rfl,rfl⟩
theorem pdq_nil {w:World} (x:Int):Calls Tryz.prog 91 #[.slice none 0 0,.int .i64 0,.int .i64 0,.int .i64 x] w fun e w'=>e = .returned (.tuple #[])∧w'=w:=by
 go_enter Tryz.func91,Tryz.ntmps91
 go_wp2_with fail
 go_loopg [1,2,3] 0 (fun m v1 v2 v3 wr=>v1 = .int .i64 0∧v2 = .int .i64 0∧v3 = .int .i64 x∧Hid (wr=w))
 case atStart=>exact ⟨rfl,rfl,rfl,hdd rfl⟩
 case round=>
  obtain ⟨rfl,rfl,rfl,hwr⟩:=hrel
  obtain rfl:=hwr.out
  go_wp2_with (go_at_call 100;refine ins_nil.mono ?_;rintro en w2 ⟨rfl,rfl⟩)
  refine bodyPost_ret (results_none rfl _ _ _) rfl ?_
  exact ⟨rfl,rfl⟩
theorem bl_any {w:World}:Calls Tryz.prog 92 #[.int .u64 0] w fun e w'=>(∃ x:Int,e = .returned (.int .i64 x))∧w'=w:=by
 go_enter Tryz.func92,Tryz.ntmps92
 go_wp2_with (go_at_call 110;refine (len_any 0 Yy0 Yy0).mono ?_;rintro en w2 ⟨hl,rfl⟩;obtain ⟨x,hx⟩:=hl)
 go_ret
 exact ⟨⟨_,rfl⟩,rfl⟩
theorem sorts_nil {w:World}:Calls Tryz.prog 43 #[.slice none 0 0] w fun e w'=>e = .returned (.tuple #[])∧w'=w:=by
 have S1:∀ w:World,Calls Tryz.prog 71 #[.slice none 0 0] w fun e w'=>e = .returned (.tuple #[])∧w'=w:=fun w=>by
  go_enter Tryz.func71,Tryz.ntmps71
  go_wp2_with (first | (go_at_call 92;refine bl_any.mono ?_;rintro en w2 ⟨⟨x,rfl⟩,rfl⟩) | (go_at_call 91;refine (pdq_nil _).mono ?_;rintro en w3 ⟨rfl,rfl⟩))
  go_end0
  exact ⟨rfl,rfl⟩
 go_enter Tryz.func43,Tryz.ntmps43
 go_wp2_with (go_at_call 71;refine (S1 _).mono ?_;rintro en w2 ⟨rfl,rfl⟩)
 go_end0
 exact ⟨rfl,rfl⟩
end Go.Proofs.YtieflhncpjjciaaGreatDoor.Dc
namespace Go.Proofs
open Go.Proofs.YtieflhncpjjciaaGreatDoor
open Go.Shelf
def Tryz.lays192_ren:Go.Shelf.Ren:=⟨fun | 192=>43 | 190=>71 | 125=>92 | 258=>91 | 128=>109 | 129=>110 | 302=>100 | 303=>101 | 304=>102 | 305=>103 | 306=>104 | 307=>105 | 308=>106 | 309=>107 | 310=>108 | 333=>124 | 329=>125 | 330=>126 | 334=>127 | 335=>128 | 336=>129 | 344=>140 | n=>n,fun | 31=>22 | 0=>0 | 9=>9 | 3=>3 | 46=>132 | 51=>140 | 53=>137 | 4=>4 | 183=>143 | 182=>142 | 131=>90 | 5=>5 | 218=>157 | 222=>161 | 228=>172 | 229=>173 | n=>n,fun | n=>n⟩
theorem Tryz.lays192:Go.Proofs.Lays.n192 Tryz.prog Tryz.lays192_ren:={
 mixed:=Yy1
 f125:=Tryz.func92.trans (congrArg some Yy1)
 f128:=Tryz.func109.trans (congrArg some Yy1)
 f129:=Tryz.func110.trans (congrArg some Yy1)
 f190:=Tryz.func71.trans (congrArg some Yy1)
 f192:=Tryz.func43.trans (congrArg some Yy1)
 f258:=Tryz.func91.trans (congrArg some Yy1)
 f302:=Tryz.func100.trans (congrArg some Yy1)
 f303:=Tryz.func101.trans (congrArg some Yy1)
 f304:=Tryz.func102.trans (congrArg some Yy1)
 f305:=Tryz.func103.trans (congrArg some Yy1)
 f306:=Tryz.func104.trans (congrArg some Yy1)
 f307:=Tryz.func105.trans (congrArg some Yy1)
 f308:=Tryz.func106.trans (congrArg some Yy1)
 f309:=Tryz.func107.trans (congrArg some Yy1)
 f310:=Tryz.func108.trans (congrArg some Yy1)
 f329:=Tryz.func125.trans (congrArg some Yy1)
 f330:=Tryz.func126.trans (congrArg some Yy1)
 f333:=Tryz.func124.trans (congrArg some Yy1)
 f334:=Tryz.func127.trans (congrArg some Yy1)
 f335:=Tryz.func128.trans (congrArg some Yy1)
 f336:=Tryz.func129.trans (congrArg some Yy1)
 f344:=Tryz.func140.trans (congrArg some Yy1)
 t0:=Tryz.underlying0
 a0:=Tryz.isAgg0
 z0:=Tryz.sizeOf0
 v0:=Tryz.zeroValue0
 t3:=Tryz.underlying3
 a3:=Tryz.isAgg3
 z3:=Tryz.sizeOf3
 v3:=Tryz.zeroValue3
 t4:=Tryz.underlying4
 a4:=Tryz.isAgg4
 z4:=Tryz.sizeOf4
 v4:=Tryz.zeroValue4
 t5:=Tryz.underlying5
 a5:=Tryz.isAgg5
 z5:=Tryz.sizeOf5
 v5:=Tryz.zeroValue5
 t9:=Tryz.underlying9
 a9:=Tryz.isAgg9
 z9:=Tryz.sizeOf9
 v9:=Tryz.zeroValue9
 t31:=Tryz.underlying22
 a31:=Tryz.isAgg22
 z31:=Tryz.sizeOf22
 v31:=Tryz.zeroValue22
 t46:=Tryz.underlying132
 a46:=Tryz.isAgg132
 z46:=Tryz.sizeOf132
 v46:=Tryz.zeroValue132
 t51:=Tryz.underlying140
 a51:=Tryz.isAgg140
 z51:=Tryz.sizeOf140
 v51:=Tryz.zeroValue140
 t53:=Tryz.underlying137
 a53:=Tryz.isAgg137
 z53:=Tryz.sizeOf137
 v53:=Tryz.zeroValue137
 t131:=Tryz.underlying90
 a131:=Tryz.isAgg90
 z131:=Tryz.sizeOf90
 v131:=Tryz.zeroValue90
 t182:=Tryz.underlying142
 a182:=Tryz.isAgg142
 z182:=Tryz.sizeOf142
 v182:=Tryz.zeroValue142
 t183:=Tryz.underlying143
 a183:=Tryz.isAgg143
 z183:=Tryz.sizeOf143
 v183:=Tryz.zeroValue143
 t218:=Tryz.underlying157
 a218:=Tryz.isAgg157
 z218:=Tryz.sizeOf157
 v218:=Tryz.zeroValue157
 t222:=Tryz.underlying161
 a222:=Tryz.isAgg161
 z222:=Tryz.sizeOf161
 v222:=Tryz.zeroValue161
 t228:=Tryz.underlying172
 a228:=Tryz.isAgg172
 z228:=Tryz.sizeOf172
 v228:=Tryz.zeroValue172
 t229:=Tryz.underlying173
 a229:=Tryz.isAgg173
 z229:=Tryz.sizeOf173
 v229:=Tryz.zeroValue173 }
open Go.Sort Go.RowKit in
theorem Tryz.sort_Strings (blk off cap:Nat) (ss:List (List UInt8)) (w:World) (hH:Holds encStr w blk off ss.toArray) (hblk:blk<w.heap.size) (hsz:ss.length<4611686018427387904) :
  Calls Tryz.prog 43 #[.slice (some ⟨blk,off,none⟩) ss.length cap] w fun e w'=>
   e = .returned (.tuple #[])∧∃ n os,w'=grow (putRow encStr (Sort.ahead w n) blk off (ss.mergeSort fun x y=>decide (x≤y)).toArray) os:=Any.sort_Strings Tryz.lays192 blk off cap ss w hH hblk hsz
end Go.Proofs
