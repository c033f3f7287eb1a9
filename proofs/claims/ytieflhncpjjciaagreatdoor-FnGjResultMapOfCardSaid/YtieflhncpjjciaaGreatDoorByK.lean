/- Walks and plain laws of this claim. -/
import Derived.Test.YtieflhncpjjciaaGreatDoorByH
import Derived.Test.YtieflhncpjjciaaGreatDoorVx15
import Derived.Test.YtieflhncpjjciaaGreatDoorByJ
import Derived.Deep.AppendLies
import Derived.Deep.RegionHeld3
import Derived.Test.YtieflhncpjjciaaGreatDoorByP
import Derived.Test.YtieflhncpjjciaaGreatDoorByA
set_option maxHeartbeats 8000000
set_option maxRecDepth 100000
set_option linter.unusedVariables false
set_option linter.unusedSimpArgs false
namespace Go.Proofs.YtieflhncpjjciaaGreatDoor.Dc
open Go Go.RowKit Go.Proofs.YtieflhncpjjciaaGreatDoorW.PrintWords Go.Proofs.YtieflhncpjjciaaGreatDoor.PFnGjSquashItems
attribute [local go_sem] run_store_flt
structure LV where
 kd:Int
 v:Nat
 j:Nat
inductive Tx (u:ByteArray):Nat→List LV→Prop
 | nil {p:Nat} (h:p≤u.size) (hb:∀ q,p≤q→q<u.size→bt u (q:Int)≤32):Tx u p []
 | cons {p:Nat} {t:LV} {l:List LV} (h:p≤t.v) (hb:∀ q,p≤q→q<t.v→bt u (q:Int)≤32) (vk:VK u t.kd t.v t.j) (he:NumEnd u t.j) (r:Tx u t.j l):Tx u p (t :: l)
theorem Tx.le {u:ByteArray} {p:Nat} {l:List LV} (h:Tx u p l):p≤u.size:=by
 cases h with
 | nil h _=>exact h
 | cons h _ vk _ _=>have:=vk.1;have:=vk.2.1;omega
structure IterL (f:Nat) (caps:Array Value) (C:Nat→Prop) (Inv:Nat→List (RV×RV)→World→Prop) (cont:List (RV×RV)→Bool):Prop where
 enter:∀ (args:Array Value) (w:World),(callFunc f args).run Tryz.prog w = .ok (.enter f args) w
 step:∀ (base:Nat) (L:List (RV×RV)) (a b:RV) (w:World),Inv base L w→base≤w.heap.size→L.length≤65536→Calls Tryz.prog f (#[a.val] ++ caps) w fun e w'=>e = .returned (.bool (cont (L ++ [(a,b)])))∧Inv base (L ++ [(a,b)]) w'∧KeepC C base w w'
 off:∀ (base:Nat) (L:List (RV×RV)) (w w':World),Inv base L w→OffC C base w w'→Inv base L w'
structure LS (C:Nat→Prop) (Inv:Nat→List (RV×RV)→World→Prop) (A:Nat) (L:List (RV×RV)) (w wr:World) (val:RV):Prop where
 vr:wr.rangeAt A 0 val.cl
 vt:wr.there A 0 6
 inv:Inv (A+1) L wr
 keep:KeepC C A w wr
 sz:A+1≤wr.heap.size
section
variable {f:Nat} {caps:Array Value} {C:Nat→Prop} {Inv:Nat→List (RV×RV)→World→Prop} {cont:List (RV×RV)→Bool} {A:Nat} {val:RV} {L:List (RV×RV)} {w wr w':World}
theorem LS.below (h:LS C Inv A L w wr val) (hi:IterL f caps C Inv cont) (hb:Below wr.heap.size wr w'):LS C Inv A L w w' val:=
 ⟨rng_b h.vr hb,thr_b h.vt hb,hi.off _ _ _ _ h.inv (OffC.of hb),h.keep.trans (KeepC.of hb (by have:=h.sz;omega)),Nat.le_trans h.sz hb.size⟩
theorem LS.dn (h:LS C Inv A L w wr val) (hi:IterL f caps C Inv cont) (n:Nat):LS C Inv A L w (wr.drewN n) val:=h.below hi (Below.drewNs (Below.refl _ _) n)
theorem LS.valSet (h:LS C Inv A L w wr val) (hi:IterL f caps C Inv cont) (hC:∀ g,C g→g<A) (i:Nat) (hl:i<6) (v:Value) (val':RV) (hk:val.cl.set i v=val'.cl):LS C Inv A L w (wr.setCell ⟨A,i,none⟩ v) val':=by
 have hb:=below_set (B:=A) wr ⟨A,i,none⟩ v (by show A≤A;omega)
 exact ⟨Yy90,thr_set h.vt _ v,hi.off _ _ _ _ h.inv (OffC.set wr _ v (fun hc=>by have h9:A<A:=hC _ hc;omega) (by show A<A+1;omega)),h.keep.trans (KeepC.of hb (nlr _)),Nat.le_trans h.sz hb.size⟩
theorem LS.ms {b0:Nat} (h:LS C Inv A L w wr val) (hm:MS w b0) (hb:b0≤A) (hC:∀ g,C g→b0≤g):MS wr b0∧b0≤wr.heap.size:=
 ⟨hm.below (h.keep.toBelow hb hC),by have:=h.sz;omega⟩
end
section
variable {s u:ByteArray} {o:Nat}
theorem win_ext (W:Win s u 0 o s.size) {a b:Nat} (h1:a≤b) (h2:b≤s.size):u.extract (o+a) (o+b)=s.extract a b:=by
 have w:=W.sub a (b - a) Yy0
 rw [Nat.zero_add] at w
 have:=w.ext
 rwa [show o+a+(b - a)=o+b from Yy0,show a+(b - a)=b from Yy0] at this
end
def LX (u:ByteArray) (t:LV) (x:S26):Prop:=
 Ev (fun k=>spec_Read.f k (u.extract t.v t.j)) (x.f0,x.f1,x.f2,x.f3,true)∧SmOK x∧laws_gjKind.f x.f0=some (gkd t.kd)∧(x.f0=4→∀ str,KStr (u.extract (t.v+1) (t.j - 1)) str→str=x.f1)∧x.f0=t.kd
theorem leaf_kd {s:ByteArray} {kd:Int} {i j:Nat} (h:LeafOK s kd i j):kd=0∨kd=1∨kd=2∨kd=3∨kd=4:=by
 rcases h with h | h | h | h | h <;> (have:=h.1;omega)
theorem kind_t {s:ByteArray} {t:T} (h:t.wf s):laws_gjKind.f t.s.1=some (gkd t.s.1):=by
 cases t with
 | leaf kd i j=>
  rcases leaf_kd h.2.2 with e | e | e | e | e <;> (subst e;rfl)
 | arr i j es=>rfl
 | obj i j ms=>rfl
theorem lx_t {s u:ByteArray} (hs:s.size≤65536) {o:Nat} (W:Win s u 0 o s.size) {t:T} (h:t.wf s) (hp:t.pd s) (hj:t.j≤s.size):LX u ⟨t.s.1,o+t.i,o+t.j⟩ (t.n s):=by
 have hlt:=T.wf_lt t h
 refine ⟨?_,sm_t hs t h,by rw [T.n_kind];exact kind_t h,fun h4 str hk=>?_,T.n_kind s t⟩
 ·
  show Ev (fun k=>spec_Read.f k (u.extract (o+t.i) (o+t.j))) _
  rw [win_ext W Yy0 hj]
  exact read_val hs h
 ·
  rw [T.n_kind] at h4
  have vk:=wf_vk h
  have hst:StrTok s t.i t.j:=by
   rcases vk.2.2 with a | a | a | a <;> first | exact a.2 | omega
  have h2:=hst.1.1
  have e:u.extract (o+t.i+1) (o+t.j - 1)=s.extract (t.i+1) (t.j - 1):=by
   have:=win_ext W (a:=t.i+1) (b:=t.j - 1) Yy0 Yy0
   rwa [show o+(t.i+1)=o+t.i+1 from Yy0,show o+(t.j - 1)=o+t.j - 1 from Yy0] at this
  have hk':KStr (s.extract (t.i+1) (t.j - 1)) str:=by rw [← e];exact hk
  cases t with
  | leaf kd i j=>
   have h4':kd=4:=h4
   subst h4'
   have:=uq_is hs hst (hp rfl) hk'
   show str=(T.n s (.leaf 4 i j)).f1
   rw [T.n]
   show str=textOf s 4 i j
   rw [← this]
   rfl
  | arr i j es=>exact absurd (show (5:Int)=4 from h4) Yy3
  | obj i j ms=>exact absurd (show (6:Int)=4 from h4) Yy3
open Go Go.RowKit Go.Proofs.YtieflhncpjjciaaGreatDoorW.PrintWords
structure OtP (e size:Nat) (f:RV×RV→List Value) (pins:List (Nat×Value)) (ob base:Nat) (L:List (RV×RV)) (w:World):Prop where
 ex:∃ v,w.cell? ⟨ob,0,none⟩=some v∧w.ownsRow base e size v L.length (L.flatMap f)∧v.ownBlock≠some ob∧∀ p∈pins,v.ownBlock≠some p.1
 fr:w.frozen? ⟨ob,0,none⟩=false
 pin:∀ p∈pins,w.cell? ⟨p.1,0,none⟩=some p.2∧p.1≠ob
def CP (pins:List (Nat×Value)) (ob:Nat) (g:Nat):Prop:=g=ob∨∃ p∈pins,g=p.1
theorem OtP.off {e size:Nat} {f:RV×RV→List Value} {pins:List (Nat×Value)} {ob base:Nat} {L:List (RV×RV)} {w w':World} (h:OtP e size f pins ob base L w) (k:OffC (CP pins ob) base w w'):OtP e size f pins ob base L w':=by
 obtain ⟨⟨v,hc,ho,hn,hp⟩,hf,hpin⟩:=h
 have hlt:=blo w _ hc
 have hb:=k.block ob hlt (Or.inl (Or.inl rfl))
 refine ⟨⟨v,by rw [World.cell?_of_block (w:=w) hb];exact hc,⟨ho.1,?_⟩,hn,hp⟩,?_,fun p h1=>⟨?_,(hpin p h1).2⟩⟩
 ·
  rcases ho.2 with h2 | ⟨g,cap,cur,hv,hg,hh,hr⟩
  ·
   exact .inl h2
  ·
   exact .inr ⟨g,cap,cur,hv,hg,Yy77,hr⟩
 ·
  rw [← hf]
  unfold World.frozen?
  simp only [hb]
 ·
  have hp1:=(hpin p h1).1
  rw [World.cell?_of_block (w:=w) (k.block p.1 (blo w _ hp1) (Or.inl (Or.inr ⟨p,h1,rfl⟩)))]
  exact hp1
def LG (r:RV) (x:S26):Prop:=
 Ev (fun k=>spec_Read.f k r.raw) (x.f0,x.f1,x.f2,x.f3,true)∧SmOK x∧laws_gjKind.f x.f0=some r.k∧(x.f0=4→r.str=x.f1)∧(r.k != 0 || (r.raw.size:Int) != 0)=true
theorem Tx.in {u:ByteArray} {p:Nat} {l:List LV} (h:Tx u p l):∀ t∈l,t.v<t.j∧t.j≤u.size:=by
 induction h with
 | nil=>intro t ht;cases ht
 | cons h hb vk he r ih=>
  intro t ht
  rcases List.mem_cons.mp ht with rfl | ht
  ·
   exact ⟨vk.1,vk.2.1⟩
  ·
   exact ih t ht
theorem un_size {u:ByteArray} {p:Nat} {o:List Int} (h:Un u p o):o.length+4 * p≤4 * u.size:=by
 induction h with
 | nil=>simp
 | plain h _ _ _ ih=>rw [List.length_cons];omega
 | short h _ _ _ ih=>rw [List.length_cons];omega
 | uni h _ _ _ _ _ ih=>rw [List.length_append];refine Nat.le_trans (Nat.add_le_add_right (Nat.add_le_add_right (enc_len _) _) _) ?_;omega
 | pair h _ _ _ _ _ _ _ _ ih=>rw [List.length_append];refine Nat.le_trans (Nat.add_le_add_right (Nat.add_le_add_right (enc_len _) _) _) ?_;omega
 | lone h _ _ _ _ _ _ ih=>rw [List.length_append];refine Nat.le_trans (Nat.add_le_add_right (Nat.add_le_add_right (enc_len _) _) _) ?_;omega
theorem nums_size (L:List Int):(strOfNums L).size=L.length:=by
 show (strOfNums L).data.size=_
 simp [strOfNums]
noncomputable def nmS (s:ByteArray) (x:ItT):ByteArray:=uq s x.ni x.nj
theorem lg_of {s:ByteArray} (hs:s.size≤65536) {t:T} (h:t.wf s) (hp:t.pd s) {x:ItT} (hk:x.kd=t.s.1) (hv:x.v=t.i) (hj:x.j=t.j) {r:RV} (hr:ValOK s x r):LG r (t.n s):=by
 have W:Win s s 0 0 s.size:=⟨fun k hk=>by rw [Nat.zero_add],Yy0,Yy0⟩
 have htj:=(wf_sq t h).1
 obtain ⟨h1,h2,h3,h4,h5⟩:=lx_t hs W h hp htj
 obtain ⟨g1,g2,g3,g4⟩:=hr
 simp only [Nat.zero_add] at h1 h3 h4 h5
 have hlt:=T.wf_lt t h
 have hz:r.raw.size≠0:=by rw [g2,ByteArray.size_extract,hv,hj];omega
 refine ⟨by rw [g2,hv,hj];exact h1,h2,by rw [g1,hk];exact h3,fun h=>h4 h _ ?_,?_⟩
 ·
  have:=g3 (by rw [hk,← h5];exact h)
  rwa [hv,hj] at this
 ·
  rw [Bool.or_eq_true]
  exact .inr (bne_iff_ne.mpr Yy0)
theorem mo_sum {s:ByteArray} (hs:s.size≤65536) {t:T} (hw:t.wf s) (hpd:t.pd s) (hk:t.s.1=6) (hi:t.i=0) :
  ∃ l:List ItT,bt s 0=123∧Tkn s 1 (toks l)∧l.length=(t.n s).f2.length∧l.length=(t.n s).f3.length∧l.length≤65536∧(∀ x∈l,∀ str,KStr (s.extract (x.ni+1) (x.nj - 1)) str→str=nmS s x)∧(∀ x∈l,(nmS s x).size≤262144)∧(∀ x∈(t.n s).f3,UnOK x) ∧
   ∀ (k:Nat) (x:ItT),l[k]? = some x→(t.n s).f2[k]? = some (nmS s x)∧∃ y,(t.n s).f3[k]? = some y∧∀ r:RV,ValOK s x r→LG r y:=by
 cases t with
 | leaf kd i j=>
  have h6:kd=6:=hk
  rcases leaf_kd hw.2.2 with e | e | e | e | e <;> omega
 | arr i j es=>exact absurd (show (5:Int)=6 from hk) Yy3
 | obj i j ms=>
  obtain rfl:i=0:=hi
  obtain ⟨h1,h2,p,h3,h4⟩:=hw
  rw [T.n]
  rcases h4 with ⟨c1,c2,rfl⟩ | c
  ·
   refine ⟨[],h1,.done h3.1 (blk_sepOK h3) c1,by rw [Ms.kn];rfl,by rw [Ms.n];rfl,Nat.zero_le _,(fun x hx=>by cases hx),(fun x hx=>by cases hx),(fun x hx=>by rw [Ms.n] at hx;cases hx),fun k x h=>Yy10⟩
  ·
   obtain ⟨m1,m2,m3,m4⟩:=ms_at ms p j c hpd
   have hjs:=(ms_sq ms p j c).1
   have fit:∀ x∈msIt ms,StrTok s x.ni x.nj∧Pdd s (x.nj - 1) (x.ni+1):=fun x hx=>by
    obtain ⟨k,hk⟩:=List.mem_iff_getElem?.mp hx
    obtain ⟨a,b,_⟩:=m4 k x hk
    exact ⟨a,b⟩
   refine ⟨msIt ms,h1,(ms_tkn ms p j c).more h3.1 (blk_sepOK h3),m1,m2,Yy0,fun x hx str hstr=>(uq_is hs (fit x hx).1 (fit x hx).2 hstr).symm,fun x hx=>?_,un_ms hs ms p j c,fun k x hx=>?_⟩
   ·
    obtain ⟨O,hO⟩:=tok_un (fit x hx).1
    have e:=uq_is hs (fit x hx).1 (fit x hx).2 ⟨O,hO,rfl⟩
    show (uq s x.ni x.nj).size≤262144
    rw [e,nums_size]
    have h9:=un_size hO
    have h8:(s.extract (x.ni+1) (x.nj - 1)).size≤65536:=Yy13
    omega
   ·
    obtain ⟨_,_,a3,t',b1,b2,b3,b4,b5,b6⟩:=m4 k x hx
    exact ⟨a3,_,b3,fun r hr=>lg_of hs b1 b2 b4 b5 b6 hr⟩
end Go.Proofs.YtieflhncpjjciaaGreatDoor.Dc
