/- Walks and plain laws of this claim. -/
import Derived.Test.YtieflhncpjjciaaGreatDoorByI
import Derived.Test.YtieflhncpjjciaaGreatDoorByJ
import Derived.Test.YtieflhncpjjciaaGreatDoorVx17
import Derived.Maps.OwnSet
import Derived.Test.YtieflhncpjjciaaGreatDoorByG
import Derived.Test.YtieflhncpjjciaaGreatDoorByB
import Derived.Test.YtieflhncpjjciaaGreatDoorByF
import Derived.Deep.RegionHeld3
import Derived.BigQuiet
import Derived.Test.YtieflhncpjjciaaGreatDoorByA
set_option maxHeartbeats 8000000
set_option maxRecDepth 100000
set_option linter.unusedVariables false
set_option linter.unusedSimpArgs false
namespace Go.Proofs.YtieflhncpjjciaaGreatDoor.Dc
open Go Go.RowKit Go.Proofs.YtieflhncpjjciaaGreatDoorW.PrintWords Go.Proofs.YtieflhncpjjciaaGreatDoor.PFnGjSquashItems
inductive Tkn (u:ByteArray):Nat→List (Int×Nat×Nat)→Prop
 | done {i e:Nat} (h:i≤e) (hs:∀ q,i≤q→q<e→sepOK (bt u (q:Int))) (h1:bt u (e:Int)=125):Tkn u i []
 | tok {i v j:Nat} {kd:Int} {L:List (Int×Nat×Nat)} (h:i≤v) (hs:∀ q,i≤q→q<v→sepOK (bt u (q:Int))) (vk:VK u kd v j) (hj:j<u.size) (he:kd≠4→NumEnd u j) (r:Tkn u j L):Tkn u i ((kd,v,j) :: L)
theorem Tkn.more {u:ByteArray} {i i':Nat} {L:List (Int×Nat×Nat)} (h:Tkn u i L) (hi:i'≤i) (hs:∀ q,i'≤q→q<i→sepOK (bt u (q:Int))):Tkn u i' L:=by
 cases h with
 | done h h2 h3=>exact .done Yy0 (fun q a b=>Yy75) h3
 | tok h h2 vk hj he r=>exact .tok Yy0 (fun q a b=>Yy75) vk hj he r
theorem Tkn.head {u:ByteArray} {i:Nat} {L:List (Int×Nat×Nat)} (h:Tkn u i L):(sepOK (bt u (i:Int))∧i<u.size∧Tkn u (i+1) L)∨(L = []∧bt u (i:Int)=125∧i<u.size) ∨
  ∃ kd j L',L=(kd,i,j) :: L'∧VK u kd i j∧j<u.size∧(kd≠4→NumEnd u j)∧Tkn u j L':=by
 cases h with
 | @done _ e h h2 h3=>
  have he:=bt_in h3 Yy3
  rcases eol h with c | c
  ·
   subst c;exact .inr (.inl ⟨rfl,h3,he⟩)
  ·
   exact .inl ⟨h2 i (nlr _) c,Yy0,.done c (fun q a b=>h2 q Yy0 b) h3⟩
 | @tok _ v j kd L h h2 vk hj he r=>
  have:=vk.1
  rcases eol h with c | c
  ·
   subst c;exact .inr (.inr ⟨kd,j,L,rfl,vk,hj,he,r⟩)
  ·
   exact .inl ⟨h2 i (nlr _) c,Yy0,.tok c (fun q a b=>h2 q Yy0 b) vk hj he r⟩
def toks:List ItT→List (Int×Nat×Nat)
 | []=>[]
 | t :: l=>(4,t.ni,t.nj) :: (t.kd,t.v,t.j) :: toks l
def msIt:Ms→List ItT
 | .nil=>[]
 | .cons ni nj t r=>⟨ni,nj,t.s.1,t.i,t.j⟩ :: msIt r
theorem str_vk {s:ByteArray} {i j:Nat} (h:StrTok s i j):VK s 4 i j:=⟨by have:=h.1.1;omega,h.1.2.1,.inl ⟨rfl,h⟩⟩
theorem blk_sepOK {s:ByteArray} {i j:Nat} (h:Blk s i j):∀ q,i≤q→q<j→sepOK (bt s (q:Int)):=fun q a b=>isB_sep (h.2.2 q a b)
theorem end_of {s:ByteArray} {a q:Nat} (h:Blk s a q) (hc:bt s (q:Int)=44∨bt s (q:Int)=93∨bt s (q:Int)=125):NumEnd s a:=by
 rcases eol h.1 with c | c
 ·
  subst c
  unfold NumEnd
  omega
 ·
  have:=isB_le (h.2.2 a (nlr _) c)
  unfold NumEnd
  omega
theorem ms_tkn {s:ByteArray}:∀ (ms:Ms) (p j:Nat),ms.wf s p j→Tkn s p (toks (msIt ms))
 | .nil,p,j,h=>absurd h Yy19
 | .cons ni nj t r,p,j,h=>by
  obtain ⟨rfl,hst,c,hc1,hc2,v,hv,h1,h2,q,h3,h4⟩:=h
  have hvk:=wf_vk h1
  have hcs:=bt_in hc2 Yy3
  have hq1:=h3.1
  have hq2:=h3.2.1
  have hcn:=hc1.1
  have tail:∀ L,q<s.size→NumEnd s t.j→Tkn s t.j L→Tkn s ni ((4,ni,nj) :: (t.s.1,t.i,t.j) :: L):=fun L hqs hne hL=>
   .tok (nlr _) (fun q a b=>absurd a Yy0) (str_vk hst) Yy0 (fun h=>absurd rfl h)
    (.tok (by have:=hv.1;omega) (fun k a b=>by
     rcases Nat.lt_or_ge k c with e | e
     ·
      exact blk_sepOK hc1 k a e
     ·
      rcases eol e with e | e
      ·
       rw [← e,hc2];exact .inr (.inr rfl)
      ·
       exact blk_sepOK hv k e Yy0) hvk Yy0 (fun _=>hne) hL)
  rcases h4 with ⟨c1,rfl,c3⟩ | ⟨c1,p',c2,c3⟩
  ·
   exact tail [] (bt_in c1 Yy3) (end_of h3 (.inr (.inr c1))) (.done hq1 (blk_sepOK h3) c1)
  ·
   have hp:=c2.1
   refine tail _ (bt_in c1 Yy3) (end_of h3 (.inl c1)) ((ms_tkn r p' j c3).more Yy0 (fun k a b=>?_))
   rcases Nat.lt_or_ge k q with e | e
   ·
    exact blk_sepOK h3 k a e
   ·
    rcases eol e with e | e
    ·
     rw [← e,c1];exact .inr (.inl rfl)
    ·
     exact blk_sepOK c2 k e b
def MsAt (s:ByteArray) (ms:Ms) (p j:Nat):Prop:=(msIt ms).length=(ms.kn s).length∧(msIt ms).length=(ms.n s).length∧(p+(msIt ms).length≤j)∧∀ (k:Nat) (x:ItT),(msIt ms)[k]? = some x →
  StrTok s x.ni x.nj∧Pdd s (x.nj - 1) (x.ni+1)∧(ms.kn s)[k]? = some (uq s x.ni x.nj)∧∃ t:T,t.wf s∧t.pd s∧(ms.n s)[k]? = some (t.n s)∧x.kd=t.s.1∧x.v=t.i∧x.j=t.j
theorem ms_at {s:ByteArray}:∀ (ms:Ms) (p j:Nat),ms.wf s p j→ms.pd s→MsAt s ms p j
 | .nil,p,j,h,_=>absurd h Yy19
 | .cons ni nj t r,p,j,h,hp=>by
  obtain ⟨rfl,hst,c,hc1,hc2,v,hv,h1,h2,q,h3,h4⟩:=h
  rw [Ms.pd] at hp
  obtain ⟨p1,p2,p3⟩:=hp
  have hlt:=T.wf_lt t h1
  have b1:=hst.1.1
  have b2:=hc1.1
  have b3:=hv.1
  have b4:=h3.1
  have main:MsAt s r (ni+1) j→MsAt s (.cons ni nj t r) ni j:=fun R=>by
   refine ⟨?_,?_,?_,fun k x hx=>?_⟩
   ·
    rw [Ms.kn,msIt,List.length_cons,List.length_cons,R.1]
   ·
    rw [Ms.n,msIt,List.length_cons,List.length_cons,R.2.1]
   ·
    rw [msIt,List.length_cons];have:=R.2.2.1;omega
   ·
    rw [Ms.kn,Ms.n]
    cases k with
    | zero=>
     obtain rfl:=Option.some.inj hx
     exact ⟨hst,p1,rfl,t,h1,p2,rfl,rfl,rfl,rfl⟩
    | succ k=>exact R.2.2.2 k x hx
  rcases h4 with ⟨c1,rfl,c3⟩ | ⟨c1,p',c2,c3⟩
  ·
   exact main ⟨by rw [Ms.kn];rfl,by rw [Ms.n];rfl,by show ni+1+0≤j;omega,fun k x h=>by simp [msIt] at h⟩
  ·
   obtain ⟨r1,r2,r3,r4⟩:=ms_at r p' j c3 p3
   have:=c2.1
   exact main ⟨r1,r2,Yy0,r4⟩
theorem rdOf_ks {ks:List ByteArray} {i:Nat} (h:i<ks.length):ks[i]? = some (rdOf ByteArray.empty ks (i:Int)):=by
 unfold rdOf
 rw [Int.toNat_natCast,List.getD_eq_getElem?_getD,List.getElem?_eq_getElem h]
 rfl
theorem at_last (k:Int) (u nm:ByteArray) {ks:List ByteArray} (hk:ks.length≤65536) (ns:List S26):∀ m:Nat,m≤ks.length→∃ r,Ev (fun n=>spec_at.l0 n nm ((m:Int) - 1) k u ks ns) r∧∀ j,j<m→ks[j]? = some nm→(j:Int)≤r:=by
 intro m
 induction m with
 | zero=>intro _;exact ⟨-1,Ev.step (f:=fun _=>some (-1)) (fun n=>by rw [spec_at.l0,if_neg Yy0]) (Ev.now _),fun j h=>absurd h Yy0⟩
 | succ m ih=>
  intro hm
  obtain ⟨r,hr,hmax⟩:=ih Yy0
  by_cases h:(rdOf ByteArray.empty ks (((m+1:Nat):Int) - 1)).toList=nm.toList
  ·
   exact ⟨((m+1:Nat):Int) - 1,Ev.step (f:=fun _=>some (((m+1:Nat):Int) - 1)) (fun n=>by rw [spec_at.l0,if_pos Yy0,if_pos Yy0,if_pos Yy0,if_pos h]) (Ev.now _),fun j h1 _=>Yy0⟩
  ·
   refine ⟨r,Ev.step (fun n=>?_) hr,fun j h1 h2=>?_⟩
   ·
    rw [spec_at.l0,if_pos Yy0,if_pos Yy0,if_pos Yy0,if_neg h,w64 Yy0 Yy0,show ((m+1:Nat):Int) - 1 - 1=(m:Int) - 1 from Yy0]
   ·
    rcases eol (Nat.le_of_lt_succ h1) with e | e
    ·
     subst e
     rw [rdOf_ks Yy0] at h2
     rw [show ((j+1:Nat):Int) - 1=(j:Int) from Yy0,Option.some.inj h2] at h
     exact absurd rfl h
    ·
     exact hmax j e h2
theorem uq_l0 (k:Int) (u:ByteArray) {ks:List ByteArray} (hk:ks.length≤65536) {ns:List S26} (hn:ns.length≤65536) (H:∀ x∈ns,UnOK x):∀ m i:Nat,ks.length - i=m→i≤ks.length →
  ∃ b,Ev (fun n=>spec_Unique.l0 n (i:Int) k u ks ns) b∧(b=true→∀ (a c:Nat) (x:ByteArray),i≤a→a<c→ks[a]? = some x→ks[c]? = some x→False):=by
 intro m
 induction m with
 | zero=>
  intro i hm hi
  obtain ⟨b,h⟩:=un_l1 k u ks hn H _ 0 rfl (Nat.zero_le _)
  exact ⟨b,Ev.step (fun n=>by rw [spec_Unique.l0,if_neg Yy0];rfl) h,fun _ a c x h1 h2 h3 _=>by have:=(List.getElem?_eq_some_iff.mp h3).1;omega⟩
 | succ m ih=>
  intro i hm hi
  obtain ⟨r,h1,hmax⟩:=at_last k u (rdOf ByteArray.empty ks (i:Int)) hk ns ks.length (nlr _)
  have h1':Ev (fun n=>spec_at.f n k u ks ns (rdOf ByteArray.empty ks (i:Int))) r:=Ev.congr (fun n=>by rw [spec_at.f,w64 Yy0 Yy0]) h1
  obtain ⟨b2,h2,h3⟩:=ih (i+1) Yy0 Yy0
  by_cases hr:r=(i:Int)
  ·
   refine ⟨b2,Ev.step (fun n=>Yy84) (Ev.bind h1' (Ev.congr (fun n=>?_) h2)),fun hb a c x g1 g2 g3 g4=>?_⟩
   ·
    rw [if_pos hr,w64 Yy0 Yy0]
    rfl
   ·
    rcases eol g1 with e | e
    ·
     subst e
     rw [rdOf_ks Yy0] at g3
     rw [← g3] at g4
     have:=hmax c (List.getElem?_eq_some_iff.mp g4).1 g4
     omega
    ·
     exact h3 hb a c x e g2 g3 g4
  ·
   exact ⟨false,Ev.step (fun n=>Yy84) (Ev.bind h1' (Ev.congr (fun n=>if_neg hr) (Ev.now _))),fun h=>Yy15⟩
theorem uniq_apart {k:Int} {u:ByteArray} {ks:List ByteArray} (hk:ks.length≤65536) {ns:List S26} (hn:ns.length≤65536) (H:∀ x∈ns,UnOK x) (h:Ev (fun n=>spec_Unique.f n k u ks ns) true):∀ (a c:Nat) (x:ByteArray),a<c→ks[a]? = some x→ks[c]? = some x→False:=by
 obtain ⟨b,h1,h2⟩:=uq_l0 k u hk hn H _ 0 rfl (Nat.zero_le _)
 have h3:Ev (fun n=>spec_Unique.f n k u ks ns) b:=Ev.step (fun n=>by rw [spec_Unique.f];rfl) h1
 obtain rfl:=Ev.uniq h h3
 exact fun a c x g1 g2 g3=>h2 rfl a c x (Nat.zero_le _) g1 g2 g3
theorem member_ev {k:Int} {u:ByteArray} {ks:List ByteArray} (hk:ks.length≤65536) (ns:List S26) {a:Nat} {nm:ByteArray} (ha:ks[a]? = some nm) (hone:∀ c,c<a→ks[c]?≠some nm):Ev (fun n=>spec_Member.f n k u ks ns nm) (a:Int):=by
 have hlt:=(List.getElem?_eq_some_iff.mp ha).1
 have key:∀ m i:Nat,a - i=m→i≤a→Ev (fun n=>spec_Member.l0 n nm ks (ks.length:Int) (i:Int)) (a:Int):=by
  intro m
  induction m with
  | zero=>
   intro i hm hi
   obtain rfl:i=a:=Yy0
   refine Ev.step (f:=fun _=>some (i:Int)) (fun n=>?_) (Ev.now _)
   rw [rdOf_ks hlt] at ha
   rw [spec_Member.l0,if_pos Yy0,if_pos Yy0,if_pos Yy0,Option.some.inj ha,if_pos rfl]
  | succ m ih=>
   intro i hm hi
   refine Ev.step (fun n=>?_) (ih (i+1) Yy0 Yy0)
   have hne:¬ (rdOf ByteArray.empty ks (i:Int)).toList=nm.toList:=fun h=>hone i Yy0 (by rw [rdOf_ks Yy0,bt_of_list h])
   rw [spec_Member.l0,if_pos Yy0,if_pos Yy0,if_pos Yy0,if_neg hne,w64 Yy0 Yy0]
   rfl
 exact Ev.congr (fun n=>by rw [spec_Member.f];rfl) (key _ 0 rfl (Nat.zero_le _))
def rvD (r:RV):DataW Unit:=.agg [.lit (.int .i64 r.k),.lit (.string r.raw.data.toList),.lit (.string r.str.data.toList),.lit (.int .i64 (r.q:Int)),.lit (.int .i64 r.ix)]
theorem ba_list {a b:ByteArray} (h:a.data.toList=b.data.toList):a=b:=by
 apply ByteArray.ext
 exact Array.toList_inj.mp h
theorem rvD_inj {a b:RV} (h:rvD a=rvD b):a=b:=by
 cases a;cases b
 unfold rvD at h
 simp only [DataW.agg.injEq,List.cons.injEq,DataW.lit.injEq,Lit.int.injEq,Lit.string.injEq,true_and,and_true] at h
 obtain ⟨h1,h2,h3,h4,h5⟩:=h
 have:=ba_list h2
 have:=ba_list h3
 have:(_:Nat)=_:=Int.ofNat_inj.mp h4
 subst_vars
 rfl
def rvR:Value→Option (DataW Unit×List MemPlace)
 | .agg ⟨[.int .i64 k,.string raw,.string str,.float .f64 q,.int .i64 ix,.slice none 0 0]⟩=>some (rvD ⟨k,raw,str,q,ix⟩,[])
 | _=>none
theorem rvR_val (r:RV):rvR r.val=some (rvD r,[]):=rfl
theorem rvR_inv {v:Value} {y:DataW Unit×List MemPlace} (h:rvR v=some y):∃ r:RV,v=r.val∧y=(rvD r,[]):=by
 unfold rvR at h
 split at h
 ·
  exact ⟨⟨_,_,_,_,_⟩,rfl,(Option.some.inj h).symm⟩
 ·
  cases h
structure MapHas (u:ByteArray) (nm:ItT→ByteArray) (l:List ItT) (k:Nat) (D:DataW Unit):Prop where
 has:∀ x:List UInt8,Maps.has D (.string x)=true↔∃ j t,j<k∧l[j]? = some t∧(nm t).data.toList=x
 atk:∀ j t,j<k→l[j]? = some t→∃ r:RV,ValOK u t r∧∀ z,D.atKey (.string (nm t).data.toList) z=rvD r
theorem MapHas.zero (u:ByteArray) (nm:ItT→ByteArray) (l:List ItT):MapHas u nm l 0 (.map []):=
 ⟨fun x=>⟨fun h=>by simp [Maps.has] at h,fun ⟨j,t,h,_⟩=>absurd h Yy0⟩,fun j t h=>absurd h Yy0⟩
def Apart (nm:ItT→ByteArray) (l:List ItT):Prop:=∀ (a c:Nat) (x y:ItT),a<c→l[a]? = some x→l[c]? = some y→nm x≠nm y
theorem MapHas.new {u:ByteArray} {nm:ItT→ByteArray} {l:List ItT} {k:Nat} {D:DataW Unit} (h:MapHas u nm l k D) (ha:Apart nm l) {t:ItT} (ht:l[k]? = some t):Maps.has D (.string (nm t).data.toList)=false:=by
 rw [Bool.eq_false_iff]
 intro hc
 obtain ⟨j,t',h1,h2,h3⟩:=(h.has _).mp hc
 exact ha j k t' t h1 h2 ht (ba_list h3)
theorem MapHas.step {u:ByteArray} {nm:ItT→ByteArray} {l:List ItT} {k:Nat} {D:DataW Unit} (h:MapHas u nm l k D) (hm:Maps.IsMap D) (ha:Apart nm l) {t:ItT} (ht:l[k]? = some t) {r:RV} (hr:ValOK u t r):MapHas u nm l (k+1) (D.put (.string (nm t).data.toList) (rvD r)):=by
 refine ⟨fun x=>?_,fun j t' h1 h2=>?_⟩
 ·
  by_cases hx:x=(nm t).data.toList
  ·
   subst hx
   rw [Maps.has_put_same hm (by simp [WideAt.IsKeyLit])]
   exact ⟨fun _=>⟨k,t,Yy0,ht,rfl⟩,fun _=>rfl⟩
  ·
   rw [Maps.has_put_other (by intro e;exact hx (by injection e)),h.has]
   constructor
   ·
    rintro ⟨j,t',a,b,c⟩;exact ⟨j,t',Yy0,b,c⟩
   ·
    rintro ⟨j,t',a,b,c⟩
    rcases eol (Nat.le_of_lt_succ a) with e | e
    ·
     subst e
     rw [ht] at b
     obtain rfl:=Option.some.inj b
     exact absurd c.symm hx
    ·
     exact ⟨j,t',e,b,c⟩
 ·
  rcases eol (Nat.le_of_lt_succ h1) with e | e
  ·
   subst e
   rw [ht] at h2
   obtain rfl:=Option.some.inj h2
   exact ⟨r,hr,fun z=>Maps.atKey_put_same hm (by simp [WideAt.IsKeyLit]) _ z⟩
  ·
   obtain ⟨r',a,b⟩:=h.atk j t' e h2
   refine ⟨r',a,fun z=>?_⟩
   rw [Maps.atKey_put_other (by intro e1;exact ha j k t' t e h2 ht (ba_list (by injection e1))),b]
theorem ext_all (u:ByteArray):u.extract 0 u.size=u:=Yy4
theorem tolit_any {w:World} (u:ByteArray) (hs:u.size≤65536) (j:Nat) (h0:0<j) (hj:j≤u.size) (hn:∀ q,0≤q→q<j→97≤bt u (q:Int)∧bt u (q:Int)≤122) (he:NumEnd u j) :
  Calls Tryz.prog 58 #[.string u] w fun e w'=>e = .returned (.string (u.extract 0 j))∧w'=w:=by
 have ss:(u.size:Int)≤65536:=Yy0
 have HN:=hdd hn;have HE:=hdd he
 clear hn he
 go_enter Tryz.func58,Tryz.ntmps58
 go_wp2_with fail
 go_loopg [3] (j - 1) (fun m v3 wr=>∃ q:Nat,v3 = .int .i64 (q:Int)∧Hid (q+m=j)∧Hid (wr=w))
 case atStart=>exact ⟨1,rfl,hdd Yy0,hdd rfl⟩
 case round=>
  obtain ⟨q,rfl,hq,hwr⟩:=hrel
  obtain rfl:=hwr.out
  have hqj:q≤j:=Yy34
  have q65:(q:Int)≤65536:=Yy0
  rcases eol hqj with h | h
  ·
   subst h
   rcases eol hj with h1 | h1
   ·
    have t0:decide (q<u.size)=false:=dff Yy0
    go_wp2_with fail
    go_ret
    refine ⟨?_,rfl⟩
    first | rfl | (rw [h1,ext_all];rfl)
   ·
    have t0:decide (q<u.size)=true:=dtt h1
    have hb:=HE.out
    unfold NumEnd at hb
    rw [PFnGjSquashItems.bt_at h1] at hb
    by_cases hc:(u[q].toNat:Int)<97
    ·
     have e1:decide ((u[q].toNat:Int)<97)=true:=dtt hc
     clear hb
     go_wp2_with fail
     go_ret
     exact ⟨rfl,rfl⟩
    ·
     have e1:decide ((u[q].toNat:Int)<97)=false:=dff hc
     have e2:decide ((122:Int)<(u[q].toNat:Int))=true:=dtt Yy0
     clear hb
     go_wp2_with fail
     go_ret
     exact ⟨rfl,rfl⟩
  ·
   have h1:q<u.size:=Yy0
   have t0:decide (q<u.size)=true:=dtt h1
   have hb:=HN.out q (Nat.zero_le _) h
   rw [PFnGjSquashItems.bt_at h1] at hb
   have e1:decide ((u[q].toNat:Int)<97)=false:=dff Yy0
   have e2:decide ((122:Int)<(u[q].toNat:Int))=false:=dff Yy0
   clear hb
   go_wp2_with fail
   go_roundg (gk - 1)
   case measure=>have:=hq.out;omega
   case rel=>exact ⟨q+1,Yy6,hdd Yy34,hdd rfl⟩
def TnPost (u:ByteArray) (j:Nat) (w:World) (en:Ending) (w':World):Prop:=∃ q,en = .returned (.tuple #[.string (u.extract 0 j),.float .f64 q])∧Below w.heap.size w w'
theorem tonum_ts {w:World} {b0:Nat} (h:TS w b0) (hBB:b0≤w.heap.size) (u:ByteArray) (hs:u.size≤65536) (j:Nat) (h0:0<j) (hj:j≤u.size) (hn:∀ q,0≤q→q<j→numOK (bt u (q:Int))) (he:NumEnd u j) :
  Calls Tryz.prog 57 #[.string u] w (TnPost u j w):=by
 have ss:(u.size:Int)≤65536:=Yy0
 have PF:Hid (Calls Tryz.prog 80 #[.string (u.extract 0 j),.int .i64 64] w fun e w'=>IsF2 e∧Below w.heap.size w w'):=hdd (parsefloat_any h hBB (u.extract 0 j) Yy13 (num_str hj hn))
 have HN:=hdd hn;have HE:=hdd he
 clear h hBB hn he
 go_enter Tryz.func57,Tryz.ntmps57
 go_wp2_with fail
 go_loopg [4] (j - 1) (fun m v4 wr=>∃ q:Nat,v4 = .int .i64 (q:Int)∧Hid (q+m=j)∧Hid (wr=w))
 case atStart=>exact ⟨1,rfl,hdd Yy0,hdd rfl⟩
 case round=>
  obtain ⟨q,rfl,hq,hwr⟩:=hrel
  obtain rfl:=hwr.out
  have hqj:q≤j:=Yy34
  have q65:(q:Int)≤65536:=Yy0
  rcases eol hqj with h | h
  ·
   subst h
   rcases eol hj with h1 | h1
   ·
    have t0:decide (q<u.size)=false:=dff Yy0
    rw [h1,ext_all] at PF
    have E:Hid (u.extract 0 q=u):=hdd (by rw [h1,ext_all])
    clear h1
    go_wp2_with (go_at_call 80;(with_reducible refine PF.out.mono ?_);rintro en w6 ⟨⟨fl,er⟩,hb6⟩;have HB6:=hdd hb6;clear hb6)
    go_ret2
    exact ⟨_,by rw [E.out];rfl,HB6.out⟩
   ·
    have t0:decide (q<u.size)=true:=dtt h1
    have hb:=HE.out
    unfold NumEnd at hb
    rw [PFnGjSquashItems.bt_at h1] at hb
    have hb2:(u[q].toNat:Int)≤32∨(u[q].toNat:Int)=44∨(u[q].toNat:Int)=93∨(u[q].toNat:Int)=125:=by rcases hb with h | h;omega;exact h
    clear hb
    by_cases h3:(u[q].toNat:Int)≤32
    ·
     have e1:decide ((u[q].toNat:Int)≤45)=true:=dtt Yy0
     have e2:decide ((u[q].toNat:Int)≤32)=true:=dtt h3
     clear hb2 h3
     go_wp2_with (go_at_call 80;(with_reducible refine PF.out.mono ?_);rintro en w6 ⟨⟨fl,er⟩,hb6⟩;have HB6:=hdd hb6;clear hb6)
     go_ret2
     exact ⟨_,rfl,HB6.out⟩
    ·
     have e2:decide ((u[q].toNat:Int)≤32)=false:=dff h3
     rcases hb2 with h4 | h4 | h4 | h4
     ·
      exact absurd h4 h3
     ·
      have e1:decide ((u[q].toNat:Int)≤45)=true:=dtt Yy0
      have e3:((u[q].toNat:Int) == 44)=true:=beq_iff_eq.mpr h4
      clear h3 h4
      go_wp2_with (go_at_call 80;(with_reducible refine PF.out.mono ?_);rintro en w6 ⟨⟨fl,er⟩,hb6⟩;have HB6:=hdd hb6;clear hb6)
      go_ret2
      exact ⟨_,rfl,HB6.out⟩
     ·
      have e1:decide ((u[q].toNat:Int)≤45)=false:=dff Yy0
      have e3:((u[q].toNat:Int) == 93)=true:=beq_iff_eq.mpr h4
      clear h3 h4
      go_wp2_with (go_at_call 80;(with_reducible refine PF.out.mono ?_);rintro en w6 ⟨⟨fl,er⟩,hb6⟩;have HB6:=hdd hb6;clear hb6)
      go_ret2
      exact ⟨_,rfl,HB6.out⟩
     ·
      have e1:decide ((u[q].toNat:Int)≤45)=false:=dff Yy0
      have e3:((u[q].toNat:Int) == 93)=false:=bfo Yy0
      have e4:((u[q].toNat:Int) == 125)=true:=beq_iff_eq.mpr h4
      clear h3 h4
      go_wp2_with (go_at_call 80;(with_reducible refine PF.out.mono ?_);rintro en w6 ⟨⟨fl,er⟩,hb6⟩;have HB6:=hdd hb6;clear hb6)
      go_ret2
      exact ⟨_,rfl,HB6.out⟩
  ·
   have h1:q<u.size:=Yy0
   have t0:decide (q<u.size)=true:=dtt h1
   have hb:=HN.out q (Nat.zero_le _) h
   rw [PFnGjSquashItems.bt_at h1] at hb
   unfold numOK at hb
   by_cases h3:(u[q].toNat:Int)≤45
   ·
    have e1:decide ((u[q].toNat:Int)≤45)=true:=dtt h3
    have e2:decide ((u[q].toNat:Int)≤32)=false:=dff Yy0
    have e3:((u[q].toNat:Int) == 44)=false:=bfo Yy0
    clear hb h3
    go_wp2_with fail
    go_roundg (gk - 1)
    case measure=>have:=hq.out;omega
    case rel=>exact ⟨q+1,Yy6,hdd Yy34,hdd rfl⟩
   ·
    have e1:decide ((u[q].toNat:Int)≤45)=false:=dff h3
    have e2:((u[q].toNat:Int) == 93)=false:=bfo Yy0
    have e3:((u[q].toNat:Int) == 125)=false:=bfo Yy0
    clear hb h3
    go_wp2_with fail
    go_roundg (gk - 1)
    case measure=>have:=hq.out;omega
    case rel=>exact ⟨q+1,Yy6,hdd Yy34,hdd rfl⟩
def TsPost (u:ByteArray) (e:Nat) (w:World) (en:Ending) (w':World):Prop:=∃ str,en = .returned (.tuple #[.string (u.extract 0 (e+1)),.string str])∧KStr (u.extract 1 e) str∧Below w.heap.size w w'
theorem tostr_any {w:World} (u:ByteArray) (hs:u.size≤65536) (e:Nat) (h:StrTok u 0 (e+1)) :
  Calls Tryz.prog 59 #[.string u] w (TsPost u e w):=by
 have ss:(u.size:Int)≤65536:=Yy0
 have he1:1≤e:=by have:=h.1.1;omega
 have hes:e<u.size:=by have:=h.1.2.1;omega
 have h34e:bt u (e:Int)=34:=h.1.2.2.2.1
 have h340:bt u ((0:Nat):Int)=34:=h.1.2.2.1
 have hodd:odd u 0 e=false:=h.1.2.2.2.2.1
 have hin:∀ q,0<q→q<e→bt u (q:Int)=34→odd u 0 q=true:=fun q h1 h2=>h.1.2.2.2.2.2 q h1 h2
 obtain ⟨O,hO⟩:=tok_un h
 have HO:Hid (Un (u.extract 1 e) 0 O):=hdd hO
 have HU:Hid ((u.extract 1 e).size≤65536):=hdd Yy13
 have KP:Hid ((∀ p:Nat,1≤p→p<e→bt u (p:Int)≠92)→KStr (u.extract 1 e) (u.extract 1 e)):=hdd (fun hn=>kstr_plain h hn)
 have HIN:=hdd hin;have HOD:=hdd hodd;have H34E:=hdd h34e;have H340:=hdd h340
 have HQ:Hid (∀ q,0<q→q≤e→bt u (q:Int)=34→bt u ((q - 1:Nat):Int)≠92→q=e):=hdd (fun q h1 h2 h3 h4=>h.1.quote h1 h2 h3 h4)
 clear hO h hin hodd h34e h340
 go_enter Tryz.func59,Tryz.ntmps59
 go_wp2_with fail
 go_loopg [4] (e - 1) (fun m v4 wr=>∃ q:Nat,v4 = .int .i64 (q:Int)∧Hid (q+m=e)∧Hid (1≤q)∧Hid (∀ p:Nat,1≤p→p<q→bt u (p:Int)≠92)∧Hid (wr=w))
 case atStart=>exact ⟨1,rfl,hdd Yy0,hdd (nlr _),hdd (fun p h1 h2=>Yy0),hdd rfl⟩
 case round =>
  obtain ⟨q,rfl,hq,h1q,hpl,hwr⟩:=hrel
  obtain rfl:=hwr.out
  have hqe:q≤e:=Yy34
  have hqs:q<u.size:=Yy0
  have q65:(q:Int)≤65536:=Yy0
  have q1:1≤(q:Int):=by have:=h1q.out;omega
  have t0:decide (q<u.size)=true:=dtt hqs
  by_cases hg:(92:Int)<(u[q].toNat:Int)
  ·
   have e1:decide ((92:Int)<(u[q].toNat:Int))=true:=dtt hg
   have hne:q≠e:=fun h=>by have h9:=H34E.out;rw [← h,PFnGjSquashItems.bt_at hqs] at h9;omega
   have NX:Hid (∀ p:Nat,1≤p→p<q+1→bt u (p:Int)≠92):=hdd (fun p h1 h2=>by
    rcases eol (Nat.le_of_lt_succ h2) with h3 | h3
    ·
     subst h3;rw [PFnGjSquashItems.bt_at hqs];omega
    ·
     exact hpl.out p h1 h3)
   clear hg
   go_wp2_with fail
   go_roundg (gk - 1)
   case measure=>have:=hq.out;omega
   case rel=>exact ⟨q+1,Yy6,hdd Yy34,hdd Yy0,NX,hdd rfl⟩
  ·
   have e1:decide ((92:Int)<(u[q].toNat:Int))=false:=dff hg
   by_cases hc:(u[q].toNat:Int)=34
   ·
    have e2:((u[q].toNat:Int) == 34)=true:=beq_iff_eq.mpr hc
    obtain rfl:q=e:=HQ.out q h1q.out hqe (by rw [PFnGjSquashItems.bt_at hqs];exact hc) (by
     rcases eol h1q.out with h3 | h3
     ·
      rw [← h3,Nat.sub_self,H340.out];decide
     ·
      exact hpl.out (q - 1) Yy0 Yy0)
    clear hg hc
    go_upto_region 6 with (fail)
    go_quiet (fail)
    go_wp2_with fail
    go_ret2
    exact ⟨_,rfl,KP.out hpl.out,Below.drewNs (Below.refl _ _) _⟩
   ·
    have e2:((u[q].toNat:Int) == 34)=false:=bfo hc
    have hne:q≠e:=fun h=>hc (by have h9:=H34E.out;rw [← h,PFnGjSquashItems.bt_at hqs] at h9;exact h9)
    by_cases hd:(u[q].toNat:Int)=92
    ·
     have e3:((u[q].toNat:Int) == 92)=true:=beq_iff_eq.mpr hd
     have hq1e:q+1≤e:=Yy0
     clear hg hc hd
     go_wp2_with fail
     go_loopg [4] (e - (q+1)) (fun m v4 w2=>∃ x:Nat,v4 = .int .i64 (x:Int)∧Hid (x+m=e)∧Hid (q+1≤x)∧Hid (w2=wr))
     case atStart=>exact ⟨q+1,Yy6,hdd Yy0,hdd (nlr _),hdd rfl⟩
     case round=>
      clear e1 e2 e3 t0
      obtain ⟨x,rfl,hx,hqx,hw2⟩:=hrel
      obtain rfl:=hw2.out
      have hxe:x≤e:=Yy25
      have hxs:x<u.size:=Yy0
      have x65:(x:Int)≤65536:=Yy0
      have x2:2≤(x:Int):=by have:=hqx.out;omega
      have x1:1≤(x:Int):=Yy0
      have x1n:1≤x:=Yy0
      have xs1:x+1≤u.size:=hxs
      have t1:decide (x<u.size)=true:=dtt hxs
      by_cases hg:(92:Int)<(u[x].toNat:Int)
      ·
       have e1:decide ((92:Int)<(u[x].toNat:Int))=true:=dtt hg
       have hne:x≠e:=fun h=>by have h9:=H34E.out;rw [← h,PFnGjSquashItems.bt_at hxs] at h9;omega
       clear hg
       go_wp2_with fail
       go_roundg (gk - 1)
       case measure=>have:=hx.out;omega
       case rel=>exact ⟨x+1,Yy6,hdd Yy25,hdd (by have:=hqx.out;omega),hdd rfl⟩
      ·
       have e1:decide ((92:Int)<(u[x].toNat:Int))=false:=dff hg
       clear hg
       by_cases hc:(u[x].toNat:Int)=34
       ·
        have e2:((u[x].toNat:Int) == 34)=true:=beq_iff_eq.mpr hc
        have HC:Hid (bt u (x:Int)=34):=hdd (by rw [PFnGjSquashItems.bt_at hxs];exact hc)
        clear hc
        obtain ⟨y,hy⟩:∃ y:Nat,(x:Int) - 1=(y:Int):=⟨x - 1,Yy0⟩
        have hyx:y<u.size:=Yy0
        have y0:0≤(y:Int):=Yy0
        have HY:Hid (y=x - 1):=hdd Yy0
        by_cases hp:(u[y].toNat:Int)=92
        ·
         have e3:((u[y].toNat:Int) == 92)=true:=beq_iff_eq.mpr hp
         have HP:Hid (bt u (y:Int)=92):=hdd (by rw [PFnGjSquashItems.bt_at hyx];exact hp)
         clear hp
         obtain ⟨z,hz⟩:∃ z:Nat,(x:Int) - 2=(z:Int):=⟨x - 2,Yy0⟩
         have hzs:z<u.size:=Yy0
         have HZ:Hid (x=z+2):=hdd Yy0
         go_upto_block 4 with (fail)
         go_cut [5,6] (fun v5 v6 wc=>∃ n:Nat,v5 = .int .i64 (n:Int)∧Hid (odd u 0 x=decide ((n+1) % 2=1))∧Hid (n≤x)∧Hid (wc=wr))
         case first=>
          go_wp2_with fail
          go_loopg [5,6] z (fun m v5 v6 w5=>∃ n:Nat,v5 = .int .i64 (n:Int)∧v6 = .int .i64 (m:Int)∧Hid (x=m+n+2)∧Hid (∀ p,x - (n+1)≤p→p<x→bt u (p:Int)=92)∧Hid (w5=wr))
          case atStart=>exact ⟨0,rfl,rfl,hdd (by have:=HZ.out;omega),hdd (fun p h1 h2=>by rw [show p=y by have:=HY.out;omega];exact HP.out),hdd rfl⟩
          case round=>
           clear e1 e2 e3 t1
           obtain ⟨n,rfl,rfl,hn,hbs,hw5⟩:=hrel
           obtain rfl:=hw5.out
           have n65:(n:Int)≤65536:=Yy22
           have n0:0≤(n:Int):=Yy0
           have m65:(gk:Int)≤65536:=Yy22
           have hms:gk<u.size:=Yy22
           rcases Nat.eq_zero_or_pos gk with hm | hm
           ·
            have t2:decide (0<gk)=false:=dff Yy0
            have t3:decide ((0:Int)<(gk:Int))=false:=dff Yy0
            have OD:Hid (odd u 0 x=decide ((n+1) % 2=1)):=hdd (odd_bsl (s:=u) (b:=0) (n+1) x Yy22 hbs.out (Or.inl Yy22))
            clear hm
            go_wp2_with fail
            go_meet
            exact ⟨n,rfl,OD,hdd Yy22,hdd rfl⟩
           ·
            have t2:decide (0<gk)=true:=dtt hm
            have t3:decide ((0:Int)<(gk:Int))=true:=dtt Yy0
            by_cases hb:(u[gk].toNat:Int)=92
            ·
             have e4:((u[gk].toNat:Int) != 92)=false:=by rw [bne_eq_false_iff_eq];exact hb
             have HB:Hid (bt u (gk:Int)=92):=hdd (by rw [PFnGjSquashItems.bt_at hms];exact hb)
             clear hb
             go_wp2_with fail
             go_roundg (gk - 1)
             case measure=>omega
             case rel=>exact ⟨n+1,Yy6,by first | go_num | (congr 1;omega),hdd Yy22,hdd (fun p h1 h2=>by
              rcases Nat.lt_or_ge p (x - (n+1)) with h3 | h3
              ·
               rw [show p=gk from Yy22];exact HB.out
              ·
               exact hbs.out p h3 h2),hdd rfl⟩
            ·
             have e4:((u[gk].toNat:Int) != 92)=true:=bne_iff_ne.mpr hb
             have OD:Hid (odd u 0 x=decide ((n+1) % 2=1)):=hdd (odd_bsl (s:=u) (b:=0) (n+1) x Yy22 hbs.out (Or.inr (by rw [show x - (n+1) - 1=gk from Yy22,PFnGjSquashItems.bt_at hms];exact hb)))
             clear hb
             go_wp2_with fail
             go_meet
             exact ⟨n,rfl,OD,hdd Yy22,hdd rfl⟩
         case rest=>
          obtain ⟨n,rfl,ho,hn,hwc⟩:=hcut
          obtain rfl:=hwc.out
          rcases eol hxe with h | h
          ·
           subst h
           have hn2:n % 2=1:=by have h1:=ho.out;rw [HOD.out] at h1;have h2:=of_decide_eq_false h1.symm;omega
           have e4:(Int.tmod (n:Int) 2 == 0)=false:=by rw [beq_eq_false_iff_ne];intro h;have:=(tmod2 n).mp h;omega
           have e5:((n:Int) % 2 == 0)=false:=bfo Yy0
           clear hn2
           obtain ⟨x9,hx9⟩:∃ x9:Nat,(x:Int)+1=(x9:Int):=⟨x+1,Yy0⟩
           have HX9:Hid (x9=x+1):=hdd Yy0
           have b0:(0:Int)≤(x9:Int):=Yy0
           have b1:(x9:Int)≤(u.size:Int):=Yy0
           have b2:(0:Int)≤(x:Int):=Yy0
           have b3:(x:Int)≤(u.size:Int):=Yy0
           have b4:x9≤u.size:=Yy0
           have b6:IntKind.i64.wrap (x9:Int)=(x9:Int):=Yy52
           have b5:x≤u.size:=Yy0
           go_upto_region 21 with (fail)
           go_region_law (first | (go_simp;go_at_call 61;(with_reducible refine (unesc_any _ HU.out O HO.out).mono ?_);rintro en wz ⟨rfl,hbz⟩;have BZ:=hdd hbz;clear hbz;go_wp2_with fail))
           go_wp2_with fail
           go_ret2
           obtain rfl:=HX9.out
           exact ⟨_,rfl,⟨O,HO.out,rfl⟩,Yy76⟩
          ·
           have hn2:n % 2=0:=by have h1:=ho.out;rw [HIN.out x Yy0 h HC.out] at h1;have h2:=of_decide_eq_true h1.symm;omega
           have e4:(Int.tmod (n:Int) 2 == 0)=true:=by rw [beq_iff_eq];exact (tmod2 n).mpr hn2
           have e5:((n:Int) % 2 == 0)=true:=beq_iff_eq.mpr Yy0
           clear hn2
           go_wp2_with fail
           go_roundg (gk - 1)
           case measure=>have:=hx.out;omega
           case rel=>exact ⟨x+1,Yy6,hdd Yy25,hdd (by have:=hqx.out;omega),hdd rfl⟩
        ·
         have e3:((u[y].toNat:Int) == 92)=false:=bfo hp
         obtain rfl:x=e:=HQ.out x Yy0 hxe HC.out (by rw [show x - 1=y from Yy0,PFnGjSquashItems.bt_at hyx];exact hp)
         clear hp
         obtain ⟨x9,hx9⟩:∃ x9:Nat,(x:Int)+1=(x9:Int):=⟨x+1,Yy0⟩
         have HX9:Hid (x9=x+1):=hdd Yy0
         have b0:(0:Int)≤(x9:Int):=Yy0
         have b1:(x9:Int)≤(u.size:Int):=Yy0
         have b2:(0:Int)≤(x:Int):=Yy0
         have b3:(x:Int)≤(u.size:Int):=Yy0
         have b4:x9≤u.size:=Yy0
         have b6:IntKind.i64.wrap (x9:Int)=(x9:Int):=Yy52
         have b5:x≤u.size:=Yy0
         go_upto_region 21 with (fail)
         go_region_law (first | (go_simp;go_at_call 61;(with_reducible refine (unesc_any _ HU.out O HO.out).mono ?_);rintro en wz ⟨rfl,hbz⟩;have BZ:=hdd hbz;clear hbz;go_wp2_with fail))
         go_wp2_with fail
         go_ret2
         obtain rfl:=HX9.out
         exact ⟨_,rfl,⟨O,HO.out,rfl⟩,Yy76⟩
       ·
        have e2:((u[x].toNat:Int) == 34)=false:=bfo hc
        have hne:x≠e:=fun h=>hc (by have h9:=H34E.out;rw [← h,PFnGjSquashItems.bt_at hxs] at h9;exact h9)
        clear hc
        go_wp2_with fail
        go_roundg (gk - 1)
        case measure=>have:=hx.out;omega
        case rel=>exact ⟨x+1,Yy6,hdd Yy25,hdd (by have:=hqx.out;omega),hdd rfl⟩
    ·
     have e3:((u[q].toNat:Int) == 92)=false:=bfo hd
     have NX:Hid (∀ p:Nat,1≤p→p<q+1→bt u (p:Int)≠92):=hdd (fun p h1 h2=>by
      rcases eol (Nat.le_of_lt_succ h2) with h3 | h3
      ·
       subst h3;rw [PFnGjSquashItems.bt_at hqs];exact hd
      ·
       exact hpl.out p h1 h3)
     clear hg hc hd
     go_wp2_with fail
     go_roundg (gk - 1)
     case measure=>have:=hq.out;omega
     case rel=>exact ⟨q+1,Yy6,hdd Yy34,hdd Yy0,NX,hdd rfl⟩
end Go.Proofs.YtieflhncpjjciaaGreatDoor.Dc
