/- Walks and plain laws of this claim. -/
import Derived.Test.YtieflhncpjjciaaGreatDoorBxH
import Derived.Test.YtieflhncpjjciaaGreatDoorBxN
import Derived.Test.YtieflhncpjjciaaGreatDoorRx16
import Derived.Test.YtieflhncpjjciaaGreatDoorBxA
set_option linter.unusedVariables false
set_option linter.unusedSimpArgs false
namespace Go.Proofs.YtieflhncpjjciaaGreatDoor.Dc
open Go Go.RowKit Go.Proofs.YtieflhncpjjciaaGreatDoorW.PrintWords Go.Proofs.YtieflhncpjjciaaGreatDoor.PFnGjSquashItems
abbrev SmOK (x:S26):Prop:=NB x
theorem rd26_mem {xs:List S26} {i:Nat} (h:i<xs.length):rd_T26 xs (i:Int)∈xs:=by
 have e:rd_T26 xs (i:Int)=xs[i]:=by
  unfold rd_T26
  rw [Int.toNat_natCast,List.getD_eq_getElem?_getD,List.getElem?_eq_getElem h]
  rfl
 rw [e]
 exact List.getElem_mem h
mutual
theorem sm_t {s:ByteArray} (hs:s.size≤65536):∀ t:T,t.wf s→NB (t.n s)
 | .leaf kd i j,h=>by rw [T.n];exact .mk (Nat.zero_le _) (Nat.zero_le _) (fun x hx=>by cases hx)
 | .arr i j es,h=>by
  obtain ⟨a,b,p,c,d⟩:=h
  rw [T.n]
  rcases d with ⟨d1,d2,d3⟩ | d
  ·
   subst d3;rw [Es.n];exact .mk (Nat.zero_le _) (Nat.zero_le _) (fun x hx=>by cases hx)
  ·
   have h1:=(tn_es hs es p j d).len
   have h2:=es_len es p j d
   have h3:=(es_sq es p j d).1
   exact .mk (Nat.zero_le _) Yy0 (sm_es hs es p j d)
 | .obj i j ms,h=>by
  obtain ⟨a,b,p,c,d⟩:=h
  rw [T.n]
  rcases d with ⟨d1,d2,d3⟩ | d
  ·
   subst d3;rw [Ms.n,Ms.kn];exact .mk (Nat.zero_le _) (Nat.zero_le _) (fun x hx=>by cases hx)
  ·
   have h1:=(tn_ms hs ms p j d).1.len
   have h4:=(tn_ms hs ms p j d).2.len
   have h2:=ms_len ms p j d
   have h3:=(ms_sq ms p j d).1
   exact .mk Yy0 Yy0 (sm_ms hs ms p j d)
theorem sm_es {s:ByteArray} (hs:s.size≤65536):∀ (es:Es) (p j:Nat),es.wf s p j→∀ x∈es.n s,NB x
 | .nil,p,j,h=>absurd h Yy17
 | .cons t r,p,j,h=>by
  obtain ⟨a,b,q,c,d⟩:=h
  intro x hx
  rw [Es.n] at hx
  rcases List.mem_cons.mp hx with rfl | hx
  ·
   exact sm_t hs t a
  ·
   rcases d with ⟨_,rfl,_⟩ | ⟨_,p',_,d⟩
   ·
    rw [Es.n] at hx;cases hx
   ·
    exact sm_es hs r p' j d x hx
theorem sm_ms {s:ByteArray} (hs:s.size≤65536):∀ (ms:Ms) (p j:Nat),ms.wf s p j→∀ x∈ms.n s,NB x
 | .nil,p,j,h=>absurd h Yy18
 | .cons ni nj t r,p,j,h=>by
  obtain ⟨_,_,_,_,_,_,_,a,_,q,c,d⟩:=h
  intro x hx
  rw [Ms.n] at hx
  rcases List.mem_cons.mp hx with rfl | hx
  ·
   exact sm_t hs t a
  ·
   rcases d with ⟨_,rfl,_⟩ | ⟨_,p',_,d⟩
   ·
    rw [Ms.n] at hx;cases hx
   ·
    exact sm_ms hs r p' j d x hx
end
theorem at_ends (k:Int) (u nm:ByteArray) {ks:List ByteArray} (hk:ks.length≤65536) (ns:List S26):∀ m:Nat,m≤ks.length→∃ r,Ev (fun n=>spec_at.l0 n nm ((m:Int) - 1) k u ks ns) r:=by
 intro m
 induction m with
 | zero=>intro _;exact ⟨-1,Ev.step (f:=fun _=>some (-1)) (fun n=>by rw [spec_at.l0,if_neg Yy0]) (Ev.now _)⟩
 | succ m ih=>
  intro hm
  obtain ⟨r,hr⟩:=ih Yy0
  by_cases h:(rdOf ByteArray.empty ks (((m+1:Nat):Int) - 1)).toList=nm.toList
  ·
   exact ⟨((m+1:Nat):Int) - 1,Ev.step (f:=fun _=>some (((m+1:Nat):Int) - 1)) (fun n=>by rw [spec_at.l0,if_pos Yy0,if_pos Yy0,if_pos Yy0,if_pos h]) (Ev.now _)⟩
  ·
   refine ⟨r,Ev.step (fun n=>?_) hr⟩
   rw [spec_at.l0,if_pos Yy0,if_pos Yy0,if_pos Yy0,if_neg h,w64 Yy0 Yy0,show ((m+1:Nat):Int) - 1 - 1=(m:Int) - 1 from Yy0]
def UnOK (x:S26):Prop:=∃ b,Ev (fun n=>spec_Unique.f n x.f0 x.f1 x.f2 x.f3) b
theorem un_l1 (k:Int) (u:ByteArray) (ks:List ByteArray) {ns:List S26} (hn:ns.length≤65536) (H:∀ x∈ns,UnOK x):∀ m i:Nat,ns.length - i=m→i≤ns.length→∃ b,Ev (fun n=>spec_Unique.l1 n (i:Int) k u ks ns) b:=by
 intro m
 induction m with
 | zero=>
  intro i hm hi
  exact ⟨true,Ev.step (f:=fun _=>some true) (fun n=>by rw [spec_Unique.l1,if_neg Yy0]) (Ev.now _)⟩
 | succ m ih=>
  intro i hm hi
  have hlt:i<ns.length:=Yy0
  obtain ⟨b1,h1⟩:=H _ (rd26_mem hlt)
  obtain ⟨b2,h2⟩:=ih (i+1) Yy0 Yy0
  cases b1 with
  | false=>exact ⟨false,Ev.step (fun n=>by rw [spec_Unique.l1,if_pos Yy0,if_pos Yy0]) (Ev.bind h1 (Ev.congr (fun n=>if_neg Bool.false_ne_true) (Ev.now _)))⟩
  | true=>
   refine ⟨b2,Ev.step (fun n=>by rw [spec_Unique.l1,if_pos Yy0,if_pos Yy0]) (Ev.bind h1 (Ev.congr (fun n=>?_) h2))⟩
   rw [if_pos rfl,w64 Yy0 Yy0]
   rfl
theorem un_l0 (k:Int) (u:ByteArray) {ks:List ByteArray} (hk:ks.length≤65536) {ns:List S26} (hn:ns.length≤65536) (H:∀ x∈ns,UnOK x):∀ m i:Nat,ks.length - i=m→i≤ks.length→∃ b,Ev (fun n=>spec_Unique.l0 n (i:Int) k u ks ns) b:=by
 intro m
 induction m with
 | zero=>
  intro i hm hi
  obtain ⟨b,h⟩:=un_l1 k u ks hn H _ 0 rfl (Nat.zero_le _)
  exact ⟨b,Ev.step (fun n=>by rw [spec_Unique.l0,if_neg Yy0];rfl) h⟩
 | succ m ih=>
  intro i hm hi
  obtain ⟨r,h1⟩:=at_ends k u (rdOf ByteArray.empty ks (i:Int)) hk ns ks.length (nlr _)
  have h1':Ev (fun n=>spec_at.f n k u ks ns (rdOf ByteArray.empty ks (i:Int))) r:=Ev.congr (fun n=>by rw [spec_at.f,w64 Yy0 Yy0]) h1
  obtain ⟨b2,h2⟩:=ih (i+1) Yy0 Yy0
  by_cases hr:r=(i:Int)
  ·
   refine ⟨b2,Ev.step (fun n=>by rw [spec_Unique.l0,if_pos Yy0,if_pos Yy0]) (Ev.bind h1' (Ev.congr (fun n=>?_) h2))⟩
   rw [if_pos hr,w64 Yy0 Yy0]
   rfl
  ·
   exact ⟨false,Ev.step (fun n=>by rw [spec_Unique.l0,if_pos Yy0,if_pos Yy0]) (Ev.bind h1' (Ev.congr (fun n=>if_neg hr) (Ev.now _)))⟩
theorem un_node (k:Int) (u:ByteArray) {ks:List ByteArray} (hk:ks.length≤65536) {ns:List S26} (hn:ns.length≤65536) (H:∀ x∈ns,UnOK x):UnOK ⟨k,u,ks,ns⟩:=by
 obtain ⟨b,h⟩:=un_l0 k u hk hn H _ 0 rfl (Nat.zero_le _)
 exact ⟨b,Ev.step (fun n=>by rw [spec_Unique.f];rfl) h⟩
theorem un_nb {x:S26} (h:NB x):UnOK x:=by
 induction h with
 | mk h2 h3 _ ih=>exact un_node _ _ h2 h3 ih
theorem un_t {s:ByteArray} (hs:s.size≤65536) (t:T) (h:t.wf s):UnOK (t.n s):=un_nb (sm_t hs t h)
def LnOK (s:ByteArray) (x:S26):Prop:=s.size≤65536∧(∀ q:Nat,q<s.size→bt s (q:Int)≠10)∧∃ t:T,t.wf s∧x=t.n s∧Blk s 0 t.i∧Blk s t.j s.size∧t.pd s
def lnl:ByteArray:=⟨#[10]⟩
def ltx (e:Bool):List ByteArray→ByteArray
 | []=>⟨#[]⟩
 | x :: r=>x ++ ((if e || !r.isEmpty then lnl else ⟨#[]⟩) ++ ltx e r)
abbrev GlR:=Int×ByteArray×List ByteArray×List S26×ByteArray×Bool
def glNo:GlR:=(0,⟨#[]⟩,[],[],⟨#[]⟩,false)
section
variable (ls:List ByteArray) (e:Bool) (x8:ByteArray) (i:Int) (line:ByteArray) (n:Int) (ns:List S26) (y:S26)
theorem gl_l1 (hz:line.size≤2147483647):∀ m q:Nat,line.size - q=m→q≤line.size →
  ((∃ p:Nat,q≤p∧p<line.size∧bt line (p:Int)=10)→Ev (fun k=>laws_gjLines.l1 k ls e x8 i line (q:Int) ls n i 5 ⟨#[]⟩ ns y.f0 y.f1 y.f2 y.f3) glNo) ∧
  ((∀ p:Nat,q≤p→p<line.size→bt line (p:Int)≠10)→∀ {r},Ev (fun k=>laws_gjLines.l1 k ls e x8 i line (line.size:Int) ls n i 5 ⟨#[]⟩ ns y.f0 y.f1 y.f2 y.f3) r→Ev (fun k=>laws_gjLines.l1 k ls e x8 i line (q:Int) ls n i 5 ⟨#[]⟩ ns y.f0 y.f1 y.f2 y.f3) r):=by
 intro m
 induction m with
 | zero=>
  intro q hm hq
  obtain rfl:q=line.size:=Yy0
  exact ⟨fun ⟨p,h1,h2,_⟩=>absurd h1 Yy0,fun _ _ h=>h⟩
 | succ m ih=>
  intro q hm hq
  obtain ⟨a,b⟩:=ih (q+1) Yy0 Yy0
  by_cases h10:bt line (q:Int)=10
  ·
   exact ⟨fun _=>Ev.step (f:=fun _=>some glNo) (fun k=>by rw [laws_gjLines.l1,if_pos Yy0,if_pos Yy0,if_pos h10];rfl) (Ev.now _),fun h=>absurd h10 (h q (nlr _) Yy0)⟩
  ·
   have st:∀ k,laws_gjLines.l1 (k+1) ls e x8 i line (q:Int) ls n i 5 ⟨#[]⟩ ns y.f0 y.f1 y.f2 y.f3=laws_gjLines.l1 k ls e x8 i line ((q+1:Nat):Int) ls n i 5 ⟨#[]⟩ ns y.f0 y.f1 y.f2 y.f3:=fun k=>by
    rw [laws_gjLines.l1,if_pos Yy0,if_pos Yy0,if_neg h10,w64 Yy0 Yy0]
    rfl
   refine ⟨fun ⟨p,h1,h2,h3⟩=>Ev.step st (a ⟨p,?_,h2,h3⟩),fun h r hr=>Ev.step st (b (fun p h1 h2=>h p Yy0 h2) hr)⟩
   rcases eol h1 with h4 | h4
   ·
    subst h4;exact absurd h3 h10
   ·
    exact h4
theorem gl_j1:Ev (fun k=>laws_gjLines.j1 k ls e x8 i line ls n i true 5 ⟨#[]⟩ ns y.f0 y.f1 y.f2 y.f3) glNo:=Ev.step (f:=fun _=>some glNo) (fun k=>by rw [laws_gjLines.j1,if_pos rfl];rfl) (Ev.now _)
end
theorem rdOf_at {ls:List ByteArray} {i:Nat} (h:i<ls.length):rdOf ByteArray.empty ls (i:Int)=ls[i]:=by
 unfold rdOf
 rw [Int.toNat_natCast,List.getD_eq_getElem?_getD,List.getElem?_eq_getElem h]
 rfl
theorem gl_l0 (ls:List ByteArray) (hl:ls.length≤2147483647) (hb:∀ x∈ls,x.size≤2147483647) (e:Bool):∀ m i:Nat,ls.length - i=m→i≤ls.length→∀ (x8:ByteArray) (ns:List S26),x8.size≤5000→ns.length=i →
  ∃ r1 r2 r3 r4 r5 ok,Ev (fun k=>laws_gjLines.l0 k ls e x8 ls (ls.length:Int) (i:Int) 5 ⟨#[]⟩ ns) (r1,r2,r3,r4,r5,ok)∧(ok=true→∃ xs,r4=ns ++ xs∧Two LnOK (ls.drop i) xs∧r5=x8 ++ ltx e (ls.drop i)∧r5.size≤5000):=by
 intro m
 induction m with
 | zero=>
  intro i hm hi x8 ns h8 hns
  obtain rfl:i=ls.length:=Yy0
  refine ⟨5,⟨#[]⟩,[],ns,x8,true,Ev.step (f:=fun _=>some (5,⟨#[]⟩,[],ns,x8,true)) (fun k=>by rw [laws_gjLines.l0,if_neg Yy0]) (Ev.now _),fun _=>⟨[],Yy3,?_,?_,h8⟩⟩
  ·
   rw [List.drop_length];exact .nil
  ·
   rw [List.drop_length,ltx]
   show x8=x8 ++ ByteArray.empty
   rw [ByteArray.append_empty]
 | succ m ih=>
  intro i hm hi x8 ns h8 hns
  have hlt:i<ls.length:=Yy0
  have hline:=rdOf_at hlt
  have hz:ls[i].size≤2147483647:=hb _ (List.getElem_mem hlt)
  have no:Ev (fun k=>laws_gjLines.l0 k ls e x8 ls (ls.length:Int) (i:Int) 5 ⟨#[]⟩ ns) glNo→∃ r1 r2 r3 r4 r5 ok,Ev (fun k=>laws_gjLines.l0 k ls e x8 ls (ls.length:Int) (i:Int) 5 ⟨#[]⟩ ns) (r1,r2,r3,r4,r5,ok)∧(ok=true→∃ xs,r4=ns ++ xs∧Two LnOK (ls.drop i) xs∧r5=x8 ++ ltx e (ls.drop i)∧r5.size≤5000):=fun h=>⟨_,_,_,_,_,_,h,fun h=>Yy15⟩
  obtain ⟨r1,r2,r3,r4,ok,hg,hG⟩:=gjtext_ev2 ls[i]
  have st:∀ {r},Ev (fun k=>if ok=true then ((spec_Unique.f k r1 r2 r3 r4).bind fun t427=>if t427=true then laws_gjLines.j1 k ls e x8 (i:Int) ls[i] ls (ls.length:Int) (i:Int) (decide ((wrap64 ((x8.size:Int)+(ls[i].size:Int))) > 4096)) 5 ⟨#[]⟩ ns r1 r2 r3 r4 else laws_gjLines.j1 k ls e x8 (i:Int) ls[i] ls (ls.length:Int) (i:Int) true 5 ⟨#[]⟩ ns r1 r2 r3 r4) else laws_gjLines.j1 k ls e x8 (i:Int) ls[i] ls (ls.length:Int) (i:Int) true 5 ⟨#[]⟩ ns r1 r2 r3 r4) r→Ev (fun k=>laws_gjLines.l0 k ls e x8 ls (ls.length:Int) (i:Int) 5 ⟨#[]⟩ ns) r:=fun h=>
   Ev.step (fun k=>by rw [laws_gjLines.l0,if_pos Yy0,if_pos Yy0,if_pos Yy0,hline]) (Ev.bind hg h)
  cases ok with
  | false=>exact no (st (Ev.congr (fun k=>if_neg Bool.false_ne_true) (gl_j1 ls e x8 i ls[i] ls.length ns ⟨r1,r2,r3,r4⟩)))
  | true =>
   obtain ⟨hs,hpd,t,hw,hnode,hb0,hbj,_⟩:=hG rfl
   obtain ⟨b,hu⟩:=un_t hs t hw
   rw [← hnode] at hu
   have hu':Ev (fun k=>spec_Unique.f k r1 r2 r3 r4) b:=hu
   cases b with
   | false=>exact no (st (Ev.congr (fun k=>if_pos rfl) (Ev.bind hu' (Ev.congr (fun k=>if_neg Bool.false_ne_true) (gl_j1 ls e x8 i ls[i] ls.length ns ⟨r1,r2,r3,r4⟩)))))
   | true=>
    by_cases h4:x8.size+ls[i].size≤4096
    ·
     have hd:decide ((wrap64 ((x8.size:Int)+(ls[i].size:Int))) > 4096)=false:=by rw [w64 Yy0 Yy0];exact dff Yy0
     have st2:∀ {r},Ev (fun k=>laws_gjLines.l1 k ls e x8 (i:Int) ls[i] ((0:Nat):Int) ls (ls.length:Int) (i:Int) 5 ⟨#[]⟩ ns r1 r2 r3 r4) r→Ev (fun k=>laws_gjLines.l0 k ls e x8 ls (ls.length:Int) (i:Int) 5 ⟨#[]⟩ ns) r:=fun h=>
      st (Ev.congr (fun k=>if_pos rfl) (Ev.bind hu' (Ev.congr (fun k=>by rw [if_pos rfl,hd]) (Ev.step (fun k=>by rw [laws_gjLines.j1,if_neg Bool.false_ne_true];rfl) h))))
     obtain ⟨c1,c2⟩:=gl_l1 ls e x8 i ls[i] ls.length ns ⟨r1,r2,r3,r4⟩ hz _ 0 rfl (Nat.zero_le _)
     by_cases h10:∃ p:Nat,0≤p∧p<ls[i].size∧bt ls[i] (p:Int)=10
     ·
      exact no (st2 (c1 h10))
     ·
      have hno:∀ p:Nat,p<ls[i].size→bt ls[i] (p:Int)≠10:=fun p h1 h2=>h10 ⟨p,Nat.zero_le _,h1,h2⟩
      have hdrop:ls.drop i=ls[i] :: ls.drop (i+1):=List.drop_eq_getElem_cons hlt
      have hmore:(ls.drop (i+1)).isEmpty=decide (i+1=ls.length):=by
       rw [Bool.eq_iff_iff,List.isEmpty_iff,List.drop_eq_nil_iff,decide_eq_true_iff]
       omega
      have LO:LnOK ls[i] (⟨r1,r2,r3,r4⟩:S26):=⟨hs,hno,t,hw,hnode,hb0,hbj,pd_whole hs hpd hw hb0⟩
      obtain ⟨x9,hx9⟩:∃ x9,x9=if e || !(ls.drop (i+1)).isEmpty then (x8 ++ ls[i]) ++ lnl else x8 ++ ls[i]:=⟨_,rfl⟩
      have hz8:(x8 ++ ls[i]).size=x8.size+ls[i].size:=ByteArray.size_append
      have hz9:x9.size≤5000:=by
       rw [hx9]
       split
       ·
        rw [ByteArray.size_append,hz8]
        show x8.size+ls[i].size+1≤5000
        omega
       ·
        omega
      obtain ⟨q1,q2,q3,q4,q5,ok2,hE,hR⟩:=ih (i+1) Yy0 Yy0 x9 (ns ++ [⟨r1,r2,r3,r4⟩]) hz9 (by simp [hns])
      refine ⟨q1,q2,q3,q4,q5,ok2,st2 (c2 (fun p _ h=>hno p h) ?_),fun hk=>?_⟩
      ·
       refine Ev.step (f:=fun k=>laws_gjLines.l0 k ls e x9 ls (ls.length:Int) ((i+1:Nat):Int) 5 ⟨#[]⟩ (ns ++ [⟨r1,r2,r3,r4⟩])) (fun k=>?_) hE
       rw [laws_gjLines.l1,if_neg Yy0,if_pos Yy0,Option.bind_some,if_pos Yy0,w64 Yy0 Yy0]
       rw [w64 Yy0 Yy0]
       cases e with
       | true=>
        rw [if_pos rfl,if_pos Yy0,hx9,if_pos Yy6]
        rfl
       | false=>
        rw [if_neg Bool.false_ne_true]
        by_cases hl:i+1=ls.length
        ·
         rw [if_neg Yy0,hx9,hmore,dtt hl,if_neg Yy3]
         rfl
        ·
         rw [if_pos Yy0,if_pos Yy0,hx9,hmore,dff hl,if_pos Yy6]
         rfl
      ·
       obtain ⟨xs,a1,a2,a3,a4⟩:=hR hk
       refine ⟨⟨r1,r2,r3,r4⟩ :: xs,by rw [a1];simp,by rw [hdrop];exact .cons LO a2,?_,a4⟩
       rw [a3,hdrop,ltx,hx9]
       by_cases hc:(e || !(ls.drop (i+1)).isEmpty)=true
       ·
        rw [if_pos hc,if_pos hc,ByteArray.append_assoc,ByteArray.append_assoc]
       ·
        rw [if_neg hc,if_neg hc,ByteArray.append_assoc]
        show _=x8 ++ (ls[i] ++ (ByteArray.empty ++ _))
        rw [ByteArray.empty_append]
    ·
     have hd:decide ((wrap64 ((x8.size:Int)+(ls[i].size:Int))) > 4096)=true:=by rw [w64 Yy0 Yy0];exact dtt Yy0
     exact no (st (Ev.congr (fun k=>if_pos rfl) (Ev.bind hu' (Ev.congr (fun k=>by rw [if_pos rfl,hd]) (gl_j1 ls e x8 i ls[i] ls.length ns ⟨r1,r2,r3,r4⟩)))))
theorem gl_ev (ls:List ByteArray) (hl:ls.length≤2147483647) (hb:∀ x∈ls,x.size≤2147483647) (e:Bool):∃ r1 r2 r3 r4 r5 ok,Ev (fun k=>laws_gjLines.f k ls e) (r1,r2,r3,r4,r5,ok)∧(ok=true→Two LnOK ls r4∧r5=ltx e ls∧r5.size≤5000):=by
 obtain ⟨r1,r2,r3,r4,r5,ok,h1,h2⟩:=gl_l0 ls hl hb e _ 0 rfl (Nat.zero_le _) ⟨#[]⟩ [] Yy2 rfl
 refine ⟨r1,r2,r3,r4,r5,ok,Ev.congr (fun k=>by rw [laws_gjLines.f];rfl) h1,fun hk=>?_⟩
 obtain ⟨xs,a1,a2,a3,a4⟩:=h2 hk
 rw [List.drop_zero] at a2 a3
 rw [List.nil_append] at a1
 subst a1
 refine ⟨a2,?_,a4⟩
 rw [a3]
 show ByteArray.empty ++ _=_
 rw [ByteArray.empty_append]
end Go.Proofs.YtieflhncpjjciaaGreatDoor.Dc
