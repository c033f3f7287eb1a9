/- Walks and plain laws of this claim. -/
import Derived.Test.YtieflhncpjjciaaGreatDoorByH
import Derived.Test.YtieflhncpjjciaaGreatDoorByN
import Derived.Test.YtieflhncpjjciaaGreatDoorVx16
import Derived.Test.YtieflhncpjjciaaGreatDoorByA
set_option linter.unusedVariables false
set_option linter.unusedSimpArgs false
namespace Go.Proofs.YtieflhncpjjciaaGreatDoor.Dc
open Go Go.RowKit Go.Proofs.YtieflhncpjjciaaGreatDoorW.PrintWords Go.Proofs.YtieflhncpjjciaaGreatDoor.PFnGjSquashItems
abbrev SmOK (x:S26):Prop:=NB x
theorem rd26_mem {xs:List S26} {i:Nat} (h:i<xs.length):rd_T26 xs (i:Int)∈xs:=by
 have e:rd_T26 xs (i:Int)=xs[i]:=by
  unfold rd_T26
  rw [Int.toNat_natCast,List.getD_eq_getElem?_getD,List.getElem?_eq_getElem h]
  rfl
 rw [e]
 exact List.getElem_mem h
mutual
theorem sm_t {s:ByteArray} (hs:s.size≤65536):∀ t:T,t.wf s→NB (t.n s)
 | .leaf kd i j,h=>by rw [T.n];exact .mk (Nat.zero_le _) (Nat.zero_le _) (fun x hx=>by cases hx)
 | .arr i j es,h=>by
  obtain ⟨a,b,p,c,d⟩:=h
  rw [T.n]
  rcases d with ⟨d1,d2,d3⟩ | d
  ·
   subst d3;rw [Es.n];exact .mk (Nat.zero_le _) (Nat.zero_le _) (fun x hx=>by cases hx)
  ·
   have h1:=(tn_es hs es p j d).len
   have h2:=es_len es p j d
   have h3:=(es_sq es p j d).1
   exact .mk (Nat.zero_le _) Yy0 (sm_es hs es p j d)
 | .obj i j ms,h=>by
  obtain ⟨a,b,p,c,d⟩:=h
  rw [T.n]
  rcases d with ⟨d1,d2,d3⟩ | d
  ·
   subst d3;rw [Ms.n,Ms.kn];exact .mk (Nat.zero_le _) (Nat.zero_le _) (fun x hx=>by cases hx)
  ·
   have h1:=(tn_ms hs ms p j d).1.len
   have h4:=(tn_ms hs ms p j d).2.len
   have h2:=ms_len ms p j d
   have h3:=(ms_sq ms p j d).1
   exact .mk Yy0 Yy0 (sm_ms hs ms p j d)
theorem sm_es {s:ByteArray} (hs:s.size≤65536):∀ (es:Es) (p j:Nat),es.wf s p j→∀ x∈es.n s,NB x
 | .nil,p,j,h=>absurd h Yy21
 | .cons t r,p,j,h=>by
  obtain ⟨a,b,q,c,d⟩:=h
  intro x hx
  rw [Es.n] at hx
  rcases List.mem_cons.mp hx with rfl | hx
  ·
   exact sm_t hs t a
  ·
   rcases d with ⟨_,rfl,_⟩ | ⟨_,p',_,d⟩
   ·
    rw [Es.n] at hx;cases hx
   ·
    exact sm_es hs r p' j d x hx
theorem sm_ms {s:ByteArray} (hs:s.size≤65536):∀ (ms:Ms) (p j:Nat),ms.wf s p j→∀ x∈ms.n s,NB x
 | .nil,p,j,h=>absurd h Yy19
 | .cons ni nj t r,p,j,h=>by
  obtain ⟨_,_,_,_,_,_,_,a,_,q,c,d⟩:=h
  intro x hx
  rw [Ms.n] at hx
  rcases List.mem_cons.mp hx with rfl | hx
  ·
   exact sm_t hs t a
  ·
   rcases d with ⟨_,rfl,_⟩ | ⟨_,p',_,d⟩
   ·
    rw [Ms.n] at hx;cases hx
   ·
    exact sm_ms hs r p' j d x hx
end
theorem at_ends (k:Int) (u nm:ByteArray) {ks:List ByteArray} (hk:ks.length≤65536) (ns:List S26):∀ m:Nat,m≤ks.length→∃ r,Ev (fun n=>spec_at.l0 n nm ((m:Int) - 1) k u ks ns) r:=by
 intro m
 induction m with
 | zero=>intro _;exact ⟨-1,Ev.step (f:=fun _=>some (-1)) (fun n=>by rw [spec_at.l0,if_neg Yy0]) (Ev.now _)⟩
 | succ m ih=>
  intro hm
  obtain ⟨r,hr⟩:=ih Yy0
  by_cases h:(rdOf ByteArray.empty ks (((m+1:Nat):Int) - 1)).toList=nm.toList
  ·
   exact ⟨((m+1:Nat):Int) - 1,Ev.step (f:=fun _=>some (((m+1:Nat):Int) - 1)) (fun n=>by rw [spec_at.l0,if_pos Yy0,if_pos Yy0,if_pos Yy0,if_pos h]) (Ev.now _)⟩
  ·
   refine ⟨r,Ev.step (fun n=>?_) hr⟩
   rw [spec_at.l0,if_pos Yy0,if_pos Yy0,if_pos Yy0,if_neg h,w64 Yy0 Yy0,show ((m+1:Nat):Int) - 1 - 1=(m:Int) - 1 from Yy0]
def UnOK (x:S26):Prop:=∃ b,Ev (fun n=>spec_Unique.f n x.f0 x.f1 x.f2 x.f3) b
theorem un_l1 (k:Int) (u:ByteArray) (ks:List ByteArray) {ns:List S26} (hn:ns.length≤65536) (H:∀ x∈ns,UnOK x):∀ m i:Nat,ns.length - i=m→i≤ns.length→∃ b,Ev (fun n=>spec_Unique.l1 n (i:Int) k u ks ns) b:=by
 intro m
 induction m with
 | zero=>
  intro i hm hi
  exact ⟨true,Ev.step (f:=fun _=>some true) (fun n=>by rw [spec_Unique.l1,if_neg Yy0]) (Ev.now _)⟩
 | succ m ih=>
  intro i hm hi
  have hlt:i<ns.length:=Yy0
  obtain ⟨b1,h1⟩:=H _ (rd26_mem hlt)
  obtain ⟨b2,h2⟩:=ih (i+1) Yy0 Yy0
  cases b1 with
  | false=>exact ⟨false,Ev.step (fun n=>by rw [spec_Unique.l1,if_pos Yy0,if_pos Yy0]) (Ev.bind h1 (Ev.congr (fun n=>if_neg Bool.false_ne_true) (Ev.now _)))⟩
  | true=>
   refine ⟨b2,Ev.step (fun n=>by rw [spec_Unique.l1,if_pos Yy0,if_pos Yy0]) (Ev.bind h1 (Ev.congr (fun n=>?_) h2))⟩
   rw [if_pos rfl,w64 Yy0 Yy0]
   rfl
theorem un_l0 (k:Int) (u:ByteArray) {ks:List ByteArray} (hk:ks.length≤65536) {ns:List S26} (hn:ns.length≤65536) (H:∀ x∈ns,UnOK x):∀ m i:Nat,ks.length - i=m→i≤ks.length→∃ b,Ev (fun n=>spec_Unique.l0 n (i:Int) k u ks ns) b:=by
 intro m
 induction m with
 | zero=>
  intro i hm hi
  obtain ⟨b,h⟩:=un_l1 k u ks hn H _ 0 rfl (Nat.zero_le _)
  exact ⟨b,Ev.step (fun n=>by rw [spec_Unique.l0,if_neg Yy0];rfl) h⟩
 | succ m ih=>
  intro i hm hi
  obtain ⟨r,h1⟩:=at_ends k u (rdOf ByteArray.empty ks (i:Int)) hk ns ks.length (nlr _)
  have h1':Ev (fun n=>spec_at.f n k u ks ns (rdOf ByteArray.empty ks (i:Int))) r:=Ev.congr (fun n=>by rw [spec_at.f,w64 Yy0 Yy0]) h1
  obtain ⟨b2,h2⟩:=ih (i+1) Yy0 Yy0
  by_cases hr:r=(i:Int)
  ·
   refine ⟨b2,Ev.step (fun n=>Yy84) (Ev.bind h1' (Ev.congr (fun n=>?_) h2))⟩
   rw [if_pos hr,w64 Yy0 Yy0]
   rfl
  ·
   exact ⟨false,Ev.step (fun n=>Yy84) (Ev.bind h1' (Ev.congr (fun n=>if_neg hr) (Ev.now _)))⟩
theorem un_node (k:Int) (u:ByteArray) {ks:List ByteArray} (hk:ks.length≤65536) {ns:List S26} (hn:ns.length≤65536) (H:∀ x∈ns,UnOK x):UnOK ⟨k,u,ks,ns⟩:=by
 obtain ⟨b,h⟩:=un_l0 k u hk hn H _ 0 rfl (Nat.zero_le _)
 exact ⟨b,Ev.step (fun n=>by rw [spec_Unique.f];rfl) h⟩
theorem un_nb {x:S26} (h:NB x):UnOK x:=by
 induction h with
 | mk h2 h3 _ ih=>exact un_node _ _ h2 h3 ih
theorem un_t {s:ByteArray} (hs:s.size≤65536) (t:T) (h:t.wf s):UnOK (t.n s):=un_nb (sm_t hs t h)
theorem un_ms {s:ByteArray} (hs:s.size≤65536) (ms:Ms) (p j:Nat) (h:ms.wf s p j):∀ x∈ms.n s,UnOK x:=fun x hx=>un_nb (sm_ms hs ms p j h x hx)
end Go.Proofs.YtieflhncpjjciaaGreatDoor.Dc
