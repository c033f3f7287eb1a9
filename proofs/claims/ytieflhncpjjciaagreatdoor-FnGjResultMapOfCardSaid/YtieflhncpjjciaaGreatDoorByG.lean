/- Walks and plain laws of this claim. -/
import Derived.Test.YtieflhncpjjciaaGreatDoorByD
import Derived.Test.YtieflhncpjjciaaGreatDoorByF
import Derived.Test.YtieflhncpjjciaaGreatDoorByB
import Derived.Test.YtieflhncpjjciaaGreatDoorVx12
import Derived.Test.YtieflhncpjjciaaGreatDoorVx9
import Derived.Test.YtieflhncpjjciaaGreatDoorByA
set_option linter.unusedVariables false
set_option linter.unusedSimpArgs false
namespace Go.Proofs.YtieflhncpjjciaaGreatDoor.Dc
open Go Go.RowKit Go.Proofs.YtieflhncpjjciaaGreatDoorW.PrintWords Go.Proofs.YtieflhncpjjciaaGreatDoor.PFnGjSquashItems
structure Suf (s u:ByteArray) (o:Nat):Prop where
 sz:s.size=o+u.size
 b:∀ k:Nat,bt u (k:Int)=bt s ((o+k:Nat):Int)
theorem Suf.of (s:ByteArray) {o:Nat} (h:o≤s.size):Suf s (s.extract o s.size) o:=by
 have hz:(s.extract o s.size).size=s.size - o:=Yy13
 refine ⟨Yy0,fun k=>?_⟩
 rcases Nat.lt_or_ge (o+k) s.size with h1 | h1
 ·
  exact bt_extract (nlr _) h1
 ·
  rw [bt_out _ _ Yy0,bt_out _ _ h1]
theorem Suf.odd {s u:ByteArray} {o:Nat} (h:Suf s u o) (i:Nat):∀ p,PFnGjSquashItems.odd u i p=PFnGjSquashItems.odd s (o+i) (o+p):=by
 intro p
 induction p with
 | zero=>
  cases o with
  | zero=>rfl
  | succ o=>
   show false=PFnGjSquashItems.odd s (o+1+i) (o+1)
   rw [PFnGjSquashItems.odd,if_neg Yy0]
 | succ p ih=>
  show _=PFnGjSquashItems.odd s (o+i) (o+p+1)
  rw [PFnGjSquashItems.odd,PFnGjSquashItems.odd,ih,h.b p]
  by_cases hc:i<p∧bt s ((o+p:Nat):Int)=92
  ·
   rw [if_pos hc,if_pos ⟨Yy0,hc.2⟩]
  ·
   rw [if_neg hc,if_neg (fun h2=>hc ⟨Yy0,h2.2⟩)]
theorem Suf.str0 {s u:ByteArray} {o:Nat} (h:Suf s u o) {i j:Nat} (k:StrTok0 s (o+i) (o+j)):StrTok0 u i j:=by
 obtain ⟨h1,h2,h3,h4,h5,h6⟩:=k
 have hz:=h.sz
 have e:o+(j - 1)=o+j - 1:=Yy0
 refine ⟨Yy0,Yy0,by rw [h.b];exact h3,by rw [h.b,e];exact h4,by rw [h.odd,e];exact h5,fun q q1 q2 q3=>?_⟩
 rw [h.odd]
 exact h6 (o+q) Yy0 Yy0 (by rw [← h.b];exact q3)
theorem Suf.tk {s u:ByteArray} {o:Nat} (h:Suf s u o) {e:Nat}:∀ i,Tk s e i→o≤i→Tk u (e - o) (i - o):=by
 intro i k
 induction k with
 | nil=>intro _;exact .nil
 | @plain i hi c32 c34 c92 r ih=>
  intro ho
  have hb:bt u ((i - o:Nat):Int)=bt s (i:Int):=by rw [h.b,show o+(i - o)=i from Yy0]
  have:=ih Yy0
  exact .plain Yy0 (by rw [hb];exact c32) (by rw [hb];exact c34) (by rw [hb];exact c92) (by rw [show i - o+1=i+1 - o from Yy0];exact this)
 | @esc i j h92 hj hje r ih=>
  intro ho
  have hb:∀ q,o≤q→bt u ((q - o:Nat):Int)=bt s (q:Int):=fun q hq=>by rw [h.b,show o+(q - o)=q from Yy0]
  have hij:i+1<j:=Yy64
  have:=ih Yy0
  refine .esc (j:=j - o) (by rw [hb i ho];exact h92) ?_ Yy0 this
  have e1:i - o+1=i+1 - o:=Yy0
  rcases hj with ⟨a1,a2⟩ | ⟨a1,a2,a3⟩
  ·
   exact Or.inl ⟨Yy0,by rw [e1,hb (i+1) Yy0];exact a2⟩
  ·
   refine Or.inr ⟨Yy0,by rw [e1,hb (i+1) Yy0];exact a2,fun q q1 q2=>?_⟩
   rw [h.b];exact a3 (o+q) Yy0 Yy0
theorem Suf.str {s u:ByteArray} {o:Nat} (h:Suf s u o) {i j:Nat} (k:StrTok s (o+i) (o+j)):StrTok u i j:=by
 refine ⟨h.str0 k.1,?_⟩
 have:=h.tk _ k.2 Yy0
 have h1:=k.1.1
 rw [show o+j - 1 - o=j - 1 from Yy0,show o+i+1 - o=i+1 from Yy0] at this
 exact this
theorem Suf.sq {s u:ByteArray} {o:Nat} (h:Suf s u o) {e:Nat}:∀ i d,Sq s e i d→o≤i→Sq u (e - o) (i - o) d:=by
 intro i d k
 have hz:=h.sz
 have hb:∀ q,o≤q→bt u ((q - o:Nat):Int)=bt s (q:Int):=fun q hq=>by rw [h.b,show o+(q - o)=q from Yy0]
 induction k with
 | stop he hv=>intro ho;exact .stop Yy0 (by rw [hb _ ho];exact hv)
 | @plain i d hi hv r ih=>intro ho;exact .plain Yy0 (by rw [hb _ ho];exact hv) Yy88
 | @opened i d hi hv r ih=>intro ho;exact .opened Yy0 (by rw [hb _ ho];exact hv) Yy88
 | @shut i d hi hd hv r ih=>intro ho;exact .shut Yy0 hd (by rw [hb _ ho];exact hv) Yy88
 | @str i j d hst r ih=>
  intro ho
  have hj:=hst.1
  exact .str (j:=j - o) (h.str0 (by rw [show o+(i - o)=i from Yy0,show o+(j - o)=j from Yy0];exact hst)) (ih Yy0)
theorem Suf.extract {s u:ByteArray} {o:Nat} (hu:u=s.extract o s.size) (ho:o≤s.size) {i j:Nat} (hj:o+j≤s.size):u.extract i j=s.extract (o+i) (o+j):=by
 subst hu
 rw [ByteArray.extract_extract,Nat.min_eq_left hj]
def VK (s:ByteArray) (kd:Int) (i j:Nat):Prop:=i<j∧j≤s.size ∧
 ((kd=4∧StrTok s i j)∨(kd=3∧(bt s (i:Int)=45∨(48≤bt s (i:Int)∧bt s (i:Int)≤57))∧∀ q,i≤q→q<j→numOK (bt s (q:Int))) ∨
  (((kd=0∧bt s (i:Int)=110∧bt s ((i+1:Nat):Int)=117)∨(kd=1∧bt s (i:Int)=102)∨(kd=2∧bt s (i:Int)=116))∧∀ q,i≤q→q<j→97≤bt s (q:Int)∧bt s (q:Int)≤122) ∨
  (((kd=5∧bt s (i:Int)=91)∨(kd=6∧bt s (i:Int)=123))∧Sq s (j - 1) (i+1) 1))
theorem Suf.vk {s u:ByteArray} {o:Nat} (h:Suf s u o) {kd:Int} {i j:Nat} (k:VK s kd (o+i) (o+j)):VK u kd i j:=by
 obtain ⟨h1,h2,h3⟩:=k
 have hz:=h.sz
 refine ⟨Yy0,Yy0,?_⟩
 rcases h3 with ⟨a,b⟩ | ⟨a,b,c⟩ | ⟨a,b⟩ | ⟨a,b⟩
 ·
  exact Or.inl ⟨a,h.str b⟩
 ·
  exact Or.inr (Or.inl ⟨a,by rw [h.b];exact b,fun q q1 q2=>by rw [h.b];exact c (o+q) Yy0 Yy0⟩)
 ·
  exact Or.inr (Or.inr (Or.inl ⟨by rw [h.b,h.b];exact a,fun q q1 q2=>by rw [h.b];exact b (o+q) Yy0 Yy0⟩))
 ·
  refine Or.inr (Or.inr (Or.inr ⟨by rw [h.b];exact a,?_⟩))
  have:=h.sq _ _ b Yy0
  rw [show o+j - 1 - o=j - 1 from Yy0,show o+i+1 - o=i+1 from Yy0] at this
  exact this
theorem bt_of_list {a b:ByteArray} (h:a.toList=b.toList):a=b:=by
 rw [ByteArray.toList_eq,ByteArray.toList_eq] at h
 exact ByteArray.ext (Array.toList_inj.mp h)
theorem word_bt {s w:ByteArray} {i:Nat} (h:IsWord s i w) {k:Nat} (hk:k<w.size):bt s ((i+k:Nat):Int)=bt w (k:Int):=by
 have e:=bt_of_list h.2
 rw [← bt_extract h.1 Yy0,e]
theorem isWord_az {s w:ByteArray} {i j:Nat} (h:IsWord s i w) (hj:j=i+w.size) (hw:∀ k,k<w.size→97≤bt w (k:Int)∧bt w (k:Int)≤122):∀ q,i≤q→q<j→97≤bt s (q:Int)∧bt s (q:Int)≤122:=by
 intro q h1 h2
 have:=word_bt h (k:=q - i) Yy0
 rw [show i+(q - i)=q from Yy0] at this
 rw [this]
 exact hw _ Yy0
theorem T.wf_lt {s:ByteArray} (t:T) (h:t.wf s):t.i<t.j:=by
 cases t with
 | leaf kd i j=>exact h.1
 | arr i j es=>exact h.2.1
 | obj i j ms=>exact h.2.1
theorem leaf_vk {s:ByteArray} {kd:Int} {i j:Nat} (hij:i<j) (hj:j≤s.size) (h:LeafOK s kd i j):VK s kd i j:=by
 refine ⟨hij,hj,?_⟩
 rcases h with h | h | ⟨h1,h2,h3⟩ | ⟨h1,h2,h3⟩ | ⟨h1,h2,h3⟩
 ·
  exact Or.inl h
 ·
  exact Or.inr (Or.inl ⟨h.1,h.2.1,h.2.2.1⟩)
 ·
  refine Or.inr (Or.inr (Or.inl ⟨Or.inl ⟨h1,word_bt h3 (k:=0) Yy3,word_bt h3 (k:=1) Yy3⟩,isWord_az h3 h2 (by intro k hk;have:k<4:=hk;rcases k with _ | _ | _ | _ | k <;> first | decide | omega)⟩))
 ·
  refine Or.inr (Or.inr (Or.inl ⟨Or.inr (Or.inl ⟨h1,word_bt h3 (k:=0) Yy3⟩),isWord_az h3 h2 (by intro k hk;have:k<5:=hk;rcases k with _ | _ | _ | _ | _ | k <;> first | decide | omega)⟩))
 ·
  refine Or.inr (Or.inr (Or.inl ⟨Or.inr (Or.inr ⟨h1,word_bt h3 (k:=0) Yy3⟩),isWord_az h3 h2 (by intro k hk;have:k<4:=hk;rcases k with _ | _ | _ | _ | k <;> first | decide | omega)⟩))
theorem sq_run {s:ByteArray} {e d:Nat} {i:Nat}:∀ m j,j - i=m→i≤j→j≤s.size→(∀ q,i≤q→q<j→vch (bt s (q:Int))=0)→Sq s e j d→Sq s e i d:=by
 intro m
 induction m with
 | zero=>intro j h1 h2 h3 h4 h5;rw [show i=j from Yy0];exact h5
 | succ m ih=>
  intro j h1 h2 h3 h4 h5
  refine ih (j - 1) Yy0 Yy0 Yy0 (fun q a b=>h4 q a Yy0) (.plain Yy0 (h4 _ Yy0 Yy0) ?_)
  rw [show j - 1+1=j from Yy0];exact h5
theorem blk_sq {s:ByteArray} {i j e d:Nat} (h:Blk s i j) (k:Sq s e j d):Sq s e i d:=by
 refine sq_run _ j rfl h.1 h.2.1 (fun q a b=>?_) k
 have:=isB_le (h.2.2 q a b)
 exact vch0 Yy0 Yy0 Yy0 Yy0 Yy0 Yy0 Yy0
theorem leaf_sq {s:ByteArray} {kd:Int} {i j e d:Nat} (h:VK s kd i j) (h5:kd≠5) (h6:kd≠6) (k:Sq s e j d):Sq s e i d:=by
 obtain ⟨h1,h2,h3⟩:=h
 rcases h3 with ⟨a,b⟩ | ⟨a,b,c⟩ | ⟨a,b⟩ | ⟨a,b⟩
 ·
  exact .str b.1 k
 ·
  refine sq_run _ j rfl Yy0 h2 (fun q q1 q2=>?_) k
  have:=c q q1 q2
  unfold numOK at this
  exact vch0 Yy0 Yy0 Yy0 Yy0 Yy0 Yy0 Yy0
 ·
  refine sq_run _ j rfl Yy0 h2 (fun q q1 q2=>?_) k
  have:=b q q1 q2
  exact vch0 Yy0 Yy0 Yy0 Yy0 Yy0 Yy0 Yy0
 ·
  omega
theorem plain_sq {s:ByteArray} {i e d:Nat} {c:Int} (hc:bt s (i:Int)=c) (hv:vch c=0) (h0:c≠0) (k:Sq s e (i+1) d):Sq s e i d:=.plain (bt_in hc h0) (by rw [hc];exact hv) k
mutual
theorem wf_sq {s:ByteArray}:∀ t:T,t.wf s→t.j≤s.size∧(∀ e d,1≤d→Sq s e t.j d→Sq s e t.i d)∧∃ kd,t.s.1=kd∧VK s kd t.i t.j
 | .leaf kd i j,h=>by
  have hk:=leaf_vk h.1 h.2.1 h.2.2
  refine ⟨h.2.1,fun e d hd k=>leaf_sq hk ?_ ?_ k,kd,rfl,hk⟩
  ·
   intro h5;rcases h.2.2 with ⟨a,_⟩ | ⟨a,_⟩ | ⟨a,_⟩ | ⟨a,_⟩ | ⟨a,_⟩ <;> omega
  ·
   intro h5;rcases h.2.2 with ⟨a,_⟩ | ⟨a,_⟩ | ⟨a,_⟩ | ⟨a,_⟩ | ⟨a,_⟩ <;> omega
 | .arr i j es,h=>by
  obtain ⟨h1,h2,p,h3,h4⟩:=h
  have hin:j≤s.size∧∀ e d,1≤d→Sq s e (j - 1) d→Sq s e (i+1) d:=by
   rcases h4 with ⟨a,b,c⟩ | h4
   ·
    subst b
    have hp:=bt_in a Yy3
    exact ⟨Yy0,fun e d hd k=>blk_sq h3 k⟩
   ·
    obtain ⟨a,b,c,f⟩:=es_sq es p j h4
    exact ⟨a,fun e d hd k=>blk_sq h3 (f e d hd k)⟩
  have hv:vch (bt s ((j - 1:Nat):Int))=1:=by
   rcases h4 with ⟨a,b,c⟩ | h4
   ·
    subst b;rw [Nat.add_sub_cancel,a];rfl
   ·
    exact (es_sq es p j h4).2.1
  have hj:j - 1+1=j:=Yy0
  have hin1:=hin.1
  refine ⟨hin.1,fun e d hd k=>?_,5,rfl,h2,hin.1,Or.inr (Or.inr (Or.inr ⟨Or.inl ⟨rfl,h1⟩,hin.2 _ _ (nlr _) (.stop (show j - 1<s.size from Yy0) hv)⟩))⟩
  refine .opened (bt_in h1 Yy3) (by rw [show (T.arr i j es).i=i from rfl,h1];rfl) (hin.2 _ _ Yy0 (.shut (show j - 1<s.size from Yy0) hd hv (by rw [hj];exact k)))
 | .obj i j ms,h=>by
  obtain ⟨h1,h2,p,h3,h4⟩:=h
  have hin:j≤s.size∧∀ e d,1≤d→Sq s e (j - 1) d→Sq s e (i+1) d:=by
   rcases h4 with ⟨a,b,c⟩ | h4
   ·
    subst b
    have hp:=bt_in a Yy3
    exact ⟨Yy0,fun e d hd k=>blk_sq h3 k⟩
   ·
    obtain ⟨a,b,c,f⟩:=ms_sq ms p j h4
    exact ⟨a,fun e d hd k=>blk_sq h3 (f e d hd k)⟩
  have hv:vch (bt s ((j - 1:Nat):Int))=1:=by
   rcases h4 with ⟨a,b,c⟩ | h4
   ·
    subst b;rw [Nat.add_sub_cancel,a];rfl
   ·
    exact (ms_sq ms p j h4).2.1
  have hj:j - 1+1=j:=Yy0
  have hin1:=hin.1
  refine ⟨hin.1,fun e d hd k=>?_,6,rfl,h2,hin.1,Or.inr (Or.inr (Or.inr ⟨Or.inr ⟨rfl,h1⟩,hin.2 _ _ (nlr _) (.stop (show j - 1<s.size from Yy0) hv)⟩))⟩
  refine .opened (bt_in h1 Yy3) (by rw [show (T.obj i j ms).i=i from rfl,h1];rfl) (hin.2 _ _ Yy0 (.shut (show j - 1<s.size from Yy0) hd hv (by rw [hj];exact k)))
theorem es_sq {s:ByteArray}:∀ (es:Es) (p j:Nat),es.wf s p j→j≤s.size∧vch (bt s ((j - 1:Nat):Int))=1∧p<j∧∀ e d,1≤d→Sq s e (j - 1) d→Sq s e p d
 | .nil,p,j,h=>absurd h Yy21
 | .cons t r,p,j,h=>by
  obtain ⟨h1,h2,q,h3,h4⟩:=h
  obtain ⟨a,b,_⟩:=wf_sq t h1
  have hl:=T.wf_lt t h1
  have hq:=h3.1
  rcases h4 with ⟨c1,c2,c3⟩ | ⟨c1,p',c2,c3⟩
  ·
   subst c3
   have:=bt_in c1 Yy3
   refine ⟨Yy0,by rw [Nat.add_sub_cancel,c1];rfl,Yy0,fun e d hd k=>?_⟩
   rw [← h2]
   exact b e d hd (blk_sq h3 k)
  ·
   obtain ⟨f1,f2,f3,f4⟩:=es_sq r p' j c3
   have:=c2.1
   refine ⟨f1,f2,Yy0,fun e d hd k=>?_⟩
   rw [← h2]
   exact b e d hd (blk_sq h3 (plain_sq c1 rfl Yy3 (blk_sq c2 (f4 e d hd k))))
theorem ms_sq {s:ByteArray}:∀ (ms:Ms) (p j:Nat),ms.wf s p j→j≤s.size∧vch (bt s ((j - 1:Nat):Int))=1∧p<j∧∀ e d,1≤d→Sq s e (j - 1) d→Sq s e p d
 | .nil,p,j,h=>absurd h Yy19
 | .cons ni nj t r,p,j,h=>by
  obtain ⟨g1,g2,c,g3,g4,v,g5,h1,h2,q,h3,h4⟩:=h
  obtain ⟨a,b,_⟩:=wf_sq t h1
  have hl:=T.wf_lt t h1
  have hq:=h3.1
  have hn1:=g2.1.1
  have hn2:=g3.1
  have hn3:=g5.1
  have key:∀ e d,1≤d→Sq s e t.j d→Sq s e p d:=fun e d hd k=>by
   rw [← g1]
   refine .str g2.1 (blk_sq g3 (plain_sq g4 rfl Yy3 (blk_sq g5 ?_)))
   rw [← h2]
   exact b e d hd k
  rcases h4 with ⟨c1,c2,c3⟩ | ⟨c1,p',c2,c3⟩
  ·
   subst c3
   have:=bt_in c1 Yy3
   exact ⟨Yy0,by rw [Nat.add_sub_cancel,c1];rfl,Yy0,fun e d hd k=>key e d hd (blk_sq h3 k)⟩
  ·
   obtain ⟨f1,f2,f3,f4⟩:=ms_sq r p' j c3
   have:=c2.1
   exact ⟨f1,f2,Yy0,fun e d hd k=>key e d hd (blk_sq h3 (plain_sq c1 rfl Yy3 (blk_sq c2 (f4 e d hd k))))⟩
end
theorem wf_vk {s:ByteArray} {t:T} (h:t.wf s):VK s t.s.1 t.i t.j:=by
 obtain ⟨_,_,kd,rfl,h⟩:=wf_sq t h
 exact h
theorem num_str {s:ByteArray} {i j:Nat} (hj:j≤s.size) (h:∀ q,i≤q→q<j→numOK (bt s (q:Int))):NumStr (s.extract i j):=by
 intro k hk
 have hz:(s.extract i j).size=j - i:=Yy13
 have h1:=h (i+k) Yy0 Yy0
 rw [← bt_extract hj Yy0,PFnGjSquashItems.bt_at hk] at h1
 unfold numOK at h1
 unfold isN
 simp only [Bool.or_eq_true,Bool.and_eq_true,decide_eq_true_eq,beq_iff_eq]
 omega
theorem gs_l2 {s:ByteArray} (hs:s.size≤65536) {i q:Nat} (hq:q<s.size) (hi:bt s (i:Int)=34) {d:Int} {r:ByteArray} (hc:odd s i q=true→Ev (fun k=>gjson_squash.l1 k s ((q+1:Nat):Int) d ((i+1:Nat):Int)) r) (hd:odd s i q=false→Ev (fun k=>gjson_squash.j5 k s (q:Int) d) r) :
  ∀ m n,q=m+n+2→i≤m→(∀ p,q - (n+1)≤p→p<q→bt s (p:Int)=92)→Ev (fun k=>gjson_squash.l2 k s (q:Int) d ((i+1:Nat):Int) (n:Int) (m:Int)) r:=by
 have fin:∀ m n,q=m+n+2→i≤m→odd s i q=decide ((n+1) % 2=1)→Ev (fun k=>if (Int.tmod (n:Int) 2)=0 then (gjson_squash.l1 k s (wrap64 ((q:Int)+1)) d ((i+1:Nat):Int)) else (gjson_squash.j5 k s (q:Int) d)) r:=by
  intro m n hm him ho
  rw [wadd1 q Yy0]
  by_cases hn:n % 2=0
  ·
   simp only [if_pos ((tmod2 n).mpr hn)]
   exact hc (by rw [ho];exact dtt Yy0)
  ·
   simp only [if_neg (fun h=>hn ((tmod2 n).mp h))]
   exact hd (by rw [ho];exact dff Yy0)
 intro m
 induction m with
 | zero=>
  intro n hm him hb
  have ho:=odd_bsl (s:=s) (b:=i) (n+1) q Yy0 hb (Or.inl Yy0)
  refine Ev.step (fun k=>?_) (fin 0 n hm him ho)
  rw [gjson_squash.l2,wpred i Yy0,if_neg Yy0]
 | succ m ih=>
  intro n hm him hb
  by_cases hmi:m+1=i
  ·
   have ho:=odd_bsl (s:=s) (b:=i) (n+1) q Yy0 hb (Or.inl Yy0)
   refine Ev.step (fun k=>?_) (fin (m+1) n hm him ho)
   rw [gjson_squash.l2,wpred i Yy0,if_neg Yy0]
  by_cases h92:bt s ((m+1:Nat):Int)=92
  ·
   refine Ev.step (f:=fun k=>gjson_squash.l2 k s (q:Int) d ((i+1:Nat):Int) ((n+1:Nat):Int) (m:Int)) (fun k=>?_) (ih (n+1) Yy0 Yy0 (fun p h1 h2=>?_))
   ·
    rw [gjson_squash.l2,wpred i Yy0,if_pos Yy0,if_pos Yy0,if_pos Yy0,if_pos h92,wadd1 n Yy0,wpred m Yy0]
   ·
    rcases Nat.lt_or_ge p (q - (n+1)) with h3 | h3
    ·
     rw [show p=m+1 from Yy0];exact h92
    ·
     exact hb p h3 h2
  ·
   have ho:=odd_bsl (s:=s) (b:=i) (n+1) q Yy0 hb (Or.inr (by rw [show q - (n+1) - 1=m+1 from Yy0];exact h92))
   refine Ev.step (fun k=>?_) (fin (m+1) n hm him ho)
   rw [gjson_squash.l2,wpred i Yy0,if_pos Yy0,if_pos Yy0,if_pos Yy0,if_neg h92]
theorem gs_l1 {s:ByteArray} (hs:s.size≤65536) {i j:Nat} (h:StrTok0 s i j) {d:Int} {r:ByteArray} (hr:Ev (fun k=>gjson_squash.j5 k s ((j - 1:Nat):Int) d) r):∀ m q,j - 1 - q=m→i<q→q≤j - 1→Ev (fun k=>gjson_squash.l1 k s (q:Int) d ((i+1:Nat):Int)) r:=by
 have hj:=h.1
 have hjs:=h.2.1
 intro m
 induction m with
 | zero=>
  intro q hm hq1 hq2
  have hq:q=j - 1:=Yy0
  have h34:bt s (q:Int)=34:=by rw [hq];exact h.2.2.2.1
  by_cases h92:bt s ((q - 1:Nat):Int)=92
  ·
   have hne:i≠q - 1:=fun h2=>by rw [← h2,h.2.2.1] at h92;exact absurd h92 Yy3
   refine Ev.step (f:=fun k=>gjson_squash.l2 k s (q:Int) d ((i+1:Nat):Int) ((0:Nat):Int) ((q - 2:Nat):Int)) (fun k=>?_) (gs_l2 hs Yy0 h.2.2.1 (fun ho=>?_) (fun _=>by rw [hq];exact hr) (q - 2) 0 Yy0 Yy0 (fun p h1 h2=>by rw [show p=q - 1 from Yy0];exact h92))
   ·
    rw [gjson_squash.l1,if_pos Yy0,if_pos Yy0,if_neg Yy0,if_pos h34,w64 (x:=(q:Int) - 1) Yy0 Yy0,w64 (x:=(q:Int) - 2) Yy0 Yy0,show (q:Int) - 1=((q - 1:Nat):Int) from Yy0,show (q:Int) - 2=((q - 2:Nat):Int) from Yy0,if_pos Yy0,if_pos Yy0,if_pos h92]
    rfl
   ·
    rw [hq,h.2.2.2.2.1] at ho;exact absurd ho Yy3
  ·
   refine Ev.step (f:=fun k=>gjson_squash.j5 k s ((j - 1:Nat):Int) d) (fun k=>?_) hr
   rw [gjson_squash.l1,if_pos Yy0,if_pos Yy0,if_neg Yy0,if_pos h34,w64 (x:=(q:Int) - 1) Yy0 Yy0,show (q:Int) - 1=((q - 1:Nat):Int) from Yy0,if_pos Yy0,if_pos Yy0,if_neg h92,hq]
 | succ m ih=>
  intro q hm hq1 hq2
  have hnext:=ih (q+1) Yy0 Yy0 Yy0
  by_cases hg:bt s (q:Int) > 92
  ·
   refine Ev.step (f:=fun k=>gjson_squash.l1 k s ((q+1:Nat):Int) d ((i+1:Nat):Int)) (fun k=>?_) hnext
   rw [gjson_squash.l1,if_pos Yy0,if_pos Yy0,if_pos hg,wadd1 q Yy0]
  by_cases h34:bt s (q:Int)=34
  ·
   have h92:bt s ((q - 1:Nat):Int)=92:=by
    by_cases hn:bt s ((q - 1:Nat):Int)=92
    ·
     exact hn
    ·
     have:=h.quote hq1 Yy0 h34 hn;omega
   have hne:i≠q - 1:=fun h2=>by rw [← h2,h.2.2.1] at h92;exact absurd h92 Yy3
   have ho:odd s i q=true:=h.2.2.2.2.2 q hq1 Yy0 h34
   refine Ev.step (f:=fun k=>gjson_squash.l2 k s (q:Int) d ((i+1:Nat):Int) ((0:Nat):Int) ((q - 2:Nat):Int)) (fun k=>?_) (gs_l2 hs Yy0 h.2.2.1 (fun _=>hnext) (fun h2=>by rw [ho] at h2;exact absurd h2 Yy3) (q - 2) 0 Yy0 Yy0 (fun p h1 h2=>by rw [show p=q - 1 from Yy0];exact h92))
   rw [gjson_squash.l1,if_pos Yy0,if_pos Yy0,if_neg Yy0,if_pos h34,w64 (x:=(q:Int) - 1) Yy0 Yy0,w64 (x:=(q:Int) - 2) Yy0 Yy0,show (q:Int) - 1=((q - 1:Nat):Int) from Yy0,show (q:Int) - 2=((q - 2:Nat):Int) from Yy0,if_pos Yy0,if_pos Yy0,if_pos h92]
   rfl
  ·
   refine Ev.step (f:=fun k=>gjson_squash.l1 k s ((q+1:Nat):Int) d ((i+1:Nat):Int)) (fun k=>?_) hnext
   rw [gjson_squash.l1,if_pos Yy0,if_pos Yy0,if_neg hg,if_neg h34,wadd1 q Yy0]
theorem gs_j2 {s:ByteArray} {i:Nat} (hi:i<s.size) {d:Int} {r:ByteArray} (h34:34≤bt s (i:Int)) (h125:bt s (i:Int)≤125) (h:Ev (fun k=>gjson_squash.j2 k s (i:Int) d true) r):Ev (fun k=>gjson_squash.l0 k s (i:Int) d) r:=by
 refine Ev.step (f:=fun k=>gjson_squash.j2 k s (i:Int) d true) (fun k=>?_) h
 rw [gjson_squash.l0,if_pos Yy0,if_pos Yy0,if_pos h34,dtt h125]
theorem gs_j6 {s:ByteArray} {i:Nat} (hi:i<s.size) {d:Int} {r:ByteArray} (h34:bt s (i:Int)≠34) (b:Bool) (hb:b=decide (bt s (i:Int)=123∨bt s (i:Int)=91∨bt s (i:Int)=40)) (h:Ev (fun k=>gjson_squash.j6 k s (i:Int) d (bt s (i:Int)) b) r):Ev (fun k=>gjson_squash.j2 k s (i:Int) d true) r:=by
 refine Ev.step (f:=fun k=>gjson_squash.j6 k s (i:Int) d (bt s (i:Int)) b) (fun k=>?_) h
 rw [gjson_squash.j2,if_pos rfl,if_pos Yy0,if_pos Yy0,if_neg h34]
 by_cases h1:bt s (i:Int)=123
 ·
  rw [if_pos h1,hb,h1];rfl
 by_cases h2:bt s (i:Int)=91
 ·
  rw [if_neg h1,if_pos h2,hb,h2];rfl
 rw [if_neg h1,if_neg h2,hb]
 congr 1
 by_cases h3:bt s (i:Int)=40
 ·
  rw [dtt Yy0,h3];rfl
 ·
  rw [dff Yy0];exact bfo h3
theorem gs_j7 {s:ByteArray} {i:Nat} {d:Int} {r:ByteArray} (b:Bool) (hb:b=decide (bt s (i:Int)=125∨bt s (i:Int)=93∨bt s (i:Int)=41)) (h:Ev (fun k=>gjson_squash.j7 k s (i:Int) d b) r):Ev (fun k=>gjson_squash.j6 k s (i:Int) d (bt s (i:Int)) false) r:=by
 refine Ev.step (f:=fun k=>gjson_squash.j7 k s (i:Int) d b) (fun k=>?_) h
 rw [gjson_squash.j6,if_neg Yy3]
 by_cases h1:bt s (i:Int)=125
 ·
  rw [if_pos h1,hb,h1];rfl
 by_cases h2:bt s (i:Int)=93
 ·
  rw [if_neg h1,if_pos h2,hb,h2];rfl
 rw [if_neg h1,if_neg h2,hb]
 congr 1
 by_cases h3:bt s (i:Int)=41
 ·
  rw [dtt Yy0,h3];rfl
 ·
  rw [dff Yy0];exact bfo h3
theorem gs_sq {s:ByteArray} (hs:s.size≤65536) {e i d:Nat} (h:Sq s e i d) (hd:d≤i) (h1:1≤d):Ev (fun k=>gjson_squash.l0 k s (i:Int) (d:Int)) (s.extract 0 (e+1)):=by
 induction h with
 | stop he hv=>
  have hv':=vch1.mp hv
  refine gs_j2 he Yy0 Yy0 (gs_j6 he Yy0 false (by rw [dff Yy0]) (gs_j7 true (by rw [dtt hv']) ?_))
  refine Ev.step (f:=fun _=>some (s.extract 0 (e+1))) (fun k=>?_) (Ev.now _)
  rw [gjson_squash.j7,if_pos rfl,wadd1 e Yy0,wpred 0 Yy0,if_pos Yy0,if_pos Yy0,if_pos Yy0,Int.toNat_natCast]
 | @plain i d hi hv r ih=>
  have hn:=ih Yy0 h1
  by_cases hc:34≤bt s (i:Int)∧bt s (i:Int)≤125
  ·
   have n2:bt s (i:Int)≠34:=fun h=>by rw [vch2.mpr h] at hv;exact absurd hv Yy3
   have n3:¬(bt s (i:Int)=123∨bt s (i:Int)=91∨bt s (i:Int)=40):=fun h=>by rw [vch3.mpr h] at hv;exact absurd hv Yy3
   have n1:¬(bt s (i:Int)=125∨bt s (i:Int)=93∨bt s (i:Int)=41):=fun h=>by rw [vch1.mpr h] at hv;exact absurd hv Yy3
   refine gs_j2 hi hc.1 hc.2 (gs_j6 hi n2 false (by rw [dff n3]) (gs_j7 false (by rw [dff n1]) ?_))
   refine Ev.step (fun k=>?_) hn
   rw [gjson_squash.j7,if_neg Yy3,wadd1 i Yy0]
  ·
   refine Ev.step (f:=fun k=>gjson_squash.j2 k s (i:Int) (d:Int) false) (fun k=>?_) (Ev.step (fun k=>?_) hn)
   ·
    rw [gjson_squash.l0,if_pos Yy0,if_pos Yy0]
    by_cases h34:34≤bt s (i:Int)
    ·
     rw [if_pos h34,dff (fun h=>hc ⟨h34,h⟩)]
    ·
     rw [if_neg Yy0]
   ·
    rw [gjson_squash.j2,if_neg Yy3,wadd1 i Yy0]
 | @opened i d hi hv r ih=>
  have hn:=ih Yy0 Yy0
  have hv':=vch3.mp hv
  refine gs_j2 hi Yy0 Yy0 (gs_j6 hi Yy0 true (by rw [dtt hv']) ?_)
  refine Ev.step (fun k=>?_) hn
  rw [gjson_squash.j6,if_pos rfl,wadd1 i Yy0,wadd1 d Yy0]
 | @shut i d hi hd' hv r ih=>
  have hn:=ih Yy0 hd'
  have hv':=vch1.mp hv
  refine gs_j2 hi Yy0 Yy0 (gs_j6 hi Yy0 false (by rw [dff Yy0]) (gs_j7 true (by rw [dtt hv']) ?_))
  refine Ev.step (fun k=>?_) hn
  rw [gjson_squash.j7,if_pos rfl,wpred d Yy0,if_neg Yy0,wadd1 i Yy0]
 | @str i j d hst r ih=>
  have hj:=hst.1
  have hjs:=hst.2.1
  have hn:=ih Yy0 h1
  have h34:=hst.2.2.1
  refine gs_j2 Yy0 Yy0 Yy0 ?_
  refine Ev.step (f:=fun k=>gjson_squash.l1 k s ((i+1:Nat):Int) (d:Int) ((i+1:Nat):Int)) (fun k=>?_) (gs_l1 hs hst (Ev.step (fun k=>?_) hn) _ (i+1) rfl Yy0 Yy0)
  ·
   rw [gjson_squash.j2,if_pos rfl,if_pos Yy0,if_pos Yy0,if_pos h34,wadd1 i Yy0]
  ·
   rw [gjson_squash.j5,if_neg Yy0,wadd1 (j - 1) Yy0,show j - 1+1=j from Yy0]
theorem squash_vk {u:ByteArray} (hs:u.size≤65536) {kd:Int} {j:Nat} (h:VK u kd 0 j) (hk:4≤kd):Ev (fun k=>gjson_squash.f k u) (u.extract 0 j):=by
 obtain ⟨h1,h2,h3⟩:=h
 have hpos:0<(u.size:Int):=Yy0
 unfold gjson_squash.f
 simp only [if_pos hpos]
 rcases h3 with ⟨a,b⟩ | ⟨a,b,c⟩ | ⟨a,b⟩ | ⟨a,b⟩
 ·
  have hb:=b.1
  have hj:=hb.1
  have h34:bt u 0=34:=hb.2.2.1
  simp only [if_pos h34]
  refine Ev.step (f:=fun k=>gjson_squash.l0 k u ((0:Nat):Int) 0) (fun k=>by rw [gjson_squash.j0];rfl) (gs_j2 Yy0 ?_ ?_ ?_)
  ·
   show 34≤bt u 0;omega
  ·
   show bt u 0≤125;omega
  refine Ev.step (f:=fun k=>gjson_squash.l1 k u ((0+1:Nat):Int) 0 ((0+1:Nat):Int)) (fun k=>?_) (gs_l1 hs hb (Ev.step (f:=fun _=>some (u.extract 0 j)) (fun k=>?_) (Ev.now _)) _ (0+1) rfl Yy0 Yy0)
  ·
   rw [gjson_squash.j2,if_pos rfl,if_pos Yy0,if_pos Yy0,if_pos (show bt u ((0:Nat):Int)=34 from h34),wadd1 0 Yy0]
  ·
   rw [gjson_squash.j5,if_pos rfl,if_neg Yy0,wadd1 (j - 1) Yy0,show j - 1+1=j from Yy0,if_pos Yy0,if_pos Yy0,Int.toNat_natCast]
 ·
  omega
 ·
  omega
 ·
  have h34:bt u 0≠34:=by
   have e:bt u ((0:Nat):Int)=bt u 0:=rfl
   omega
  simp only [if_neg h34]
  have:=gs_sq hs b Yy0 (nlr _)
  rw [show j - 1+1=j from Yy0] at this
  exact Ev.step (fun k=>by rw [gjson_squash.j0];rfl) this
structure ItT where
 ni:Nat
 nj:Nat
 kd:Int
 v:Nat
 j:Nat
def sepOK (c:Int):Prop:=c≤32∨c=44∨c=58
inductive It (u:ByteArray) (ob:Bool):Nat→List ItT→Prop
 | done {i:Nat} (h:i≤u.size) (h1:ob=true→∀ q,i≤q→bt u (q:Int)≠34) (h2:ob=false→∀ q,i≤q→q<u.size→sepOK (bt u (q:Int))∨bt u (q:Int)=93):It u ob i []
 | item {i:Nat} {t:ItT} {l:List ItT} (hi:i≤t.ni) (hn:ob=true→StrTok u t.ni t.nj∧∀ q,i≤q→q<t.ni→bt u (q:Int)≠34) (hn2:ob=false→t.ni=i∧t.nj=i) (hv:t.nj≤t.v) (hs:∀ q,t.nj≤q→q<t.v→sepOK (bt u (q:Int))) (vk:VK u t.kd t.v t.j) (hj:t.j<u.size) (he:NumEnd u t.j) (r:It u ob (t.j+1) l):It u ob i (t :: l)
theorem isB_sep {c:Int} (h:isB c=true):sepOK c:=Or.inl (isB_le h)
def T.kids:T→List S47
 | .leaf _ _ _=>[]
 | .arr _ _ es=>es.l
 | .obj _ _ ms=>ms.l
end Go.Proofs.YtieflhncpjjciaaGreatDoor.Dc
namespace Go.Proofs.YtieflhncpjjciaaGreatDoor.PFnGjSquashItems
open Go Go.RowKit Go.Proofs.YtieflhncpjjciaaGreatDoorW.PrintWords Go.Proofs.YtieflhncpjjciaaGreatDoor.Dc
inductive Two {α β:Type} (R:α→β→Prop):List α→List β→Prop
 | nil:Two R [] []
 | cons {a:α} {b:β} {l:List α} {m:List β} (h:R a b) (r:Two R l m):Two R (a :: l) (b :: m)
theorem Two.len {α β:Type} {R:α→β→Prop} {l:List α} {m:List β} (h:Two R l m):l.length=m.length:=by
 induction h with
 | nil=>rfl
 | cons _ _ ih=>simp [ih]
theorem Two.get {α β:Type} {R:α→β→Prop} {l:List α} {m:List β} (h:Two R l m):∀ (k:Nat) (a:α),l[k]? = some a→∃ b,m[k]? = some b∧R a b:=by
 induction h with
 | nil=>intro k a hk;simp at hk
 | cons h r ih=>
  intro k a hk
  cases k with
  | zero=>obtain rfl:=Option.some.inj hk;exact ⟨_,rfl,h⟩
  | succ k=>exact ih k a hk
end Go.Proofs.YtieflhncpjjciaaGreatDoor.PFnGjSquashItems
namespace Go.Proofs.YtieflhncpjjciaaGreatDoor.Dc
open Go Go.RowKit Go.Proofs.YtieflhncpjjciaaGreatDoorW.PrintWords Go.Proofs.YtieflhncpjjciaaGreatDoor.PFnGjSquashItems
theorem hexv_ev {c:Int} (h:isHex c=true):Ev (fun k=>spec_hexDigit.f k c) (hexV c,true):=by
 refine Ev.of (spec_hexDigit.mono c) (k:=2) ?_
 rcases isHex_cases h with h | h | h
 ·
  show spec_hexDigit.f 2 c=_
  rw [spec_hexDigit.f,if_pos h.1,dtt h.2,spec_hexDigit.j0,if_pos rfl,hexV,if_pos h.2,show (c - 48) % 256=c - 48 from Yy0]
 ·
  show spec_hexDigit.f 2 c=_
  rw [spec_hexDigit.f,if_pos Yy0,dff Yy0,spec_hexDigit.j0,if_neg Yy4,if_pos h.1,dtt h.2,spec_hexDigit.j1,if_pos rfl,hexV,if_neg Yy0,if_neg Yy0,show (c - 97) % 256+10=c - 87 from Yy0]
 ·
  show spec_hexDigit.f 2 c=_
  rw [spec_hexDigit.f,if_pos Yy0,dff Yy0,spec_hexDigit.j0,if_neg Yy4,if_neg Yy0,spec_hexDigit.j1,if_neg Yy4,if_pos h.1,if_pos h.2,hexV,if_neg Yy0,if_pos Yy0,show (c - 65) % 256+10=c - 55 from Yy0]
def UEsc (s:ByteArray) (p:Nat):Prop:=p+6≤s.size∧bt s (p:Int)=92∧bt s ((p+1:Nat):Int)=117∧hex4 s (p+2)
theorem unitl_ev {s:ByteArray} (hn:s.size≤65536) {p:Nat} (hp:p+6≤s.size):∀ m d,4 - d=m→d≤4→(∀ q,q<d→isHex (bt s ((p+2+q:Nat):Int))=true)→∃ n ok,Ev (fun k=>spec_unit.l0 k s (p:Int) (hexN s (p+2) d) ((p+2+d:Nat):Int)) (n,ok)∧(ok=true↔hex4 s (p+2))∧(ok=true→n=hexN s (p+2) 4):=by
 intro m
 induction m with
 | zero=>
  intro d hm hd hx
  obtain rfl:d=4:=Yy0
  refine ⟨hexN s (p+2) 4,true,Ev.step (f:=fun _=>some (hexN s (p+2) 4,true)) (fun k=>?_) (Ev.now _),⟨fun _=>hx,fun _=>rfl⟩,fun _=>rfl⟩
  rw [spec_unit.l0,w64 (x:=(p:Int)+6) Yy0 Yy0,if_neg Yy0]
 | succ m ih=>
  intro d hm hd hx
  have hd4:d<4:=Yy0
  have hr:=hexN_range (s:=s) (p:=p+2) d hd hx
  by_cases hh:isHex (bt s ((p+2+d:Nat):Int))=true
  ·
   have hx':∀ q,q<d+1→isHex (bt s ((p+2+q:Nat):Int))=true:=fun q hq=>by
    rcases Nat.lt_or_ge q d with h | h
    ·
     exact hx q h
    ·
     rw [show q=d from Yy0];exact hh
   have hr':=hexN_range (s:=s) (p:=p+2) (d+1) Yy0 hx'
   obtain ⟨n,ok,he,h1,h2⟩:=ih (d+1) Yy0 Yy0 hx'
   have hv:wrap64 ((wrap64 (hexN s (p+2) d * 16))+hexV (bt s ((p+2+d:Nat):Int)))=hexN s (p+2) (d+1):=by
    rw [w64 (x:=hexN s (p+2) d * 16) Yy0 Yy0]
    show wrap64 (hexN s (p+2) (d+1))=_
    exact w64 Yy0 Yy0
   refine ⟨n,ok,Ev.step (f:=fun k=>(spec_hexDigit.f k (bt s ((p+2+d:Nat):Int))).bind fun bt284=>(if bt284.2=true then (spec_unit.l0 k s (p:Int) (wrap64 ((wrap64 (hexN s (p+2) d * 16))+bt284.1)) (wrap64 (((p+2+d:Nat):Int)+1))) else (some (0,false)))) (fun k=>?_) (Ev.two (hexv_ev hh) ?_),h1,h2⟩
   ·
    rw [spec_unit.l0,w64 (x:=(p:Int)+6) Yy0 Yy0,if_pos Yy0,if_pos Yy0,if_pos Yy0]
   ·
    refine Ev.congr (fun k=>?_) he
    rw [if_pos rfl,hv,w64 Yy0 Yy0,show ((p+2+d:Nat):Int)+1=((p+2+(d+1):Nat):Int) from Yy0]
  ·
   obtain ⟨v,hv⟩:=hex_ev (bt s ((p+2+d:Nat):Int))
   refine ⟨0,false,Ev.step (f:=fun k=>(spec_hexDigit.f k (bt s ((p+2+d:Nat):Int))).bind fun bt284=>(if bt284.2=true then (spec_unit.l0 k s (p:Int) (wrap64 ((wrap64 (hexN s (p+2) d * 16))+bt284.1)) (wrap64 (((p+2+d:Nat):Int)+1))) else (some (0,false)))) (fun k=>?_) (Ev.two hv ?_),⟨(fun h=>Yy15),fun h=>absurd (h d hd4) hh⟩,(fun h=>Yy15)⟩
   ·
    rw [spec_unit.l0,w64 (x:=(p:Int)+6) Yy0 Yy0,if_pos Yy0,if_pos Yy0,if_pos Yy0]
   ·
    exact Ev.congr (fun k=>if_neg hh) (Ev.now _)
theorem unit_ev {s:ByteArray} (hn:s.size≤65536) (p:Nat) (hp:p≤131072):∃ n ok,Ev (fun k=>spec_unit.f k s (p:Int)) (n,ok)∧(ok=true↔UEsc s p)∧(ok=true→n=hexN s (p+2) 4):=by
 have no:∀ {g:Nat→Option (Int×Bool)},(∀ k,g k=spec_unit.j0 k s (p:Int) true)→¬ UEsc s p→∃ n ok,Ev g (n,ok)∧(ok=true↔UEsc s p)∧(ok=true→n=hexN s (p+2) 4):=fun hg hu=>
  ⟨0,false,Ev.congr hg (Ev.step (f:=fun _=>some (0,false)) (fun k=>by rw [spec_unit.j0,if_pos rfl]) (Ev.now _)),⟨(fun h=>Yy15),fun h=>absurd h hu⟩,(fun h=>Yy15)⟩
 by_cases h6:p+6≤s.size
 ·
  have e1:wrap64 ((s.size:Int) - (p:Int))=(s.size:Int) - p:=w64 Yy0 Yy0
  have e2:wrap64 ((p:Int)+1)=((p+1:Nat):Int):=Yy78
  by_cases h92:bt s (p:Int)=92
  ·
   by_cases h117:bt s ((p+1:Nat):Int)=117
   ·
    obtain ⟨n,ok,he,h1,h2⟩:=unitl_ev hn h6 _ 0 rfl Yy0 (fun q hq=>Yy0)
    refine ⟨n,ok,Ev.congr (f:=fun k=>spec_unit.j0 k s (p:Int) false) (fun k=>?_) (Ev.step (fun k=>?_) he),⟨fun h=>⟨h6,h92,h117,h1.mp h⟩,fun h=>h1.mpr h.2.2.2⟩,h2⟩
    ·
     rw [spec_unit.f,e1,if_neg Yy0,if_pos Yy0,if_pos Yy0,if_pos h92,e2,if_pos Yy0,if_pos Yy0,h117]
     rfl
    ·
     rw [spec_unit.j0,if_neg Yy4,w64 Yy0 Yy0]
     rfl
   ·
    refine no (fun k=>?_) (fun h=>h117 h.2.2.1)
    rw [spec_unit.f,e1,if_neg Yy0,if_pos Yy0,if_pos Yy0,if_pos h92,e2,if_pos Yy0,if_pos Yy0,bne_iff_ne.mpr h117]
  ·
   refine no (fun k=>?_) (fun h=>h92 h.2.1)
   rw [spec_unit.f,e1,if_neg Yy0,if_pos Yy0,if_pos Yy0,if_neg h92]
 ·
  refine no (fun k=>?_) (fun h=>h6 h.1)
  rw [spec_unit.f,w64 Yy0 Yy0,if_pos Yy0]
theorem high_f (n:Int):∃ b,spec_high.f n=some b:=by unfold spec_high.f;split <;> exact ⟨_,rfl⟩
theorem low_f (n:Int):∃ b,spec_low.f n=some b:=by unfold spec_low.f;split <;> exact ⟨_,rfl⟩
theorem short_f (n:Int):∃ b,spec_short.f n=some b:=by unfold spec_short.f;repeat' split <;> first | exact ⟨_,rfl⟩ | skip
theorem app8_j (l:List Int) (hl:l.length≤1000000) (n:Int) (b:Bool):∃ z,Ev (fun k=>spec_appendUTF8.j0 k l n b) z∧z.length≤l.length+4:=by
 cases b with
 | true=>exact ⟨l ++ [239,191,189],Ev.step (f:=fun _=>some (l ++ [239,191,189])) (fun k=>Yy93) (Ev.now _),Yy4⟩
 | false=>
  by_cases h:n<65536
  ·
   refine ⟨_,Ev.step (f:=fun _=>some _) (fun k=>by rw [spec_appendUTF8.j0,if_neg Yy4,if_pos h];simp only [Option.bind_some];rw [if_pos Yy12]) (Ev.now _),Yy4⟩
  ·
   refine ⟨_,Ev.step (f:=fun _=>some _) (fun k=>by rw [spec_appendUTF8.j0,if_neg Yy4,if_neg h];simp only [Option.bind_some];rw [if_pos Yy12]) (Ev.now _),Yy4⟩
theorem app8_ev (l:List Int) (hl:l.length≤1000000) (n:Int):∃ z,Ev (fun k=>spec_appendUTF8.f k l n) z∧z.length≤l.length+4:=by
 by_cases h1:n<128
 ·
  refine ⟨_,Ev.is (fun k=>by rw [spec_appendUTF8.f,if_pos h1,if_pos Yy0]),Yy4⟩
 by_cases h2:n<2048
 ·
  refine ⟨_,Ev.is (fun k=>by rw [spec_appendUTF8.f,if_neg h1,if_pos h2];simp only [Option.bind_some];rw [if_pos Yy12]),Yy4⟩
 obtain ⟨b,hb⟩:=high_f n
 cases b with
 | true=>
  obtain ⟨z,h3,h4⟩:=app8_j l hl n true
  exact ⟨z,Ev.congr (fun k=>by rw [spec_appendUTF8.f,if_neg h1,if_neg h2,hb];rfl) h3,h4⟩
 | false=>
  obtain ⟨b,hb2⟩:=low_f n
  obtain ⟨z,h3,h4⟩:=app8_j l hl n b
  exact ⟨z,Ev.congr (fun k=>by rw [spec_appendUTF8.f,if_neg h1,if_neg h2,hb];show (spec_low.f n).bind _=_;rw [hb2];rfl) h3,h4⟩
theorem tk_u {u:ByteArray} {p:Nat} (h:Tk u u.size p) (hu:UEsc u p):Tk u u.size (p+6):=by
 obtain ⟨j,hj,_,r⟩:=h.inv92 (by have:=hu.1;omega) hu.2.1
 rcases hj with ⟨_,hs⟩ | ⟨rfl,_,_⟩
 ·
  have:=hu.2.2.1;omega
 ·
  exact r
theorem tk_s {u:ByteArray} {p:Nat} (h:Tk u u.size p) (hp:p<u.size) (h92:bt u (p:Int)=92) (hu:¬ UEsc u p):p+1<u.size∧Tk u u.size (p+2):=by
 obtain ⟨j,hj,hje,r⟩:=h.inv92 hp h92
 rcases hj with ⟨rfl,hs⟩ | ⟨rfl,h117,hx⟩
 ·
  exact ⟨Yy0,r⟩
 ·
  exact absurd ⟨Yy0,h92,h117,fun q hq=>hx (p+2+q) Yy0 Yy0⟩ hu
theorem unq_l {u:ByteArray} (hn:u.size≤65536):∀ m p,u.size - p≤m→p≤u.size→Tk u u.size p→∀ x:List Int,x.length+4 * (u.size - p)≤300000→∃ r,Ev (fun k=>spec_Unquote.l0 k x u (p:Int)) r:=by
 intro m
 induction m with
 | zero=>
  intro p hm hp ht x hx
  exact ⟨_,Ev.step (f:=fun _=>some (strOfNums x)) (fun k=>by rw [spec_Unquote.l0,if_neg Yy0]) (Ev.now _)⟩
 | succ m ih=>
  intro p hm hp ht x hx
  rcases eol hp with he | hlt
  ·
   exact ⟨_,Ev.step (f:=fun _=>some (strOfNums x)) (fun k=>by rw [spec_Unquote.l0,if_neg Yy0]) (Ev.now _)⟩
  have e1:wrap64 ((p:Int)+1)=((p+1:Nat):Int):=Yy78
  have e2:wrap64 ((p:Int)+2)=((p+2:Nat):Int):=Yy78
  have e6:wrap64 ((p:Int)+6)=((p+6:Nat):Int):=Yy78
  have e12:wrap64 (((p+6:Nat):Int)+6)=((p+12:Nat):Int):=Yy78
  by_cases h92:bt u (p:Int)=92
  ·
   obtain ⟨n,ok,hu,hiff,_⟩:=unit_ev hn p Yy0
   cases ok with
   | false=>
    obtain ⟨h1,h2⟩:=tk_s ht hlt h92 (fun h=>by have:=hiff.mpr h;cases this)
    obtain ⟨b,hb⟩:=short_f (bt u ((p+1:Nat):Int))
    obtain ⟨r,hr⟩:=ih (p+2) Yy0 Yy0 h2 (x ++ [b]) Yy12
    refine ⟨r,Ev.step (fun k=>Yy81) (Ev.two hu (Ev.congr (fun k=>if_neg Bool.false_ne_true) ?_))⟩
    refine Ev.congr (fun k=>?_) hr
    rw [e1,if_pos Yy0,if_pos Yy0,hb,e2]
    simp only [Option.bind_some]
    rw [if_pos Yy0]
   | true=>
    have hU:=hiff.mp rfl
    have ht6:=tk_u ht hU
    have h6:=hU.1
    have one:∃ z r,Ev (fun k=>spec_appendUTF8.f k x n) z∧Ev (fun k=>spec_Unquote.l0 k z u ((p+6:Nat):Int)) r:=by
     obtain ⟨z,hz,hzl⟩:=app8_ev x Yy0 n
     obtain ⟨r,hr⟩:=ih (p+6) Yy0 h6 ht6 z Yy0
     exact ⟨z,r,hz,hr⟩
    obtain ⟨z1,r1,hz1,hr1⟩:=one
    obtain ⟨n2,ok2,hu2,hiff2,_⟩:=unit_ev hn (p+6) Yy0
    have st:∀ {r},Ev (fun k=>(spec_unit.f k u ((p+6:Nat):Int)).bind fun bt324=>(if bt324.2=true then ((spec_high.f n).bind fun t326=>(if t326=true then ((spec_low.f bt324.1).bind fun t327=>(if t327=true then ((spec_appendUTF8.f k x (wrap64 ((wrap64 (65536+(wrap64 ((wrap64 (n - 55296)) * 1024))))+(wrap64 (bt324.1 - 56320))))).bind fun t328=>(spec_Unquote.l0 k t328 u ((p+12:Nat):Int))) else ((spec_appendUTF8.f k x n).bind fun t331=>(spec_Unquote.l0 k t331 u ((p+6:Nat):Int))))) else ((spec_appendUTF8.f k x n).bind fun t334=>(spec_Unquote.l0 k t334 u ((p+6:Nat):Int))))) else ((spec_appendUTF8.f k x n).bind fun t337=>(spec_Unquote.l0 k t337 u ((p+6:Nat):Int))))) r→Ev (fun k=>spec_Unquote.l0 k x u (p:Int)) r:=fun h=>
     Ev.step (fun k=>Yy81) (Ev.two hu (Ev.congr (fun k=>if_pos rfl) (Ev.congr (fun k=>by rw [e6,e12]) h)))
    cases ok2 with
    | false=>exact ⟨r1,st (Ev.two hu2 (Ev.congr (fun k=>if_neg Bool.false_ne_true) (Ev.two hz1 hr1)))⟩
    | true=>
     obtain ⟨b1,hb1⟩:=high_f n
     cases b1 with
     | false=>exact ⟨r1,st (Ev.two hu2 (Ev.congr (fun k=>if_pos rfl) (Ev.two (Ev.is fun _=>hb1) (Ev.congr (fun k=>if_neg Bool.false_ne_true) (Ev.two hz1 hr1)))))⟩
     | true=>
      obtain ⟨b2,hb2⟩:=low_f n2
      cases b2 with
      | false=>exact ⟨r1,st (Ev.two hu2 (Ev.congr (fun k=>if_pos rfl) (Ev.two (Ev.is fun _=>hb1) (Ev.congr (fun k=>if_pos rfl) (Ev.two (Ev.is fun _=>hb2) (Ev.congr (fun k=>if_neg Bool.false_ne_true) (Ev.two hz1 hr1)))))))⟩
      | true=>
       have hU2:=hiff2.mp rfl
       obtain ⟨z,hz,hzl⟩:=app8_ev x Yy0 (wrap64 ((wrap64 (65536+(wrap64 ((wrap64 (n - 55296)) * 1024))))+(wrap64 (n2 - 56320))))
       obtain ⟨r,hr⟩:=ih (p+12) Yy0 hU2.1 (tk_u ht6 hU2) z (by have:=hU2.1;omega)
       exact ⟨r,st (Ev.two hu2 (Ev.congr (fun k=>if_pos rfl) (Ev.two (Ev.is fun _=>hb1) (Ev.congr (fun k=>if_pos rfl) (Ev.two (Ev.is fun _=>hb2) (Ev.congr (fun k=>if_pos rfl) (Ev.two hz hr)))))))⟩
  ·
   have ht1:Tk u u.size (p+1):=by
    cases ht with
    | nil=>omega
    | plain _ _ _ _ r=>exact r
    | esc h _ _ _=>exact absurd h h92
   obtain ⟨r,hr⟩:=ih (p+1) Yy0 Yy0 ht1 (x ++ [bt u (p:Int)]) Yy12
   exact ⟨r,Ev.step (fun k=>by rw [spec_Unquote.l0,if_pos Yy0,if_pos Yy0,if_neg h92,if_pos Yy0,e1]) hr⟩
theorem unquote_ev {s:ByteArray} (hs:s.size≤65536) {i j:Nat} (h:StrTok s i j):∃ r,Ev (fun k=>spec_Unquote.f k (s.extract i j)) r:=by
 have h1:=h.1.1
 have h2:=h.1.2.1
 have hz:(s.extract i j).size=j - i:=Yy13
 have hx:(s.extract i j).extract 1 (j - i - 1)=s.extract (i+1) (j - 1):=by
  rw [ByteArray.extract_extract,show min (i+(j - i - 1)) j=j - 1 from Yy0]
 have hzu:(s.extract (i+1) (j - 1)).size=j - 1 - (i+1):=Yy13
 have ht:=tk_shift (a:=i+1) Yy0 _ h.2 (nlr _)
 rw [← hzu,Nat.sub_self] at ht
 obtain ⟨r,hr⟩:=unq_l (u:=s.extract (i+1) (j - 1)) Yy0 _ 0 (nlr _) (Nat.zero_le _) ht [] Yy12
 refine ⟨r,Ev.congr (fun k=>?_) hr⟩
 have e:wrap64 ((s.extract i j).size - 1:Int)=((j - i - 1:Nat):Int):=by rw [hz,w64 Yy0 Yy0];omega
 rw [spec_Unquote.f,e,if_pos Yy0,if_pos Yy0,Int.toNat_natCast,hx]
 rfl
theorem char_l {s:ByteArray} (hn:s.size≤65536) (p:Nat) (hp:p<s.size) (n9:Nat) (h9:n9≤3) (hpn:p+n9<s.size) (x9:Int):∀ m d,n9+1 - d=m→1≤d→d≤n9+1→∀ x7:Int,∃ (c:Int) (n:Nat) (ok:Bool),Ev (fun k=>spec_Character.l0 k s (p:Int) x7 (n9:Int) x9 (d:Int)) (c,(n:Int),ok)∧1≤n∧n≤4:=by
 intro m
 induction m with
 | zero=>
  intro d hm h1 h2 x7
  have no:∀ {g:Nat→Option (Int×Int×Bool)},(∀ k,g (k+1)=some (65533,1,false))→∃ (c:Int) (n:Nat) (ok:Bool),Ev g (c,(n:Int),ok)∧1≤n∧n≤4:=fun h=>⟨65533,1,false,Ev.step (f:=fun _=>some (65533,1,false)) h (Ev.now _),Yy0,Yy0⟩
  obtain ⟨b1,hb1⟩:=high_f x7
  obtain ⟨b2,hb2⟩:=low_f x7
  by_cases a1:x7<x9
  ·
   exact no (fun k=>by rw [spec_Character.l0,if_neg Yy0,if_pos a1])
  by_cases a2:x7 > 1114111
  ·
   exact no (fun k=>by rw [spec_Character.l0,if_neg Yy0,if_neg a1,if_pos a2])
  cases b1 with
  | true=>exact no (fun k=>by rw [spec_Character.l0,if_neg Yy0,if_neg a1,if_neg a2,hb1];rfl)
  | false=>
   cases b2 with
   | true=>exact no (fun k=>by rw [spec_Character.l0,if_neg Yy0,if_neg a1,if_neg a2,hb1,hb2];rfl)
   | false=>
    refine ⟨x7,n9+1,true,Ev.step (f:=fun _=>some (x7,((n9+1:Nat):Int),true)) (fun k=>?_) (Ev.now _),Yy0,Yy0⟩
    rw [spec_Character.l0,if_neg Yy0,if_neg a1,if_neg a2,hb1,hb2,w64 Yy0 Yy0]
    rfl
 | succ m ih=>
  intro d hm h1 h2 x7
  have no:∀ {g:Nat→Option (Int×Int×Bool)},(∀ k,g (k+1)=some (65533,1,false))→∃ (c:Int) (n:Nat) (ok:Bool),Ev g (c,(n:Int),ok)∧1≤n∧n≤4:=fun h=>⟨65533,1,false,Ev.step (f:=fun _=>some (65533,1,false)) h (Ev.now _),Yy0,Yy0⟩
  have e1:wrap64 ((p:Int)+(d:Int))=((p+d:Nat):Int):=Yy78
  have e2:wrap64 ((d:Int)+1)=((d+1:Nat):Int):=Yy78
  by_cases a1:wrap64 (bt s ((p+d:Nat):Int))<128
  ·
   exact no (fun k=>by rw [spec_Character.l0,if_pos Yy0,e1,if_pos Yy0,if_pos Yy0,if_pos a1])
  by_cases a2:wrap64 (bt s ((p+d:Nat):Int)) > 191
  ·
   exact no (fun k=>by rw [spec_Character.l0,if_pos Yy0,e1,if_pos Yy0,if_pos Yy0,if_neg a1,if_pos a2])
  obtain ⟨c,n,ok,he,h3⟩:=ih (d+1) Yy0 Yy0 Yy0 (wrap64 ((wrap64 ((wrap64 (x7 * 64))+(wrap64 (bt s ((p+d:Nat):Int))))) - 128))
  exact ⟨c,n,ok,Ev.step (fun k=>by rw [spec_Character.l0,if_pos Yy0,e1,if_pos Yy0,if_pos Yy0,if_neg a1,if_neg a2,e2]) he,h3⟩
def CharTo (g:Nat→Option (Int×Int×Bool)):Prop:=∃ (c:Int) (n:Nat) (ok:Bool),Ev g (c,(n:Int),ok)∧1≤n∧n≤4
theorem CharTo.no {g:Nat→Option (Int×Int×Bool)} (h:∀ k,g (k+1)=some (65533,1,false)):CharTo g:=⟨65533,1,false,Ev.step (f:=fun _=>some (65533,1,false)) h (Ev.now _),Yy0,Yy0⟩
theorem CharTo.step {g f:Nat→Option (Int×Int×Bool)} (h:∀ k,g (k+1)=f k) (k:CharTo f):CharTo g:=by
 obtain ⟨c,n,ok,he,r⟩:=k
 exact ⟨c,n,ok,Ev.step h he,r⟩
theorem CharTo.congr {g f:Nat→Option (Int×Int×Bool)} (h:∀ k,g k=f k) (k:CharTo f):CharTo g:=by
 obtain ⟨c,n,ok,he,r⟩:=k
 exact ⟨c,n,ok,Ev.congr h he,r⟩
theorem char_j2 {s:ByteArray} (hn:s.size≤65536) (p:Nat) (hp:p<s.size) (x7 x9:Int) (n9:Nat) (h9:n9≤3):CharTo (fun k=>spec_Character.j2 k s (p:Int) x7 (n9:Int) x9):=by
 by_cases h:(s.size:Int) - p≤n9
 ·
  exact .no (fun k=>by rw [spec_Character.j2,w64 Yy0 Yy0,if_pos h])
 ·
  exact .step (f:=fun k=>spec_Character.l0 k s (p:Int) x7 (n9:Int) x9 ((1:Nat):Int)) (fun k=>by rw [spec_Character.j2,w64 Yy0 Yy0,if_neg h];rfl) (char_l hn p hp n9 h9 Yy0 x9 _ 1 rfl Yy0 Yy0 x7)
theorem char_j1 {s:ByteArray} (hn:s.size≤65536) (p:Nat) (hp:p<s.size) (x7:Int) (b:Bool):CharTo (fun k=>spec_Character.j1 k s (p:Int) x7 b):=by
 cases b with
 | true=>exact .step (f:=fun k=>spec_Character.j2 k s (p:Int) (wrap64 (x7 - 224)) ((2:Nat):Int) 2048) (fun k=>by rw [spec_Character.j1,if_pos rfl];rfl) (char_j2 hn p hp _ _ 2 Yy0)
 | false=>
  by_cases h1:240≤x7
  ·
   by_cases h2:x7≤244
   ·
    exact .step (f:=fun k=>spec_Character.j2 k s (p:Int) (wrap64 (x7 - 240)) ((3:Nat):Int) 65536) (fun k=>by rw [spec_Character.j1,if_neg Yy4,if_pos h1,if_pos h2];rfl) (char_j2 hn p hp _ _ 3 Yy0)
   ·
    exact .no (fun k=>by rw [spec_Character.j1,if_neg Yy4,if_pos h1,if_neg h2])
  ·
   exact .no (fun k=>by rw [spec_Character.j1,if_neg Yy4,if_neg h1])
theorem char_j0 {s:ByteArray} (hn:s.size≤65536) (p:Nat) (hp:p<s.size) (x7:Int) (b:Bool):CharTo (fun k=>spec_Character.j0 k s (p:Int) x7 b):=by
 cases b with
 | true=>exact .step (f:=fun k=>spec_Character.j2 k s (p:Int) (wrap64 (x7 - 192)) ((1:Nat):Int) 128) (fun k=>by rw [spec_Character.j0,if_pos rfl];rfl) (char_j2 hn p hp _ _ 1 Yy0)
 | false=>
  by_cases h1:224≤x7
  ·
   exact .step (fun k=>by rw [spec_Character.j0,if_neg Yy4,if_pos h1]) (char_j1 hn p hp x7 (decide (x7≤239)))
  ·
   exact .step (fun k=>by rw [spec_Character.j0,if_neg Yy4,if_neg h1]) (char_j1 hn p hp x7 false)
theorem char_ev {s:ByteArray} (hn:s.size≤65536) (p:Nat) (hp:p<s.size):CharTo (fun k=>spec_Character.f k s (p:Int)):=by
 by_cases h1:wrap64 (bt s (p:Int))<128
 ·
  exact ⟨wrap64 (bt s (p:Int)),1,true,Ev.is (fun k=>by rw [spec_Character.f,if_pos Yy0,if_pos Yy0,if_pos h1];rfl),Yy0,Yy0⟩
 ·
  by_cases h2:194≤wrap64 (bt s (p:Int))
  ·
   exact .congr (fun k=>by rw [spec_Character.f,if_pos Yy0,if_pos Yy0,if_neg h1,if_pos h2]) (char_j0 hn p hp _ _)
  ·
   exact .congr (fun k=>by rw [spec_Character.f,if_pos Yy0,if_pos Yy0,if_neg h1,if_neg h2]) (char_j0 hn p hp _ _)
theorem utf8_l {s:ByteArray} (hn:s.size≤65536):∀ m p,s.size - p≤m→∃ b,Ev (fun k=>spec_UTF8.l0 k s (p:Int)) b:=by
 intro m
 induction m with
 | zero=>
  intro p hm
  exact ⟨true,Ev.step (f:=fun _=>some true) (fun k=>by rw [spec_UTF8.l0,if_neg Yy0]) (Ev.now _)⟩
 | succ m ih=>
  intro p hm
  by_cases hp:p<s.size
  ·
   obtain ⟨c,n,ok,he,h1,h4⟩:=char_ev hn p hp
   cases ok with
   | false=>exact ⟨false,Ev.step (fun k=>by rw [spec_UTF8.l0,if_pos Yy0]) (Ev.two he (Ev.congr (fun k=>if_neg Bool.false_ne_true) (Ev.now _)))⟩
   | true=>
    obtain ⟨b,hb⟩:=ih (p+n) Yy0
    exact ⟨b,Ev.step (fun k=>by rw [spec_UTF8.l0,if_pos Yy0]) (Ev.two he (Ev.congr (fun k=>if_pos rfl) (Ev.congr (fun k=>by show spec_UTF8.l0 k s (wrap64 ((p:Int)+(n:Int)))=_;rw [w64 Yy0 Yy0,← Int.natCast_add]) hb)))⟩
  ·
   exact ⟨true,Ev.step (f:=fun _=>some true) (fun k=>by rw [spec_UTF8.l0,if_neg Yy0]) (Ev.now _)⟩
theorem utf8_ev {s:ByteArray} (hn:s.size≤65536):∃ b,Ev (fun k=>spec_UTF8.f k s) b:=utf8_l hn _ 0 (nlr _)
theorem paired_l {s:ByteArray} (hn:s.size≤65536):∀ m p,s.size - p≤m→p≤131000→∃ b,Ev (fun k=>spec_Paired.l0 k s (p:Int)) b:=by
 intro m
 induction m with
 | zero=>
  intro p hm _
  exact ⟨true,Ev.step (f:=fun _=>some true) (fun k=>by rw [spec_Paired.l0,if_neg Yy0]) (Ev.now _)⟩
 | succ m ih=>
  intro p hm hp1
  by_cases hp:p<s.size
  ·
   have e1:wrap64 ((p:Int)+1)=((p+1:Nat):Int):=Yy78
   have e2:wrap64 ((p:Int)+2)=((p+2:Nat):Int):=Yy78
   have e6:wrap64 ((p:Int)+6)=((p+6:Nat):Int):=Yy78
   have e12:wrap64 ((p:Int)+12)=((p+12:Nat):Int):=Yy78
   by_cases h92:bt s (p:Int)=92
   ·
    obtain ⟨n,ok,hu,_,_⟩:=unit_ev hn p Yy0
    cases ok with
    | false=>
     obtain ⟨b,hb⟩:=ih (p+2) Yy0 Yy0
     exact ⟨b,Ev.step (fun k=>Yy79) (Ev.two hu (Ev.congr (fun k=>if_neg Bool.false_ne_true) (Ev.congr (fun k=>by rw [e2]) hb)))⟩
    | true=>
     obtain ⟨b1,hb1⟩:=high_f n
     cases b1 with
     | true=>
      obtain ⟨n2,ok2,hu2,_,_⟩:=unit_ev hn (p+6) Yy0
      have st:∀ {b},Ev (fun k=>if (n2,ok2).2=true then ((spec_low.f (n2,ok2).1).bind fun t392=>(if t392=true then (spec_Paired.l0 k s ((p+12:Nat):Int)) else (some false))) else (some false)) b→Ev (fun k=>spec_Paired.l0 k s (p:Int)) b:=fun h=>
       Ev.step (fun k=>Yy79) (Ev.two hu (Ev.congr (fun k=>if_pos rfl) (Ev.two (Ev.is fun _=>hb1) (Ev.congr (fun k=>if_pos rfl) (Ev.congr (fun k=>by rw [e6,e12]) (Ev.two hu2 h))))))
      cases ok2 with
      | false=>exact ⟨false,st (Ev.congr (fun k=>if_neg Bool.false_ne_true) (Ev.now _))⟩
      | true=>
       obtain ⟨b2,hb2⟩:=low_f n2
       cases b2 with
       | false=>exact ⟨false,st (Ev.congr (fun k=>if_pos rfl) (Ev.two (Ev.is fun _=>hb2) (Ev.congr (fun k=>if_neg Bool.false_ne_true) (Ev.now _))))⟩
       | true=>
        obtain ⟨b,hb⟩:=ih (p+12) Yy0 Yy0
        exact ⟨b,st (Ev.congr (fun k=>if_pos rfl) (Ev.two (Ev.is fun _=>hb2) (Ev.congr (fun k=>if_pos rfl) hb)))⟩
     | false=>
      obtain ⟨b2,hb2⟩:=low_f n
      have st:∀ {b},Ev (fun k=>if b2=true then (some false) else (spec_Paired.l0 k s ((p+6:Nat):Int))) b→Ev (fun k=>spec_Paired.l0 k s (p:Int)) b:=fun h=>
       Ev.step (fun k=>Yy79) (Ev.two hu (Ev.congr (fun k=>if_pos rfl) (Ev.two (Ev.is fun _=>hb1) (Ev.congr (fun k=>if_neg Bool.false_ne_true) (Ev.congr (fun k=>by rw [e6]) (Ev.two (Ev.is fun _=>hb2) h))))))
      cases b2 with
      | true=>exact ⟨false,st (Ev.congr (fun k=>if_pos rfl) (Ev.now _))⟩
      | false=>
       obtain ⟨b,hb⟩:=ih (p+6) Yy0 Yy0
       exact ⟨b,st (Ev.congr (fun k=>if_neg Bool.false_ne_true) hb)⟩
   ·
    obtain ⟨b,hb⟩:=ih (p+1) Yy0 Yy0
    exact ⟨b,Ev.step (fun k=>by rw [spec_Paired.l0,if_pos Yy0,if_pos Yy0,if_neg h92,e1]) hb⟩
  ·
   exact ⟨true,Ev.step (f:=fun _=>some true) (fun k=>by rw [spec_Paired.l0,if_neg Yy0]) (Ev.now _)⟩
theorem paired_ev {s:ByteArray} (hn:s.size≤65536):∃ b,Ev (fun k=>spec_Paired.f k s) b:=paired_l hn _ 0 (nlr _) Yy0
theorem es_len {s:ByteArray}:∀ (es:Es) (p j:Nat),es.wf s p j→es.l.length+p≤j
 | .nil,_,_,h=>absurd h Yy21
 | .cons t r,p,j,h=>by
  obtain ⟨h1,h2,q,h3,h4⟩:=h
  have hl:=T.wf_lt t h1
  have hq:=h3.1
  have e:(Es.cons t r).l.length=r.l.length+1:=by simp [Es.l]
  rcases h4 with ⟨_,rfl,h5⟩ | ⟨_,p',h5,h6⟩
  ·
   rw [e];simp [Es.l];omega
  ·
   have:=es_len r p' j h6
   have:=h5.1
   rw [e];omega
theorem ms_len {s:ByteArray}:∀ (ms:Ms) (p j:Nat),ms.wf s p j→ms.l.length+p≤j∧ms.names.length+p≤j
 | .nil,_,_,h=>absurd h Yy19
 | .cons ni nj t r,p,j,h=>by
  obtain ⟨h0,hst,c,hc1,_,v,hv1,h1,h2,q,h3,h4⟩:=h
  have hl:=T.wf_lt t h1
  have hq:=h3.1
  have g1:=hst.1.1
  have g2:=hc1.1
  have g3:=hv1.1
  have e:(Ms.cons ni nj t r).l.length=r.l.length+1:=by simp [Ms.l]
  have e':(Ms.cons ni nj t r).names.length=r.names.length+1:=by simp [Ms.names]
  rcases h4 with ⟨_,rfl,h5⟩ | ⟨_,p',h5,h6⟩
  ·
   rw [e,e'];simp [Ms.l,Ms.names];omega
  ·
   have:=ms_len r p' j h6
   have:=h5.1
   rw [e,e'];omega
end Go.Proofs.YtieflhncpjjciaaGreatDoor.Dc
namespace Go.Proofs.YtieflhncpjjciaaGreatDoor.PFnGjSquashItems
open Go Go.RowKit Go.Proofs.YtieflhncpjjciaaGreatDoorW.PrintWords Go.Proofs.YtieflhncpjjciaaGreatDoor.Dc
open Classical in
noncomputable def uq (s:ByteArray) (i j:Nat):ByteArray:=if h:∃ u,Ev (fun k=>spec_Unquote.f k (s.extract i j)) u then Classical.choose h else ⟨#[]⟩
theorem uq_ev {s:ByteArray} (hs:s.size≤65536) {i j:Nat} (h:StrTok s i j):Ev (fun k=>spec_Unquote.f k (s.extract i j)) (uq s i j):=by
 have hu:=unquote_ev hs h
 unfold uq
 rw [dif_pos hu]
 exact Classical.choose_spec hu
noncomputable def textOf (s:ByteArray) (kd:Int) (i j:Nat):ByteArray:=if kd=3 then s.extract i j else if kd=4 then uq s i j else ⟨#[]⟩
mutual
noncomputable def T.n (s:ByteArray):T→S26
 | .leaf kd i j=>⟨kd,textOf s kd i j,[],[]⟩
 | .arr _ _ es=>⟨5,⟨#[]⟩,[],es.n s⟩
 | .obj _ _ ms=>⟨6,⟨#[]⟩,ms.kn s,ms.n s⟩
noncomputable def Es.n (s:ByteArray):Es→List S26
 | .nil=>[]
 | .cons t r=>t.n s :: r.n s
noncomputable def Ms.n (s:ByteArray):Ms→List S26
 | .nil=>[]
 | .cons _ _ t r=>t.n s :: r.n s
noncomputable def Ms.kn (s:ByteArray):Ms→List ByteArray
 | .nil=>[]
 | .cons ni nj t r=>uq s ni nj :: r.kn s
end
def TN (s:ByteArray) (q:S47) (x:S26):Prop:=Ev (fun k=>spec_Tree.f k s q.f0 q.f1 q.f2 q.f3 q.f4) (x.f0,x.f1,x.f2,x.f3)
def SN (s:ByteArray) (x:S121) (u:ByteArray):Prop:=∃ ni nj:Nat,x.f0=(ni:Int)∧x.f1=(nj:Int)∧StrTok s ni nj∧u=uq s ni nj
theorem take_snoc {α:Type} {l:List α} {i:Nat} {a:α} (h:l[i]? = some a):l.take i ++ [a]=l.take (i+1):=by
 obtain ⟨h1,h2⟩:=List.getElem?_eq_some_iff.mp h
 rw [List.take_add_one,h]
 rfl
theorem rd47_get {xs:List S47} {i:Nat} (h:i<xs.length):xs[i]? = some (rd_T47 xs (i:Int)):=by
 unfold rd_T47
 rw [Int.toNat_natCast,List.getD_eq_getElem?_getD,List.getElem?_eq_getElem h]
 rfl
theorem rd121_get {xs:List S121} {i:Nat} (h:i<xs.length):xs[i]? = some (rd_T121 xs (i:Int)):=by
 unfold rd_T121
 rw [Int.toNat_natCast,List.getD_eq_getElem?_getD,List.getElem?_eq_getElem h]
 rfl
theorem tn_l1 {s:ByteArray} {kids:List S47} {ns:List S26} (hk:kids.length≤65536) (H:Two (TN s) kids ns) (a b c:Int) (nm:List S121) (kd:Int) (tx:ByteArray) (ks:List ByteArray):∀ m i,kids.length - i=m→i≤kids.length→Ev (fun k=>spec_Tree.l1 k s (i:Int) a b c nm kids kd tx ks (ns.take i)) (kd,tx,ks,ns):=by
 have hlen:=H.len
 intro m
 induction m with
 | zero=>
  intro i hm hi
  rw [List.take_of_length_le Yy0]
  exact Ev.step (f:=fun _=>some (kd,tx,ks,ns)) (fun k=>by rw [spec_Tree.l1,if_neg Yy0]) (Ev.now _)
 | succ m ih=>
  intro i hm hi
  obtain ⟨x,hx,hr⟩:=H.get i _ (rd47_get (xs:=kids) (i:=i) Yy0)
  have hz:=ih (i+1) Yy0 Yy0
  rw [← take_snoc hx] at hz
  obtain ⟨x0,x1,x2,x3⟩:=x
  refine Ev.step (fun k=>by rw [spec_Tree.l1,if_pos Yy0,if_pos Yy0]) (Ev.two hr (Ev.congr (fun k=>?_) hz))
  rw [if_pos Yy45,w64 Yy0 Yy0]
  rfl
theorem tn_l0 {s:ByteArray} (hs:s.size≤65536) {kids:List S47} {ns:List S26} (hk:kids.length≤65536) (H:Two (TN s) kids ns) {nm:List S121} {ks:List ByteArray} (hn:nm.length≤65536) (HN:Two (SN s) nm ks) (a b c:Int) (kd:Int) (tx:ByteArray):∀ m i,nm.length - i=m→i≤nm.length→Ev (fun k=>spec_Tree.l0 k s (i:Int) a b c nm kids kd tx (ks.take i)) (kd,tx,ks,ns):=by
 have hlen:=HN.len
 intro m
 induction m with
 | zero=>
  intro i hm hi
  have hz:=tn_l1 hk H a b c nm kd tx ks _ 0 rfl (Nat.zero_le _)
  rw [List.take_of_length_le Yy0]
  exact Ev.step (fun k=>by rw [spec_Tree.l0,if_neg Yy0];rfl) hz
 | succ m ih=>
  intro i hm hi
  obtain ⟨u,hx,ni,nj,e1,e2,ht,hu⟩:=HN.get i _ (rd121_get (xs:=nm) (i:=i) Yy0)
  have t1:=ht.1.1
  have t2:=ht.1.2.1
  have hq:=uq_ev hs ht
  rw [← hu] at hq
  have hz:=ih (i+1) Yy0 Yy0
  rw [← take_snoc hx] at hz
  refine Ev.step (fun k=>by rw [spec_Tree.l0,if_pos Yy0,if_pos Yy0,e1,e2,if_pos Yy0,if_pos Yy0,if_pos Yy0,Int.toNat_natCast,Int.toNat_natCast]) (Ev.two hq (Ev.congr (fun k=>?_) hz))
  rw [if_pos Yy45,w64 Yy0 Yy0]
  rfl
theorem tn_j0 {s:ByteArray} (hs:s.size≤65536) {kids:List S47} {ns:List S26} (hk:kids.length≤65536) (H:Two (TN s) kids ns) {nm:List S121} {ks:List ByteArray} (hn:nm.length≤65536) (HN:Two (SN s) nm ks) (a b c:Int) (kd:Int) (tx:ByteArray):Ev (fun k=>spec_Tree.j0 k s a b c nm kids kd tx) (kd,tx,ks,ns):=by
 have hz:=tn_l0 hs hk H hn HN a b c kd tx _ 0 rfl (Nat.zero_le _)
 exact Ev.step (fun k=>by rw [spec_Tree.j0];rfl) hz
theorem tn_f {s:ByteArray} (hs:s.size≤65536) {kids:List S47} {ns:List S26} (hk:kids.length≤65536) (H:Two (TN s) kids ns) {nm:List S121} {ks:List ByteArray} (hn:nm.length≤65536) (HN:Two (SN s) nm ks) (kd:Int) (i j:Nat) (hij:i≤j) (hj:j≤s.size) (hst:kd=4→StrTok s i j):TN s ⟨kd,(i:Int),(j:Int),nm,kids⟩ ⟨kd,textOf s kd i j,ks,ns⟩:=by
 unfold TN textOf
 simp only
 by_cases a3:kd=3
 ·
  rw [if_pos a3]
  exact Ev.step (fun k=>by rw [spec_Tree.f,if_pos a3,if_pos Yy0,if_pos Yy0,if_pos Yy0,Int.toNat_natCast,Int.toNat_natCast]) (tn_j0 hs hk H hn HN kd i j kd (s.extract i j))
 rw [if_neg a3]
 by_cases a4:kd=4
 ·
  rw [if_pos a4]
  exact Ev.step (fun k=>by rw [spec_Tree.f,if_neg a3,if_pos a4,if_pos Yy0,if_pos Yy0,if_pos Yy0,Int.toNat_natCast,Int.toNat_natCast]) (Ev.two (uq_ev hs (hst a4)) (tn_j0 hs hk H hn HN kd i j kd (uq s i j)))
 rw [if_neg a4]
 exact Ev.step (fun k=>by rw [spec_Tree.f,if_neg a3,if_neg a4]) (tn_j0 hs hk H hn HN kd i j kd ⟨#[]⟩)
mutual
theorem tn_t {s:ByteArray} (hs:s.size≤65536):∀ t:T,t.wf s→TN s t.s (t.n s)
 | .leaf kd i j,h=>by
  have hv:=wf_vk h
  rw [T.n]
  refine tn_f hs (Nat.zero_le _) .nil (Nat.zero_le _) .nil kd i j (Nat.le_of_lt hv.1) hv.2.1 (fun h4=>?_)
  have h4':(T.leaf kd i j).s.1=4:=h4
  rcases hv.2.2 with ⟨_,b⟩ | ⟨a,_⟩ | ⟨⟨a,_⟩ | ⟨a,_⟩ | ⟨a,_⟩,_⟩ | ⟨⟨a,_⟩ | ⟨a,_⟩,_⟩
  ·
   exact b
  all_goals (rw [h4'] at a;exact absurd a Yy3)
 | .arr i j es,h=>by
  have hv:=wf_vk h
  have h1:=hv.1
  have h2:=hv.2.1
  rw [T.n]
  obtain ⟨_,_,p,hb,hd⟩:=h
  rcases hd with ⟨_,_,rfl⟩ | hw
  ·
   rw [Es.n]
   exact tn_f hs (Nat.zero_le _) .nil (Nat.zero_le _) .nil 5 i j (Nat.le_of_lt h1) h2 (fun h4=>by cases h4)
  ·
   have hl:=es_len es p j hw
   have h2':j≤s.size:=h2
   exact tn_f hs Yy0 (tn_es hs es p j hw) (Nat.zero_le _) .nil 5 i j (Nat.le_of_lt h1) h2 (fun h4=>by cases h4)
 | .obj i j ms,h=>by
  have hv:=wf_vk h
  have h1:=hv.1
  have h2:=hv.2.1
  rw [T.n]
  obtain ⟨_,_,p,hb,hd⟩:=h
  rcases hd with ⟨_,_,rfl⟩ | hw
  ·
   rw [Ms.n,Ms.kn]
   exact tn_f hs (Nat.zero_le _) .nil (Nat.zero_le _) .nil 6 i j (Nat.le_of_lt h1) h2 (fun h4=>by cases h4)
  ·
   have hl:=ms_len ms p j hw
   have h2':j≤s.size:=h2
   exact tn_f hs Yy0 (tn_ms hs ms p j hw).1 Yy0 (tn_ms hs ms p j hw).2 6 i j (Nat.le_of_lt h1) h2 (fun h4=>by cases h4)
theorem tn_es {s:ByteArray} (hs:s.size≤65536):∀ (es:Es) (p j:Nat),es.wf s p j→Two (TN s) es.l (es.n s)
 | .nil,_,_,h=>absurd h Yy21
 | .cons t r,p,j,h=>by
  obtain ⟨h1,h2,q,h3,h4⟩:=h
  rw [Es.n]
  refine .cons (tn_t hs t h1) ?_
  rcases h4 with ⟨_,rfl,_⟩ | ⟨_,p',_,h6⟩
  ·
   rw [Es.n];exact .nil
  ·
   exact tn_es hs r p' j h6
theorem tn_ms {s:ByteArray} (hs:s.size≤65536):∀ (ms:Ms) (p j:Nat),ms.wf s p j→Two (TN s) ms.l (ms.n s)∧Two (SN s) ms.names (ms.kn s)
 | .nil,_,_,h=>absurd h Yy19
 | .cons ni nj t r,p,j,h=>by
  obtain ⟨h0,hst,c,hc1,_,v,hv1,h1,h2,q,h3,h4⟩:=h
  rw [Ms.n,Ms.kn]
  have tail:Two (TN s) r.l (r.n s)∧Two (SN s) r.names (r.kn s):=by
   rcases h4 with ⟨_,rfl,_⟩ | ⟨_,p',_,h6⟩
   ·
    rw [Ms.n,Ms.kn];exact ⟨.nil,.nil⟩
   ·
    exact tn_ms hs r p' j h6
  exact ⟨.cons (tn_t hs t h1) tail.1,.cons ⟨ni,nj,rfl,rfl,hst,rfl⟩ tail.2⟩
end
theorem T.n_kind (s:ByteArray) (t:T):(t.n s).f0=t.s.1:=by cases t <;> (rw [T.n];rfl)
def GjT2 (s:ByteArray) (r1:Int) (r2:ByteArray) (r3:List ByteArray) (r4:List S26) (ok:Bool):Prop:=ok=true→s.size≤65536∧Ev (fun k=>spec_Paired.f k s) true∧∃ t:T,t.wf s∧(⟨r1,r2,r3,r4⟩:S26)=t.n s∧Blk s 0 t.i∧Blk s t.j s.size∧Ev (fun k=>spec_Places.f k s) (t.s.1,t.s.2,t.s.3,t.s.4,t.s.5,true)
theorem gjtext_ev2 (s:ByteArray):∃ r1 r2 r3 r4 ok,Ev (fun k=>laws_gjText.f k s) (r1,r2,r3,r4,ok)∧GjT2 s r1 r2 r3 r4 ok:=by
 have no:∀ {g:Nat→Option (Int×ByteArray×List ByteArray×List S26×Bool)},Ev g (0,(⟨#[]⟩:ByteArray),([]:List ByteArray),([]:List S26),false)→∃ r1 r2 r3 r4 ok,Ev g (r1,r2,r3,r4,ok)∧GjT2 s r1 r2 r3 r4 ok:=fun h=>⟨_,_,_,_,_,h,(fun h=>Yy15)⟩
 by_cases hs:(s.size:Int) > 65536
 ·
  exact no (Ev.is fun k=>by rw [laws_gjText.f,if_pos hs])
 have hn:s.size≤65536:=Yy0
 obtain ⟨b1,hb1⟩:=utf8_ev hn
 obtain ⟨b2,hb2⟩:=paired_ev hn
 have st:∀ {r},Ev (fun k=>if b1=true then ((spec_Paired.f k s).bind fun t396=>(if t396=true then ((spec_Read.f k s).bind fun bt397=>(some (bt397.1,bt397.2.1,bt397.2.2.1,bt397.2.2.2.1,bt397.2.2.2.2))) else (some (0,(⟨#[]⟩:ByteArray),([]:List ByteArray),([]:List (S26)),false)))) else (some (0,(⟨#[]⟩:ByteArray),([]:List ByteArray),([]:List (S26)),false))) r→Ev (fun k=>laws_gjText.f k s) r:=fun h=>Ev.congr (fun k=>by rw [laws_gjText.f,if_neg hs]) (Ev.two hb1 h)
 cases b1 with
 | false=>exact no (st (Ev.congr (fun k=>if_neg Bool.false_ne_true) (Ev.now _)))
 | true=>
  cases b2 with
  | false=>exact no (st (Ev.congr (fun k=>if_pos rfl) (Ev.two hb2 (Ev.congr (fun k=>if_neg Bool.false_ne_true) (Ev.now _)))))
  | true=>
   obtain ⟨kd,b,e,nm,kids,ok,hp,hok⟩:=places_ev hn
   have st2:∀ {r:Int×ByteArray×List ByteArray×List S26×Bool},Ev (fun k=>spec_Read.f k s) r→Ev (fun k=>laws_gjText.f k s) r:=fun {r} h=>st (Ev.congr (fun k=>if_pos rfl) (Ev.two hb2 (Ev.congr (fun k=>if_pos rfl) (Ev.two h (Ev.now _)))))
   cases ok with
   | false=>exact no (st2 (Ev.congr (fun k=>by rw [spec_Read.f]) (Ev.two hp (Ev.congr (fun k=>if_neg Bool.false_ne_true) (Ev.now _)))))
   | true=>
    obtain ⟨t,hw,hts,hb0,hbj⟩:=hok rfl
    have hr:=tn_t hn t hw
    have hr':Ev (fun k=>spec_Tree.f k s kd b e nm kids) ((t.n s).f0,(t.n s).f1,(t.n s).f2,(t.n s).f3):=by unfold TN at hr;rw [hts] at hr;exact hr
    refine ⟨_,_,_,_,true,st2 (Ev.congr (fun k=>by rw [spec_Read.f]) (Ev.two hp (Ev.congr (fun k=>if_pos rfl) (Ev.two hr' (Ev.now _))))),fun _=>⟨hn,hb2,t,hw,by show (⟨(t.n s).f0,(t.n s).f1,(t.n s).f2,(t.n s).f3⟩:S26)=t.n s;cases t.n s;rfl,hb0,hbj,?_⟩⟩
    rw [hts]
    exact hp
end Go.Proofs.YtieflhncpjjciaaGreatDoor.PFnGjSquashItems
