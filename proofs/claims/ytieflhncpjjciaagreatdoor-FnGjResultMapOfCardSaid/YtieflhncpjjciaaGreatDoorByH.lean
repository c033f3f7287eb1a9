/- Walks and plain laws of this claim. -/
import Derived.Test.YtieflhncpjjciaaGreatDoorByG
import Derived.Test.YtieflhncpjjciaaGreatDoorByE
import Derived.Test.YtieflhncpjjciaaGreatDoorByD
import Derived.Test.YtieflhncpjjciaaGreatDoorByN
import Derived.Test.YtieflhncpjjciaaGreatDoorByA
set_option linter.unusedVariables false
set_option linter.unusedSimpArgs false
namespace Go.Proofs.YtieflhncpjjciaaGreatDoor.PFnGjSquashItems
open Go Go.RowKit Go.Proofs.YtieflhncpjjciaaGreatDoorW.PrintWords Go.Proofs.YtieflhncpjjciaaGreatDoor.Dc
structure Win (s u:ByteArray) (i o n:Nat):Prop where
 b:∀ k,k<n→bt u ((o+k:Nat):Int)=bt s ((i+k:Nat):Int)
 zs:i+n≤s.size
 zu:o+n≤u.size
theorem Win.sub {s u:ByteArray} {i o n:Nat} (h:Win s u i o n) (a m:Nat) (ha:a+m≤n):Win s u (i+a) (o+a) m:=
 ⟨fun k hk=>by have:=h.b (a+k) Yy0;rwa [← Nat.add_assoc,← Nat.add_assoc] at this,by have:=h.zs;omega,by have:=h.zu;omega⟩
theorem Win.at {s u:ByteArray} {i o n:Nat} (h:Win s u i o n) {x:Nat} (h1:i≤x) (h2:x<i+n):bt u ((o+(x - i):Nat):Int)=bt s (x:Int):=by
 have:=h.b (x - i) Yy0
 rwa [show i+(x - i)=x from Yy0] at this
theorem Win.odd {s u:ByteArray} {i o n:Nat} (h:Win s u i o n):∀ p,p≤n→PFnGjSquashItems.odd u o (o+p)=PFnGjSquashItems.odd s i (i+p):=by
 have z:∀ (s:ByteArray) (i:Nat),PFnGjSquashItems.odd s i (i+0)=false:=fun s i=>by
  cases i with
  | zero=>rfl
  | succ i=>show PFnGjSquashItems.odd s (i+1) (i+1)=false;rw [PFnGjSquashItems.odd,if_neg Yy0]
 intro p
 induction p with
 | zero=>intro _;rw [z,z]
 | succ p ih=>
  intro hp
  show PFnGjSquashItems.odd u o (o+p+1)=PFnGjSquashItems.odd s i (i+p+1)
  rw [PFnGjSquashItems.odd,PFnGjSquashItems.odd,ih Yy0,h.b p Yy0]
  by_cases hc:i<i+p∧bt s ((i+p:Nat):Int)=92
  ·
   rw [if_pos hc,if_pos ⟨Yy0,hc.2⟩]
  ·
   rw [if_neg hc,if_neg (fun h2=>hc ⟨Yy0,h2.2⟩)]
theorem Win.tk {s u:ByteArray} {i o n E:Nat} (h:Win s u i o n) (hE:E≤i+n):∀ x,Tk s E x→i≤x→Tk u (o+(E - i)) (o+(x - i)):=by
 intro x k
 induction k with
 | nil=>intro _;exact .nil
 | @plain x hi c32 c34 c92 r ih=>
  intro ho
  have hb:=h.at ho Yy0
  have:=ih Yy0
  exact .plain Yy0 (by rw [hb];exact c32) (by rw [hb];exact c34) (by rw [hb];exact c92) (by rw [show o+(x - i)+1=o+(x+1 - i) from Yy0];exact this)
 | @esc x j h92 hj hje r ih=>
  intro ho
  have hij:x+1<j:=Yy64
  have hjE:j≤E:=hje
  have:=ih Yy0
  refine .esc (j:=o+(j - i)) (by rw [h.at ho Yy0];exact h92) ?_ Yy0 this
  have e1:o+(x - i)+1=o+(x+1 - i):=Yy0
  rcases hj with ⟨a1,a2⟩ | ⟨a1,a2,a3⟩
  ·
   exact Or.inl ⟨Yy0,by rw [e1,h.at Yy0 Yy0];exact a2⟩
  ·
   refine Or.inr ⟨Yy0,by rw [e1,h.at Yy0 Yy0];exact a2,fun q q1 q2=>?_⟩
   have:=h.at (x:=i+(q - o)) Yy0 Yy0
   rw [show o+(i+(q - o) - i)=q from Yy0] at this
   rw [this]
   exact a3 _ Yy0 Yy0
theorem Win.str0 {s u:ByteArray} {i o n:Nat} (h:Win s u i o n) (k:StrTok0 s i (i+n)):StrTok0 u o (o+n):=by
 obtain ⟨h1,h2,h3,h4,h5,h6⟩:=k
 have g0:=h.b 0 Yy0
 have g1:=h.b (n - 1) Yy0
 rw [Nat.add_zero,Nat.add_zero] at g0
 have e:o+n - 1=o+(n - 1):=Yy0
 have e':i+n - 1=i+(n - 1):=Yy0
 rw [e'] at h4 h5 h6
 refine ⟨Yy0,h.zu,by rw [g0];exact h3,by rw [e,g1];exact h4,by rw [e,h.odd _ Yy0];exact h5,fun q q1 q2 q3=>?_⟩
 obtain ⟨k,rfl⟩:∃ k,q=o+k:=⟨q - o,Yy0⟩
 rw [h.odd k Yy0]
 exact h6 (i+k) Yy0 Yy0 (by rw [← h.b k Yy0];exact q3)
theorem Win.str {s u:ByteArray} {i o n:Nat} (h:Win s u i o n) (k:StrTok s i (i+n)):StrTok u o (o+n):=by
 have h1:=k.1.1
 refine ⟨h.str0 k.1,?_⟩
 have:=h.tk (E:=i+n - 1) Yy0 _ k.2 Yy0
 rwa [show o+(i+n - 1 - i)=o+n - 1 from Yy0,show o+(i+1 - i)=o+1 from Yy0] at this
theorem Win.ext {s u:ByteArray} {i o n:Nat} (h:Win s u i o n):u.extract o (o+n)=s.extract i (i+n):=by
 have zs:=h.zs
 have zu:=h.zu
 have z1:(u.extract o (o+n)).size=n:=Yy13
 have z2:(s.extract i (i+n)).size=n:=Yy13
 refine ByteArray.ext (Array.ext (by show ByteArray.size _=ByteArray.size _;rw [z1,z2]) fun k h1 h2=>?_)
 have h1':k<(u.extract o (o+n)).size:=h1
 have h2':k<(s.extract i (i+n)).size:=h2
 show (u.extract o (o+n))[k]=(s.extract i (i+n))[k]
 have e1:=bt_ext (s:=u) (i:=o) (j:=o+n) zu h1'
 have e2:=bt_ext (s:=s) (i:=i) (j:=i+n) zs h2'
 have e3:=h.b k Yy0
 have e4:(((u.extract o (o+n))[k]).toNat:Int)=(((s.extract i (i+n))[k]).toNat:Int):=by rw [e1,e2,e3]
 exact UInt8.toNat_inj.mp (Int.ofNat_inj.mp e4)
theorem Win.word {s u w:ByteArray} {i o n:Nat} (h:Win s u i o n) (hn:n=w.size) (k:IsWord s i w):IsWord u o w:=by
 subst hn
 refine ⟨h.zu,?_⟩
 rw [h.ext]
 exact k.2
open Go.RowKit Go.Proofs.YtieflhncpjjciaaGreatDoorW.PrintWords
theorem ev_uniq {α:Type} {g:Nat→Option α} {a b:α} (h:Ev g a) (k:Ev g b):a=b:=by
 obtain ⟨n,hn⟩:=h
 obtain ⟨m,hm⟩:=k
 exact Option.some.inj ((hn (n+m) (Nat.le_add_right _ _)).symm.trans (hm (n+m) (Nat.le_add_left _ _)))
structure Wd (s v:ByteArray) (o e:Nat):Prop where
 oe:o≤e
 es:e≤s.size
 sz:v.size=e - o
 b:∀ q,o≤q→q<e→bt v ((q - o:Nat):Int)=bt s (q:Int)
 hs:s.size≤65536
theorem Wd.vs {s v:ByteArray} {o e:Nat} (h:Wd s v o e):v.size≤65536:=by have:=h.sz;have:=h.es;have:=h.hs;omega
theorem Wd.of {s:ByteArray} (hs:s.size≤65536) {o e:Nat} (h:o≤e) (k:e≤s.size):Wd s (s.extract o e) o e:=by
 refine ⟨h,k,Yy13,fun q h1 h2=>?_,hs⟩
 rw [bt_at Yy13,bt_at Yy0,ByteArray.getElem_extract]
 congr 2
 simp only [show o+(q - o)=q from Yy0]
def NT (s v:ByteArray) (o e i:Nat) (g g':Nat→Option (Bool×ByteArray×Int)):Prop:=∃ ok j,Ev g (ok,s,((j:Nat):Int))∧i≤j∧(j≤e→Ev g' (ok,v,((j - o:Nat):Int)))
section
variable {s v:ByteArray} {o e:Nat}
theorem NT.step {i:Nat} {g f g' f':Nat→Option (Bool×ByteArray×Int)} (h:∀ k,g (k+1)=f k) (h':∀ k,g' (k+1)=f' k) (k:NT s v o e i f f'):NT s v o e i g g':=by
 obtain ⟨ok,j,h1,h2,h3⟩:=k
 exact ⟨ok,j,Ev.step h h1,h2,fun hj=>Ev.step h' (h3 hj)⟩
theorem NT.congr {i:Nat} {g f g' f':Nat→Option (Bool×ByteArray×Int)} (h:∀ k,g k=f k) (h':∀ k,g' k=f' k) (k:NT s v o e i f f'):NT s v o e i g g':=by
 obtain ⟨ok,j,h1,h2,h3⟩:=k
 exact ⟨ok,j,Ev.congr h h1,h2,fun hj=>Ev.congr h' (h3 hj)⟩
theorem NT.now {i:Nat} (ok:Bool):NT s v o e i (fun _=>some (ok,s,(i:Int))) (fun _=>some (ok,v,((i - o:Nat):Int))):=⟨ok,i,Ev.now _,nlr _,fun _=>Ev.now _⟩
theorem NT.take (W:Wd s v o e) {i:Nat} (hi:o≤i) (his:i≤s.size) (c:Int) (hc:numOK c) {f f':Nat→Bool×ByteArray×Int→Option (Bool×ByteArray×Int)}
  (h:∀ ok j,i≤j→j≤s.size→(ok=true→i<j)→NT s v o e j (fun k=>f k (ok,s,(j:Int))) (fun k=>f' k (ok,v,((j - o:Nat):Int)))):NT s v o e i (fun k=>(spec_reader_take.f s (i:Int) c).bind (f k)) (fun k=>(spec_reader_take.f v ((i - o:Nat):Int) c).bind (f' k)):=by
 have c0:c≠0:=Yy62
 by_cases hb:bt s (i:Int)=c
 ·
  have hlt:i<s.size:=bt_in hb c0
  obtain ⟨ok,j,h1,h2,h3⟩:=h true (i+1) Yy0 hlt (fun _=>Yy0)
  refine ⟨ok,j,Ev.congr (fun k=>?_) h1,Yy0,fun hj=>Ev.congr (fun k=>?_) (h3 hj)⟩
  ·
   simp only [take_f W.hs i c c0,if_pos hb,Option.bind_some]
  ·
   have h9:bt v ((i - o:Nat):Int)=c:=by rw [W.b i hi Yy0];exact hb
   simp only [take_f W.vs (i - o) c c0,if_pos h9,Option.bind_some,show i - o+1=i+1 - o from Yy0]
 ·
  obtain ⟨ok,j,h1,h2,h3⟩:=h false i (nlr _) his (fun h=>Yy15)
  refine ⟨ok,j,Ev.congr (fun k=>?_) h1,h2,fun hj=>Ev.congr (fun k=>?_) (h3 hj)⟩
  ·
   simp only [take_f W.hs i c c0,if_neg hb,Option.bind_some]
  ·
   have h9:¬ bt v ((i - o:Nat):Int)=c:=by
    rcases Nat.lt_or_ge i e with h8 | h8
    ·
     rw [W.b i hi h8];exact hb
    ·
     rw [bt_out v (i - o) (by rw [W.sz];omega)];exact fun h=>c0 h.symm
   simp only [take_f W.vs (i - o) c c0,if_neg h9,Option.bind_some]
theorem digitsl_nt (W:Wd s v o e) (b:Nat) (hob:o≤b):∀ m i,s.size - i≤m→i≤s.size→b≤i→∃ j,Ev (fun k=>spec_reader_digits.l0 k (b:Int) (bt s (i:Int)) s (i:Int)) (decide (b<j),s,((j:Nat):Int))∧i≤j∧j≤s.size∧(j≤e→Ev (fun k=>spec_reader_digits.l0 k ((b - o:Nat):Int) (bt v ((i - o:Nat):Int)) v ((i - o:Nat):Int)) (decide (b<j),v,((j - o:Nat):Int))):=by
 intro m
 induction m with
 | zero=>
  intro i hm hi hb
  refine ⟨i,Ev.step (f:=fun _=>some (decide (b<i),s,(i:Int))) (fun k=>?_) (Ev.now _),nlr _,hi,fun hj=>Ev.step (f:=fun _=>some (decide (b<i),v,((i - o:Nat):Int))) (fun k=>?_) (Ev.now _)⟩
  ·
   rw [spec_reader_digits.l0,bt_out s i Yy0,if_neg Yy0]
   simp only [gt_iff_lt,Int.ofNat_lt]
  ·
   rw [spec_reader_digits.l0,bt_out v (i - o) (by have:=W.sz;have:=W.es;omega),if_neg Yy0]
   simp only [gt_iff_lt,Int.ofNat_lt,show (b - o<i - o)=(b<i) by simp only [eq_iff_iff];omega]
 | succ m ih=>
  intro i hm hi hb
  by_cases hd:48≤bt s (i:Int)∧bt s (i:Int)≤57
  ·
   have hlt:i<s.size:=bt_in rfl Yy0
   obtain ⟨j,h1,h2,h3,h4⟩:=ih (i+1) Yy0 hlt Yy0
   have hs:=W.hs
   refine ⟨j,Ev.step (f:=fun k=>spec_reader_digits.l0 k (b:Int) (bt s ((i+1:Nat):Int)) s ((i+1:Nat):Int)) (fun k=>?_) h1,Yy0,h3,fun hj=>Ev.step (f:=fun k=>spec_reader_digits.l0 k ((b - o:Nat):Int) (bt v ((i+1 - o:Nat):Int)) v ((i+1 - o:Nat):Int)) (fun k=>?_) (h4 hj)⟩
   ·
    rw [spec_reader_digits.l0,if_pos hd.1,if_pos hd.2,w64 Yy0 Yy0,show (i:Int)+1=((i+1:Nat):Int) from rfl,here_f,Option.bind_some]
   ·
    have h9:=W.b i Yy0 Yy0
    rw [spec_reader_digits.l0,if_pos (by rw [h9];exact hd.1),if_pos (by rw [h9];exact hd.2),w64 Yy0 Yy0,show ((i - o:Nat):Int)+1=((i+1 - o:Nat):Int) from Yy0,here_f,Option.bind_some]
  ·
   refine ⟨i,Ev.step (f:=fun _=>some (decide (b<i),s,(i:Int))) (fun k=>?_) (Ev.now _),nlr _,hi,fun hj=>Ev.step (f:=fun _=>some (decide (b<i),v,((i - o:Nat):Int))) (fun k=>?_) (Ev.now _)⟩
   ·
    rw [spec_reader_digits.l0]
    by_cases h1:48≤bt s (i:Int)
    ·
     rw [if_pos h1,if_neg Yy0];simp only [gt_iff_lt,Int.ofNat_lt]
    ·
     rw [if_neg h1];simp only [gt_iff_lt,Int.ofNat_lt]
   ·
    have hdv:¬ (48≤bt v ((i - o:Nat):Int)∧bt v ((i - o:Nat):Int)≤57):=by
     rcases Nat.lt_or_ge i e with h8 | h8
     ·
      rw [W.b i Yy0 h8];exact hd
     ·
      rw [bt_out v (i - o) (by rw [W.sz];omega)];omega
    rw [spec_reader_digits.l0]
    have e9:(b - o<i - o)=(b<i):=by simp only [eq_iff_iff];omega
    by_cases h1:48≤bt v ((i - o:Nat):Int)
    ·
     rw [if_pos h1,if_neg Yy0];simp only [gt_iff_lt,Int.ofNat_lt,e9]
    ·
     rw [if_neg h1];simp only [gt_iff_lt,Int.ofNat_lt,e9]
theorem NT.digits (W:Wd s v o e) {i:Nat} (hi:o≤i) (his:i≤s.size) {f f':Nat→Bool×ByteArray×Int→Option (Bool×ByteArray×Int)}
  (h:∀ j,i≤j→j≤s.size→NT s v o e j (fun k=>f k (decide (i<j),s,(j:Int))) (fun k=>f' k (decide (i<j),v,((j - o:Nat):Int)))):NT s v o e i (fun k=>(spec_reader_digits.f k s (i:Int)).bind (f k)) (fun k=>(spec_reader_digits.f k v ((i - o:Nat):Int)).bind (f' k)):=by
 obtain ⟨j,h1,h2,h3,h4⟩:=digitsl_nt W i hi _ i (nlr _) his (nlr _)
 obtain ⟨ok,j2,k1,k2,k3⟩:=h j h2 h3
 refine ⟨ok,j2,Ev.bind (Ev.congr (fun k=>by rw [spec_reader_digits.f,here_f,Option.bind_some]) h1) k1,Yy0,fun hj=>Ev.bind (Ev.congr (fun k=>by rw [spec_reader_digits.f,here_f,Option.bind_some]) (h4 Yy0)) (k3 hj)⟩
theorem nt_j2 (W:Wd s v o e) (i:Nat) (hi:o≤i) (his:i≤s.size) (x:Bool):NT s v o e i (fun k=>spec_reader_number.j2 k x s (i:Int)) (fun k=>spec_reader_number.j2 k x v ((i - o:Nat):Int)):=by
 cases x with
 | false=>exact NT.step (fun k=>Yy85) (fun k=>Yy85) (NT.now true)
 | true=>
  refine NT.step (fun k=>Yy68) (fun k=>Yy68) (NT.take W hi his 43 Yy17 fun ok j h1 h2 _=>?_)
  cases ok with
  | true=>exact NT.digits W Yy0 h2 fun j2 h3 h4=>NT.now _
  | false=>exact NT.take W Yy0 h2 45 Yy17 fun ok j2 h3 h4 _=>NT.digits W Yy0 h4 fun j3 h5 h6=>NT.now _
theorem nt_j1 (W:Wd s v o e) (i:Nat) (hi:o≤i) (his:i≤s.size) (x:Bool):NT s v o e i (fun k=>spec_reader_number.j1 k x s (i:Int)) (fun k=>spec_reader_number.j1 k x v ((i - o:Nat):Int)):=by
 cases x with
 | true=>exact NT.step (fun k=>Yy69) (fun k=>Yy69) (NT.now false)
 | false=>
  refine NT.step (fun k=>Yy86) (fun k=>Yy86) (NT.take W hi his 101 Yy17 fun ok j h1 h2 _=>?_)
  cases ok with
  | true=>exact nt_j2 W j Yy0 h2 true
  | false=>exact NT.take W Yy0 h2 69 Yy17 fun ok j2 h3 h4 _=>nt_j2 W j2 Yy0 h4 ok
theorem nt_j0 (W:Wd s v o e) (i:Nat) (hi:o≤i) (his:i≤s.size) (x:Bool):NT s v o e i (fun k=>spec_reader_number.j0 k x s (i:Int)) (fun k=>spec_reader_number.j0 k x v ((i - o:Nat):Int)):=by
 cases x with
 | true=>exact NT.step (fun k=>Yy70) (fun k=>Yy70) (NT.now false)
 | false=>
  refine NT.step (fun k=>Yy87) (fun k=>Yy87) (NT.take W hi his 46 Yy17 fun ok j h1 h2 _=>?_)
  cases ok with
  | true=>exact NT.digits W Yy0 h2 fun j2 h3 h4=>nt_j1 W j2 Yy0 h4 _
  | false=>exact nt_j1 W j Yy0 h2 false
theorem nt_f (W:Wd s v o e) (i:Nat) (hi:o≤i) (his:i≤s.size):NT s v o e i (fun k=>spec_reader_number.f k s (i:Int)) (fun k=>spec_reader_number.f k v ((i - o:Nat):Int)):=by
 refine NT.congr (fun k=>by rw [spec_reader_number.f]) (fun k=>by rw [spec_reader_number.f]) (NT.take W hi his 45 Yy17 (f:=fun k r=>(spec_reader_take.f r.2.1 r.2.2 48).bind fun b=>if b.1=true then spec_reader_number.j0 k false b.2.1 b.2.2 else (spec_reader_digits.f k b.2.1 b.2.2).bind fun c=>spec_reader_number.j0 k (!c.1) c.2.1 c.2.2) (f':=fun k r=>(spec_reader_take.f r.2.1 r.2.2 48).bind fun b=>if b.1=true then spec_reader_number.j0 k false b.2.1 b.2.2 else (spec_reader_digits.f k b.2.1 b.2.2).bind fun c=>spec_reader_number.j0 k (!c.1) c.2.1 c.2.2) fun ok j h1 h2 _=>?_)
 refine NT.take W Yy0 h2 48 Yy17 fun ok2 j2 h3 h4 _=>?_
 cases ok2 with
 | true=>exact NT.congr (fun k=>by rw [if_pos rfl]) (fun k=>by rw [if_pos rfl]) (nt_j0 W j2 Yy0 h4 false)
 | false=>exact NT.congr (fun k=>by rw [if_neg Yy4]) (fun k=>by rw [if_neg Yy4]) (NT.digits W Yy0 h4 fun j3 h5 h6=>nt_j0 W j3 Yy0 h6 _)
theorem num_win (W:Wd s v o e) {i j:Nat} {ok:Bool} (hi:o≤i) (his:i≤s.size) (hj:j≤e) (h:Ev (fun k=>spec_reader_number.f k s (i:Int)) (ok,s,(j:Int))):Ev (fun k=>spec_reader_number.f k v ((i - o:Nat):Int)) (ok,v,((j - o:Nat):Int)):=by
 obtain ⟨ok2,j2,h1,h2,h3⟩:=nt_f W i hi his
 have e1:=ev_uniq h h1
 simp only [Prod.mk.injEq] at e1
 obtain ⟨rfl,_,e2⟩:=e1
 obtain rfl:j=j2:=Yy0
 exact h3 hj
end
mutual
def T.mv (o:Nat):T→T
 | .leaf kd i j=>.leaf kd (i - o) (j - o)
 | .arr i j es=>.arr (i - o) (j - o) (es.mv o)
 | .obj i j ms=>.obj (i - o) (j - o) (ms.mv o)
def Es.mv (o:Nat):Es→Es
 | .nil=>.nil
 | .cons t r=>.cons (t.mv o) (r.mv o)
def Ms.mv (o:Nat):Ms→Ms
 | .nil=>.nil
 | .cons ni nj t r=>.cons (ni - o) (nj - o) (t.mv o) (r.mv o)
end
theorem T.mv_i (o:Nat) (t:T):(t.mv o).i=t.i - o:=by cases t <;> (rw [T.mv];rfl)
theorem T.mv_j (o:Nat) (t:T):(t.mv o).j=t.j - o:=by cases t <;> (rw [T.mv];rfl)
section
variable {s v:ByteArray} {o e:Nat}
theorem Wd.win (W:Wd s v o e) {i j:Nat} (h1:o≤i) (h2:i≤j) (h3:j≤e):Win s v i (i - o) (j - i):=
 ⟨fun k hk=>by have:=W.b (i+k) Yy0 Yy0;rwa [show i+k - o=i - o+k from Yy0] at this,by have:=W.es;omega,by have:=W.sz;omega⟩
theorem Wd.at (W:Wd s v o e) {i:Nat} {c:Int} (h1:o≤i) (h2:i<e) (h:bt s (i:Int)=c):bt v ((i - o:Nat):Int)=c:=by rw [W.b i h1 h2];exact h
theorem Wd.blk (W:Wd s v o e) {i j:Nat} (h1:o≤i) (h3:j≤e) (h:Blk s i j):Blk v (i - o) (j - o):=by
 obtain ⟨a,b,c⟩:=h
 refine ⟨Yy0,by have:=W.sz;omega,fun q q1 q2=>?_⟩
 have:=W.b (q+o) Yy0 Yy0
 rw [Nat.add_sub_cancel] at this
 rw [this]
 exact c _ Yy0 Yy0
theorem Wd.str (W:Wd s v o e) {i j:Nat} (h1:o≤i) (h3:j≤e) (h:StrTok s i j):StrTok v (i - o) (j - o):=by
 have h2:=h.1.1
 have:=(W.win h1 (show i≤j from Yy0) h3).str (by rw [show i+(j - i)=j from Yy0];exact h)
 rwa [show i - o+(j - i)=j - o from Yy0] at this
theorem Wd.leaf (W:Wd s v o e) {kd:Int} {i j:Nat} (h1:o≤i) (hij:i<j) (h3:j≤e) (k:LeafOK s kd i j):LeafOK v kd (i - o) (j - o):=by
 have w:=W.win h1 (Nat.le_of_lt hij) h3
 have hes:=W.es
 rcases k with ⟨a,b⟩ | ⟨a,b,c,d⟩ | ⟨a,b,c⟩ | ⟨a,b,c⟩ | ⟨a,b,c⟩
 ·
  exact .inl ⟨a,W.str h1 h3 b⟩
 ·
  refine .inr (.inl ⟨a,?_,fun q h1 h2=>?_,num_win W h1 Yy0 h3 d⟩)
  ·
   rw [W.b i h1 Yy0];exact b
  ·
   have:=W.b (q+o) Yy0 Yy0
   rw [Nat.add_sub_cancel] at this
   rw [this]
   exact c _ Yy0 Yy0
 ·
  exact .inr (.inr (.inl ⟨a,Yy0,w.word (by show j - i=4;omega) c⟩))
 ·
  exact .inr (.inr (.inr (.inl ⟨a,Yy0,w.word (by show j - i=5;omega) c⟩)))
 ·
  exact .inr (.inr (.inr (.inr ⟨a,Yy0,w.word (by show j - i=4;omega) c⟩)))
mutual
theorem mv_wf (W:Wd s v o e):∀ t:T,t.wf s→o≤t.i→t.j≤e→(t.mv o).wf v
 | .leaf kd i j,h,h1,h2=>by
  rw [T.mv,T.wf]
  have g1:o≤i:=h1
  have g2:j≤e:=h2
  have g3:=h.1
  exact ⟨Yy0,by have:=W.sz;omega,W.leaf g1 h.1 g2 h.2.2⟩
 | .arr i j es,h,h1,h2=>by
  obtain ⟨a,b,p,c,d⟩:=h
  have g1:o≤i:=h1
  have g2:j≤e:=h2
  have g3:=c.1
  rw [T.mv,T.wf]
  rcases d with ⟨d1,d2,d3⟩ | d
  ·
   subst d3
   refine ⟨W.at g1 Yy0 a,Yy0,p - o,?_,.inl ⟨W.at Yy0 Yy0 d1,Yy0,by rw [Es.mv]⟩⟩
   rw [show i - o+1=i+1 - o from Yy0]
   exact W.blk Yy0 Yy0 c
  ·
   have hpj:p<j:=(es_sq es p j d).2.2.1
   refine ⟨W.at g1 Yy0 a,Yy0,p - o,?_,.inr (mv_es W es p j d Yy0 g2)⟩
   rw [show i - o+1=i+1 - o from Yy0]
   exact W.blk Yy0 Yy0 c
 | .obj i j ms,h,h1,h2=>by
  obtain ⟨a,b,p,c,d⟩:=h
  have g1:o≤i:=h1
  have g2:j≤e:=h2
  have g3:=c.1
  rw [T.mv,T.wf]
  rcases d with ⟨d1,d2,d3⟩ | d
  ·
   subst d3
   refine ⟨W.at g1 Yy0 a,Yy0,p - o,?_,.inl ⟨W.at Yy0 Yy0 d1,Yy0,by rw [Ms.mv]⟩⟩
   rw [show i - o+1=i+1 - o from Yy0]
   exact W.blk Yy0 Yy0 c
  ·
   have hpj:p<j:=(ms_sq ms p j d).2.2.1
   refine ⟨W.at g1 Yy0 a,Yy0,p - o,?_,.inr (mv_ms W ms p j d Yy0 g2)⟩
   rw [show i - o+1=i+1 - o from Yy0]
   exact W.blk Yy0 Yy0 c
theorem mv_es (W:Wd s v o e):∀ (es:Es) (p j:Nat),es.wf s p j→o≤p→j≤e→(es.mv o).wf v (p - o) (j - o)
 | .nil,p,j,h,_,_=>absurd h Yy21
 | .cons t r,p,j,h,h1,h2=>by
  obtain ⟨a,b,q,c,d⟩:=h
  have tij:=T.wf_lt t a
  have cq:=c.1
  rw [Es.mv,Es.wf]
  rcases d with ⟨d1,d2,d3⟩ | ⟨d1,p',d2,d3⟩
  ·
   subst d2
   refine ⟨mv_wf W t a Yy0 Yy0,by rw [T.mv_i,b],q - o,Yy89,.inl ⟨W.at Yy0 Yy0 d1,by rw [Es.mv],Yy0⟩⟩
  ·
   have hpj:p'<j:=(es_sq r p' j d3).2.2.1
   have:=d2.1
   refine ⟨mv_wf W t a Yy0 Yy0,by rw [T.mv_i,b],q - o,Yy89,.inr ⟨W.at Yy0 Yy0 d1,p' - o,?_,mv_es W r p' j d3 Yy0 h2⟩⟩
   rw [show q - o+1=q+1 - o from Yy0]
   exact W.blk Yy0 Yy0 d2
theorem mv_ms (W:Wd s v o e):∀ (ms:Ms) (p j:Nat),ms.wf s p j→o≤p→j≤e→(ms.mv o).wf v (p - o) (j - o)
 | .nil,p,j,h,_,_=>absurd h Yy19
 | .cons ni nj t r,p,j,h,h1,h2=>by
  obtain ⟨a0,a1,c0,a2,a3,v0,a4,a,b,q,c,d⟩:=h
  have tij:=T.wf_lt t a
  have cq:=c.1
  have s2:=a1.1.1
  have b2:=a2.1
  have b4:=a4.1
  rw [Ms.mv,Ms.wf]
  have hq:q<e:=by
   rcases d with ⟨d1,d2,d3⟩ | ⟨d1,p',d2,d3⟩
   ·
    omega
   ·
    have hpj:p'<j:=(ms_sq r p' j d3).2.2.1
    have:=d2.1
    omega
  refine ⟨Yy0,W.str Yy0 Yy0 a1,c0 - o,W.blk Yy0 Yy0 a2,W.at Yy0 Yy0 a3,v0 - o,?_,mv_wf W t a Yy0 Yy0,by rw [T.mv_i,b],q - o,Yy89,?_⟩
  ·
   rw [show c0 - o+1=c0+1 - o from Yy0]
   exact W.blk Yy0 Yy0 a4
  ·
   rcases d with ⟨d1,d2,d3⟩ | ⟨d1,p',d2,d3⟩
   ·
    subst d2
    exact .inl ⟨W.at Yy0 Yy0 d1,by rw [Ms.mv],Yy0⟩
   ·
    have hpj:p'<j:=(ms_sq r p' j d3).2.2.1
    have:=d2.1
    refine .inr ⟨W.at Yy0 Yy0 d1,p' - o,?_,mv_ms W r p' j d3 Yy0 h2⟩
    rw [show q - o+1=q+1 - o from Yy0]
    exact W.blk Yy0 Yy0 d2
end
end
end Go.Proofs.YtieflhncpjjciaaGreatDoor.PFnGjSquashItems
namespace Go.Proofs.YtieflhncpjjciaaGreatDoor.Dc
open Go Go.RowKit Go.Proofs.YtieflhncpjjciaaGreatDoorW.PrintWords Go.Proofs.YtieflhncpjjciaaGreatDoor.PFnGjSquashItems
theorem Ev.uniq {α:Type} {g:Nat→Option α} {a b:α} (h:Ev g a) (k:Ev g b):a=b:=by
 obtain ⟨K1,h1⟩:=h
 obtain ⟨K2,h2⟩:=k
 have e1:=h1 (max K1 K2) (Nat.le_max_left _ _)
 have e2:=h2 (max K1 K2) (Nat.le_max_right _ _)
 rw [e1] at e2
 exact Option.some.inj e2
theorem enc_sur {n:Int} (h:55296≤n) (k:n≤57343):Lib.encodeRuneZ n = [239,191,189]:=by
 unfold Lib.encodeRuneZ
 rw [if_neg Yy0,if_neg Yy0,if_neg Yy0,if_neg Yy0]
theorem enc_len (n:Int):(Lib.encodeRuneZ n).length≤4:=by
 unfold Lib.encodeRuneZ
 repeat' split
 all_goals simp
theorem high_v (n:Int):spec_high.f n=some (decide (55296≤n∧n≤56319)):=by
 unfold spec_high.f
 by_cases h:55296≤n
 ·
  rw [if_pos h];simp [h]
 ·
  rw [if_neg h];simp [h]
theorem low_v (n:Int):spec_low.f n=some (decide (56320≤n∧n≤57343)):=by
 unfold spec_low.f
 by_cases h:56320≤n
 ·
  rw [if_pos h];simp [h]
 ·
  rw [if_neg h];simp [h]
theorem app8_enc (l:List Int) (hl:l.length≤1000000) (n:Int) (h0:0≤n) (h1:n≤1114111):Ev (fun k=>spec_appendUTF8.f k l n) (l ++ Lib.encodeRuneZ n):=by
 have td:∀ k:Int,Int.tdiv n k=n / k:=fun k=>Int.tdiv_eq_ediv_of_nonneg h0
 have tm:∀ k:Int,Int.tmod n k=n % k:=fun k=>Int.tmod_eq_emod_of_nonneg h0
 by_cases a1:n<128
 ·
  rw [Lib.encodeRuneZ_one h0 Yy0]
  exact Ev.is (fun k=>by rw [spec_appendUTF8.f,if_pos a1,if_pos Yy0,Int.emod_eq_of_lt h0 Yy0])
 by_cases a2:n<2048
 ·
  rw [Lib.encodeRuneZ_two Yy0 Yy0]
  have e1:(wrap64 (192+(wrap64 (Int.tdiv n 64)))) % 256=192+n / 64:=by rw [td,w64 (x:=n / 64) Yy0 Yy0,w64 Yy0 Yy0];omega
  have e2:(wrap64 (128+(Int.tmod n 64))) % 256=128+n % 64:=by rw [tm,w64 Yy0 Yy0];omega
  exact Ev.is (fun k=>by rw [spec_appendUTF8.f,if_neg a1,if_pos a2];simp only [Option.bind_some];rw [if_pos Yy12,e1,e2])
 have j0t:Ev (fun k=>spec_appendUTF8.j0 k l n true) (l ++ [239,191,189]):=Ev.step (f:=fun _=>some (l ++ [239,191,189])) (fun k=>Yy93) (Ev.now _)
 by_cases a3:55296≤n∧n≤57343
 ·
  rw [enc_sur a3.1 a3.2]
  by_cases a4:n≤56319
  ·
   exact Ev.congr (fun k=>by rw [spec_appendUTF8.f,if_neg a1,if_neg a2,high_v,dtt ⟨a3.1,a4⟩];rfl) j0t
  ·
   exact Ev.congr (fun k=>by rw [spec_appendUTF8.f,if_neg a1,if_neg a2,high_v,dff Yy0];show (spec_low.f n).bind _=_;rw [low_v,dtt ⟨Yy0,a3.2⟩];rfl) j0t
 have go:∀ {r},Ev (fun k=>spec_appendUTF8.j0 k l n false) r→Ev (fun k=>spec_appendUTF8.f k l n) r:=fun h=>Ev.congr (fun k=>by rw [spec_appendUTF8.f,if_neg a1,if_neg a2,high_v,dff Yy0];show (spec_low.f n).bind _=_;rw [low_v,dff Yy0];rfl) h
 have e3:(wrap64 (128+(Int.tmod n 64))) % 256=128+n % 64:=by rw [tm,w64 Yy0 Yy0];omega
 have e2:(wrap64 (128+(Int.tmod (wrap64 (Int.tdiv n 64)) 64))) % 256=128+n / 64 % 64:=by
  rw [td,w64 (x:=n / 64) Yy0 Yy0,Int.tmod_eq_emod_of_nonneg Yy0,w64 Yy0 Yy0];omega
 by_cases a5:n<65536
 ·
  rw [Lib.encodeRuneZ_three Yy0]
  have e1:(wrap64 (224+(wrap64 (Int.tdiv n 4096)))) % 256=224+n / 4096:=by rw [td,w64 (x:=n / 4096) Yy0 Yy0,w64 Yy0 Yy0];omega
  exact go (Ev.step (f:=fun _=>some _) (fun k=>by rw [spec_appendUTF8.j0,if_neg Yy4,if_pos a5];simp only [Option.bind_some];rw [if_pos Yy12,e1,e2,e3]) (Ev.now _))
 ·
  have h4:Lib.encodeRuneZ n = [240+n / 262144,128+n / 4096 % 64,128+n / 64 % 64,128+n % 64]:=by
   unfold Lib.encodeRuneZ
   rw [if_neg Yy0,if_neg Yy0,if_neg Yy0,if_pos Yy0]
  rw [h4]
  have e0:(wrap64 (240+(wrap64 (Int.tdiv n 262144)))) % 256=240+n / 262144:=by rw [td,w64 (x:=n / 262144) Yy0 Yy0,w64 Yy0 Yy0];omega
  have e1:(wrap64 (128+(Int.tmod (wrap64 (Int.tdiv n 4096)) 64))) % 256=128+n / 4096 % 64:=by
   rw [td,w64 (x:=n / 4096) Yy0 Yy0,Int.tmod_eq_emod_of_nonneg Yy0,w64 Yy0 Yy0];omega
  exact go (Ev.step (f:=fun _=>some _) (fun k=>by rw [spec_appendUTF8.j0,if_neg Yy4,if_neg a5];simp only [Option.bind_some];rw [if_pos Yy12,e0,e1,e2,e3]) (Ev.now _))
inductive Pdd (s:ByteArray) (e:Nat):Nat→Prop
 | nil:Pdd s e e
 | plain {p:Nat} (h:p<e) (c:bt s (p:Int)≠92) (r:Pdd s e (p+1)):Pdd s e p
 | short {p:Nat} (h:p+2≤e) (c:bt s (p:Int)=92) (nu:¬ UEsc s p) (r:Pdd s e (p+2)):Pdd s e p
 | uni {p:Nat} (h:p+6≤e) (u:UEsc s p) (hn:¬ (55296≤hexN s (p+2) 4∧hexN s (p+2) 4≤57343)) (r:Pdd s e (p+6)):Pdd s e p
 | pair {p:Nat} (h:p+12≤e) (u:UEsc s p) (u2:UEsc s (p+6)) (hh:55296≤hexN s (p+2) 4∧hexN s (p+2) 4≤56319) (hl:56320≤hexN s (p+8) 4∧hexN s (p+8) 4≤57343) (r:Pdd s e (p+12)):Pdd s e p
def PdAt (s:ByteArray) (p:Nat):Prop:=Ev (fun k=>spec_Paired.l0 k s (p:Int)) true
theorem PdAt.plain {s:ByteArray} (hn:s.size≤65536) {p:Nat} (hp:p<s.size) (c:bt s (p:Int)≠92) (h:PdAt s p):PdAt s (p+1):=by
 obtain ⟨b,hb⟩:=paired_l hn _ (p+1) (nlr _) Yy0
 have e1:wrap64 ((p:Int)+1)=((p+1:Nat):Int):=Yy78
 have:Ev (fun k=>spec_Paired.l0 k s (p:Int)) b:=Ev.step (fun k=>by rw [spec_Paired.l0,if_pos Yy0,if_pos Yy0,if_neg c,e1]) hb
 rw [Ev.uniq this h] at hb
 exact hb
theorem pd_run {s:ByteArray} (hn:s.size≤65536) {e:Nat} (hes:e≤s.size) (he:bt s (e:Int)≠92):∀ m p,e - p≤m→p≤e→Tk s e p→PdAt s p→Pdd s e p∧PdAt s e:=by
 intro m
 induction m with
 | zero=>
  intro p hm hp _ h
  obtain rfl:p=e:=Yy0
  exact ⟨.nil,h⟩
 | succ m ih=>
  intro p hm hpe ht h
  rcases eol hpe with rfl | hlt
  ·
   exact ⟨.nil,h⟩
  have hp:p<s.size:=Yy0
  have e1:wrap64 ((p:Int)+1)=((p+1:Nat):Int):=Yy78
  have e2:wrap64 ((p:Int)+2)=((p+2:Nat):Int):=Yy78
  have e6:wrap64 ((p:Int)+6)=((p+6:Nat):Int):=Yy78
  have e12:wrap64 ((p:Int)+12)=((p+12:Nat):Int):=Yy78
  by_cases h92:bt s (p:Int)=92
  ·
   obtain ⟨j,hj,hje,hr⟩:=ht.inv92 hlt h92
   obtain ⟨n,ok,hu,hiff,hnv⟩:=unit_ev hn p Yy0
   cases ok with
   | false=>
    have nu:¬ UEsc s p:=fun hU=>by have:=hiff.mpr hU;cases this
    have hj2:j=p+2:=by
     rcases hj with ⟨rfl,_⟩ | ⟨rfl,h117,hx⟩
     ·
      rfl
     ·
      exact absurd ⟨Yy0,h92,h117,fun q hq=>hx (p+2+q) Yy0 Yy0⟩ nu
    subst hj2
    obtain ⟨b,hb⟩:=paired_l hn _ (p+2) (nlr _) Yy0
    have:Ev (fun k=>spec_Paired.l0 k s (p:Int)) b:=Ev.step (fun k=>Yy79) (Ev.two hu (Ev.congr (fun k=>if_neg Bool.false_ne_true) (Ev.congr (fun k=>by rw [e2]) hb)))
    rw [Ev.uniq this h] at hb
    obtain ⟨a1,a2⟩:=ih (p+2) Yy0 hje hr hb
    exact ⟨.short hje h92 nu a1,a2⟩
   | true=>
    have hU:=hiff.mp rfl
    have hv:=hnv rfl
    have hj6:j=p+6:=by
     rcases hj with ⟨rfl,hs⟩ | ⟨rfl,h117,hx⟩
     ·
      have:=hU.2.2.1;omega
     ·
      rfl
    subst hj6
    by_cases hh:55296≤n∧n≤56319
    ·
     obtain ⟨n2,ok2,hu2,hiff2,hnv2⟩:=unit_ev hn (p+6) Yy0
     have st:∀ {b},Ev (fun k=>if (n2,ok2).2=true then ((spec_low.f (n2,ok2).1).bind fun t392=>(if t392=true then (spec_Paired.l0 k s ((p+12:Nat):Int)) else (some false))) else (some false)) b→Ev (fun k=>spec_Paired.l0 k s (p:Int)) b:=fun h=>
      Ev.step (fun k=>Yy79) (Ev.two hu (Ev.congr (fun k=>if_pos rfl) (Ev.two (Ev.is fun _=>(high_v n).trans (by rw [dtt hh])) (Ev.congr (fun k=>if_pos rfl) (Ev.congr (fun k=>by rw [e6,e12]) (Ev.two hu2 h))))))
     cases ok2 with
     | false=>exact absurd (Ev.uniq h (st (Ev.congr (fun k=>if_neg Bool.false_ne_true) (Ev.now _)))) Yy3
     | true=>
      have hU2:=hiff2.mp rfl
      have hv2:=hnv2 rfl
      by_cases hl:56320≤n2∧n2≤57343
      ·
       obtain ⟨b,hb⟩:=paired_l hn _ (p+12) (nlr _) (by have:=hU2.1;omega)
       have:=st (Ev.congr (fun k=>if_pos rfl) (Ev.two (Ev.is fun _=>(low_v n2).trans (by rw [dtt hl])) (Ev.congr (fun k=>if_pos rfl) hb)))
       rw [Ev.uniq this h] at hb
       have hlt6:p+6<e:=by
        rcases eol hje with h6 | h6
        ·
         rw [← h6] at he;exact absurd hU2.2.1 he
        ·
         exact h6
       obtain ⟨j2,hj2,hje2,hr2⟩:=hr.inv92 hlt6 hU2.2.1
       have hj12:j2=p+12:=by
        rcases hj2 with ⟨rfl,hs⟩ | ⟨rfl,h117,hx⟩
        ·
         have:=hU2.2.2.1;omega
        ·
         rfl
       subst hj12
       obtain ⟨a1,a2⟩:=ih (p+12) Yy0 hje2 hr2 hb
       exact ⟨.pair hje2 hU hU2 (by rw [← hv];exact hh) (by rw [show p+8=p+6+2 from Yy0,← hv2];exact hl) a1,a2⟩
      ·
       exact absurd (Ev.uniq h (st (Ev.congr (fun k=>if_pos rfl) (Ev.two (Ev.is fun _=>(low_v n2).trans (by rw [dff hl])) (Ev.congr (fun k=>if_neg Bool.false_ne_true) (Ev.now _)))))) Yy3
    ·
     have st:∀ {b2:Bool} {b},spec_low.f n=some b2→Ev (fun k=>if b2=true then (some false) else (spec_Paired.l0 k s ((p+6:Nat):Int))) b→Ev (fun k=>spec_Paired.l0 k s (p:Int)) b:=fun hb2 h=>
      Ev.step (fun k=>Yy79) (Ev.two hu (Ev.congr (fun k=>if_pos rfl) (Ev.two (Ev.is fun _=>(high_v n).trans (by rw [dff hh])) (Ev.congr (fun k=>if_neg Bool.false_ne_true) (Ev.congr (fun k=>by rw [e6]) (Ev.two (Ev.is fun _=>hb2) h))))))
     by_cases hl:56320≤n∧n≤57343
     ·
      exact absurd (Ev.uniq h (st (b2:=true) ((low_v n).trans (by rw [dtt hl])) (Ev.congr (fun k=>if_pos rfl) (Ev.now _)))) Yy3
     ·
      obtain ⟨b,hb⟩:=paired_l hn _ (p+6) (nlr _) Yy0
      have:=st (b2:=false) ((low_v n).trans (by rw [dff hl])) (Ev.congr (fun k=>if_neg Bool.false_ne_true) hb)
      rw [Ev.uniq this h] at hb
      obtain ⟨a1,a2⟩:=ih (p+6) Yy0 hje hr hb
      exact ⟨.uni hje hU (by rw [← hv];omega) a1,a2⟩
  ·
   have hr:Tk s e (p+1):=by
    cases ht with
    | nil=>omega
    | plain _ _ _ _ r=>exact r
    | esc h _ _ _=>exact absurd h h92
   obtain ⟨a1,a2⟩:=ih (p+1) Yy0 Yy0 hr (h.plain hn hp h92)
   exact ⟨.plain hlt h92 a1,a2⟩
theorem pd_str {s:ByteArray} (hn:s.size≤65536) {i j:Nat} (h:StrTok s i j) (hp:PdAt s i):Pdd s (j - 1) (i+1)∧PdAt s j:=by
 have h1:=h.1.1
 have h2:=h.1.2.1
 have q0:=h.1.2.2.1
 have q1:=h.1.2.2.2.1
 have p1:=hp.plain hn Yy0 (by rw [q0];decide)
 obtain ⟨a1,a2⟩:=pd_run hn Yy0 (by rw [q1];decide) _ (i+1) (nlr _) Yy0 h.2 p1
 have:=a2.plain hn Yy0 (by rw [q1];decide)
 rw [show j - 1+1=j from Yy0] at this
 exact ⟨a1,this⟩
theorem hexN_win {s u:ByteArray} {a e:Nat} (hw:∀ x,a≤x→x<e→bt u ((x - a:Nat):Int)=bt s (x:Int)) {p:Nat} (ha:a≤p):∀ k,p+k≤e→hexN u (p - a) k=hexN s p k:=by
 intro k
 induction k with
 | zero=>intro _;rfl
 | succ k ih=>
  intro hk
  show hexN u (p - a) k * 16+hexV (bt u ((p - a+k:Nat):Int))=hexN s p k * 16+hexV (bt s ((p+k:Nat):Int))
  rw [ih Yy0,← hw (p+k) Yy0 Yy0,show p+k - a=p - a+k from Yy0]
theorem uesc_win {s u:ByteArray} {a e:Nat} (hw:∀ x,a≤x→x<e→bt u ((x - a:Nat):Int)=bt s (x:Int)) (hz:u.size=e - a) (hes:e≤s.size) {p:Nat} (ha:a≤p) (hae:a≤e):UEsc u (p - a)↔(UEsc s p∧p+6≤e):=by
 constructor
 ·
  intro h
  have h6:=h.1
  have hpe:p+6≤e:=Yy0
  refine ⟨⟨Yy0,by rw [← hw p ha Yy0];exact h.2.1,?_,fun q hq=>?_⟩,hpe⟩
  ·
   rw [← hw (p+1) Yy0 Yy0,show p+1 - a=p - a+1 from Yy0];exact h.2.2.1
  ·
   have:=h.2.2.2 q hq
   rw [← hw (p+2+q) Yy0 Yy0,show p+2+q - a=p - a+2+q from Yy0];exact this
 ·
  intro ⟨h,hpe⟩
  refine ⟨Yy0,by rw [hw p ha Yy0];exact h.2.1,?_,fun q hq=>?_⟩
  ·
   rw [show p - a+1=p+1 - a from Yy0,hw (p+1) Yy0 Yy0];exact h.2.2.1
  ·
   have:=h.2.2.2 q hq
   rw [show p - a+2+q=p+2+q - a from Yy0,hw (p+2+q) Yy0 Yy0];exact this
theorem Pdd.win {s u:ByteArray} {a e:Nat} (hw:∀ x,a≤x→x<e→bt u ((x - a:Nat):Int)=bt s (x:Int)) (hz:u.size=e - a) (hes:e≤s.size) (hae:a≤e) {p:Nat} (h:Pdd s e p):a≤p→Pdd u u.size (p - a):=by
 induction h with
 | nil=>intro _;rw [← hz];exact .nil
 | @plain p h c r ih=>
  intro ha
  have:=ih Yy0
  rw [show p+1 - a=p - a+1 from Yy0] at this
  exact .plain Yy0 (by rw [hw p ha h];exact c) this
 | @short p h c nu r ih=>
  intro ha
  have:=ih Yy0
  rw [show p+2 - a=p - a+2 from Yy0] at this
  exact .short Yy0 (by rw [hw p ha Yy0];exact c) (fun hU=>nu ((uesc_win hw hz hes ha hae).mp hU).1) this
 | @uni p h u hn r ih=>
  intro ha
  have:=ih Yy0
  rw [show p+6 - a=p - a+6 from Yy0] at this
  refine .uni Yy0 ((uesc_win hw hz hes ha hae).mpr ⟨u,h⟩) ?_ this
  rw [show p - a+2=p+2 - a from Yy0,hexN_win hw Yy0 4 Yy0]
  exact hn
 | @pair p h u u2 hh hl r ih=>
  intro ha
  have:=ih Yy0
  rw [show p+12 - a=p - a+12 from Yy0] at this
  refine .pair Yy0 ((uesc_win hw hz hes ha hae).mpr ⟨u,Yy0⟩) ?_ ?_ ?_ this
  ·
   rw [show p - a+6=p+6 - a from Yy0]
   exact (uesc_win hw hz hes Yy0 hae).mpr ⟨u2,Yy0⟩
  ·
   rw [show p - a+2=p+2 - a from Yy0,hexN_win hw Yy0 4 Yy0]
   exact hh
  ·
   rw [show p - a+8=p+8 - a from Yy0,hexN_win hw Yy0 4 Yy0]
   exact hl
theorem short_v (c:Int):spec_short.f c=some (shortB c):=by
 unfold spec_short.f shortB
 repeat' split
 all_goals first | rfl | omega
theorem sur_of {n:Int}:isSur n=true↔(55296≤n∧n≤57343):=by
 unfold isSur
 simp only [Bool.and_eq_true,decide_eq_true_eq]
 omega
theorem dec_run {u:ByteArray} (hn:u.size≤65536) {p:Nat} (hd:Pdd u u.size p):∀ o,Un u p o→∀ x:List Int,x.length+4 * (u.size - p)≤300000→Ev (fun k=>spec_Unquote.l0 k x u (p:Int)) (strOfNums (x ++ o)):=by
 induction hd with
 | nil=>
  intro o h x hx
  have ho:o = []:=by
   cases h with
   | nil=>rfl
   | plain h _ _ _=>omega
   | short h _ _ _=>omega
   | uni h _ _ _ _ _=>omega
   | pair h _ _ _ _ _ _ _ _=>omega
   | lone h _ _ _ _ _ _=>omega
  subst ho
  rw [List.append_nil]
  exact Ev.step (f:=fun _=>some (strOfNums x)) (fun k=>by rw [spec_Unquote.l0,if_neg Yy0]) (Ev.now _)
 | @plain p hp c r ih=>
  intro o h x hx
  have e1:wrap64 ((p:Int)+1)=((p+1:Nat):Int):=Yy78
  cases h with
  | nil=>omega
  | @plain _ o h c32 c92 r'=>
   have:=ih o r' (x ++ [bt u (p:Int)]) Yy12
   rw [List.append_assoc] at this
   exact Ev.step (fun k=>by rw [spec_Unquote.l0,if_pos Yy0,if_pos Yy0,if_neg c,if_pos Yy0,e1]) this
  | short _ h92 _ _=>exact absurd h92 c
  | uni _ h92 _ _ _ _=>exact absurd h92 c
  | pair _ h92 _ _ _ _ _ _ _=>exact absurd h92 c
  | lone _ h92 _ _ _ _ _=>exact absurd h92 c
 | @short p hp c nu r ih=>
  intro o h x hx
  have e1:wrap64 ((p:Int)+1)=((p+1:Nat):Int):=Yy78
  have e2:wrap64 ((p:Int)+2)=((p+2:Nat):Int):=Yy78
  cases h with
  | nil=>omega
  | plain _ _ c92 _=>exact absurd c c92
  | @short _ o h h92 hs r'=>
   obtain ⟨n,ok,hu,hiff,_⟩:=unit_ev hn p Yy0
   have hok:ok=false:=by
    cases ok with
    | false=>rfl
    | true=>exact absurd (hiff.mp rfl) nu
   subst hok
   have:=ih o r' (x ++ [shortB (bt u ((p+1:Nat):Int))]) Yy12
   rw [List.append_assoc] at this
   refine Ev.step (fun k=>Yy81) (Ev.two hu (Ev.congr (fun k=>if_neg Bool.false_ne_true) (Ev.congr (fun k=>?_) this)))
   rw [e1,if_pos Yy0,if_pos Yy0,short_v,e2]
   simp only [Option.bind_some]
   rw [if_pos Yy0]
  | uni h h92 h117 hx _ _=>exact absurd ⟨h,h92,h117,hx⟩ nu
  | pair h h92 h117 hx _ _ _ _ _=>exact absurd ⟨Yy0,h92,h117,hx⟩ nu
  | lone h h92 h117 hx _ _ _=>exact absurd ⟨h,h92,h117,hx⟩ nu
 | @uni p hp hU hns r ih=>
  intro o h x hx
  have e6:wrap64 ((p:Int)+6)=((p+6:Nat):Int):=Yy78
  have e12:wrap64 (((p+6:Nat):Int)+6)=((p+12:Nat):Int):=Yy78
  have hR:=hexN_range (s:=u) (p:=p+2) 4 Yy0 (fun q hq=>hU.2.2.2 q hq)
  cases h with
  | nil=>omega
  | plain _ _ c92 _=>exact absurd hU.2.1 c92
  | short _ _ hs _=>have:=hU.2.2.1;omega
  | @uni _ o h h92 h117 hx' hn' r'=>
   obtain ⟨n,ok,hu,hiff,hnv⟩:=unit_ev hn p Yy0
   have hok:ok=true:=hiff.mpr hU
   subst hok
   have hv:=hnv rfl
   subst hv
   obtain ⟨n2,ok2,hu2,hiff2,_⟩:=unit_ev hn (p+6) Yy0
   have hl:=enc_len (hexN u (p+2) 4)
   have hz:=app8_enc x Yy0 (hexN u (p+2) 4) hR.1 Yy0
   have hr:=ih o r' (x ++ Lib.encodeRuneZ (hexN u (p+2) 4)) (by rw [List.length_append];omega)
   rw [List.append_assoc] at hr
   have hh:spec_high.f (hexN u (p+2) 4)=some false:=(high_v _).trans (by rw [dff Yy0])
   refine Ev.step (fun k=>Yy81) (Ev.two hu (Ev.congr (fun k=>if_pos rfl) (Ev.congr (fun k=>by rw [e6]) (Ev.two hu2 ?_))))
   cases ok2 with
   | false=>exact Ev.congr (fun k=>if_neg Bool.false_ne_true) (Ev.two hz hr)
   | true=>exact Ev.congr (fun k=>if_pos rfl) (Ev.two (Ev.is fun _=>hh) (Ev.congr (fun k=>if_neg Bool.false_ne_true) (Ev.two hz hr)))
  | pair _ _ _ _ hn' _ _ _ _=>exact absurd (sur_of.mp hn') hns
  | lone _ _ _ _ hn' _ _=>exact absurd (sur_of.mp hn') hns
 | @pair p hp hU hU2 hh hl r ih=>
  intro o h x hx
  have e6:wrap64 ((p:Int)+6)=((p+6:Nat):Int):=Yy78
  have e12:wrap64 (((p+6:Nat):Int)+6)=((p+12:Nat):Int):=Yy78
  cases h with
  | nil=>omega
  | plain _ _ c92 _=>exact absurd hU.2.1 c92
  | short _ _ hs _=>have:=hU.2.2.1;omega
  | uni _ _ _ _ hn' _=>have:=sur_of.mpr (show 55296≤hexN u (p+2) 4∧hexN u (p+2) 4≤57343 from Yy0);rw [this] at hn';cases hn'
  | lone _ _ _ _ _ hg _=>exact absurd ⟨hp,hU2.2.1,hU2.2.2.1⟩ hg
  | @pair _ o h h92 h117 hx' hn' g92 g117 gx r'=>
   obtain ⟨n,ok,hu,hiff,hnv⟩:=unit_ev hn p Yy0
   have hok:ok=true:=hiff.mpr hU
   subst hok
   have hv:=hnv rfl
   subst hv
   obtain ⟨n2,ok2,hu2,hiff2,hnv2⟩:=unit_ev hn (p+6) Yy0
   have hok2:ok2=true:=hiff2.mpr hU2
   subst hok2
   have hv2:=hnv2 rfl
   rw [show p+6+2=p+8 from Yy0] at hv2
   subst hv2
   have hd:decR (hexN u (p+2) 4) (hexN u (p+8) 4)=(hexN u (p+2) 4 - 55296) * 1024+(hexN u (p+8) 4 - 56320)+65536:=by
    unfold decR
    rw [if_pos Yy0]
   have hw:wrap64 ((wrap64 (65536+(wrap64 ((wrap64 (hexN u (p+2) 4 - 55296)) * 1024))))+(wrap64 (hexN u (p+8) 4 - 56320)))=decR (hexN u (p+2) 4) (hexN u (p+8) 4):=by
    rw [hd,w64 (x:=hexN u (p+2) 4 - 55296) Yy0 Yy0,w64 (x:=(hexN u (p+2) 4 - 55296) * 1024) Yy0 Yy0,w64 (x:=65536+(hexN u (p+2) 4 - 55296) * 1024) Yy0 Yy0,w64 (x:=hexN u (p+8) 4 - 56320) Yy0 Yy0,w64 Yy0 Yy0]
    omega
   have hle:=enc_len (decR (hexN u (p+2) 4) (hexN u (p+8) 4))
   have hz:=app8_enc x Yy0 (decR (hexN u (p+2) 4) (hexN u (p+8) 4)) (by rw [hd];omega) (by rw [hd];omega)
   have hr:=ih o r' (x ++ Lib.encodeRuneZ (decR (hexN u (p+2) 4) (hexN u (p+8) 4))) (by rw [List.length_append];omega)
   rw [List.append_assoc] at hr
   refine Ev.step (fun k=>Yy81) (Ev.two hu (Ev.congr (fun k=>if_pos rfl) (Ev.congr (fun k=>by rw [e6,e12]) (Ev.two hu2 (Ev.congr (fun k=>if_pos rfl) (Ev.two (Ev.is fun _=>(high_v _).trans (by rw [dtt hh])) (Ev.congr (fun k=>if_pos rfl) (Ev.two (Ev.is fun _=>(low_v _).trans (by rw [dtt hl])) (Ev.congr (fun k=>if_pos rfl) (Ev.two (Ev.congr (fun k=>by rw [hw]) hz) hr))))))))))
theorem uq_is {s:ByteArray} (hs:s.size≤65536) {i j:Nat} (h:StrTok s i j) (hp:Pdd s (j - 1) (i+1)) {str:ByteArray} (hk:KStr (s.extract (i+1) (j - 1)) str):uq s i j=str:=by
 obtain ⟨O,hO,rfl⟩:=hk
 have h1:=h.1.1
 have h2:=h.1.2.1
 have hz:(s.extract (i+1) (j - 1)).size=j - 1 - (i+1):=Yy13
 have hw:∀ x,i+1≤x→x<j - 1→bt (s.extract (i+1) (j - 1)) ((x - (i+1):Nat):Int)=bt s (x:Int):=fun x q1 q2=>by
  rw [bt_extract Yy0 Yy0,show i+1+(x - (i+1))=x from Yy0]
 have hd:=hp.win hw hz Yy0 Yy0 (nlr _)
 rw [Nat.sub_self] at hd
 have hr:=dec_run Yy0 hd O hO [] Yy12
 rw [List.nil_append] at hr
 have hq:=uq_ev hs h
 have hzq:(s.extract i j).size=j - i:=Yy13
 refine Ev.uniq hq (Ev.congr (fun k=>?_) hr)
 rw [spec_Unquote.f,hzq,w64 Yy0 Yy0,if_pos Yy0,if_pos Yy0]
 have e:(s.extract i j).extract 1 ((((j - i:Nat):Int) - 1).toNat)=s.extract (i+1) (j - 1):=by
  rw [show (((j - i:Nat):Int) - 1).toNat=j - i - 1 from Yy0,ByteArray.extract_extract]
  congr 1
  omega
 rw [e]
 rfl
theorem PdAt.run {s:ByteArray} (hn:s.size≤65536) {i j:Nat} (hij:i≤j) (hj:j≤s.size) (h:∀ q,i≤q→q<j→bt s (q:Int)≠92) (hp:PdAt s i):PdAt s j:=by
 have key:∀ m q,q - i=m→i≤q→q≤j→PdAt s q:=by
  intro m
  induction m with
  | zero=>intro q hm h1 h2;rw [show q=i from Yy0];exact hp
  | succ m ih=>
   intro q hm h1 h2
   obtain ⟨p,rfl⟩:∃ p,q=p+1:=⟨q - 1,Yy0⟩
   exact (ih p Yy0 Yy0 Yy0).plain hn Yy0 (h p Yy0 Yy0)
 exact key _ j rfl hij (nlr _)
theorem PdAt.blk {s:ByteArray} (hn:s.size≤65536) {i j:Nat} (h:Blk s i j) (hp:PdAt s i):PdAt s j:=
 hp.run hn h.1 h.2.1 (fun q h1 h2=>by have:=isB_le (h.2.2 q h1 h2);omega)
theorem PdAt.byte {s:ByteArray} (hn:s.size≤65536) {i:Nat} {c:Int} (hc:bt s (i:Int)=c) (h0:c≠0) (h9:c≠92) (hp:PdAt s i):PdAt s (i+1):=
 hp.plain hn (bt_in hc h0) (by rw [hc];exact h9)
end Go.Proofs.YtieflhncpjjciaaGreatDoor.Dc
namespace Go.Proofs.YtieflhncpjjciaaGreatDoor.PFnGjSquashItems
open Go Go.RowKit Go.Proofs.YtieflhncpjjciaaGreatDoorW.PrintWords Go.Proofs.YtieflhncpjjciaaGreatDoor.Dc
mutual
def T.pd (s:ByteArray):T→Prop
 | .leaf kd i j=>kd=4→Pdd s (j - 1) (i+1)
 | .arr _ _ es=>es.pd s
 | .obj _ _ ms=>ms.pd s
def Es.pd (s:ByteArray):Es→Prop
 | .nil=>True
 | .cons t r=>t.pd s∧r.pd s
def Ms.pd (s:ByteArray):Ms→Prop
 | .nil=>True
 | .cons ni nj t r=>Pdd s (nj - 1) (ni+1)∧t.pd s∧r.pd s
end
mutual
theorem pd_t {s:ByteArray} (hn:s.size≤65536):∀ t:T,t.wf s→PdAt s t.i→PdAt s t.j∧t.pd s
 | .leaf kd i j,h,hp=>by
  obtain ⟨h1,h2,h3⟩:=h
  have hp':PdAt s i:=hp
  rw [T.pd]
  rcases h3 with ⟨rfl,h⟩ | ⟨rfl,hc,h⟩ | ⟨rfl,h3,h⟩ | ⟨rfl,h3,h⟩ | ⟨rfl,h3,h⟩
  ·
   obtain ⟨a,b⟩:=pd_str hn h hp'
   exact ⟨b,fun _=>a⟩
  ·
   refine ⟨hp'.run hn (Nat.le_of_lt h1) h2 (fun q q1 q2=>?_),fun h=>Yy15⟩
   have:=h.1 q q1 q2
   unfold numOK at this
   omega
  ·
   refine ⟨hp'.run hn (Nat.le_of_lt h1) h2 (fun q q1 q2=>?_),fun h=>Yy15⟩
   have:=isWord_az h h3 (by intro k hk;have:k<4:=hk;rcases k with _ | _ | _ | _ | k <;> first | decide | omega) q q1 q2
   omega
  ·
   refine ⟨hp'.run hn (Nat.le_of_lt h1) h2 (fun q q1 q2=>?_),fun h=>Yy15⟩
   have:=isWord_az h h3 (by intro k hk;have:k<5:=hk;rcases k with _ | _ | _ | _ | _ | k <;> first | decide | omega) q q1 q2
   omega
  ·
   refine ⟨hp'.run hn (Nat.le_of_lt h1) h2 (fun q q1 q2=>?_),fun h=>Yy15⟩
   have:=isWord_az h h3 (by intro k hk;have:k<4:=hk;rcases k with _ | _ | _ | _ | k <;> first | decide | omega) q q1 q2
   omega
 | .arr i j es,h,hp=>by
  obtain ⟨h1,h2,p,h3,h4⟩:=h
  have hp':PdAt s i:=hp
  rw [T.pd]
  have hb:=(hp'.byte hn h1 Yy3 Yy3).blk hn h3
  rcases h4 with ⟨c1,c2,c3⟩ | h4
  ·
   subst c2;subst c3
   rw [Es.pd]
   exact ⟨hb.byte hn c1 Yy3 Yy3,trivial⟩
  ·
   exact pd_es hn es p j h4 hb
 | .obj i j ms,h,hp=>by
  obtain ⟨h1,h2,p,h3,h4⟩:=h
  have hp':PdAt s i:=hp
  rw [T.pd]
  have hb:=(hp'.byte hn h1 Yy3 Yy3).blk hn h3
  rcases h4 with ⟨c1,c2,c3⟩ | h4
  ·
   subst c2;subst c3
   rw [Ms.pd]
   exact ⟨hb.byte hn c1 Yy3 Yy3,trivial⟩
  ·
   exact pd_ms hn ms p j h4 hb
theorem pd_es {s:ByteArray} (hn:s.size≤65536):∀ (es:Es) (p j:Nat),es.wf s p j→PdAt s p→PdAt s j∧es.pd s
 | .nil,p,j,h,_=>absurd h Yy21
 | .cons t r,p,j,h,hp=>by
  obtain ⟨h1,h2,q,h3,h4⟩:=h
  subst h2
  rw [Es.pd]
  obtain ⟨a,b⟩:=pd_t hn t h1 hp
  have hb:=a.blk hn h3
  rcases h4 with ⟨c1,c2,c3⟩ | ⟨c1,p',c2,c3⟩
  ·
   subst c2;subst c3
   rw [Es.pd]
   exact ⟨hb.byte hn c1 Yy3 Yy3,b,trivial⟩
  ·
   obtain ⟨x,y⟩:=pd_es hn r p' j c3 ((hb.byte hn c1 Yy3 Yy3).blk hn c2)
   exact ⟨x,b,y⟩
theorem pd_ms {s:ByteArray} (hn:s.size≤65536):∀ (ms:Ms) (p j:Nat),ms.wf s p j→PdAt s p→PdAt s j∧ms.pd s
 | .nil,p,j,h,_=>absurd h Yy19
 | .cons ni nj t r,p,j,h,hp=>by
  obtain ⟨g1,g2,c,g3,g4,v,g5,h1,h2,q,h3,h4⟩:=h
  subst g1;subst h2
  rw [Ms.pd]
  obtain ⟨n1,n2⟩:=pd_str hn g2 hp
  obtain ⟨a,b⟩:=pd_t hn t h1 (((n2.blk hn g3).byte hn g4 Yy3 Yy3).blk hn g5)
  have hb:=a.blk hn h3
  rcases h4 with ⟨c1,c2,c3⟩ | ⟨c1,p',c2,c3⟩
  ·
   subst c2;subst c3
   rw [Ms.pd]
   exact ⟨hb.byte hn c1 Yy3 Yy3,n1,b,trivial⟩
  ·
   obtain ⟨x,y⟩:=pd_ms hn r p' j c3 ((hb.byte hn c1 Yy3 Yy3).blk hn c2)
   exact ⟨x,n1,b,y⟩
end
theorem pd_whole {s:ByteArray} (hn:s.size≤65536) (h:Ev (fun k=>spec_Paired.f k s) true) {t:T} (hw:t.wf s) (hb:Blk s 0 t.i):t.pd s:=by
 have h0:PdAt s 0:=Ev.congr (fun k=>by rw [spec_Paired.f];rfl) h
 exact (pd_t hn t hw (h0.blk hn hb)).2
end Go.Proofs.YtieflhncpjjciaaGreatDoor.PFnGjSquashItems
namespace Go.Proofs.YtieflhncpjjciaaGreatDoor.Dc
open Go Go.RowKit Go.Proofs.YtieflhncpjjciaaGreatDoorW.PrintWords Go.Proofs.YtieflhncpjjciaaGreatDoor.PFnGjSquashItems
theorem hex4_tok {s:ByteArray} (hn:s.size≤65536):∀ m d i,4 - d=m→d≤4→i+m≤s.size→(∀ q,i≤q→q<i+m→isHex (bt s (q:Int))=true)→Ev (fun k=>spec_reader_escape.l0 k (d:Nat) s (i:Int)) (true,s,((i+m:Nat):Int)):=by
 intro m
 induction m with
 | zero=>
  intro d i hd hd4 hi _
  refine Ev.step (f:=fun _=>some (true,s,(i:Int))) (fun k=>?_) (Ev.now _)
  rw [spec_reader_escape.l0,if_neg Yy0]
 | succ m ih=>
  intro d i hd hd4 hi hx
  obtain ⟨v,hv⟩:=hex_ev (bt s (i:Int))
  rw [hx i (nlr _) Yy0] at hv
  have hz:=ih (d+1) (i+1) Yy0 Yy0 Yy0 (fun q q1 q2=>hx q Yy0 Yy0)
  rw [show i+1+m=i+(m+1) from Yy0] at hz
  have e1:wrap64 ((d:Int)+1)=((d+1:Nat):Int):=Yy78
  have e2:wrap64 ((i:Int)+1)=((i+1:Nat):Int):=Yy78
  refine Ev.step (fun k=>by rw [spec_reader_escape.l0,if_pos Yy0,here_f,Option.bind_some]) (Ev.two hv (Ev.congr (fun k=>if_pos rfl) (Ev.congr (fun k=>?_) hz)))
  rw [e1,e2]
theorem esc_tok {s:ByteArray} (hn:s.size≤65536) {i j:Nat} (h:EscAt s i j) (hj:j≤s.size):Ev (fun k=>spec_reader_escape.f k s (i:Int)) (true,s,(j:Int)):=by
 have e:wrap64 ((i:Int)+1)=((i+1:Nat):Int):=w64 (by rcases h with ⟨h,_⟩ | ⟨h,_⟩ <;> omega) (by rcases h with ⟨h,_⟩ | ⟨h,_⟩ <;> omega)
 generalize hc:bt s (i:Int)=c at h
 unfold EscAt at h
 rw [hc] at h
 rcases h with ⟨rfl,hs⟩ | ⟨rfl,h117,hx⟩
 ·
  refine Ev.step (f:=fun _=>some (true,s,((i+1:Nat):Int))) (fun k=>?_) (Ev.now _)
  rw [spec_reader_escape.f,here_f,Option.bind_some,hc]
  rcases hs with rfl | rfl | rfl | rfl | rfl | rfl | rfl | rfl <;> simp [spec_reader_escape.j0,e]
 ·
  subst h117
  have hz:=hex4_tok hn 4 0 (i+1) rfl Yy0 Yy0 (fun q q1 q2=>hx q Yy0 Yy0)
  rw [show i+1+4=i+5 from Yy0] at hz
  refine Ev.step (fun k=>?_) hz
  rw [spec_reader_escape.f,here_f,Option.bind_some,hc]
  simp [spec_reader_escape.j0,e]
theorem quoted_run {s:ByteArray} (hn:s.size≤65536) {e:Nat} (he:bt s (e:Int)=34):∀ p,Tk s e p→Ev (fun k=>spec_reader_quoted.l0 k s (p:Int)) (true,s,((e+1:Nat):Int)):=by
 have hes:=bt_in he Yy3
 intro p h
 induction h with
 | nil=>
  refine Ev.step (f:=fun _=>some (true,s,((e+1:Nat):Int))) (fun k=>?_) (Ev.now _)
  rw [spec_reader_quoted.l0,if_pos Yy0,if_pos Yy0,if_pos he,w64 Yy0 Yy0]
  rfl
 | @plain p hp c32 c34 c92 r ih=>
  have e1:wrap64 ((p:Int)+1)=((p+1:Nat):Int):=Yy78
  exact Ev.step (fun k=>by rw [spec_reader_quoted.l0,if_pos Yy0,if_pos Yy0,if_neg c34,if_neg Yy0,if_neg c92,e1]) ih
 | @esc p j h92 hj hje r ih=>
  have hp:p<j:=Yy64
  have e1:wrap64 ((p:Int)+1)=((p+1:Nat):Int):=Yy78
  have hz:=esc_tok hn hj Yy0
  exact Ev.step (fun k=>by rw [spec_reader_quoted.l0,if_pos Yy0,if_pos Yy0,if_neg Yy0,if_neg Yy0,if_pos h92,e1]) (Ev.two hz (Ev.congr (fun k=>if_pos rfl) ih))
theorem quoted_tok {s:ByteArray} (hn:s.size≤65536) {i j:Nat} (h:StrTok s i j):Ev (fun k=>spec_reader_quoted.f k s (i:Int)) (true,s,(j:Int)):=by
 have h1:=h.1.1
 have h2:=h.1.2.1
 have hz:=quoted_run hn h.1.2.2.2.1 _ h.2
 rw [show j - 1+1=j from Yy0] at hz
 have e1:wrap64 ((i:Int)+1)=((i+1:Nat):Int):=Yy78
 exact Ev.congr (fun k=>by rw [spec_reader_quoted.f,e1]) hz
end Go.Proofs.YtieflhncpjjciaaGreatDoor.Dc
namespace Go.Proofs.YtieflhncpjjciaaGreatDoor.PFnGjSquashItems
open Go Go.RowKit Go.Proofs.YtieflhncpjjciaaGreatDoorW.PrintWords Go.Proofs.YtieflhncpjjciaaGreatDoor.Dc
theorem blanks_to {s:ByteArray} (hn:s.size≤65536) {i j:Nat} (h:Blk s i j) (hb:isB (bt s (j:Int))=false):Ev (fun k=>spec_reader_blanks.f k s (i:Int)) (s,(j:Int)):=by
 have h1:=h.1
 have h2:=h.2.1
 obtain ⟨j2,g1,g2,g3⟩:=blanks_ev hn _ i rfl Yy0
 have g4:=g1.1
 have g5:=g1.2.1
 have e:j2=j:=by
  rcases Nat.lt_trichotomy j2 j with x | x | x
  ·
   have:=g2 Yy0
   rw [h.2.2 j2 g4 x] at this
   cases this
  ·
   exact x
  ·
   have:=g1.2.2 j h1 x
   rw [hb] at this
   cases this
 rw [← e]
 exact g3
theorem isB_no {c:Int} (h:32<c):isB c=false:=by
 cases hb:isB c with
 | false=>rfl
 | true=>have:=isB_le hb;omega
theorem isB_0 {s:ByteArray} {j:Nat} (h:s.size≤j):isB (bt s (j:Int))=false:=by rw [bt_out s j h];rfl
theorem T.nb {s:ByteArray} {t:T} (h:t.wf s):isB (bt s (t.i:Int))=false:=by
 obtain ⟨h1,h2,a | a | a | a⟩:=wf_vk h
 ·
  exact isB_no (by have:=a.2.1.2.2.1;omega)
 ·
  exact isB_no (by have:=a.2.1;omega)
 ·
  exact isB_no (by have:=a.2 t.i (nlr _) h1;omega)
 ·
  exact isB_no (by rcases a.1 with b | b <;> omega)
theorem T.n93 {s:ByteArray} {t:T} (h:t.wf s):bt s (t.i:Int)≠93∧bt s (t.i:Int)≠125:=by
 obtain ⟨h1,h2,a | a | a | a⟩:=wf_vk h
 ·
  have:=a.2.1.2.2.1;omega
 ·
  have:=a.2.1;omega
 ·
  have:=a.2 t.i (nlr _) h1;omega
 ·
  rcases a.1 with b | b <;> omega
theorem word_yes {s:ByteArray} (hn:s.size≤65536) {i:Nat} {w:ByteArray} (hw:w.size≤10) (h:IsWord s i w):spec_reader_word.f s (i:Int) w=some (true,s,((i+w.size:Nat):Int)):=by
 have h1:=h.1
 unfold spec_reader_word.f
 rw [w64 Yy0 Yy0,w64 Yy0 Yy0,if_neg Yy0,if_pos Yy0,if_pos Yy0,if_pos Yy0]
 have e1:((i:Int)).toNat=i:=Yy0
 have e2:((i:Int)+(w.size:Int)).toNat=i+w.size:=Yy0
 rw [e1,e2,if_pos h.2]
 rfl
theorem word_no {s:ByteArray} (hn:s.size≤65536) {i:Nat} (hi:i≤s.size) {w:ByteArray} (hw:w.size≤10) (h0:0<w.size) (h:bt s (i:Int)≠bt w ((0:Nat):Int)):spec_reader_word.f s (i:Int) w=some (false,s,(i:Int)):=by
 obtain ⟨ok,j,h1,h2,h3,h4,h5⟩:=word_f hn i hi w hw
 cases ok with
 | false=>rw [h1,h5 rfl]
 | true=>exact absurd (word_bt (h4 rfl).2 (k:=0) h0) h
theorem value_w {s:ByteArray} {i:Nat} (h1:bt s (i:Int)≠123) (h2:bt s (i:Int)≠91) (h3:bt s (i:Int)≠34) (h4:bt s (i:Int)≠45) (h5:¬ (48≤bt s (i:Int)∧bt s (i:Int)≤57)) (k:Nat):spec_reader_value.f (k+1) s (i:Int)=spec_reader_value.j0 k true false s (i:Int) 0 (i:Int) 0:=by
 rw [spec_reader_value.f,here_f,Option.bind_some,if_neg h1,if_neg h2,if_neg h3,if_neg h4]
 by_cases h1:48≤bt s (i:Int)
 ·
  rw [if_pos h1];simp only [dff (show ¬ bt s (i:Int)≤57 from Yy0)]
 ·
  rw [if_neg h1]
theorem leaf_tok {s:ByteArray} (hn:s.size≤65536) {kd:Int} {i j:Nat} (hij:i<j) (hj:j≤s.size) (h:LeafOK s kd i j):Ev (fun k=>spec_reader_value.f k s (i:Int)) (kd,(i:Int),(j:Int),[],[],true,s,(j:Int)):=by
 rcases h with ⟨rfl,h⟩ | ⟨rfl,hc,h,hv⟩ | ⟨rfl,h3,h⟩ | ⟨rfl,h3,h⟩ | ⟨rfl,h3,h⟩
 ·
  have c34:=h.1.2.2.1
  exact Ev.step (fun k=>by rw [spec_reader_value.f,here_f,Option.bind_some,if_neg Yy0,if_neg Yy0,if_pos c34]) (Ev.bind (quoted_tok hn h) (Ev.now _))
 ·
  have hf:∀ k,spec_reader_value.f (k+1) s (i:Int)=spec_reader_value.j0 k true true s (i:Int) 0 (i:Int) 0:=by
   intro k
   rcases hc with c45 | c48
   ·
    rw [spec_reader_value.f,here_f,Option.bind_some,if_neg Yy0,if_neg Yy0,if_neg Yy0,if_pos c45]
   ·
    rw [spec_reader_value.f,here_f,Option.bind_some,if_neg Yy0,if_neg Yy0,if_neg Yy0,if_neg Yy0,if_pos c48.1];simp only [dtt c48.2]
  exact Ev.step hf (Ev.step (fun k=>by rw [spec_reader_value.j0,if_pos rfl]) (Ev.bind hv (Ev.now _)))
 all_goals
  have hb:=word_bt h (k:=0) Yy3
  rw [Nat.add_zero] at hb
  have go:∀ {r},Ev (fun k=>(spec_reader_word.f s (i:Int) wNull).bind fun bt256=>(if bt256.1=true then (some (0,(i:Int),bt256.2.2,([]:List (S121)),([]:List (S47)),true,bt256.2.1,bt256.2.2)) else ((spec_reader_word.f bt256.2.1 bt256.2.2 wFalse).bind fun bt259=>(if bt259.1=true then (some (1,(i:Int),bt259.2.2,([]:List (S121)),([]:List (S47)),true,bt259.2.1,bt259.2.2)) else ((spec_reader_word.f bt259.2.1 bt259.2.2 wTrue).bind fun bt262=>(if bt262.1=true then (some (2,(i:Int),bt262.2.2,([]:List (S121)),([]:List (S47)),true,bt262.2.1,bt262.2.2)) else (some (0,(i:Int),bt262.2.2,([]:List (S121)),([]:List (S47)),false,bt262.2.1,bt262.2.2)))))))) r→Ev (fun k=>spec_reader_value.f k s (i:Int)) r:=by
   intro r hh
   exact Ev.step (value_w Yy33 Yy33 Yy33 Yy33 Yy33) (Ev.step (fun k=>by rw [spec_reader_value.j0,if_neg Yy4];rfl) hh)
  have hi:i≤s.size:=Yy0
  subst h3
  refine go ?_
 ·
  simp only [word_yes hn (w:=wNull) Yy3 h,Option.bind_some,if_true];exact Ev.now _
 ·
  simp only [word_no hn hi (w:=wNull) Yy3 Yy3 Yy33,word_yes hn (w:=wFalse) Yy3 h,Option.bind_some,if_true,Bool.false_eq_true,if_false];exact Ev.now _
 ·
  simp only [word_no hn hi (w:=wNull) Yy3 Yy3 Yy33,word_no hn hi (w:=wFalse) Yy3 Yy3 Yy33,word_yes hn (w:=wTrue) Yy3 h,Option.bind_some,if_true,Bool.false_eq_true,if_false];exact Ev.now _
theorem s47_eta (x:S47):(⟨x.f0,x.f1,x.f2,x.f3,x.f4⟩:S47)=x:=by cases x;rfl
mutual
theorem value_tok {s:ByteArray} (hn:s.size≤65536):∀ t:T,t.wf s→Ev (fun k=>spec_reader_value.f k s (t.i:Int)) (t.s.1,t.s.2,t.s.3,t.s.4,t.s.5,true,s,(t.j:Int))
 | .leaf kd i j,h=>leaf_tok hn h.1 h.2.1 h.2.2
 | .arr i j es,h=>by
  obtain ⟨c91,b,p,hp,d⟩:=h
  show Ev (fun k=>spec_reader_value.f k s (i:Int)) (5,(i:Int),(j:Int),[],es.l,true,s,(j:Int))
  have hp1:=hp.1
  have hp2:=hp.2.1
  have top:∀ {l ok} {j:Nat},Ev (fun k=>spec_reader_elements.f k s (i:Int)) (l,ok,s,(j:Int))→Ev (fun k=>spec_reader_value.f k s (i:Int)) (5,(i:Int),(j:Int),[],l,ok,s,(j:Int)):=by
   intro l ok j h
   exact Ev.step (fun k=>by rw [spec_reader_value.f,here_f,Option.bind_some,if_neg Yy0,if_pos c91]) (Ev.bind h (Ev.now _))
  have hpe:Ev (fun k=>spec_reader_blanks.f k s ((i+1:Nat):Int)) (s,(p:Int)):=by
   refine blanks_to hn hp ?_
   rcases d with ⟨d1,_,_⟩ | d
   ·
    exact isB_no Yy0
   ·
    cases es with
    | nil=>exact absurd d Yy21
    | cons t r=>have:=T.nb d.1;rw [d.2.1] at this;exact this
  have go:∀ {r},Ev (fun k=>(spec_reader_take.f s (p:Int) 93).bind fun bt201=>(if bt201.1=true then (some (([]:List (S47)),true,bt201.2.1,bt201.2.2)) else (spec_reader_elements.l0 k ([]:List (S47)) bt201.2.1 bt201.2.2))) r→Ev (fun k=>spec_reader_elements.f k s (i:Int)) r:=by
   intro r h
   refine Ev.step (fun k=>by rw [spec_reader_elements.f,w64 Yy0 Yy0];rfl) (Ev.bind hpe ?_)
   exact h
  rcases d with ⟨c93,d2,d3⟩ | d
  ·
   subst d3
   subst d2
   refine top (go ?_)
   simp only [take_f hn p 93 Yy3,if_pos c93,Option.bind_some,if_true];exact Ev.now _
  ·
   have c93:bt s (p:Int)≠93:=by
    cases es with
    | nil=>exact absurd d Yy21
    | cons t r=>have h9:=T.n93 d.1;rw [d.2.1] at h9;exact h9.1
   have:=es_tok hn es p j d [] Yy63
   rw [List.nil_append] at this
   refine top (go ?_)
   simp only [take_f hn p 93 Yy3,if_neg c93,Option.bind_some];exact this
 | .obj i j ms,h=>by
  obtain ⟨c123,b,p,hp,d⟩:=h
  show Ev (fun k=>spec_reader_value.f k s (i:Int)) (6,(i:Int),(j:Int),ms.names,ms.l,true,s,(j:Int))
  have hp1:=hp.1
  have hp2:=hp.2.1
  have top:∀ {nm l ok} {j:Nat},Ev (fun k=>spec_reader_members.f k s (i:Int)) (nm,l,ok,s,(j:Int))→Ev (fun k=>spec_reader_value.f k s (i:Int)) (6,(i:Int),(j:Int),nm,l,ok,s,(j:Int)):=by
   intro nm l ok j h
   exact Ev.step (fun k=>by rw [spec_reader_value.f,here_f,Option.bind_some,if_pos c123]) (Ev.bind h (Ev.now _))
  have hpe:Ev (fun k=>spec_reader_blanks.f k s ((i+1:Nat):Int)) (s,(p:Int)):=by
   refine blanks_to hn hp ?_
   rcases d with ⟨d1,_,_⟩ | d
   ·
    exact isB_no Yy0
   ·
    cases ms with
    | nil=>exact absurd d Yy19
    | cons ni nj t r=>have:=d.2.1.1.2.2.1;rw [d.1] at this;exact isB_no Yy0
  have go:∀ {r},Ev (fun k=>(spec_reader_take.f s (p:Int) 125).bind fun bt154=>(if bt154.1=true then (some (([]:List (S121)),([]:List (S47)),true,bt154.2.1,bt154.2.2)) else (spec_reader_members.l0 k ([]:List (S121)) ([]:List (S47)) bt154.2.1 bt154.2.2))) r→Ev (fun k=>spec_reader_members.f k s (i:Int)) r:=by
   intro r h
   refine Ev.step (fun k=>by rw [spec_reader_members.f,w64 Yy0 Yy0];rfl) (Ev.bind hpe ?_)
   exact h
  rcases d with ⟨c125,d2,d3⟩ | d
  ·
   subst d3
   subst d2
   refine top (go ?_)
   simp only [take_f hn p 125 Yy3,if_pos c125,Option.bind_some,if_true];exact Ev.now _
  ·
   have c125:bt s (p:Int)≠125:=by
    cases ms with
    | nil=>exact absurd d Yy19
    | cons ni nj t r=>have h9:=d.2.1.1.2.2.1;rw [d.1] at h9;omega
   have:=ms_tok hn ms p j d [] [] Yy63 rfl
   rw [List.nil_append,List.nil_append] at this
   refine top (go ?_)
   simp only [take_f hn p 125 Yy3,if_neg c125,Option.bind_some];exact this
theorem es_tok {s:ByteArray} (hn:s.size≤65536):∀ (es:Es) (p j:Nat),es.wf s p j→∀ x4:List S47,x4.length+(s.size - p)≤65536→Ev (fun k=>spec_reader_elements.l0 k x4 s (p:Int)) (x4 ++ es.l,true,s,(j:Int))
 | .nil,p,j,h,_,_=>absurd h Yy21
 | .cons t r,p,j,h,x4,hx=>by
  obtain ⟨ht,hti,q,hq,d⟩:=h
  have hv:=value_tok hn t ht
  rw [hti] at hv
  have tij:=T.wf_lt t ht
  have hq1:=hq.1
  have hq2:=hq.2.1
  have hqe:Ev (fun k=>spec_reader_blanks.f k s (t.j:Int)) (s,(q:Int)):=blanks_to hn hq (by rcases d with ⟨c,_,_⟩ | ⟨c,_⟩ <;> exact isB_no Yy0)
  refine Ev.step (fun k=>Yy40) (Ev.bind hv ?_)
  simp only [if_true,Option.bind_some,s47_eta]
  refine Ev.congr (fun k=>Yy83) (Ev.bind hqe ?_)
  rcases d with ⟨c93,d2,d3⟩ | ⟨c44,p',hp',d⟩
  ·
   subst d2
   subst d3
   simp only [take_f hn q 93 Yy3,if_pos c93,Option.bind_some,if_true,Es.l]
   exact Ev.now _
  ·
   have c93:bt s (q:Int)≠93:=Yy0
   have hp1:=hp'.1
   have hp2:=hp'.2.1
   have hpe:Ev (fun k=>spec_reader_blanks.f k s ((q+1:Nat):Int)) (s,(p':Int)):=by
    refine blanks_to hn hp' ?_
    cases r with
    | nil=>exact absurd d Yy21
    | cons t' r'=>have:=T.nb d.1;rw [d.2.1] at this;exact this
   have:=es_tok hn r p' j d (x4 ++ [t.s]) Yy41
   rw [List.append_assoc] at this
   simp only [take_f hn q 93 Yy3,if_neg c93,Option.bind_some,take_f hn q 44 Yy3,if_pos c44,if_true,Es.l]
   exact Ev.bind hpe this
theorem ms_tok {s:ByteArray} (hn:s.size≤65536):∀ (ms:Ms) (p j:Nat),ms.wf s p j→∀ (x5:List S121) (x6:List S47),x5.length+(s.size - p)≤65536→x6.length=x5.length→Ev (fun k=>spec_reader_members.l0 k x5 x6 s (p:Int)) (x5 ++ ms.names,x6 ++ ms.l,true,s,(j:Int))
 | .nil,p,j,h,_,_,_,_=>absurd h Yy19
 | .cons ni nj t r,p,j,h,x5,x6,hx,hx6=>by
  obtain ⟨rfl,hstr,c,hc,c58,v,hv',ht,hti,q,hq,d⟩:=h
  have hval:=value_tok hn t ht
  rw [hti] at hval
  have tij:=T.wf_lt t ht
  have hq1:=hq.1
  have hq2:=hq.2.1
  have hc1:=hc.1
  have hv1:=hv'.1
  have s2:=hstr.1.1
  have c34:=hstr.1.2.2.1
  have st1:∀ k,spec_reader_members.l0 (k+1) x5 x6 s (ni:Int)=((spec_reader_quoted.f k s (ni:Int)).bind fun bt160=>(spec_reader_members.j1 k x5 x6 (ni:Int) (!bt160.1) bt160.2.1 bt160.2.2)):=by
   intro k
   rw [spec_reader_members.l0,here_f,Option.bind_some,if_pos c34]
  have hce:Ev (fun k=>spec_reader_blanks.f k s (nj:Int)) (s,(c:Int)):=blanks_to hn hc (isB_no Yy0)
  have hve:Ev (fun k=>spec_reader_blanks.f k s ((c+1:Nat):Int)) (s,(v:Int)):=blanks_to hn hv' (by have:=T.nb ht;rw [hti] at this;exact this)
  have hqe:Ev (fun k=>spec_reader_blanks.f k s (t.j:Int)) (s,(q:Int)):=blanks_to hn hq (by rcases d with ⟨c,_,_⟩ | ⟨c,_⟩ <;> exact isB_no Yy0)
  have go:∀ {r},Ev (fun k=>(spec_reader_take.f s (c:Int) 58).bind fun bt168=>(if bt168.1=true then ((spec_reader_blanks.f k bt168.2.1 bt168.2.2).bind fun bt171=>((spec_reader_value.f k bt171.1 bt171.2).bind fun bt173=>(if bt173.2.2.2.2.2.1=true then (if x6.length<1954687338268 then ((some (x6 ++ [(⟨bt173.1,bt173.2.1,bt173.2.2.1,bt173.2.2.2.1,bt173.2.2.2.2.1⟩:S47)]:List (S47))).bind fun y186=>((spec_reader_blanks.f k bt173.2.2.2.2.2.2.1 bt173.2.2.2.2.2.2.2).bind fun bt189=>((spec_reader_take.f bt189.1 bt189.2 125).bind fun bt191=>(if bt191.1=true then (some (x5 ++ [(⟨(ni:Int),(nj:Int)⟩:S121)],y186,true,bt191.2.1,bt191.2.2)) else ((spec_reader_take.f bt191.2.1 bt191.2.2 44).bind fun bt194=>(if bt194.1=true then ((spec_reader_blanks.f k bt194.2.1 bt194.2.2).bind fun bt197=>(spec_reader_members.l0 k (x5 ++ [(⟨(ni:Int),(nj:Int)⟩:S121)]) y186 bt197.1 bt197.2)) else (some (([]:List (S121)),([]:List (S47)),false,bt194.2.1,bt194.2.2)))))))) else (none)) else (some (([]:List (S121)),([]:List (S47)),false,bt173.2.2.2.2.2.2.1,bt173.2.2.2.2.2.2.2))))) else (some (([]:List (S121)),([]:List (S47)),false,bt168.2.1,bt168.2.2)))) r→Ev (fun k=>spec_reader_members.l0 k x5 x6 s (ni:Int)) r:=by
   intro r h
   refine Ev.step st1 (Ev.bind (quoted_tok hn hstr) (Ev.step (fun k=>by
    show spec_reader_members.j1 (k+1) x5 x6 (ni:Int) false s (nj:Int)=_
    rw [spec_reader_members.j1,if_neg Yy4,if_pos (show x5.length<8796093022208 from Yy0),Option.bind_some]) (Ev.bind hce h)))
  have go2:∀ {r},Ev (fun k=>(if true=true then (if x6.length<1954687338268 then ((some (x6 ++ [(t.s)]:List (S47))).bind fun y186=>((spec_reader_blanks.f k s (t.j:Int)).bind fun bt189=>((spec_reader_take.f bt189.1 bt189.2 125).bind fun bt191=>(if bt191.1=true then (some (x5 ++ [(⟨(ni:Int),(nj:Int)⟩:S121)],y186,true,bt191.2.1,bt191.2.2)) else ((spec_reader_take.f bt191.2.1 bt191.2.2 44).bind fun bt194=>(if bt194.1=true then ((spec_reader_blanks.f k bt194.2.1 bt194.2.2).bind fun bt197=>(spec_reader_members.l0 k (x5 ++ [(⟨(ni:Int),(nj:Int)⟩:S121)]) y186 bt197.1 bt197.2)) else (some (([]:List (S121)),([]:List (S47)),false,bt194.2.1,bt194.2.2)))))))) else (none)) else (some (([]:List (S121)),([]:List (S47)),false,s,(t.j:Int))))) r→Ev (fun k=>spec_reader_members.l0 k x5 x6 s (ni:Int)) r:=by
   intro r h
   refine go ?_
   simp only [take_f hn c 58 Yy3,if_pos c58,Option.bind_some,if_true]
   refine Ev.bind hve (Ev.bind hval ?_)
   simpa only [if_true,s47_eta,Option.bind_some] using h
  have go3:∀ {r},Ev (fun k=>(spec_reader_take.f s (q:Int) 125).bind fun bt191=>(if bt191.1=true then (some (x5 ++ [(⟨(ni:Int),(nj:Int)⟩:S121)],x6 ++ [t.s],true,bt191.2.1,bt191.2.2)) else ((spec_reader_take.f bt191.2.1 bt191.2.2 44).bind fun bt194=>(if bt194.1=true then ((spec_reader_blanks.f k bt194.2.1 bt194.2.2).bind fun bt197=>(spec_reader_members.l0 k (x5 ++ [(⟨(ni:Int),(nj:Int)⟩:S121)]) (x6 ++ [t.s]) bt197.1 bt197.2)) else (some (([]:List (S121)),([]:List (S47)),false,bt194.2.1,bt194.2.2)))))) r→Ev (fun k=>spec_reader_members.l0 k x5 x6 s (ni:Int)) r:=by
   intro r h
   refine go2 ?_
   simp only [if_true,if_pos (show x6.length<1954687338268 from Yy0),Option.bind_some]
   exact Ev.bind hqe h
  rcases d with ⟨c125,d2,d3⟩ | ⟨c44,p',hp',d⟩
  ·
   subst d2
   subst d3
   refine go3 ?_
   simp only [take_f hn q 125 Yy3,if_pos c125,Option.bind_some,if_true,Ms.names,Ms.l]
   exact Ev.now _
  ·
   have c125:bt s (q:Int)≠125:=Yy0
   have hp1:=hp'.1
   have hpe:Ev (fun k=>spec_reader_blanks.f k s ((q+1:Nat):Int)) (s,(p':Int)):=by
    refine blanks_to hn hp' ?_
    cases r with
    | nil=>exact absurd d Yy19
    | cons ni' nj' t' r'=>have:=d.2.1.1.2.2.1;rw [d.1] at this;exact isB_no Yy0
   have:=ms_tok hn r p' j d (x5 ++ [(⟨(ni:Int),(nj:Int)⟩:S121)]) (x6 ++ [t.s]) Yy41 Yy41
   rw [List.append_assoc,List.append_assoc] at this
   refine go3 ?_
   simp only [take_f hn q 125 Yy3,if_neg c125,Option.bind_some,take_f hn q 44 Yy3,if_pos c44,if_true,Ms.names,Ms.l]
   exact Ev.bind hpe this
end
theorem places_tok {s:ByteArray} (hn:s.size≤65536) {t:T} (h:t.wf s) (h0:Blk s 0 t.i) (h1:Blk s t.j s.size):Ev (fun k=>spec_Places.f k s) (t.s.1,t.s.2,t.s.3,t.s.4,t.s.5,true):=by
 have hie:Ev (fun k=>spec_reader_blanks.f k s ((0:Nat):Int)) (s,(t.i:Int)):=blanks_to hn h0 (T.nb h)
 have hqe:Ev (fun k=>spec_reader_blanks.f k s (t.j:Int)) (s,(s.size:Int)):=blanks_to hn h1 (isB_0 (nlr _))
 refine Ev.congr (fun k=>by rw [spec_Places.f];rfl) (Ev.bind hie (Ev.bind (value_tok hn t h) ?_))
 simp only [if_true]
 refine Ev.bind hqe ?_
 simp only [if_true]
 exact Ev.now _
end Go.Proofs.YtieflhncpjjciaaGreatDoor.PFnGjSquashItems
namespace Go.Proofs.YtieflhncpjjciaaGreatDoor.Dc
open Go Go.RowKit Go.Proofs.YtieflhncpjjciaaGreatDoorW.PrintWords Go.Proofs.YtieflhncpjjciaaGreatDoor.PFnGjSquashItems
section
variable {s v:ByteArray} {o e:Nat}
theorem wd_ext (W:Wd s v o e) {i j:Nat} (h1:o≤i) (h2:i≤j) (h3:j≤e):v.extract (i - o) (j - o)=s.extract i j:=by
 have:=(W.win h1 h2 h3).ext
 rwa [show i - o+(j - i)=j - o from Yy0,show i+(j - i)=j from Yy0] at this
theorem wd_uq (W:Wd s v o e) {i j:Nat} (h1:o≤i) (h2:i≤j) (h3:j≤e):uq v (i - o) (j - o)=uq s i j:=by
 unfold uq
 rw [wd_ext W h1 h2 h3]
mutual
theorem mv_n (W:Wd s v o e):∀ t:T,t.wf s→o≤t.i→t.j≤e→(t.mv o).n v=t.n s
 | .leaf kd i j,h,h1,h2=>by
  have g1:o≤i:=h1
  have g2:j≤e:=h2
  have g3:=h.1
  rw [T.mv,T.n,T.n]
  unfold textOf
  rw [wd_ext W g1 (Nat.le_of_lt g3) g2,wd_uq W g1 (Nat.le_of_lt g3) g2]
 | .arr i j es,h,h1,h2=>by
  obtain ⟨a,b,p,c,d⟩:=h
  have g1:o≤i:=h1
  have g2:j≤e:=h2
  have g3:=c.1
  rw [T.mv,T.n,T.n]
  rcases d with ⟨d1,d2,d3⟩ | d
  ·
   subst d3;rw [Es.mv,Es.n,Es.n]
  ·
   rw [mv_en W es p j d Yy0 g2]
 | .obj i j ms,h,h1,h2=>by
  obtain ⟨a,b,p,c,d⟩:=h
  have g1:o≤i:=h1
  have g2:j≤e:=h2
  have g3:=c.1
  rw [T.mv,T.n,T.n]
  rcases d with ⟨d1,d2,d3⟩ | d
  ·
   subst d3;rw [Ms.mv,Ms.n,Ms.n,Ms.kn,Ms.kn]
  ·
   obtain ⟨e1,e2⟩:=mv_mn W ms p j d Yy0 g2
   rw [e1,e2]
theorem mv_en (W:Wd s v o e):∀ (es:Es) (p j:Nat),es.wf s p j→o≤p→j≤e→(es.mv o).n v=es.n s
 | .nil,p,j,h,_,_=>absurd h Yy21
 | .cons t r,p,j,h,h1,h2=>by
  obtain ⟨a,b,q,c,d⟩:=h
  have tij:=T.wf_lt t a
  have cq:=c.1
  rw [Es.mv,Es.n,Es.n]
  rcases d with ⟨d1,d2,d3⟩ | ⟨d1,p',d2,d3⟩
  ·
   subst d2
   rw [mv_n W t a Yy0 Yy0,Es.mv,Es.n,Es.n]
  ·
   have hpj:p'<j:=(es_sq r p' j d3).2.2.1
   have:=d2.1
   rw [mv_n W t a Yy0 Yy0,mv_en W r p' j d3 Yy0 h2]
theorem mv_mn (W:Wd s v o e):∀ (ms:Ms) (p j:Nat),ms.wf s p j→o≤p→j≤e→(ms.mv o).n v=ms.n s∧(ms.mv o).kn v=ms.kn s
 | .nil,p,j,h,_,_=>absurd h Yy19
 | .cons ni nj t r,p,j,h,h1,h2=>by
  obtain ⟨a0,a1,c0,a2,a3,v0,a4,a,b,q,c,d⟩:=h
  have tij:=T.wf_lt t a
  have cq:=c.1
  have s2:=a1.1.1
  have b2:=a2.1
  have b4:=a4.1
  rw [Ms.mv,Ms.n,Ms.n,Ms.kn,Ms.kn]
  rcases d with ⟨d1,d2,d3⟩ | ⟨d1,p',d2,d3⟩
  ·
   subst d2
   rw [mv_n W t a Yy0 Yy0,wd_uq W Yy0 Yy0 Yy0,Ms.mv,Ms.n,Ms.n,Ms.kn,Ms.kn]
   exact ⟨rfl,rfl⟩
  ·
   have hpj:p'<j:=(ms_sq r p' j d3).2.2.1
   have:=d2.1
   obtain ⟨e1,e2⟩:=mv_mn W r p' j d3 Yy0 h2
   rw [mv_n W t a Yy0 Yy0,wd_uq W Yy0 Yy0 Yy0,e1,e2]
   exact ⟨rfl,rfl⟩
end
end
theorem read_whole {s:ByteArray} (hn:s.size≤65536) {t:T} (h:t.wf s) (h0:Blk s 0 t.i) (h1:Blk s t.j s.size):Ev (fun k=>spec_Read.f k s) ((t.n s).f0,(t.n s).f1,(t.n s).f2,(t.n s).f3,true):=by
 have hp:=places_tok hn h h0 h1
 have ht:=tn_t hn t h
 unfold TN at ht
 exact Ev.congr (fun k=>by rw [spec_Read.f]) (Ev.two hp (Ev.congr (fun k=>if_pos rfl) (Ev.two ht (Ev.now _))))
theorem read_val {s:ByteArray} (hs:s.size≤65536) {t:T} (h:t.wf s):Ev (fun k=>spec_Read.f k (s.extract t.i t.j)) ((t.n s).f0,(t.n s).f1,(t.n s).f2,(t.n s).f3,true):=by
 have hij:=T.wf_lt t h
 have hj:=(wf_vk h).2.1
 have W:=Wd.of hs (Nat.le_of_lt hij) hj
 have hm:=mv_wf W t h (nlr _) (nlr _)
 have h0:Blk (s.extract t.i t.j) 0 (t.mv t.i).i:=by rw [T.mv_i,Nat.sub_self];exact ⟨nlr _,Nat.zero_le _,fun q _ hq=>Yy0⟩
 have h1:Blk (s.extract t.i t.j) (t.mv t.i).j (s.extract t.i t.j).size:=by rw [T.mv_j,W.sz];exact ⟨nlr _,by rw [W.sz];exact nlr _,fun q q1 q2=>Yy0⟩
 have:=read_whole W.vs hm h0 h1
 rwa [mv_n W t h (nlr _) (nlr _)] at this
end Go.Proofs.YtieflhncpjjciaaGreatDoor.Dc
