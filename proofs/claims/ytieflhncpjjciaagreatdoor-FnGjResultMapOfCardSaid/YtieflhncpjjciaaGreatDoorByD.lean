/- Walks and plain laws of this claim. -/
import Derived.Test.YtieflhncpjjciaaGreatDoorVx3
import Derived.Test.YtieflhncpjjciaaGreatDoorVx4
import Derived.Test.YtieflhncpjjciaaGreatDoorByA
set_option linter.unusedVariables false
set_option linter.unusedSimpArgs false
namespace Go.Proofs.YtieflhncpjjciaaGreatDoor.PFnGjSquashItems
open Go.RowKit Go.Proofs.YtieflhncpjjciaaGreatDoorW.PrintWords
theorem w64 {x:Int} (h1:-9223372036854775808≤x) (h2:x<9223372036854775808):wrap64 x=x:=by unfold wrap64;omega
theorem bt_out (s:ByteArray) (i:Nat) (h:s.size≤i):bt s (i:Int)=0:=by
 unfold bt;rw [dif_neg];simp only [Int.toNat_natCast];omega
theorem bt_in {s:ByteArray} {i:Nat} {c:Int} (h:bt s (i:Int)=c) (hc:c≠0):i<s.size:=by
 rcases Nat.lt_or_ge i s.size with h1 | h1
 ·
  exact h1
 ·
  rw [bt_out s i h1] at h;exact absurd h.symm hc
theorem Ev.is {α:Type} {g:Nat→Option α} {a:α} (h:∀ k,g k=some a):Ev g a:=⟨0,fun k _=>h k⟩
theorem Ev.two {α β:Type} {g:Nat→Option α} {f:Nat→α→Option β} {a:α} {r:β} (h:Ev g a) (k:Ev (fun n=>f n a) r):Ev (fun n=>(g n).bind fun x=>f n x) r:=Ev.bind h k
def isB (c:Int):Bool:=c == 32 || c == 9 || c == 10 || c == 13
theorem isB_iff (c:Int):isB c=true↔c=32∨c=9∨c=10∨c=13:=by simp [isB,or_assoc]
theorem isB_le {c:Int} (h:isB c=true):c≤32:=by rw [isB_iff] at h;omega
theorem blank_f (c:Int):spec_Blank.f c=some (isB c):=by
 unfold spec_Blank.f isB
 by_cases h1:c=32
 ·
  simp [h1]
 ·
  by_cases h2:c=9
  ·
   simp [h2]
  ·
   by_cases h3:c=10
   ·
    simp [h3]
   ·
    simp [h1,h2,h3]
def Blk (s:ByteArray) (i j:Nat):Prop:=i≤j∧j≤s.size∧∀ q,i≤q→q<j→isB (bt s (q:Int))=true
theorem blanks_ev {s:ByteArray} (hn:s.size≤65536):∀ m i,s.size - i=m→i≤s.size→∃ j,Blk s i j∧(j<s.size→isB (bt s (j:Int))=false)∧Ev (fun k=>spec_reader_blanks.f k s (i:Int)) (s,(j:Int)):=by
 intro m
 induction m with
 | zero=>
  intro i hm hi
  refine ⟨i,⟨nlr _,hi,fun q h1 h2=>Yy0⟩,fun h=>Yy0,Ev.step (f:=fun _=>some (s,(i:Int))) (fun k=>?_) (Ev.now _)⟩
  rw [spec_reader_blanks.f,spec_reader_blanks.l0,if_neg Yy0]
 | succ m ih=>
  intro i hm hi
  have hlt:i<s.size:=Yy0
  by_cases hb:isB (bt s (i:Int))=true
  ·
   obtain ⟨j,⟨h1,h2,h3⟩,h4,h5⟩:=ih (i+1) Yy0 Yy0
   refine ⟨j,⟨Yy0,h2,fun q hq1 hq2=>?_⟩,h4,Ev.step (f:=fun k=>spec_reader_blanks.f k s ((i+1:Nat):Int)) (fun k=>?_) h5⟩
   ·
    rcases eol hq1 with h | h
    ·
     rw [← h];exact hb
    ·
     exact h3 q h hq2
   ·
    rw [spec_reader_blanks.f,spec_reader_blanks.l0,if_pos Yy0,if_pos Yy0,blank_f,Option.bind_some,if_pos hb,w64 Yy0 Yy0]
    rfl
  ·
   refine ⟨i,⟨nlr _,hi,fun q h1 h2=>Yy0⟩,fun _=>by simpa using hb,Ev.step (f:=fun _=>some (s,(i:Int))) (fun k=>?_) (Ev.now _)⟩
   rw [spec_reader_blanks.f,spec_reader_blanks.l0,if_pos Yy0,if_pos Yy0,blank_f,Option.bind_some,if_neg hb]
theorem here_f (s:ByteArray) (i:Nat):spec_reader_here.f s (i:Int)=some (bt s (i:Int),s,(i:Int)):=by
 unfold spec_reader_here.f
 by_cases h:(i:Int)<(s.size:Int)
 ·
  rw [if_pos h,if_pos Yy0]
 ·
  rw [if_neg h,bt_out s i Yy0]
theorem take_f {s:ByteArray} (hn:s.size≤65536) (i:Nat) (c:Int) (hc:c≠0):spec_reader_take.f s (i:Int) c=some (if bt s (i:Int)=c then (true,s,((i+1:Nat):Int)) else (false,s,(i:Int))):=by
 unfold spec_reader_take.f
 by_cases h:(i:Int)<(s.size:Int)
 ·
  rw [if_pos h,if_pos Yy0]
  by_cases h2:bt s (i:Int)=c
  ·
   rw [if_pos h2,if_pos h2,w64 Yy0 Yy0];rfl
  ·
   rw [if_neg h2,if_neg h2]
 ·
  rw [if_neg h,if_neg]
  intro h2
  exact h (by have:=bt_in h2 hc;omega)
def odd (s:ByteArray) (i:Nat):Nat→Bool
 | 0=>false
 | p+1=>if i<p∧bt s (p:Int)=92 then !odd s i p else false
def isHex (c:Int):Bool:=(decide (48≤c) && decide (c≤57)) || (decide (97≤c) && decide (c≤102)) || (decide (65≤c) && decide (c≤70))
theorem hex_ev (c:Int):∃ v,Ev (fun k=>spec_hexDigit.f k c) (v,isHex c):=by
 by_cases h1:48≤c∧c≤57
 ·
  refine ⟨(c - 48) % 256,Ev.step (f:=fun _=>some ((c - 48) % 256,true)) (fun k=>?_) ?_⟩
  ·
   rw [spec_hexDigit.f,if_pos h1.1,dtt h1.2,spec_hexDigit.j0,if_pos rfl]
  ·
   rw [show isHex c=true by simp [isHex,h1]];exact Ev.now _
 ·
  have hj:∀ k,spec_hexDigit.f (k+1) c=(if 97≤c then (spec_hexDigit.j1 k c (decide (c≤102))) else (spec_hexDigit.j1 k c false)):=by
   intro k
   rw [spec_hexDigit.f]
   by_cases h2:48≤c
   ·
    rw [if_pos h2,dff Yy0,spec_hexDigit.j0,if_neg Yy4]
   ·
    rw [if_neg h2,spec_hexDigit.j0,if_neg Yy4]
  by_cases h2:97≤c∧c≤102
  ·
   refine ⟨((c - 97) % 256)+10,Ev.step (f:=fun k=>spec_hexDigit.j1 k c true) (fun k=>?_) (Ev.step (f:=fun _=>some (((c - 97) % 256)+10,isHex c)) (fun k=>?_) (Ev.now _))⟩
   ·
    rw [hj,if_pos h2.1,dtt h2.2]
   ·
    rw [spec_hexDigit.j1,if_pos rfl,show isHex c=true by simp [isHex,h2]]
  ·
   have hj2:∀ k,spec_hexDigit.f (k+1+1) c=(if 65≤c then (if c≤70 then (some (((c - 65) % 256)+10,true)) else (some (0,false))) else (some (0,false))):=by
    intro k
    rw [hj]
    by_cases h3:97≤c
    ·
     rw [if_pos h3,dff Yy0,spec_hexDigit.j1,if_neg Yy4]
    ·
     rw [if_neg h3,spec_hexDigit.j1,if_neg Yy4]
   by_cases h3:65≤c∧c≤70
   ·
    refine ⟨((c - 65) % 256)+10,2,fun k hk=>?_⟩
    obtain ⟨k,rfl⟩:∃ k',k=k'+1+1:=⟨k - 2,Yy0⟩
    show spec_hexDigit.f (k+1+1) c=_
    rw [hj2,if_pos h3.1,if_pos h3.2,show isHex c=true by simp [isHex,h3]]
   ·
    refine ⟨0,2,fun k hk=>?_⟩
    obtain ⟨k,rfl⟩:∃ k',k=k'+1+1:=⟨k - 2,Yy0⟩
    have h4:isHex c=false:=by
     simp only [isHex,Bool.or_eq_false_iff,Bool.and_eq_false_iff,decide_eq_false_iff_not]
     omega
    show spec_hexDigit.f (k+1+1) c=_
    rw [hj2,h4]
    by_cases h5:65≤c
    ·
     rw [if_pos h5,if_neg Yy0]
    ·
     rw [if_neg h5]
theorem isHex_no {c:Int} (h:isHex c=true):c≠34∧c≠92∧c≠0:=by
 simp only [isHex,Bool.or_eq_true,Bool.and_eq_true,decide_eq_true_eq] at h
 omega
theorem hex4_ev {s:ByteArray} (hn:s.size≤65536):∀ m d i,4 - d=m→d≤4→i≤s.size→∃ ok j,Ev (fun k=>spec_reader_escape.l0 k (d:Nat) s (i:Int)) (ok,s,((j:Nat):Int))∧i≤j∧j≤s.size∧(ok=true→j=i+m∧∀ q,i≤q→q<j→isHex (bt s (q:Int))=true):=by
 intro m
 induction m with
 | zero=>
  intro d i hd hd4 hi
  refine ⟨true,i,Ev.step (f:=fun _=>some (true,s,(i:Int))) (fun k=>?_) (Ev.now _),nlr _,hi,fun _=>⟨rfl,fun q h1 h2=>Yy0⟩⟩
  rw [spec_reader_escape.l0,if_neg Yy0]
 | succ m ih=>
  intro d i hd hd4 hi
  obtain ⟨v,hv⟩:=hex_ev (bt s (i:Int))
  have hst:∀ k,spec_reader_escape.l0 (k+1) (d:Nat) s (i:Int)=(spec_hexDigit.f k (bt s (i:Int))).bind fun bt108=>(if bt108.2=true then (spec_reader_escape.l0 k (wrap64 ((d:Int)+1)) s (wrap64 ((i:Int)+1))) else (some (false,s,(i:Int)))):=by
   intro k
   rw [spec_reader_escape.l0,if_pos Yy0,here_f,Option.bind_some]
  cases hx:isHex (bt s (i:Int)) with
  | false=>
   refine ⟨false,i,Ev.step hst (Ev.bind hv ?_),nlr _,hi,fun h=>Yy10⟩
   simp only [hx]
   exact Ev.now _
  | true=>
   have hlt:i<s.size:=bt_in rfl (isHex_no hx).2.2
   obtain ⟨ok,j,h1,h2,h3,h4⟩:=ih (d+1) (i+1) Yy0 Yy0 Yy0
   refine ⟨ok,j,Ev.step hst (Ev.bind hv ?_),Yy0,h3,fun h=>⟨by have:=(h4 h).1;omega,fun q hq1 hq2=>?_⟩⟩
   ·
    simp only [hx,if_true]
    rw [w64 Yy0 Yy0,w64 Yy0 Yy0]
    exact h1
   ·
    rcases eol hq1 with h5 | h5
    ·
     rw [← h5];exact hx
    ·
     exact (h4 h).2 q h5 hq2
def EscAt (s:ByteArray) (i j:Nat):Prop:=
 (j=i+1∧(bt s (i:Int)=34∨bt s (i:Int)=92∨bt s (i:Int)=47∨bt s (i:Int)=98∨bt s (i:Int)=102∨bt s (i:Int)=110∨bt s (i:Int)=114∨bt s (i:Int)=116)) ∨
  (j=i+5∧bt s (i:Int)=117∧∀ q,i<q→q<j→isHex (bt s (q:Int))=true)
inductive Tk (s:ByteArray) (e:Nat):Nat→Prop
 | nil:Tk s e e
 | plain {i:Nat} (h:i<e) (c32:32≤bt s (i:Int)) (c34:bt s (i:Int)≠34) (c92:bt s (i:Int)≠92) (r:Tk s e (i+1)):Tk s e i
 | esc {i j:Nat} (h92:bt s (i:Int)=92) (hj:EscAt s (i+1) j) (hje:j≤e) (r:Tk s e j):Tk s e i
theorem escape_ev {s:ByteArray} (hn:s.size≤65536) (b i:Nat) (hi:i≤s.size) (hb:b<i) (ho:odd s b i=true):∃ ok j,Ev (fun k=>spec_reader_escape.f k s (i:Int)) (ok,s,((j:Nat):Int))∧i≤j∧j≤s.size∧(ok=true→i<j∧odd s b j=false∧(∀ q,i≤q→q<j→bt s (q:Int)=34→odd s b q=true)∧EscAt s i j):=by
 generalize hc:bt s (i:Int)=c
 by_cases hs:c=34∨c=92∨c=47∨c=98∨c=102∨c=110∨c=114∨c=116
 ·
  have hlt:i<s.size:=bt_in hc Yy0
  refine ⟨true,i+1,Ev.step (f:=fun _=>some (true,s,((i+1:Nat):Int))) (fun k=>?_) (Ev.now _),Yy0,hlt,fun _=>⟨Yy0,?_,fun q h1 h2 _=>?_,.inl ⟨rfl,by rw [hc];exact hs⟩⟩⟩
  ·
   rw [spec_reader_escape.f,here_f,Option.bind_some,hc]
   have e:wrap64 ((i:Int)+1)=((i+1:Nat):Int):=w64 Yy0 Yy0
   rcases hs with rfl | rfl | rfl | rfl | rfl | rfl | rfl | rfl <;> simp [spec_reader_escape.j0,e]
  ·
   rw [odd]
   by_cases h:b<i∧bt s (i:Int)=92
   ·
    rw [if_pos h,ho];rfl
   ·
    rw [if_neg h]
  ·
   have:q=i:=Yy0
   rw [this];exact ho
 ·
  have hf:∀ k,spec_reader_escape.f (k+1) s (i:Int)=if c=117 then (spec_reader_escape.l0 k 0 s (wrap64 ((i:Int)+1))) else (some (false,s,(i:Int))):=by
   intro k
   rw [spec_reader_escape.f,here_f,Option.bind_some,hc]
   simp only [not_or] at hs
   obtain ⟨n1,n2,n3,n4,n5,n6,n7,n8⟩:=hs
   have n9:(c == 116)=false:=bfo n8
   simp only [if_neg n1,if_neg n2,if_neg n3,if_neg n4,if_neg n5,if_neg n6,if_neg n7,n9,spec_reader_escape.j0]
   rfl
  by_cases hu:c=117
  ·
   have hlt:i<s.size:=bt_in hc Yy0
   obtain ⟨ok,j,h1,h2,h3,h4⟩:=hex4_ev hn 4 0 (i+1) rfl Yy0 Yy0
   refine ⟨ok,j,Ev.step hf ?_,Yy0,h3,fun h=>?_⟩
   ·
    simp only [if_pos hu]
    rw [w64 Yy0 Yy0]
    exact h1
   ·
    obtain ⟨h5,h6⟩:=h4 h
    refine ⟨Yy0,?_,fun q q1 q2 q3=>?_,.inr ⟨Yy0,by rw [hc];exact hu,fun q q1 q2=>h6 q q1 q2⟩⟩
    ·
     rw [h5,show i+1+4=(i+4)+1 from Yy0,odd,if_neg]
     intro hh
     exact (isHex_no (h6 (i+4) Yy0 Yy0)).2.1 hh.2
    ·
     rcases eol q1 with h7 | h7
     ·
      rw [← h7,hc,hu] at q3;exact absurd q3 Yy3
     ·
      exact absurd q3 (isHex_no (h6 q Yy0 q2)).1
  ·
   refine ⟨false,i,Ev.step hf ?_,nlr _,hi,fun h=>Yy10⟩
   simp only [if_neg hu]
   exact Ev.now _
def StrTok0 (s:ByteArray) (b j:Nat):Prop:=b+2≤j∧j≤s.size∧bt s (b:Int)=34∧bt s ((j - 1:Nat):Int)=34∧odd s b (j - 1)=false∧∀ q,b<q→q<j - 1→bt s (q:Int)=34→odd s b q=true
def StrTok (s:ByteArray) (b j:Nat):Prop:=StrTok0 s b j∧Tk s (j - 1) (b+1)
theorem Tk.le {s:ByteArray} {e i:Nat} (h:Tk s e i):i≤e:=by
 induction h with
 | nil=>exact nlr _
 | plain h _ _ _ _ _=>omega
 | esc _ hj hje _ _=>rcases hj with h | h <;> omega
theorem quotedl_ev {s:ByteArray} (hn:s.size≤65536) (b:Nat) (hb34:bt s (b:Int)=34):∀ m i,s.size - i≤m→b<i→i≤s.size→odd s b i=false→(∀ q,b<q→q<i→bt s (q:Int)=34→odd s b q=true)→∃ ok j,Ev (fun k=>spec_reader_quoted.l0 k s (i:Int)) (ok,s,((j:Nat):Int))∧i≤j∧j≤s.size∧(ok=true→StrTok0 s b j∧Tk s (j - 1) i):=by
 intro m
 induction m with
 | zero=>
  intro i hm hb hi ho hq
  refine ⟨false,i,Ev.step (f:=fun _=>some (false,s,(i:Int))) (fun k=>?_) (Ev.now _),nlr _,hi,fun h=>Yy10⟩
  rw [spec_reader_quoted.l0,if_neg Yy0]
 | succ m ih=>
  intro i hm hb hi ho hq
  by_cases hlt:i<s.size
  ·
   have e:wrap64 ((i:Int)+1)=((i+1:Nat):Int):=w64 Yy0 Yy0
   by_cases c34:bt s (i:Int)=34
   ·
    refine ⟨true,i+1,Ev.step (f:=fun _=>some (true,s,((i+1:Nat):Int))) (fun k=>?_) (Ev.now _),Yy0,hlt,fun _=>⟨⟨Yy0,hlt,hb34,by simpa using c34,by simpa using ho,fun q h1 h2 h3=>hq q h1 Yy0 h3⟩,by simpa using Tk.nil⟩⟩
    rw [spec_reader_quoted.l0,if_pos Yy0,if_pos Yy0,if_pos c34,e]
   ·
    by_cases c32:bt s (i:Int)<32
    ·
     refine ⟨false,i+1,Ev.step (f:=fun _=>some (false,s,((i+1:Nat):Int))) (fun k=>?_) (Ev.now _),Yy0,hlt,fun h=>Yy10⟩
     rw [spec_reader_quoted.l0,if_pos Yy0,if_pos Yy0,if_neg c34,if_pos c32,e]
    ·
     by_cases c92:bt s (i:Int)=92
     ·
      have ho1:odd s b (i+1)=true:=by rw [odd,if_pos ⟨hb,c92⟩,ho];rfl
      obtain ⟨ok,j,h1,h2,h3,h4⟩:=escape_ev hn b (i+1) hlt Yy0 ho1
      have hst:∀ k,spec_reader_quoted.l0 (k+1) s (i:Int)=(spec_reader_escape.f k s ((i+1:Nat):Int)).bind fun bt110=>(if bt110.1=true then (spec_reader_quoted.l0 k bt110.2.1 bt110.2.2) else (some (false,bt110.2.1,bt110.2.2))):=by
       intro k
       rw [spec_reader_quoted.l0,if_pos Yy0,if_pos Yy0,if_neg c34,if_neg c32,if_pos c92,e]
      cases ok with
      | false=>
       refine ⟨false,j,Ev.step hst (Ev.bind h1 ?_),Yy0,h3,fun h=>Yy10⟩
       exact Ev.now _
      | true=>
       obtain ⟨h5,h6,h7,h8e⟩:=h4 rfl
       obtain ⟨ok2,j2,k1,k2,k3,k4⟩:=ih j Yy0 Yy0 h3 h6 (fun q q1 q2 q3=>by
        rcases Nat.lt_or_ge q i with h8 | h8
        ·
         exact hq q q1 h8 q3
        ·
         rcases eol h8 with h9 | h9
         ·
          rw [← h9] at q3;exact absurd q3 c34
         ·
          exact h7 q Yy0 q2 q3)
       exact ⟨ok2,j2,Ev.step hst (Ev.bind h1 k1),Yy0,k3,fun h=>⟨(k4 h).1,.esc c92 h8e (by have:=(k4 h).2.le;omega) (k4 h).2⟩⟩
     ·
      obtain ⟨ok,j,h1,h2,h3,h4⟩:=ih (i+1) Yy0 Yy0 hlt (by rw [odd,if_neg (fun h=>c92 h.2)]) (fun q q1 q2 q3=>by
        rcases Nat.lt_or_ge q i with h8 | h8
        ·
         exact hq q q1 h8 q3
        ·
         rw [show q=i from Yy0] at q3;exact absurd q3 c34)
      refine ⟨ok,j,Ev.step (f:=fun k=>spec_reader_quoted.l0 k s ((i+1:Nat):Int)) (fun k=>?_) h1,Yy0,h3,fun h=>⟨(h4 h).1,.plain (by have:=(h4 h).2.le;omega) Yy0 c34 c92 (h4 h).2⟩⟩
      rw [spec_reader_quoted.l0,if_pos Yy0,if_pos Yy0,if_neg c34,if_neg c32,if_neg c92,e]
  ·
   refine ⟨false,i,Ev.step (f:=fun _=>some (false,s,(i:Int))) (fun k=>?_) (Ev.now _),nlr _,hi,fun h=>Yy10⟩
   rw [spec_reader_quoted.l0,if_neg Yy0]
theorem quoted_ev {s:ByteArray} (hn:s.size≤65536) (b:Nat) (h34:bt s (b:Int)=34):∃ ok j,Ev (fun k=>spec_reader_quoted.f k s (b:Int)) (ok,s,((j:Nat):Int))∧b<j∧j≤s.size∧(ok=true→StrTok s b j):=by
 have hlt:b<s.size:=bt_in h34 Yy3
 obtain ⟨ok,j,h1,h2,h3,h4⟩:=quotedl_ev hn b h34 _ (b+1) (nlr _) Yy0 hlt (by rw [odd,if_neg (fun h=>Nat.lt_irrefl _ h.1)]) (fun q q1 q2 _=>Yy0)
 refine ⟨ok,j,Ev.congr (fun k=>?_) h1,Yy0,h3,h4⟩
 rw [spec_reader_quoted.f,w64 Yy0 Yy0]
 rfl
def numOK (c:Int):Prop:=c=43∨c=45∨c=46∨(48≤c∧c≤57)∨c=69∨c=101
theorem digitsl_ev {s:ByteArray} (hn:s.size≤65536) (b:Nat):∀ m i,s.size - i≤m→i≤s.size→b≤i→∃ j,Ev (fun k=>spec_reader_digits.l0 k (b:Int) (bt s (i:Int)) s (i:Int)) (decide (b<j),s,((j:Nat):Int))∧i≤j∧j≤s.size∧(∀ q,i≤q→q<j→numOK (bt s (q:Int))):=by
 intro m
 induction m with
 | zero=>
  intro i hm hi hb
  refine ⟨i,Ev.step (f:=fun _=>some (decide (b<i),s,(i:Int))) (fun k=>?_) (Ev.now _),nlr _,hi,fun q h1 h2=>Yy0⟩
  rw [spec_reader_digits.l0,bt_out s i Yy0,if_neg Yy0]
  simp only [gt_iff_lt,Int.ofNat_lt]
 | succ m ih=>
  intro i hm hi hb
  by_cases hd:48≤bt s (i:Int)∧bt s (i:Int)≤57
  ·
   have hlt:i<s.size:=bt_in rfl Yy0
   obtain ⟨j,h1,h2,h3,h4⟩:=ih (i+1) Yy0 hlt Yy0
   refine ⟨j,Ev.step (f:=fun k=>spec_reader_digits.l0 k (b:Int) (bt s ((i+1:Nat):Int)) s ((i+1:Nat):Int)) (fun k=>?_) h1,Yy0,h3,fun q q1 q2=>?_⟩
   ·
    rw [spec_reader_digits.l0,if_pos hd.1,if_pos hd.2,w64 Yy0 Yy0,show (i:Int)+1=((i+1:Nat):Int) from rfl,here_f,Option.bind_some]
   ·
    rcases eol q1 with h5 | h5
    ·
     rw [← h5];unfold numOK;omega
    ·
     exact h4 q h5 q2
  ·
   refine ⟨i,Ev.step (f:=fun _=>some (decide (b<i),s,(i:Int))) (fun k=>?_) (Ev.now _),nlr _,hi,fun q h1 h2=>Yy0⟩
   rw [spec_reader_digits.l0]
   by_cases h1:48≤bt s (i:Int)
   ·
    rw [if_pos h1,if_neg Yy0];simp only [gt_iff_lt,Int.ofNat_lt]
   ·
    rw [if_neg h1];simp only [gt_iff_lt,Int.ofNat_lt]
theorem digits_ev {s:ByteArray} (hn:s.size≤65536) (i:Nat) (hi:i≤s.size):∃ j,Ev (fun k=>spec_reader_digits.f k s (i:Int)) (decide (i<j),s,((j:Nat):Int))∧i≤j∧j≤s.size∧(∀ q,i≤q→q<j→numOK (bt s (q:Int))):=by
 obtain ⟨j,h1,h2⟩:=digitsl_ev hn i _ i (nlr _) hi (nlr _)
 refine ⟨j,Ev.congr (fun k=>?_) h1,h2⟩
 rw [spec_reader_digits.f,here_f,Option.bind_some]
theorem take_ev {s:ByteArray} (hn:s.size≤65536) (i:Nat) (c:Int) (hc:numOK c) (hi:i≤s.size):∃ ok j,(∀ k:Nat,(fun _:Nat=>spec_reader_take.f s (i:Int) c) k=some (ok,s,((j:Nat):Int)))∧i≤j∧j≤s.size∧(∀ q,i≤q→q<j→numOK (bt s (q:Int)))∧(ok=true→i<j):=by
 by_cases h:bt s (i:Int)=c
 ·
  have hlt:i<s.size:=bt_in h Yy62
  refine ⟨true,i+1,fun k=>?_,Yy0,hlt,fun q q1 q2=>?_,fun _=>Yy0⟩
  ·
   simp only [take_f hn i c Yy62,if_pos h]
  ·
   rw [show q=i from Yy0,h];exact hc
 ·
  refine ⟨false,i,fun k=>?_,nlr _,hi,fun q q1 q2=>Yy0,fun h=>Yy10⟩
  simp only [take_f hn i c Yy62,if_neg h]
def NumTo (s:ByteArray) (i:Nat) (g:Nat→Option (Bool×ByteArray×Int)):Prop:=∃ ok j,Ev g (ok,s,((j:Nat):Int))∧i≤j∧j≤s.size∧(∀ q,i≤q→q<j→numOK (bt s (q:Int)))
theorem NumTo.more {s:ByteArray} {i j:Nat} {g:Nat→Option (Bool×ByteArray×Int)} (hij:i≤j) (h:∀ q,i≤q→q<j→numOK (bt s (q:Int))) (k:NumTo s j g):NumTo s i g:=by
 obtain ⟨ok,j2,h1,h2,h3,h4⟩:=k
 exact ⟨ok,j2,h1,Yy0,h3,fun q q1 q2=>by
  rcases Nat.lt_or_ge q j with h5 | h5
  ·
   exact h q q1 h5
  ·
   exact h4 q h5 q2⟩
theorem NumTo.step {s:ByteArray} {i:Nat} {g f:Nat→Option (Bool×ByteArray×Int)} (h:∀ k,g (k+1)=f k) (k:NumTo s i f):NumTo s i g:=by
 obtain ⟨ok,j,h1,h2⟩:=k
 exact ⟨ok,j,Ev.step h h1,h2⟩
theorem NumTo.now {s:ByteArray} {i:Nat} (ok:Bool) (hi:i≤s.size):NumTo s i (fun _=>some (ok,s,(i:Int))):=⟨ok,i,Ev.now _,nlr _,hi,fun q h1 h2=>Yy0⟩
theorem NumTo.congr {s:ByteArray} {i:Nat} {g f:Nat→Option (Bool×ByteArray×Int)} (h:∀ k,g k=f k) (k:NumTo s i f):NumTo s i g:=by
 obtain ⟨ok,j,h1,h2⟩:=k
 exact ⟨ok,j,Ev.congr h h1,h2⟩
theorem NumTo.take {s:ByteArray} (hn:s.size≤65536) {i:Nat} (hi:i≤s.size) (c:Int) (hc:numOK c) {f:Nat→Bool×ByteArray×Int→Option (Bool×ByteArray×Int)}
  (h:∀ ok j,i≤j→j≤s.size→(ok=true→i<j)→NumTo s j (fun k=>f k (ok,s,(j:Int)))):NumTo s i (fun k=>(spec_reader_take.f s (i:Int) c).bind (f k)):=by
 obtain ⟨ok,j,h1,h2,h3,h4,h5⟩:=take_ev hn i c hc hi
 refine NumTo.more h2 h4 (NumTo.congr (fun k=>?_) (h ok j h2 h3 h5))
 have:=h1 k
 simp only [this,Option.bind_some]
theorem NumTo.digits {s:ByteArray} (hn:s.size≤65536) {i:Nat} (hi:i≤s.size) {f:Nat→Bool×ByteArray×Int→Option (Bool×ByteArray×Int)}
  (h:∀ j,i≤j→j≤s.size→NumTo s j (fun k=>f k (decide (i<j),s,(j:Int)))):NumTo s i (fun k=>(spec_reader_digits.f k s (i:Int)).bind (f k)):=by
 obtain ⟨j,h1,h2,h3,h4⟩:=digits_ev hn i hi
 obtain ⟨ok,j2,k1,k2,k3,k4⟩:=h j h2 h3
 exact NumTo.more h2 h4 ⟨ok,j2,Ev.bind h1 k1,k2,k3,k4⟩
theorem number_j2 {s:ByteArray} (hn:s.size≤65536) (i:Nat) (hi:i≤s.size) (x:Bool):NumTo s i (fun k=>spec_reader_number.j2 k x s (i:Int)):=by
 cases x with
 | false=>exact NumTo.step (fun k=>Yy85) (NumTo.now true hi)
 | true=>
  refine NumTo.step (fun k=>Yy68) (NumTo.take hn hi 43 Yy17 fun ok j h1 h2 _=>?_)
  cases ok with
  | true=>exact NumTo.digits hn h2 fun j2 h3 h4=>NumTo.now _ h4
  | false=>exact NumTo.take hn h2 45 Yy17 fun ok j2 h3 h4 _=>NumTo.digits hn h4 fun j3 h5 h6=>NumTo.now _ h6
theorem number_j1 {s:ByteArray} (hn:s.size≤65536) (i:Nat) (hi:i≤s.size) (x:Bool):NumTo s i (fun k=>spec_reader_number.j1 k x s (i:Int)):=by
 cases x with
 | true=>exact NumTo.step (fun k=>Yy69) (NumTo.now false hi)
 | false=>
  refine NumTo.step (fun k=>Yy86) (NumTo.take hn hi 101 Yy17 fun ok j h1 h2 _=>?_)
  cases ok with
  | true=>exact number_j2 hn j h2 true
  | false=>exact NumTo.take hn h2 69 Yy17 fun ok j2 h3 h4 _=>number_j2 hn j2 h4 ok
theorem number_j0 {s:ByteArray} (hn:s.size≤65536) (i:Nat) (hi:i≤s.size) (x:Bool):NumTo s i (fun k=>spec_reader_number.j0 k x s (i:Int)):=by
 cases x with
 | true=>exact NumTo.step (fun k=>Yy70) (NumTo.now false hi)
 | false=>
  refine NumTo.step (fun k=>Yy87) (NumTo.take hn hi 46 Yy17 fun ok j h1 h2 _=>?_)
  cases ok with
  | true=>exact NumTo.digits hn h2 fun j2 h3 h4=>number_j1 hn j2 h4 _
  | false=>exact number_j1 hn j h2 false
theorem number_ev {s:ByteArray} (hn:s.size≤65536) (i:Nat) (hi:i≤s.size):∃ ok j,Ev (fun k=>spec_reader_number.f k s (i:Int)) (ok,s,((j:Nat):Int))∧i≤j∧j≤s.size∧(ok=true→i<j∧∀ q,i≤q→q<j→numOK (bt s (q:Int))):=by
 obtain ⟨ok1,j1,a1,a2,a3,a4,a5⟩:=take_ev hn i 45 Yy17 hi
 obtain ⟨ok2,j2,b1,b2,b3,b4,b5⟩:=take_ev hn j1 48 Yy17 a3
 have hu:∀ k,spec_reader_number.f k s (i:Int)=(if ok2=true then (spec_reader_number.j0 k false s (j2:Int)) else ((spec_reader_digits.f k s (j2:Int)).bind fun bt125=>(spec_reader_number.j0 k (!bt125.1) bt125.2.1 bt125.2.2))):=by
  intro k
  have e1:=a1 k
  have e2:=b1 k
  simp only at e1 e2
  rw [spec_reader_number.f,e1,Option.bind_some]
  simp only
  rw [e2,Option.bind_some]
 cases ok2 with
 | true=>
  obtain ⟨ok,j,h1,h2,h3,h4⟩:=number_j0 hn j2 b3 false
  refine ⟨ok,j,Ev.congr (fun k=>by rw [hu,if_pos rfl]) h1,Yy0,h3,fun _=>⟨by have:=b5 rfl;omega,fun q q1 q2=>?_⟩⟩
  rcases Nat.lt_or_ge q j1 with c1 | c1
  ·
   exact a4 q q1 c1
  ·
   rcases Nat.lt_or_ge q j2 with c2 | c2
   ·
    exact b4 q c1 c2
   ·
    exact h4 q c2 q2
 | false=>
  obtain ⟨j3,d1,d2,d3,d4⟩:=digits_ev hn j2 b3
  obtain ⟨ok,j,h1,h2,h3,h4⟩:=number_j0 hn j3 d3 (!(decide (j2<j3)))
  by_cases hd:j2<j3
  ·
   refine ⟨ok,j,Ev.congr (fun k=>by rw [hu,if_neg Yy4]) (Ev.bind d1 h1),Yy0,h3,fun _=>⟨Yy0,fun q q1 q2=>?_⟩⟩
   rcases Nat.lt_or_ge q j1 with c1 | c1
   ·
    exact a4 q q1 c1
   ·
    rcases Nat.lt_or_ge q j2 with c2 | c2
    ·
     exact b4 q c1 c2
    ·
     rcases Nat.lt_or_ge q j3 with c3 | c3
     ·
      exact d4 q c2 c3
     ·
      exact h4 q c3 q2
  ·
   refine ⟨false,j3,Ev.congr (fun k=>by rw [hu,if_neg Yy4]) (Ev.bind d1 ?_),Yy0,d3,fun h=>Yy10⟩
   rw [dff hd]
   exact Ev.step (f:=fun _=>some (false,s,(j3:Int))) (fun k=>by simp [spec_reader_number.j0]) (Ev.now _)
def IsWord (s:ByteArray) (i:Nat) (w:ByteArray):Prop:=i+w.size≤s.size∧(s.extract i (i+w.size)).toList=w.toList
theorem word_f {s:ByteArray} (hn:s.size≤65536) (i:Nat) (hi:i≤s.size) (w:ByteArray) (hw:w.size≤10):∃ ok j,spec_reader_word.f s (i:Int) w=some (ok,s,((j:Nat):Int))∧i≤j∧j≤s.size∧(ok=true→j=i+w.size∧IsWord s i w)∧(ok=false→j=i):=by
 unfold spec_reader_word.f
 rw [w64 Yy0 Yy0,w64 Yy0 Yy0]
 by_cases h:(s.size:Int) - (i:Int)<(w.size:Int)
 ·
  exact ⟨false,i,by rw [if_pos h],nlr _,hi,fun h=>Yy10,fun _=>rfl⟩
 ·
  rw [if_neg h,if_pos Yy0,if_pos Yy0,if_pos Yy0]
  have e1:((i:Int)).toNat=i:=Yy0
  have e2:((i:Int)+(w.size:Int)).toNat=i+w.size:=Yy0
  rw [e1,e2]
  by_cases h2:(s.extract i (i+w.size)).toList=w.toList
  ·
   exact ⟨true,i+w.size,by rw [if_pos h2];rfl,Yy0,Yy0,fun _=>⟨rfl,Yy0,h2⟩,fun h=>Yy10⟩
  ·
   exact ⟨false,i,by rw [if_neg h2],nlr _,hi,fun h=>Yy10,fun _=>rfl⟩
mutual
inductive T where
 | leaf (kd:Int) (i j:Nat)
 | arr (i j:Nat) (es:Es)
 | obj (i j:Nat) (ms:Ms)
inductive Es where
 | nil
 | cons (t:T) (r:Es)
inductive Ms where
 | nil
 | cons (ni nj:Nat) (t:T) (r:Ms)
end
mutual
def T.s:T→S47
 | .leaf kd i j=>⟨kd,(i:Int),(j:Int),[],[]⟩
 | .arr i j es=>⟨5,(i:Int),(j:Int),[],es.l⟩
 | .obj i j ms=>⟨6,(i:Int),(j:Int),ms.names,ms.l⟩
def Es.l:Es→List S47
 | .nil=>[]
 | .cons t r=>t.s :: r.l
def Ms.l:Ms→List S47
 | .nil=>[]
 | .cons ni nj t r=>t.s :: r.l
def Ms.names:Ms→List S121
 | .nil=>[]
 | .cons ni nj t r=>⟨(ni:Int),(nj:Int)⟩ :: r.names
end
def T.i:T→Nat
 | .leaf kd i j=>i
 | .arr i j es=>i
 | .obj i j ms=>i
def T.j:T→Nat
 | .leaf kd i j=>j
 | .arr i j es=>j
 | .obj i j ms=>j
def wNull:ByteArray:=⟨#[110,117,108,108]⟩
def wFalse:ByteArray:=⟨#[102,97,108,115,101]⟩
def wTrue:ByteArray:=⟨#[116,114,117,101]⟩
def LeafOK (s:ByteArray) (kd:Int) (i j:Nat):Prop:=
 (kd=4∧StrTok s i j)∨(kd=3∧(bt s (i:Int)=45∨(48≤bt s (i:Int)∧bt s (i:Int)≤57))∧(∀ q,i≤q→q<j→numOK (bt s (q:Int)))∧Ev (fun k=>spec_reader_number.f k s (i:Int)) (true,s,(j:Int))) ∨
  (kd=0∧j=i+4∧IsWord s i wNull)∨(kd=1∧j=i+5∧IsWord s i wFalse)∨(kd=2∧j=i+4∧IsWord s i wTrue)
mutual
def T.wf (s:ByteArray):T→Prop
 | .leaf kd i j=>i<j∧j≤s.size∧LeafOK s kd i j
 | .arr i j es=>bt s (i:Int)=91∧i<j∧∃ p,Blk s (i+1) p∧((bt s (p:Int)=93∧j=p+1∧es = .nil)∨es.wf s p j)
 | .obj i j ms=>bt s (i:Int)=123∧i<j∧∃ p,Blk s (i+1) p∧((bt s (p:Int)=125∧j=p+1∧ms = .nil)∨ms.wf s p j)
def Es.wf (s:ByteArray):Es→Nat→Nat→Prop
 | .nil,_,_=>False
 | .cons t r,p,j=>t.wf s∧t.i=p∧∃ q,Blk s t.j q∧((bt s (q:Int)=93∧r = .nil∧j=q+1)∨(bt s (q:Int)=44∧∃ p',Blk s (q+1) p'∧r.wf s p' j))
def Ms.wf (s:ByteArray):Ms→Nat→Nat→Prop
 | .nil,_,_=>False
 | .cons ni nj t r,p,j=>ni=p∧StrTok s ni nj∧∃ c,Blk s nj c∧bt s (c:Int)=58∧∃ v,Blk s (c+1) v∧t.wf s∧t.i=v ∧
   ∃ q,Blk s t.j q∧((bt s (q:Int)=125∧r = .nil∧j=q+1)∨(bt s (q:Int)=44∧∃ p',Blk s (q+1) p'∧r.wf s p' j))
end
def ValAt (s:ByteArray) (i:Nat):Prop:=∃ kd b e nm kids ok j,Ev (fun k=>spec_reader_value.f k s (i:Int)) (kd,b,e,nm,kids,ok,s,((j:Nat):Int))∧i≤j∧j≤s.size ∧
 (ok=true→i<j∧∃ t:T,t.wf s∧t.s=⟨kd,b,e,nm,kids⟩∧t.i=i∧t.j=j)
theorem elements_ev {s:ByteArray} (hn:s.size≤65536) (i0:Nat) (H:∀ p,i0<p→p≤s.size→ValAt s p):∀ m p,s.size - p≤m→i0<p→p≤s.size→∀ x4:List S47,x4.length+(s.size - p)≤65536 →
  ∃ l ok j,Ev (fun k=>spec_reader_elements.l0 k x4 s (p:Int)) (l,ok,s,((j:Nat):Int))∧p≤j∧j≤s.size∧(ok=true→p<j∧∃ es:Es,es.wf s p j∧l=x4 ++ es.l):=by
 intro m
 induction m with
 | zero=>
  intro p hm hp hps x4 hx
  obtain ⟨kd,b,e,nm,kids,ok,j,hv,h1,h2,h3⟩:=H p hp hps
  cases ok with
  | true=>obtain ⟨h4,_⟩:=h3 rfl;exact absurd h4 Yy0
  | false=>exact ⟨[],false,j,Ev.step (fun k=>Yy40) (Ev.bind hv (Ev.now _)),h1,h2,fun h=>Yy10⟩
 | succ m ih=>
  intro p hm hp hps x4 hx
  obtain ⟨kd,b,e,nm,kids,ok,j,hv,h1,h2,h3⟩:=H p hp hps
  cases ok with
  | false=>exact ⟨[],false,j,Ev.step (fun k=>Yy40) (Ev.bind hv (Ev.now _)),h1,h2,fun h=>Yy10⟩
  | true=>
   obtain ⟨h4,t,ht,hts,hti,htj⟩:=h3 rfl
   obtain ⟨q,hq,_,hqe⟩:=blanks_ev hn _ j rfl h2
   have hq1:=hq.1
   have hq2:=hq.2.1
   have hy:x4 ++ [(⟨kd,b,e,nm,kids⟩:S47)]=x4 ++ [t.s]:=by rw [hts]
   by_cases c93:bt s (q:Int)=93
   ·
    have hlt:=bt_in c93 Yy3
    refine ⟨x4 ++ [t.s],true,q+1,Ev.step (fun k=>Yy40) (Ev.bind hv ?_),Yy0,Yy0,fun _=>⟨Yy0,.cons t .nil,?_,by simp [Es.l]⟩⟩
    ·
     simp only [if_true,Option.bind_some]
     refine Ev.congr (fun k=>Yy83) (Ev.bind hqe ?_)
     simp only [take_f hn q 93 Yy3,if_pos c93,Option.bind_some,if_true,hy]
     exact Ev.now _
    ·
     rw [Es.wf];exact ⟨ht,hti,q,htj ▸ hq,.inl ⟨c93,rfl,rfl⟩⟩
   ·
    by_cases c44:bt s (q:Int)=44
    ·
     have hlt:=bt_in c44 Yy3
     obtain ⟨p',hp',_,hpe⟩:=blanks_ev hn _ (q+1) rfl hlt
     have hp1:=hp'.1
     have hp2:=hp'.2.1
     obtain ⟨l,ok,j2,k1,k2,k3,k4⟩:=ih p' Yy0 Yy0 hp2 (x4 ++ [t.s]) Yy41
     refine ⟨l,ok,j2,Ev.step (fun k=>Yy40) (Ev.bind hv ?_),Yy0,k3,fun h=>?_⟩
     ·
      simp only [if_true,Option.bind_some]
      refine Ev.congr (fun k=>Yy83) (Ev.bind hqe ?_)
      simp only [take_f hn q 93 Yy3,if_neg c93,Option.bind_some,take_f hn q 44 Yy3,if_pos c44,if_true,hy]
      exact Ev.bind hpe k1
     ·
      obtain ⟨k5,es,k6,k7⟩:=k4 h
      refine ⟨Yy0,.cons t es,?_,by rw [k7,Es.l];simp⟩
      rw [Es.wf];exact ⟨ht,hti,q,htj ▸ hq,.inr ⟨c44,p',hp',k6⟩⟩
    ·
     refine ⟨[],false,q,Ev.step (fun k=>Yy40) (Ev.bind hv ?_),Yy0,Yy0,fun h=>Yy10⟩
     simp only [if_true,Option.bind_some]
     refine Ev.congr (fun k=>Yy83) (Ev.bind hqe ?_)
     simp only [take_f hn q 93 Yy3,if_neg c93,Option.bind_some,take_f hn q 44 Yy3,if_neg c44,hy]
     exact Ev.now _
theorem members_no {s:ByteArray} (k:Nat) (x5:List S121) (x6:List S47) (x7:Int) (j:Int):spec_reader_members.j1 (k+1) x5 x6 x7 true s j=some ([],[],false,s,j):=by
 rw [spec_reader_members.j1,if_pos rfl]
theorem members_ev {s:ByteArray} (hn:s.size≤65536) (i0:Nat) (H:∀ p,i0<p→p≤s.size→ValAt s p):∀ m p,s.size - p≤m→i0<p→p≤s.size→∀ (x5:List S121) (x6:List S47),x5.length+(s.size - p)≤65536→x6.length=x5.length →
  ∃ nm l ok j,Ev (fun k=>spec_reader_members.l0 k x5 x6 s (p:Int)) (nm,l,ok,s,((j:Nat):Int))∧p≤j∧j≤s.size∧(ok=true→p<j∧∃ ms:Ms,ms.wf s p j∧nm=x5 ++ ms.names∧l=x6 ++ ms.l):=by
 intro m
 induction m with
 | zero=>
  intro p hm hp hps x5 x6 hx hx6
  refine ⟨[],[],false,p,Ev.step (fun k=>by rw [spec_reader_members.l0,here_f,Option.bind_some,bt_out s p Yy0,if_neg (show ¬ ((0:Int)=34) from Yy3)]) (Ev.step (fun k=>members_no k x5 x6 (p:Int) (p:Int)) (Ev.now _)),nlr _,hps,fun h=>Yy10⟩
 | succ m ih=>
  intro p hm hp hps x5 x6 hx hx6
  by_cases c34:bt s (p:Int)=34
  ·
   have hplt:=bt_in c34 Yy3
   obtain ⟨qok,nj,hq,n1,n2,n3⟩:=quoted_ev hn p c34
   have st1:∀ k,spec_reader_members.l0 (k+1) x5 x6 s (p:Int)=((spec_reader_quoted.f k s (p:Int)).bind fun bt160=>(spec_reader_members.j1 k x5 x6 (p:Int) (!bt160.1) bt160.2.1 bt160.2.2)):=by
    intro k
    rw [spec_reader_members.l0,here_f,Option.bind_some,if_pos c34]
   cases qok with
   | false=>exact ⟨[],[],false,nj,Ev.step st1 (Ev.bind hq (Ev.step (fun k=>members_no k x5 x6 (p:Int) (nj:Int)) (Ev.now _))),Yy0,n2,fun h=>Yy10⟩
   | true=>
    have hstr:=n3 rfl
    obtain ⟨c,hc,_,hce⟩:=blanks_ev hn _ nj rfl n2
    have hc1:=hc.1
    have hc2:=hc.2.1
    have go:∀ {r},Ev (fun k=>(spec_reader_take.f s (c:Int) 58).bind fun bt168=>(if bt168.1=true then ((spec_reader_blanks.f k bt168.2.1 bt168.2.2).bind fun bt171=>((spec_reader_value.f k bt171.1 bt171.2).bind fun bt173=>(if bt173.2.2.2.2.2.1=true then (if x6.length<1954687338268 then ((some (x6 ++ [(⟨bt173.1,bt173.2.1,bt173.2.2.1,bt173.2.2.2.1,bt173.2.2.2.2.1⟩:S47)]:List (S47))).bind fun y186=>((spec_reader_blanks.f k bt173.2.2.2.2.2.2.1 bt173.2.2.2.2.2.2.2).bind fun bt189=>((spec_reader_take.f bt189.1 bt189.2 125).bind fun bt191=>(if bt191.1=true then (some (x5 ++ [(⟨(p:Int),(nj:Int)⟩:S121)],y186,true,bt191.2.1,bt191.2.2)) else ((spec_reader_take.f bt191.2.1 bt191.2.2 44).bind fun bt194=>(if bt194.1=true then ((spec_reader_blanks.f k bt194.2.1 bt194.2.2).bind fun bt197=>(spec_reader_members.l0 k (x5 ++ [(⟨(p:Int),(nj:Int)⟩:S121)]) y186 bt197.1 bt197.2)) else (some (([]:List (S121)),([]:List (S47)),false,bt194.2.1,bt194.2.2)))))))) else (none)) else (some (([]:List (S121)),([]:List (S47)),false,bt173.2.2.2.2.2.2.1,bt173.2.2.2.2.2.2.2))))) else (some (([]:List (S121)),([]:List (S47)),false,bt168.2.1,bt168.2.2)))) r→Ev (fun k=>spec_reader_members.l0 k x5 x6 s (p:Int)) r:=by
     intro r h
     refine Ev.step st1 (Ev.bind hq (Ev.step (fun k=>by
      show spec_reader_members.j1 (k+1) x5 x6 (p:Int) false s (nj:Int)=_
      rw [spec_reader_members.j1,if_neg Yy4,if_pos (show x5.length<8796093022208 from Yy0),Option.bind_some]) (Ev.bind hce h)))
    by_cases c58:bt s (c:Int)=58
    ·
     have hclt:=bt_in c58 Yy3
     obtain ⟨v,hv,_,hve⟩:=blanks_ev hn _ (c+1) rfl hclt
     have hv1:=hv.1
     have hv2:=hv.2.1
     obtain ⟨kd,b,e,nm,kids,ok,j,hval,h1,h2,h3⟩:=H v Yy0 hv2
     have go2:∀ {r},Ev (fun k=>(if ok=true then (if x6.length<1954687338268 then ((some (x6 ++ [(⟨kd,b,e,nm,kids⟩:S47)]:List (S47))).bind fun y186=>((spec_reader_blanks.f k s (j:Int)).bind fun bt189=>((spec_reader_take.f bt189.1 bt189.2 125).bind fun bt191=>(if bt191.1=true then (some (x5 ++ [(⟨(p:Int),(nj:Int)⟩:S121)],y186,true,bt191.2.1,bt191.2.2)) else ((spec_reader_take.f bt191.2.1 bt191.2.2 44).bind fun bt194=>(if bt194.1=true then ((spec_reader_blanks.f k bt194.2.1 bt194.2.2).bind fun bt197=>(spec_reader_members.l0 k (x5 ++ [(⟨(p:Int),(nj:Int)⟩:S121)]) y186 bt197.1 bt197.2)) else (some (([]:List (S121)),([]:List (S47)),false,bt194.2.1,bt194.2.2)))))))) else (none)) else (some (([]:List (S121)),([]:List (S47)),false,s,(j:Int))))) r→Ev (fun k=>spec_reader_members.l0 k x5 x6 s (p:Int)) r:=by
      intro r h
      refine go ?_
      simp only [take_f hn c 58 Yy3,if_pos c58,Option.bind_some,if_true]
      exact Ev.bind hve (Ev.bind hval h)
     cases ok with
     | false=>exact ⟨[],[],false,j,go2 (Ev.now _),Yy0,h2,fun h=>Yy10⟩
     | true=>
      obtain ⟨h4,t,ht,hts,hti,htj⟩:=h3 rfl
      obtain ⟨q,hq,_,hqe⟩:=blanks_ev hn _ j rfl h2
      have hq1:=hq.1
      have hq2:=hq.2.1
      have go3:∀ {r},Ev (fun k=>(spec_reader_take.f s (q:Int) 125).bind fun bt191=>(if bt191.1=true then (some (x5 ++ [(⟨(p:Int),(nj:Int)⟩:S121)],x6 ++ [t.s],true,bt191.2.1,bt191.2.2)) else ((spec_reader_take.f bt191.2.1 bt191.2.2 44).bind fun bt194=>(if bt194.1=true then ((spec_reader_blanks.f k bt194.2.1 bt194.2.2).bind fun bt197=>(spec_reader_members.l0 k (x5 ++ [(⟨(p:Int),(nj:Int)⟩:S121)]) (x6 ++ [t.s]) bt197.1 bt197.2)) else (some (([]:List (S121)),([]:List (S47)),false,bt194.2.1,bt194.2.2)))))) r→Ev (fun k=>spec_reader_members.l0 k x5 x6 s (p:Int)) r:=by
       intro r h
       refine go2 ?_
       simp only [if_true,if_pos (show x6.length<1954687338268 from Yy0),Option.bind_some]
       rw [← hts]
       exact Ev.bind hqe h
      by_cases c125:bt s (q:Int)=125
      ·
       have hlt:=bt_in c125 Yy3
       refine ⟨x5 ++ [(⟨(p:Int),(nj:Int)⟩:S121)],x6 ++ [t.s],true,q+1,go3 ?_,Yy0,Yy0,fun _=>⟨Yy0,.cons p nj t .nil,?_,by simp [Ms.names],by simp [Ms.l]⟩⟩
       ·
        simp only [take_f hn q 125 Yy3,if_pos c125,Option.bind_some,if_true]
        exact Ev.now _
       ·
        rw [Ms.wf];exact ⟨rfl,hstr,c,hc,c58,v,hv,ht,hti,q,htj ▸ hq,.inl ⟨c125,rfl,rfl⟩⟩
      ·
       by_cases c44:bt s (q:Int)=44
       ·
        have hlt:=bt_in c44 Yy3
        obtain ⟨p',hp',_,hpe⟩:=blanks_ev hn _ (q+1) rfl hlt
        have hp1:=hp'.1
        have hp2:=hp'.2.1
        obtain ⟨nm2,l,ok,j2,k1,k2,k3,k4⟩:=ih p' Yy0 Yy0 hp2 (x5 ++ [(⟨(p:Int),(nj:Int)⟩:S121)]) (x6 ++ [t.s]) Yy41 Yy41
        refine ⟨nm2,l,ok,j2,go3 ?_,Yy0,k3,fun h=>?_⟩
        ·
         simp only [take_f hn q 125 Yy3,if_neg c125,Option.bind_some,take_f hn q 44 Yy3,if_pos c44,if_true]
         exact Ev.bind hpe k1
        ·
         obtain ⟨k5,ms,k6,k7,k8⟩:=k4 h
         refine ⟨Yy0,.cons p nj t ms,?_,by rw [k7,Ms.names];simp,by rw [k8,Ms.l];simp⟩
         rw [Ms.wf];exact ⟨rfl,hstr,c,hc,c58,v,hv,ht,hti,q,htj ▸ hq,.inr ⟨c44,p',hp',k6⟩⟩
       ·
        refine ⟨[],[],false,q,go3 ?_,Yy0,Yy0,fun h=>Yy10⟩
        simp only [take_f hn q 125 Yy3,if_neg c125,Option.bind_some,take_f hn q 44 Yy3,if_neg c44]
        exact Ev.now _
    ·
     refine ⟨[],[],false,c,go ?_,Yy0,Yy0,fun h=>Yy10⟩
     simp only [take_f hn c 58 Yy3,if_neg c58,Option.bind_some]
     exact Ev.now _
  ·
   refine ⟨[],[],false,p,Ev.step (fun k=>by rw [spec_reader_members.l0,here_f,Option.bind_some,if_neg c34]) (Ev.step (fun k=>members_no k x5 x6 (p:Int) (p:Int)) (Ev.now _)),nlr _,hps,fun h=>Yy10⟩
theorem value_word {s:ByteArray} (hn:s.size≤65536) (i:Nat) (hi:i≤s.size) (h:∀ k,spec_reader_value.f (k+1) s (i:Int)=spec_reader_value.j0 k true false s (i:Int) 0 (i:Int) 0):ValAt s i:=by
 obtain ⟨ok1,j1,a1,a2,a3,a4,a5⟩:=word_f hn i hi wNull Yy3
 have go:∀ {r},Ev (fun k=>(spec_reader_word.f s (i:Int) wNull).bind fun bt256=>(if bt256.1=true then (some (0,(i:Int),bt256.2.2,([]:List (S121)),([]:List (S47)),true,bt256.2.1,bt256.2.2)) else ((spec_reader_word.f bt256.2.1 bt256.2.2 wFalse).bind fun bt259=>(if bt259.1=true then (some (1,(i:Int),bt259.2.2,([]:List (S121)),([]:List (S47)),true,bt259.2.1,bt259.2.2)) else ((spec_reader_word.f bt259.2.1 bt259.2.2 wTrue).bind fun bt262=>(if bt262.1=true then (some (2,(i:Int),bt262.2.2,([]:List (S121)),([]:List (S47)),true,bt262.2.1,bt262.2.2)) else (some (0,(i:Int),bt262.2.2,([]:List (S121)),([]:List (S47)),false,bt262.2.1,bt262.2.2)))))))) r→Ev (fun k=>spec_reader_value.f k s (i:Int)) r:=by
  intro r hh
  exact Ev.step h (Ev.step (fun k=>by rw [spec_reader_value.j0,if_neg Yy4];rfl) hh)
 cases ok1 with
 | true=>
  obtain ⟨b1,b2⟩:=a4 rfl
  have b3:wNull.size=4:=rfl
  refine ⟨0,(i:Int),(j1:Int),[],[],true,j1,go ?_,a2,a3,fun _=>⟨Yy0,.leaf 0 i j1,?_,rfl,rfl,rfl⟩⟩
  ·
   simp only [a1,Option.bind_some,if_true];exact Ev.now _
  ·
   rw [T.wf];exact ⟨Yy0,a3,.inr (.inr (.inl ⟨rfl,Yy0,b2⟩))⟩
 | false=>
  have e1:=a5 rfl
  subst e1
  obtain ⟨ok2,j2,c1,c2,c3,c4,c5⟩:=word_f hn j1 hi wFalse Yy3
  cases ok2 with
  | true=>
   obtain ⟨b1,b2⟩:=c4 rfl
   have b3:wFalse.size=5:=rfl
   refine ⟨1,(j1:Int),(j2:Int),[],[],true,j2,go ?_,c2,c3,fun _=>⟨Yy0,.leaf 1 j1 j2,?_,rfl,rfl,rfl⟩⟩
   ·
    simp only [a1,c1,Option.bind_some,if_true,Bool.false_eq_true,if_false];exact Ev.now _
   ·
    rw [T.wf];exact ⟨Yy0,c3,.inr (.inr (.inr (.inl ⟨rfl,Yy0,b2⟩)))⟩
  | false=>
   have e2:=c5 rfl
   subst e2
   obtain ⟨ok3,j3,d1,d2,d3,d4,d5⟩:=word_f hn j2 hi wTrue Yy3
   cases ok3 with
   | true=>
    obtain ⟨b1,b2⟩:=d4 rfl
    have b3:wTrue.size=4:=rfl
    refine ⟨2,(j2:Int),(j3:Int),[],[],true,j3,go ?_,d2,d3,fun _=>⟨Yy0,.leaf 2 j2 j3,?_,rfl,rfl,rfl⟩⟩
    ·
     simp only [a1,c1,d1,Option.bind_some,if_true,Bool.false_eq_true,if_false];exact Ev.now _
    ·
     rw [T.wf];exact ⟨Yy0,d3,.inr (.inr (.inr (.inr ⟨rfl,Yy0,b2⟩)))⟩
   | false=>
    refine ⟨0,(j2:Int),(j3:Int),[],[],false,j3,go ?_,d2,d3,fun h=>Yy10⟩
    simp only [a1,c1,d1,Option.bind_some,Bool.false_eq_true,if_false];exact Ev.now _
theorem value_number {s:ByteArray} (hn:s.size≤65536) (i:Nat) (hi:i≤s.size) (hc:bt s (i:Int)=45∨(48≤bt s (i:Int)∧bt s (i:Int)≤57)) (h:∀ k,spec_reader_value.f (k+1) s (i:Int)=spec_reader_value.j0 k true true s (i:Int) 0 (i:Int) 0):ValAt s i:=by
 obtain ⟨ok,j,h1,h2,h3,h4⟩:=number_ev hn i hi
 refine ⟨3,(i:Int),(j:Int),[],[],ok,j,Ev.step h (Ev.step (fun k=>by rw [spec_reader_value.j0,if_pos rfl]) (Ev.bind h1 (Ev.now _))),h2,h3,fun hk=>?_⟩
 obtain ⟨h5,h6⟩:=h4 hk
 refine ⟨h5,.leaf 3 i j,?_,rfl,rfl,rfl⟩
 rw [T.wf];exact ⟨h5,h3,.inr (.inl ⟨rfl,hc,h6,by rw [hk] at h1;exact h1⟩)⟩
theorem value_ev {s:ByteArray} (hn:s.size≤65536):∀ m i,s.size - i≤m→i≤s.size→ValAt s i:=by
 intro m
 induction m with
 | zero=>
  intro i hm hi
  refine value_word hn i hi (fun k=>?_)
  rw [spec_reader_value.f,here_f,Option.bind_some,bt_out s i Yy0]
  rfl
 | succ m ih=>
  intro i hm hi
  by_cases c123:bt s (i:Int)=123
  ·
   have hlt:=bt_in c123 Yy3
   obtain ⟨p,hp,_,hpe⟩:=blanks_ev hn _ (i+1) rfl hlt
   have hp1:=hp.1
   have hp2:=hp.2.1
   have go:∀ {r},Ev (fun k=>(spec_reader_take.f s (p:Int) 125).bind fun bt154=>(if bt154.1=true then (some (([]:List (S121)),([]:List (S47)),true,bt154.2.1,bt154.2.2)) else (spec_reader_members.l0 k ([]:List (S121)) ([]:List (S47)) bt154.2.1 bt154.2.2))) r→Ev (fun k=>spec_reader_members.f k s (i:Int)) r:=by
    intro r h
    refine Ev.step (fun k=>by rw [spec_reader_members.f,w64 Yy0 Yy0];rfl) (Ev.bind hpe ?_)
    exact h
   have top:∀ {nm l ok} {j:Nat},Ev (fun k=>spec_reader_members.f k s (i:Int)) (nm,l,ok,s,(j:Int))→Ev (fun k=>spec_reader_value.f k s (i:Int)) (6,(i:Int),(j:Int),nm,l,ok,s,(j:Int)):=by
    intro nm l ok j h
    exact Ev.step (fun k=>by rw [spec_reader_value.f,here_f,Option.bind_some,if_pos c123]) (Ev.bind h (Ev.now _))
   by_cases c125:bt s (p:Int)=125
   ·
    have hplt:=bt_in c125 Yy3
    refine ⟨6,(i:Int),((p+1:Nat):Int),[],[],true,p+1,top (go ?_),Yy0,Yy0,fun _=>⟨Yy0,.obj i (p+1) .nil,?_,by simp [T.s,Ms.l,Ms.names],rfl,rfl⟩⟩
    ·
     simp only [take_f hn p 125 Yy3,if_pos c125,Option.bind_some,if_true];exact Ev.now _
    ·
     rw [T.wf];exact ⟨c123,Yy0,p,hp,.inl ⟨c125,rfl,rfl⟩⟩
   ·
    obtain ⟨nm,l,ok,j,k1,k2,k3,k4⟩:=members_ev hn i (fun p q1 q2=>ih p Yy0 q2) _ p (nlr _) Yy0 hp2 [] [] Yy63 rfl
    refine ⟨6,(i:Int),(j:Int),nm,l,ok,j,top (go ?_),Yy0,k3,fun hk=>?_⟩
    ·
     simp only [take_f hn p 125 Yy3,if_neg c125,Option.bind_some];exact k1
    ·
     obtain ⟨k5,ms,k6,k7,k8⟩:=k4 hk
     refine ⟨Yy0,.obj i j ms,?_,by simp [T.s,k7,k8],rfl,rfl⟩
     rw [T.wf];exact ⟨c123,Yy0,p,hp,.inr k6⟩
  ·
   by_cases c91:bt s (i:Int)=91
   ·
    have hlt:=bt_in c91 Yy3
    obtain ⟨p,hp,_,hpe⟩:=blanks_ev hn _ (i+1) rfl hlt
    have hp1:=hp.1
    have hp2:=hp.2.1
    have go:∀ {r},Ev (fun k=>(spec_reader_take.f s (p:Int) 93).bind fun bt201=>(if bt201.1=true then (some (([]:List (S47)),true,bt201.2.1,bt201.2.2)) else (spec_reader_elements.l0 k ([]:List (S47)) bt201.2.1 bt201.2.2))) r→Ev (fun k=>spec_reader_elements.f k s (i:Int)) r:=by
     intro r h
     refine Ev.step (fun k=>by rw [spec_reader_elements.f,w64 Yy0 Yy0];rfl) (Ev.bind hpe ?_)
     exact h
    have top:∀ {l ok} {j:Nat},Ev (fun k=>spec_reader_elements.f k s (i:Int)) (l,ok,s,(j:Int))→Ev (fun k=>spec_reader_value.f k s (i:Int)) (5,(i:Int),(j:Int),[],l,ok,s,(j:Int)):=by
     intro l ok j h
     exact Ev.step (fun k=>by rw [spec_reader_value.f,here_f,Option.bind_some,if_neg c123,if_pos c91]) (Ev.bind h (Ev.now _))
    by_cases c93:bt s (p:Int)=93
    ·
     have hplt:=bt_in c93 Yy3
     refine ⟨5,(i:Int),((p+1:Nat):Int),[],[],true,p+1,top (go ?_),Yy0,Yy0,fun _=>⟨Yy0,.arr i (p+1) .nil,?_,by simp [T.s,Es.l],rfl,rfl⟩⟩
     ·
      simp only [take_f hn p 93 Yy3,if_pos c93,Option.bind_some,if_true];exact Ev.now _
     ·
      rw [T.wf];exact ⟨c91,Yy0,p,hp,.inl ⟨c93,rfl,rfl⟩⟩
    ·
     obtain ⟨l,ok,j,k1,k2,k3,k4⟩:=elements_ev hn i (fun p q1 q2=>ih p Yy0 q2) _ p (nlr _) Yy0 hp2 [] Yy63
     refine ⟨5,(i:Int),(j:Int),[],l,ok,j,top (go ?_),Yy0,k3,fun hk=>?_⟩
     ·
      simp only [take_f hn p 93 Yy3,if_neg c93,Option.bind_some];exact k1
     ·
      obtain ⟨k5,es,k6,k7⟩:=k4 hk
      refine ⟨Yy0,.arr i j es,?_,by simp [T.s,k7],rfl,rfl⟩
      rw [T.wf];exact ⟨c91,Yy0,p,hp,.inr k6⟩
   ·
    by_cases c34:bt s (i:Int)=34
    ·
     obtain ⟨ok,j,h1,h2,h3,h4⟩:=quoted_ev hn i c34
     refine ⟨4,(i:Int),(j:Int),[],[],ok,j,Ev.step (fun k=>by rw [spec_reader_value.f,here_f,Option.bind_some,if_neg c123,if_neg c91,if_pos c34]) (Ev.bind h1 (Ev.now _)),Yy0,h3,fun hk=>⟨h2,.leaf 4 i j,?_,rfl,rfl,rfl⟩⟩
     rw [T.wf];exact ⟨h2,h3,.inl ⟨rfl,h4 hk⟩⟩
    ·
     by_cases c45:bt s (i:Int)=45
     ·
      exact value_number hn i hi (.inl c45) (fun k=>by rw [spec_reader_value.f,here_f,Option.bind_some,if_neg c123,if_neg c91,if_neg c34,if_pos c45])
     ·
      by_cases c48:48≤bt s (i:Int)∧bt s (i:Int)≤57
      ·
       exact value_number hn i hi (.inr c48) (fun k=>by rw [spec_reader_value.f,here_f,Option.bind_some,if_neg c123,if_neg c91,if_neg c34,if_neg c45,if_pos c48.1];simp only [dtt c48.2])
      ·
       refine value_word hn i hi (fun k=>?_)
       rw [spec_reader_value.f,here_f,Option.bind_some,if_neg c123,if_neg c91,if_neg c34,if_neg c45]
       by_cases h1:48≤bt s (i:Int)
       ·
        rw [if_pos h1];simp only [dff (show ¬ bt s (i:Int)≤57 from Yy0)]
       ·
        rw [if_neg h1]
theorem places_ev {s:ByteArray} (hn2:s.size≤65536):∃ kd b e nm kids ok,Ev (fun k=>spec_Places.f k s) (kd,b,e,nm,kids,ok)∧(ok=true→∃ (t:T),t.wf s∧t.s=⟨kd,b,e,nm,kids⟩∧Blk s 0 t.i∧Blk s t.j s.size):=by
 obtain ⟨i,hi,_,hie⟩:=blanks_ev hn2 _ 0 rfl (Nat.zero_le _)
 obtain ⟨kd,b,e,nm,kids,ok,j,hv,h1,h2,h3⟩:=value_ev hn2 _ i (nlr _) hi.2.1
 have go:∀ {r},Ev (fun k=>(if ok=true then ((spec_reader_blanks.f k s (j:Int)).bind fun bt282=>(if bt282.2=(s.size:Int) then (some (kd,b,e,nm,kids,true)) else (some (0,0,0,([]:List (S121)),([]:List (S47)),false)))) else (some (0,0,0,([]:List (S121)),([]:List (S47)),false)))) r→Ev (fun k=>spec_Places.f k s) r:=by
  intro r h
  exact Ev.congr (fun k=>by rw [spec_Places.f];rfl) (Ev.bind hie (Ev.bind hv h))
 cases ok with
 | false=>exact ⟨0,0,0,[],[],false,go (Ev.now _),fun h=>Yy10⟩
 | true=>
  obtain ⟨h4,t,ht,hts,hti,htj⟩:=h3 rfl
  obtain ⟨q,hq,_,hqe⟩:=blanks_ev hn2 _ j rfl h2
  by_cases hqs:q=s.size
  ·
   refine ⟨kd,b,e,nm,kids,true,go ?_,fun _=>⟨t,ht,hts,hti ▸ hi,by rw [htj];exact hqs ▸ hq⟩⟩
   simp only [if_true]
   refine Ev.bind hqe ?_
   simp only [hqs,if_true]
   exact Ev.now _
  ·
   refine ⟨0,0,0,[],[],false,go ?_,fun h=>Yy10⟩
   simp only [if_true]
   refine Ev.bind hqe ?_
   simp only [show ¬ ((q:Int)=(s.size:Int)) from Yy0,if_false]
   exact Ev.now _
open Go Go.RowKit Go.Proofs.YtieflhncpjjciaaGreatDoorW.PrintWords
def vch (c:Int):Int:=if c=34 then 2 else if c=123∨c=91∨c=40 then 3 else if c=125∨c=93∨c=41 then 1 else 0
theorem vch2 {c:Int}:vch c=2↔c=34:=by
 unfold vch
 by_cases h:c=34
 ·
  simp [h]
 ·
  rw [if_neg h];constructor
  ·
   intro h2;split at h2
   ·
    omega
   ·
    split at h2 <;> omega
  ·
   intro h2;exact absurd h2 h
theorem vch1 {c:Int}:vch c=1↔c=125∨c=93∨c=41:=by
 unfold vch
 constructor
 ·
  intro h;repeat' split at h
  all_goals omega
 ·
  intro h
  rw [if_neg Yy0,if_neg Yy0,if_pos h]
theorem vch3 {c:Int}:vch c=3↔c=123∨c=91∨c=40:=by
 unfold vch
 constructor
 ·
  intro h;repeat' split at h
  all_goals omega
 ·
  intro h
  rw [if_neg Yy0,if_pos h]
theorem vch0 {c:Int} (h1:c≠34) (h2:c≠123) (h3:c≠91) (h4:c≠40) (h5:c≠125) (h6:c≠93) (h7:c≠41):vch c=0:=by
 unfold vch
 rw [if_neg h1,if_neg Yy0,if_neg Yy0]
inductive Sq (s:ByteArray) (e:Nat):Nat→Nat→Prop
 | stop (h:e<s.size) (hv:vch (bt s (e:Int))=1):Sq s e e 1
 | plain {i d:Nat} (h:i<s.size) (hv:vch (bt s (i:Int))=0) (r:Sq s e (i+1) d):Sq s e i d
 | opened {i d:Nat} (h:i<s.size) (hv:vch (bt s (i:Int))=3) (r:Sq s e (i+1) (d+1)):Sq s e i d
 | shut {i d:Nat} (h:i<s.size) (hd:1≤d) (hv:vch (bt s (i:Int))=1) (r:Sq s e (i+1) d):Sq s e i (d+1)
 | str {i j d:Nat} (h:StrTok0 s i j) (r:Sq s e j d):Sq s e i d
theorem StrTok0.vch {s:ByteArray} {i j:Nat} (h:StrTok0 s i j):PFnGjSquashItems.vch (bt s (i:Int))=2:=vch2.mpr h.2.2.1
theorem Sq.lt {s:ByteArray} {e i d:Nat} (h:Sq s e i d):i<s.size:=by
 cases h with
 | stop h _=>exact h
 | plain h _ _=>exact h
 | opened h _ _=>exact h
 | shut h _ _ _=>exact h
 | str h _=>have:=h.1;have:=h.2.1;omega
theorem Sq.le {s:ByteArray} {e i d:Nat} (h:Sq s e i d):i≤e:=by
 induction h with
 | stop h _=>exact nlr _
 | plain h _ _ ih=>omega
 | opened h _ _ ih=>omega
 | shut h _ _ _ ih=>omega
 | str h _ ih=>have:=h.1;omega
theorem bt_at {s:ByteArray} {i:Nat} (h:i<s.size):bt s (i:Int)=(s[i].toNat:Int):=by
 unfold bt
 rw [dif_pos (by simpa using h)]
 simp
theorem StrTok0.quote {s:ByteArray} {b j q:Nat} (h:StrTok0 s b j) (h1:b<q) (h2:q≤j - 1) (hq:bt s (q:Int)=34) (hn:bt s ((q - 1:Nat):Int)≠92):q=j - 1:=by
 rcases Nat.lt_or_ge q (j - 1) with h3 | h3
 ·
  have:=h.2.2.2.2.2 q h1 h3 hq
  obtain ⟨p,rfl⟩:∃ p,q=p+1:=⟨q - 1,Yy0⟩
  rw [odd] at this
  split at this
  ·
   rename_i h4;exact absurd h4.2 (by simpa using hn)
  ·
   simp at this
 ·
  omega
theorem odd_bsl {s:ByteArray} {b:Nat}:∀ (n p:Nat),b+n<p→(∀ q,p - n≤q→q<p→bt s (q:Int)=92)→(p - n - 1=b∨bt s ((p - n - 1:Nat):Int)≠92)→odd s b p=decide (n % 2=1):=by
 intro n
 induction n with
 | zero=>
  intro p h1 h2 h3
  obtain ⟨m,rfl⟩:∃ m,p=m+1:=⟨p - 1,Yy0⟩
  rw [odd,if_neg]
  ·
   rfl
  ·
   rintro ⟨h4,h5⟩
   rcases h3 with h3 | h3
   ·
    simp at h3;omega
   ·
    exact h3 (by simpa using h5)
 | succ n ih=>
  intro p h1 h2 h3
  obtain ⟨m,rfl⟩:∃ m,p=m+1:=⟨p - 1,Yy0⟩
  have hm:=ih m Yy0 (fun q q1 q2=>h2 q Yy0 Yy0) (by
   have e:m - n - 1=m+1 - (n+1) - 1:=Yy0
   rw [e];exact h3)
  rw [odd,if_pos ⟨Yy0,h2 m Yy0 Yy0⟩,hm]
  rcases Nat.mod_two_eq_zero_or_one n with h | h
  ·
   rw [h,show (n+1) % 2=1 from Yy0];rfl
  ·
   rw [h,show (n+1) % 2=0 from Yy0];rfl
theorem wadd1 (i:Nat) (h:i≤65536):wrap64 ((i:Int)+1)=((i+1:Nat):Int):=by rw [w64 Yy0 Yy0];rfl
theorem wpred (i:Nat) (h:i≤65536):wrap64 (((i+1:Nat):Int) - 1)=(i:Int):=Yy78
theorem tmod2 (n:Nat):(Int.tmod (n:Int) 2=0)↔n % 2=0:=by
 rw [show (2:Int)=((2:Nat):Int) from rfl,← Int.ofNat_tmod];omega
def NumEnd (s:ByteArray) (j:Nat):Prop:=j=s.size∨bt s (j:Int)≤32∨bt s (j:Int)=44∨bt s (j:Int)=93∨bt s (j:Int)=125
end Go.Proofs.YtieflhncpjjciaaGreatDoor.PFnGjSquashItems
