/- Walks and plain laws of this claim. -/
import Derived.Test.YtieflhncpjjciaaGreatDoorProg
import Derived.WalkKit
import Derived.Below
import Derived.Lib.Hide
import Derived.Lib.SmallJoins
import Derived.Deep.LoopGhost
import Derived.Deep.QuietTactic
import Derived.BigQuiet
import Derived.Deep.CutBlock
import Derived.Deep.DeepCutAuto
import Derived.RowKit3
import Derived.KernelRfl
import Derived.IntWalk
import Derived.Laws.BitsLemmas
import GoSem.PinnedTables
import Derived.ScopeJumps
import Derived.WalkMore
set_option maxHeartbeats 8000000
set_option maxRecDepth 100000
set_option linter.unusedVariables false
set_option linter.unusedSimpArgs false
namespace Go.Proofs.YtieflhncpjjciaaGreatDoor
open Go Go.RowKit
theorem dtt {p:Prop} [Decidable p]:p→decide p=true:=decide_eq_true
theorem dff {p:Prop} [Decidable p]:¬p→decide p=false:=decide_eq_false
theorem bfo {α:Type _} [BEq α] [LawfulBEq α] {a b:α}:a≠b→(a == b)=false:=beq_eq_false_iff_ne.mpr
theorem blo (w:World) (p:Addr) {v:Value} (h:w.cell? p=some v):p.block<w.heap.size:=World.block_lt_of_cell? w p h
theorem obo {α β:Type _} {o:Option α} {f:α→Option β} {b:β}:o.bind f=some b→∃ a,o=some a∧f a=some b:=Option.bind_eq_some_iff.mp
theorem eol {n m:Nat}:n≤m→n=m∨n<m:=Nat.eq_or_lt_of_le
theorem nlr (n:Nat):n≤n:=Nat.le_refl n
theorem Yy0 {P:Prop} (h:P:=by omega):P:=h
theorem Yy1 {P:Prop} (h:P:=by kernel_rfl):P:=h
theorem Yy2 {P:Prop} (h:P:=by rfl):P:=h
theorem Yy3 {P:Prop} (h:P:=by decide):P:=h
theorem Yy4 {P:Prop} (h:P:=by simp):P:=h
theorem Yy5 {P:Prop} (h:P:=by assumption):P:=h
theorem Yy6 {P:Prop} (h:P:=by go_num):P:=h
theorem Yy7 {P:Prop} (h:P:=by go_simp):P:=h
theorem Yy8 {P:Prop} (h:P:=by have:=hdp.out;omega):P:=h
theorem Yy9 {P:Prop} (h:P:=by have:=hi.out;omega):P:=h
theorem Yy10 {P:Prop} (h:P:=by simp at h):P:=h
theorem Yy11 {P:Prop} (h:P:=by have:=hm.out;omega):P:=h
theorem Yy12 {P:Prop} (h:P:=by simp;omega):P:=h
theorem Yy13 {P:Prop} (h:P:=by rw [ByteArray.size_extract];omega):P:=h
theorem Yy14 {P:Prop} (h:P:=by have:=hj.out;omega):P:=h
theorem Yy15 {P:Prop} (h:P:=by cases h):P:=h
theorem Yy16 {P:Prop} (h:P:=by have:=S0.out;omega):P:=h
theorem Yy17 {P:Prop} (h:P:=by unfold numOK;omega):P:=h
theorem Yy18 {P:Prop} (h:P:=by rw [← hw1,← hB];simp [go_sem]):P:=h
theorem Yy19 {P:Prop} (h:P:=by simp [Ms.wf]):P:=h
theorem Yy20 {P:Prop} (h:P:=by have:=HKD.out;omega):P:=h
theorem Yy21 {P:Prop} (h:P:=by simp [Es.wf]):P:=h
theorem Yy22 {P:Prop} (h:P:=by have:=hn.out;omega):P:=h
theorem Yy23 {P:Prop} (h:P:=by have:=EK.out;omega):P:=h
theorem Yy24 {P:Prop} (h:P:=by have:=Z1.out;omega):P:=h
theorem Yy25 {P:Prop} (h:P:=by have:=hx.out;omega):P:=h
theorem Yy26 {P:Prop} (h:P:=by have:=hnd.out;omega):P:=h
theorem Yy27 {P:Prop} (h:P:=by rw [← hwa,← hB];simp [go_sem]):P:=h
theorem Yy28 {P:Prop} (h:P:=by have:=n0.out;omega):P:=h
theorem Yy29 {P:Prop} (h:P:=by have:=hp.out;have:=HQ.out;omega):P:=h
theorem Yy30 {P:Prop} (h:P:=by rw [HQ.out];exact HR):P:=h
theorem Yy31 {P:Prop} (h:P:=by rw [← hO.out,HO'.out,HC.out];simp [shortB]):P:=h
theorem Yy32 {P:Prop} (h:P:=by have:=hdl.out;have:=HQ.out;simp;omega):P:=h
theorem Yy33 {P:Prop} (h:P:=by rw [hb];decide):P:=h
theorem Yy34 {P:Prop} (h:P:=by have:=hq.out;omega):P:=h
theorem Yy35 {P:Prop} (h:P:=by rw [HKD.out];rfl):P:=h
theorem Yy36 {P:Prop} (h:P:=by unfold L Rows.fnGjResultMapOfRow;simp):P:=h
theorem Yy37 {P:Prop} (h:P:=by unfold dig;omega):P:=h
theorem Yy38 {P:Prop} (h:P:=by have:=hk.out;omega):P:=h
theorem Yy39 {P:Prop} (h:P:=by have:=DG.out;omega):P:=h
theorem Yy40 {P:Prop} (h:P:=by rw [spec_reader_elements.l0]):P:=h
theorem Yy41 {P:Prop} (h:P:=by simp only [List.length_append,List.length_cons,List.length_nil];omega):P:=h
theorem Yy42 {P:Prop} (h:P:=by rw [← hw0,← hB];simp [go_sem]):P:=h
theorem Yy43 {P:Prop} (h:P:=by have:=BR.out;omega):P:=h
theorem Yy44 {P:Prop} (h:P:=by simp [Value.oneCell']):P:=h
theorem Yy45 {P:Prop} (h:P:=by rw [List.length_take];omega):P:=h
theorem Yy46 {P:Prop} (h:P:=by have:=HN.out.le;omega):P:=h
theorem Yy47 {P:Prop} (h:P:=by have:=hdp.out;have:=Q3.out;have:=Q4.out;have:=E1.out;omega):P:=h
theorem Yy48 {P:Prop} (h:P:=by have:=hx.out;have:=hlt.out;omega):P:=h
theorem Yy49 {P:Prop} (h:P:=by have:=hc.out;omega):P:=h
theorem Yy50 {P:Prop} (h:P:=by simp [go_sem];rfl):P:=h
theorem Yy51 {P:Prop} (h:P:=by simpa [RV.cl_len] using hl):P:=h
theorem Yy52 {P:Prop} (h:P:=by rw [IntKind.wrap_i64];omega):P:=h
theorem Yy53 {P:Prop} (h:P:=by have:=hkm.out;omega):P:=h
theorem Yy54 {P:Prop} (h:P:=by rw [← hw0,← hB];exact thr_new w [.int .i64 0,.string ⟨#[]⟩,.slice none 0 0,.slice none 0 0] 26):P:=h
theorem Yy55 {P:Prop} (h:P:=by have:=hb1.size;have:=S0.out;omega):P:=h
theorem Yy56 {P:Prop} (h:P:=by rw [← hwA];exact (Below.refl _ w1).alloc (nlr _) _):P:=h
theorem Yy57 {P:Prop} (h:P:=by rw [← hwA,← hN];exact rng_new w1 [.int .i64 r1,.string r2,.slice A2 r3.length cc2,.slice A3 r4.length c3] 26):P:=h
theorem Yy58 {P:Prop} (h:P:=by rw [hB];exact FB.out):P:=h
theorem Yy59 {P:Prop} (h:P:=by rw [hnd];exact Below.drewNs (Below.refl _ _) nd):P:=h
theorem Yy60 {P:Prop} (h:P:=by rw [List.length_map];omega):P:=h
theorem Yy61 {P:Prop} (h:P:=by first | exact HB.out.trans (Joins.below_draws b _ _) | exact (HB.out.trans (Joins.below_draws b _ _)).trans (Joins.below_draws b _ _)):P:=h
theorem Yy62 {P:Prop} (h:P:=by unfold numOK at hc;omega):P:=h
theorem Yy63 {P:Prop} (h:P:=by simp only [List.length_nil];omega):P:=h
theorem Yy64 {P:Prop} (h:P:=by rcases hj with ⟨h,_⟩ | ⟨h,_⟩ <;> omega):P:=h
theorem Yy65 {P:Prop} (h:P:=by have:=((BA.out.drew):Below B w _).size;omega):P:=h
theorem Yy66 {P:Prop} (h:P:=by rw [← hwb,← hg];simp [go_sem]):P:=h
theorem Yy67 {P:Prop} (h:P:=by have:=hdp.out;have:=Q3.out;have:=Q4.out;omega):P:=h
theorem Yy68 {P:Prop} (h:P:=by rw [spec_reader_number.j2,if_pos rfl]):P:=h
theorem Yy69 {P:Prop} (h:P:=by rw [spec_reader_number.j1,if_pos rfl]):P:=h
theorem Yy70 {P:Prop} (h:P:=by rw [spec_reader_number.j0,if_pos rfl]):P:=h
theorem Yy71 {P:Prop} (h:P:=by rcases HUK.out.2.2 with ⟨a,_⟩ | ⟨a,_⟩ | ⟨_,b⟩ | ⟨⟨a,_⟩ | ⟨a,_⟩,_⟩ <;> first | exact b | omega):P:=h
theorem Yy72 {P:Prop} (h:P:=by have:=((BX1.out):Below B w _).size;omega):P:=h
theorem Yy73 {P:Prop} (h:P:=by rw [Nat.add_mul,Nat.mul_assoc,Nat.mul_assoc,Nat.mul_assoc,Nat.mul_assoc]):P:=h
theorem Yy74 {P:Prop} (h:P:=by rw [bne_iff_ne];have:=hc.out;show (s[0].toNat:Int)≠105;omega):P:=h
theorem Yy75 {P:Prop} (h:P:=by rcases Nat.lt_or_ge q i with c | c;exact hs q a c;exact h2 q c b):P:=h
theorem Yy76 {P:Prop} (h:P:=by first | exact BZ.out | exact ((Below.refl _ _).drew).trans (BZ.out.mono (nlr _))):P:=h
theorem Yy77 {P:Prop} (h:P:=by rw [k.block g (Array.getElem?_eq_some_iff.mp hh).1 (Or.inr hg)];exact hh):P:=h
theorem Yy78 {P:Prop} (h:P:=by rw [w64 Yy0 Yy0];omega):P:=h
theorem Yy79 {P:Prop} (h:P:=by rw [spec_Paired.l0,if_pos Yy0,if_pos Yy0,if_pos h92]):P:=h
theorem Yy80 {P:Prop} (h:P:=by rw [← hw1,← hB];exact cv_of Yy50):P:=h
theorem Yy81 {P:Prop} (h:P:=by rw [spec_Unquote.l0,if_pos Yy0,if_pos Yy0,if_pos h92]):P:=h
theorem Yy82 {P:Prop} (h:P:=by rw [← hw0];exact (Below.refl _ w).alloc Yy0 _):P:=h
theorem Yy83 {P:Prop} (h:P:=by rw [if_pos (show x4.length<1954687338268 from Yy0)]):P:=h
theorem Yy84 {P:Prop} (h:P:=by rw [spec_Unique.l0,if_pos Yy0,if_pos Yy0]):P:=h
theorem Yy85 {P:Prop} (h:P:=by rw [spec_reader_number.j2,if_neg Yy4]):P:=h
theorem Yy86 {P:Prop} (h:P:=by rw [spec_reader_number.j1,if_neg Yy4]):P:=h
theorem Yy87 {P:Prop} (h:P:=by rw [spec_reader_number.j0,if_neg Yy4]):P:=h
theorem Yy88 {P:Prop} (h:P:=by have:=ih Yy0;rw [show i - o+1=i+1 - o from Yy0];exact this):P:=h
theorem Yy89 {P:Prop} (h:P:=by rw [T.mv_j];exact W.blk Yy0 Yy0 c):P:=h
theorem Yy90 {P:Prop} (h:P:=by rw [← hk];exact rng_set h.vr i v Yy51):P:=h
theorem Yy91 {P:Prop} (h:P:=by rw [hf];exact Nat.mod_lt q' (Nat.pow_pos (n:=k) (show 0<2 from Yy0))):P:=h
theorem Yy92 {P:Prop} (h:P:=by have h1:=hdp.out;have h2:=Q3.out;have h3:=Q5.out Yy0;have h4:=hl.out Yy0;omega):P:=h
theorem Yy93 {P:Prop} (h:P:=by rw [spec_appendUTF8.j0,if_pos rfl];simp only [Option.bind_some];rw [if_pos Yy12]):P:=h
theorem hdd {P:Prop} (h:P):Hid P:=Lib.hid h
end Go.Proofs.YtieflhncpjjciaaGreatDoor
namespace Go.Proofs.YtieflhncpjjciaaGreatDoor.Dc
def dig (x:Int):Nat:=(x - 48).toNat
def IsDig (x:Int):Prop:=48≤x∧x≤57
def val:List Int→Nat
 | []=>0
 | x :: b=>dig x * 10 ^ b.length+val b
theorem dig_lt {x:Int} (h:IsDig x):dig x≤9:=by unfold dig;unfold IsDig at h;omega
theorem val_lt:∀ {b:List Int},(∀ x∈b,IsDig x)→val b<10 ^ b.length
 | [],_=>by simp [val]
 | x :: b,h=>by
  have h1:=dig_lt (h x Yy4)
  have h2:=val_lt (b:=b) (fun y hy=>h y (by simp [hy]))
  rw [val,List.length_cons,Nat.pow_succ]
  have h3:dig x * 10 ^ b.length≤9 * 10 ^ b.length:=Nat.mul_le_mul_right _ h1
  omega
theorem val_ge {x:Int} {b:List Int} (h:49≤x):10 ^ b.length≤val (x :: b):=by
 rw [val]
 have h1:1≤dig x:=Yy37
 have h2:1 * 10 ^ b.length≤dig x * 10 ^ b.length:=Nat.mul_le_mul_right _ h1
 omega
def carry (k:Nat) (b:List Int):Nat:=val b * 2 ^ k / 10 ^ b.length
theorem carry_nil (k:Nat):carry k []=0:=by simp [carry,val]
theorem carry_cons (k:Nat) (x:Int) (b:List Int):carry k (x :: b)=(dig x * 2 ^ k+carry k b) / 10:=by
 have hp:0<10 ^ b.length:=Nat.pow_pos Yy3
 unfold carry
 rw [val,List.length_cons,Nat.pow_succ,← Nat.div_div_eq_div_mul]
 congr 1
 rw [Nat.add_mul,show dig x * 10 ^ b.length * 2 ^ k=(dig x * 2 ^ k) * 10 ^ b.length by rw [Nat.mul_assoc,Nat.mul_comm (10 ^ b.length),← Nat.mul_assoc]]
 rw [Nat.add_comm,Nat.add_mul_div_right _ _ hp,Nat.add_comm]
theorem carry_lt {k:Nat} {b:List Int} (h:∀ x∈b,IsDig x):carry k b<2 ^ k:=by
 have hp:0<10 ^ b.length:=Nat.pow_pos Yy3
 unfold carry
 rw [Nat.div_lt_iff_lt_mul hp,Nat.mul_comm (2 ^ k)]
 exact Nat.mul_lt_mul_of_pos_right (val_lt h) (Nat.pow_pos Yy3)
def pl:List Int→List Int→Bool
 | _,[]=>false
 | [],_ :: _=>true
 | x :: b,y :: s=>if x=y then pl b s else decide (x<y)
def Tail:List Int→Prop
 | []=>True
 | y :: s=>0<val (y :: s)∧Tail s
theorem pl_true:∀ {b s:List Int},(∀ x∈b,IsDig x)→(∀ x∈s,IsDig x)→Tail s→pl b s=true→val b * 10 ^ s.length<val s * 10 ^ b.length
 | b,[],_,_,_,h=>by simp [pl] at h
 | [],y :: s,_,_,ht,_=>by
  rw [show val []=0 from rfl,Nat.zero_mul]
  exact Nat.mul_pos ht.1 Yy4
 | x :: b,y :: s,hb,hs,ht,h=>by
  have vb:=val_lt (b:=b) (fun z hz=>hb z (by simp [hz]))
  have hx:=hb x Yy4
  have hy:=hs y Yy4
  have pb:0<10 ^ b.length:=Nat.pow_pos Yy3
  have ps:0<10 ^ s.length:=Nat.pow_pos Yy3
  rw [pl] at h
  rw [val,val,List.length_cons,List.length_cons,Nat.pow_succ,Nat.pow_succ]
  by_cases hxy:x=y
  ·
   rw [if_pos hxy] at h
   have ih:=pl_true (fun z hz=>hb z (by simp [hz])) (fun z hz=>hs z (by simp [hz])) ht.2 h
   subst hxy
   have e1:(dig x * 10 ^ b.length+val b) * (10 ^ s.length * 10)=dig x * 10 ^ b.length * 10 ^ s.length * 10+val b * 10 ^ s.length * 10:=Yy73
   have e2:(dig x * 10 ^ s.length+val s) * (10 ^ b.length * 10)=dig x * 10 ^ b.length * 10 ^ s.length * 10+val s * 10 ^ b.length * 10:=by
    rw [Nat.add_mul,← Nat.mul_assoc,← Nat.mul_assoc]
    congr 1
    rw [Nat.mul_assoc (dig x),Nat.mul_comm (10 ^ s.length),← Nat.mul_assoc (dig x)]
   rw [e1,e2]
   omega
  ·
   rw [if_neg hxy,decide_eq_true_eq] at h
   have hd:dig x+1≤dig y:=by unfold dig;unfold IsDig at hx hy;omega
   have h1:dig x * 10 ^ b.length+val b<(dig x+1) * 10 ^ b.length:=by rw [Nat.add_mul,Nat.one_mul];omega
   have h2:(dig x * 10 ^ b.length+val b) * (10 ^ s.length * 10)<(dig x+1) * 10 ^ b.length * (10 ^ s.length * 10):=Nat.mul_lt_mul_of_pos_right h1 Yy0
   have h3:(dig x+1) * 10 ^ b.length * (10 ^ s.length * 10)≤dig y * 10 ^ b.length * (10 ^ s.length * 10):=Nat.mul_le_mul_right _ (Nat.mul_le_mul_right _ hd)
   have h4:dig y * 10 ^ b.length * (10 ^ s.length * 10)=dig y * 10 ^ s.length * (10 ^ b.length * 10):=by
    rw [Nat.mul_assoc,Nat.mul_assoc]
    congr 1
    rw [← Nat.mul_assoc,← Nat.mul_assoc,Nat.mul_comm (10 ^ b.length)]
   have h5:dig y * 10 ^ s.length * (10 ^ b.length * 10)≤(dig y * 10 ^ s.length+val s) * (10 ^ b.length * 10):=Nat.mul_le_mul_right _ Yy0
   omega
theorem pl_false:∀ {b s:List Int},(∀ x∈b,IsDig x)→(∀ x∈s,IsDig x)→pl b s=false→val s * 10 ^ b.length≤val b * 10 ^ s.length
 | b,[],_,_,_=>by
  rw [show val []=0 from rfl,Nat.zero_mul]
  exact Nat.zero_le _
 | [],y :: s,_,_,h=>by simp [pl] at h
 | x :: b,y :: s,hb,hs,h=>by
  have vs:=val_lt (b:=s) (fun z hz=>hs z (by simp [hz]))
  have hx:=hb x Yy4
  have hy:=hs y Yy4
  have pb:0<10 ^ b.length:=Nat.pow_pos Yy3
  have ps:0<10 ^ s.length:=Nat.pow_pos Yy3
  rw [pl] at h
  rw [val,val,List.length_cons,List.length_cons,Nat.pow_succ,Nat.pow_succ]
  by_cases hxy:x=y
  ·
   rw [if_pos hxy] at h
   have ih:=pl_false (fun z hz=>hb z (by simp [hz])) (fun z hz=>hs z (by simp [hz])) h
   subst hxy
   have e1:(dig x * 10 ^ b.length+val b) * (10 ^ s.length * 10)=dig x * 10 ^ b.length * 10 ^ s.length * 10+val b * 10 ^ s.length * 10:=Yy73
   have e2:(dig x * 10 ^ s.length+val s) * (10 ^ b.length * 10)=dig x * 10 ^ b.length * 10 ^ s.length * 10+val s * 10 ^ b.length * 10:=by
    rw [Nat.add_mul,← Nat.mul_assoc,← Nat.mul_assoc]
    congr 1
    rw [Nat.mul_assoc (dig x),Nat.mul_comm (10 ^ s.length),← Nat.mul_assoc (dig x)]
   rw [e1,e2]
   omega
  ·
   rw [if_neg hxy,decide_eq_false_iff_not] at h
   have hd:dig y+1≤dig x:=by unfold dig;unfold IsDig at hx hy;omega
   have h1:dig y * 10 ^ s.length+val s≤(dig y+1) * 10 ^ s.length:=by rw [Nat.add_mul,Nat.one_mul];omega
   have h2:(dig y * 10 ^ s.length+val s) * (10 ^ b.length * 10)≤(dig y+1) * 10 ^ s.length * (10 ^ b.length * 10):=Nat.mul_le_mul_right _ h1
   have h3:(dig y+1) * 10 ^ s.length * (10 ^ b.length * 10)≤dig x * 10 ^ s.length * (10 ^ b.length * 10):=Nat.mul_le_mul_right _ (Nat.mul_le_mul_right _ hd)
   have h4:dig x * 10 ^ s.length * (10 ^ b.length * 10)=dig x * 10 ^ b.length * (10 ^ s.length * 10):=by
    rw [Nat.mul_assoc,Nat.mul_assoc]
    congr 1
    rw [← Nat.mul_assoc,← Nat.mul_assoc,Nat.mul_comm (10 ^ b.length)]
   have h5:dig x * 10 ^ b.length * (10 ^ s.length * 10)≤(dig x * 10 ^ b.length+val b) * (10 ^ s.length * 10):=Nat.mul_le_mul_right _ Yy0
   omega
structure Cheat (k:Nat) (s:List Int) (delta:Nat):Prop where
 digs:∀ x∈s,IsDig x
 tail:Tail s
 is:val s=5 ^ k
 pos:1≤s.length
 lo:10 ^ (s.length - 1)≤5 ^ k
 le:s.length≤k
 de:delta=k+1 - s.length
theorem two_five (k:Nat):2 ^ k * 5 ^ k=10 ^ k:=by rw [← Nat.mul_pow]
theorem fills {k delta:Nat} {s:List Int} (c:Cheat k s delta) {b:List Int} {x:Int} (hx:49≤x) (h:∀ y∈x :: b,IsDig y) :
  carry k (x :: b)<10 ^ delta∧(pl (x :: b) s=false→10 ^ (delta - 1)≤carry k (x :: b)) ∧
  (pl (x :: b) s=true→carry k (x :: b)<10 ^ (delta - 1)∧(2≤delta→10 ^ (delta - 2)≤carry k (x :: b))):=by
 obtain ⟨c1,c2,c3,c4,c5,c6,c7⟩:=c
 have p5:0<5 ^ k:=Nat.pow_pos Yy3
 have pn:0<10 ^ (x :: b).length:=Nat.pow_pos Yy3
 have pL:0<10 ^ s.length:=Nat.pow_pos Yy3
 have hv:=val_lt h
 have hg:=val_ge (b:=b) hx
 have tf:=two_five k
 have hup:5 ^ k<10 ^ s.length:=by rw [← c3];exact val_lt c1
 have h2k:2 ^ k≤10 ^ delta:=by
  have e:10 ^ delta * 10 ^ (s.length - 1)=10 ^ k:=by rw [← Nat.pow_add];congr 1;omega
  apply Nat.le_of_mul_le_mul_right _ p5
  rw [tf,← e]
  exact Nat.mul_le_mul_left _ c5
 have ek:10 ^ k=10 ^ (delta - 1) * 10 ^ s.length:=by rw [← Nat.pow_add];congr 1;omega
 refine ⟨Nat.lt_of_lt_of_le (carry_lt h) h2k,fun hp=>?_,fun hp=>⟨?_,fun hd=>?_⟩⟩
 ·
  have h1:=pl_false h c1 hp
  rw [c3] at h1
  unfold carry
  rw [Nat.le_div_iff_mul_le pn]
  apply Nat.le_of_mul_le_mul_right _ pL
  have h2:5 ^ k * 10 ^ (x :: b).length * 2 ^ k≤val (x :: b) * 10 ^ s.length * 2 ^ k:=Nat.mul_le_mul_right _ h1
  have e1:5 ^ k * 10 ^ (x :: b).length * 2 ^ k=10 ^ (delta - 1) * 10 ^ (x :: b).length * 10 ^ s.length:=by
   rw [Nat.mul_right_comm,Nat.mul_comm (5 ^ k),tf,ek,Nat.mul_right_comm]
  rw [e1,Nat.mul_right_comm (val (x :: b))] at h2
  exact h2
 ·
  have h1:=pl_true h c1 c2 hp
  rw [c3] at h1
  unfold carry
  rw [Nat.div_lt_iff_lt_mul pn]
  apply Nat.lt_of_mul_lt_mul_right (a:=10 ^ s.length)
  have h2:val (x :: b) * 10 ^ s.length * 2 ^ k<5 ^ k * 10 ^ (x :: b).length * 2 ^ k:=Nat.mul_lt_mul_of_pos_right h1 (Nat.pow_pos Yy3)
  have e1:5 ^ k * 10 ^ (x :: b).length * 2 ^ k=10 ^ (delta - 1) * 10 ^ (x :: b).length * 10 ^ s.length:=by
   rw [Nat.mul_right_comm,Nat.mul_comm (5 ^ k),tf,ek,Nat.mul_right_comm]
  rw [e1,Nat.mul_right_comm (val (x :: b))] at h2
  exact h2
 ·
  unfold carry
  rw [Nat.le_div_iff_mul_le pn]
  have h1:10 ^ (delta - 1)≤2 ^ k:=by
   apply Nat.le_of_mul_le_mul_right _ pL
   rw [← ek,← tf]
   exact Nat.mul_le_mul_left _ Yy0
  have h2:10 ^ (delta - 2) * 10=10 ^ (delta - 1):=by rw [← Nat.pow_succ];congr 1;omega
  have h3:10 ^ b.length * 10=10 ^ (x :: b).length:=by rw [← Nat.pow_succ];rfl
  have h4:10 ^ b.length * 2 ^ k≤val (x :: b) * 2 ^ k:=Nat.mul_le_mul_right _ hg
  have h5:10 ^ b.length * 10 ^ (delta - 1)≤10 ^ b.length * 2 ^ k:=Nat.mul_le_mul_left _ h1
  have h6:10 ^ (delta - 2) * 10 ^ (x :: b).length=10 ^ b.length * 10 ^ (delta - 1):=by rw [← h2,← h3,Nat.mul_comm (10 ^ (delta - 2)),Nat.mul_assoc,Nat.mul_comm 10]
  omega
open Go Go.RowKit
def dcells (a:List Int) (nd dp:Int) (ng tr:Bool):Array Value:=(a.map (Value.int .u8) ++ ([.int .i64 nd,.int .i64 dp,.bool ng,.bool tr]:List Value)).toArray
structure D (w:World) (b:Nat) (a:List Int) (nd dp:Int) (ng tr:Bool):Prop where
 at_:w.heap[b]? = some (.cells (dcells a nd dp ng tr) 191 (0,0))
 len:a.length=800
theorem dcells_d {a:List Int} (h:a.length=800) (nd dp:Int) (ng tr:Bool) (i:Nat) (hi:i<800):(dcells a nd dp ng tr)[i]? = some (.int .u8 (a.getD i 0)):=by
 unfold dcells
 rw [List.getElem?_toArray,List.getElem?_append_left Yy60,List.getElem?_map,List.getD_eq_getElem?_getD,List.getElem?_eq_getElem Yy0]
 rfl
theorem dcells_f {a:List Int} (h:a.length=800) (nd dp:Int) (ng tr:Bool) (i:Nat) (v:Value) (hv:([.int .i64 nd,.int .i64 dp,.bool ng,.bool tr]:List Value)[i]? = some v):(dcells a nd dp ng tr)[800+i]? = some v:=by
 unfold dcells
 rw [List.getElem?_toArray,List.getElem?_append_right Yy60,List.length_map,h,Nat.add_sub_cancel_left]
 exact hv
section
variable {w:World} {b:Nat} {a:List Int} {nd dp:Int} {ng tr:Bool}
theorem D.cell (h:D w b a nd dp ng tr) (i:Nat):w.cell? ⟨b,i,none⟩=(dcells a nd dp ng tr)[i]?:=by simp [World.cell?,h.at_]
theorem D.free (h:D w b a nd dp ng tr) (i:Nat):w.frozen? ⟨b,i,none⟩=false:=by simp [World.frozen?,h.at_]
theorem D.d (h:D w b a nd dp ng tr) (i:Nat) (hi:i<800):w.cell? ⟨b,i,none⟩=some (.int .u8 (a.getD i 0)):=(h.cell i).trans (dcells_d h.len _ _ _ _ i hi)
theorem D.nd_ (h:D w b a nd dp ng tr):w.cell? ⟨b,800,none⟩=some (.int .i64 nd):=(h.cell 800).trans (dcells_f h.len _ _ _ _ 0 _ rfl)
theorem D.dp_ (h:D w b a nd dp ng tr):w.cell? ⟨b,801,none⟩=some (.int .i64 dp):=(h.cell 801).trans (dcells_f h.len _ _ _ _ 1 _ rfl)
theorem D.ng_ (h:D w b a nd dp ng tr):w.cell? ⟨b,802,none⟩=some (.bool ng):=(h.cell 802).trans (dcells_f h.len _ _ _ _ 2 _ rfl)
theorem D.tr_ (h:D w b a nd dp ng tr):w.cell? ⟨b,803,none⟩=some (.bool tr):=(h.cell 803).trans (dcells_f h.len _ _ _ _ 3 _ rfl)
theorem D.set_d (h:D w b a nd dp ng tr) (i:Nat) (hi:i<800) (x:Int):D (w.setCell ⟨b,i,none⟩ (.int .u8 x)) b (a.set i x) nd dp ng tr:=by
 refine ⟨(Joins.block_setCell h.at_ _).trans ?_,by rw [List.length_set];exact h.len⟩
 congr 2
 unfold dcells
 have hl:=h.len
 rw [List.setIfInBounds_toArray,List.set_append_left _ _ Yy60,List.map_set]
theorem D.set_f (h:D w b a nd dp ng tr) (i:Nat) (v:Value) (nd' dp':Int) (ng' tr':Bool) (hv:([.int .i64 nd,.int .i64 dp,.bool ng,.bool tr]:List Value).set i v = [.int .i64 nd',.int .i64 dp',.bool ng',.bool tr']):D (w.setCell ⟨b,800+i,none⟩ v) b a nd' dp' ng' tr':=by
 refine ⟨(Joins.block_setCell h.at_ _).trans ?_,h.len⟩
 congr 2
 unfold dcells
 have hl:=h.len
 rw [List.setIfInBounds_toArray,List.set_append_right _ _ Yy60,List.length_map,hl,Nat.add_sub_cancel_left,hv]
theorem D.set_nd (h:D w b a nd dp ng tr) (x:Int):D (w.setCell ⟨b,800,none⟩ (.int .i64 x)) b a x dp ng tr:=h.set_f 0 _ _ _ _ _ rfl
theorem D.set_dp (h:D w b a nd dp ng tr) (x:Int):D (w.setCell ⟨b,801,none⟩ (.int .i64 x)) b a nd x ng tr:=h.set_f 1 _ _ _ _ _ rfl
theorem D.set_ng (h:D w b a nd dp ng tr) (x:Bool):D (w.setCell ⟨b,802,none⟩ (.bool x)) b a nd dp x tr:=h.set_f 2 _ _ _ _ _ rfl
theorem D.set_tr (h:D w b a nd dp ng tr) (x:Bool):D (w.setCell ⟨b,803,none⟩ (.bool x)) b a nd dp ng x:=h.set_f 3 _ _ _ _ _ rfl
theorem D.drewN (h:D w b a nd dp ng tr) (n:Nat):D (w.drewN n) b a nd dp ng tr:=⟨h.at_,h.len⟩
theorem D.drew (h:D w b a nd dp ng tr):D w.drew b a nd dp ng tr:=⟨h.at_,h.len⟩
end
structure Norm (a:List Int) (n:Nat):Prop where
 pos:1≤n
 le:n≤800
 digs:∀ i,i<n→IsDig (a.getD i 0)
 lead:49≤a.getD 0 0
theorem Norm.less {a:List Int} {n m:Nat} (h:Norm a n) (h1:1≤m) (h2:m≤n):Norm a m:=⟨h1,Nat.le_trans h2 h.le,fun i hi=>h.digs i Yy0,h.lead⟩
theorem trim_any {w:World} {b:Nat} {a:List Int} {dp:Int} {ng tr:Bool} {n:Nat} (h:D w b a (n:Int) dp ng tr) (hn:Norm a n) :
  Calls Tryz.prog 178 #[.pointer (some ⟨b,0,none⟩)] w fun e w'=>e = .returned (.tuple #[])∧(∃ m:Nat,m≤n∧Norm a m∧D w' b a (m:Int) dp ng tr)∧Below b w w':=by
 have H:=hdd h;clear h
 have HN:=hdd hn;clear hn
 have hu:=Tryz.underlying191
 go_enter Tryz.func178,Tryz.ntmps178
 go_wp2
 go_loopg [] n (fun m w'=>1≤m∧m≤n∧Hid (Norm a m)∧Hid (D w' b a (m:Int) dp ng tr)∧Hid (Below b w w'))
 case atStart=>exact ⟨HN.out.pos,nlr _,HN,H,hdd (Below.refl _ _)⟩
 case round=>
  obtain ⟨h1,h2,hN,hD,hB⟩:=hrel
  obtain ⟨m,rfl⟩:∃ m,gk=m+1:=⟨gk - 1,Yy0⟩
  have c800:wr.cell? ⟨b,800,none⟩=some (.int .i64 ((m:Int)+1)):=hD.out.nd_
  obtain ⟨x,hx⟩:∃ x,x=a.getD m 0:=⟨_,rfl⟩
  have cdig:=hD.out.d m (by have:=hN.out.le;omega)
  rw [← hx] at cdig
  have hX:=hdd hx;clear hx
  have fr:=hD.out.free 800
  have i0:0≤(m:Int):=Yy0
  have i1:(m:Int)<800:=by have:=hN.out.le;omega
  have g2:((m:Int)+1 == 0)=false:=bfo Yy0
  have g1:decide (0<(m:Int)+1)=true:=dtt Yy0
  by_cases c:x=48
  ·
   have c0:(x == 48)=true:=beq_iff_eq.mpr c
   have hC:=hdd c;clear c
   go_wp2
   go_quiet (fail)
   go_wp2
   go_roundg m
   case measure=>omega
   case rel=>
    have h0:1≤m:=by
     rcases Nat.eq_zero_or_pos m with e | e
     ·
      have:=hN.out.lead
      rw [e] at hX
      have h3:=hX.out
      have h4:=hC.out
      omega
     ·
      exact e
    exact ⟨h0,Yy0,hdd (hN.out.less h0 Yy0),hdd ((hD.out.drewN nq).set_nd _),hdd ((hB.out.trans (Joins.below_draws b wr nq)).setCell (nlr _) _)⟩
  ·
   have c0:(x == 48)=false:=bfo c
   have hC:=hdd c;clear c
   go_wp2
   go_quiet (fail)
   go_wp2
   go_end0
   exact ⟨rfl,⟨m+1,h2,hN.out,hD.out.drewN nq⟩,hB.out.trans (Joins.below_draws b wr nq)⟩
structure Head (a:List Int) (k n r q:Nat):Prop where
 none_:r=0→q=0
 some_:1≤r→1≤q
 lt:q<10 * 2 ^ k
 one:r=1→q=dig (a.getD 0 0)
theorem pow60 {k:Nat} (h:k≤60):2 ^ k≤2 ^ 60:=Nat.pow_le_pow_right Yy3 h
theorem shr0 {q k:Nat}:(((q:Int) / 2 ^ k == 0)=true)↔q<2 ^ k:=by
 rw [beq_iff_eq,show ((2:Int) ^ k)=((2 ^ k:Nat):Int) from Yy4,← Int.natCast_ediv]
 have hp:0<2 ^ k:=Nat.pow_pos Yy3
 constructor
 ·
  intro h
  have:q / 2 ^ k=0:=Yy0
  exact (Nat.div_eq_zero_iff_lt hp).mp this
 ·
  intro h
  rw [Nat.div_eq_of_lt h];rfl
theorem Head.next {a:List Int} {k n r q:Nat} {x:Int} (h:Head a k n r q) (hq:q<2 ^ k) (hx:x=a.getD r 0) (hd:IsDig x) (hl:49≤a.getD 0 0):Head a k n (r+1) (q * 10+dig x):=by
 have h9:=dig_lt hd
 have hl1:r=0→1≤dig x:=fun e=>by rw [e] at hx;unfold dig;omega
 refine ⟨fun h=>Yy0,fun _=>?_,Yy0,fun e=>?_⟩
 ·
  rcases Nat.eq_zero_or_pos r with e | e
  ·
   have:=hl1 e;omega
  ·
   have:=h.some_ e;omega
 ·
  have e0:r=0:=Yy0
  have:=h.none_ e0
  rw [this,hx,e0];omega
theorem wraps_u64 (n:Int) (h₀:0≤n) (h₁:n<2 ^ 64):IntKind.u64.wrap n=n:=IntWalk.u64_in _ Yy0
theorem and_mask {q k:Nat} (hk:k≤60) (hq:q<2 ^ 64):bits .and .u64 (q:Int) ((2:Int) ^ k - 1)=((q % 2 ^ k:Nat):Int):=by
 have h:=bits_mask .u64 64 Yy3 wraps_u64 k Yy0 (q:Int) Yy0 Yy0
 rw [h]
 simp
theorem div_cast (q k:Nat):(q:Int) / 2 ^ k=((q / 2 ^ k:Nat):Int):=Yy4
theorem div_nine {q k:Nat} (h:q<10 * 2 ^ k):q / 2 ^ k≤9:=by
 have hp:=Nat.pow_pos (n:=k) (show 0<2 from Yy0)
 have:q / 2 ^ k<10:=(Nat.div_lt_iff_lt_mul hp).mpr h
 omega
theorem div_b {q k:Nat} (h:q<10 * 2 ^ k):0≤(q:Int) / 2 ^ k∧(q:Int) / 2 ^ k≤9:=by
 rw [div_cast]
 exact ⟨Int.natCast_nonneg _,by exact_mod_cast div_nine h⟩
theorem getD_set (l:List Int) (x i:Nat) (v:Int) (h:x<l.length):(l.set x v).getD i 0=if i=x then v else l.getD i 0:=by
 simp only [List.getD_eq_getElem?_getD,List.getElem?_set]
 by_cases e:x=i
 ·
  subst e;simp [h]
 ·
  rw [if_neg e,if_neg (fun h=>e h.symm)]
structure Mid (a a':List Int) (k q x q':Nat):Prop where
 ql:q'<10 * 2 ^ k
 q0:x=0→q'=q
 rest:∀ i,x≤i→a'.getD i 0=a.getD i 0
 digs:∀ i,i<x→IsDig (a'.getD i 0)
 lead:1≤x→a'.getD 0 0=48+((q / 2 ^ k:Nat):Int)
 x8:x≤800
theorem Mid.put {a a':List Int} {k q x q' f:Nat} (h:Mid a a' k q x q') (hl:a'.length=800) (hx:x<800) (hf:f<10 * 2 ^ k):Mid a (a'.set x ((q':Int) / 2 ^ k+48)) k q (x+1) f:=by
 have h9:=div_nine h.ql
 refine ⟨hf,fun e=>Yy0,fun i hi=>?_,fun i hi=>?_,fun _=>?_,Yy0⟩
 ·
  rw [getD_set _ _ _ _ Yy0,if_neg Yy0];exact h.rest i Yy0
 ·
  rw [getD_set _ _ _ _ Yy0]
  by_cases e:i=x
  ·
   rw [if_pos e];have:=div_b h.ql;unfold IsDig;omega
  ·
   rw [if_neg e];exact h.digs i Yy0
 ·
  rw [getD_set _ _ _ _ Yy0]
  by_cases e:0=x
  ·
   rw [if_pos e,div_cast,h.q0 e.symm,Int.add_comm]
  ·
   rw [if_neg e];exact h.lead Yy0
structure Twos (k q' m:Nat):Prop where
 is:(q'=0∧m=0)∨∃ j,j≤k∧2 ^ j ∣ q'∧m=k+1 - j
theorem Twos.next {k q' m:Nat} (h:Twos k q' m) (hq:1≤q'):∃ m',m'<m∧Twos k (q' % 2 ^ k * 10) m':=by
 rcases h.is with ⟨h1,_⟩ | ⟨j,h1,h2,h3⟩
 ·
  omega
 ·
  have h4:2 ^ j ∣ q' % 2 ^ k:=(Nat.dvd_mod_iff (Nat.pow_dvd_pow 2 h1)).mpr h2
  by_cases h0:q' % 2 ^ k * 10=0
  ·
   exact ⟨0,Yy0,⟨.inl ⟨h0,rfl⟩⟩⟩
  ·
   have hj:j<k:=by
    rcases Nat.lt_or_ge j k with e | e
    ·
     exact e
    ·
     have e2:j=k:=Yy0
     rw [e2] at h2
     have:=Nat.mod_eq_zero_of_dvd h2
     omega
   refine ⟨k - j,Yy0,⟨.inr ⟨j+1,Yy0,?_,Yy0⟩⟩⟩
   rw [Nat.pow_succ]
   exact Nat.mul_dvd_mul h4 Yy3
def Right (w':World) (b:Nat) (a:List Int) (dp:Int) (ng:Bool):Prop:=∃ (a':List Int) (m:Nat) (dp':Int) (tr':Bool),Norm a' m∧D w' b a' (m:Int) dp' ng tr'∧dp'≤dp∧dp - 1000≤dp'∧(dp'=dp→a'.getD 0 0<a.getD 0 0)
theorem right_any {w:World} {b:Nat} {a:List Int} {dp:Int} {ng tr:Bool} {n k:Nat} (h:D w b a (n:Int) dp ng tr) (hn:Norm a n) (k1:1≤k) (k2:k≤60) (d1:-1000000000≤dp) (d2:dp≤1000000000) :
  Calls Tryz.prog 171 #[.pointer (some ⟨b,0,none⟩),.int .u64 (k:Int)] w fun e w'=>e = .returned (.tuple #[])∧Right w' b a dp ng∧Below b w w':=by
 have H:=hdd h;clear h
 have HN:=hdd hn;clear hn
 have hu:=Tryz.underlying191
 have kk0:0≤(k:Int):=Yy0
 have kk1:(k:Int)≤60:=Yy0
 have hk:=hdd (pow60 k2)
 have n0:=hdd HN.out.le
 go_enter Tryz.func171,Tryz.ntmps171
 go_upto_block 0 with (fail)
 go_cut [4,6] (fun v4 v6 wc=>∃ r q:Nat,v4 = .int .i64 (r:Int)∧v6 = .int .u64 (q:Int)∧Hid (1≤r)∧Hid (r≤1000)∧Hid (2 ^ k≤q)∧Hid (q<10 * 2 ^ k)∧Hid (r=1→q=dig (a.getD 0 0))∧Hid (D wc b a (n:Int) dp ng tr)∧Hid (Below b w wc))
 case first=>
  go_wp2_with fail
  go_loopg [4,6,7] n (fun m v4 v6 v7 w'=>∃ r q:Nat,r+m=n∧v4 = .int .i64 (r:Int)∧v6 = .int .u64 (q:Int)∧Hid (Head a k n r q)∧Hid (D w' b a (n:Int) dp ng tr)∧Hid (Below b w w'))
  case atStart=>exact ⟨0,0,Yy0,rfl,rfl,hdd ⟨fun _=>rfl,fun h=>Yy0,by have:=Nat.pow_pos (n:=k) (show 0<2 from Yy0);omega,fun h=>Yy0⟩,H,hdd (Below.refl _ _)⟩
  case round=>
   obtain ⟨r,q,hr,rfl,rfl,hh,hD,hB⟩:=hrel
   have c800:=hD.out.nd_
   have i0:0≤(r:Int):=Yy0
   have i1:0≤(q:Int):=Yy0
   by_cases hq:q<2 ^ k
   ·
    have t:((q:Int) / 2 ^ k == 0)=true:=shr0.mpr hq
    have hQ:=hdd hq;clear hq
    by_cases hrn:r<n
    ·
     obtain ⟨x,hx⟩:∃ x,x=a.getD r 0:=⟨_,rfl⟩
     have cdig:=hD.out.d r Yy28
     rw [← hx] at cdig
     have hX:=hdd hx;clear hx
     have t1:decide (n≤r)=false:=dff Yy0
     have i2:(r:Int)<800:=Yy28
     have x0:48≤x:=by rw [hX.out];exact (HN.out.digs r hrn).1
     have x1:x≤57:=by rw [hX.out];exact (HN.out.digs r hrn).2
     have q1:(q:Int)≤1152921504606846976:=by have:=hk.out;have:=hQ.out;omega
     go_wp2_with fail
     go_roundg (gk - 1)
     case measure=>omega
     case rel=>
      have hx:IsDig x:=⟨x0,x1⟩
      exact ⟨r+1,q * 10+dig x,Yy0,rfl,congrArg _ Yy37,hdd (hh.out.next hQ.out hX.out hx HN.out.lead),hD,hB⟩
    ·
     have hrn':r=n:=Yy0
     subst hrn'
     have t1:decide (r≤r)=true:=dtt (nlr _)
     have qp:1≤q:=hh.out.some_ HN.out.pos
     have t2:((q:Int) == 0)=false:=bfo Yy0
     go_wp2_with fail
     go_loopg [4,6] (10 * 2 ^ k - q) (fun m v4 v6 w'=>∃ j q':Nat,q'+m=10 * 2 ^ k∧v4 = .int .i64 ((r:Int)+(j:Int))∧v6 = .int .u64 (q':Int)∧Hid (10 ^ j≤q')∧Hid (j=0→q'=q)∧Hid (q'<10 * 2 ^ k)∧Hid (D w' b a (r:Int) dp ng tr)∧Hid (Below b w w'))
     case atStart=>exact ⟨0,q,by have:=hh.out.lt;omega,congrArg _ Yy0,rfl,hdd (by simpa using qp),hdd (fun _=>rfl),hdd hh.out.lt,hD,hB⟩
     case round=>
      obtain ⟨j,q',hm,rfl,rfl,hj,hj0,hlt,hD,hB⟩:=hrel
      have j20:j<20:=by
       have h1:=hj.out
       have h2:=hlt.out
       have h3:=hk.out
       exact (Nat.pow_lt_pow_iff_right (show 1<10 from Yy0)).mp (Nat.lt_of_le_of_lt h1 (Nat.lt_of_lt_of_le h2 (show 10 * 2 ^ k≤10 ^ 20 from Yy0)))
      have qp:1≤q':=Nat.le_trans (Nat.pow_pos Yy3) hj.out
      have j0:0≤(j:Int):=Yy0
      have j1:(j:Int)<20:=Yy0
      have r1:(r:Int)≤800:=Yy28
      have q0:0≤(q':Int):=Yy0
      by_cases hq':q'<2 ^ k
      ·
       have t3:((q':Int) / 2 ^ k == 0)=true:=shr0.mpr hq'
       have q1:(q':Int)≤1152921504606846976:=Yy38
       have hQ':=hdd hq';clear hq'
       go_wp2_with fail
       go_roundg (10 * 2 ^ k - 10 * q')
       case measure=>have:=hQ'.out;omega
       case rel=>
        have h1:=hj.out
        have h2:=hQ'.out
        exact ⟨j+1,q' * 10,Yy0,congrArg _ Yy0,congrArg _ Yy0,hdd (by rw [Nat.pow_succ];omega),hdd (fun h=>Yy0),hdd Yy0,hD,hB⟩
      ·
       have t3:((q':Int) / 2 ^ k == 0)=false:=by rw [Bool.eq_false_iff];exact fun h=>hq' (shr0.mp h)
       have hQ':=hdd (Nat.le_of_not_lt hq');clear hq'
       go_wp2_with fail
       go_meet
       have jp:1≤j:=by
        rcases Nat.eq_zero_or_pos j with e | e
        ·
         have h1:=hj0.out e
         have h2:=hQ'.out
         have h3:=hQ.out
         omega
        ·
         exact e
       have rp:=HN.out.pos
       exact ⟨r+j,q',congrArg _ Yy0,rfl,hdd Yy0,hdd Yy28,hQ',hlt,hdd (fun h=>Yy0),hD,hB⟩
   ·
    have t:((q:Int) / 2 ^ k == 0)=false:=by rw [Bool.eq_false_iff];exact fun h=>hq (shr0.mp h)
    have hQ:=hdd (Nat.le_of_not_lt hq);clear hq
    go_wp2_with fail
    go_meet
    have rp:1≤r:=by
     rcases Nat.eq_zero_or_pos r with e | e
     ·
      have h1:=hh.out.none_ e
      have h2:=hQ.out
      have h3:=Nat.pow_pos (n:=k) (show 0<2 from Yy0)
      omega
     ·
      exact e
    exact ⟨r,q,rfl,rfl,hdd rp,hdd Yy28,hQ,hdd hh.out.lt,hdd hh.out.one,hD,hB⟩
 case rest=>
  obtain ⟨r,q,rfl,rfl,hr1,hr2,hq1,hq2,hone,hD,hB⟩:=hcut
  have c801:=hD.out.dp_
  have fr:=hD.out.free 801
  have r0:0≤(r:Int):=Yy0
  have r1:(r:Int)≤1000:=by have:=hr2.out;omega
  have P:∃ p:Nat,p=2 ^ k:=⟨_,rfl⟩
  have m1:IntKind.u64.wrap ((2:Int) ^ k)=(2:Int) ^ k:=by
   have h1:=hk.out
   have h2:=Nat.pow_pos (n:=k) (show 0<2 from Yy0)
   rw [show ((2:Int) ^ k)=((2 ^ k:Nat):Int) from Yy4]
   exact IntWalk.u64_in _ Yy0
  have m2:IntKind.u64.wrap ((2:Int) ^ k - 1)=(2:Int) ^ k - 1:=by
   have h1:=hk.out
   have h2:=Nat.pow_pos (n:=k) (show 0<2 from Yy0)
   rw [show ((2:Int) ^ k)=((2 ^ k:Nat):Int) from Yy4]
   exact IntWalk.u64_in _ Yy0
  go_wp2_with fail
  clear m1 m2
  go_loopg [4,5,6] (n - r) (fun m v4 v5 v6 w'=>∃ (r' x q':Nat) (a':List Int),m=n - r'∧v4 = .int .i64 (r':Int)∧v5 = .int .i64 (x:Int)∧v6 = .int .u64 (q':Int)∧Hid (x<r')∧Hid (r'≤1000)∧Hid (Mid a a' k q x q')∧Hid (D w' b a' (n:Int) (dp - ((r:Int) - 1)) ng tr)∧Hid (Below b w w'))
  case atStart=>exact ⟨r,0,q,a,rfl,rfl,rfl,rfl,hdd (by have:=hr1.out;omega),hr2,hdd ⟨hq2.out,fun _=>rfl,fun _ _=>rfl,fun i hi=>Yy0,fun h=>Yy0,Yy0⟩,hdd (hD.out.set_dp _),hdd (hB.out.setCell (nlr _) _)⟩
  case round=>
   obtain ⟨r',x,q',a',hm,rfl,rfl,rfl,hx,hr',hM,hD,hB⟩:=hrel
   have c800:=hD.out.nd_
   have s0:0≤(r':Int):=Yy0
   have s1:(r':Int)≤1000:=by have:=hr'.out;omega
   have s2:0≤(x:Int):=Yy0
   have e0:0≤(q':Int):=Yy0
   have dv0:=(div_b hM.out.ql).1
   have dv9:=(div_b hM.out.ql).2
   by_cases hrn:r'<n
   ·
    have t1:decide (r'<n)=true:=dtt hrn
    obtain ⟨y,hy⟩:∃ y,y=a'.getD r' 0:=⟨_,rfl⟩
    have cdig:=hD.out.d r' Yy28
    rw [← hy] at cdig
    have hY:=hdd (hy.trans (hM.out.rest r' Yy25));clear hy
    have i2:(r':Int)<800:=Yy28
    have i3:(x:Int)<800:=Yy25
    have frx:=hD.out.free x
    obtain ⟨z,hz⟩:∃ z,wr.cell? ⟨b,x,none⟩=some (.int .u8 z):=⟨_,hD.out.d x (by have:=hx.out;have:=n0.out;omega)⟩
    obtain ⟨f,hf⟩:∃ f:Nat,f=q' % 2 ^ k:=⟨_,rfl⟩
    have ba:bits .and .u64 (q':Int) ((2:Int) ^ k - 1)=(f:Int):=by rw [hf];exact and_mask k2 (by have:=hM.out.ql;have:=hk.out;omega)
    have fk:Hid (f<2 ^ k):=hdd Yy91
    clear hf
    have f0:0≤(f:Int):=Yy0
    have f1:(f:Int)≤1152921504606846976:=by have:=fk.out;have:=hk.out;omega
    have yd:Hid (IsDig y):=hdd (by rw [hY.out];exact HN.out.digs r' hrn)
    have y0:48≤y:=yd.out.1
    have y1:y≤57:=yd.out.2
    go_wp2_with fail
    go_roundg (n - (r'+1))
    case measure=>omega
    case rel=>
     have h1:=hx.out
     have h2:=n0.out
     have h3:=fk.out
     have h4:=dig_lt yd.out
     exact ⟨r'+1,x+1,f * 10+dig y,_,rfl,rfl,rfl,congrArg _ Yy37,hdd Yy0,hdd Yy0,hdd (hM.out.put hD.out.len Yy0 Yy0),hdd (hD.out.set_d x Yy0 _),hdd (hB.out.setCell (nlr _) _)⟩
   ·
    have t1:decide (r'<n)=false:=dff hrn
    go_wp2_with fail
    go_loopg [5,6] (k+1) (fun m v5 v6 w'=>∃ (x q':Nat) (a':List Int) (tr':Bool),v5 = .int .i64 (x:Int)∧v6 = .int .u64 (q':Int)∧Hid (Twos k q' m)∧Hid (q'<10 * 2 ^ k)∧Hid (x=0→q'=q)∧Hid (∀ i,i<x→IsDig (a'.getD i 0))∧Hid (1≤x→a'.getD 0 0=48+((q / 2 ^ k:Nat):Int))∧Hid (x≤800)∧Hid (D w' b a' (n:Int) (dp - ((r:Int) - 1)) ng tr')∧Hid (Below b w w'))
    case atStart=>exact ⟨x,q',a',tr,rfl,rfl,hdd ⟨.inr ⟨0,Yy0,Yy4,Yy0⟩⟩,hdd hM.out.ql,hdd hM.out.q0,hdd hM.out.digs,hdd hM.out.lead,hdd hM.out.x8,hD,hB⟩
    case round=>
     obtain ⟨x,q',a',tr',rfl,rfl,hT,hql,hq0,hdg,hld,hx8,hD,hB⟩:=hrel
     have s2:0≤(x:Int):=Yy0
     have e0:0≤(q':Int):=Yy0
     have dv0:=(div_b hql.out).1
     have dv9:=(div_b hql.out).2
     by_cases hp:1≤q'
     ·
      have t2:decide (0<q')=true:=dtt hp
      obtain ⟨f,hf⟩:∃ f:Nat,f=q' % 2 ^ k:=⟨_,rfl⟩
      have ba:bits .and .u64 (q':Int) ((2:Int) ^ k - 1)=(f:Int):=by rw [hf];exact and_mask k2 (by have:=hql.out;have:=hk.out;omega)
      have fk:Hid (f<2 ^ k):=hdd Yy91
      obtain ⟨m',hm',hT'⟩:=hT.out.next hp
      rw [← hf] at hT'
      have HT':=hdd hT';clear hT'
      have hF:=hdd hf;clear hf
      have f0:0≤(f:Int):=Yy0
      have f1:(f:Int)≤1152921504606846976:=by have:=fk.out;have:=hk.out;omega
      have hm:=hdd hm';clear hm'
      by_cases hx:x<800
      ·
       have i3:(x:Int)<800:=Yy0
       have t3:decide (x<800)=true:=dtt hx
       have frx:=hD.out.free x
       obtain ⟨z,hz⟩:∃ z,wr.cell? ⟨b,x,none⟩=some (.int .u8 z):=⟨_,hD.out.d x hx⟩
       go_wp2_with fail
       go_roundg m'
       case measure=>exact hm.out
       case rel=>
        have h3:=fk.out
        have h0:=getD_set a' x 0 ((q':Int) / 2 ^ k+48) (by have:=hD.out.len;omega)
        refine ⟨x+1,f * 10,_,tr',rfl,congrArg _ Yy0,HT',hdd Yy0,hdd (fun e=>Yy0),hdd (fun i hi=>?_),hdd (fun _=>?_),hdd Yy0,hdd (hD.out.set_d x hx _),hdd (hB.out.setCell (nlr _) _)⟩
        ·
         rw [getD_set _ _ _ _ (by have:=hD.out.len;omega)]
         by_cases e:i=x
         ·
          rw [if_pos e];unfold IsDig;omega
         ·
          rw [if_neg e];exact hdg.out i Yy0
        ·
         rw [h0]
         by_cases e:0=x
         ·
          rw [if_pos e,div_cast,hq0.out e.symm,Int.add_comm]
         ·
          rw [if_neg e];exact hld.out Yy0
      ·
       have t3:decide (x<800)=false:=dff hx
       have fr3:=hD.out.free 803
       have c803:=hD.out.tr_
       by_cases hz:0<(q':Int) / 2 ^ k
       ·
        have t4:decide (0<(q':Int) / 2 ^ k)=true:=dtt hz
        have hZ:=hdd hz;clear hz
        go_wp2_with fail
        go_roundg m'
        case measure=>exact hm.out
        case rel=>
         have h3:=fk.out
         exact ⟨x,f * 10,a',true,rfl,congrArg _ Yy0,HT',hdd Yy0,hdd (fun e=>Yy0),hdg,hld,hx8,hdd (hD.out.set_tr _),hdd (hB.out.setCell (nlr _) _)⟩
       ·
        have t4:decide (0<(q':Int) / 2 ^ k)=false:=dff hz
        have hZ:=hdd hz;clear hz
        go_wp2_with fail
        go_roundg m'
        case measure=>exact hm.out
        case rel=>
         have h3:=fk.out
         exact ⟨x,f * 10,a',tr',rfl,congrArg _ Yy0,HT',hdd Yy0,hdd (fun e=>Yy0),hdg,hld,hx8,hD,hB⟩
     ·
      have q00:q'=0:=Yy0
      subst q00
      have t2:decide (0<(0:Nat))=false:=rfl
      have frn:=hD.out.free 800
      have c800b:=hD.out.nd_
      have x1:1≤x:=by
       rcases Nat.eq_zero_or_pos x with e | e
       ·
        have h1:=hq0.out e
        have h2:=hq1.out
        have h3:=Nat.pow_pos (n:=k) (show 0<2 from Yy0)
        omega
       ·
        exact e
      have qd1:1≤q / 2 ^ k:=(Nat.le_div_iff_mul_le (Nat.pow_pos Yy3)).mpr (by have:=hq1.out;omega)
      have hnorm:Hid (Norm a' x):=hdd ⟨x1,hx8.out,hdg.out,by rw [hld.out x1];omega⟩
      have X1:=hdd x1;clear x1
      have QD:=hdd qd1;clear qd1
      have CT:=hdd (trim_any (n:=x) (hD.out.set_nd (x:Int)) hnorm.out)
      go_wp2_with (go_at_call 178;refine CT.out.mono ?_;rintro e w' ⟨rfl,⟨m,hm1,hm2,hm3⟩,hbt⟩;have HM1:=hdd hm1;have HM2:=hdd hm2;have HM3:=hdd hm3;have HBT:=hdd hbt;clear hm1 hm2 hm3 hbt)
      go_end0
      refine ⟨rfl,⟨a',m,_,tr',HM2.out,HM3.out,by have:=hr1.out;omega,by have:=hr2.out;omega,fun e=>?_⟩,(hB.out.setCell (nlr _) _).trans HBT.out⟩
      have er:r=1:=by have:=hr1.out;omega
      rw [hld.out X1.out,hone.out er]
      have hl:=HN.out.lead
      have h2:2≤2 ^ k:=by
       have:=Nat.pow_le_pow_right (n:=2) Yy3 k1
       omega
      have h3:dig (a.getD 0 0) / 2 ^ k<dig (a.getD 0 0):=Nat.div_lt_self Yy37 h2
      have h4:(dig (a.getD 0 0):Int)=a.getD 0 0 - 48:=Yy37
      omega
theorem ret_bool {a b:Bool} (h:a=b):Ending.returned (.bool a) = .returned (.bool b):=by rw [h]
def nb (s:ByteArray):List Int:=s.data.toList.map fun c=>(c.toNat:Int)
theorem nb_length (s:ByteArray):(nb s).length=s.size:=by simp [nb]
theorem nb_get (s:ByteArray) (i:Nat) (h:i<s.size):(nb s).drop i=(s[i].toNat:Int) :: (nb s).drop (i+1):=by
 have h2:i<(nb s).length:=by rw [nb_length];exact h
 rw [List.drop_eq_getElem_cons h2]
 congr 1
 simp [nb]
 rfl
theorem take_get (a:List Int) (n i:Nat) (h:i<n) (hl:n≤a.length):(a.take n).drop i=a.getD i 0 :: (a.take n).drop (i+1):=by
 have h2:i<(a.take n).length:=Yy45
 rw [List.drop_eq_getElem_cons h2,List.getElem_take,List.getD_eq_getElem?_getD,List.getElem?_eq_getElem Yy0]
 rfl
theorem prefix_any {w:World} {b:Nat} {a:List Int} {dp nd:Int} {ng tr:Bool} {n:Nat} {c:Nat} {s:ByteArray} (h:D w b a nd dp ng tr) (hn:n≤800) (hs:s.size≤1000) (hd:∀ i,i<n→IsDig (a.getD i 0)) :
  Calls Tryz.prog 177 #[.slice (some ⟨b,0,none⟩) n c,.string s] w fun e w'=>e = .returned (.bool (pl (a.take n) (nb s)))∧∃ nq,w'=w.drewN nq:=by
 have H:=hdd h;clear h
 have HD:=hdd hd;clear hd
 go_enter Tryz.func177,Tryz.ntmps177
 go_wp2
 go_loopg [5] s.size (fun m v5 w'=>∃ i:Nat,i+m=s.size∧v5 = .int .i64 (i:Int)∧Hid (i≤n)∧Hid (pl (a.take n) (nb s)=pl ((a.take n).drop i) ((nb s).drop i))∧Hid (∃ nq,w'=w.drewN nq))
 case atStart=>exact ⟨0,Yy0,rfl,hdd (Nat.zero_le _),hdd Yy4,hdd ⟨0,rfl⟩⟩
 case round=>
  obtain ⟨i,hi,rfl,hin,hpl,hw⟩:=hrel
  obtain ⟨nq0,rfl⟩:=hw.out
  clear hw
  have HD2:=hdd (H.out.drewN nq0)
  have i0:0≤(i:Int):=Yy0
  by_cases hs1:i<s.size
  ·
   have t1:decide (i<s.size)=true:=dtt hs1
   by_cases hn1:i<n
   ·
    have t2:decide (n≤i)=false:=dff Yy0
    have tn:decide (i<n)=true:=dtt hn1
    obtain ⟨x,hx⟩:∃ x,x=a.getD i 0:=⟨_,rfl⟩
    have cdig:=H.out.d i Yy0
    rw [← hx] at cdig
    have hX:=hdd hx;clear hx
    obtain ⟨y,hy⟩:∃ y:UInt8,y=s[i]:=⟨_,rfl⟩
    have ix1:(i:Int)<(n:Int):=Yy0
    have ix2:(i:Int)<(s.size:Int):=Yy0
    have ix3:i<s.size:=hs1
    have ix4:i<n:=hn1
    have st:Hid (pl (a.take n) (nb s)=if x=(s[i].toNat:Int) then pl ((a.take n).drop (i+1)) ((nb s).drop (i+1)) else decide (x<(s[i].toNat:Int))):=hdd (by
     rw [hpl.out,take_get a n i hn1 (by have:=H.out.len;omega),nb_get s i hs1,← hX.out,pl])
    by_cases hc:x=(s[i].toNat:Int)
    ·
     have cb:(x != (s[i].toNat:Int))=false:=by rw [hc];simp
     have hC:=hdd hc;clear hc
     go_wp2_with fail
     go_quiet (fail)
     go_wp2_with fail
     go_roundg (s.size - (i+1))
     case measure=>omega
     case rel=>exact ⟨i+1,Yy0,rfl,hdd Yy0,hdd (by rw [st.out,if_pos hC.out]),hdd ⟨_,rfl⟩⟩
    ·
     have cb:(x != (s[i].toNat:Int))=true:=bne_iff_ne.mpr hc
     have hC:=hdd hc;clear hc
     go_wp2_with fail
     go_quiet (fail)
     go_wp2_with fail
     go_quiet (fail)
     go_wp2_with fail
     go_ret
     exact ⟨ret_bool (by rw [st.out,if_neg hC.out]),_,by rw [World.drewN_drewN,World.drewN_drewN]⟩
   ·
    have t2:decide (n≤i)=true:=dtt Yy0
    go_wp2_with fail
    go_ret
    refine ⟨ret_bool ?_,_,rfl⟩
    rw [hpl.out,nb_get s i hs1,show (a.take n).drop i = [] from List.drop_eq_nil_of_le Yy45,pl]
  ·
   have t1:decide (i<s.size)=false:=dff hs1
   go_wp2_with fail
   go_ret
   refine ⟨ret_bool ?_,_,rfl⟩
   rw [hpl.out,show (nb s).drop i = [] from List.drop_eq_nil_of_le (by rw [nb_length];omega),pl]
def cheat (k:Nat):Nat×List UInt8:=Pinned.cheatRows.getD k (0,[])
def cdig (k:Nat):List Int:=(cheat k).2.map fun c=>(c.toNat:Int)
def tailB:List Int→Bool
 | []=>true
 | y :: s=>decide (0<val (y :: s)) && tailB s
theorem tail_of:∀ {s:List Int},tailB s=true→Tail s
 | [],_=>trivial
 | y :: s,h=>by
  simp only [tailB,Bool.and_eq_true,decide_eq_true_eq] at h
  exact ⟨h.1,tail_of h.2⟩
def cheatB (k:Nat):Bool:=(cdig k).all (fun x=>decide (48≤x∧x≤57)) && tailB (cdig k) && decide (val (cdig k)=5 ^ k) && decide (1≤(cdig k).length) && decide (10 ^ ((cdig k).length - 1)≤5 ^ k) && decide ((cdig k).length≤k) && decide ((cheat k).1=k+1 - (cdig k).length) && decide ((cheat k).1≤20)
theorem cheats_all:(List.range 60).all (fun k=>cheatB (k+1))=true:=Yy1
theorem cheat_of {k:Nat} (h1:1≤k) (h2:k≤60):Cheat k (cdig k) (cheat k).1∧(cheat k).1≤20:=by
 have h:=List.all_eq_true.mp cheats_all (k - 1) (List.mem_range.mpr Yy0)
 rw [show k - 1+1=k from Yy0] at h
 simp only [cheatB,Bool.and_eq_true,decide_eq_true_eq,List.all_eq_true] at h
 obtain ⟨⟨⟨⟨⟨⟨⟨a1,a2⟩,a3⟩,a4⟩,a5⟩,a6⟩,a7⟩,a8⟩:=h
 exact ⟨⟨a1,tail_of a2,a3,a4,a5,a6,a7⟩,a8⟩
structure LC (w:World) (B:Nat):Prop where
 ten:10<B
 ex:∃ lb lo c:Nat,lb<B∧w.cell? ⟨10,0,none⟩=some (.slice (some ⟨lb,lo,none⟩) 61 c)∧∀ i,i<61→w.cell? ⟨lb,lo+i * 2,none⟩=some (.int .i64 (((cheat i).1:Nat):Int))∧w.cell? ⟨lb,lo+i * 2+1,none⟩=some (.string ⟨(cheat i).2.toArray⟩)
theorem LC.below {w w':World} {B:Nat} (h:LC w B) (hb:Below B w w'):LC w' B:=by
 obtain ⟨h0,lb,lo,c,h1,h2,h3⟩:=h
 refine ⟨h0,lb,lo,c,h1,(hb.cell (p:=⟨10,0,none⟩) h0).trans h2,fun i hi=>⟨(hb.cell (p:=⟨lb,lo+i * 2,none⟩) h1).trans (h3 i hi).1,(hb.cell (p:=⟨lb,lo+i * 2+1,none⟩) h1).trans (h3 i hi).2⟩⟩
structure LM (a a':List Int) (n t de:Nat):Prop where
 same:∀ i,i<t→a'.getD i 0=a.getD i 0
 digs:∀ i,t+de≤i→i<n+de→i<800→IsDig (a'.getD i 0)
 lead:t=0→de=0→a.getD 0 0<a'.getD 0 0
theorem LM.put {a a':List Int} {n u de:Nat} (h:LM a a' n (u+1) de) (hl:a'.length=800) (hw:u+de<800) {R:Nat} (hR:R≤9) (h0:u=0→de=0→a.getD 0 0<(R:Int)+48):LM a (a'.set (u+de) ((R:Int)+48)) n u de:=by
 refine ⟨fun i hi=>?_,fun i h1 h2 h3=>?_,fun e1 e2=>?_⟩
 ·
  rw [getD_set _ _ _ _ Yy0,if_neg Yy0];exact h.same i Yy0
 ·
  rw [getD_set _ _ _ _ Yy0]
  by_cases e:i=u+de
  ·
   rw [if_pos e];unfold IsDig;omega
  ·
   rw [if_neg e];exact h.digs i Yy0 h2 h3
 ·
  rw [getD_set _ _ _ _ Yy0,if_pos Yy0];exact h0 e1 e2
theorem LM.pass {a a':List Int} {n u de:Nat} (h:LM a a' n (u+1) de) (hw:¬ u+de<800):LM a a' n u de:=
 ⟨fun i hi=>h.same i Yy0,fun i h1 h2 h3=>Yy0,fun e1 e2=>Yy0⟩
structure LT (a a':List Int) (n de y c:Nat):Prop where
 num:(c=0∧y=0)∨(1≤y∧10 ^ (y - 1)≤c∧c<10 ^ y)
 y20:y≤20
 digs:∀ i,y≤i→i<n+de→i<800→IsDig (a'.getD i 0)
 lead:y=0→1≤de→49≤a'.getD 0 0
 lead0:de=0→a.getD 0 0<a'.getD 0 0
theorem LT.put {a a':List Int} {n de v c:Nat} (h:LT a a' n de (v+1) c) (hl:a'.length=800) (hc:1≤c) (hde:v+1≤de):LT a (a'.set v (((c % 10:Nat):Int)+48)) n de v (c / 10):=by
 have h20:=h.y20
 rcases h.num with ⟨h1,_⟩ | ⟨h1,h2,h3⟩
 ·
  omega
 ·
  rw [Nat.add_sub_cancel] at h2
  rw [Nat.pow_succ] at h3
  refine ⟨?_,Yy0,fun i i1 i2 i3=>?_,fun e _=>?_,fun e=>Yy0⟩
  ·
   rcases Nat.eq_zero_or_pos v with e | e
   ·
    subst e;simp at h2 h3;exact .inl ⟨Yy0,rfl⟩
   ·
    refine .inr ⟨e,?_,Yy0⟩
    have e2:10 ^ (v - 1) * 10=10 ^ v:=by rw [← Nat.pow_succ];congr 1;omega
    omega
  ·
   rw [getD_set _ _ _ _ Yy0]
   by_cases e:i=v
   ·
    rw [if_pos e];unfold IsDig;omega
   ·
    rw [if_neg e];exact h.digs i Yy0 i2 i3
  ·
   rw [getD_set _ _ _ _ Yy0,if_pos e.symm]
   subst e;simp at h3;omega
def Left (w':World) (b:Nat) (a:List Int) (dp:Int) (ng:Bool):Prop:=∃ (a':List Int) (m:Nat) (dp':Int) (tr':Bool),Norm a' m∧D w' b a' (m:Int) dp' ng tr'∧dp≤dp'∧dp'≤dp+20∧(dp'=dp→a.getD 0 0<a'.getD 0 0)
theorem nb_of (l:List UInt8):nb ⟨l.toArray⟩=l.map fun c=>(c.toNat:Int):=by simp [nb]
theorem left_any {w:World} {b:Nat} {a:List Int} {dp:Int} {ng tr:Bool} {n k:Nat} (h:D w b a (n:Int) dp ng tr) (hn:Norm a n) (hc:LC w b) (k1:1≤k) (k2:k≤60) (d1:-1000000000≤dp) (d2:dp≤1000000000) :
  Calls Tryz.prog 170 #[.pointer (some ⟨b,0,none⟩),.int .u64 (k:Int)] w fun e w'=>e = .returned (.tuple #[])∧Left w' b a dp ng∧Below b w w':=by
 obtain ⟨h10,lb,lo,cc,hlb,c10,cs⟩:=hc
 obtain ⟨cd,cst⟩:=cs k Yy0
 obtain ⟨hch,hd20⟩:=cheat_of k1 k2
 have CH:=hdd hch;clear hch
 obtain ⟨dl,hdl⟩:∃ dl,dl=(cheat k).1:=⟨_,rfl⟩
 rw [← hdl] at cd hd20
 obtain ⟨cu,hcu⟩:∃ cu:ByteArray,cu=⟨(cheat k).2.toArray⟩:=⟨_,rfl⟩
 rw [← hcu] at cst
 have CU:=hdd hcu;clear hcu
 have DL:=hdd hdl;clear hdl
 clear cs
 have H:=hdd h;clear h
 have HN:=hdd hn;clear hn
 have hu:=Tryz.underlying191
 have kk0:0≤(k:Int):=Yy0
 have kk1:(k:Int)≤60:=Yy0
 have kk2:(k:Int)<61:=Yy0
 have hk:=hdd (pow60 k2)
 have n0:=hdd HN.out.le
 have nn0:0≤(n:Int):=Yy0
 have nn1:(n:Int)≤800:=Yy28
 have c800:=H.out.nd_
 have dl0:0≤(dl:Int):=Yy0
 have dl1:(dl:Int)≤20:=Yy0
 obtain ⟨pb,hpb⟩:∃ pb,pb=pl (a.take n) (nb cu):=⟨_,rfl⟩
 have PF:=hdd (fun (q:Nat)=>prefix_any (w:=w.drewN q) (n:=n) (c:=800) (s:=cu) (H.out.drewN q) n0.out (by rw [← nb_length,CU.out,nb_of];have:=CH.out.le;unfold cdig at this;omega) HN.out.digs)
 rw [← hpb] at PF
 have hdig:Hid (∀ y∈a.take n,IsDig y):=hdd (fun y hy=>by
  obtain ⟨i,hi,rfl⟩:=List.mem_iff_getElem.mp hy
  rw [List.length_take] at hi
  have:=HN.out.digs i Yy0
  rw [List.getD_eq_getElem?_getD,List.getElem?_eq_getElem Yy0] at this
  rw [List.getElem_take]
  exact this)
 have hcons:Hid (a.take n=a.getD 0 0 :: (a.take n).drop 1):=hdd (by
  have:=take_get a n 0 HN.out.pos (by have:=H.out.len;have:=n0.out;omega)
  rwa [List.drop_zero] at this)
 have dpos:1≤dl:=by rw [DL.out,CH.out.de];have:=CH.out.le;omega
 have FI:Hid (∃ de:Nat,(de:Int)=(if pb=true then (dl:Int) - 1 else dl)∧carry k (a.take n)<10 ^ de∧(1≤de→10 ^ (de - 1)≤carry k (a.take n))∧de≤20):=hdd (by
  have hf:=fills CH.out (x:=a.getD 0 0) (b:=(a.take n).drop 1) HN.out.lead (by rw [← hcons.out];exact hdig.out)
  rw [← hcons.out,← DL.out] at hf
  have hcd:cdig k=nb cu:=by rw [CU.out,nb_of];rfl
  rw [hcd,← hpb] at hf
  cases pb with
  | false=>exact ⟨dl,Yy4,hf.1,fun _=>hf.2.1 rfl,hd20⟩
  | true=>exact ⟨dl - 1,Yy12,(hf.2.2 rfl).1,fun h=>by have:=(hf.2.2 rfl).2 Yy0;rwa [show dl - 1 - 1=dl - 2 from Yy0],Yy0⟩)
 have hPB:=hdd hpb;clear hpb
 go_enter Tryz.func170,Tryz.ntmps170
 go_wp2_with fail
 go_quiet ((go_at_call 177;exact Calls.quiet_of (PF.out _)))
 go_upto_if 30 with (fail)
 go_cut [4] (fun v4 wc=>∃ (de q:Nat),v4 = .int .i64 (de:Int)∧wc=w.drewN q∧Hid (carry k (a.take n)<10 ^ de)∧Hid (1≤de→10 ^ (de - 1)≤carry k (a.take n))∧Hid (de≤20))
 case first=>
  obtain ⟨de,e0,e1,e2,e3⟩:=FI.out
  have dd1:1≤(dl:Int):=Yy0
  have E0:=hdd e0;clear e0
  have E1:=hdd e1;clear e1
  have E2:=hdd e2;clear e2
  have E3:=hdd e3;clear e3
  cases pb with
  | false=>
   go_wp2_with fail
   go_meet
   exact ⟨de,_,congrArg _ (by have:=E0.out;simp at this;omega),rfl,E1,E2,E3⟩
  | true=>
   go_wp2_with fail
   go_meet
   exact ⟨de,_,congrArg _ (by have:=E0.out;simp at this;omega),rfl,E1,E2,E3⟩
 case rest=>
  obtain ⟨de,q,rfl,rfl,e1,e2,e3⟩:=hcut
  have de0:0≤(de:Int):=Yy0
  have de1:(de:Int)≤20:=by have:=e3.out;omega
  go_wp2_with fail
  go_loopg [5,6,7] n (fun m v5 v6 v7 w'=>∃ (c:Nat) (a':List Int) (tr':Bool),v5 = .int .i64 ((m:Int) - 1)∧v6 = .int .i64 ((m:Int)+(de:Int))∧v7 = .int .u64 (c:Int)∧Hid (m≤n)∧Hid (c=carry k ((a.take n).drop m))∧Hid (LM a a' n m de)∧Hid (D w' b a' (n:Int) dp ng tr')∧Hid (Below b w w'))
  case atStart=>exact ⟨0,a,tr,rfl,rfl,rfl,hdd (nlr _),hdd (by rw [List.drop_eq_nil_of_le Yy45,carry_nil]),hdd ⟨fun _ _=>rfl,fun i h1 h2=>Yy0,fun h=>by have:=HN.out.pos;omega⟩,hdd (H.out.drewN q),hdd (Joins.below_draws b w q)⟩
  case round=>
   obtain ⟨c,a',tr',rfl,rfl,rfl,hm,hcar,hL,hD,hB⟩:=hrel
   rcases Nat.eq_zero_or_pos gk with g0 | gp
   ·
    subst g0
    rw [List.drop_zero] at hcar
    have c0:0≤(c:Int):=Yy0
    have c1:(c:Int)≤1152921504606846976:=by
     have h1:c<2 ^ k:=by rw [hcar.out];exact carry_lt hdig.out
     have:=hk.out;omega
    have hlt:Hid (LT a a' n de de c):=hdd (by
     refine ⟨?_,e3.out,fun i h1 h2 h3=>hL.out.digs i Yy0 h2 h3,fun h h'=>Yy0,fun h=>hL.out.lead rfl h⟩
     rcases Nat.eq_zero_or_pos de with e | e
     ·
      have:=e1.out
      rw [e,Nat.pow_zero,← hcar.out] at this
      exact .inl ⟨Yy0,e⟩
     ·
      exact .inr ⟨e,by rw [hcar.out];exact e2.out e,by rw [hcar.out];exact e1.out⟩)
    have hL0:=hdd hL.out.lead;clear hL
    go_wp2_with fail
    go_loopg [6,7] de (fun m v6 v7 w'=>∃ (c:Nat) (a':List Int) (tr':Bool),v6 = .int .i64 (m:Int)∧v7 = .int .u64 (c:Int)∧Hid (m≤de)∧Hid (c≤1152921504606846976)∧Hid (LT a a' n de m c)∧Hid (D w' b a' (n:Int) dp ng tr')∧Hid (Below b w w'))
    case atStart=>exact ⟨c,a',tr',congrArg _ Yy4,rfl,hdd (nlr _),hdd Yy0,hlt,hD,hB⟩
    case round=>
     obtain ⟨c,a',tr',rfl,rfl,hmd,hc9,hT,hD,hB⟩:=hrel
     have c0:0≤(c:Int):=Yy0
     have c1:(c:Int)≤1152921504606846976:=by have:=hc9.out;omega
     by_cases hc:1≤c
     ·
      have t1:decide (0<c)=true:=dtt hc
      obtain ⟨v,rfl⟩:∃ v,gk=v+1:=⟨gk - 1,by
       rcases hT.out.num with ⟨h1,_⟩ | ⟨h1,_,_⟩ <;> omega⟩
      have v0:0≤(v:Int):=Yy0
      have v1:(v:Int)<20:=by have:=hT.out.y20;omega
      obtain ⟨Q,hQ⟩:∃ Q:Nat,Q=c / 10:=⟨_,rfl⟩
      have s3:(c:Int) / 10=(Q:Int):=Yy0
      have q00:0≤(Q:Int):=Yy0
      have q10:(Q:Int)≤1152921504606846976:=Yy0
      obtain ⟨R,hR⟩:∃ R:Nat,R=c % 10:=⟨_,rfl⟩
      have s4:(c:Int) - 10 * (Q:Int)=(R:Int):=Yy0
      have r00:0≤(R:Int):=Yy0
      have r10:(R:Int)≤9:=Yy0
      have HQ:=hdd hQ;clear hQ
      have HR:=hdd hR;clear hR
      have HC:=hdd hc;clear hc
      have w2:(v:Int)<800:=Yy0
      have w3:decide (v<800)=true:=dtt Yy0
      have e6:(v:Int)+1 - 1=(v:Int):=Yy0
      obtain ⟨z,hz⟩:∃ z,wr.cell? ⟨b,v,none⟩=some (.int .u8 z):=⟨_,hD.out.d v Yy0⟩
      have frx:=hD.out.free v
      go_wp2_with fail
      go_roundg v
      case measure=>omega
      case rel=>exact ⟨Q,_,tr',rfl,rfl,hdd (by have:=hmd.out;omega),hdd Yy0,hdd (by rw [HQ.out,HR.out];exact hT.out.put hD.out.len HC.out hmd.out),hdd (hD.out.set_d v Yy0 _),hdd (hB.out.setCell (nlr _) _)⟩
     ·
      have t1:decide (0<c)=false:=dff hc
      have c00:c=0:=Yy0
      subst c00
      have g00:gk=0:=by
       rcases hT.out.num with ⟨_,h1⟩ | ⟨_,h1,_⟩
       ·
        exact h1
       ·
        have:=Nat.pow_pos (n:=gk - 1) (show 0<10 from Yy0);omega
      subst g00
      have c800':=hD.out.nd_
      have fr0:=hD.out.free 800
      have fr1:=hD.out.free 801
      have hD1:=hdd (hD.out.set_nd ((n:Int)+(de:Int)))
      have d800:=hD1.out.nd_
      have d801:=hD1.out.dp_
      have hlead:Hid (49≤a'.getD 0 0):=hdd (by
       rcases Nat.eq_zero_or_pos de with e | e
       ·
        have h1:=hT.out.lead0 e
        have h2:=HN.out.lead
        omega
       ·
        exact hT.out.lead rfl e)
      by_cases hbig:800≤n+de
      ·
       have t5:decide (800≤(n:Int)+(de:Int))=true:=dtt Yy0
       have hnorm:Norm a' 800:=⟨by have:=HN.out.pos;omega,Yy0,fun i hi=>hT.out.digs i Yy0 Yy0 Yy0,hlead.out⟩
       have hD3:D (((wr.setCell ⟨b,800,none⟩ (.int .i64 ((n:Int)+(de:Int)))).setCell ⟨b,800,none⟩ (.int .i64 800)).setCell ⟨b,801,none⟩ (.int .i64 (dp+(de:Int)))) b a' ((800:Nat):Int) (dp+(de:Int)) ng tr':=((hD.out.set_nd _).set_nd _).set_dp _
       have CT:=hdd (trim_any (n:=800) hD3 hnorm)
       clear hnorm
       have HD3:=hdd hD3;clear hD3
       go_wp2_with (go_at_call 178;refine CT.out.mono ?_;rintro e w' ⟨rfl,⟨m,hm1,hm2,hm3⟩,hbt⟩;have HM1:=hdd hm1;have HM2:=hdd hm2;have HM3:=hdd hm3;have HBT:=hdd hbt;clear hm1 hm2 hm3 hbt)
       go_end0
       exact ⟨rfl,⟨a',m,_,tr',HM2.out,HM3.out,Yy0,Yy0,fun e=>hT.out.lead0 Yy0⟩,(((hB.out.setCell (nlr _) _).setCell (nlr _) _).setCell (nlr _) _).trans HBT.out⟩
      ·
       have t5:decide (800≤(n:Int)+(de:Int))=false:=dff Yy0
       have hnorm:Norm a' (n+de):=⟨by have:=HN.out.pos;omega,Yy0,fun i hi=>hT.out.digs i Yy0 Yy0 Yy0,hlead.out⟩
       have hD3:D ((wr.setCell ⟨b,800,none⟩ (.int .i64 ((n:Int)+(de:Int)))).setCell ⟨b,801,none⟩ (.int .i64 (dp+(de:Int)))) b a' ((n+de:Nat):Int) (dp+(de:Int)) ng tr':=by
        rw [Int.natCast_add];exact (hD.out.set_nd _).set_dp _
       have CT:=hdd (trim_any (n:=(n+de)) hD3 hnorm)
       clear hnorm
       have HD3:=hdd hD3;clear hD3
       go_wp2_with (go_at_call 178;refine CT.out.mono ?_;rintro e w' ⟨rfl,⟨m,hm1,hm2,hm3⟩,hbt⟩;have HM1:=hdd hm1;have HM2:=hdd hm2;have HM3:=hdd hm3;have HBT:=hdd hbt;clear hm1 hm2 hm3 hbt)
       go_end0
       exact ⟨rfl,⟨a',m,_,tr',HM2.out,HM3.out,Yy0,Yy0,fun e=>hT.out.lead0 Yy0⟩,((hB.out.setCell (nlr _) _).setCell (nlr _) _).trans HBT.out⟩
   ·
    obtain ⟨u,rfl⟩:∃ u,gk=u+1:=⟨gk - 1,Yy0⟩
    have GP:=hdd gp;clear gp
    obtain ⟨x,hx⟩:∃ x,x=a'.getD u 0:=⟨_,rfl⟩
    have cx:=hD.out.d u (by have:=n0.out;have:=hm.out;omega)
    rw [← hx] at cx
    have hX:=hdd (hx.trans (hL.out.same u Yy0));clear hx
    have u0:0≤(u:Int):=Yy0
    have u1:(u:Int)<800:=by have:=n0.out;have:=hm.out;omega
    have xd:Hid (IsDig x):=hdd (by rw [hX.out];exact HN.out.digs u Yy11)
    have x0:48≤x:=xd.out.1
    have x1:x≤57:=xd.out.2
    have t1:decide (0≤(u:Int))=true:=dtt u0
    have c0:0≤(c:Int):=Yy0
    have hcl:Hid (c<2 ^ k):=hdd (by rw [hcar.out];exact carry_lt (fun y hy=>hdig.out y (List.mem_of_mem_drop hy)))
    have c1:(c:Int)≤1152921504606846976:=by have:=hcl.out;have:=hk.out;omega
    obtain ⟨P,hP⟩:∃ P:Nat,P=dig x * 2 ^ k:=⟨_,rfl⟩
    have hP9:P≤9 * 2 ^ k:=by rw [hP];exact Nat.mul_le_mul_right _ (dig_lt xd.out)
    have pk:=hk.out
    have s1:IntKind.u64.wrap ((x - 48) * 2 ^ k)=(P:Int):=by
     have e:(x - 48) * 2 ^ k=(P:Int):=by
      rw [hP,Int.natCast_mul,show ((dig x:Nat):Int)=x - 48 from Yy37]
      simp
     rw [e]
     exact IntWalk.u64_in _ Yy0
    obtain ⟨N,hN⟩:∃ N:Nat,N=c+P:=⟨_,rfl⟩
    have s2:(c:Int)+(P:Int)=(N:Int):=Yy0
    have n00:0≤(N:Int):=Yy0
    have n10:(N:Int)≤11529215046068469760:=by have:=hcl.out;omega
    obtain ⟨Q,hQ⟩:∃ Q:Nat,Q=N / 10:=⟨_,rfl⟩
    have s3:(N:Int) / 10=(Q:Int):=Yy0
    have q00:0≤(Q:Int):=Yy0
    have q10:(Q:Int)≤1152921504606846976:=Yy0
    obtain ⟨R,hR⟩:∃ R:Nat,R=N % 10:=⟨_,rfl⟩
    have s4:(N:Int) - 10 * (Q:Int)=(R:Int):=Yy0
    have r00:0≤(R:Int):=Yy0
    have r10:(R:Int)≤9:=Yy0
    have HP:=hdd hP;clear hP
    have HP9:=hdd hP9;clear hP9
    have PK:=hdd pk;clear pk
    have HN':=hdd hN;clear hN
    have HQ:=hdd hQ;clear hQ
    have HR:=hdd hR;clear hR
    have e6:(u:Int)+1+(de:Int) - 1=(u:Int)+(de:Int):=Yy0
    have HQC:Hid (Q=carry k ((a.take n).drop u)):=hdd (by
     rw [take_get a n u Yy11 (by have:=H.out.len;have:=n0.out;omega),carry_cons,← hX.out,← hcar.out,← HP.out,HQ.out,HN'.out,Nat.add_comm])
    have HLead:Hid (u=0→de=0→a.getD 0 0<(R:Int)+48):=hdd (fun e e'=>by
     have h1:=HQC.out
     rw [e,List.drop_zero] at h1
     have h2:=e1.out
     rw [e',Nat.pow_zero] at h2
     have h3:dig x * 2≤P:=by
      rw [HP.out]
      exact Nat.mul_le_mul_left _ (by have:=Nat.pow_le_pow_right (n:=2) Yy3 k1;omega)
     have h4:=HN.out.lead
     have h5:=hX.out
     rw [e] at h5
     have h6:(dig x:Int)=x - 48:=Yy37
     have h7:=HN'.out
     have h8:=HQ.out
     have h9:=HR.out
     omega)
    by_cases hw:u+de<800
    ·
     have t2:decide ((u:Int)+(de:Int)<800)=true:=dtt Yy0
     have w2:(u:Int)+(de:Int)<800:=Yy0
     obtain ⟨z,hz⟩:∃ z,wr.cell? ⟨b,u+de,none⟩=some (.int .u8 z):=⟨_,hD.out.d (u+de) hw⟩
     have frx:=hD.out.free (u+de)
     go_wp2_with fail
     go_roundg u
     case measure=>omega
     case rel=>exact ⟨Q,_,tr',rfl,rfl,rfl,hdd Yy11,HQC,hdd (hL.out.put hD.out.len hw Yy0 (fun e e'=>by have:=HLead.out e e';omega)),hdd (hD.out.set_d (u+de) hw _),hdd (hB.out.setCell (nlr _) _)⟩
    ·
     have t2:decide ((u:Int)+(de:Int)<800)=false:=dff Yy0
     have w2:¬ (u:Int)+(de:Int)<800:=Yy0
     have fr3:=hD.out.free 803
     have c803:=hD.out.tr_
     by_cases hr0:(R:Int)=0
     ·
      have t3:((R:Int) != 0)=false:=by rw [hr0];rfl
      have HR0:=hdd hr0;clear hr0
      go_wp2_with fail
      go_roundg u
      case measure=>omega
      case rel=>exact ⟨Q,_,tr',rfl,rfl,rfl,hdd Yy11,HQC,hdd (hL.out.pass hw),hD,hB⟩
     ·
      have t3:((R:Int) != 0)=true:=bne_iff_ne.mpr hr0
      have HR0:=hdd hr0;clear hr0
      go_wp2_with fail
      go_roundg u
      case measure=>omega
      case rel=>exact ⟨Q,_,true,rfl,rfl,rfl,hdd Yy11,HQC,hdd (hL.out.pass hw),hdd (hD.out.set_tr _),hdd (hB.out.setCell (nlr _) _)⟩
theorem shl_any {w:World} {b:Nat} {a:List Int} {dp:Int} {ng tr:Bool} {n k:Nat} (h:D w b a (n:Int) dp ng tr) (hn:Norm a n) (hc:LC w b) (k1:1≤k) (k2:k≤60) (d1:-1000000000≤dp) (d2:dp≤1000000000) :
  Calls Tryz.prog 165 #[.pointer (some ⟨b,0,none⟩),.int .i64 (k:Int)] w fun e w'=>e = .returned (.tuple #[])∧Left w' b a dp ng∧Below b w w':=by
 have CT:=hdd (left_any h hn hc k1 k2 d1 d2)
 have kk0:0≤(k:Int):=Yy0
 have kk1:(k:Int)≤60:=Yy0
 have kk2:(0:Int)<(k:Int):=Yy0
 have kk3:¬ (60:Int)<(k:Int):=Yy0
 have nn0:((n:Int) == 0)=false:=by have:=hn.pos;simp;omega
 have c800:=h.nd_
 have hu:=Tryz.underlying191
 have t1:decide ((0:Int)<(k:Int))=true:=dtt kk2
 have t2:decide ((60:Int)<(k:Int))=false:=dff kk3
 have t1':decide (0<k)=true:=dtt Yy0
 have H:=hdd h;clear h
 have HN:=hdd hn;clear hn
 have HC:=hdd hc;clear hc
 go_enter Tryz.func165,Tryz.ntmps165
 go_wp2_with fail
 go_loopg [1] 0 (fun m v1 w'=>v1 = .int .i64 (k:Int)∧w'=w)
 case atStart=>exact ⟨rfl,rfl⟩
 case round=>
  obtain ⟨rfl,rfl⟩:=hrel
  go_wp2_with (go_at_call 170;refine CT.out.mono ?_;rintro e w' ⟨rfl,hl,hbt⟩;have HL:=hdd hl;have HBT:=hdd hbt;clear hl hbt)
  go_end0
  exact ⟨rfl,HL.out,HBT.out⟩
def Rights (w':World) (b:Nat) (a:List Int) (dp:Int) (ng:Bool) (K:Nat):Prop:=∃ (a':List Int) (m:Nat) (dp':Int) (tr':Bool),Norm a' m∧D w' b a' (m:Int) dp' ng tr'∧dp'≤dp∧dp - 1000 - 20 * (K:Int)≤dp'∧(dp'=dp→a'.getD 0 0<a.getD 0 0)
theorem shr_any {w:World} {b:Nat} {a:List Int} {dp:Int} {ng tr:Bool} {n k:Nat} (h:D w b a (n:Int) dp ng tr) (hn:Norm a n) (k1:1≤k) (k2:k≤500000) (d1:-1000000≤dp) (d2:dp≤1000000) :
  Calls Tryz.prog 165 #[.pointer (some ⟨b,0,none⟩),.int .i64 (-(k:Int))] w fun e w'=>e = .returned (.tuple #[])∧Rights w' b a dp ng k∧Below b w w':=by
 have kk0:0≤(k:Int):=Yy0
 have kk1:(k:Int)≤500000:=Yy0
 have kk2:¬ (0:Int) < -(k:Int):=Yy0
 have kk4:-(k:Int)<0:=Yy0
 have nn0:((n:Int) == 0)=false:=by have:=hn.pos;simp;omega
 have c800:=h.nd_
 have hu:=Tryz.underlying191
 have t1:decide ((0:Int) < -(k:Int))=false:=dff kk2
 have t2:decide (-(k:Int)<0)=true:=dtt kk4
 have t3:decide ((0:Int)<(k:Int))=true:=dtt Yy0
 have t4:decide (0<k)=true:=dtt Yy0
 have H:=hdd h;clear h
 have HN:=hdd hn;clear hn
 go_enter Tryz.func165,Tryz.ntmps165
 go_wp2_with fail
 go_loopg [1] k (fun K v1 w'=>∃ (x:Int) (a':List Int) (m:Nat) (dp':Int) (tr':Bool),v1 = .int .i64 x∧Hid (x = -(K:Int))∧Hid (1≤K)∧Hid (K≤k)∧Hid (Norm a' m)∧Hid (D w' b a' (m:Int) dp' ng tr')∧Hid (Below b w w')∧Hid (dp'≤dp)∧Hid (dp - 20 * ((k:Int) - (K:Int))≤dp')∧Hid (dp'=dp→a'.getD 0 0≤a.getD 0 0))
 case atStart=>exact ⟨_,a,n,dp,tr,rfl,hdd rfl,hdd k1,hdd (nlr _),HN,H,hdd (Below.refl b w),hdd (Int.le_refl _),hdd Yy0,hdd (fun _=>Int.le_refl _)⟩
 case round=>
  obtain ⟨x,a',m,dp',tr',rfl,hx,hK1,hK2,hN,hD,hB,hdp,hdq,hl⟩:=hrel
  have g0:0≤(gk:Int):=Yy0
  have g1:(gk:Int)≤500000:=by have:=hK2.out;omega
  by_cases hbig:60<gk
  ·
   have s1:decide (x < -60)=true:=dtt Yy25
   have x0:-500000≤x:=Yy25
   have x1:x≤0:=Yy25
   have HB:=hdd hbig;clear hbig
   have CT:=hdd (right_any (k:=60) hD.out hN.out Yy0 Yy0 (by have:=hdq.out;omega) Yy8)
   go_wp2_with (go_at_call 171;refine CT.out.mono ?_;rintro e w' ⟨rfl,⟨a2,m2,dp2,tr2,q1,q2,q3,q4,q5⟩,hbt⟩;have Q1:=hdd q1;have Q2:=hdd q2;have Q3:=hdd q3;have Q4:=hdd q4;have Q5:=hdd q5;have HBT:=hdd hbt;clear hbt q1 q2 q3 q4 q5)
   go_roundg (gk - 60)
   case measure=>have:=HB.out;omega
   case rel=>exact ⟨_,a2,m2,dp2,tr2,rfl,hdd (by have:=HB.out;have:=hx.out;omega),hdd (by have:=HB.out;omega),hdd (by have:=hK2.out;omega),Q1,Q2,hdd (hB.out.trans HBT.out),hdd (by have:=hdp.out;have:=Q3.out;omega),hdd (by have:=hdq.out;have:=Q4.out;have:=HB.out;omega),hdd (fun e=>Yy92)⟩
  ·
   have s1:decide (-(gk:Int) < -60)=false:=dff Yy0
   obtain rfl:=hx.out
   have gg:(gk:Int)≤60:=Yy0
   have HB:=hdd hbig;clear hbig
   have CT:=hdd (right_any (k:=gk) hD.out hN.out hK1.out Yy0 (by have:=hdq.out;omega) Yy8)
   go_wp2_with (go_at_call 171;refine CT.out.mono ?_;rintro e w' ⟨rfl,⟨a2,m2,dp2,tr2,q1,q2,q3,q4,q5⟩,hbt⟩;have Q1:=hdd q1;have Q2:=hdd q2;have Q3:=hdd q3;have Q4:=hdd q4;have Q5:=hdd q5;have HBT:=hdd hbt;clear hbt q1 q2 q3 q4 q5)
   go_end0
   exact ⟨rfl,⟨a2,m2,dp2,tr2,Q1.out,Q2.out,by have:=hdp.out;have:=Q3.out;omega,by have:=hdq.out;have:=Q4.out;have:=hK1.out;omega,fun e=>Yy92⟩,hB.out.trans HBT.out⟩
inductive IsB:Ending→Prop
 | mk (r:Bool):IsB (.returned (.bool r))
theorem round_any {w:World} {b:Nat} {a:List Int} {dp x:Int} {ng tr:Bool} {n:Nat} (h:D w b a (n:Int) dp ng tr) (hn:Norm a n) (d1:-1000000000≤x) (d2:x≤1000000000) :
  Calls Tryz.prog 172 #[.pointer (some ⟨b,0,none⟩),.int .i64 x] w fun e w'=>IsB e∧w'=w:=by
 have c800:=h.nd_
 have c803:=h.tr_
 have hu:=Tryz.underlying191
 have H:=hdd h;clear h
 have HN:=hdd hn;clear hn
 by_cases hx0:x<0
 ·
  have t1:decide (x<0)=true:=dtt hx0
  go_enter Tryz.func172,Tryz.ntmps172
  go_wp2_with fail
  go_ret
  exact ⟨IsB.mk _,rfl⟩
 ·
  have t1:decide (x<0)=false:=dff hx0
  by_cases hxn:(n:Int)≤x
  ·
   have t2:decide ((n:Int)≤x)=true:=dtt hxn
   go_enter Tryz.func172,Tryz.ntmps172
   go_wp2_with fail
   go_ret
   exact ⟨IsB.mk _,rfl⟩
  ·
   have t2:decide ((n:Int)≤x)=false:=dff hxn
   obtain ⟨i,rfl⟩:∃ i:Nat,x=(i:Int):=⟨x.toNat,Yy0⟩
   obtain ⟨y,hy⟩:∃ y,w.cell? ⟨b,i,none⟩=some (.int .u8 y):=⟨_,H.out.d i Yy46⟩
   have i0:0≤(i:Int):=Yy0
   have i1:(i:Int)<800:=Yy46
   by_cases hy5:y=53
   ·
    have t3:(y == 53)=true:=beq_iff_eq.mpr hy5
    have HY:=hdd hy5;clear hy5
    by_cases hin:(i:Int)+1=(n:Int)
    ·
     have t4:((i:Int)+1 == (n:Int))=true:=beq_iff_eq.mpr hin
     have HIN:=hdd hin;clear hin
     cases tr with
     | true=>
      go_enter Tryz.func172,Tryz.ntmps172
      go_wp2_with fail
      go_ret
      exact ⟨IsB.mk _,rfl⟩
     | false=>
      rcases Nat.eq_zero_or_pos i with e | e
      ·
       subst e
       go_enter Tryz.func172,Tryz.ntmps172
       go_wp2_with fail
       go_ret
       exact ⟨IsB.mk _,rfl⟩
      ·
       obtain ⟨m,hm⟩:∃ m:Nat,(i:Int) - 1=(m:Int):=⟨i - 1,Yy0⟩
       obtain ⟨z,hz⟩:∃ z,w.cell? ⟨b,m,none⟩=some (.int .u8 z):=⟨_,H.out.d m Yy46⟩
       have m0:0≤(m:Int):=Yy0
       have m1:(m:Int)<800:=Yy0
       have t5:decide ((0:Int)<(i:Int))=true:=dtt Yy0
       have t5':decide (0<i)=true:=dtt e
       have E:=hdd e;clear e
       go_enter Tryz.func172,Tryz.ntmps172
       go_wp2_with fail
       go_ret
       exact ⟨IsB.mk _,rfl⟩
    ·
     have t4:((i:Int)+1 == (n:Int))=false:=bfo hin
     have HIN:=hdd hin;clear hin
     go_enter Tryz.func172,Tryz.ntmps172
     go_wp2_with fail
     go_ret
     exact ⟨IsB.mk _,rfl⟩
   ·
    have t3:(y == 53)=false:=bfo hy5
    have HY:=hdd hy5;clear hy5
    go_enter Tryz.func172,Tryz.ntmps172
    go_wp2_with fail
    go_ret
    exact ⟨IsB.mk _,rfl⟩
inductive IsU:Ending→Prop
 | mk (x:Int) (h0:0≤x) (h1:x<18446744073709551616):IsU (.returned (.int .u64 x))
theorem u64_range (x:Int):0≤IntKind.u64.wrap x∧IntKind.u64.wrap x<18446744073709551616:=by
 simp [IntKind.wrap,IntKind.bits,IntKind.signed];omega
theorem rint_any {w:World} {b:Nat} {a:List Int} {dp:Int} {ng tr:Bool} {n:Nat} (h:D w b a (n:Int) dp ng tr) (hn:Norm a n) (d1:-1000000000≤dp) (d2:dp≤1000000000) :
  Calls Tryz.prog 166 #[.pointer (some ⟨b,0,none⟩)] w fun e w'=>IsU e∧w'=w:=by
 have c801:=h.dp_
 have c800:=h.nd_
 have CT:=hdd (round_any h hn d1 d2)
 have hu:=Tryz.underlying191
 have H:=hdd h;clear h
 have HN:=hdd hn;clear hn
 by_cases hb:20<dp
 ·
  have t1:decide (20<dp)=true:=dtt hb
  go_enter Tryz.func166,Tryz.ntmps166
  go_wp2_with fail
  go_ret
  exact ⟨.mk _ Yy0 Yy0,rfl⟩
 ·
  have t1:decide (20<dp)=false:=dff hb
  have hb':dp≤20:=Yy0
  go_enter Tryz.func166,Tryz.ntmps166
  go_upto_block 0 with (fail)
  go_cut [3,4] (fun v3 v4 wc=>∃ (i:Nat) (x:Int),v3 = .int .i64 (i:Int)∧v4 = .int .u64 x∧wc=w∧Hid (i≤20)∧Hid (0≤x∧x<18446744073709551616))
  case first=>
   go_wp2_with fail
   go_loopg [3,4] (20) (fun m v3 v4 wc=>∃ (i:Nat) (x:Int),v3 = .int .i64 (i:Int)∧v4 = .int .u64 x∧wc=w∧Hid (i+m=20)∧Hid (0≤x∧x<18446744073709551616))
   case atStart=>exact ⟨0,0,rfl,rfl,rfl,hdd rfl,hdd ⟨Yy0,Yy0⟩⟩
   case round=>
    obtain ⟨i,x,rfl,rfl,rfl,hi,hx⟩:=hrel
    have i0:0≤(i:Int):=Yy0
    have i2:(i:Int)≤20:=Yy9
    by_cases c1:(i:Int)<dp
    ·
     have t2:decide ((i:Int)<dp)=true:=dtt c1
     by_cases c2:i<n
     ·
      have t3:decide (i<n)=true:=dtt c2
      have t3':decide ((i:Int)<(n:Int))=true:=dtt Yy0
      obtain ⟨y,hy⟩:∃ y,wr.cell? ⟨b,i,none⟩=some (.int .u8 y):=⟨_,H.out.d i Yy46⟩
      have i1:(i:Int)<800:=Yy46
      go_wp2_with fail
      go_roundg (gk - 1)
      case measure=>have:=hi.out;omega
      case rel=>exact ⟨i+1,_,rfl,rfl,rfl,hdd Yy9,hdd (u64_range _)⟩
     ·
      have t3:decide (i<n)=false:=dff c2
      have t3':decide ((i:Int)<(n:Int))=false:=dff Yy0
      go_wp2_with fail
      go_meet
      exact ⟨i,x,rfl,rfl,rfl,hdd Yy0,hx⟩
    ·
     have t2:decide ((i:Int)<dp)=false:=dff c1
     go_wp2_with fail
     go_meet
     exact ⟨i,x,rfl,rfl,rfl,hdd Yy0,hx⟩
  case rest=>
   obtain ⟨i,x,rfl,rfl,rfl,hi,hx⟩:=hcut
   have i00:0≤(i:Int):=Yy0
   have i20:(i:Int)≤20:=Yy9
   go_wp2_with fail
   go_loopg [3,4] (20 - i) (fun m v3 v4 wd=>∃ (j:Nat) (x:Int),v3 = .int .i64 (j:Int)∧v4 = .int .u64 x∧wd=wc∧Hid (j+m=20)∧Hid (0≤x∧x<18446744073709551616))
   case atStart=>exact ⟨i,x,rfl,rfl,rfl,hdd Yy9,hx⟩
   case round=>
    obtain ⟨j,y,rfl,rfl,rfl,hj,hy⟩:=hrel
    have j0:0≤(j:Int):=Yy0
    have j2:(j:Int)≤20:=Yy14
    by_cases c1:(j:Int)<dp
    ·
     have t2:decide ((j:Int)<dp)=true:=dtt c1
     go_wp2_with fail
     go_roundg (gk - 1)
     case measure=>have:=hj.out;omega
     case rel=>exact ⟨j+1,_,rfl,rfl,rfl,hdd Yy14,hdd (u64_range _)⟩
    ·
     have t2:decide ((j:Int)<dp)=false:=dff c1
     go_wp2_with (go_at_call 172;refine CT.out.mono ?_;rintro e w' ⟨⟨r⟩,rfl⟩)
     ·
      go_ret
      exact ⟨.mk _ (u64_range _).1 (u64_range _).2,rfl⟩
     ·
      go_ret
      exact ⟨.mk _ hy.out.1 hy.out.2,rfl⟩
def jumps (J:Nat→Act→World→Prop) (Q:Exit→Act→World→Prop):Exit→Act→World→Prop
 | .goto l,a,w=>J l a w
 | e,a,w=>Q e a w
theorem scope_labels {P:Program} {a:Act} {w:World} {Q:Exit→Act→World→Prop} {c:Code} (J:Nat→Act→World→Prop)
  (first:c.wp P (jumps J Q) a w)
  (pass:∀ l a w,J l a w→∃ rest,findLabel c l=some rest∧rest.wp P (jumps (fun l' a' w'=>J l' a' w'∧l'<l) Q) a w):(Code.scope c).wp P Q a w:=by
 intro b k cs
 have key:∀ n l a w,l=n→J l a w→∃ rest,findLabel c l=some rest∧∃ e a' w',Q e a' w'∧Arrives P (lone (b.at a (.code rest :: .inScope c :: k)) cs w) b k cs e a' w':=by
  intro n
  induction n using Nat.strongRecOn with
  | _ n ih=>
   intro l a w hn hJ
   obtain ⟨rest,hf,hp⟩:=pass l a w hJ
   refine ⟨rest,hf,?_⟩
   obtain ⟨e,a₁,w₁,hq,harr⟩:=hp b (.inScope c :: k) cs
   cases e with
   | normal=>exact ⟨.normal,a₁,w₁,hq,Steps.trans harr (.one step_inScope)⟩
   | exit id=>exact ⟨.exit id,a₁,w₁,hq,fun k' hk=>harr k' (by simp [exitTo,hk])⟩
   | goto l'=>
    obtain ⟨hJ',hlt⟩:=hq
    obtain ⟨rest₂,hf₂,e₂,a₂,w₂,hq₂,harr₂⟩:=ih l' Yy0 l' a₁ w₁ rfl hJ'
    exact ⟨e₂,a₂,w₂,hq₂,.of_steps (harr _ (by simp [gotoIn,hf₂])) harr₂⟩
   | ret=>exact ⟨_,a₁,w₁,hq,harr⟩
   | panic ch=>exact ⟨_,a₁,w₁,hq,harr⟩
   | outgrown=>exact ⟨_,a₁,w₁,hq,harr⟩
 obtain ⟨e,a₁,w₁,hq,harr⟩:=first b (.inScope c :: k) cs
 cases e with
 | normal=>exact ⟨.normal,a₁,w₁,hq,.head step_scope (Steps.trans harr (.one step_inScope))⟩
 | exit id=>exact ⟨.exit id,a₁,w₁,hq,fun k' hk=>.head step_scope (harr k' (by simp [exitTo,hk]))⟩
 | goto l'=>
  obtain ⟨rest₂,hf₂,e₂,a₂,w₂,hq₂,harr₂⟩:=key _ l' a₁ w₁ rfl hq
  exact ⟨e₂,a₂,w₂,hq₂,.of_steps (.head step_scope (harr _ (by simp [gotoIn,hf₂]))) harr₂⟩
 | ret=>exact ⟨_,a₁,w₁,hq,.of_steps (.one step_scope) harr⟩
 | panic ch=>exact ⟨_,a₁,w₁,hq,.of_steps (.one step_scope) harr⟩
 | outgrown=>exact ⟨_,a₁,w₁,hq,.of_steps (.one step_scope) harr⟩
theorem list_range (l:List Value) {n:Nat} (h:l.length=n):l=(List.range n).map fun i=>l.getD i undef:=by
 apply List.ext_getElem
 ·
  simp [h]
 ·
  intro i h1 h2
  simp [h1]
theorem lit243 (v:Nat→Value):(List.range 243).map v = [v 0,v 1,v 2,v 3,v 4,v 5,v 6,v 7,v 8,v 9,v 10,v 11,v 12,v 13,v 14,v 15,v 16,v 17,v 18,v 19,v 20,v 21,v 22,v 23,v 24,v 25,v 26,v 27,v 28,v 29,v 30,v 31,v 32,v 33,v 34,v 35,v 36,v 37,v 38,v 39,v 40,v 41,v 42,v 43,v 44,v 45,v 46,v 47,v 48,v 49,v 50,v 51,v 52,v 53,v 54,v 55,v 56,v 57,v 58,v 59,v 60,v 61,v 62,v 63,v 64,v 65,v 66,v 67,v 68,v 69,v 70,v 71,v 72,v 73,v 74,v 75,v 76,v 77,v 78,v 79,v 80,v 81,v 82,v 83,v 84,v 85,v 86,v 87,v 88,v 89,v 90,v 91,v 92,v 93,v 94,v 95,v 96,v 97,v 98,v 99,v 100,v 101,v 102,v 103,v 104,v 105,v 106,v 107,v 108,v 109,v 110,v 111,v 112,v 113,v 114,v 115,v 116,v 117,v 118,v 119,v 120,v 121,v 122,v 123,v 124,v 125,v 126,v 127,v 128,v 129,v 130,v 131,v 132,v 133,v 134,v 135,v 136,v 137,v 138,v 139,v 140,v 141,v 142,v 143,v 144,v 145,v 146,v 147,v 148,v 149,v 150,v 151,v 152,v 153,v 154,v 155,v 156,v 157,v 158,v 159,v 160,v 161,v 162,v 163,v 164,v 165,v 166,v 167,v 168,v 169,v 170,v 171,v 172,v 173,v 174,v 175,v 176,v 177,v 178,v 179,v 180,v 181,v 182,v 183,v 184,v 185,v 186,v 187,v 188,v 189,v 190,v 191,v 192,v 193,v 194,v 195,v 196,v 197,v 198,v 199,v 200,v 201,v 202,v 203,v 204,v 205,v 206,v 207,v 208,v 209,v 210,v 211,v 212,v 213,v 214,v 215,v 216,v 217,v 218,v 219,v 220,v 221,v 222,v 223,v 224,v 225,v 226,v 227,v 228,v 229,v 230,v 231,v 232,v 233,v 234,v 235,v 236,v 237,v 238,v 239,v 240,v 241,v 242]:=Yy1
theorem frame243 (t:Array Value) (h:t.size=243):∃ v:Nat→Value,(∀ i,v i=t.getD i undef)∧t=#[v 0,v 1,v 2,v 3,v 4,v 5,v 6,v 7,v 8,v 9,v 10,v 11,v 12,v 13,v 14,v 15,v 16,v 17,v 18,v 19,v 20,v 21,v 22,v 23,v 24,v 25,v 26,v 27,v 28,v 29,v 30,v 31,v 32,v 33,v 34,v 35,v 36,v 37,v 38,v 39,v 40,v 41,v 42,v 43,v 44,v 45,v 46,v 47,v 48,v 49,v 50,v 51,v 52,v 53,v 54,v 55,v 56,v 57,v 58,v 59,v 60,v 61,v 62,v 63,v 64,v 65,v 66,v 67,v 68,v 69,v 70,v 71,v 72,v 73,v 74,v 75,v 76,v 77,v 78,v 79,v 80,v 81,v 82,v 83,v 84,v 85,v 86,v 87,v 88,v 89,v 90,v 91,v 92,v 93,v 94,v 95,v 96,v 97,v 98,v 99,v 100,v 101,v 102,v 103,v 104,v 105,v 106,v 107,v 108,v 109,v 110,v 111,v 112,v 113,v 114,v 115,v 116,v 117,v 118,v 119,v 120,v 121,v 122,v 123,v 124,v 125,v 126,v 127,v 128,v 129,v 130,v 131,v 132,v 133,v 134,v 135,v 136,v 137,v 138,v 139,v 140,v 141,v 142,v 143,v 144,v 145,v 146,v 147,v 148,v 149,v 150,v 151,v 152,v 153,v 154,v 155,v 156,v 157,v 158,v 159,v 160,v 161,v 162,v 163,v 164,v 165,v 166,v 167,v 168,v 169,v 170,v 171,v 172,v 173,v 174,v 175,v 176,v 177,v 178,v 179,v 180,v 181,v 182,v 183,v 184,v 185,v 186,v 187,v 188,v 189,v 190,v 191,v 192,v 193,v 194,v 195,v 196,v 197,v 198,v 199,v 200,v 201,v 202,v 203,v 204,v 205,v 206,v 207,v 208,v 209,v 210,v 211,v 212,v 213,v 214,v 215,v 216,v 217,v 218,v 219,v 220,v 221,v 222,v 223,v 224,v 225,v 226,v 227,v 228,v 229,v 230,v 231,v 232,v 233,v 234,v 235,v 236,v 237,v 238,v 239,v 240,v 241,v 242]:=by
 refine ⟨fun i=>t.toList.getD i undef,fun i=>Yy4,?_⟩
 apply Array.toList_inj.mp
 exact (list_range t.toList (by simpa using h)).trans (lit243 _)
end Go.Proofs.YtieflhncpjjciaaGreatDoor.Dc
