/- Walks and plain laws of this claim. -/
import Derived.Test.YtieflhncpjjciaaGreatDoorByN
import Derived.Test.YtieflhncpjjciaaGreatDoorByE
import Derived.Deep.RegionHeld3
import Derived.Test.YtieflhncpjjciaaGreatDoorByA
set_option maxHeartbeats 8000000
set_option maxRecDepth 100000
set_option linter.unusedVariables false
set_option linter.unusedSimpArgs false
namespace Go.Proofs.YtieflhncpjjciaaGreatDoor.Dc
open Go Go.RowKit Go.Proofs.YtieflhncpjjciaaGreatDoorW.PrintWords Go.Proofs.YtieflhncpjjciaaGreatDoor.PFnGjSquashItems
attribute [local go_sem] run_store_flt
theorem un_plain {u:ByteArray}:∀ m p,u.size - p=m→p≤u.size→Tk u u.size p→(∀ q:Nat,p≤q→q<u.size→bt u (q:Int)≠92)→Un u p ((u.data.toList.drop p).map fun c=>(c.toNat:Int)):=by
 intro m
 induction m with
 | zero=>
  intro p hm hp _ _
  obtain rfl:p=u.size:=Yy0
  rw [List.drop_of_length_le Yy4]
  exact .nil
 | succ m ih=>
  intro p hm hp ht hn
  have hlt:p<u.size:=Yy0
  cases ht with
  | nil=>omega
  | plain h c32 c34 c92 r=>
   have hr:=ih (p+1) Yy0 Yy0 r (fun q h1 h2=>hn q Yy0 h2)
   have e:(u.data.toList.drop p).map (fun c=>(c.toNat:Int))=bt u (p:Int) :: ((u.data.toList.drop (p+1)).map fun c=>(c.toNat:Int)):=by
    rw [List.drop_eq_getElem_cons (by simpa using hlt),List.map_cons,PFnGjSquashItems.bt_at hlt]
    rfl
   rw [e]
   exact .plain hlt c32 c92 hr
  | esc h92 _ _ _=>exact absurd h92 (hn p (nlr _) hlt)
theorem str_self (u:ByteArray):strOfNums (u.data.toList.map fun c=>(c.toNat:Int))=u:=by
 refine ByteArray.ext (Array.toList_inj.mp ?_)
 show (strOfNums _).data.toList=u.data.toList
 rw [strOfNums_data,List.map_map]
 conv=>rhs;rw [← List.map_id u.data.toList]
 refine List.map_congr_left fun c _=>?_
 simp
theorem kstr_plain {s:ByteArray} {i j:Nat} (h:StrTok s i j) (hn:∀ p:Nat,i+1≤p→p<j - 1→bt s (p:Int)≠92):KStr (s.extract (i+1) (j - 1)) (s.extract (i+1) (j - 1)):=by
 have h1:=h.1.1
 have h2:=h.1.2.1
 have hz:(s.extract (i+1) (j - 1)).size=j - 1 - (i+1):=Yy13
 have ht:=tk_shift (a:=i+1) Yy0 _ h.2 (nlr _)
 rw [← hz,Nat.sub_self] at ht
 have hu:=un_plain _ 0 rfl (Nat.zero_le _) ht (fun q _ hq=>by
  rw [PFnGjSquashItems.bt_at hq,bt_ext Yy0 hq]
  exact hn _ Yy0 Yy0)
 rw [List.drop_zero] at hu
 exact ⟨_,hu,(str_self _).symm⟩
structure KeepC (C:Nat→Prop) (base:Nat) (w w':World):Prop where
 os:w'.os=w.os
 tape:w'.tape=w.tape
 output:w'.output=w.output
 size:w.heap.size≤w'.heap.size
 block:∀ g,g<base→¬ C g→w'.heap[g]? = w.heap[g]?
structure OffC (C:Nat→Prop) (base:Nat) (w w':World):Prop where
 size:w.heap.size≤w'.heap.size
 block:∀ g,g<w.heap.size→C g∨base≤g→w'.heap[g]? = w.heap[g]?
theorem KeepC.refl (C:Nat→Prop) (base:Nat) (w:World):KeepC C base w w:=⟨rfl,rfl,rfl,nlr _,fun _ _ _=>rfl⟩
theorem KeepC.trans {C:Nat→Prop} {base:Nat} {a b c:World} (h:KeepC C base a b) (k:KeepC C base b c):KeepC C base a c:=⟨k.os.trans h.os,k.tape.trans h.tape,k.output.trans h.output,Nat.le_trans h.size k.size,fun g h1 h2=>(k.block g h1 h2).trans (h.block g h1 h2)⟩
theorem KeepC.mono {C:Nat→Prop} {base base':Nat} {a b:World} (h:KeepC C base' a b) (hb:base≤base'):KeepC C base a b:=⟨h.os,h.tape,h.output,h.size,fun g h1 h2=>h.block g (Nat.lt_of_lt_of_le h1 hb) h2⟩
theorem KeepC.of {C:Nat→Prop} {base B:Nat} {a b:World} (h:Below B a b) (hb:base≤B):KeepC C base a b:=⟨h.os,h.tape,h.output,h.size,fun g h1 _=>h.block g (Nat.lt_of_lt_of_le h1 hb)⟩
theorem KeepC.toBelow {C:Nat→Prop} {base b0:Nat} {a b:World} (h:KeepC C base a b) (hb:b0≤base) (hC:∀ g,C g→b0≤g):Below b0 a b:=⟨h.os,h.tape,h.output,h.size,fun g h1=>h.block g Yy0 (fun hc=>by have:=hC g hc;omega)⟩
theorem OffC.of {C:Nat→Prop} {base:Nat} {a b:World} (h:Below a.heap.size a b):OffC C base a b:=⟨h.size,fun g h1 _=>h.block g h1⟩
theorem OffC.set {C:Nat→Prop} {base:Nat} (w:World) (a:Addr) (v:Value) (h1:¬ C a.block) (h2:a.block<base):OffC C base w (w.setCell a v):=by
 have hb:Below 0 w (w.setCell a v):=(Below.refl 0 w).setCell (Nat.zero_le _) v
 exact ⟨hb.size,fun g _ hg=>Below.heap_setCell w a v g (fun e=>by subst e;rcases hg with hg | hg;exact h1 hg;omega)⟩
structure IterOK (f:Nat) (caps:Array Value) (C:Nat→Prop) (Inv:Nat→List (RV×RV)→World→Prop) (cont:List (RV×RV)→Bool):Prop where
 enter:∀ (args:Array Value) (w:World),(callFunc f args).run Tryz.prog w = .ok (.enter f args) w
 step:∀ (base:Nat) (L:List (RV×RV)) (a b:RV) (w:World),Inv base L w→base≤w.heap.size→L.length≤65536→Calls Tryz.prog f (#[a.val,b.val] ++ caps) w fun e w'=>e = .returned (.bool (cont (L ++ [(a,b)])))∧Inv base (L ++ [(a,b)]) w'∧KeepC C base w w'
 off:∀ (base:Nat) (L:List (RV×RV)) (w w':World),Inv base L w→OffC C base w w'→Inv base L w'
def RV.cl (r:RV):List Value:=[.int .i64 r.k,.string r.raw,.string r.str,.float .f64 r.q,.int .i64 r.ix,.slice none 0 0]
theorem RV.cl_len (r:RV):r.cl.length=6:=rfl
def RV.z:RV:=⟨0,⟨#[]⟩,⟨#[]⟩,0,0⟩
structure FS (C:Nat→Prop) (Inv:Nat→List (RV×RV)→World→Prop) (A K:Nat) (t:RV) (L:List (RV×RV)) (w wr:World) (key val:RV):Prop where
 tr:wr.rangeAt A 0 t.cl
 kr:wr.rangeAt K 0 key.cl
 kt:wr.there K 0 6
 vr:wr.rangeAt (K+1) 0 val.cl
 vt:wr.there (K+1) 0 6
 inv:Inv (K+2) L wr
 keep:KeepC C A w wr
 sz:K+2≤wr.heap.size
 ak:A<K
section
variable {f:Nat} {caps:Array Value} {C:Nat→Prop} {Inv:Nat→List (RV×RV)→World→Prop} {cont:List (RV×RV)→Bool} {A K:Nat} {t key val:RV} {L:List (RV×RV)} {w wr w':World}
theorem FS.below (h:FS C Inv A K t L w wr key val) (hi:IterOK f caps C Inv cont) (hb:Below wr.heap.size wr w'):FS C Inv A K t L w w' key val:=
 ⟨rng_b h.tr hb,rng_b h.kr hb,thr_b h.kt hb,rng_b h.vr hb,thr_b h.vt hb,hi.off _ _ _ _ h.inv (OffC.of hb),h.keep.trans (KeepC.of hb (by have:=h.sz;have:=h.ak;omega)),Nat.le_trans h.sz hb.size,h.ak⟩
theorem FS.dn (h:FS C Inv A K t L w wr key val) (hi:IterOK f caps C Inv cont) (n:Nat):FS C Inv A K t L w (wr.drewN n) key val:=h.below hi (Below.drewNs (Below.refl _ _) n)
theorem below_set {B:Nat} (w:World) (a:Addr) (v:Value) (h:B≤a.block):Below B w (w.setCell a v):=(Below.refl B w).setCell h v
theorem FS.keySet (h:FS C Inv A K t L w wr key val) (hi:IterOK f caps C Inv cont) (hC:∀ g,C g→g<A) (i:Nat) (hl:i<6) (v:Value) (key':RV) (hk:key.cl.set i v=key'.cl):FS C Inv A K t L w (wr.setCell ⟨K,i,none⟩ v) key' val:=by
 have ak:=h.ak
 have hb:=below_set (B:=A) wr ⟨K,i,none⟩ v (by show A≤K;omega)
 exact ⟨rng_oth h.tr K i v Yy0,by rw [← hk];exact rng_set h.kr i v Yy51,thr_set h.kt _ v,rng_oth h.vr K i v Yy0,thr_set h.vt _ v,hi.off _ _ _ _ h.inv (OffC.set wr _ v (fun hc=>by have h9:K<A:=hC _ hc;omega) (by show K<K+2;omega)),h.keep.trans (KeepC.of hb (nlr _)),Nat.le_trans h.sz hb.size,h.ak⟩
theorem FS.valSet (h:FS C Inv A K t L w wr key val) (hi:IterOK f caps C Inv cont) (hC:∀ g,C g→g<A) (i:Nat) (hl:i<6) (v:Value) (val':RV) (hk:val.cl.set i v=val'.cl):FS C Inv A K t L w (wr.setCell ⟨K+1,i,none⟩ v) key val':=by
 have ak:=h.ak
 have hb:=below_set (B:=A) wr ⟨K+1,i,none⟩ v (by show A≤K+1;omega)
 exact ⟨rng_oth h.tr (K+1) i v Yy0,rng_oth h.kr (K+1) i v Yy0,thr_set h.kt _ v,Yy90,thr_set h.vt _ v,hi.off _ _ _ _ h.inv (OffC.set wr _ v (fun hc=>by have h9:K+1<A:=hC _ hc;omega) (by show K+1<K+2;omega)),h.keep.trans (KeepC.of hb (nlr _)),Nat.le_trans h.sz hb.size,h.ak⟩
theorem FS.ms {b0:Nat} (h:FS C Inv A K t L w wr key val) (hm:MS w b0) (hb:b0≤A) (hC:∀ g,C g→b0≤g):MS wr b0∧b0≤wr.heap.size:=
 ⟨hm.below (h.keep.toBelow hb hC),by have:=h.sz;have:=h.ak;omega⟩
end
def ValOK (u:ByteArray) (t:ItT) (val:RV):Prop:=
 val.k=gkd t.kd∧val.raw=u.extract t.v t.j∧(t.kd=4→KStr (u.extract (t.v+1) (t.j - 1)) val.str)∧(t.kd≠4→val.str=⟨#[]⟩)
end Go.Proofs.YtieflhncpjjciaaGreatDoor.Dc
