/- Walks and plain laws of this claim. -/
import Derived.Test.YtieflhncpjjciaaGreatDoorRows
import Derived.Test.YtieflhncpjjciaaGreatDoorByN
import Derived.LaidMore
import Derived.Lib.LaidTab
import Derived.OpenShut
import Derived.Handed
import Derived.KernelRfl
import Derived.Test.YtieflhncpjjciaaGreatDoorTie
import Derived.Test.YtieflhncpjjciaaGreatDoorCards
import Derived.Test.YtieflhncpjjciaaGreatDoorByL
import Derived.WalkKit
import Derived.ProofKit
import Derived.ShutString
import Derived.ChangeOld
import Derived.Below
import Derived.SizedLaws
import Derived.Test.YtieflhncpjjciaaGreatDoorByA
set_option maxRecDepth 100000
set_option linter.unusedVariables false
set_option linter.unusedSimpArgs false
namespace Go.Proofs.YtieflhncpjjciaaGreatDoor.Dc
open Go Go.RowKit Go.Proofs.YtieflhncpjjciaaGreatDoorW.PrintWords Go.Proofs.YtieflhncpjjciaaGreatDoor.PFnGjSquashItems
noncomputable abbrev trd (w:World) (fuel:Nat) (t:TypeId) (cs:List Value):=DataW.trod (H:=Unit) (fun _=>()) Tryz.prog w 0 (fun _=>true) false fuel t cs
theorem laid_get {P:Program} {W:World} {l:List (String×DataW Unit)} {ps:List MemPlace} (h:DataW.LaidVars P W l ps) {n:String} {d:DataW Unit} (hm:(n,d)∈l):∃ g t cs fuel p,P.globalNamed n=some g∧(P.globals[g]?).map (·.type)=some t∧W.var? P n=some cs∧DataW.trod (fun _=>()) P W 0 (fun _=>true) false fuel t cs.toList=some (d,p):=by
 induction l generalizing ps with
 | nil=>cases hm
 | cons x l ih=>
  obtain ⟨n0,d0⟩:=x
  obtain ⟨g,t,cs,fuel,p,q,h1,h2,h3,h4,h5,_⟩:=h
  rcases List.mem_cons.mp hm with e | hm
  ·
   cases e;exact ⟨g,t,cs,fuel,p,h1,h2,h3,h4⟩
  ·
   exact ih h5 hm
theorem laid_at {W:World} {l:List (String×DataW Unit)} {ps:List MemPlace} (h:DataW.LaidVars Tryz.prog W l ps) {n:String} {d:DataW Unit} (hm:(n,d)∈l) (g t:Nat) (hg:Tryz.prog.globalNamed n=some g) (ht:(Tryz.prog.globals[g]?).map (·.type)=some t):∃ cs fuel p,trd W fuel t cs=some (d,p)∧∀ i:Nat,W.cell? ⟨g,i,none⟩=cs[i]?:=by
 obtain ⟨g',t',cs,fuel,p,h1,h2,h3,h4⟩:=laid_get h hm
 obtain rfl:=Option.some.inj (hg.symm.trans h1)
 obtain rfl:=Option.some.inj (ht.symm.trans h2)
 exact ⟨cs.toList,fuel,p,h4,fun i=>by rw [World.var?_cell hg h3 i,Array.getElem?_toList]⟩
theorem trod_float {w:World} {fuel t:Nat} {k:FloatKind} {cs:List Value} {x:DataW Unit×List MemPlace} (ht:Tryz.prog.underlying t=some (.float k)) (h:trd w fuel t cs=some x):∃ b,cs = [.float k b]∧x=(.lit (.float k b),[]):=by
 cases fuel with
 | zero=>simp [DataW.trod] at h
 | succ n=>
  unfold DataW.trod at h
  rw [ht] at h
  split at h <;> simp_all
theorem trod_ifc {w:World} {fuel t:Nat} {m:Array (String×TypeId)} {cs:List Value} {s:String} {d:DataW Unit} {p:List MemPlace} (ht:Tryz.prog.underlying t=some (.interface m)) (h:trd w fuel t cs=some (.iface s d,p)):∃ u v,cs = [.iface u v]:=by
 cases fuel with
 | zero=>simp [DataW.trod] at h
 | succ n=>
  unfold DataW.trod at h
  rw [ht] at h
  split at h <;> simp_all
theorem spot_none {w:World} {a:Addr} {v:Value} (h:w.cell? a=some v):a=⟨a.block,a.off,none⟩:=by
 obtain ⟨b,o,s⟩:=a
 unfold World.cell? at h
 cases s with
 | none=>rfl
 | some s=>
  split at h <;> simp at h
theorem add_plain (b o i:Nat):(⟨b,o,none⟩:Addr).add i=⟨b,o+i,none⟩:=by
 unfold Addr.add
 split
 ·
  rename_i h;rw [h];rfl
 ·
  rfl
theorem slice_cells {w:World} {fuel t e n:Nat} {cs:List Value} {ds:List (DataW Unit)} {p:List MemPlace} (ht:Tryz.prog.underlying t=some (.slice e)) (hc:Tryz.prog.cellsOf e=n) (hn:1≤n) (hd:1≤ds.length) (h:trd w fuel t cs=some (.slice ds [],p)) :
  ∃ lb lo c m,cs = [.slice (some ⟨lb,lo,none⟩) ds.length c]∧lb<w.heap.size∧∀ (i:Nat) (d:DataW Unit),ds[i]? = some d→∃ q vs,trd w m e vs=some (d,q)∧vs.length=n∧∀ (j:Nat) (v:Value),vs[j]? = some v→w.cell? ⟨lb,lo+i * n+j,none⟩=some v:=by
 rcases DataW.trod_slice ht h with ⟨_,hx⟩ | ⟨a,len,cap,elems,rest,m,_,hcs,hx,_,hl,_,hlen,hel,_⟩
 ·
  simp at hx
 ·
  simp only [Prod.mk.injEq,DataW.slice.injEq] at hx
  obtain ⟨⟨rfl,_⟩,_⟩:=hx
  have el:(elems.map (·.1)).length=len:=by simpa using hlen
  rw [hc] at hel
  have key:∀ (i:Nat) (d:DataW Unit),(elems.map (·.1))[i]? = some d→∃ q vs,trd w m e vs=some (d,q)∧vs.length=n∧∀ (j:Nat) (v:Value),vs[j]? = some v→w.cell? ((a.add (i * n)).add j)=some v:=by
   intro i d hid
   have hi:i<len:=by rw [← el];exact (List.getElem?_eq_some_iff.1 hid).1
   have hE:=hel i hi
   rw [List.getElem?_map] at hid
   cases hy:elems[i]? with
   | none=>simp [hy] at hid
   | some y=>
    rw [hy] at hE hid
    simp only [Option.map_some,Option.some.injEq] at hid
    simp only [Option.bind_eq_some_iff] at hE
    obtain ⟨vs,hv,hy1⟩:=hE
    unfold World.cells? at hv
    rw [if_pos (Nat.zero_le _)] at hv
    have hvl:vs.length=n:=by simpa using Lib.mapM_length hv
    refine ⟨y.2,vs,by rw [← hid];exact hy1,hvl,fun j v hj=>?_⟩
    have hjn:j<n:=by rw [← hvl];exact (List.getElem?_eq_some_iff.1 hj).1
    obtain ⟨b,hb,hf⟩:=Lib.mapM_at hv j j (by simp [hjn])
    rw [hj] at hb
    cases hb
    exact hf
  obtain ⟨d0,hd0⟩:∃ d0,(elems.map (·.1))[0]? = some d0:=⟨_,List.getElem?_eq_getElem hd⟩
  obtain ⟨_,vs0,_,hv0,hc0⟩:=key 0 d0 hd0
  obtain ⟨v0,hv00⟩:∃ v0,vs0[0]? = some v0:=⟨_,List.getElem?_eq_getElem Yy0⟩
  have ha:=hc0 0 v0 hv00
  rw [Nat.zero_mul] at ha
  have ha':w.cell? a=some v0:=by simpa [Addr.add] using ha
  have hap:=spot_none ha'
  refine ⟨a.block,a.off,cap,m,by rw [hcs,el,← hap],blo w _ ha',fun i d hid=>?_⟩
  obtain ⟨q,vs,h1,h2,h3⟩:=key i d hid
  refine ⟨q,vs,h1,h2,fun j v hj=>?_⟩
  have:=h3 j v hj
  rw [hap,add_plain,add_plain] at this
  exact this
theorem one_cell {l:List Value} (h:l.length=1):∃ v,l = [v]:=by
 match l,h with
 | [v],_=>exact ⟨v,rfl⟩
theorem struct2 {w:World} {fuel t:Nat} {cs:List Value} {f0 f1:Field} {d0 d1:DataW Unit} {p:List MemPlace} (ht:Tryz.prog.underlying t=some (.struct #[f0,f1])) (o0:f0.offset=0) (o1:f1.offset=1) (c0:Tryz.prog.cellsOf f0.type=1) (c1:Tryz.prog.cellsOf f1.type=1) (ct:Tryz.prog.cellsOf t=2) (h:trd w fuel t cs=some (.agg [d0,d1],p)) :
  ∃ v0 v1 m q0 q1,cs = [v0,v1]∧trd w m f0.type [v0]=some (d0,q0)∧trd w m f1.type [v1]=some (d1,q1):=by
 obtain ⟨xs,n,_,hx,hl,hxl,hf⟩:=DataW.trod_struct ht h
 have hf0:=hf 0 f0 rfl
 have hf1:=hf 1 f1 rfl
 rw [o0,c0] at hf0
 rw [o1,c1] at hf1
 rw [ct] at hl
 match cs,hl,xs,hxl with
 | [v0,v1],_,[x0,x1],_=>
  injection hx with hx _
  injection hx with hx
  injection hx with e0 hx
  injection hx with e1 _
  exact ⟨v0,v1,n,x0.2,x1.2,rfl,by rw [e0];exact hf0,by rw [e1];exact hf1⟩
theorem struct3 {w:World} {fuel t:Nat} {cs:List Value} {f0 f1 f2:Field} {d0 d1 d2:DataW Unit} {p:List MemPlace} (ht:Tryz.prog.underlying t=some (.struct #[f0,f1,f2])) (o0:f0.offset=0) (o1:f1.offset=1) (o2:f2.offset=2) (c0:Tryz.prog.cellsOf f0.type=1) (c1:Tryz.prog.cellsOf f1.type=1) (c2:Tryz.prog.cellsOf f2.type=1) (ct:Tryz.prog.cellsOf t=3) (h:trd w fuel t cs=some (.agg [d0,d1,d2],p)) :
  ∃ v0 v1 v2 m q0 q1 q2,cs = [v0,v1,v2]∧trd w m f0.type [v0]=some (d0,q0)∧trd w m f1.type [v1]=some (d1,q1)∧trd w m f2.type [v2]=some (d2,q2):=by
 obtain ⟨xs,n,_,hx,hl,hxl,hf⟩:=DataW.trod_struct ht h
 have hf0:=hf 0 f0 rfl
 have hf1:=hf 1 f1 rfl
 have hf2:=hf 2 f2 rfl
 rw [o0,c0] at hf0
 rw [o1,c1] at hf1
 rw [o2,c2] at hf2
 rw [ct] at hl
 match cs,hl,xs,hxl with
 | [v0,v1,v2],_,[x0,x1,x2],_=>
  injection hx with hx _
  injection hx with hx
  injection hx with e0 hx
  injection hx with e1 hx
  injection hx with e2 _
  exact ⟨v0,v1,v2,n,x0.2,x1.2,x2.2,rfl,by rw [e0];exact hf0,by rw [e1];exact hf1,by rw [e2];exact hf2⟩
theorem int_lit {w:World} {fuel t:Nat} {k:IntKind} {v:Value} {z:Int} {q:List MemPlace} (ht:Tryz.prog.underlying t=some (.int k)) (h:trd w fuel t [v]=some (.lit (.int k z),q)):v = .int k z∧(Lit.int k z).wf=true:=by
 obtain ⟨n,h1,h2,h3⟩:=DataW.trod_int ht h
 injection h1 with h1 _
 injection h2 with h2 _
 injection h2 with h2
 injection h2 with _ h2
 subst h2
 exact ⟨h1,h3⟩
theorem str_lit {w:World} {fuel t:Nat} {v:Value} {l:List UInt8} {q:List MemPlace} (ht:Tryz.prog.underlying t=some .string) (h:trd w fuel t [v]=some (.lit (.string l),q)):v = .string ⟨l.toArray⟩:=by
 obtain ⟨s,h1,h2,_⟩:=DataW.trod_string ht h
 injection h1 with h1 _
 injection h2 with h2 _
 injection h2 with h2
 injection h2 with h2
 rw [h1,h2]
variable {W:World} {l:List (String×DataW Unit)} {ps:List MemPlace}
theorem op_laid (h : DataW.LaidVars Tryz.prog W l ps) (hm : ("internal/strconv.optimize", Rows.laid_internal_strconv_optimize) ∈ l) : W.cell? ⟨4, 0, none⟩ = some (.bool true) := by
 obtain ⟨cs,fuel,p,h1,h2⟩:=laid_at h hm 4 4 Yy1 Yy1
 obtain ⟨b,h3,h4⟩:=DataW.trod_bool Tryz.underlying4 h1
 injection h4 with h4 _
 injection h4 with h4
 injection h4 with h4
 rw [h2,h3,← h4]
 rfl
theorem fi_laid (h : DataW.LaidVars Tryz.prog W l ps) (hm : ("internal/strconv.float64info", Rows.laid_internal_strconv_float64info) ∈ l) : W.cell? ⟨5, 0, none⟩ = some (.int .u64 52) ∧ W.cell? ⟨5, 1, none⟩ = some (.int .u64 11) ∧ W.cell? ⟨5, 2, none⟩ = some (.int .i64 (-1023)) := by
 obtain ⟨cs,fuel,p,h1,h2⟩:=laid_at h hm 5 182 Yy1 Yy1
 obtain ⟨v0,v1,v2,m,q0,q1,q2,rfl,a0,a1,a2⟩:=struct3 Tryz.underlying182 rfl rfl rfl Yy1 Yy1 Yy1 Yy1 h1
 rw [h2,h2,h2,(int_lit Yy1 a0).1,(int_lit Yy1 a1).1,(int_lit Yy1 a2).1]
 exact ⟨rfl,rfl,rfl⟩
theorem pw_laid (h : DataW.LaidVars Tryz.prog W l ps) (hm : ("internal/strconv.powtab", Rows.laid_internal_strconv_powtab) ∈ l) : ∃ lb lo c : Nat, lb < W.heap.size ∧ W.cell? ⟨7, 0, none⟩ = some (.slice (some ⟨lb, lo, none⟩) 9 c) ∧ ∀ i, i < 9 → ∃ z : Nat, W.cell? ⟨lb, lo + i, none⟩ = some (.int .i64 (z : Int)) ∧ 1 ≤ z ∧ z ≤ 27 := by
 obtain ⟨cs,fuel,p,h1,h2⟩:=laid_at h hm 7 59 Yy1 Yy1
 have e:(Rows.laid_internal_strconv_powtab:DataW Unit) = .slice (([1,3,6,9,13,16,19,23,26]:List Nat).map fun z:Nat=>.lit (.int .i64 (z:Int))) []:=Yy1
 rw [e] at h1
 obtain ⟨lb,lo,c,m,rfl,hlt,hel⟩:=slice_cells (n:=1) Tryz.underlying59 Yy1 Yy0 Yy4 h1
 refine ⟨lb,lo,c,hlt,by rw [h2];rfl,fun i hi=>?_⟩
 obtain ⟨z,hz⟩:∃ z,([1,3,6,9,13,16,19,23,26]:List Nat)[i]? = some z:=⟨_,List.getElem?_eq_getElem hi⟩
 have hb:∀ z∈([1,3,6,9,13,16,19,23,26]:List Nat),1≤z∧z≤27:=Yy3
 have hzb:=hb z (List.mem_of_getElem? hz)
 obtain ⟨q,vs,h3,h4,h5⟩:=hel i (.lit (.int .i64 (z:Int))) (by rw [List.getElem?_map,hz];rfl)
 obtain ⟨v,rfl⟩:=one_cell h4
 refine ⟨z,?_,hzb⟩
 have:=h5 0 v rfl
 rw [Nat.mul_one,Nat.add_zero] at this
 rw [this,(int_lit Tryz.underlying3 h3).1]
theorem fp_laid (h : DataW.LaidVars Tryz.prog W l ps) (hm : ("internal/strconv.float64pow10", Rows.laid_internal_strconv_float64pow10) ∈ l) : ∃ lb lo c : Nat, lb < W.heap.size ∧ W.cell? ⟨8, 0, none⟩ = some (.slice (some ⟨lb, lo, none⟩) 23 c) ∧ ∀ i, i < 23 → ∃ f : Nat, W.cell? ⟨lb, lo + i, none⟩ = some (.float .f64 f) := by
 obtain ⟨cs,fuel,p,h1,h2⟩:=laid_at h hm 8 218 Yy1 Yy1
 obtain ⟨ds,hds,hdl⟩:∃ ds:List (DataW Unit),(Rows.laid_internal_strconv_float64pow10:DataW Unit) = .slice ds []∧ds.length=23:=⟨_,rfl,rfl⟩
 rw [hds] at h1
 obtain ⟨lb,lo,c,m,rfl,hlt,hel⟩:=slice_cells (n:=1) Tryz.underlying218 Yy1 Yy0 Yy0 h1
 refine ⟨lb,lo,c,hlt,by rw [h2,hdl];rfl,fun i hi=>?_⟩
 obtain ⟨d,hd⟩:∃ d,ds[i]? = some d:=⟨_,List.getElem?_eq_getElem Yy0⟩
 obtain ⟨q,vs,h3,h4,h5⟩:=hel i d hd
 obtain ⟨b,h6,_⟩:=trod_float Tryz.underlying32 h3
 subst h6
 have:=h5 0 _ rfl
 rw [Nat.mul_one,Nat.add_zero] at this
 exact ⟨b,this⟩
theorem lc_laid (h : DataW.LaidVars Tryz.prog W l ps) (hm : ("internal/strconv.leftcheats", Rows.laid_internal_strconv_leftcheats) ∈ l) : LC W W.heap.size := by
 obtain ⟨cs,fuel,p,h1,h2⟩:=laid_at h hm 10 234 Yy1 Yy1
 have e:(Rows.laid_internal_strconv_leftcheats:DataW Unit) = .slice (Pinned.cheatRows.map fun x=>.agg [.lit (.int .i64 x.1),.lit (.string x.2)]) []:=Yy1
 have hl:Pinned.cheatRows.length=61:=Yy1
 rw [e] at h1
 obtain ⟨lb,lo,c,m,rfl,hlt,hel⟩:=slice_cells (n:=2) Tryz.underlying234 Yy1 Yy0 (by simp [hl]) h1
 have h10:W.cell? ⟨10,0,none⟩=some (.slice (some ⟨lb,lo,none⟩) 61 c):=by rw [h2];simp [hl]
 refine ⟨blo W _ h10,lb,lo,c,hlt,h10,fun i hi=>?_⟩
 obtain ⟨x,hx⟩:∃ x,Pinned.cheatRows[i]? = some x:=⟨_,List.getElem?_eq_getElem Yy0⟩
 have hc:cheat i=x:=by unfold cheat;rw [List.getD_eq_getElem?_getD,hx];rfl
 obtain ⟨q,vs,h3,h4,h5⟩:=hel i _ (by rw [List.getElem?_map,hx];rfl)
 obtain ⟨v0,v1,m2,q0,q1,rfl,a0,a1⟩:=struct2 Tryz.underlying233 rfl rfl Yy1 Yy1 Yy1 h3
 have g0:=h5 0 v0 rfl
 rw [Nat.add_zero] at g0
 rw [hc,g0,h5 1 v1 rfl,(int_lit Yy1 a0).1,str_lit Yy1 a1]
 exact ⟨rfl,rfl⟩
theorem er_laid (h : DataW.LaidVars Tryz.prog W l ps) (hm : ("strconv.ErrSyntax", Rows.laid_strconv_ErrSyntax) ∈ l) : ∃ t v, W.cell? ⟨1, 0, none⟩ = some (.iface t v) := by
 obtain ⟨cs,fuel,p,h1,h2⟩:=laid_at h hm 1 117 Yy1 Yy1
 obtain ⟨u,v,rfl⟩:=trod_ifc Tryz.underlying117 h1
 exact ⟨u,v,by rw [h2];rfl⟩
theorem er2_laid (h : DataW.LaidVars Tryz.prog W l ps) (hm : ("strconv.ErrRange", Rows.laid_strconv_ErrRange) ∈ l) : ∃ t v, W.cell? ⟨2, 0, none⟩ = some (.iface t v) := by
 obtain ⟨cs,fuel,p,h1,h2⟩:=laid_at h hm 2 117 Yy1 Yy1
 obtain ⟨u,v,rfl⟩:=trod_ifc Tryz.underlying117 h1
 exact ⟨u,v,by rw [h2];rfl⟩
theorem u64_wf {z:Int} (h:(Lit.int .u64 z).wf=true):0≤z∧z<18446744073709551616:=by
 simp [Lit.wf,IntKind.min,IntKind.max,IntKind.signed,IntKind.bits] at h
 omega
theorem pt_laid (h : DataW.LaidVars Tryz.prog W l ps) (hm : ("internal/strconv.pow10Tab", Rows.laid_internal_strconv_pow10Tab) ∈ l) : ∀ i, i < 696 → ∃ y z : Int, W.cell? ⟨9, i * 2, none⟩ = some (.int .u64 y) ∧ W.cell? ⟨9, i * 2 + 1, none⟩ = some (.int .u64 z) ∧ 0 ≤ y ∧ y < 18446744073709551616 ∧ 0 ≤ z ∧ z < 18446744073709551616 := by
 obtain ⟨cs,fuel,p,h1,h2⟩:=laid_at h hm 9 223 Yy1 Yy1
 have e:(Rows.laid_internal_strconv_pow10Tab:DataW Unit) = .agg (Pinned.pow10Rows.map fun x=>.agg [.lit (.int .u64 x.1),.lit (.int .u64 x.2)]):=Yy1
 have hl:Pinned.pow10Rows.length=696:=Yy1
 rw [e] at h1
 obtain ⟨xs,m,_,hx,hcl,hxl,hf⟩:=DataW.trod_array Tryz.underlying223 h1
 injection hx with hx _
 injection hx with hx
 intro i hi
 obtain ⟨x,hxi⟩:∃ x,Pinned.pow10Rows[i]? = some x:=⟨_,List.getElem?_eq_getElem Yy0⟩
 have hg:=congrArg (·[i]?) hx
 simp only [List.getElem?_map,hxi,Option.map_some] at hg
 obtain ⟨y,hy⟩:∃ y,xs[i]? = some y:=⟨_,List.getElem?_eq_getElem Yy0⟩
 rw [hy] at hg
 have hfi:=hf i hi
 rw [hy] at hfi
 injection hg with hg
 obtain ⟨y1,y2⟩:=y
 have hg':y1 = .agg [.lit (.int .u64 x.1),.lit (.int .u64 x.2)]:=hg.symm
 subst hg'
 obtain ⟨v0,v1,m2,q0,q1,hcs,a0,a1⟩:=struct2 Tryz.underlying222 rfl rfl Yy1 Yy1 Yy1 hfi
 have c2:Tryz.prog.cellsOf 222=2:=Yy1
 rw [c2] at hcs
 have g0:cs[i * 2]? = some v0:=by
  have:=congrArg (·[0]?) hcs
  simpa [List.getElem?_take,List.getElem?_drop] using this
 have g1:cs[i * 2+1]? = some v1:=by
  have:=congrArg (·[1]?) hcs
  simpa [List.getElem?_take,List.getElem?_drop] using this
 obtain ⟨r0,s0⟩:=int_lit (k:=.u64) Yy1 a0
 obtain ⟨r1,s1⟩:=int_lit (k:=.u64) Yy1 a1
 refine ⟨_,_,by rw [h2,g0,r0],by rw [h2,g1,r1],(u64_wf s0).1,(u64_wf s0).2,(u64_wf s1).1,(u64_wf s1).2⟩
end Go.Proofs.YtieflhncpjjciaaGreatDoor.Dc
namespace Go.Proofs.YtieflhncpjjciaaGreatDoor.Wit
open Go
def okL (P:Program) (w:World):List TypeId→List Value→Bool
 | [],[]=>true
 | u :: us,v :: vs=>Cell.okRefB P w u v && okL P w us vs
 | _,_=>false
theorem okL_len {P:Program} {w:World}:∀ {us:List TypeId} {vs:List Value},okL P w us vs=true→vs.length=us.length
 | [],[],_=>rfl
 | u :: us,v :: vs,h=>by
  simp only [okL,Bool.and_eq_true] at h
  simp only [List.length_cons,okL_len h.2]
 | [],_ :: _,h=>by simp [okL] at h
 | _ :: _,[],h=>by simp [okL] at h
theorem okL_get {P:Program} {w:World}:∀ {us:List TypeId} {vs:List Value},okL P w us vs=true→∀ (i:Nat) v,vs[i]? = some v→∃ u,us[i]? = some u∧Cell.okRefB P w u v=true
 | [],[],_,i,v,h=>Yy10
 | u :: us,x :: vs,h,0,v,hv=>by
  simp only [okL,Bool.and_eq_true] at h
  simp only [List.getElem?_cons_zero,Option.some.injEq] at hv
  subst hv
  exact ⟨u,rfl,h.1⟩
 | u :: us,x :: vs,h,i+1,v,hv=>by
  simp only [okL,Bool.and_eq_true] at h
  rw [List.getElem?_cons_succ] at hv ⊢
  exact okL_get h.2 i v hv
 | [],_ :: _,h,_,_,_=>by simp [okL] at h
 | _ :: _,[],h,_,_,_=>by simp [okL] at h
def rowL (P:Program) (w:World) (t:TypeId) (cs:List Value):Bool:=
 match P.cellTypes P.depth t with
 | some ts=>okL P w ts cs
 | none=>false
theorem rowL_ok {P:Program} {w:World} {base:Nat} {t:TypeId} {cs:Array Value} (h:rowL P w t cs.toList=true):Row.ok P w .any base t cs:=by
 unfold rowL at h
 split at h
 ·
  rename_i ts hts
  have hl:=okL_len h
  rw [Array.length_toList] at hl
  refine ⟨ts,hts,⟨1,Yy0⟩,fun i v hv=>?_⟩
  have hi:i<cs.size:=(Array.getElem?_eq_some_iff.1 hv).1
  rw [← Array.getElem?_toList] at hv
  obtain ⟨u,hu,hc⟩:=okL_get h i v hv
  exact ⟨u,by rw [Nat.mod_eq_of_lt Yy0];exact hu,Cell.ok_of_okRefB hc⟩
 ·
  cases h
def sameL:List Value→List Value→Bool
 | [],[]=>true
 | _ :: a,_ :: b=>sameL a b
 | _,_=>false
theorem sameL_len:∀ {a b:List Value},sameL a b=true→a.length=b.length
 | [],[],_=>rfl
 | _ :: a,_ :: b,h=>by simp only [List.length_cons,sameL_len (a:=a) (b:=b) h]
 | [],_ :: _,h=>by simp [sameL] at h
 | _ :: _,[],h=>by simp [sameL] at h
def oneL (P:Program) (w:World) (g:Nat):Bool:=
 match ((begin P (fun _ _=>0) default).world.heap[g]?).bind Obj.row? with
 | none=>true
 | some (zero,t)=>
  match w.heap[g]? with
  | some (.cells cs t' frozen)=>decide (t'=t) && decide (frozen=(0,0)) && sameL cs.toList zero.toList && (!P.buildable t || rowL P w t cs.toList)
  | _=>false
theorem shaped {P:Program} {w:World} (hv:(List.range P.globals.size).all (oneL P w)=true)
  (hr:(w.heap.toList.drop P.globals.size).take ((begin P (fun _ _=>0) default).world.heap.size - P.globals.size)=(begin P (fun _ _=>0) default).world.heap.toList.drop P.globals.size):w.Shaped P:=by
 refine ⟨fun g zero t hg hz=>?_,fun k h1 h2=>?_⟩
 case refine_2=>
  have:=congrArg (·[k - P.globals.size]?) hr
  simp only [List.getElem?_take,List.getElem?_drop,Array.getElem?_toList] at this
  rw [if_pos Yy0,Nat.add_sub_cancel' h1] at this
  exact this
 simp only [List.all_eq_true,List.mem_range] at hv
 have:=hv g hg
 unfold oneL at this
 rw [hz] at this
 simp only at this
 split at this
 ·
  rename_i cs t' fr hw
  simp only [Bool.and_eq_true,decide_eq_true_eq,Bool.or_eq_true,Bool.not_eq_true'] at this
  obtain ⟨⟨⟨rfl,rfl⟩,hs⟩,hb⟩:=this
  refine ⟨cs,hw,by have:=sameL_len hs;rwa [Array.length_toList,Array.length_toList] at this,fun hbuild=>?_⟩
  rcases hb with hb | hb
  ·
   rw [hbuild] at hb;cases hb
  ·
   exact rowL_ok hb
 ·
  cases this
def runB (P:Program) (w:World) (r:Nat×Nat):Bool:=
 match w.heap[r.1]? with
 | some (.cells c _ (0,0))=>c.toList.all fun v=>match v with | .iface u x=>Value.okWideB P w u x | _=>true
 | _=>false
theorem row_mem {b n:Nat} {p:MemPlace} (h:p∈MemPlace.row ⟨b,0,none⟩ n):∃ i,p = .cell b i:=by
 unfold MemPlace.row at h
 obtain ⟨i,_,rfl⟩:=List.mem_map.1 h
 exact ⟨i,Yy4⟩
theorem row_nodup (b n:Nat):(MemPlace.row ⟨b,0,none⟩ n).Nodup:=by
 unfold MemPlace.row
 refine List.Pairwise.map _ (fun i j hij h=>hij ?_) List.nodup_range
 injection h with _ h
 simpa using h
theorem runs_nodup:∀ {rs:List (Nat×Nat)},(rs.map (·.1)).Nodup→(rs.flatMap fun r=>MemPlace.row ⟨r.1,0,none⟩ r.2).Nodup
 | [],_=>List.nodup_nil
 | r :: rs,h=>by
  rw [List.map_cons,List.nodup_cons] at h
  rw [List.flatMap_cons,List.nodup_append]
  refine ⟨row_nodup _ _,runs_nodup h.2,fun a ha b hb e=>h.1 ?_⟩
  obtain ⟨i,h1⟩:=row_mem ha
  obtain ⟨s,hs,h2⟩:=List.mem_flatMap.1 hb
  obtain ⟨j,h3⟩:=row_mem h2
  rw [h1,h3] at e
  injection e with e _
  exact List.mem_map.2 ⟨s,hs,e.symm⟩
theorem laid_runs {P:Program} {w:World} {l:List (String×DataW Unit)} {rs:List (Nat×Nat)} (fuel:Nat) (h:DataW.laidRun P w fuel (l.map (·.1))=some (l,rs.flatMap fun r=>MemPlace.row ⟨r.1,0,none⟩ r.2)) (hn:(rs.map (·.1)).Nodup) (hr:rs.all (runB P w)=true):laidMet P l w:=by
 refine ⟨_,DataW.LaidVars_of_laidRun h,runs_nodup hn,fun b off hp=>?_⟩
 obtain ⟨r,hrm,hp⟩:=List.mem_flatMap.1 hp
 obtain ⟨i,h1⟩:=row_mem hp
 injection h1 with h1 _
 have:=List.all_eq_true.1 hr _ hrm
 unfold runB at this
 rw [← h1] at this
 split at this
 ·
  rename_i c t hh
  refine ⟨⟨c,t,hh⟩,fun u v hc=>?_⟩
  unfold World.cell? at hc
  rw [hh] at hc
  simp only [Option.isSome_none,Bool.false_eq_true,if_false] at hc
  have hm:Value.iface u v∈c.toList:=by rw [← Array.getElem?_toList] at hc;exact List.mem_of_getElem? hc
  exact Value.okWide_of_okWideB (List.all_eq_true.1 this _ hm)
 ·
  cases this
def flat1:DataW Unit→Value
 | .lit (.int k z)=>.int k z
 | .lit (.float k b)=>.float k b
 | .lit (.bool b)=>.bool b
 | .lit (.string l)=>.string ⟨l.toArray⟩
 | _=>undef
def flat2:DataW Unit→List Value
 | .agg ds=>ds.map flat1
 | d=>[flat1 d]
def rowOf:DataW Unit→List Value
 | .agg ds=>ds.flatMap flat2
 | .slice ds _=>ds.flatMap flat2
 | d=>[flat1 d]
def lenOf:DataW Unit→Nat
 | .slice ds _=>ds.length
 | _=>0
def errOf:DataW Unit→List Value
 | .iface _ (.ptr (.agg ds))=>ds.map flat1
 | _=>[]
def blk (d:DataW Unit) (t:TypeId):Obj:=.cells (rowOf d).toArray t (0,0)
def slc (d:DataW Unit) (b:Nat) (t:TypeId):Obj:=.cells #[.slice (some ⟨b,0,none⟩) (lenOf d) (lenOf d)] t (0,0)
def errv (b:Nat):Obj:=.cells #[.iface 200 (.pointer (some ⟨b,0,none⟩))] 117 (0,0)
open Rows in
def vars:List Obj:=[blk laid_pub_tetrapla_pub_gjson_vchars 133,errv 19,errv 20,blk laid_internal_strconv_float32info 182,blk laid_internal_strconv_optimize 4,blk laid_internal_strconv_float64info 182,slc laid_internal_strconv_float32pow10 23 206,slc laid_internal_strconv_powtab 21 59,slc laid_internal_strconv_float64pow10 22 218,blk laid_internal_strconv_pow10Tab 223,slc laid_internal_strconv_leftcheats 24 234,blk laid_internal_strconv_uint64pow10 237,blk laid_math_bits_deBruijn32tab 239,blk laid_math_bits_deBruijn64tab 240]
open Rows in
def more:List Obj:=[.cells (errOf laid_strconv_ErrSyntax).toArray 202 (0,0),.cells (errOf laid_strconv_ErrRange).toArray 202 (0,0),blk laid_internal_strconv_powtab 3,blk laid_internal_strconv_float64pow10 32,blk laid_internal_strconv_float32pow10 164,blk laid_internal_strconv_leftcheats 233]
noncomputable def ww (os:Os):World:=
 { World.holding Tryz.prog os ⟨#[],#[],[]⟩ with heap:=(vars ++ ((World.holding Tryz.prog os ⟨#[],#[],[]⟩).heap.toList.drop 14) ++ more).toArray }
def runs:List (Nat×Nat):=[(12,32),(13,64),(3,3),(5,3),(4,1),(7,1),(21,9),(8,1),(22,23),(6,1),(23,11),(11,20),(2,1),(20,1),(1,1),(19,1),(0,256),(10,1),(24,122),(9,1392)]
theorem ww_shaped (os:Os) (args:Array Value):((ww os).forCall (fun _ _=>0) ⟨#[],args,[]⟩).Shaped Tryz.prog:=
 shaped Yy1 Yy1
theorem ww_laid (os:Os) (args:Array Value):laidMet Tryz.prog Rows.fnGjSquashItemsRow.laid ((ww os).forCall (fun _ _=>0) ⟨#[],args,[]⟩).memory:=
 laid_runs (rs:=runs) 8 Yy1 Yy3 Yy1
end Go.Proofs.YtieflhncpjjciaaGreatDoor.Wit
namespace Go.Proofs.YtieflhncpjjciaaGreatDoor.fnGjResultMapOf
open Go Go.ChangeShapes Go.WideShapes Go.ChangeAt Go.RowKit
open Go.ChangeMaps (open_string shut_string)
theorem own:ownKnob Tryz.prog.godebug=none:=Yy1
abbrev L:List (String×DataW Unit):=Rows.fnGjResultMapOfRow.laid
theorem laid_h {W:World} (h:laidMetH Tryz.prog L W):laidMet Tryz.prog L W:=by
 unfold laidMetH at h
 have e:(L.filter fun x=>x.2.handleName?.isSome) = []:=Yy1
 rw [e] at h
 exact h
theorem h_laid {W:World} (h:laidMet Tryz.prog L W):laidMetH Tryz.prog L W:=by
 unfold laidMetH
 have e:(L.filter fun x=>x.2.handleName?.isSome) = []:=Yy1
 rw [e]
 exact h
theorem laid_drop {P:Program} {w:World} {x:String×DataW Unit}:∀ (A B:List (String×DataW Unit)) (ps:List MemPlace),DataW.LaidVars P w (A ++ x :: B) ps→∃ qs,DataW.LaidVars P w (A ++ B) qs∧qs.Sublist ps
 | [],B,ps,h=>by
  obtain ⟨g,t,cs,fuel,p,q,_,_,_,_,h5,rfl⟩:=h
  exact ⟨q,h5,List.sublist_append_right _ _⟩
 | a :: A,B,ps,h=>by
  obtain ⟨g,t,cs,fuel,p,q,h1,h2,h3,h4,h5,rfl⟩:=h
  obtain ⟨qs,h6,h7⟩:=laid_drop A B q h5
  exact ⟨_,⟨g,t,cs,fuel,p,qs,h1,h2,h3,h4,h6,rfl⟩,h7.append_left _⟩
theorem laid_less {P:Program} {w:World} {x:String×DataW Unit} {A B:List (String×DataW Unit)} (h:laidMet P (A ++ x :: B) w):laidMet P (A ++ B) w:=by
 obtain ⟨ps,h1,h2,h3⟩:=h
 obtain ⟨qs,h4,h5⟩:=laid_drop A B ps h1
 exact ⟨qs,h4,h2.sublist h5,fun b off hm=>h3 b off (h5.subset hm)⟩
theorem ts_of {W:World} (h:laidMetH Tryz.prog L W):Dc.TS W W.heap.size:=by
 obtain ⟨ps,hl,_⟩:=laid_h h
 have lc:=Dc.lc_laid hl Yy36
 obtain ⟨f0,f1,f2⟩:=Dc.fi_laid hl Yy36
 exact ⟨⟨lc,f0,f1,f2,Dc.pw_laid hl Yy36⟩,Dc.op_laid hl Yy36,Dc.fp_laid hl Yy36,Dc.pt_laid hl Yy36,Dc.er_laid hl Yy36,Dc.er2_laid hl Yy36⟩
theorem ww_less (os:Os) (args:Array Value):laidMet Tryz.prog L ((Wit.ww os).forCall (fun _ _=>0) ⟨#[],args,[]⟩).memory:=
 laid_less (A := L.take 11) (x := Rows.fnGjSquashItemsRow.laid.getD 11 ("", .nil)) (B := L.drop 11) (show laidMet Tryz.prog Rows.fnGjSquashItemsRow.laid _ from Wit.ww_laid os args)
theorem lifted (os:Os) (started:os.Started) (H:Type) (enc:TypeId×Value→H) :
  ReturnsInHanded {} Tryz.checked os 6 .any (fun w args=>(Rows.fnGjResultMapOfSpec.pre enc Tryz.prog Tryz.f6 [] false w args∧laidMetH Tryz.prog L w)∧sizedMet enc Tryz.prog Tryz.f6 (OpenSpec.ofChange Rows.fnGjResultMapOfSpec) false w args)
   (Rows.fnGjResultMapOfSpec.post enc Tryz.prog Tryz.f6 false true false false):=by
 refine returnsInHanded_of_change_and (C:=Tryz.checked) (X:=fun w _=>laidMetH Tryz.prog L w) (fun _ _ _ hh h=>h.of_heap hh) own started Yy1 Tryz.func6
  (ChangeSpec.witness_shaped (enc:=enc) (C:=Tryz.checked) (os:=os) (X:=fun w _=>laidMetH Tryz.prog L w) false (Wit.ww os) #[.string ByteArray.empty] 8 rfl (Wit.ww_shaped os _) Yy1 Yy1 Yy1 (h_laid (ww_less os _))) ?_
 intro W base args ds gs before hval0 hW hcnd hsz0 hL _
 have hsz:(DataW.weightsEach Tryz.prog (Tryz.f6.params.toList ++ Rows.fnGjResultMapOfSpec.plain.varTypes Tryz.prog) (ds ++ gs)).all (·≤reachBytes)=true:=hsz0
 have hval:∀ (j:Nat) t v,Tryz.f6.params[j]? = some t→args[j]? = some v→Value.okWide Tryz.prog W .any base t v:=hval0
 have hW':=hW
 obtain ⟨p,q,hA0,hV,rfl,hfz,hnd⟩:=hW
 have hA:DataW.TrodAll enc Tryz.prog W 0 (fun _=>true) true Tryz.f6.params.toList args.toList ds p:=hA0
 rw [Tryz.params6] at hA hval hsz
 obtain ⟨v0,vs0,d0,ds0,p0,q0,hargs,rfl,rfl,h0,r0⟩:=trodAll_cons hA
 obtain ⟨rfl,rfl,rfl⟩:=trodAll_nil r0
 obtain rfl:args=#[v0]:=by cases args;simp_all
 obtain ⟨rfl,rfl⟩:=trodVars_none hV
 obtain ⟨a0,rfl,rfl,rfl,y0⟩:=open_string Tryz.underlying9 (hval 0 9 v0 rfl rfl) h0
 have w0:a0.size≤140737488351232:=by
  have z:=sized_string hsz (j:=0) (t:=9) rfl rfl
  rw [Array.length_toList] at z
  exact z
 clear hA0 hval0 hsz0 hsz
 refine (Dc.mapof_any (ts_of hL) (nlr _) a0 w0).mono fun e W' ⟨he,bel⟩=>?_
 subst he
 exact ⟨_,rfl,_,_,_,[],_,[],hW',trodAll_mk1 (shut_bool Tryz.underlying4 _),(trodAll_cons_mk (shut_string Tryz.underlying9 y0) trodAll_mk0),rfl,bel.frame _,fun h=>Yy15⟩
theorem over:Rows.fnGjResultMapOfRow.holds Tryz.pinned (OpenSpec.ofChange Rows.fnGjResultMapOfSpec):=
 OpenClaim.holds_of_wide 6 Tryz.f6 rfl rfl rfl rfl rfl rfl rfl ⟨rfl,rfl,rfl,rfl,rfl⟩ rfl rfl rfl rfl rfl Yy1 Tryz.func6 Yy1
  (of_decide_eq_true Yy1) (by unfold Func.isWrapper;first | (rw [if_pos (by decide +kernel)];kernel_rfl) | (rw [if_neg (by decide +kernel)];exact ⟨rfl,rfl⟩))
  (fun os started H enc _=>lifted os started H enc)
theorem proved:Rows.FnGjResultMapOfSaid:=over
end Go.Proofs.YtieflhncpjjciaaGreatDoor.fnGjResultMapOf
namespace Go.Proofs.YtieflhncpjjciaaGreatDoor
open Go
theorem fnGjResultMapOf_holds:Rows.FnGjResultMapOfCardSaid:=
 Claim7.holds_tied_plain_at .later [] [.data, .data, .widerDeep, .widerDeep, .data, .data, .data, .data, .data, .sentinel, .sentinel, .pinned, .pinned] true (true, "b1dcc411c499c5894b71696f58e9455ba2b5aa11ffa77ebcc77e305c263be0e2") true
  fnGjResultMapOf.proved (fun _ h=>Yy15) Yy1 (fun _ h=>Yy15) fnGjResultMapOf_row_tie rfl ⟨rfl,rfl⟩ Yy1 rfl
  (fun f fn hf hfn=>by
   obtain rfl : f = 6 := Option.some.inj ((show Tryz.prog.funcNamed "pub-tetrapla/laws.FnGjResultMapOf" = some 6 from Yy1).symm.trans hf) |>.symm
   obtain rfl:fn=Tryz.f6:=(Option.some.inj (Tryz.func6.symm.trans hfn)).symm
   exact ⟨Yy1,fun j t ht=>by
    rw [Tryz.params6] at ht
    have h9:t=9:=by
     rcases j with _ | j
     ·
      simpa using ht.symm
     ·
      simp at ht
    subst h9
    exact (show Tryz.prog.wantsStandIn 9=false from Yy1)⟩)
  Yy1
#print axioms fnGjResultMapOf_holds
end Go.Proofs.YtieflhncpjjciaaGreatDoor
