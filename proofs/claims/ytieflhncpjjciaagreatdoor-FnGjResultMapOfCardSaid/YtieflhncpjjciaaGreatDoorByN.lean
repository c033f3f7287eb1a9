/- Walks and plain laws of this claim. -/
import Derived.Test.YtieflhncpjjciaaGreatDoorByF
import Derived.Test.YtieflhncpjjciaaGreatDoorByG
import Derived.Test.YtieflhncpjjciaaGreatDoorByE
import Derived.Test.YtieflhncpjjciaaGreatDoorByC
import Derived.Deep.MidRow
import Derived.Deep.RegionHeld3
import Derived.BigQuiet
import Derived.Test.YtieflhncpjjciaaGreatDoorByA
set_option maxHeartbeats 8000000
set_option maxRecDepth 100000
set_option linter.unusedVariables false
set_option linter.unusedSimpArgs false
namespace Go.Proofs.YtieflhncpjjciaaGreatDoor.Dc
open Go Go.RowKit Go.Proofs.YtieflhncpjjciaaGreatDoorW.PrintWords Go.Proofs.YtieflhncpjjciaaGreatDoor.PFnGjSquashItems
theorem rng_set {w:World} {b:Nat} {cs:List Value} (h:w.rangeAt b 0 cs) (i:Nat) (v:Value) (hi:i<cs.length):(w.setCell ⟨b,i,none⟩ v).rangeAt b 0 (cs.set i v):=by
 intro j u hu
 have hc:=h i _ (List.getElem?_eq_getElem hi)
 rw [Nat.zero_add] at hc ⊢
 rw [List.getElem?_set] at hu
 split at hu
 ·
  rename_i e
  subst e
  try rw [if_pos hi] at hu
  obtain rfl:=Option.some.inj hu
  exact World.cell?_setCell_same _ _ _ hc
 ·
  rename_i e
  rw [World.cell?_setCell_other _ _ _ _ (fun h=>e (by injection h))]
  have:=h j u hu
  rwa [Nat.zero_add] at this
theorem rng_oth {w:World} {b:Nat} {cs:List Value} (h:w.rangeAt b 0 cs) (b' i:Nat) (v:Value) (hne:b'≠b):(w.setCell ⟨b',i,none⟩ v).rangeAt b 0 cs:=by
 intro j u hu
 rw [World.cell?_setCell_other _ _ _ _ (fun h=>hne (by injection h))]
 exact h j u hu
theorem rng_d {w:World} {b:Nat} {cs:List Value} (h:w.rangeAt b 0 cs):w.drew.rangeAt b 0 cs:=fun j u hu=>h j u hu
theorem rng_al {w:World} {b:Nat} {cs:List Value} (h:w.rangeAt b 0 cs) (o:Obj):(w.alloc o).rangeAt b 0 cs:=World.rangeAt_alloc h o
theorem rng_b {w w':World} {b:Nat} {cs:List Value} (h:w.rangeAt b 0 cs) (hb:Below w.heap.size w w'):w'.rangeAt b 0 cs:=fun j u hu=>cellB hb (h j u hu)
theorem thr_set {w:World} {b n:Nat} (h:w.there b 0 n) (a:Addr) (v:Value):(w.setCell a v).there b 0 n:=by
 intro j hj
 obtain ⟨h1,h2⟩:=h j hj
 obtain ⟨u,hu⟩:=Option.isSome_iff_exists.1 h1
 refine ⟨?_,by rw [World.frozen?_setCell];exact h2⟩
 by_cases e:a=⟨b,0+j,none⟩
 ·
  subst e;rw [World.cell?_setCell_same _ _ _ hu];rfl
 ·
  rw [World.cell?_setCell_other _ _ _ _ e,hu];rfl
theorem thr_d {w:World} {b m:Nat} (h:w.there b 0 m):w.drew.there b 0 m:=fun j hj=>h j hj
theorem thr_b {w w':World} {b n:Nat} (h:w.there b 0 n) (hb:Below w.heap.size w w'):w'.there b 0 n:=by
 intro j hj
 obtain ⟨h1,h2⟩:=h j hj
 obtain ⟨u,hu⟩:=Option.isSome_iff_exists.1 h1
 exact ⟨by rw [cellB hb hu];rfl,frozB hb hu h2⟩
theorem Below.drewNs {B:Nat} {a w:World} (h:Below B a w) (n:Nat):Below B a (w.drewN n):=⟨h.os,h.tape,h.output,h.size,h.block⟩
theorem Below.cellsN {B:Nat} {a:World} {b:Nat} (hb:B≤b):∀ (vs:List Value) (o:Nat) (w:World),Below B a w→Below B a (w.setCells b o vs)
 | [],_,_,h=>h
 | v :: r,o,w,h=>by
  rw [World.setCells]
  exact Below.cellsN hb r (o+1) _ (h.setCell (p:=⟨b,o,none⟩) hb v)
theorem rng_new (w:World) (cs:List Value) (t:TypeId):(w.alloc (Obj.cells cs.toArray t)).rangeAt w.heap.size 0 cs:=by
 intro j u hu
 rw [cell_of_row _ _ _ cs.toArray t _ (heap_alloc_new w _)]
 simpa using hu
theorem thr_new (w:World) (cs:List Value) (t:TypeId):(w.alloc (Obj.cells cs.toArray t)).there w.heap.size 0 cs.length:=by
 intro j hj
 refine ⟨?_,by simp [go_sem]⟩
 rw [rng_new w cs t j _ (List.getElem?_eq_getElem hj)];rfl
theorem thr_al {w:World} {b n:Nat} (h:w.there b 0 n) (o:Obj):(w.alloc o).there b 0 n:=World.there_alloc h o
def Z6:List Value:=[.int .i64 0,.string ⟨#[]⟩,.string ⟨#[]⟩,.float .f64 0,.int .i64 0,.slice none 0 0]
theorem RV.row (r:RV):r.val = .agg #[.int .i64 r.k,.string r.raw,.string r.str,.float .f64 r.q,.int .i64 r.ix,.slice none 0 0]:=rfl
theorem take_d {P:Program} {ops:Array Oper} {Q:Exit→Act→World→Prop} {md:Region.Mode} {S:World→Prop} {i:Nat} {oi:Oper} {v:Value} {fuel:Nat} {listed:Array Bool} {a:Act} {w:World} (d:Option Tmp) (hi:ops[i]? = some oi) (hd:oi.dst=d)
  (hs:Region.noSelect ops=true) (hf:Region.free md ops listed i=true) (hr:(Region.ready md ops listed).contains i=true)
  (hQ:∀ c a w,Q (.panic c) (a.put d v) w→Q (.panic c) a w) (hy:YieldsIf P ops S oi v a) (hS:S w)
  (h:wpAnyH P md ops Q S fuel (listed.setIfInBounds i true) (a.put d v) w):wpAnyH P md ops Q S (fuel+1) listed a w:=by
 subst hd
 exact wpAnyH_take hi hs hf hr hQ hy hS h
theorem cons_d {P:Program} {ops:Array Oper} {Q:Exit→Act→World→Prop} {md:Region.Mode} {S:World→Prop} {fuel:Nat} {listed:Array Bool} {a:Act} {w:World} {i:Nat} {o:Oper} {rs:List Nat} (d:Option Tmp) (ho:ops[i]? = some o) (hd:o.dst=d)
  (h:∀ K':Act→World→Prop,Shut (∀ a w,S w→(S w→wpAnyH P md ops Q S fuel (listed.setIfInBounds i true) a w)→K' a w)→if Region.wanted o (yielded ops a.tmps)=true then Oper.wp P o a w K' Q else K' (a.put d undef) w)
  (hs:AllReadyH P md ops Q S fuel listed a w rs):AllReadyH P md ops Q S fuel listed a w (i :: rs):=by
 subst hd
 exact AllReadyH.cons ho h hs
theorem store_d {P:Program} {op:Oper} {a:Act} {w:World} {K:Act→World→Prop} {Q:Exit→Act→World→Prop} (hd:op.dst=none) (ty:TypeId) (x y:Operand) (ho:op.op = .store ty x y)
  (b o:Nat) (cells:Array Value) (hx:a.eval x = .pointer (some ⟨b,o,none⟩)) (hy:a.eval y = .agg cells)
  (ht:w.there b o cells.size) (hi:(P.info? ty).map (·.size)=some cells.size) (h1:cells.all (·.oneCell')=true)
  (h:K a (w.setCells b o cells.toList)):op.wp P a w K Q:=
 wp_store_mid ty x y ho b o cells hx hy ht hi h1 (by rw [hd];exact h)
theorem of_drawn0 {w w':World} (h:Drawn0 w w'):∃ n,w'=w.drewN n:=h.out
structure MS (w:World) (b0:Nat):Prop where
 ts:TS w b0
 vc:VC w
theorem MS.below {w w':World} {b0:Nat} (h:MS w b0) (hb:Below b0 w w'):MS w' b0:=by
 have h10:=h.ts.tb.lc.ten
 exact ⟨h.ts.below hb,fun c hc=>(hb.cell (p:=⟨0,c,none⟩) (by show 0<b0;omega)).trans (h.vc c hc)⟩
def KStr (u str:ByteArray):Prop:=∃ O,Un u 0 O∧str=strOfNums O
def gkd (kd:Int):Int:=if kd=0 then 0 else if kd=1 then 1 else if kd=2 then 4 else if kd=3 then 2 else if kd=4 then 3 else 5
inductive NB:S26→Prop
 | mk {k:Int} {u:ByteArray} {ks:List ByteArray} {ns:List S26} (h2:ks.length≤65536) (h3:ns.length≤65536) (hk:∀ y∈ns,NB y):NB ⟨k,u,ks,ns⟩
theorem rd26_in {xs:List S26} {i:Nat} (h:i<xs.length):rd_T26 xs (i:Int)∈xs:=by
 have e:rd_T26 xs (i:Int)=xs[i]:=by unfold rd_T26;rw [Int.toNat_natCast,List.getD_eq_getElem?_getD,List.getElem?_eq_getElem h];rfl
 rw [e]
 exact List.getElem_mem h
theorem same_any {x:S26} (h:NB x):∀ {w:World} {A2 B2 A3 B3:Option Addr} {c2 d2 c3 d3:Nat},Kd.C Kd.string w A2 x.f2.length x.f2→x.f2.length≤c2→Kd.C k26 w A3 x.f3.length x.f3→x.f3.length≤c3→Kd.C Kd.string w B2 x.f2.length x.f2→x.f2.length≤d2→Kd.C k26 w B3 x.f3.length x.f3→x.f3.length≤d3 →
  Calls Tryz.prog 30 #[.agg #[.int .i64 x.f0,.string x.f1,.slice A2 x.f2.length c2,.slice A3 x.f3.length c3],.agg #[.int .i64 x.f0,.string x.f1,.slice B2 x.f2.length d2,.slice B3 x.f3.length d3]] w fun e w'=>e = .returned (.bool true)∧Below w.heap.size w w':=by
 induction h with
 | @mk k u ks ns h2 h3 hk ih=>
  intro w A2 B2 A3 B3 c2 d2 c3 d3 q1 q2 q3 q4 q5 q6 q7 q8
  dsimp only at q1 q2 q3 q4 q5 q6 q7 q8 ⊢
  have IH:=hdd ih
  have Q1:=hdd q1;have Q3:=hdd q3;have Q5:=hdd q5;have Q7:=hdd q7
  clear ih hk q1 q3 q5 q7 q2 q4 q6 q8
  obtain ⟨B,hB⟩:∃ B,w.heap.size=B:=⟨_,rfl⟩
  obtain ⟨n2,hn2⟩:∃ n2,ks.length=n2:=⟨_,rfl⟩
  obtain ⟨n3,hn3⟩:∃ n3,ns.length=n3:=⟨_,rfl⟩
  have N2:=hdd hn2;have N3:=hdd hn3
  rw [hn2] at Q1 Q5 h2 ⊢
  rw [hn3] at Q3 Q7 h3 ⊢
  clear hn2 hn3
  have m2:(n2:Int)≤65536:=Yy0
  have m3:(n3:Int)≤65536:=Yy0
  go_enter Tryz.func30,Tryz.ntmps30
  go_upto_region 1 with (fail)
  obtain ⟨w1,hw1⟩:∃ w1,(w.alloc (Obj.cells #[.int .i64 k,.string u,.slice A2 n2 c2,.slice A3 n3 c3] 26)).alloc (Obj.cells #[.int .i64 k,.string u,.slice B2 n2 d2,.slice B3 n3 d3] 26)=w1:=⟨_,rfl⟩
  have n0:(w.alloc (Obj.cells #[.int .i64 k,.string u,.slice A2 n2 c2,.slice A3 n3 c3] 26)).heap.size=w.heap.size+1:=by simp [go_sem]
  have b1:Hid (Below w.heap.size w w1):=hdd (by rw [← hw1];exact ((Below.refl _ w).alloc (nlr _) _).alloc (by rw [n0];omega) _)
  have RA:Hid (w1.rangeAt B 0 [.int .i64 k,.string u,.slice A2 n2 c2,.slice A3 n3 c3]):=hdd (by rw [← hw1,← hB];exact rng_al (rng_new w [.int .i64 k,.string u,.slice A2 n2 c2,.slice A3 n3 c3] 26) _)
  have RB:Hid (w1.rangeAt (B+1) 0 [.int .i64 k,.string u,.slice B2 n2 d2,.slice B3 n3 d3]):=hdd (by rw [← hw1,← hB];have hn:=rng_new (w.alloc (Obj.cells #[.int .i64 k,.string u,.slice A2 n2 c2,.slice A3 n3 c3] 26)) [.int .i64 k,.string u,.slice B2 n2 d2,.slice B3 n3 d3] 26;rwa [n0] at hn)
  rw [hw1]
  clear hw1 n0
  have P1:=hdd (Kd.C_below Q1.out b1.out);have P3:=hdd (Kd.C_below Q3.out b1.out);have P5:=hdd (Kd.C_below Q5.out b1.out);have P7:=hdd (Kd.C_below Q7.out b1.out)
  clear Q1 Q3 Q5 Q7
  have a0:w1.cell? ⟨B,0,none⟩=some (.int .i64 k):=RA.out 0 _ rfl
  have a1:w1.cell? ⟨B,1,none⟩=some (.string u):=RA.out 1 _ rfl
  have a2:w1.cell? ⟨B,2,none⟩=some (.slice A2 n2 c2):=RA.out 2 _ rfl
  have a3:w1.cell? ⟨B,3,none⟩=some (.slice A3 n3 c3):=RA.out 3 _ rfl
  have e0:w1.cell? ⟨B+1,0,none⟩=some (.int .i64 k):=RB.out 0 _ rfl
  have e1:w1.cell? ⟨B+1,1,none⟩=some (.string u):=RB.out 1 _ rfl
  have e2:w1.cell? ⟨B+1,2,none⟩=some (.slice B2 n2 d2):=RB.out 2 _ rfl
  have e3:w1.cell? ⟨B+1,3,none⟩=some (.slice B3 n3 d3):=RB.out 3 _ rfl
  go_wp2_with fail
  clear a0 a1 a2 a3 e0 e1 e2 e3
  go_loopg [5] n2 (fun m v5 wr=>∃ i:Nat,v5 = .int .i64 (i:Int)∧Hid (i+m=n2)∧Hid (Below w1.heap.size w1 wr))
  case atStart=>exact ⟨0,rfl,hdd Yy0,hdd (Below.refl _ _)⟩
  case round=>
   obtain ⟨i,rfl,him,hBr⟩:=hrel
   have hin:i≤n2:=by have:=him.out;omega
   have a2:wr.cell? ⟨B,2,none⟩=some (.slice A2 n2 c2):=cellB hBr.out (RA.out 2 _ rfl)
   have a3:wr.cell? ⟨B,3,none⟩=some (.slice A3 n3 c3):=cellB hBr.out (RA.out 3 _ rfl)
   rcases eol hin with hx | hx
   ·
    have t5:decide (i<n2)=false:=dff Yy0
    clear hx hin
    go_wp2_with fail
    go_loopg [6] n3 (fun m v6 wq=>∃ i:Nat,v6 = .int .i64 (i:Int)∧Hid (i+m=n3)∧Hid (Below w1.heap.size w1 wq))
    case atStart=>exact ⟨0,rfl,hdd Yy0,hBr⟩
    case round=>
     clear a2 a3 t5 him hBr
     obtain ⟨j,rfl,hjm,hBr⟩:=hrel
     have hjn:j≤n3:=by have:=hjm.out;omega
     have a3:wr.cell? ⟨B,3,none⟩=some (.slice A3 n3 c3):=cellB hBr.out (RA.out 3 _ rfl)
     rcases eol hjn with hx | hx
     ·
      have t5:decide (j<n3)=false:=dff Yy0
      clear hx hjn
      go_wp2_with fail
      go_ret
      exact ⟨rfl,b1.out.trans (hBr.out.mono b1.out.size)⟩
     ·
      have t5:decide (j<n3)=true:=dtt hx
      obtain ⟨ad,A2',c2',A3',c3',rfl,x0,x1,x2,x3,l2,i2,l3,i3⟩:=at_T26 P3.out (j:Int) Yy0 Yy0
      obtain ⟨bd,B2',d2',B3',d3',rfl,y0,y1,y2,y3,o2,z2,o3,z3⟩:=at_T26 P7.out (j:Int) Yy0 Yy0
      have YN:=rd26_in (xs:=ns) (i:=j) (by have:=N3.out;omega)
      obtain ⟨⟨f0,f1,f2,f3⟩,hy⟩:∃ y,rd_T26 ns (j:Int)=y:=⟨_,rfl⟩
      rw [hy] at x0 x1 x2 x3 l2 i2 l3 i3 y0 y1 y2 y3 o2 z2 o3 z3 YN
      rw [Int.toNat_natCast] at x0 x1 x2 x3 y0 y1 y2 y3
      dsimp only at x0 x1 x2 x3 l2 i2 l3 i3 y0 y1 y2 y3 o2 z2 o3 z3
      have SC:Hid (∀ w',Below w1.heap.size w1 w'→Calls Tryz.prog 30 #[.agg #[.int .i64 f0,.string f1,.slice A2' f2.length c2',.slice A3' f3.length c3'],.agg #[.int .i64 f0,.string f1,.slice B2' f2.length d2',.slice B3' f3.length d3']] w' fun e w''=>e = .returned (.bool true)∧Below w'.heap.size w' w''):=hdd (fun w' hb=>IH.out _ YN (Kd.C_below i2 hb) l2 (Kd.C_below i3 hb) l3 (Kd.C_below z2 hb) o2 (Kd.C_below z3 hb) o3)
      have g3:wr.drew.cell? ⟨B,3,none⟩=some (.slice (some ad) n3 c3):=a3
      have h3c:wr.drew.cell? ⟨B+1,3,none⟩=some (.slice (some bd) n3 d3):=cellB hBr.out.drew (RB.out 3 _ rfl)
      have p0:wr.drew.cell? (ad.add (j * 4))=some (.int .i64 f0):=cellB hBr.out.drew x0
      have p1:wr.drew.cell? ⟨(ad.add (j * 4)).block,(ad.add (j * 4)).off+1,none⟩=some (.string f1):=cellB hBr.out.drew x1
      have p2:wr.drew.cell? ⟨(ad.add (j * 4)).block,(ad.add (j * 4)).off+2,none⟩=some (.slice A2' f2.length c2'):=cellB hBr.out.drew x2
      have p3:wr.drew.cell? ⟨(ad.add (j * 4)).block,(ad.add (j * 4)).off+3,none⟩=some (.slice A3' f3.length c3'):=cellB hBr.out.drew x3
      have r0:wr.drew.cell? (bd.add (j * 4))=some (.int .i64 f0):=cellB hBr.out.drew y0
      have r1:wr.drew.cell? ⟨(bd.add (j * 4)).block,(bd.add (j * 4)).off+1,none⟩=some (.string f1):=cellB hBr.out.drew y1
      have r2:wr.drew.cell? ⟨(bd.add (j * 4)).block,(bd.add (j * 4)).off+2,none⟩=some (.slice B2' f2.length d2'):=cellB hBr.out.drew y2
      have r3:wr.drew.cell? ⟨(bd.add (j * 4)).block,(bd.add (j * 4)).off+3,none⟩=some (.slice B3' f3.length d3'):=cellB hBr.out.drew y3
      have kb:(j:Int)+1≤9223372036854775807:=Yy0
      have hkx:(j:Int)<(n3:Int):=Yy0
      have hk0:0≤(j:Int):=Yy0
      clear x0 x1 x2 x3 l2 i2 l3 i3 y0 y1 y2 y3 o2 z2 o3 z3 YN hy hjn
      go_upto_region 11 with (fail)
      clear a3
      go_region_held3 (fun w'=>w'.cell? ⟨B,3,none⟩=some (.slice (some ad) n3 c3)∧w'.cell? ⟨B+1,3,none⟩=some (.slice (some bd) n3 d3)∧w'.cell? (ad.add (j * 4))=some (.int .i64 f0)∧w'.cell? ⟨(ad.add (j * 4)).block,(ad.add (j * 4)).off+1,none⟩=some (.string f1)∧w'.cell? ⟨(ad.add (j * 4)).block,(ad.add (j * 4)).off+2,none⟩=some (.slice A2' f2.length c2')∧w'.cell? ⟨(ad.add (j * 4)).block,(ad.add (j * 4)).off+3,none⟩=some (.slice A3' f3.length c3')∧w'.cell? (bd.add (j * 4))=some (.int .i64 f0)∧w'.cell? ⟨(bd.add (j * 4)).block,(bd.add (j * 4)).off+1,none⟩=some (.string f1)∧w'.cell? ⟨(bd.add (j * 4)).block,(bd.add (j * 4)).off+2,none⟩=some (.slice B2' f2.length d2')∧w'.cell? ⟨(bd.add (j * 4)).block,(bd.add (j * 4)).off+3,none⟩=some (.slice B3' f3.length d3'))
       (first
        | with_reducible exact ⟨xg3,xh3,xp0,xp1,xp2,xp3,xr0,xr1,xr2,xr3⟩
        | with_reducible exact ⟨g3,h3c,p0,p1,p2,p3,r0,r1,r2,r3⟩)
       (first
        | (go_at_call 30;refine (SC.out _ hBr.out.drew).mono ?_;rintro en wz ⟨rfl,hbz⟩;have xg3:=cellB hbz g3;have xh3:=cellB hbz h3c;have xp0:=cellB hbz p0;have xp1:=cellB hbz p1;have xp2:=cellB hbz p2;have xp3:=cellB hbz p3;have xr0:=cellB hbz r0;have xr1:=cellB hbz r1;have xr2:=cellB hbz r2;have xr3:=cellB hbz r3;have BZ:=hdd hbz;clear hbz))
      go_wp2_with fail
      go_roundg (gk - 1)
      case measure=>have:=hjm.out;omega
      case rel=>exact ⟨j+1,Yy6,hdd (by have:=hjm.out;omega),hdd (hBr.out.drew.trans (BZ.out.mono hBr.out.size))⟩
   ·
    have t5:decide (i<n2)=true:=dtt hx
    obtain ⟨ad,rfl,x0⟩:=Kd.at_string P1.out (i:Int) Yy0 Yy0
    obtain ⟨bd,rfl,y0⟩:=Kd.at_string P5.out (i:Int) Yy0 Yy0
    obtain ⟨v,hv⟩:∃ v,rdOf ByteArray.empty ks (i:Int)=v:=⟨_,rfl⟩
    rw [hv,Int.toNat_natCast] at x0 y0
    have p0:wr.cell? (ad.add i)=some (.string v):=cellB hBr.out x0
    have r0:wr.cell? (bd.add i)=some (.string v):=cellB hBr.out y0
    have e2:wr.cell? ⟨B+1,2,none⟩=some (.slice (some bd) n2 d2):=cellB hBr.out (RB.out 2 _ rfl)
    have hkx:(i:Int)<(n2:Int):=Yy0
    have hk0:0≤(i:Int):=Yy0
    have kb:(i:Int)+1≤9223372036854775807:=Yy0
    clear x0 y0 hv hin a3
    go_upto_region 6 with (fail)
    go_quiet (fail)
    go_wp2_with fail
    go_roundg (gk - 1)
    case measure=>have:=him.out;omega
    case rel=>exact ⟨i+1,Yy6,hdd (by have:=him.out;omega),hdd (Below.drewNs hBr.out _)⟩
end Go.Proofs.YtieflhncpjjciaaGreatDoor.Dc
