/- Walks and plain laws of this claim. -/
import Derived.Test.YtieflhncpjjciaaGreatDoorByN
import Derived.Deep.RegionHeld3
import Derived.BigQuiet
import Derived.Test.YtieflhncpjjciaaGreatDoorByG
import Derived.Test.YtieflhncpjjciaaGreatDoorByR
import Derived.Test.YtieflhncpjjciaaGreatDoorByT
import Derived.Test.YtieflhncpjjciaaGreatDoorByK
import Derived.Test.YtieflhncpjjciaaGreatDoorByA
set_option maxHeartbeats 8000000
set_option maxRecDepth 100000
set_option linter.unusedVariables false
set_option linter.unusedSimpArgs false
namespace Go.Proofs.YtieflhncpjjciaaGreatDoor.Dc
open Go Go.RowKit Go.Proofs.YtieflhncpjjciaaGreatDoorW.PrintWords Go.Proofs.YtieflhncpjjciaaGreatDoor.PFnGjSquashItems
theorem gjis_any {w:World} {n0:Int} {n1:ByteArray} {n2:List ByteArray} {n3:List S26} {kd:Int} {raw str:ByteArray} {q:Nat} {A2 A3:Option Addr} {c2 c3:Nat}
  (hread:Ev (fun k=>spec_Read.f k raw) (n0,n1,n2,n3,true)) (hsame:NB ⟨n0,n1,n2,n3⟩) (hkd:laws_gjKind.f n0=some kd) (hstr:n0=4→str=n1)
  (h2:Kd.C Kd.string w A2 n2.length n2) (l2:n2.length≤c2) (h3:Kd.C k26 w A3 n3.length n3) (l3:n3.length≤c3) :
  Calls Tryz.prog 11 #[.agg #[.int .i64 kd,.string raw,.string str,.float .f64 q,.bool true],.agg #[.int .i64 n0,.string n1,.slice A2 n2.length c2,.slice A3 n3.length c3]] w fun e w'=>e = .returned (.bool true)∧Below w.heap.size w w':=by
 obtain ⟨k0,hk0⟩:=hread
 have RC:Hid (∀ w,Calls Tryz.prog 28 #[.string raw] w fun e w'=>∃ v2_ v3_:Value,e = .returned (.tuple #[.agg #[.int .i64 n0,.string n1,v2_,v3_],.bool true])∧Kd.R Kd.string 9 w' w.heap.size (fun _=>True) v2_ n2∧Kd.R k26 26 w' w.heap.size (fun k_=>some k_≠(v2_:Value).ownBlock) v3_ n3∧Below w.heap.size w w'):=hdd (fun w=>spec_Read.calls k0 raw _ _ _ _ _ w (hk0 k0 (nlr _)))
 have SC:Hid (∀ (w:World) (B2:Option Addr) (d2:Nat) (B3:Option Addr) (d3:Nat) (A2':Option Addr) (e2:Nat) (A3':Option Addr) (e3:Nat),Kd.C Kd.string w B2 n2.length n2→n2.length≤d2→Kd.C k26 w B3 n3.length n3→n3.length≤d3→Kd.C Kd.string w A2' n2.length n2→n2.length≤e2→Kd.C k26 w A3' n3.length n3→n3.length≤e3→Calls Tryz.prog 30 #[.agg #[.int .i64 n0,.string n1,.slice B2 n2.length d2,.slice B3 n3.length d3],.agg #[.int .i64 n0,.string n1,.slice A2' n2.length e2,.slice A3' n3.length e3]] w fun e w'=>e = .returned (.bool true)∧Below w.heap.size w w'):=hdd (fun w B2 d2 B3 d3 A2' e2 A3' e3 a1 a2 a3 a4 a5 a6 a7 a8=>same_any hsame a1 a2 a3 a4 a5 a6 a7 a8)
 have H2:=hdd h2;have L2:=hdd l2;have H3:=hdd h3;have L3:=hdd l3;have HK:=hdd hkd;have HS:=hdd hstr
 clear hk0 h2 l2 h3 l3 hkd hstr
 go_enter Tryz.func11,Tryz.ntmps11
 obtain ⟨B,hB⟩:∃ B,w.heap.size=B:=⟨_,rfl⟩
 go_upto_region 1 with (fail)
 obtain ⟨wa,hwa⟩:∃ wa,(w.alloc (Obj.cells #[.int .i64 kd,.string raw,.string str,.float .f64 q,.bool true] 34)).alloc (Obj.cells #[.int .i64 n0,.string n1,.slice A2 n2.length c2,.slice A3 n3.length c3] 26)=wa:=⟨_,rfl⟩
 have bA:Hid (Below w.heap.size w wa):=hdd (by rw [← hwa];exact ((Below.refl _ w).alloc (nlr _) _).alloc (by simp [go_sem]) _)
 have sA:Hid (wa.heap.size=B+2):=hdd Yy27
 have a0:wa.cell? ⟨B,0,none⟩=some (.int .i64 kd):=Yy27
 have a1:wa.cell? ⟨B,1,none⟩=some (.string raw):=Yy27
 have a2:wa.cell? ⟨B,2,none⟩=some (.string str):=Yy27
 have a4:wa.cell? ⟨B,4,none⟩=some (.bool true):=Yy27
 have b0:wa.cell? ⟨B+1,0,none⟩=some (.int .i64 n0):=Yy27
 have b1:wa.cell? ⟨B+1,1,none⟩=some (.string n1):=Yy27
 have b2:wa.cell? ⟨B+1,2,none⟩=some (.slice A2 n2.length c2):=Yy27
 have b3:wa.cell? ⟨B+1,3,none⟩=some (.slice A3 n3.length c3):=Yy27
 have HA2:=hdd (Kd.C_below H2.out bA.out)
 have HA3:=hdd (Kd.C_below H3.out bA.out)
 rw [hwa]
 clear hwa
 go_upto_region 2 with (go_at_call 28;refine (RC.out _).mono ?_;rintro en w1 ⟨v2,v3,rfl,hR2,hR3,hb1⟩;obtain ⟨B2,d2,rfl,m2,hC2⟩:=Kd.R_reads hR2;obtain ⟨B3,d3,rfl,m3,hC3⟩:=Kd.R_reads hR3;have C2:=hdd hC2;have C3:=hdd hC3;have M2:=hdd m2;have M3:=hdd m3;have e0:=cellB hb1 a0;have e1:=cellB hb1 a1;have e2:=cellB hb1 a2;have e4:=cellB hb1 a4;have f0:=cellB hb1 b0;have f1:=cellB hb1 b1;have f2:=cellB hb1 b2;have f3:=cellB hb1 b3;have G2:=hdd (Kd.C_below HA2.out hb1);have G3:=hdd (Kd.C_below HA3.out hb1);have B1:=hdd hb1;clear hR2 hR3 hb1 hC2 hC3 m2 m3)
 obtain ⟨g,hg⟩:∃ g,w1.heap.size=g:=⟨_,rfl⟩
 obtain ⟨wb,hwb⟩:∃ wb,w1.alloc (Obj.cells #[.int .i64 n0,.string n1,.slice B2 n2.length d2,.slice B3 n3.length d3] 26)=wb:=⟨_,rfl⟩
 have bB:Hid (Below w1.heap.size w1 wb):=hdd (by rw [← hwb];exact (Below.refl _ w1).alloc (nlr _) _)
 have g0:wb.drew.cell? ⟨g,0,none⟩=some (.int .i64 n0):=Yy66
 have g1:wb.drew.cell? ⟨g,1,none⟩=some (.string n1):=Yy66
 have g2:wb.drew.cell? ⟨g,2,none⟩=some (.slice B2 n2.length d2):=Yy66
 have g3:wb.drew.cell? ⟨g,3,none⟩=some (.slice B3 n3.length d3):=Yy66
 have p0:wb.drew.cell? ⟨B,0,none⟩=some (.int .i64 kd):=cellB bB.out.drew e0
 have p2:wb.drew.cell? ⟨B,2,none⟩=some (.string str):=cellB bB.out.drew e2
 have p4:wb.drew.cell? ⟨B,4,none⟩=some (.bool true):=cellB bB.out.drew e4
 have q0:wb.drew.cell? ⟨B+1,0,none⟩=some (.int .i64 n0):=cellB bB.out.drew f0
 have q1:wb.drew.cell? ⟨B+1,1,none⟩=some (.string n1):=cellB bB.out.drew f1
 have q2:wb.drew.cell? ⟨B+1,2,none⟩=some (.slice A2 n2.length c2):=cellB bB.out.drew f2
 have q3:wb.drew.cell? ⟨B+1,3,none⟩=some (.slice A3 n3.length c3):=cellB bB.out.drew f3
 have K2:=hdd (Kd.C_below C2.out bB.out.drew)
 have K3:=hdd (Kd.C_below C3.out bB.out.drew)
 have J2:=hdd (Kd.C_below G2.out bB.out.drew)
 have J3:=hdd (Kd.C_below G3.out bB.out.drew)
 rw [hwb]
 clear hwb e0 e1 e2 e4 f0 f1 f2 f3 a0 a1 a2 a4 b0 b1 b2 b3
 have KC:Hid (∀ w,Calls Tryz.prog 29 #[.int .i64 n0] w fun e w'=>e = .returned (.int .i64 kd)∧Drawn0 w w'):=hdd (fun w=>laws_gjKind.calls n0 kd w HK.out)
 go_region_held3 (fun w'=>w'.cell? ⟨B,0,none⟩=some (.int .i64 kd)∧w'.cell? ⟨B,2,none⟩=some (.string str)∧w'.cell? ⟨B,4,none⟩=some (.bool true)∧w'.cell? ⟨B+1,0,none⟩=some (.int .i64 n0)∧w'.cell? ⟨B+1,1,none⟩=some (.string n1)∧w'.cell? ⟨B+1,2,none⟩=some (.slice A2 n2.length c2)∧w'.cell? ⟨B+1,3,none⟩=some (.slice A3 n3.length c3)∧w'.cell? ⟨g,0,none⟩=some (.int .i64 n0)∧w'.cell? ⟨g,1,none⟩=some (.string n1)∧w'.cell? ⟨g,2,none⟩=some (.slice B2 n2.length d2)∧w'.cell? ⟨g,3,none⟩=some (.slice B3 n3.length d3))
  (first
   | with_reducible exact ⟨yp0,yp2,yp4,yq0,yq1,yq2,yq3,yg0,yg1,yg2,yg3⟩
   | with_reducible exact ⟨xp0,xp2,xp4,xq0,xq1,xq2,xq3,xg0,xg1,xg2,xg3⟩
   | with_reducible exact ⟨p0,p2,p4,q0,q1,q2,q3,g0,g1,g2,g3⟩)
  (first
   | (go_at_call 29;refine (KC.out _).mono ?_;rintro en wz ⟨rfl,hd⟩;have hbd:Below wb.drew.heap.size wb.drew wz:=(by obtain ⟨nn,h⟩:=hd.out;rw [h];exact Below.drewNs (Below.refl _ _) nn);have xp0:=cellB hbd p0;have xp2:=cellB hbd p2;have xp4:=cellB hbd p4;have xq0:=cellB hbd q0;have xq1:=cellB hbd q1;have xq2:=cellB hbd q2;have xq3:=cellB hbd q3;have xg0:=cellB hbd g0;have xg1:=cellB hbd g1;have xg2:=cellB hbd g2;have xg3:=cellB hbd g3;have X2:=hdd (Kd.C_below K2.out hbd);have X3:=hdd (Kd.C_below K3.out hbd);have Y2:=hdd (Kd.C_below J2.out hbd);have Y3:=hdd (Kd.C_below J3.out hbd);have BD:=hdd hbd;clear hbd hd)
   | (go_at_call 30;refine (SC.out _ _ _ _ _ _ _ _ _ X2.out M2.out X3.out M3.out Y2.out L2.out Y3.out L3.out).mono ?_;rintro en wy ⟨rfl,hbe⟩;have yp0:=cellB hbe xp0;have yp2:=cellB hbe xp2;have yp4:=cellB hbe xp4;have yq0:=cellB hbe xq0;have yq1:=cellB hbe xq1;have yq2:=cellB hbe xq2;have yq3:=cellB hbe xq3;have yg0:=cellB hbe xg0;have yg1:=cellB hbe xg1;have yg2:=cellB hbe xg2;have yg3:=cellB hbe xg3;have BE:=hdd hbe;clear hbe))
 have BW:Hid (Below w.heap.size w wy):=hdd (by
  have h1:=bA.out.size
  have h2:=B1.out.size
  have h3:=bB.out.size
  exact ((bA.out.trans (B1.out.mono h1)).trans ((bB.out.drew).mono Yy0)).trans ((BD.out.trans (BE.out.mono BD.out.size)).mono (by show _≤wb.heap.size;omega)))
 by_cases h4:n0=4
 ·
  have hs:=HS.out h4
  have t1:(n0 != 4)=false:=by rw [h4];rfl
  subst hs
  clear h4
  go_wp2_with fail
  go_ret
  exact ⟨Yy4,by first | exact BW.out | (rw [← hB];exact BW.out)⟩
 ·
  have t1:(n0 != 4)=true:=bne_iff_ne.mpr h4
  clear h4
  go_wp2_with fail
  go_ret
  exact ⟨Yy4,by first | exact BW.out | (rw [← hB];exact BW.out)⟩
attribute [local go_sem] run_store_flt
theorem It.skip {u:ByteArray} {i:Nat} {l:List ItT} (h:It u true i l) (hi:i<u.size) (h34:bt u (i:Int)≠34):It u true (i+1) l:=by
 cases h with
 | done h h1 _=>exact .done hi (fun _ q hq=>h1 rfl q Yy0) (fun h=>Yy15)
 | item hi hn hn2 hv hs vk hj he r=>
  refine .item ?_ (fun _=>⟨(hn rfl).1,fun q h1 h2=>(hn rfl).2 q Yy0 h2⟩) (fun h=>Yy15) hv hs vk hj he r
  rcases eol hi with e | e
  ·
   rw [e] at h34;exact absurd (hn rfl).1.1.2.2.1 h34
  ·
   exact e
inductive All2 {α β:Type} (R:α→β→Prop):List α→List β→Prop
 | nil:All2 R [] []
 | cons {a:α} {b:β} {l:List α} {m:List β} (h:R a b) (r:All2 R l m):All2 R (a :: l) (b :: m)
theorem All2.len {α β:Type} {R:α→β→Prop} {l:List α} {m:List β} (h:All2 R l m):l.length=m.length:=by
 induction h with
 | nil=>rfl
 | cons _ _ ih=>simp [ih]
theorem All2.get {α β:Type} {R:α→β→Prop} {l:List α} {m:List β} (h:All2 R l m):∀ (k:Nat) (a:α),l[k]? = some a→∃ b,m[k]? = some b∧R a b:=by
 induction h with
 | nil=>intro k a hk;simp at hk
 | cons h r ih=>
  intro k a hk
  cases k with
  | zero=>obtain rfl:=Option.some.inj hk;exact ⟨_,rfl,h⟩
  | succ k=>exact ih k a hk
theorem Ot.off {ob base:Nat} {L:List (RV×RV)} {w w':World} (h:Ot ob base L w) (k:OffC (fun g=>g=ob) base w w'):Ot ob base L w':=by
 obtain ⟨⟨v,hc,ho,hn⟩,hf⟩:=h
 have hlt:=blo w _ hc
 have hb:=k.block ob hlt (Or.inl rfl)
 refine ⟨⟨v,by rw [World.cell?_of_block (w:=w) hb];exact hc,⟨ho.1,?_⟩,hn⟩,?_⟩
 ·
  rcases ho.2 with h2 | ⟨g,cap,cur,hv,hg,hh,hr⟩
  ·
   exact .inl h2
  ·
   exact .inr ⟨g,cap,cur,hv,hg,Yy77,hr⟩
 ·
  rw [← hf]
  unfold World.frozen?
  simp only [hb]
theorem It.vk {u:ByteArray} {ob:Bool} {i:Nat} {l:List ItT} (h:It u ob i l):∀ (k:Nat) (t:ItT),l[k]? = some t→VK u t.kd t.v t.j∧t.j<u.size:=by
 induction h with
 | done=>intro k t h;simp at h
 | item hi hn hn2 hv hs vk hj he r ih=>
  intro k t h
  cases k with
  | zero=>obtain rfl:=Option.some.inj h;exact ⟨vk,hj⟩
  | succ k=>exact ih k t h
theorem cell_later_of {w w':World} (h:Below w.heap.size w w') {a:Addr} {v:Value} (hc:w.cell? a=some v):w'.cell? a=some v:=cellB h hc
open Go.Proofs (encStr)
theorem rv_cell {P:List RV} {k:Nat} {p:RV} (h:P[k]? = some p) (j:Nat) (hj:j<5):(P.flatMap RV.cells)[k * 5+j]? = p.cells[j]?:=by
 induction P generalizing k with
 | nil=>simp at h
 | cons a P ih=>
  have ha:a.cells.length=5:=rfl
  rw [List.flatMap_cons]
  cases k with
  | zero=>
   obtain rfl:=Option.some.inj h
   rw [List.getElem?_append_left Yy0,Nat.zero_mul,Nat.zero_add]
  | succ k=>
   rw [List.getElem?_append_right Yy0,ha,show (k+1) * 5+j - 5=k * 5+j from Yy0]
   exact ih h
theorem ba_of {b:ByteArray} {x:List UInt8} (h:b.data.toList=x):b=⟨x.toArray⟩:=by
 subst h
 apply ByteArray.ext
 simp
theorem bless_eq:∀ (x y:List UInt8),Op.bytesLess x y=decide (x<y)
 | [],[]=>by simp [Op.bytesLess]
 | _ :: _,[]=>by simp [Op.bytesLess]
 | [],_ :: _=>by simp [Op.bytesLess]
 | a :: x,b :: y=>by
  rw [Op.bytesLess,bless_eq x y]
  by_cases h:a<b
  ·
   simp [h,List.cons_lt_cons_iff]
  ·
   by_cases h2:a=b
   ·
    subst h2;simp [List.cons_lt_cons_iff]
   ·
    simp [h,h2,List.cons_lt_cons_iff]
theorem less_of {x y:List UInt8} (h:y<x):Op.bytesLess y x=true:=by
 rw [bless_eq]
 exact dtt h
theorem geq_run {x y:List UInt8} (h:Op.bytesLess y x=true) (w:World):(binOp .geq 9 (.string ⟨y.toArray⟩) (.string ⟨x.toArray⟩)).run Tryz.prog w = .ok (.bool false) w:=by
 rw [binOp_string_geq,ByteArray.toList_mk,ByteArray.toList_mk,h]
 rfl
theorem geq_exec {x y:List UInt8} (h:Op.bytesLess y x=true) {ρ:Operand→Value} {o:Oper} (X Y:Operand) (t:TypeId) (ho:o.op = .binOp .geq 9 X Y t) (hx:ρ X = .string ⟨y.toArray⟩) (hy:ρ Y = .string ⟨x.toArray⟩) (w:World):(execOp ρ o).run Tryz.prog w = .ok (.value (.bool false)) w:=by
 have e:=geq_run h w
 unfold execOp
 simp only [ho,hx,hy]
 simp [eqGuard,e,Result.andThen]
theorem mo_no {w:World} {s:ByteArray} (h1:s.size≤2147483647) {r1:Int} {r2:ByteArray} {r3:List ByteArray} {r4:List S26} {ok:Bool} (hn:ok=false∨r1≠6) (BC:∀ w,Calls Tryz.prog 17 #[.string s] w (BarePost r1 r2 r3 r4 ok w)) :
  Calls Tryz.prog 6 #[.string s] w fun e w'=>e = .returned (.bool true)∧Below w.heap.size w w':=by
 have t1:decide ((2147483647:Int)<(s.size:Int))=false:=dff Yy0
 have GC:=hdd BC
 clear BC
 cases ok with
 | false=>
  clear hn
  go_enter Tryz.func6,Tryz.ntmps6
  go_wp2_with (go_at_call 17;refine (GC.out _).mono ?_;rintro en w1 ⟨A2,c2,A3,c3,rfl,-,-,-,-,hb1⟩;have B1:=hdd hb1;clear hb1)
  go_ret
  exact ⟨rfl,B1.out.alloc B1.out.size _⟩
 | true=>
  have h6:r1≠6:=hn.resolve_left Yy4
  have e6:(r1 != 6)=true:=bne_iff_ne.mpr h6
  have e7:(r1 == 6)=false:=bfo h6
  clear hn
  go_enter Tryz.func6,Tryz.ntmps6
  go_wp2_with (go_at_call 17;refine (GC.out _).mono ?_;rintro en w1 ⟨A2,c2,A3,c3,rfl,-,-,-,-,hb1⟩;have B1:=hdd hb1;clear hb1)
  go_ret
  exact ⟨rfl,B1.out.alloc B1.out.size _⟩
theorem mo_yes {w:World} {b0:Nat} (h:TS w b0) (hBB:b0≤w.heap.size) {s:ByteArray} (hs:s.size≤65536) {r2:ByteArray} {r3:List ByteArray} {r4:List S26} (BC:∀ w,Calls Tryz.prog 17 #[.string s] w (BarePost 6 r2 r3 r4 true w)) {l:List ItT}
  (GM:∀ w',TS w' b0→b0≤w'.heap.size→Calls Tryz.prog 18 #[.agg #[.int .i64 5,.string s,.string ⟨#[]⟩,.float .f64 0,.bool true]] w' (GmPost s (nmS s) l w')) (hl3:l.length=r3.length) (hl4:l.length=r4.length) (hl:l.length≤65536)
  (hat:∀ (k:Nat) (x:ItT),l[k]? = some x→r3[k]? = some (nmS s x)∧∃ y,r4[k]? = some y∧∀ r:RV,ValOK s x r→LG r y) (ha:Apart (nmS s) l) :
  Calls Tryz.prog 6 #[.string s] w fun e w'=>e = .returned (.bool true)∧Below w.heap.size w w':=by
 have t1:decide ((2147483647:Int)<(s.size:Int))=false:=dff Yy0
 have GC:=hdd BC;have GK:=hdd GM;have HAT:=hdd hat;have HA:=hdd ha;have HM:=hdd h;have HBB:=hdd hBB;have HL3:=hdd hl3;have HL4:=hdd hl4;have HL:=hdd hl
 clear BC GM hat ha h hBB hl3 hl4 hl
 go_enter Tryz.func6,Tryz.ntmps6
 go_upto_region 6 with (go_at_call 17;refine (GC.out _).mono ?_;rintro en w1 ⟨A2,cc2,A3,c3,rfl,hC2,hm2,hC3,hm3,hb1⟩;have B1:=hdd hb1;have KC2:=hdd hC2;have KC3:=hdd hC3;have M2:=hdd hm2;have M3:=hdd hm3;clear hC2 hm2 hC3 hm3 hb1)
 obtain ⟨nd,hnd⟩:∃ nd,w1.heap.size=nd:=⟨_,rfl⟩
 obtain ⟨wA,hwA⟩:∃ wA,w1.alloc (Obj.cells #[.int .i64 6,.string r2,.slice A2 r3.length cc2,.slice A3 r4.length c3] 26)=wA:=⟨_,rfl⟩
 have bA:Hid (Below w.heap.size w wA):=hdd (by rw [← hwA];exact B1.out.alloc B1.out.size _)
 have RA:Hid (wA.rangeAt nd 0 [.int .i64 6,.string r2,.slice A2 r3.length cc2,.slice A3 r4.length c3]):=hdd (by rw [← hwA,← hnd];exact rng_new w1 [.int .i64 6,.string r2,.slice A2 r3.length cc2,.slice A3 r4.length c3] 26)
 have CA2:=hdd (Kd.C_alloc KC2.out (Obj.cells #[.int .i64 6,.string r2,.slice A2 r3.length cc2,.slice A3 r4.length c3] 26))
 have CA3:=hdd (Kd.C_alloc KC3.out (Obj.cells #[.int .i64 6,.string r2,.slice A2 r3.length cc2,.slice A3 r4.length c3] 26))
 rw [hwA] at CA2 CA3 ⊢
 try rw [hnd]
 clear hwA hnd KC2 KC3
 go_upto_region 7 with (go_at_call 18;(with_reducible refine (GK.out wA (HM.out.below (bA.out.mono HBB.out)) (Nat.le_trans HBB.out bA.out.size)).mono ?_);rintro en w2 ⟨ts,rs,v5,v7,rfl,hNM,hlen,hAL,hO5,hO7,hb2⟩;obtain ⟨G5,q5,rfl,hq5,hg5⟩:=own_shape hO5;obtain ⟨G7,q7,rfl,hq7,hg7⟩:=own_shape hO7;have NM:=hdd hNM;have RL:=hdd hlen;have AL:=hdd hAL;have O5:=hdd hO5;have O7:=hdd hO7;have HG5:=hdd hg5;have HG7:=hdd hg7;have B2:=hdd (bA.out.trans (hb2.mono bA.out.size));have R2:=hdd (rng_b RA.out hb2);have D2:=hdd (Kd.C_below CA2.out hb2);have D3:=hdd (Kd.C_below CA3.out hb2);clear hNM hlen hAL hO5 hO7 hg5 hg7 hb2 hq5 hq7)
 clear RA CA2 CA3
 obtain ⟨n,hn⟩:∃ n,ts.length=n:=⟨_,rfl⟩
 have HN:=hdd hn
 have HR:Hid (rs.length=n):=hdd (RL.out.trans hn)
 have H3:Hid (r3.length=n):=hdd (by rw [← HL3.out,← hn,NM.out.1])
 have H4:Hid (r4.length=n):=hdd (by rw [← HL4.out,← hn,NM.out.1])
 have n65:(n:Int)≤65536:=by have:=HL.out;have:=NM.out.1;omega
 rw [hn] at O5 HG5 ⊢
 rw [HR.out] at O7 HG7 ⊢
 clear hn
 have k2:w2.cell? ⟨nd,2,none⟩=some (.slice A2 n cc2):=by rw [R2.out 2 _ rfl,H3.out]
 go_wp2_with fail
 clear k2
 go_loopg [45] n (fun m v45 wr=>∃ k:Nat,v45 = .int .i64 (k:Int)∧Hid (k+m=n)∧Hid (Below w2.heap.size w2 wr))
 case atStart=>exact ⟨0,rfl,hdd Yy0,hdd (Below.refl _ _)⟩
 case round=>
  obtain ⟨k,rfl,hkm,hBr⟩:=hrel
  have hkn:k≤n:=Yy53
  rcases eol hkn with hx | hx
  ·
   have t5:decide (k<n)=false:=dff Yy0
   clear hx hkn
   go_wp2_with fail
   go_ret
   exact ⟨rfl,B2.out.trans (hBr.out.mono B2.out.size)⟩
  ·
   have t5:decide (k<n)=true:=dtt hx
   obtain ⟨x,hx1⟩:∃ x,ts[k]? = some x:=⟨_,List.getElem?_eq_getElem (by have:=HN.out;omega)⟩
   obtain ⟨a,ha1⟩:∃ a,rs[k]? = some a:=⟨_,List.getElem?_eq_getElem (by have:=HR.out;omega)⟩
   obtain ⟨j,t,hj,hnt,hvo⟩:=AL.out k x a hx1 ha1
   obtain ⟨h3,y,h4,hlg⟩:=HAT.out j t hj
   obtain ⟨f1,f2,f3,f4,f5⟩:=hlg a hvo
   have hjl:=(List.getElem?_eq_some_iff.mp hj).1
   have hjn:j<n:=by have:=HL3.out;have:=H3.out;omega
   have hnx:nmS s t=⟨x.toArray⟩:=ba_of hnt
   obtain ⟨km,hkm2⟩:=member_ev (k:=6) (u:=r2) (by have:=H3.out;omega) r4 h3 (fun c hc hcc=>by
    have hcl:c<l.length:=Yy0
    have h9:=(HAT.out c l[c] (List.getElem?_eq_getElem hcl)).1
    rw [h9] at hcc
    exact HA.out c j _ _ hc (List.getElem?_eq_getElem hcl) hj (Option.some.inj hcc))
   rw [hnx] at hkm2
   have MC:Hid (∀ w',Below w2.heap.size w2 w'→Calls Tryz.prog 19 #[.agg #[.int .i64 6,.string r2,.slice A2 r3.length cc2,.slice A3 r4.length c3],.string ⟨x.toArray⟩] w' fun e w''=>e = .returned (.int .i64 (j:Int))∧Below w'.heap.size w' w''):=hdd (fun w' hb=>spec_Member.calls km 6 r2 A2 cc2 r3 A3 c3 r4 ⟨x.toArray⟩ j w' (Kd.C_below D2.out hb) M2.out (Kd.C_below D3.out hb) M3.out (hkm2 km (nlr _)))
   obtain ⟨g5,rfl⟩:=HG5.out Yy0
   obtain ⟨g7,rfl⟩:=HG7.out Yy0
   have nk:w2.cell? ⟨g5,k,none⟩=some (.string ⟨x.toArray⟩):=by
    rw [O5.out.cellAt k Yy0,List.getElem?_map,hx1]
    rfl
   obtain ⟨ad,A2',c2',A3',c3',e4,x0,x1,x2,x3,l2,i2,l3,i3⟩:=at_T26 D3.out (j:Int) Yy0 (by have:=H4.out;omega)
   have hrd:rd_T26 r4 (j:Int)=y:=by unfold rd_T26;rw [Int.toNat_natCast,List.getD_eq_getElem?_getD,h4];rfl
   rw [hrd] at x0 x1 x2 x3 l2 i2 l3 i3
   rw [Int.toNat_natCast] at x0 x1 x2 x3
   subst e4
   obtain ⟨ak,araw,astr,aq,aix⟩:=a
   obtain ⟨n0,n1,n2,n3⟩:=y
   dsimp only at f1 f2 f3 f4 f5 x0 x1 x2 x3 l2 i2 l3 i3
   have GJ:Hid (∀ w',Below w2.heap.size w2 w'→Calls Tryz.prog 11 #[.agg #[.int .i64 ak,.string araw,.string astr,.float .f64 aq,.bool true],.agg #[.int .i64 n0,.string n1,.slice A2' n2.length c2',.slice A3' n3.length c3']] w' fun e w''=>e = .returned (.bool true)∧Below w'.heap.size w' w''):=hdd (fun w' hb=>gjis_any f1 f2 f3 f4 (Kd.C_below i2 hb) l2 (Kd.C_below i3 hb) l3)
   have p0:w2.cell? ⟨g7,k * 5,none⟩=some (.int .i64 ak):=by
    show w2.cell? ⟨g7,k * 5+0,none⟩=_
    rw [O7.out.cellAt (k * 5+0) Yy0,rv_cell ha1 0 Yy0]
    rfl
   have p1:w2.cell? ⟨g7,k * 5+1,none⟩=some (.string araw):=by
    show w2.cell? ⟨g7,k * 5+1,none⟩=_
    rw [O7.out.cellAt (k * 5+1) Yy0,rv_cell ha1 1 Yy0]
    rfl
   have p2:w2.cell? ⟨g7,k * 5+2,none⟩=some (.string astr):=by
    show w2.cell? ⟨g7,k * 5+2,none⟩=_
    rw [O7.out.cellAt (k * 5+2) Yy0,rv_cell ha1 2 Yy0]
    rfl
   have p3:w2.cell? ⟨g7,k * 5+3,none⟩=some (.float .f64 aq):=by
    show w2.cell? ⟨g7,k * 5+3,none⟩=_
    rw [O7.out.cellAt (k * 5+3) Yy0,rv_cell ha1 3 Yy0]
    rfl
   have p4:w2.cell? ⟨g7,k * 5+4,none⟩=some (.bool true):=by
    show w2.cell? ⟨g7,k * 5+4,none⟩=_
    rw [O7.out.cellAt (k * 5+4) Yy0,rv_cell ha1 4 Yy0]
    rw [← f5]
    rfl
   have PC:Hid (w2.cell? ⟨g7,k * 5,none⟩=some (.int .i64 ak)∧w2.cell? ⟨g7,k * 5+1,none⟩=some (.string araw)∧w2.cell? ⟨g7,k * 5+2,none⟩=some (.string astr)∧w2.cell? ⟨g7,k * 5+3,none⟩=some (.float .f64 aq)∧w2.cell? ⟨g7,k * 5+4,none⟩=some (.bool true)):=hdd ⟨p0,p1,p2,p3,p4⟩
   have XC:Hid (w2.cell? (ad.add (j * 4))=some (.int .i64 n0)∧w2.cell? ⟨(ad.add (j * 4)).block,(ad.add (j * 4)).off+1,none⟩=some (.string n1)∧w2.cell? ⟨(ad.add (j * 4)).block,(ad.add (j * 4)).off+2,none⟩=some (.slice A2' n2.length c2')∧w2.cell? ⟨(ad.add (j * 4)).block,(ad.add (j * 4)).off+3,none⟩=some (.slice A3' n3.length c3')):=hdd ⟨x0,x1,x2,x3⟩
   have NK:=hdd nk
   have LESS:Hid (∀ p:Nat,p+1=k→∃ y:List UInt8,w2.cell? ⟨g5,p,none⟩=some (.string ⟨y.toArray⟩)∧Op.bytesLess y x=true):=hdd (fun p hp=>by
    have hpl:p<ts.length:=by have:=HN.out;omega
    refine ⟨ts[p],?_,?_⟩
    ·
     rw [O5.out.cellAt p Yy0,List.getElem?_map,List.getElem?_eq_getElem hpl]
     rfl
    ·
     refine less_of ?_
     have hkl:=(List.getElem?_eq_some_iff.mp hx1)
     have h9:=List.pairwise_iff_getElem.mp NM.out.2.1 p k hpl hkl.1 Yy0
     rw [← hkl.2]
     exact h9)
   have n0c:wr.drew.cell? ⟨nd,0,none⟩=some (.int .i64 6):=cell_later_of hBr.out (R2.out 0 _ rfl)
   have n1c:wr.drew.cell? ⟨nd,1,none⟩=some (.string r2):=cell_later_of hBr.out (R2.out 1 _ rfl)
   have n2c:wr.drew.cell? ⟨nd,2,none⟩=some (.slice A2 r3.length cc2):=cell_later_of hBr.out (R2.out 2 _ rfl)
   have n3c:wr.drew.cell? ⟨nd,3,none⟩=some (.slice (some ad) r4.length c3):=cell_later_of hBr.out (R2.out 3 _ rfl)
   have n4c:wr.drew.cell? ⟨g5,k,none⟩=some (.string ⟨x.toArray⟩):=cell_later_of hBr.out nk
   have kb:(k:Int)+1≤9223372036854775807:=Yy0
   have hkx:(k:Int)<(n:Int):=Yy0
   have hk0:0≤(k:Int):=Yy0
   clear hx1 ha1 hj hnt hvo h3 h4 hlg f1 f2 f3 f4 f5 x0 x1 x2 x3 l2 i2 l3 i3 hrd hjl hnx hkm2 p0 p1 p2 p3 p4 nk hkn
   go_upto_region 12 with (fail)
   go_region_held3 (fun w'=>w'.cell? ⟨nd,0,none⟩=some (.int .i64 6)∧w'.cell? ⟨nd,1,none⟩=some (.string r2)∧w'.cell? ⟨nd,2,none⟩=some (.slice A2 r3.length cc2)∧w'.cell? ⟨nd,3,none⟩=some (.slice (some ad) r4.length c3)∧w'.cell? ⟨g5,k,none⟩=some (.string ⟨x.toArray⟩))
    (first
     | with_reducible exact ⟨yn0,yn1,yn2,yn3,yn4⟩
     | with_reducible exact ⟨n0c,n1c,n2c,n3c,n4c⟩)
    (first | (go_at_call 19;refine (MC.out _ hBr.out.drew).mono ?_;rintro en w9 ⟨rfl,hb9⟩;have yn0:=cellB hb9 n0c;have yn1:=cellB hb9 n1c;have yn2:=cellB hb9 n2c;have yn3:=cellB hb9 n3c;have yn4:=cellB hb9 n4c;have B9:=hdd (hBr.out.drew.trans (hb9.mono (by exact hBr.out.size)));clear hb9))
   clear n0c n1c n2c n3c n4c
   try clear yn0 yn1 yn2 yn3 yn4
   have hj4:(j:Int)<(r4.length:Int):=by have:=H4.out;omega
   have hj0:0≤(j:Int):=Yy0
   have e0:decide ((j:Int)<0)=false:=dff Yy0
   have j65:(j:Int)≤65536:=Yy0
   have q0:w9.drew.cell? ⟨g7,k * 5,none⟩=some (.int .i64 ak):=cell_later_of B9.out.drew PC.out.1
   have q1:w9.drew.cell? ⟨g7,k * 5+1,none⟩=some (.string araw):=cell_later_of B9.out.drew PC.out.2.1
   have q2:w9.drew.cell? ⟨g7,k * 5+2,none⟩=some (.string astr):=cell_later_of B9.out.drew PC.out.2.2.1
   have q3:w9.drew.cell? ⟨g7,k * 5+3,none⟩=some (.float .f64 aq):=cell_later_of B9.out.drew PC.out.2.2.2.1
   have q4:w9.drew.cell? ⟨g7,k * 5+4,none⟩=some (.bool true):=cell_later_of B9.out.drew PC.out.2.2.2.2
   have m3:w9.drew.cell? ⟨nd,3,none⟩=some (.slice (some ad) r4.length c3):=cell_later_of B9.out.drew (R2.out 3 _ rfl)
   have y0:w9.drew.cell? (ad.add (j * 4))=some (.int .i64 n0):=cell_later_of B9.out.drew XC.out.1
   have y1:w9.drew.cell? ⟨(ad.add (j * 4)).block,(ad.add (j * 4)).off+1,none⟩=some (.string n1):=cell_later_of B9.out.drew XC.out.2.1
   have y2:w9.drew.cell? ⟨(ad.add (j * 4)).block,(ad.add (j * 4)).off+2,none⟩=some (.slice A2' n2.length c2'):=cell_later_of B9.out.drew XC.out.2.2.1
   have y3:w9.drew.cell? ⟨(ad.add (j * 4)).block,(ad.add (j * 4)).off+3,none⟩=some (.slice A3' n3.length c3'):=cell_later_of B9.out.drew XC.out.2.2.2
   go_upto_region 13 with (fail)
   rcases Nat.eq_zero_or_pos k with hz | hz
   ·
    as_aux_lemma=>
    have t6:decide (0<k)=false:=dff Yy0
    have t7:decide ((0:Int)<(k:Int))=false:=dff Yy0
    have ra:w9.drew.rangeAt g7 (k * 5) [.int .i64 ak,.string araw,.string astr,.float .f64 aq,.bool true]:=fun i u hu=>by
     rcases i with _ | _ | _ | _ | _ | i
     ·
      obtain rfl:=Option.some.inj hu
      exact q0
     ·
      obtain rfl:=Option.some.inj hu
      exact q1
     ·
      obtain rfl:=Option.some.inj hu
      exact q2
     ·
      obtain rfl:=Option.some.inj hu
      exact q3
     ·
      obtain rfl:=Option.some.inj hu
      exact q4
     ·
      simp at hu
    have ST:Hid ((fun w':World=>w'.rangeAt g7 (k * 5) [.int .i64 ak,.string araw,.string astr,.float .f64 aq,.bool true]∧w'.cell? ⟨nd,3,none⟩=some (.slice (some ad) r4.length c3)∧w'.cell? (ad.add (j * 4))=some (.int .i64 n0)∧w'.cell? ⟨(ad.add (j * 4)).block,(ad.add (j * 4)).off+1,none⟩=some (.string n1)∧w'.cell? ⟨(ad.add (j * 4)).block,(ad.add (j * 4)).off+2,none⟩=some (.slice A2' n2.length c2')∧w'.cell? ⟨(ad.add (j * 4)).block,(ad.add (j * 4)).off+3,none⟩=some (.slice A3' n3.length c3')) w9.drew):=hdd ⟨ra,m3,y0,y1,y2,y3⟩
    clear ra q0 q1 q2 q3 q4 m3 y0 y1 y2 y3 hz
    refine wp_region_held_drew (S:=fun w'=>w'.rangeAt g7 (k * 5) [.int .i64 ak,.string araw,.string astr,.float .f64 aq,.bool true]∧w'.cell? ⟨nd,3,none⟩=some (.slice (some ad) r4.length c3)∧w'.cell? (ad.add (j * 4))=some (.int .i64 n0)∧w'.cell? ⟨(ad.add (j * 4)).block,(ad.add (j * 4)).off+1,none⟩=some (.string n1)∧w'.cell? ⟨(ad.add (j * 4)).block,(ad.add (j * 4)).off+2,none⟩=some (.slice A2' n2.length c2')∧w'.cell? ⟨(ad.add (j * 4)).block,(ad.add (j * 4)).off+3,none⟩=some (.slice A3' n3.length c3')) Yy1 ST.out (fun hHeld=>?_)
    refine take_d (i:=0) (v:=.int .i64 (j:Int)) (some 54) rfl rfl Yy1 Yy1 Yy1 (fun _ _ _ h=>h) (Or.inl ⟨Yy2,fun _ _=>rfl⟩) hHeld ?_
    simp only [Act.put,List.setIfInBounds_toArray,List.set_cons_zero,List.set_cons_succ]
    refine take_d (i:=1) (v:=.bool false) (some 55) rfl rfl Yy1 Yy1 Yy1 (fun _ _ _ h=>h) (Or.inl ⟨Yy2,fun w _=>Yy7⟩) hHeld ?_
    simp only [Act.put,List.setIfInBounds_toArray,List.set_cons_zero,List.set_cons_succ]
    refine take_d (i:=2) (v:=.bool false) (some 56) rfl rfl Yy1 Yy1 Yy1 (fun _ _ _ h=>h) (Or.inl ⟨Yy2,fun _ _=>rfl⟩) hHeld ?_
    simp only [Act.put,List.setIfInBounds_toArray,List.set_cons_zero,List.set_cons_succ]
    refine take_d (i:=3) (v:=.slice (some ⟨g7,0,none⟩) n q7) (some 57) rfl rfl Yy1 Yy1 Yy1 (fun _ _ _ h=>h) (Or.inl ⟨Yy2,fun _ _=>rfl⟩) hHeld ?_
    simp only [Act.put,List.setIfInBounds_toArray,List.set_cons_zero,List.set_cons_succ]
    refine take_d (i:=4) (v:=.int .i64 (k:Int)) (some 58) rfl rfl Yy1 Yy1 Yy1 (fun _ _ _ h=>h) (Or.inl ⟨Yy2,fun _ _=>rfl⟩) hHeld ?_
    simp only [Act.put,List.setIfInBounds_toArray,List.set_cons_zero,List.set_cons_succ]
    refine take_d (i:=5) (v:=.pointer (some ⟨g7,k * 5,none⟩)) (some 59) rfl rfl Yy1 Yy1 Yy1 (fun _ _ _ h=>h) (Or.inl ⟨Yy2,fun w _=>Yy7⟩) hHeld ?_
    simp only [Act.put,List.setIfInBounds_toArray,List.set_cons_zero,List.set_cons_succ]
    refine take_d (i:=6) (v:=_) (some 60) rfl rfl Yy1 Yy1 Yy1 (fun _ _ _ h=>h) (yieldsIf_load_mid Yy2 _ _ rfl _ _ rfl _ _ (fun _ h=>h.1) Tryz.underlying34 rfl Yy1) hHeld ?_
    simp only [Act.put,List.setIfInBounds_toArray,List.set_cons_zero,List.set_cons_succ]
    refine take_d (i:=7) (v:=.pointer (some ⟨nd,3,none⟩)) (some 61) rfl rfl Yy1 Yy1 Yy1 (fun _ _ _ h=>h) (Or.inl ⟨Yy2,fun w _=>Yy7⟩) hHeld ?_
    simp only [Act.put,List.setIfInBounds_toArray,List.set_cons_zero,List.set_cons_succ]
    refine take_d (i:=8) (v:=.slice (some ad) r4.length c3) (some 62) rfl rfl Yy1 Yy1 Yy1 (fun _ _ _ h=>h) (Or.inl ⟨Yy2,fun w h=>by obtain ⟨_,h1,_⟩:=h;go_simp⟩) hHeld ?_
    simp only [Act.put,List.setIfInBounds_toArray,List.set_cons_zero,List.set_cons_succ]
    refine take_d (i:=9) (v:=.int .i64 (j:Int)) (some 63) rfl rfl Yy1 Yy1 Yy1 (fun _ _ _ h=>h) (Or.inl ⟨Yy2,fun _ _=>rfl⟩) hHeld ?_
    simp only [Act.put,List.setIfInBounds_toArray,List.set_cons_zero,List.set_cons_succ]
    refine take_d (i:=10) (v:=.pointer (some (ad.add (j * 4)))) (some 64) rfl rfl Yy1 Yy1 Yy1 (fun _ _ _ h=>h) (Or.inl ⟨Yy2,fun w _=>Yy7⟩) hHeld ?_
    simp only [Act.put,List.setIfInBounds_toArray,List.set_cons_zero,List.set_cons_succ]
    refine take_d (i:=11) (v:=.agg #[.int .i64 n0,.string n1,.slice A2' n2.length c2',.slice A3' n3.length c3']) (some 65) rfl rfl Yy1 Yy1 Yy1 (fun _ _ _ h=>h) (Or.inl ⟨Yy2,fun w h=>by obtain ⟨_,_,h1,h2,h3,h4⟩:=h;go_simp⟩) hHeld ?_
    simp only [Act.put,List.setIfInBounds_toArray,List.set_cons_zero,List.set_cons_succ]
    refine wpAnyH_ready (rs:=[12]) Yy1 Yy4 (cons_d (some 66) rfl rfl (fun K hK=>?_) AllReadyH.nil)
    rw [if_pos Yy2]
    go_simp
    with_reducible refine (GJ.out _ B9.out.drew).mono ?_
    rintro en wz ⟨rfl,hbz⟩
    have BZ:=hdd hbz
    dsimp only
    refine hK.out _ _ ⟨fun i u hu=>cellB hbz (hHeld.1 i u hu),cellB hbz hHeld.2.1,cellB hbz hHeld.2.2.1,cellB hbz hHeld.2.2.2.1,cellB hbz hHeld.2.2.2.2.1,cellB hbz hHeld.2.2.2.2.2⟩ (fun hH2=>?_)
    clear hK K hHeld hbz
    refine take_d (i:=13) (v:=.bool false) (some 67) rfl rfl Yy1 Yy1 Yy1 (fun _ _ _ h=>h) (Or.inl ⟨Yy2,fun w _=>Yy7⟩) hH2 ?_
    simp only [Act.put,List.setIfInBounds_toArray,List.set_cons_zero,List.set_cons_succ]
    refine take_d (i:=14) (v:=.bool false) (some 68) rfl rfl Yy1 Yy1 Yy1 (fun _ _ _ h=>h) (Or.inl ⟨Yy2,fun _ _=>rfl⟩) hH2 ?_
    simp only [Act.put,List.setIfInBounds_toArray,List.set_cons_zero,List.set_cons_succ]
    refine take_d (i:=15) (v:=.bool false) (some 69) rfl rfl Yy1 Yy1 Yy1 (fun _ _ _ h=>h) (Or.inl ⟨Yy2,fun _ _=>rfl⟩) hH2 ?_
    simp only [Act.put,List.setIfInBounds_toArray,List.set_cons_zero,List.set_cons_succ]
    refine take_d (i:=16) (v:=.int .i64 (k:Int)) (some 70) rfl rfl Yy1 Yy1 Yy1 (fun _ _ _ h=>h) (Or.inl ⟨Yy2,fun _ _=>rfl⟩) hH2 ?_
    simp only [Act.put,List.setIfInBounds_toArray,List.set_cons_zero,List.set_cons_succ]
    refine take_d (i:=17) (v:=.bool false) (some 71) rfl rfl Yy1 Yy1 Yy1 (fun _ _ _ h=>h) (Or.inl ⟨Yy2,fun w _=>Yy7⟩) hH2 ?_
    simp only [Act.put,List.setIfInBounds_toArray,List.set_cons_zero,List.set_cons_succ]
    refine take_d (i:=18) (v:=.bool false) (some 72) rfl rfl Yy1 Yy1 Yy1 (fun _ _ _ h=>h) (Or.inl ⟨Yy2,fun _ _=>rfl⟩) hH2 ?_
    simp only [Act.put,List.setIfInBounds_toArray,List.set_cons_zero,List.set_cons_succ]
    refine take_d (i:=19) (v:=_) (some 73) rfl rfl Yy1 Yy1 Yy1 (fun _ _ _ h=>h) (Or.inr ⟨Yy2,rfl⟩) hH2 ?_
    simp only [Act.put,List.setIfInBounds_toArray,List.set_cons_zero,List.set_cons_succ]
    refine take_d (i:=20) (v:=_) (some 74) rfl rfl Yy1 Yy1 Yy1 (fun _ _ _ h=>h) (Or.inr ⟨Yy2,rfl⟩) hH2 ?_
    simp only [Act.put,List.setIfInBounds_toArray,List.set_cons_zero,List.set_cons_succ]
    refine take_d (i:=21) (v:=_) (some 75) rfl rfl Yy1 Yy1 Yy1 (fun _ _ _ h=>h) (Or.inr ⟨Yy2,rfl⟩) hH2 ?_
    simp only [Act.put,List.setIfInBounds_toArray,List.set_cons_zero,List.set_cons_succ]
    refine take_d (i:=22) (v:=_) (some 76) rfl rfl Yy1 Yy1 Yy1 (fun _ _ _ h=>h) (Or.inr ⟨Yy2,rfl⟩) hH2 ?_
    simp only [Act.put,List.setIfInBounds_toArray,List.set_cons_zero,List.set_cons_succ]
    refine take_d (i:=23) (v:=_) (some 77) rfl rfl Yy1 Yy1 Yy1 (fun _ _ _ h=>h) (Or.inr ⟨Yy2,rfl⟩) hH2 ?_
    simp only [Act.put,List.setIfInBounds_toArray,List.set_cons_zero,List.set_cons_succ]
    refine take_d (i:=24) (v:=_) (some 78) rfl rfl Yy1 Yy1 Yy1 (fun _ _ _ h=>h) (Or.inr ⟨Yy2,rfl⟩) hH2 ?_
    simp only [Act.put,List.setIfInBounds_toArray,List.set_cons_zero,List.set_cons_succ]
    refine take_d (i:=25) (v:=_) (some 79) rfl rfl Yy1 Yy1 Yy1 (fun _ _ _ h=>h) (Or.inr ⟨Yy2,rfl⟩) hH2 ?_
    simp only [Act.put,List.setIfInBounds_toArray,List.set_cons_zero,List.set_cons_succ]
    refine take_d (i:=26) (v:=_) (some 80) rfl rfl Yy1 Yy1 Yy1 (fun _ _ _ h=>h) (Or.inr ⟨Yy2,rfl⟩) hH2 ?_
    simp only [Act.put,List.setIfInBounds_toArray,List.set_cons_zero,List.set_cons_succ]
    refine take_d (i:=27) (v:=_) (some 81) rfl rfl Yy1 Yy1 Yy1 (fun _ _ _ h=>h) (Or.inr ⟨Yy2,rfl⟩) hH2 ?_
    simp only [Act.put,List.setIfInBounds_toArray,List.set_cons_zero,List.set_cons_succ]
    refine take_d (i:=28) (v:=_) (some 82) rfl rfl Yy1 Yy1 Yy1 (fun _ _ _ h=>h) (Or.inr ⟨Yy2,rfl⟩) hH2 ?_
    simp only [Act.put,List.setIfInBounds_toArray,List.set_cons_zero,List.set_cons_succ]
    refine take_d (i:=29) (v:=.bool false) (some 83) rfl rfl Yy1 Yy1 Yy1 (fun _ _ _ h=>h) (Or.inl ⟨Yy2,fun _ _=>rfl⟩) hH2 ?_
    simp only [Act.put,List.setIfInBounds_toArray,List.set_cons_zero,List.set_cons_succ]
    refine take_d (i:=30) (v:=.bool false) (some 84) rfl rfl Yy1 Yy1 Yy1 (fun _ _ _ h=>h) (Or.inl ⟨Yy2,fun _ _=>rfl⟩) hH2 ?_
    simp only [Act.put,List.setIfInBounds_toArray,List.set_cons_zero,List.set_cons_succ]
    refine wpAnyH_done Yy1 ?_ _
    go_wp2_with fail
    go_roundg (gk - 1)
    case measure=>have:=hkm.out;omega
    case rel=>exact ⟨k+1,Yy6,hdd Yy53,hdd (B9.out.drew.trans (BZ.out.mono B9.out.size))⟩
   ·
    as_aux_lemma=>
    have t6:decide (0<k)=true:=dtt hz
    have t7:decide ((0:Int)<(k:Int))=true:=dtt Yy0
    obtain ⟨p,hp⟩:∃ p:Nat,(k:Int) - 1=(p:Int):=⟨k - 1,Yy0⟩
    obtain ⟨z,hzc,hzl⟩:=LESS.out p Yy0
    have s0:w9.drew.cell? ⟨g5,p,none⟩=some (.string ⟨z.toArray⟩):=cell_later_of B9.out.drew hzc
    have s1:w9.drew.cell? ⟨g5,k,none⟩=some (.string ⟨x.toArray⟩):=cell_later_of B9.out.drew NK.out
    have hpn:(p:Int)<(n:Int):=Yy0
    have hp0:0≤(p:Int):=Yy0
    have hwp:IntKind.i64.wrap (p:Int)=(p:Int):=Yy52
    clear hzc
    have ra:w9.drew.rangeAt g7 (k * 5) [.int .i64 ak,.string araw,.string astr,.float .f64 aq,.bool true]:=fun i u hu=>by
     rcases i with _ | _ | _ | _ | _ | i
     ·
      obtain rfl:=Option.some.inj hu
      exact q0
     ·
      obtain rfl:=Option.some.inj hu
      exact q1
     ·
      obtain rfl:=Option.some.inj hu
      exact q2
     ·
      obtain rfl:=Option.some.inj hu
      exact q3
     ·
      obtain rfl:=Option.some.inj hu
      exact q4
     ·
      simp at hu
    have ST:Hid ((fun w':World=>w'.rangeAt g7 (k * 5) [.int .i64 ak,.string araw,.string astr,.float .f64 aq,.bool true]∧w'.cell? ⟨nd,3,none⟩=some (.slice (some ad) r4.length c3)∧w'.cell? (ad.add (j * 4))=some (.int .i64 n0)∧w'.cell? ⟨(ad.add (j * 4)).block,(ad.add (j * 4)).off+1,none⟩=some (.string n1)∧w'.cell? ⟨(ad.add (j * 4)).block,(ad.add (j * 4)).off+2,none⟩=some (.slice A2' n2.length c2')∧w'.cell? ⟨(ad.add (j * 4)).block,(ad.add (j * 4)).off+3,none⟩=some (.slice A3' n3.length c3')∧w'.cell? ⟨g5,p,none⟩=some (.string ⟨z.toArray⟩)∧w'.cell? ⟨g5,k,none⟩=some (.string ⟨x.toArray⟩)) w9.drew):=hdd ⟨ra,m3,y0,y1,y2,y3,s0,s1⟩
    clear ra q0 q1 q2 q3 q4 m3 y0 y1 y2 y3 hz s0 s1
    refine wp_region_held_drew (S:=fun w'=>w'.rangeAt g7 (k * 5) [.int .i64 ak,.string araw,.string astr,.float .f64 aq,.bool true]∧w'.cell? ⟨nd,3,none⟩=some (.slice (some ad) r4.length c3)∧w'.cell? (ad.add (j * 4))=some (.int .i64 n0)∧w'.cell? ⟨(ad.add (j * 4)).block,(ad.add (j * 4)).off+1,none⟩=some (.string n1)∧w'.cell? ⟨(ad.add (j * 4)).block,(ad.add (j * 4)).off+2,none⟩=some (.slice A2' n2.length c2')∧w'.cell? ⟨(ad.add (j * 4)).block,(ad.add (j * 4)).off+3,none⟩=some (.slice A3' n3.length c3')∧w'.cell? ⟨g5,p,none⟩=some (.string ⟨z.toArray⟩)∧w'.cell? ⟨g5,k,none⟩=some (.string ⟨x.toArray⟩)) Yy1 ST.out (fun hHeld=>?_)
    refine take_d (i:=0) (v:=.int .i64 (j:Int)) (some 54) rfl rfl Yy1 Yy1 Yy1 (fun _ _ _ h=>h) (Or.inl ⟨Yy2,fun _ _=>rfl⟩) hHeld ?_
    simp only [Act.put,List.setIfInBounds_toArray,List.set_cons_zero,List.set_cons_succ]
    refine take_d (i:=1) (v:=.bool false) (some 55) rfl rfl Yy1 Yy1 Yy1 (fun _ _ _ h=>h) (Or.inl ⟨Yy2,fun w _=>Yy7⟩) hHeld ?_
    simp only [Act.put,List.setIfInBounds_toArray,List.set_cons_zero,List.set_cons_succ]
    refine take_d (i:=2) (v:=.bool false) (some 56) rfl rfl Yy1 Yy1 Yy1 (fun _ _ _ h=>h) (Or.inl ⟨Yy2,fun _ _=>rfl⟩) hHeld ?_
    simp only [Act.put,List.setIfInBounds_toArray,List.set_cons_zero,List.set_cons_succ]
    refine take_d (i:=3) (v:=.slice (some ⟨g7,0,none⟩) n q7) (some 57) rfl rfl Yy1 Yy1 Yy1 (fun _ _ _ h=>h) (Or.inl ⟨Yy2,fun _ _=>rfl⟩) hHeld ?_
    simp only [Act.put,List.setIfInBounds_toArray,List.set_cons_zero,List.set_cons_succ]
    refine take_d (i:=4) (v:=.int .i64 (k:Int)) (some 58) rfl rfl Yy1 Yy1 Yy1 (fun _ _ _ h=>h) (Or.inl ⟨Yy2,fun _ _=>rfl⟩) hHeld ?_
    simp only [Act.put,List.setIfInBounds_toArray,List.set_cons_zero,List.set_cons_succ]
    refine take_d (i:=5) (v:=.pointer (some ⟨g7,k * 5,none⟩)) (some 59) rfl rfl Yy1 Yy1 Yy1 (fun _ _ _ h=>h) (Or.inl ⟨Yy2,fun w _=>Yy7⟩) hHeld ?_
    simp only [Act.put,List.setIfInBounds_toArray,List.set_cons_zero,List.set_cons_succ]
    refine take_d (i:=6) (v:=_) (some 60) rfl rfl Yy1 Yy1 Yy1 (fun _ _ _ h=>h) (yieldsIf_load_mid Yy2 _ _ rfl _ _ rfl _ _ (fun _ h=>h.1) Tryz.underlying34 rfl Yy1) hHeld ?_
    simp only [Act.put,List.setIfInBounds_toArray,List.set_cons_zero,List.set_cons_succ]
    refine take_d (i:=7) (v:=.pointer (some ⟨nd,3,none⟩)) (some 61) rfl rfl Yy1 Yy1 Yy1 (fun _ _ _ h=>h) (Or.inl ⟨Yy2,fun w _=>Yy7⟩) hHeld ?_
    simp only [Act.put,List.setIfInBounds_toArray,List.set_cons_zero,List.set_cons_succ]
    refine take_d (i:=8) (v:=.slice (some ad) r4.length c3) (some 62) rfl rfl Yy1 Yy1 Yy1 (fun _ _ _ h=>h) (Or.inl ⟨Yy2,fun w h=>by obtain ⟨_,h1,_⟩:=h;go_simp⟩) hHeld ?_
    simp only [Act.put,List.setIfInBounds_toArray,List.set_cons_zero,List.set_cons_succ]
    refine take_d (i:=9) (v:=.int .i64 (j:Int)) (some 63) rfl rfl Yy1 Yy1 Yy1 (fun _ _ _ h=>h) (Or.inl ⟨Yy2,fun _ _=>rfl⟩) hHeld ?_
    simp only [Act.put,List.setIfInBounds_toArray,List.set_cons_zero,List.set_cons_succ]
    refine take_d (i:=10) (v:=.pointer (some (ad.add (j * 4)))) (some 64) rfl rfl Yy1 Yy1 Yy1 (fun _ _ _ h=>h) (Or.inl ⟨Yy2,fun w _=>Yy7⟩) hHeld ?_
    simp only [Act.put,List.setIfInBounds_toArray,List.set_cons_zero,List.set_cons_succ]
    refine take_d (i:=11) (v:=.agg #[.int .i64 n0,.string n1,.slice A2' n2.length c2',.slice A3' n3.length c3']) (some 65) rfl rfl Yy1 Yy1 Yy1 (fun _ _ _ h=>h) (Or.inl ⟨Yy2,fun w h=>by obtain ⟨_,_,h1,h2,h3,h4,_⟩:=h;go_simp⟩) hHeld ?_
    simp only [Act.put,List.setIfInBounds_toArray,List.set_cons_zero,List.set_cons_succ]
    refine wpAnyH_ready (rs:=[12]) Yy1 Yy4 (cons_d (some 66) rfl rfl (fun K hK=>?_) AllReadyH.nil)
    rw [if_pos Yy2]
    go_simp
    with_reducible refine (GJ.out _ B9.out.drew).mono ?_
    rintro en wz ⟨rfl,hbz⟩
    have BZ:=hdd hbz
    dsimp only
    refine hK.out _ _ ⟨fun i u hu=>cellB hbz (hHeld.1 i u hu),cellB hbz hHeld.2.1,cellB hbz hHeld.2.2.1,cellB hbz hHeld.2.2.2.1,cellB hbz hHeld.2.2.2.2.1,cellB hbz hHeld.2.2.2.2.2.1,cellB hbz hHeld.2.2.2.2.2.2.1,cellB hbz hHeld.2.2.2.2.2.2.2⟩ (fun hH2=>?_)
    clear hK K hHeld hbz
    refine take_d (i:=13) (v:=.bool false) (some 67) rfl rfl Yy1 Yy1 Yy1 (fun _ _ _ h=>h) (Or.inl ⟨Yy2,fun w _=>Yy7⟩) hH2 ?_
    simp only [Act.put,List.setIfInBounds_toArray,List.set_cons_zero,List.set_cons_succ]
    refine take_d (i:=14) (v:=.bool false) (some 68) rfl rfl Yy1 Yy1 Yy1 (fun _ _ _ h=>h) (Or.inl ⟨Yy2,fun _ _=>rfl⟩) hH2 ?_
    simp only [Act.put,List.setIfInBounds_toArray,List.set_cons_zero,List.set_cons_succ]
    refine take_d (i:=15) (v:=.bool false) (some 69) rfl rfl Yy1 Yy1 Yy1 (fun _ _ _ h=>h) (Or.inl ⟨Yy2,fun _ _=>rfl⟩) hH2 ?_
    simp only [Act.put,List.setIfInBounds_toArray,List.set_cons_zero,List.set_cons_succ]
    refine take_d (i:=16) (v:=.int .i64 (k:Int)) (some 70) rfl rfl Yy1 Yy1 Yy1 (fun _ _ _ h=>h) (Or.inl ⟨Yy2,fun _ _=>rfl⟩) hH2 ?_
    simp only [Act.put,List.setIfInBounds_toArray,List.set_cons_zero,List.set_cons_succ]
    refine take_d (i:=17) (v:=.bool true) (some 71) rfl rfl Yy1 Yy1 Yy1 (fun _ _ _ h=>h) (Or.inl ⟨Yy2,fun w _=>Yy7⟩) hH2 ?_
    simp only [Act.put,List.setIfInBounds_toArray,List.set_cons_zero,List.set_cons_succ]
    refine take_d (i:=18) (v:=.bool true) (some 72) rfl rfl Yy1 Yy1 Yy1 (fun _ _ _ h=>h) (Or.inl ⟨Yy2,fun _ _=>rfl⟩) hH2 ?_
    simp only [Act.put,List.setIfInBounds_toArray,List.set_cons_zero,List.set_cons_succ]
    refine take_d (i:=19) (v:=.slice (some ⟨g5,0,none⟩) n q5) (some 73) rfl rfl Yy1 Yy1 Yy1 (fun _ _ _ h=>h) (Or.inl ⟨Yy2,fun _ _=>rfl⟩) hH2 ?_
    simp only [Act.put,List.setIfInBounds_toArray,List.set_cons_zero,List.set_cons_succ]
    refine take_d (i:=20) (v:=.int .i64 (k:Int)) (some 74) rfl rfl Yy1 Yy1 Yy1 (fun _ _ _ h=>h) (Or.inl ⟨Yy2,fun _ _=>rfl⟩) hH2 ?_
    simp only [Act.put,List.setIfInBounds_toArray,List.set_cons_zero,List.set_cons_succ]
    refine take_d (i:=21) (v:=.int .i64 (p:Int)) (some 75) rfl rfl Yy1 Yy1 Yy1 (fun _ _ _ h=>h) (Or.inl ⟨Yy2,fun w _=>Yy7⟩) hH2 ?_
    simp only [Act.put,List.setIfInBounds_toArray,List.set_cons_zero,List.set_cons_succ]
    refine take_d (i:=22) (v:=.pointer (some ⟨g5,p,none⟩)) (some 76) rfl rfl Yy1 Yy1 Yy1 (fun _ _ _ h=>h) (Or.inl ⟨Yy2,fun w _=>Yy7⟩) hH2 ?_
    simp only [Act.put,List.setIfInBounds_toArray,List.set_cons_zero,List.set_cons_succ]
    refine take_d (i:=23) (v:=.string ⟨z.toArray⟩) (some 77) rfl rfl Yy1 Yy1 Yy1 (fun _ _ _ h=>h) (Or.inl ⟨Yy2,fun w h=>by have h1:=h.2.2.2.2.2.2.1;go_simp⟩) hH2 ?_
    simp only [Act.put,List.setIfInBounds_toArray,List.set_cons_zero,List.set_cons_succ]
    refine take_d (i:=24) (v:=.slice (some ⟨g5,0,none⟩) n q5) (some 78) rfl rfl Yy1 Yy1 Yy1 (fun _ _ _ h=>h) (Or.inl ⟨Yy2,fun _ _=>rfl⟩) hH2 ?_
    simp only [Act.put,List.setIfInBounds_toArray,List.set_cons_zero,List.set_cons_succ]
    refine take_d (i:=25) (v:=.int .i64 (k:Int)) (some 79) rfl rfl Yy1 Yy1 Yy1 (fun _ _ _ h=>h) (Or.inl ⟨Yy2,fun _ _=>rfl⟩) hH2 ?_
    simp only [Act.put,List.setIfInBounds_toArray,List.set_cons_zero,List.set_cons_succ]
    refine take_d (i:=26) (v:=.pointer (some ⟨g5,k,none⟩)) (some 80) rfl rfl Yy1 Yy1 Yy1 (fun _ _ _ h=>h) (Or.inl ⟨Yy2,fun w _=>Yy7⟩) hH2 ?_
    simp only [Act.put,List.setIfInBounds_toArray,List.set_cons_zero,List.set_cons_succ]
    refine take_d (i:=27) (v:=.string ⟨x.toArray⟩) (some 81) rfl rfl Yy1 Yy1 Yy1 (fun _ _ _ h=>h) (Or.inl ⟨Yy2,fun w h=>by have h1:=h.2.2.2.2.2.2.2;go_simp⟩) hH2 ?_
    simp only [Act.put,List.setIfInBounds_toArray,List.set_cons_zero,List.set_cons_succ]
    refine take_d (i:=28) (v:=.bool false) (some 82) rfl rfl Yy1 Yy1 Yy1 (fun _ _ _ h=>h) (Or.inl ⟨Yy2,fun w _=>geq_exec hzl _ _ _ rfl rfl rfl w⟩) hH2 ?_
    simp only [Act.put,List.setIfInBounds_toArray,List.set_cons_zero,List.set_cons_succ]
    refine take_d (i:=29) (v:=.bool false) (some 83) rfl rfl Yy1 Yy1 Yy1 (fun _ _ _ h=>h) (Or.inl ⟨Yy2,fun _ _=>rfl⟩) hH2 ?_
    simp only [Act.put,List.setIfInBounds_toArray,List.set_cons_zero,List.set_cons_succ]
    refine take_d (i:=30) (v:=.bool false) (some 84) rfl rfl Yy1 Yy1 Yy1 (fun _ _ _ h=>h) (Or.inl ⟨Yy2,fun _ _=>rfl⟩) hH2 ?_
    simp only [Act.put,List.setIfInBounds_toArray,List.set_cons_zero,List.set_cons_succ]
    refine wpAnyH_done Yy1 ?_ _
    go_wp2_with fail
    go_roundg (gk - 1)
    case measure=>have:=hkm.out;omega
    case rel=>exact ⟨k+1,Yy6,hdd Yy53,hdd (B9.out.drew.trans (BZ.out.mono B9.out.size))⟩
theorem mapof_any {w:World} {b0:Nat} (h:TS w b0) (hBB:b0≤w.heap.size) (s:ByteArray) (hs:s.size≤140737488351232) :
  Calls Tryz.prog 6 #[.string s] w fun e w'=>e = .returned (.bool true)∧Below w.heap.size w w':=by
 rcases Nat.lt_or_ge 2147483647 s.size with h1 | h1
 ·
  have t1:decide ((2147483647:Int)<(s.size:Int))=true:=dtt Yy0
  go_enter Tryz.func6,Tryz.ntmps6
  go_wp2_with fail
  go_ret
  exact ⟨rfl,Below.refl _ _⟩
 ·
  obtain ⟨r1,r2,r3,r4,ok,⟨k0,hk0⟩,hG⟩:=gjtext_ev2 s
  have hk:=hk0 k0 (nlr _)
  cases ok with
  | false=>exact mo_no h1 (.inl rfl) (fun w=>bare_no hk w)
  | true =>
   obtain ⟨hs65,hpd,t,hw,hnode,hb0,hbj,_⟩:=hG rfl
   have htj:=T.wf_lt t hw
   have hts:=(wf_sq t hw).1
   obtain ⟨b,hu⟩:=un_t hs65 t hw
   rw [← hnode] at hu
   have hu':Ev (fun n=>spec_Unique.f n r1 r2 r3 r4) b:=hu
   obtain ⟨k1,hk1'⟩:=hu
   have hk1:spec_Unique.f k1 r1 r2 r3 r4=some b:=hk1' k1 (nlr _)
   cases b with
   | false=>exact mo_no h1 (.inl rfl) (fun w=>bare_nu hk hk1 w)
   | true=>
    have h0:0<s.size:=Yy0
    have hB0:=blank_f (s[0].toNat:Int)
    have hB1:=blank_f (s[s.size - 1].toNat:Int)
    cases hb:isB (s[0].toNat:Int) with
    | true=>rw [hb] at hB0;exact mo_no h1 (.inl rfl) (fun w=>bare_b0 hk hk1 h0 hs65 hB0 w)
    | false=>
     rw [hb] at hB0
     cases hc:isB (s[s.size - 1].toNat:Int) with
     | true=>rw [hc] at hB1;exact mo_no h1 (.inl rfl) (fun w=>bare_b1 hk hk1 h0 hs65 hB0 hB1 w)
     | false=>
      rw [hc] at hB1
      by_cases h6:r1=6
      ·
       subst h6
       have hti:t.i=0:=by
        rcases Nat.eq_zero_or_pos t.i with e | e
        ·
         exact e
        ·
         have:=hb0.2.2 0 (nlr _) e
         rw [PFnGjSquashItems.bt_at h0,hb] at this
         cases this
       have hk6:t.s.1=6:=by rw [← T.n_kind s t,← hnode]
       obtain ⟨l,g1,g2,g3,g4,g5,g6,g7,g8,g9⟩:=mo_sum hs65 hw (pd_whole hs65 hpd hw hb0) hk6 hti
       rw [← hnode] at g3 g4 g8 g9
       have hap:=uniq_apart (by rw [← g3];exact g5) (by rw [← g4];exact g5) g8 hu'
       have hone:Apart (nmS s) l:=fun a c x y hac hx hy e=>hap a c (nmS s x) hac (g9 a x hx).1 (by rw [e];exact (g9 c y hy).1)
       exact mo_yes h hBB hs65 (fun w=>bare_yes hk hk1 h0 hs65 hB0 hB1 w) (fun w' a b=>gm_any a b s hs65 g1 (nmS s) l g2 g6 g7 hone g5) g3 g4 g5 g9 hone
      ·
       exact mo_no h1 (.inr h6) (fun w=>bare_yes hk hk1 h0 hs65 hB0 hB1 w)
end Go.Proofs.YtieflhncpjjciaaGreatDoor.Dc
