/- Walks and plain laws of this claim. -/
import Derived.Test.YtieflhncpjjciaaGreatDoorBxN
import Derived.Deep.RegionHeld3
import Derived.BigQuiet
import Derived.Test.YtieflhncpjjciaaGreatDoorBxG
import Derived.Test.YtieflhncpjjciaaGreatDoorBxK
import Derived.Test.YtieflhncpjjciaaGreatDoorBxA
set_option maxHeartbeats 8000000
set_option maxRecDepth 100000
set_option linter.unusedVariables false
set_option linter.unusedSimpArgs false
namespace Go.Proofs.YtieflhncpjjciaaGreatDoor.Dc
open Go Go.RowKit Go.Proofs.YtieflhncpjjciaaGreatDoorW.PrintWords Go.Proofs.YtieflhncpjjciaaGreatDoor.PFnGjSquashItems
theorem gjis_any {w:World} {n0:Int} {n1:ByteArray} {n2:List ByteArray} {n3:List S26} {kd:Int} {raw str:ByteArray} {q:Nat} {A2 A3:Option Addr} {c2 c3:Nat}
  (hread:Ev (fun k=>spec_Read.f k raw) (n0,n1,n2,n3,true)) (hsame:NB ⟨n0,n1,n2,n3⟩) (hkd:laws_gjKind.f n0=some kd) (hstr:n0=4→str=n1)
  (h2:Kd.C Kd.string w A2 n2.length n2) (l2:n2.length≤c2) (h3:Kd.C k26 w A3 n3.length n3) (l3:n3.length≤c3) :
  Calls Tryz.prog 11 #[.agg #[.int .i64 kd,.string raw,.string str,.float .f64 q,.bool true],.agg #[.int .i64 n0,.string n1,.slice A2 n2.length c2,.slice A3 n3.length c3]] w fun e w'=>e = .returned (.bool true)∧Below w.heap.size w w':=by
 obtain ⟨k0,hk0⟩:=hread
 have RC:Hid (∀ w,Calls Tryz.prog 28 #[.string raw] w fun e w'=>∃ v2_ v3_:Value,e = .returned (.tuple #[.agg #[.int .i64 n0,.string n1,v2_,v3_],.bool true])∧Kd.R Kd.string 9 w' w.heap.size (fun _=>True) v2_ n2∧Kd.R k26 26 w' w.heap.size (fun k_=>some k_≠(v2_:Value).ownBlock) v3_ n3∧Below w.heap.size w w'):=hdd (fun w=>spec_Read.calls k0 raw _ _ _ _ _ w (hk0 k0 (nlr _)))
 have SC:Hid (∀ (w:World) (B2:Option Addr) (d2:Nat) (B3:Option Addr) (d3:Nat) (A2':Option Addr) (e2:Nat) (A3':Option Addr) (e3:Nat),Kd.C Kd.string w B2 n2.length n2→n2.length≤d2→Kd.C k26 w B3 n3.length n3→n3.length≤d3→Kd.C Kd.string w A2' n2.length n2→n2.length≤e2→Kd.C k26 w A3' n3.length n3→n3.length≤e3→Calls Tryz.prog 30 #[.agg #[.int .i64 n0,.string n1,.slice B2 n2.length d2,.slice B3 n3.length d3],.agg #[.int .i64 n0,.string n1,.slice A2' n2.length e2,.slice A3' n3.length e3]] w fun e w'=>e = .returned (.bool true)∧Below w.heap.size w w'):=hdd (fun w B2 d2 B3 d3 A2' e2 A3' e3 a1 a2 a3 a4 a5 a6 a7 a8=>same_any hsame a1 a2 a3 a4 a5 a6 a7 a8)
 have H2:=hdd h2;have L2:=hdd l2;have H3:=hdd h3;have L3:=hdd l3;have HK:=hdd hkd;have HS:=hdd hstr
 clear hk0 h2 l2 h3 l3 hkd hstr
 go_enter Tryz.func11,Tryz.ntmps11
 obtain ⟨B,hB⟩:∃ B,w.heap.size=B:=⟨_,rfl⟩
 go_upto_region 1 with (fail)
 obtain ⟨wa,hwa⟩:∃ wa,(w.alloc (Obj.cells #[.int .i64 kd,.string raw,.string str,.float .f64 q,.bool true] 34)).alloc (Obj.cells #[.int .i64 n0,.string n1,.slice A2 n2.length c2,.slice A3 n3.length c3] 26)=wa:=⟨_,rfl⟩
 have bA:Hid (Below w.heap.size w wa):=hdd (by rw [← hwa];exact ((Below.refl _ w).alloc (nlr _) _).alloc Yy34 _)
 have sA:Hid (wa.heap.size=B+2):=hdd Yy25
 have a0:wa.cell? ⟨B,0,none⟩=some (.int .i64 kd):=Yy25
 have a1:wa.cell? ⟨B,1,none⟩=some (.string raw):=Yy25
 have a2:wa.cell? ⟨B,2,none⟩=some (.string str):=Yy25
 have a4:wa.cell? ⟨B,4,none⟩=some (.bool true):=Yy25
 have b0:wa.cell? ⟨B+1,0,none⟩=some (.int .i64 n0):=Yy25
 have b1:wa.cell? ⟨B+1,1,none⟩=some (.string n1):=Yy25
 have b2:wa.cell? ⟨B+1,2,none⟩=some (.slice A2 n2.length c2):=Yy25
 have b3:wa.cell? ⟨B+1,3,none⟩=some (.slice A3 n3.length c3):=Yy25
 have HA2:=hdd (Kd.C_below H2.out bA.out)
 have HA3:=hdd (Kd.C_below H3.out bA.out)
 rw [hwa]
 clear hwa
 go_upto_region 2 with (go_at_call 28;refine (RC.out _).mono ?_;rintro en w1 ⟨v2,v3,rfl,hR2,hR3,hb1⟩;obtain ⟨B2,d2,rfl,m2,hC2⟩:=Kd.R_reads hR2;obtain ⟨B3,d3,rfl,m3,hC3⟩:=Kd.R_reads hR3;have C2:=hdd hC2;have C3:=hdd hC3;have M2:=hdd m2;have M3:=hdd m3;have e0:=cellB hb1 a0;have e1:=cellB hb1 a1;have e2:=cellB hb1 a2;have e4:=cellB hb1 a4;have f0:=cellB hb1 b0;have f1:=cellB hb1 b1;have f2:=cellB hb1 b2;have f3:=cellB hb1 b3;have G2:=hdd (Kd.C_below HA2.out hb1);have G3:=hdd (Kd.C_below HA3.out hb1);have B1:=hdd hb1;clear hR2 hR3 hb1 hC2 hC3 m2 m3)
 obtain ⟨g,hg⟩:∃ g,w1.heap.size=g:=⟨_,rfl⟩
 obtain ⟨wb,hwb⟩:∃ wb,w1.alloc (Obj.cells #[.int .i64 n0,.string n1,.slice B2 n2.length d2,.slice B3 n3.length d3] 26)=wb:=⟨_,rfl⟩
 have bB:Hid (Below w1.heap.size w1 wb):=hdd (by rw [← hwb];exact (Below.refl _ w1).alloc (nlr _) _)
 have g0:wb.drew.cell? ⟨g,0,none⟩=some (.int .i64 n0):=Yy58
 have g1:wb.drew.cell? ⟨g,1,none⟩=some (.string n1):=Yy58
 have g2:wb.drew.cell? ⟨g,2,none⟩=some (.slice B2 n2.length d2):=Yy58
 have g3:wb.drew.cell? ⟨g,3,none⟩=some (.slice B3 n3.length d3):=Yy58
 have p0:wb.drew.cell? ⟨B,0,none⟩=some (.int .i64 kd):=cellB bB.out.drew e0
 have p2:wb.drew.cell? ⟨B,2,none⟩=some (.string str):=cellB bB.out.drew e2
 have p4:wb.drew.cell? ⟨B,4,none⟩=some (.bool true):=cellB bB.out.drew e4
 have q0:wb.drew.cell? ⟨B+1,0,none⟩=some (.int .i64 n0):=cellB bB.out.drew f0
 have q1:wb.drew.cell? ⟨B+1,1,none⟩=some (.string n1):=cellB bB.out.drew f1
 have q2:wb.drew.cell? ⟨B+1,2,none⟩=some (.slice A2 n2.length c2):=cellB bB.out.drew f2
 have q3:wb.drew.cell? ⟨B+1,3,none⟩=some (.slice A3 n3.length c3):=cellB bB.out.drew f3
 have K2:=hdd (Kd.C_below C2.out bB.out.drew)
 have K3:=hdd (Kd.C_below C3.out bB.out.drew)
 have J2:=hdd (Kd.C_below G2.out bB.out.drew)
 have J3:=hdd (Kd.C_below G3.out bB.out.drew)
 rw [hwb]
 clear hwb e0 e1 e2 e4 f0 f1 f2 f3 a0 a1 a2 a4 b0 b1 b2 b3
 have KC:Hid (∀ w,Calls Tryz.prog 29 #[.int .i64 n0] w fun e w'=>e = .returned (.int .i64 kd)∧Drawn0 w w'):=hdd (fun w=>laws_gjKind.calls n0 kd w HK.out)
 go_region_held3 (fun w'=>w'.cell? ⟨B,0,none⟩=some (.int .i64 kd)∧w'.cell? ⟨B,2,none⟩=some (.string str)∧w'.cell? ⟨B,4,none⟩=some (.bool true)∧w'.cell? ⟨B+1,0,none⟩=some (.int .i64 n0)∧w'.cell? ⟨B+1,1,none⟩=some (.string n1)∧w'.cell? ⟨B+1,2,none⟩=some (.slice A2 n2.length c2)∧w'.cell? ⟨B+1,3,none⟩=some (.slice A3 n3.length c3)∧w'.cell? ⟨g,0,none⟩=some (.int .i64 n0)∧w'.cell? ⟨g,1,none⟩=some (.string n1)∧w'.cell? ⟨g,2,none⟩=some (.slice B2 n2.length d2)∧w'.cell? ⟨g,3,none⟩=some (.slice B3 n3.length d3))
  (first
   | with_reducible exact ⟨yp0,yp2,yp4,yq0,yq1,yq2,yq3,yg0,yg1,yg2,yg3⟩
   | with_reducible exact ⟨xp0,xp2,xp4,xq0,xq1,xq2,xq3,xg0,xg1,xg2,xg3⟩
   | with_reducible exact ⟨p0,p2,p4,q0,q1,q2,q3,g0,g1,g2,g3⟩)
  (first
   | (go_at_call 29;refine (KC.out _).mono ?_;rintro en wz ⟨rfl,hd⟩;have hbd:Below wb.drew.heap.size wb.drew wz:=(by obtain ⟨nn,h⟩:=hd.out;rw [h];exact Below.drewNs (Below.refl _ _) nn);have xp0:=cellB hbd p0;have xp2:=cellB hbd p2;have xp4:=cellB hbd p4;have xq0:=cellB hbd q0;have xq1:=cellB hbd q1;have xq2:=cellB hbd q2;have xq3:=cellB hbd q3;have xg0:=cellB hbd g0;have xg1:=cellB hbd g1;have xg2:=cellB hbd g2;have xg3:=cellB hbd g3;have X2:=hdd (Kd.C_below K2.out hbd);have X3:=hdd (Kd.C_below K3.out hbd);have Y2:=hdd (Kd.C_below J2.out hbd);have Y3:=hdd (Kd.C_below J3.out hbd);have BD:=hdd hbd;clear hbd hd)
   | (go_at_call 30;refine (SC.out _ _ _ _ _ _ _ _ _ X2.out M2.out X3.out M3.out Y2.out L2.out Y3.out L3.out).mono ?_;rintro en wy ⟨rfl,hbe⟩;have yp0:=cellB hbe xp0;have yp2:=cellB hbe xp2;have yp4:=cellB hbe xp4;have yq0:=cellB hbe xq0;have yq1:=cellB hbe xq1;have yq2:=cellB hbe xq2;have yq3:=cellB hbe xq3;have yg0:=cellB hbe xg0;have yg1:=cellB hbe xg1;have yg2:=cellB hbe xg2;have yg3:=cellB hbe xg3;have BE:=hdd hbe;clear hbe))
 have BW:Hid (Below w.heap.size w wy):=hdd (by
  have h1:=bA.out.size
  have h2:=B1.out.size
  have h3:=bB.out.size
  exact ((bA.out.trans (B1.out.mono h1)).trans ((bB.out.drew).mono Yy0)).trans ((BD.out.trans (BE.out.mono BD.out.size)).mono (by show _≤wb.heap.size;omega)))
 by_cases h4:n0=4
 ·
  have hs:=HS.out h4
  have t1:(n0 != 4)=false:=by rw [h4];rfl
  subst hs
  clear h4
  go_wp2_with fail
  go_ret
  exact ⟨Yy3,by first | exact BW.out | (rw [← hB];exact BW.out)⟩
 ·
  have t1:(n0 != 4)=true:=bne_iff_ne.mpr h4
  clear h4
  go_wp2_with fail
  go_ret
  exact ⟨Yy3,by first | exact BW.out | (rw [← hB];exact BW.out)⟩
attribute [local go_sem] run_store_flt
theorem It.skip {u:ByteArray} {i:Nat} {l:List ItT} (h:It u true i l) (hi:i<u.size) (h34:bt u (i:Int)≠34):It u true (i+1) l:=by
 cases h with
 | done h h1 _=>exact .done hi (fun _ q hq=>h1 rfl q Yy0) (fun h=>Yy15)
 | item hi hn hn2 hv hs vk hj he r=>
  refine .item ?_ (fun _=>⟨(hn rfl).1,fun q h1 h2=>(hn rfl).2 q Yy0 h2⟩) (fun h=>Yy15) hv hs vk hj he r
  rcases eol hi with e | e
  ·
   rw [e] at h34;exact absurd (hn rfl).1.1.2.2.1 h34
  ·
   exact e
inductive All2 {α β:Type} (R:α→β→Prop):List α→List β→Prop
 | nil:All2 R [] []
 | cons {a:α} {b:β} {l:List α} {m:List β} (h:R a b) (r:All2 R l m):All2 R (a :: l) (b :: m)
theorem All2.len {α β:Type} {R:α→β→Prop} {l:List α} {m:List β} (h:All2 R l m):l.length=m.length:=by
 induction h with
 | nil=>rfl
 | cons _ _ ih=>simp [ih]
theorem All2.get {α β:Type} {R:α→β→Prop} {l:List α} {m:List β} (h:All2 R l m):∀ (k:Nat) (a:α),l[k]? = some a→∃ b,m[k]? = some b∧R a b:=by
 induction h with
 | nil=>intro k a hk;simp at hk
 | cons h r ih=>
  intro k a hk
  cases k with
  | zero=>obtain rfl:=Option.some.inj hk;exact ⟨_,rfl,h⟩
  | succ k=>exact ih k a hk
theorem Ot.off {ob base:Nat} {L:List (RV×RV)} {w w':World} (h:Ot ob base L w) (k:OffC (fun g=>g=ob) base w w'):Ot ob base L w':=by
 obtain ⟨⟨v,hc,ho,hn⟩,hf⟩:=h
 have hlt:=blo w _ hc
 have hb:=k.block ob hlt (Or.inl rfl)
 refine ⟨⟨v,by rw [World.cell?_of_block (w:=w) hb];exact hc,⟨ho.1,?_⟩,hn⟩,?_⟩
 ·
  rcases ho.2 with h2 | ⟨g,cap,cur,hv,hg,hh,hr⟩
  ·
   exact .inl h2
  ·
   exact .inr ⟨g,cap,cur,hv,hg,Yy66,hr⟩
 ·
  rw [← hf]
  unfold World.frozen?
  simp only [hb]
theorem It.vk {u:ByteArray} {ob:Bool} {i:Nat} {l:List ItT} (h:It u ob i l):∀ (k:Nat) (t:ItT),l[k]? = some t→VK u t.kd t.v t.j∧t.j<u.size:=by
 induction h with
 | done=>intro k t h;simp at h
 | item hi hn hn2 hv hs vk hj he r ih=>
  intro k t h
  cases k with
  | zero=>obtain rfl:=Option.some.inj h;exact ⟨vk,hj⟩
  | succ k=>exact ih k t h
theorem cell_later_of {w w':World} (h:Below w.heap.size w w') {a:Addr} {v:Value} (hc:w.cell? a=some v):w'.cell? a=some v:=cellB h hc
theorem own_form {w:World} {base e size n:Nat} {v:Value} {xs:List Value} (h:w.ownsRow base e size v n xs):∃ A c,v = .slice A n c:=by
 rcases h.2 with ⟨h2,h3⟩ | ⟨g,cap,cur,hv,_⟩
 ·
  exact ⟨none,0,by rw [h2,h3]⟩
 ·
  exact ⟨_,_,hv⟩
theorem line_cell {P:List (RV×RV)} {k:Nat} {p:RV×RV} (h:P[k]? = some p) (j:Nat) (hj:j<5):(P.flatMap keyCells)[k * 5+j]? = (keyCells p)[j]?:=by
  induction P generalizing k with
  | nil=>simp at h
  | cons a P ih=>
    have ha:(keyCells a).length=5:=rfl
    rw [List.flatMap_cons]
    cases k with
    | zero=>
      obtain rfl:=Option.some.inj h
      rw [List.getElem?_append_left Yy0,Nat.zero_mul,Nat.zero_add]
    | succ k=>
      rw [List.getElem?_append_right Yy0,ha,show (k+1) * 5+j - 5=k * 5+j from Yy0]
      exact ih h
theorem line_own {w:World} {base e size n:Nat} {A:Option Addr} {c:Nat} {xs:List Value} (h:w.ownsRow base e size (.slice A n c) n xs) (hn:0<n):∃ g,A=some ⟨g,0,none⟩:=by
  rcases h.2 with ⟨h2,h3⟩ | ⟨g,cap,cur,hv,_⟩
  · omega
  · injection hv with e1;exact ⟨g,e1⟩
theorem kl_any {w:World} {b0:Nat} (h:MS w b0) (hBB:b0≤w.heap.size) {A0:Option Addr} {c0:Nat} {ls:List ByteArray} (hr0:Kd.C Kd.string w A0 ls.length ls) (hc0:ls.length≤c0) (e:Bool) (stop:Int) :
    Calls Tryz.prog 3 #[.slice A0 ls.length c0,.bool e,.int .i64 stop] w fun en w'=>en = .returned (.bool true)∧Below w.heap.size w w':=by
  obtain ⟨zb,⟨kz,hkz⟩,hzb⟩:=zz_ev ls
  have ZC:Hid (Calls Tryz.prog 8 #[.slice A0 ls.length c0] w fun e w'=>e = .returned (.bool zb)∧Drawn0 w w'):=hdd (laws_zzFits1.calls kz A0 c0 ls zb w hr0 hc0 (hkz kz (nlr _)))
  have HZ:=hdd hzb
  have HM:=hdd h;have HBB:=hdd hBB;have HR:=hdd hr0;have HC:=hdd hc0
  clear hkz hzb h hBB hr0 hc0
  cases zb with
  | false=>
    go_enter Tryz.func3,Tryz.ntmps3
    go_wp2_with (go_at_call 8;(with_reducible refine ZC.out.mono ?_);rintro en w1 ⟨rfl,hd⟩;obtain ⟨nd,rfl⟩:=of_drawn0 hd;clear hd)
    go_ret
    exact ⟨rfl,Below.drewNs (Below.refl _ _) _⟩
  | true =>
    obtain ⟨hl,hb⟩:=HZ.out rfl
    obtain ⟨r1,r2,r3,r4,r5,ok,⟨kg,hkg⟩,hG⟩:=gl_ev ls hl hb e
    have GC:Hid (∀ n:Nat,Calls Tryz.prog 9 #[.slice A0 ls.length c0,.bool e] (w.drewN n) fun en w'=>∃ v2_ v3_:Value,en = .returned (.tuple #[.agg #[.int .i64 r1,.string r2,v2_,v3_],.string r5,.bool ok])∧Kd.R Kd.string 9 w' (w.drewN n).heap.size (fun _=>True) v2_ r3∧Kd.R k26 26 w' (w.drewN n).heap.size (fun k_=>some k_≠(v2_:Value).ownBlock) v3_ r4∧Below (w.drewN n).heap.size (w.drewN n) w'):=hdd (fun n=>laws_gjLines.calls kg A0 c0 ls e r1 r2 r3 r4 r5 ok _ (Kd.C_below HR.out (Below.drewNs (Below.refl _ _) _)) HC.out (hkg kg (nlr _)))
    have HG:=hdd hG
    clear hkg hG hl hb
    cases ok with
    | false=>
      go_enter Tryz.func3,Tryz.ntmps3
      go_wp2_with (first | (go_at_call 8;(with_reducible refine ZC.out.mono ?_);rintro en w1 ⟨rfl,hd⟩;obtain ⟨nd,rfl⟩:=of_drawn0 hd;clear hd) | (go_at_call 9;(with_reducible refine (GC.out _).mono ?_);rintro en w2 ⟨v2,v3,rfl,hR2,hR3,hb1⟩;obtain ⟨A2,cc2,rfl,-⟩:=Kd.R_reads hR2;obtain ⟨A3,c3,rfl,-⟩:=Kd.R_reads hR3;have B1:=hdd hb1;clear hR2 hR3 hb1))
      go_ret
      exact ⟨rfl,((Below.drewNs (Below.refl _ _) _).trans B1.out).alloc B1.out.size _⟩
    | true =>
      obtain ⟨hX,hr5,hz⟩:=HG.out rfl
      obtain ⟨l,hT,hTX⟩:=tx_of e hX r5 0 0 (nlr _) (fun q h1 h2=>absurd h2 Yy0) (fun k hk=>by rw [hr5,Nat.zero_add]) (by rw [hr5,Nat.zero_add])
      obtain ⟨m,hm⟩:∃ m,m=if 0<stop∧stop<(r4.length:Int) then stop.toNat else r4.length:=⟨_,rfl⟩
      have SU:Hid (∀ L,RunL r5 (contS stop) [] l L→L.length=m∧m≤r4.length∧∀ (k:Nat) (a:RV×RV) (x:S26),L[k]? = some a→r4[k]? = some x→LG a.1 x):=hdd (fun L hL=>runl_sum hT hTX hm hL)
      have GK:Hid (∀ w4:World,MS w4 b0→b0≤w4.heap.size→Calls Tryz.prog 10 #[.string r5,.int .i64 stop] w4 (ColL (RunL r5 (contS stop) [] l) w4)):=hdd (fun w4 h1 h2=>gjlines_any h1 h2 r5 Yy0 stop l hT)
      have HMM:=hdd hm
      have N4:Hid (r4.length≤5000):=hdd (by
        have a1:=hTX.len
        have a2:=tx_few hT
        rw [Nat.zero_add] at a2
        omega)
      clear hX hr5 hz hT hTX hm HG HZ
      go_enter Tryz.func3,Tryz.ntmps3
      go_upto_region 6 with (first | (go_at_call 8;(with_reducible refine ZC.out.mono ?_);rintro en w1 ⟨rfl,hd⟩;obtain ⟨nd,rfl⟩:=of_drawn0 hd;clear hd) | (go_at_call 9;(with_reducible refine (GC.out _).mono ?_);rintro en w2 ⟨v2,v3,rfl,hR2,hR3,hb1⟩;obtain ⟨A2,cc2,rfl,-⟩:=Kd.R_reads hR2;obtain ⟨A4,c4,rfl,hl4,hC4⟩:=Kd.R_reads hR3;have B1:=hdd hb1;have C1:=hdd hC4;have L4:=hdd hl4;clear hR2 hR3 hb1 hC4 hl4))
      obtain ⟨nb,hnb⟩:∃ nb,w2.heap.size=nb:=⟨_,rfl⟩
      obtain ⟨wA,hwA⟩:∃ wA,w2.alloc (Obj.cells #[.int .i64 r1,.string r2,.slice A2 r3.length cc2,.slice A4 r4.length c4] 26)=wA:=⟨_,rfl⟩
      have bA:Hid (Below w.heap.size w wA):=hdd (by rw [← hwA];exact ((Below.drewNs (Below.refl _ _) _).trans B1.out).alloc B1.out.size _)
      have CA:Hid (Kd.C k26 wA A4 r4.length r4):=hdd (by rw [← hwA];exact Kd.C_alloc C1.out _)
      have ka:wA.cell? ⟨nb,3,none⟩=some (.slice A4 r4.length c4):=(by rw [← hwA,← hnb];simp [go_sem])
      rw [hwA]
      clear hwA
      go_upto_region 7 with (fail)
      clear ka
      have n4:(r4.length:Int)≤5000:=by have:=N4.out;omega
      obtain ⟨n,hn⟩:∃ n,r4.length=n:=⟨_,rfl⟩
      have NL:=hdd hn
      rw [hn] at n4 HMM L4
      try rw [hn]
      clear hn
      obtain ⟨bb,hbb⟩:∃ bb,bb=decide (0<stop∧stop<(n:Int)):=⟨_,rfl⟩
      have HB:=hdd hbb
      clear hbb
      go_cut [34] (fun v34 wc=>v34 = .bool bb∧Hid (wc=wA))
      case first=>
        by_cases h0:0<stop
        · have d0:decide (0<stop)=true:=dtt h0
          by_cases h1:stop<(n:Int)
          · have d1:decide (stop<(n:Int))=true:=dtt h1
            have hb1:bb=true:=by rw [HB.out];exact dtt ⟨h0,h1⟩
            subst hb1
            clear h0 h1
            go_wp2_with fail
            go_meet
            exact ⟨rfl,hdd rfl⟩
          · have d1:decide (stop<(n:Int))=false:=dff h1
            have hb1:bb=false:=by rw [HB.out];exact dff (fun h=>h1 h.2)
            subst hb1
            clear h0 h1
            go_wp2_with fail
            go_meet
            exact ⟨rfl,hdd rfl⟩
        · have d0:decide (0<stop)=false:=dff h0
          have hb1:bb=false:=by rw [HB.out];exact dff (fun h=>h0 h.1)
          subst hb1
          clear h0
          go_wp2_with fail
          go_meet
          exact ⟨rfl,hdd rfl⟩
      case rest =>
       obtain ⟨rfl,hwc⟩:=hcut
       obtain rfl:=hwc.out
       clear hwc
       go_upto_if 34 with (fail)
       go_cut [10] (fun v10 we=>v10 = .slice A4 m c4∧Hid (we=wc))
       case first=>
        cases bb with
        | true=>
          obtain ⟨h0,h1⟩:=of_decide_eq_true HB.out.symm
          have hm1:stop=(m:Int):=by have:=HMM.out;rw [if_pos ⟨h0,h1⟩] at this;omega
          subst hm1
          have hl:=L4.out
          have s1:(m:Int)≤(c4:Int):=Yy0
          obtain ⟨ad,_,_,_,_,hA4,-⟩:=at_T26 CA.out 0 (Int.le_refl _) (by have:=NL.out;omega)
          subst hA4
          go_wp2_with fail
          go_meet
          exact ⟨rfl,hdd rfl⟩
        | false=>
          have hm1:m=n:=by have:=HMM.out;rw [if_neg (of_decide_eq_false HB.out.symm)] at this;exact this
          subst hm1
          go_wp2_with fail
          go_meet
          exact ⟨rfl,hdd rfl⟩
       case rest=>
        obtain ⟨rfl,hwc⟩:=hcut
        obtain rfl:=hwc.out
        have m5:Hid (m≤5000):=hdd (by
          have:=HMM.out
          split at this <;> omega)
        go_upto_region 10 with (go_at_call 10;(with_reducible refine (GK.out wc (HM.out.below (bA.out.mono HBB.out)) (Nat.le_trans HBB.out bA.out.size)).mono ?_);rintro en w4 ⟨L,base1,v1,rfl,hR1,hown1,hb4⟩;obtain ⟨GA1,gc1,rfl⟩:=own_form hown1;have RL:=hdd hR1;have OW:=hdd hown1;have B4:=hdd (bA.out.trans (hb4.mono bA.out.size));have CA4:=hdd (Kd.C_below CA.out hb4);clear hR1 hown1 hb4)
        obtain ⟨hlen,hml,hfit⟩:=SU.out L RL.out
        have FIT:=hdd hfit;have NM:=hdd hlen;have HML:=hdd hml
        have m65:(m:Int)≤5000:=by have:=m5.out;omega
        rw [hlen] at OW ⊢
        clear hlen hml hfit
        go_wp2_with fail
        go_loopg [48] m (fun q v48 wr=>∃ k:Nat,v48 = .int .i64 (k:Int)∧Hid (k+q=m)∧Hid (Below w4.heap.size w4 wr))
        case atStart=>exact ⟨0,rfl,hdd Yy0,hdd (Below.refl _ _)⟩
        case round=>
          obtain ⟨k,rfl,hkm,hBr⟩:=hrel
          have hkn:k≤m:=by have:=hkm.out;omega
          rcases eol hkn with hx | hx
          · have t5:decide (k<m)=false:=dff Yy0
            clear hx hkn
            go_wp2_with fail
            go_ret
            exact ⟨rfl,B4.out.trans (hBr.out.mono B4.out.size)⟩
          · have t5:decide (k<m)=true:=dtt hx
            obtain ⟨a,ha⟩:∃ a,L[k]? = some a:=⟨_,List.getElem?_eq_getElem (by have:=NM.out;omega)⟩
            obtain ⟨x,hx4⟩:∃ x,r4[k]? = some x:=⟨_,List.getElem?_eq_getElem (by have:=HML.out;omega)⟩
            obtain ⟨f1,f2,f3,f4,f5⟩:=FIT.out k a x ha hx4
            obtain ⟨g1,rfl⟩:=line_own OW.out Yy0
            have hrd:rd_T26 r4 (k:Int)=x:=by unfold rd_T26;rw [Int.toNat_natCast,List.getD_eq_getElem?_getD,hx4];rfl
            obtain ⟨ad,A2',c2',A3',c3',e4,x0,x1,x2,x3,l2,i2,l3,i3⟩:=at_T26 CA4.out (k:Int) Yy0 (by have:=HML.out;omega)
            rw [hrd] at x0 x1 x2 x3 l2 i2 l3 i3
            rw [Int.toNat_natCast] at x0 x1 x2 x3
            subst e4
            obtain ⟨⟨ak,araw,astr,aq,aix⟩,av⟩:=a
            obtain ⟨n0,n1,n2,n3⟩:=x
            dsimp only at f1 f2 f3 f4 f5 x0 x1 x2 x3 l2 i2 l3 i3
            have GJ:Hid (∀ w',Below w4.heap.size w4 w'→Calls Tryz.prog 11 #[.agg #[.int .i64 ak,.string araw,.string astr,.float .f64 aq,.bool true],.agg #[.int .i64 n0,.string n1,.slice A2' n2.length c2',.slice A3' n3.length c3']] w' fun e w''=>e = .returned (.bool true)∧Below w'.heap.size w' w''):=hdd (fun w' hb=>gjis_any f1 f2 f3 f4 (Kd.C_below i2 hb) l2 (Kd.C_below i3 hb) l3)
            have c0:wr.drew.cell? ⟨g1,k * 5,none⟩=some (.int .i64 ak):=by
              refine cell_later_of hBr.out ?_
              show w4.cell? ⟨g1,k * 5+0,none⟩=_
              rw [OW.out.cellAt (k * 5+0) Yy0,line_cell ha 0 Yy0]
              rfl
            have c1:wr.drew.cell? ⟨g1,k * 5+1,none⟩=some (.string araw):=by
              refine cell_later_of hBr.out ?_
              show w4.cell? ⟨g1,k * 5+1,none⟩=_
              rw [OW.out.cellAt (k * 5+1) Yy0,line_cell ha 1 Yy0]
              rfl
            have c2:wr.drew.cell? ⟨g1,k * 5+2,none⟩=some (.string astr):=by
              refine cell_later_of hBr.out ?_
              show w4.cell? ⟨g1,k * 5+2,none⟩=_
              rw [OW.out.cellAt (k * 5+2) Yy0,line_cell ha 2 Yy0]
              rfl
            have c3:wr.drew.cell? ⟨g1,k * 5+3,none⟩=some (.float .f64 aq):=by
              refine cell_later_of hBr.out ?_
              show w4.cell? ⟨g1,k * 5+3,none⟩=_
              rw [OW.out.cellAt (k * 5+3) Yy0,line_cell ha 3 Yy0]
              rfl
            have c4:wr.drew.cell? ⟨g1,k * 5+4,none⟩=some (.bool true):=by
              refine cell_later_of hBr.out ?_
              show w4.cell? ⟨g1,k * 5+4,none⟩=_
              rw [OW.out.cellAt (k * 5+4) Yy0,line_cell ha 4 Yy0]
              rw [← f5]
              rfl
            have d0:wr.drew.cell? (ad.add (k * 4))=some (.int .i64 n0):=cell_later_of hBr.out x0
            have d1:wr.drew.cell? ⟨(ad.add (k * 4)).block,(ad.add (k * 4)).off+1,none⟩=some (.string n1):=cell_later_of hBr.out x1
            have d2:wr.drew.cell? ⟨(ad.add (k * 4)).block,(ad.add (k * 4)).off+2,none⟩=some (.slice A2' n2.length c2'):=cell_later_of hBr.out x2
            have d3:wr.drew.cell? ⟨(ad.add (k * 4)).block,(ad.add (k * 4)).off+3,none⟩=some (.slice A3' n3.length c3'):=cell_later_of hBr.out x3
            have kb:(k:Int)+1≤9223372036854775807:=Yy0
            have hkx:(k:Int)<(m:Int):=Yy0
            have hk0:0≤(k:Int):=Yy0
            clear ha hx4 hrd f1 f2 f3 f4 f5 x0 x1 x2 x3 l2 i2 l3 i3 hkn
            go_upto_region 15 with (fail)
            go_region_held3 (fun w'=>w'.cell? ⟨g1,k * 5,none⟩=some (.int .i64 ak)∧w'.cell? ⟨g1,k * 5+1,none⟩=some (.string araw)∧w'.cell? ⟨g1,k * 5+2,none⟩=some (.string astr)∧w'.cell? ⟨g1,k * 5+3,none⟩=some (.float .f64 aq)∧w'.cell? ⟨g1,k * 5+4,none⟩=some (.bool true)∧w'.cell? (ad.add (k * 4))=some (.int .i64 n0)∧w'.cell? ⟨(ad.add (k * 4)).block,(ad.add (k * 4)).off+1,none⟩=some (.string n1)∧w'.cell? ⟨(ad.add (k * 4)).block,(ad.add (k * 4)).off+2,none⟩=some (.slice A2' n2.length c2')∧w'.cell? ⟨(ad.add (k * 4)).block,(ad.add (k * 4)).off+3,none⟩=some (.slice A3' n3.length c3'))
              (first
                | with_reducible exact ⟨xc0,xc1,xc2,xc3,xc4,xd0,xd1,xd2,xd3⟩
                | with_reducible exact ⟨c0,c1,c2,c3,c4,d0,d1,d2,d3⟩)
              (first
                | (go_at_call 11;refine (GJ.out _ hBr.out.drew).mono ?_;rintro en wz ⟨rfl,hbz⟩;have xc0:=cellB hbz c0;have xc1:=cellB hbz c1;have xc2:=cellB hbz c2;have xc3:=cellB hbz c3;have xc4:=cellB hbz c4;have xd0:=cellB hbz d0;have xd1:=cellB hbz d1;have xd2:=cellB hbz d2;have xd3:=cellB hbz d3;have BZ:=hdd hbz;clear hbz))
            go_wp2_with fail
            go_roundg (gk - 1)
            case measure=>have:=hkm.out;omega
            case rel=>exact ⟨k+1,Yy5,hdd (by have:=hkm.out;omega),hdd (hBr.out.drew.trans (BZ.out.mono hBr.out.size))⟩
end Go.Proofs.YtieflhncpjjciaaGreatDoor.Dc
