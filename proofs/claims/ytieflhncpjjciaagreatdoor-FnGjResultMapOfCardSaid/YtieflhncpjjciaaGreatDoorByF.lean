/- Walks and plain laws of this claim. -/
import Derived.Shelf.Spec.EncodeRune
import Derived.Test.YtieflhncpjjciaaGreatDoorProg
import Derived.Test.YtieflhncpjjciaaGreatDoorByC
import Derived.Test.YtieflhncpjjciaaGreatDoorByD
import Derived.Lib.ConvBytes
import Derived.WalkSpells
import Derived.Lib.Strings
import Derived.Laws.BytesArg
import Derived.OwnWalk
import Derived.Carry
import Derived.Lib.EndianMore
import Derived.Deep.RegionHeld3
import Derived.Deep.AppendLies
import Derived.Test.YtieflhncpjjciaaGreatDoorByA
set_option maxHeartbeats 8000000
set_option maxRecDepth 100000
set_option linter.unusedVariables false
set_option linter.unusedSimpArgs false
namespace Go.Proofs
open Go.Proofs.YtieflhncpjjciaaGreatDoor
open Go.Shelf
def Tryz.lays7_30_ren:Go.Shelf.Ren:=⟨fun | 30=>86 | 47=>99 | n=>n,fun | 25=>132 | 27=>140 | 30=>69 | n=>n,fun | n=>n⟩
theorem Tryz.lays7_30:Lays7.n30 Tryz.prog Tryz.lays7_30_ren:={
 mixed:=Yy1
 f30:=Tryz.func86.trans (congrArg some Yy1)
 f47:=Tryz.func99.trans (congrArg some Yy1)
 t0:=Yy1
 a0:=fun _=>Yy1
 z0:=fun _=>Yy1
 v0:=fun _=>Yy1
 i0:=Yy1
 t3:=Yy1
 a3:=fun _=>Yy1
 z3:=fun _=>Yy1
 v3:=fun _=>Yy1
 i3:=Yy1
 t4:=Yy1
 a4:=fun _=>Yy1
 z4:=fun _=>Yy1
 v4:=fun _=>Yy1
 i4:=Yy1
 t5:=Yy1
 a5:=fun _=>Yy1
 z5:=fun _=>Yy1
 v5:=fun _=>Yy1
 i5:=Yy1
 t21:=Yy1
 a21:=fun _=>Yy1
 z21:=fun _=>Yy1
 v21:=fun _=>Yy1
 i21:=Yy1
 t25:=Yy1
 a25:=fun _=>Yy1
 z25:=fun _=>Yy1
 v25:=fun _=>Yy1
 i25:=Yy1
 t27:=Yy1
 a27:=fun _=>Yy1
 z27:=fun _=>Yy1
 v27:=fun _=>Yy1
 i27:=Yy1
 t30:=Yy1
 a30:=fun _=>Yy1
 z30:=fun _=>Yy1
 v30:=fun _=>Yy1
 i30:=by kernel_rfl }
theorem Tryz.utf8_EncodeRune (b off len cap:Nat) (r:Int) (hlo:-2147483648≤r) (hhi:r≤2147483647) (w:World) (hl:(Lib.runeCells r).length≤len)
  (hc:∀ j,j<(Lib.runeCells r).length→(w.cell? ⟨b,off+j,none⟩).isSome=true) (hf:∀ j,j<(Lib.runeCells r).length→w.frozen? ⟨b,off+j,none⟩=false) :
  Calls Tryz.prog 86 #[.slice (some ⟨b,off,none⟩) len cap,.int .i32 r] w fun e w'=>e = .returned (.int .i64 (Lib.runeCells r).length)∧w'=w.setCells b off (Lib.runeCells r):=
 Any7.utf8_EncodeRune Tryz.lays7_30 b off len cap r hlo hhi w hl hc hf
end Go.Proofs
namespace Go.Proofs.YtieflhncpjjciaaGreatDoor.Dc
open Go Go.RowKit Go.Proofs.YtieflhncpjjciaaGreatDoorW.PrintWords Go.Proofs.YtieflhncpjjciaaGreatDoor.PFnGjSquashItems
def hexV (c:Int):Int:=if c≤57 then c - 48 else if c≤70 then c - 55 else c - 87
def hexN (s:ByteArray) (p:Nat):Nat→Int
  | 0=>0
  | k+1=>hexN s p k * 16+hexV (bt s ((p+k:Nat):Int))
theorem isHex_cases {c:Int} (h:isHex c=true):(48≤c∧c≤57)∨(97≤c∧c≤102)∨(65≤c∧c≤70):=by
  simp only [isHex,Bool.or_eq_true,Bool.and_eq_true,decide_eq_true_eq] at h
  omega
theorem hexV_range {c:Int} (h:isHex c=true):0≤hexV c∧hexV c≤15:=by
  unfold hexV
  rcases isHex_cases h with h | h | h
  · rw [if_pos Yy0];omega
  · rw [if_neg Yy0,if_neg Yy0];omega
  · rw [if_neg Yy0,if_pos Yy0];omega
theorem hexN_range {s:ByteArray} {p:Nat}:∀ k,k≤4→(∀ q,q<k→isHex (bt s ((p+q:Nat):Int))=true)→0≤hexN s p k∧hexN s p k<65536∧(k≤3→hexN s p k<4096):=by
  have key:∀ k,(∀ q,q<k→isHex (bt s ((p+q:Nat):Int))=true)→0≤hexN s p k∧hexN s p k<(16:Int) ^ k:=by
    intro k
    induction k with
    | zero=>intro _;exact ⟨Int.le_refl _,by show (0:Int)<1;decide⟩
    | succ k ih=>
      intro h
      have h1:=ih fun q hq=>h q Yy0
      have h2:=hexV_range (h k Yy0)
      simp only [hexN,Int.pow_succ]
      omega
  intro k hk h
  have h1:=key k h
  rcases (show k=0∨k=1∨k=2∨k=3∨k=4 from Yy0) with rfl | rfl | rfl | rfl | rfl
  all_goals
    simp at h1
    omega
theorem low_af:∀ c:Fin 6,bits .or .u8 ((c.val+97:Nat):Int) 32=((c.val+97:Nat):Int):=Yy3
theorem low_AF:∀ c:Fin 6,bits .or .u8 ((c.val+65:Nat):Int) 32=((c.val+97:Nat):Int):=Yy3
theorem lower_hex {w:World} (c:Nat) (h:(97≤c∧c≤102)∨(65≤c∧c≤70)):Calls Tryz.prog 138 #[.int .u8 (c:Int)] w fun e w'=>e = .returned (.int .u8 (hexV (c:Int)+87))∧w'=w:=by
  refine (lower_any (w:=w) c).mono ?_
  rintro e w' ⟨rfl,rfl⟩
  refine ⟨?_,rfl⟩
  congr 2
  unfold hexV
  rcases h with h | h
  · have:=low_af ⟨c - 97,Yy0⟩
    have e:c - 97+97=c:=Yy0
    simp only [e] at this
    rw [this,if_neg Yy0,if_neg Yy0]
    omega
  · have:=low_AF ⟨c - 65,Yy0⟩
    have e:c - 65+65=c:=Yy0
    simp only [e] at this
    rw [this,if_neg Yy0,if_pos Yy0]
    omega
theorem pu_any {w:World} (s:ByteArray) (hs:s.size=4) (hx:∀ q,q<4→isHex (bt s ((0+q:Nat):Int))=true) :
    Calls Tryz.prog 123 #[.string s,.int .i64 16,.int .i64 64] w fun e w'=>e = .returned (.tuple #[.int .u64 (hexN s 0 4),.nilIface])∧Below w.heap.size w w':=by
  have HX:=hdd hx;clear hx
  have HS:=hdd hs
  have t0:¬ s=ByteArray.empty:=fun h=>by rw [h] at hs;exact absurd hs Yy3
  have hne : s.toList.isEmpty=false:=by
    rw [ByteArray.toList_eq]
    cases h:s.data.toList with
    | nil => have:s.data.toList.length=4:=by simpa using hs
             rw [h] at this;simp at this
    | cons a l=>rfl
  have cv:=Lib.run_convert_string_bytes w 9 69 5 s Tryz.underlying9 Tryz.underlying69 Tryz.underlying5
  have hB:Below w.heap.size w (Lib.bytesWorld w 5 s):=Joins.below_bytesWorld w.heap.size w 5 s (nlr _)
  have hc:∀ k:Nat,k<4→(Lib.bytesWorld w 5 s).cell? ⟨w.heap.size,k,none⟩=some (.int .u8 (bt s ((0+k:Nat):Int))):=fun k hk=>by
    rw [Lib.bytesWorld_cell w 5 s k Yy0,Nat.zero_add,PFnGjSquashItems.bt_at Yy0]
    congr 3
    rw [List.getD_eq_getElem?_getD,List.getElem?_eq_getElem (by simpa using (Yy0:k<s.size))]
    rfl
  rw [hs] at cv
  generalize Lib.bytesWorld w 5 s=W1 at cv hB hc
  generalize grownCap w 4 0 5=cp at cv
  have CV:=hdd cv;clear cv
  have HB:=hdd hB;clear hB
  have HC:=hdd hc;clear hc hs
  generalize hb:w.heap.size=B at CV HC HB
  have HBB:=hdd hb;clear hb
  go_enter Tryz.func123,Tryz.ntmps123
  go_upto_region 35 with (fail)
  have cv':=CV.out
  go_upto_block 3 with (fail)
  go_cut [12,13,101] (fun v12 v13 v101 wc=>v12 = .bool false∧v13 = .int .u64 (hexN s 0 4)∧wc=W1)
  case first=>
    go_wp2_with fail
    go_loopg [12,13,101] 4 (fun m v12 v13 v101 wc=>∃ k:Nat,v12 = .bool false∧v13 = .int .u64 (hexN s 0 k)∧v101 = .int .i64 (k:Int)∧Hid (k+m=4)∧Hid (wc=W1))
    case atStart=>exact ⟨0,rfl,rfl,rfl,hdd rfl,hdd rfl⟩
    case round=>
      obtain ⟨k,rfl,rfl,rfl,hk,hw⟩:=hrel
      have k0:0≤(k:Int):=Yy0
      by_cases hlt:k<4
      · have t1:decide ((k:Int)<4)=true:=dtt Yy0
        have kI:(k:Int)<4:=Yy0
        have hr:=hexN_range (s:=s) (p:=0) k Yy0 (fun q hq=>HX.out q Yy0)
        have hr':=hexN_range (s:=s) (p:=0) (k+1) Yy0 (fun q hq=>HX.out q Yy0)
        have hh:=HX.out k hlt
        obtain ⟨c,hcb⟩:∃ c:Nat,bt s ((0+k:Nat):Int)=(c:Int):=⟨(bt s ((0+k:Nat):Int)).toNat,by have:=(bt_range s ((0+k:Nat):Int)).1;omega⟩
        have gc:=HC.out k hlt
        rw [← hw.out,hcb] at gc
        have e1:hexN s 0 (k+1)=hexN s 0 k * 16+hexV (c:Int):=by rw [hexN,hcb]
        rw [hcb] at hh
        obtain ⟨n,hn⟩:∃ n,hexN s 0 k=n:=⟨_,rfl⟩
        rw [hn]
        rw [hn] at hr e1
        have n0:0≤n:=hr.1
        have n1:n<4096:=hr.2.2 Yy0
        have hv:=hexV_range hh
        obtain ⟨v,hv'⟩:∃ v,hexV (c:Int)=v:=⟨_,rfl⟩
        rw [hv'] at hv e1
        have v0:0≤v:=hv.1
        have v1:v≤15:=hv.2
        have E1:=hdd e1
        have HV:=hdd hv'
        have HH:=hdd hh
        clear e1 hv' hh hr hr' hn hcb hv
        have q1:decide ((16:Int)≤v)=false:=dff Yy0
        have q2:decide (1152921504606846976≤n)=false:=dff Yy0
        have q3:decide (n * 16+v<n * 16)=false:=dff Yy0
        have q4:decide (IntKind.u64.wrap (IntKind.u64.wrap 18446744073709551616 - 1)<n * 16+v)=false:=dff (by rw [show IntKind.u64.wrap (IntKind.u64.wrap 18446744073709551616 - 1)=18446744073709551615 from Yy3];omega)
        by_cases dg:c≤57
        · have c48:48≤c:=by rcases isHex_cases HH.out with h | h | h <;> omega
          have p95:((c:Int) == 95)=false:=bfo Yy0
          have p1:decide ((48:Int)≤(c:Int))=true:=dtt Yy0
          have p2:decide ((c:Int)≤57)=true:=dtt Yy0
          have vd:(c:Int) - 48=v:=by rw [← HV.out,hexV,if_pos Yy0]
          have c48':(48:Int)≤(c:Int):=Yy0
          have c57':(c:Int)≤57:=Yy0
          go_wp2_with fail
          go_roundg (gk - 1)
          case measure=>have:=hk.out;omega
          case rel=>exact ⟨k+1,rfl,by rw [E1.out],Yy6,hdd Yy38,hw⟩
        · have hl:(97≤c∧c≤102)∨(65≤c∧c≤70):=by rcases isHex_cases HH.out with h | h | h <;> omega
          have p95:((c:Int) == 95)=false:=bfo Yy0
          have p1:decide ((48:Int)≤(c:Int))=true:=dtt Yy0
          have p2:decide ((c:Int)≤57)=false:=dff Yy0
          have LH:=lower_hex (w:=wr) c hl
          rw [HV.out] at LH
          have v10:10≤v:=by rw [← HV.out,hexV];split;omega;split <;> omega
          obtain ⟨L,hL⟩:∃ L,v+87=L:=⟨_,rfl⟩
          rw [hL] at LH
          have l1:decide ((97:Int)≤L)=true:=dtt Yy0
          have l2:decide (L≤122)=true:=dtt Yy0
          have l3:(97:Int)≤L:=Yy0
          have l4:L≤102:=Yy0
          obtain ⟨y,hy⟩:∃ y,L - 97=y:=⟨_,rfl⟩
          have y0:0≤y:=Yy0
          have y1:y≤5:=Yy0
          have hyv:y+10=v:=Yy0
          have LH':=hdd LH;clear LH hL
          go_wp2_with (go_at_call 138;refine LH'.out.mono ?_;rintro e w' ⟨rfl,rfl⟩)
          go_roundg (gk - 1)
          case measure=>have:=hk.out;omega
          case rel=>exact ⟨k+1,rfl,by rw [E1.out],Yy6,hdd Yy38,hw⟩
      · have t1:decide ((k:Int)<4)=false:=dff Yy0
        obtain rfl:k=4:=Yy38
        go_wp2_with fail
        go_meet
        exact ⟨rfl,rfl,hw.out⟩
  case rest=>
    obtain ⟨rfl,rfl,rfl⟩:=hcut
    go_wp2_with fail
    go_ret2
    exact ⟨rfl,HB.out⟩
theorem spu_any {w:World} (s:ByteArray) (hs:s.size=4) (hx:∀ q,q<4→isHex (bt s ((0+q:Nat):Int))=true) :
  Calls Tryz.prog 98 #[.string s,.int .i64 16,.int .i64 64] w fun e w'=>e = .returned (.tuple #[.int .u64 (hexN s 0 4),.nilIface])∧Below w.heap.size w w':=by
 have P:=hdd (pu_any (w:=w) s hs hx)
 obtain ⟨n,hn⟩:∃ n,hexN s 0 4=n:=⟨_,rfl⟩
 rw [hn] at P ⊢
 clear hs hx hn
 go_enter Tryz.func98,Tryz.ntmps98
 go_wp2_with (go_at_call 123;refine P.out.mono ?_;rintro e w' ⟨rfl,hb⟩;have HB:=hdd hb;clear hb)
 go_ret2
 exact ⟨rfl,HB.out⟩
theorem bt_extract {s:ByteArray} {i j k:Nat} (h:j≤s.size) (hk:i+k<j):bt (s.extract i j) (k:Int)=bt s ((i+k:Nat):Int):=by
 have h1:(s.extract i j).size=j - i:=Yy13
 rw [PFnGjSquashItems.bt_at (i:=k) Yy0,PFnGjSquashItems.bt_at (i:=i+k) Yy0,ByteArray.getElem_extract]
theorem hexN_extract {s:ByteArray} {i j:Nat} (h:j≤s.size):∀ k p,i+p+k≤j→hexN (s.extract i j) p k=hexN s (i+p) k:=by
 intro k
 induction k with
 | zero=>intro p _;rfl
 | succ k ih=>
  intro p hp
  rw [hexN,hexN,ih p Yy0,bt_extract h Yy0,show i+(p+k)=i+p+k from Yy0]
theorem runeit_any {w:World} (s:ByteArray) (hs:4≤s.size) (hm:s.size≤65536) (hx:∀ q,q<4→isHex (bt s ((0+q:Nat):Int))=true) :
  Calls Tryz.prog 83 #[.string s] w fun e w'=>e = .returned (.int .i32 (hexN s 0 4))∧Below w.heap.size w w':=by
 have P:=hdd (spu_any (w:=w) (s.extract 0 4) Yy13 (fun q hq=>by rw [Nat.zero_add,bt_extract hs Yy0];exact hx q hq))
 have he:=hexN_extract (s:=s) (i:=0) (j:=4) hs 4 0 Yy0
 rw [he] at P
 have hr:=hexN_range (s:=s) (p:=0) 4 (nlr _) hx
 obtain ⟨n,hn⟩:∃ n,hexN s 0 4=n:=⟨_,rfl⟩
 rw [show (0:Nat)+0=0 from rfl,hn] at P
 rw [hn] at hr ⊢
 have n0:0≤n:=hr.1
 have n1:n<65536:=hr.2.1
 have s4:(4:Int)≤(s.size:Int):=Yy0
 clear hn hx he hr
 go_enter Tryz.func83,Tryz.ntmps83
 go_wp2_with (go_at_call 98;refine P.out.mono ?_;rintro e w' ⟨rfl,hb⟩;have HB:=hdd hb;clear hb)
 go_ret
 exact ⟨rfl,HB.out⟩
def isSur (n:Int):Bool:=decide (55296≤n) && decide (n<57344)
theorem issur_any {w:World} (n:Int) (n0:0≤n) (n1:n<65536):Calls Tryz.prog 84 #[.int .i32 n] w fun e w'=>e = .returned (.bool (isSur n))∧w'=w:=by
 by_cases h1:55296≤n
 ·
  have t1:decide (55296≤n)=true:=dtt h1
  have hr:isSur n=decide (n<57344):=by simp [isSur,h1]
  rw [hr]
  clear hr h1
  go_enter Tryz.func84,Tryz.ntmps84
  go_wp2_with fail
  go_ret
  exact ⟨rfl,rfl⟩
 ·
  have t1:decide (55296≤n)=false:=dff h1
  have hr:isSur n=false:=by simp [isSur,h1]
  rw [hr]
  clear hr h1
  go_enter Tryz.func84,Tryz.ntmps84
  go_wp2_with fail
  go_ret
  exact ⟨rfl,rfl⟩
def decR (n m:Int):Int:=if 55296≤n∧n<56320∧56320≤m∧m<57344 then (n - 55296) * 1024+(m - 56320)+65536 else 65533
theorem i32_or (x y:Nat) (hx:x<1024) (hy:y<1024):bits .or .i32 ((x * 1024:Nat):Int) (y:Int)=((x * 1024+y:Nat):Int):=by
 have h1:x * 1024 ||| y=x * 1024+y:=by
  have:=Nat.shiftLeft_add_eq_or_of_lt (b:=y) (i:=10) Yy0 x
  rw [Nat.shiftLeft_eq] at this
  exact this.symm
 have e1:(BitVec.ofInt 32 ((x * 1024:Nat):Int)).toNat=x * 1024:=Yy12
 have e2:(BitVec.ofInt 32 (y:Int)).toNat=y:=Yy12
 have e3:(BitVec.ofInt 32 ((x * 1024:Nat):Int) ||| BitVec.ofInt 32 (y:Int)).toNat=x * 1024+y:=by rw [BitVec.toNat_or,e1,e2,h1]
 show IntKind.i32.wrap (((BitVec.ofInt 32 ((x * 1024:Nat):Int) ||| BitVec.ofInt 32 (y:Int)).toNat:Nat):Int)=_
 rw [e3]
 simp [IntKind.wrap,IntKind.bits,IntKind.signed]
 omega
theorem decr_any {w:World} (n m:Int) (n0:0≤n) (n1:n<65536) (m0:0≤m) (m1:m<65536):Calls Tryz.prog 85 #[.int .i32 n,.int .i32 m] w fun e w'=>e = .returned (.int .i32 (decR n m))∧w'=w:=by
 by_cases h1:55296≤n
 ·
  have t1:decide (55296≤n)=true:=dtt h1
  by_cases h2:n<56320
  ·
   have t2:decide (n<56320)=true:=dtt h2
   by_cases h3:56320≤m
   ·
    have t3:decide (56320≤m)=true:=dtt h3
    by_cases h4:m<57344
    ·
     have t4:decide (m<57344)=true:=dtt h4
     have hr:decR n m=(n - 55296) * 1024+(m - 56320)+65536:=by rw [decR,if_pos ⟨h1,h2,h3,h4⟩]
     rw [hr]
     clear hr
     obtain ⟨x,hx⟩:∃ x:Nat,n - 55296=(x:Int):=⟨(n - 55296).toNat,Yy0⟩
     obtain ⟨y,hy⟩:∃ y:Nat,m - 56320=(y:Int):=⟨(m - 56320).toNat,Yy0⟩
     have ho:=i32_or x y Yy0 Yy0
     have ho':bits .or .i32 ((x:Int) * 1024) (y:Int)=(x:Int) * 1024+(y:Int):=by simpa using ho
     clear ho
     rw [hx,hy]
     have x0:0≤(x:Int):=Yy0
     have x1:(x:Int)<1024:=Yy0
     have y0:0≤(y:Int):=Yy0
     have y1:(y:Int)<1024:=Yy0
     go_enter Tryz.func85,Tryz.ntmps85
     go_wp2_with fail
     go_ret
     exact ⟨rfl,rfl⟩
    ·
     have t4:decide (m<57344)=false:=dff h4
     have hr:decR n m=65533:=by rw [decR,if_neg Yy0]
     rw [hr]
     clear hr
     go_enter Tryz.func85,Tryz.ntmps85
     go_wp2_with fail
     go_ret
     exact ⟨rfl,rfl⟩
   ·
    have t3:decide (56320≤m)=false:=dff h3
    have hr:decR n m=65533:=by rw [decR,if_neg Yy0]
    rw [hr]
    clear hr
    go_enter Tryz.func85,Tryz.ntmps85
    go_wp2_with fail
    go_ret
    exact ⟨rfl,rfl⟩
  ·
   have t2:decide (n<56320)=false:=dff h2
   have hr:decR n m=65533:=by rw [decR,if_neg Yy0]
   rw [hr]
   clear hr
   go_enter Tryz.func85,Tryz.ntmps85
   go_wp2_with fail
   go_ret
   exact ⟨rfl,rfl⟩
 ·
  have t1:decide (55296≤n)=false:=dff h1
  have hr:decR n m=65533:=by rw [decR,if_neg Yy0]
  rw [hr]
  clear hr
  go_enter Tryz.func85,Tryz.ntmps85
  go_wp2_with fail
  go_ret
  exact ⟨rfl,rfl⟩
theorem decR_range (n m:Int) (n0:0≤n) (n1:n<65536):0≤decR n m∧decR n m≤1114111:=by
 unfold decR;split <;> omega
def shortB (c:Int):Int:=if c=98 then 8 else if c=102 then 12 else if c=110 then 10 else if c=114 then 13 else if c=116 then 9 else c
def hex4 (u:ByteArray) (p:Nat):Prop:=∀ q,q<4→isHex (bt u ((p+q:Nat):Int))=true
inductive Un (u:ByteArray):Nat→List Int→Prop
 | nil:Un u u.size []
 | plain {p:Nat} {o:List Int} (h:p<u.size) (c32:32≤bt u (p:Int)) (c92:bt u (p:Int)≠92) (r:Un u (p+1) o):Un u p (bt u (p:Int) :: o)
 | short {p:Nat} {o:List Int} (h:p+1<u.size) (h92:bt u (p:Int)=92)
   (hs:bt u ((p+1:Nat):Int)=34∨bt u ((p+1:Nat):Int)=92∨bt u ((p+1:Nat):Int)=47∨bt u ((p+1:Nat):Int)=98∨bt u ((p+1:Nat):Int)=102∨bt u ((p+1:Nat):Int)=110∨bt u ((p+1:Nat):Int)=114∨bt u ((p+1:Nat):Int)=116)
   (r:Un u (p+2) o):Un u p (shortB (bt u ((p+1:Nat):Int)) :: o)
 | uni {p:Nat} {o:List Int} (h:p+6≤u.size) (h92:bt u (p:Int)=92) (h117:bt u ((p+1:Nat):Int)=117) (hx:hex4 u (p+2)) (hn:isSur (hexN u (p+2) 4)=false)
   (r:Un u (p+6) o):Un u p (Lib.encodeRuneZ (hexN u (p+2) 4) ++ o)
 | pair {p:Nat} {o:List Int} (h:p+12≤u.size) (h92:bt u (p:Int)=92) (h117:bt u ((p+1:Nat):Int)=117) (hx:hex4 u (p+2)) (hn:isSur (hexN u (p+2) 4)=true)
   (g92:bt u ((p+6:Nat):Int)=92) (g117:bt u ((p+7:Nat):Int)=117) (gx:hex4 u (p+8))
   (r:Un u (p+12) o):Un u p (Lib.encodeRuneZ (decR (hexN u (p+2) 4) (hexN u (p+8) 4)) ++ o)
 | lone {p:Nat} {o:List Int} (h:p+6≤u.size) (h92:bt u (p:Int)=92) (h117:bt u ((p+1:Nat):Int)=117) (hx:hex4 u (p+2)) (hn:isSur (hexN u (p+2) 4)=true)
   (hg:¬ (p+12≤u.size∧bt u ((p+6:Nat):Int)=92∧bt u ((p+7:Nat):Int)=117))
   (r:Un u (p+6) o):Un u p (Lib.encodeRuneZ (hexN u (p+2) 4) ++ o)
theorem Un.le {u:ByteArray} {p:Nat} {o:List Int} (h:Un u p o):p≤u.size:=by
 cases h <;> omega
theorem _root_.Go.Proofs.YtieflhncpjjciaaGreatDoor.PFnGjSquashItems.Tk.inv92 {s:ByteArray} {e i:Nat} (h:Tk s e i) (hi:i<e) (h92:bt s (i:Int)=92):∃ j,EscAt s (i+1) j∧j≤e∧Tk s e j:=by
 cases h with
 | nil=>omega
 | plain _ _ _ c92 _=>exact absurd h92 c92
 | esc _ hj hje r=>exact ⟨_,hj,hje,r⟩
theorem un_ex {u:ByteArray}:∀ m p,u.size - p≤m→Tk u u.size p→∃ o,Un u p o:=by
 intro m
 induction m with
 | zero=>
  intro p hm h
  cases h with
  | nil=>exact ⟨[],.nil⟩
  | plain h _ _ _ _=>omega
  | esc h92 hj hje r=>have:=bt_in h92 Yy3;omega
 | succ m ih=>
  intro p hm h
  cases h with
  | nil=>exact ⟨[],.nil⟩
  | plain h c32 c34 c92 r=>
   obtain ⟨o,ho⟩:=ih (p+1) Yy0 r
   exact ⟨_,.plain h c32 c92 ho⟩
  | @esc _ j h92 hj hje r=>
   rcases hj with ⟨rfl,hs⟩ | ⟨rfl,h117,hx⟩
   ·
    obtain ⟨o,ho⟩:=ih (p+2) Yy0 r
    exact ⟨_,.short Yy0 h92 hs ho⟩
   ·
    have hx4:hex4 u (p+2):=fun q hq=>hx (p+2+q) Yy0 Yy0
    have r':Tk u u.size (p+6):=r
    cases hn:isSur (hexN u (p+2) 4) with
    | false=>
     obtain ⟨o,ho⟩:=ih (p+6) Yy0 r'
     exact ⟨_,.uni Yy0 h92 h117 hx4 hn ho⟩
    | true=>
     by_cases hg:p+12≤u.size∧bt u ((p+6:Nat):Int)=92∧bt u ((p+7:Nat):Int)=117
     ·
      obtain ⟨g1,g2,g3⟩:=hg
      obtain ⟨j2,kj,kje,kr⟩:=r'.inv92 Yy0 g2
      rcases kj with ⟨rfl,hs⟩ | ⟨rfl,k117,kx⟩
      ·
       exfalso
       have g3':bt u ((p+6+1:Nat):Int)=117:=g3
       omega
      ·
       obtain ⟨o,ho⟩:=ih (p+12) Yy0 kr
       exact ⟨_,.pair g1 h92 h117 hx4 hn g2 g3 (fun q hq=>kx (p+8+q) Yy0 Yy0) ho⟩
     ·
      obtain ⟨o,ho⟩:=ih (p+6) Yy0 r'
      exact ⟨_,.lone Yy0 h92 h117 hx4 hn hg ho⟩
theorem tk_shift {s:ByteArray} {e a:Nat} (he:e≤s.size):∀ i,Tk s e i→a≤i→Tk (s.extract a e) (e - a) (i - a):=by
 intro i h
 have hbt:∀ k,a≤k→k<e→bt (s.extract a e) ((k - a:Nat):Int)=bt s (k:Int):=fun k h1 h2=>by
  rw [bt_extract he Yy0,show a+(k - a)=k from Yy0]
 induction h with
 | nil=>intro _;exact .nil
 | @plain i h c32 c34 c92 r ih=>
  intro ha
  have e1:=hbt i ha h
  have:=ih Yy0
  exact .plain Yy0 (by rw [e1];exact c32) (by rw [e1];exact c34) (by rw [e1];exact c92) (by rw [show i - a+1=i+1 - a from Yy0];exact this)
 | @esc i j h92 hj hje r ih=>
  intro ha
  have hij:i+1<j:=Yy64
  have e1:=hbt i ha Yy0
  have e2:=hbt (i+1) Yy0 Yy0
  have h3:=ih Yy0
  have s1:i - a+1=i+1 - a:=Yy0
  refine .esc (j:=j - a) (by rw [e1];exact h92) ?_ Yy0 h3
  rw [s1]
  rcases hj with ⟨h1,h2⟩ | ⟨h1,h2,h4⟩
  ·
   refine .inl ⟨Yy0,?_⟩
   rw [e2]
   exact h2
  ·
   refine .inr ⟨Yy0,by rw [e2];exact h2,fun q q1 q2=>?_⟩
   have:=hbt (q+a) Yy0 Yy0
   rw [show q+a - a=q from Yy0] at this
   rw [this]
   exact h4 (q+a) Yy0 Yy0
theorem tok_un {s:ByteArray} {i j:Nat} (h:StrTok s i j):∃ o,Un (s.extract (i+1) (j - 1)) 0 o:=by
 have h1:=h.1.1
 have h2:=h.1.2.1
 have h3:=tk_shift (a:=i+1) Yy0 (i+1) h.2 (nlr _)
 have hz:(s.extract (i+1) (j - 1)).size=j - 1 - (i+1):=Yy13
 rw [← hz,Nat.sub_self] at h3
 exact un_ex _ 0 (nlr _) h3
theorem Un.fn {u:ByteArray} {p:Nat} {o o':List Int} (h:Un u p o) (k:Un u p o'):o=o':=by
 induction h generalizing o' with
 | nil=>cases k <;> first | rfl | omega
 | plain h c32 c92 r ih=>
  cases k with
  | nil=>omega
  | plain _ _ _ r'=>rw [ih r']
  | short _ h92 _ _=>exact absurd h92 c92
  | uni _ h92 _ _ _ _=>exact absurd h92 c92
  | pair _ h92 _ _ _ _ _ _ _=>exact absurd h92 c92
  | lone _ h92 _ _ _ _ _=>exact absurd h92 c92
 | short h h92 hs r ih=>
  cases k with
  | nil=>omega
  | plain _ _ c92 _=>exact absurd h92 c92
  | short _ _ _ r'=>rw [ih r']
  | uni _ _ h117 _ _ _=>omega
  | pair _ _ h117 _ _ _ _ _ _=>omega
  | lone _ _ h117 _ _ _ _=>omega
 | uni h h92 h117 hx hn r ih=>
  cases k with
  | nil=>omega
  | plain _ _ c92 _=>exact absurd h92 c92
  | short _ _ hs _=>omega
  | uni _ _ _ _ _ r'=>rw [ih r']
  | pair _ _ _ _ hn' _ _ _ _=>rw [hn] at hn';exact absurd hn' Yy3
  | lone _ _ _ _ hn' _ _=>rw [hn] at hn';exact absurd hn' Yy3
 | pair h h92 h117 hx hn g92 g117 gx r ih=>
  cases k with
  | nil=>omega
  | plain _ _ c92 _=>exact absurd h92 c92
  | short _ _ hs _=>omega
  | uni _ _ _ _ hn' _=>rw [hn] at hn';exact absurd hn' Yy3
  | pair _ _ _ _ _ _ _ _ r'=>rw [ih r']
  | lone _ _ _ _ _ hg _=>exact absurd ⟨h,g92,g117⟩ hg
 | lone h h92 h117 hx hn hg r ih=>
  cases k with
  | nil=>omega
  | plain _ _ c92 _=>exact absurd h92 c92
  | short _ _ hs _=>omega
  | uni _ _ _ _ hn' _=>rw [hn] at hn';exact absurd hn' Yy3
  | pair h' _ _ _ _ g92 g117 _ _=>exact absurd ⟨h',g92,g117⟩ hg
  | lone _ _ _ _ _ _ r'=>rw [ih r']
theorem info5:(Tryz.prog.info? 5).map (fun i=>(i.zero,i.size,i.bytes))=some (some (.int .u8 0),1,1):=Yy1
def Ow (B:Nat) (w:World) (v:Value) (d:List Int):Prop:=w.ownsRow B 5 1 v d.length (d.map (Value.int .u8))
theorem Ow.block {B:Nat} {w:World} {v:Value} {d:List Int} (h:Ow B w v d):∀ k,v.ownBlock=some k→B≤k:=by
  intro k hk
  rcases h.2 with ⟨rfl,_⟩ | ⟨g,cap,cur,rfl,hg,_⟩
  · simp [Value.ownBlock] at hk
  · simp [Value.ownBlock] at hk;omega
theorem Ow.app {B:Nat} {w wr w1:World} {v v':Value} {d:List Int} {x:Int} (hown:Ow B wr v d) (hb:Below B w wr) (hB:B≤wr.heap.size) (o:Obj)
    (h1:w1.ownsRow B 5 1 v' (d.length+1) (d.map (Value.int .u8) ++ [.int .u8 x])) (hg:(wr.alloc o).grownBy w1 v.ownBlock):Ow B w1 v' (d ++ [x])∧Below B w w1:=by
  refine ⟨by unfold Ow;simpa using h1,(hb.alloc hB o).grown hg Yy12 hown.block⟩
theorem Ow.below {B:Nat} {w w':World} {v:Value} {d:List Int} (h:Ow B w v d) (hb:Below w.heap.size w w'):Ow B w' v d:=by
  refine ⟨h.1,?_⟩
  rcases h.2 with h | ⟨g,cap,cur,h1,h2,h3,h4⟩
  · exact .inl h
  · refine .inr ⟨g,cap,cur,h1,h2,?_,h4⟩
    rw [hb.block g ?_,h3]
    rcases Nat.lt_or_ge g w.heap.size with h | h
    · exact h
    · rw [Array.getElem?_eq_none h] at h3;cases h3
theorem Un.inv {u:ByteArray} {p:Nat} {o:List Int} (h:Un u p o):(p=u.size∧o = [])∨(∃ o',p<u.size∧32≤bt u (p:Int)∧bt u (p:Int)≠92∧Un u (p+1) o'∧o=bt u (p:Int) :: o') ∨
    (∃ o',p+1<u.size∧bt u (p:Int)=92∧(bt u ((p+1:Nat):Int)=34∨bt u ((p+1:Nat):Int)=92∨bt u ((p+1:Nat):Int)=47∨bt u ((p+1:Nat):Int)=98∨bt u ((p+1:Nat):Int)=102∨bt u ((p+1:Nat):Int)=110∨bt u ((p+1:Nat):Int)=114∨bt u ((p+1:Nat):Int)=116) ∧
      Un u (p+2) o'∧o=shortB (bt u ((p+1:Nat):Int)) :: o') ∨
    (p + 6≤u.size∧bt u (p:Int)=92∧bt u ((p+1:Nat):Int)=117∧hex4 u (p+2) ∧
      ((isSur (hexN u (p+2) 4)=false∧∃ o',Un u (p+6) o'∧o=Lib.encodeRuneZ (hexN u (p+2) 4) ++ o') ∨
       (isSur (hexN u (p+2) 4)=true∧p+12≤u.size∧bt u ((p+6:Nat):Int)=92∧bt u ((p+7:Nat):Int)=117∧hex4 u (p+8)∧∃ o',Un u (p+12) o'∧o=Lib.encodeRuneZ (decR (hexN u (p+2) 4) (hexN u (p+8) 4)) ++ o') ∨
       (isSur (hexN u (p+2) 4)=true∧¬ (p+12≤u.size∧bt u ((p+6:Nat):Int)=92∧bt u ((p+7:Nat):Int)=117)∧∃ o',Un u (p+6) o'∧o=Lib.encodeRuneZ (hexN u (p+2) 4) ++ o'))):=by
  cases h with
  | nil=>exact .inl ⟨rfl,rfl⟩
  | plain h c32 c92 r=>exact .inr (.inl ⟨_,h,c32,c92,r,rfl⟩)
  | short h h92 hs r=>exact .inr (.inr (.inl ⟨_,h,h92,hs,r,rfl⟩))
  | uni h h92 h117 hx hn r=>exact .inr (.inr (.inr ⟨h,h92,h117,hx,.inl ⟨hn,_,r,rfl⟩⟩))
  | pair h h92 h117 hx hn g92 g117 gx r=>exact .inr (.inr (.inr ⟨Yy0,h92,h117,hx,.inr (.inl ⟨hn,h,g92,g117,gx,_,r,rfl⟩)⟩))
  | lone h h92 h117 hx hn hg r=>exact .inr (.inr (.inr ⟨h,h92,h117,hx,.inr (.inr ⟨hn,hg,_,r,rfl⟩)⟩))
theorem conv_own {B:Nat} {w:World} {v:Value} {d:List Int} (h:Ow B w v d):(convert 69 9 v).run Tryz.prog w = .ok (.string (strOfNums d)) w:=by
  rcases h.2 with ⟨rfl,h0⟩ | ⟨g,cap,cur,rfl,h2,h3,h4,h5,h6,h7⟩
  · have:d = []:=List.length_eq_zero_iff.mp h0
    subst this
    exact run_convert_bytes_nil w 69 5 Tryz.underlying69 Tryz.underlying5 0 0 9 Tryz.underlying9
  · refine run_convert_bytes_arg w 69 5 Tryz.underlying69 Tryz.underlying5 g 0 d.length cap d rfl (fun i hi=>?_) 9 Tryz.underlying9
    have h8:cur[i]? = some (.int .u8 (d.getD i 0)):=by
      have h9:(cur.toList.take (d.length * 1))[i]? = some (.int .u8 (d.getD i 0)):=by
        rw [h7,List.getElem?_map,List.getD_eq_getElem?_getD,List.getElem?_eq_getElem hi];rfl
      rw [List.getElem?_take,if_pos Yy0] at h9
      simpa using h9
    simp [World.cell?,h3,h8]
theorem cells_new (w:World) (C:List Value) (t:TypeId):∀ j u,C[j]? = some u→(w.alloc (.cells C.toArray t)).cell? ((⟨w.heap.size,0,none⟩:Addr).add j)=some u:=by
 intro j u h
 have hplain:(⟨w.heap.size,0,none⟩:Addr).add j=⟨w.heap.size,j,none⟩:=by unfold Addr.add;split <;> simp_all
 rw [hplain]
 have hb:(w.alloc (Obj.cells C.toArray t)).heap[w.heap.size]? = some (.cells C.toArray t (0,0)):=Array.getElem?_push_size
 simp only [World.cell?,hb]
 simpa using h
theorem unesc_any {w:World} (u:ByteArray) (hu:u.size≤65536) (O:List Int) (h:Un u 0 O) :
  Calls Tryz.prog 61 #[.string u] w fun e w'=>e = .returned (.string (strOfNums O))∧Below w.heap.size w w':=by
 obtain ⟨i0,hi,hz0,hz1,hz2⟩:=info_parts info5
 have HI:=hdd hi;have HZ0:=hdd hz0;have HZ1:=hdd hz1;have HZ2:=hdd hz2
 clear hi hz0 hz1 hz2
 have HU:=hdd h;clear h
 have su:(u.size:Int)≤65536:=Yy0
 obtain ⟨B,hB⟩:∃ B,w.heap.size=B:=⟨_,rfl⟩
 have HB:=hdd hB;clear hB
 go_enter Tryz.func61,Tryz.ntmps61
 go_upto_region 1 with (fail)
 go_wp2_with (refine wpList_make_own _ rfl _ _ 69 rfl B 5 i0 (.int .u8 0) 1 Tryz.underlying69 HI.out HZ0.out HZ1.out .i64 .i64 _ u.size rfl rfl rfl ?m1 ?m2 ?m3 ?_)
 case m1=>rw [HZ2.out];omega
 case m2=>unfold maxLen;omega
 case m3=>rw [HB.out];exact nlr _
 intro w1 hown1 hgrow1
 have H1:Hid (Ow B w1 (.slice (some ⟨w.heap.size,0,none⟩) 0 u.size) []):=hdd hown1
 have B1:Hid (Below B w w1):=hdd ((Below.refl B w).grown hgrow1 (by rw [HB.out];exact nlr _) (fun k hk=>by cases hk))
 clear hown1 hgrow1
 go_wp2_with fail
 go_loopg [3,4] u.size (fun m v3 v4 wr=>∃ (p:Nat) (d o:List Int),v4 = .int .i64 (p:Int)∧Hid (p+m=u.size)∧Hid (Ow B wr v3 d)∧Hid (Un u p o)∧Hid (d ++ o=O)∧Hid (d.length≤p)∧Hid (Below B w wr))
 case atStart=>exact ⟨0,[],O,rfl,hdd Yy0,H1,HU,hdd rfl,hdd (nlr _),B1⟩
 case round=>
  clear H1 B1
  obtain ⟨p,d,o,rfl,hp,hown,hun,hO,hdl,hbel⟩:=hrel
  have p0:0≤(p:Int):=Yy0
  have p1:(p:Int)≤65536:=by have:=hp.out;omega
  have hBr:Hid (B≤wr.heap.size):=hdd (by have:=hbel.out.size;rw [HB.out] at this;exact this)
  rcases hun.out.inv with ⟨e1,e2⟩ | ⟨o',hlt,c32,c92,hr,ho⟩ | ⟨o',hlt,c92,hs,hr,ho⟩ | ⟨hlt,c92,c117,hx,hr⟩
  ·
   have t1:decide (p<u.size)=false:=dff Yy0
   have E1:=hdd e1;have E2:=hdd e2
   clear e1 e2
   have hc:=conv_own hown.out
   go_wp2_with fail
   go_ret
   refine ⟨?_,by rw [HB.out];exact hbel.out⟩
   have:=hO.out
   rw [E2.out,List.append_nil] at this
   show Ending.returned (Value.string (strOfNums d))=_
   rw [this]
  ·
   have t1:decide (p<u.size)=true:=dtt hlt
   rw [PFnGjSquashItems.bt_at hlt] at c32 c92 ho
   have q1:decide ((u[p].toNat:Int)<32)=false:=dff Yy0
   have q2:((u[p].toNat:Int) == 92)=false:=bfo c92
   have HR:=hdd hr;have HO':=hdd ho
   clear c32 c92 hr ho
   go_wp2_with (at_builtin;refine wpList_append_own _ rfl _ _ 69 rfl B 5 i0 (.int .u8 0) 1 1 Tryz.underlying69 HI.out HZ0.out HZ1.out HZ2.out rfl Yy3 _ _ _ rfl (hown.out.alloc _) ⟨wr.heap.size,0,none⟩ 1 1 [.int .u8 (u[p].toNat:Int)] rfl rfl ?c1 ?c2 ?c3 ?c4 ?c5 ?_)
   case c1=>exact cell_one_new _ _ _
   case c2=>intro x hx;simp at hx;subst hx;rfl
   case c3=>unfold maxLen;have:=hdl.out;omega
   case c4=>have:=hdl.out;omega
   case c5=>simp;have:=hBr.out;omega
   intro v' w2 hown2 hgrow2 _
   have A:=hdd (hown.out.app hbel.out hBr.out _ hown2 hgrow2)
   clear hown2 hgrow2
   go_wp2_with fail
   go_roundg (gk - 1)
   case measure=>have:=hp.out;omega
   case rel=>exact ⟨p+1,_,o',Yy6,hdd (by have:=hp.out;omega),hdd A.out.1,HR,hdd (by rw [← hO.out,HO'.out];simp),hdd (by have:=hdl.out;simp;omega),hdd A.out.2⟩
  ·
   have t1:decide (p<u.size)=true:=dtt Yy0
   have plt:p<u.size:=Yy0
   rw [PFnGjSquashItems.bt_at plt] at c92
   rw [PFnGjSquashItems.bt_at hlt] at hs ho
   obtain ⟨q,hq⟩:∃ q:Nat,q=p+1:=⟨_,rfl⟩
   have hqi:(p:Int)+1=(q:Int):=Yy0
   have qlt:q<u.size:=Yy0
   have hs':(u[q].toNat:Int)=34∨(u[q].toNat:Int)=92∨(u[q].toNat:Int)=47∨(u[q].toNat:Int)=98∨(u[q].toNat:Int)=102∨(u[q].toNat:Int)=110∨(u[q].toNat:Int)=114∨(u[q].toNat:Int)=116:=by subst hq;exact hs
   have ho':o=shortB (u[q].toNat:Int) :: o':=by subst hq;exact ho
   have HR:=hdd hr
   have HQ:=hdd hq
   have q0:0≤(q:Int):=Yy0
   have q1:(q:Int)≤65536:=Yy0
   have tq:decide (u.size≤q)=false:=dff Yy0
   have HO':=hdd ho'
   clear hs ho hr hq ho'
   rcases hs' with hc | hc | hc | hc | hc | hc | hc | hc
   ·
    go_wp2_with (at_builtin;refine wpList_append_own _ rfl _ _ 69 rfl B 5 i0 (.int .u8 0) 1 1 Tryz.underlying69 HI.out HZ0.out HZ1.out HZ2.out rfl Yy3 _ _ _ rfl (hown.out.alloc _) ⟨wr.heap.size,0,none⟩ 1 1 [.int .u8 34] rfl rfl ?c1 ?c2 ?c3 ?c4 ?c5 ?_)
    case c1=>exact cell_one_new _ _ _
    case c2=>intro x hx;simp at hx;subst hx;rfl
    case c3=>unfold maxLen;have:=hdl.out;omega
    case c4=>have:=hdl.out;omega
    case c5=>simp;have:=hBr.out;omega
    intro v' w2 hown2 hgrow2 _
    have A:=hdd (hown.out.app hbel.out hBr.out _ hown2 hgrow2)
    have HC:=hdd hc
    clear hown2 hgrow2
    go_wp2_with fail
    go_roundg (gk - 2)
    case measure=>have:=hp.out;have:=HQ.out;omega
    case rel=>exact ⟨q+1,_,o',Yy6,hdd Yy29,hdd A.out.1,Yy30,hdd Yy31,hdd Yy32,hdd A.out.2⟩
   ·
    go_wp2_with (at_builtin;refine wpList_append_own _ rfl _ _ 69 rfl B 5 i0 (.int .u8 0) 1 1 Tryz.underlying69 HI.out HZ0.out HZ1.out HZ2.out rfl Yy3 _ _ _ rfl (hown.out.alloc _) ⟨wr.heap.size,0,none⟩ 1 1 [.int .u8 92] rfl rfl ?c1 ?c2 ?c3 ?c4 ?c5 ?_)
    case c1=>exact cell_one_new _ _ _
    case c2=>intro x hx;simp at hx;subst hx;rfl
    case c3=>unfold maxLen;have:=hdl.out;omega
    case c4=>have:=hdl.out;omega
    case c5=>simp;have:=hBr.out;omega
    intro v' w2 hown2 hgrow2 _
    have A:=hdd (hown.out.app hbel.out hBr.out _ hown2 hgrow2)
    have HC:=hdd hc
    clear hown2 hgrow2
    go_wp2_with fail
    go_roundg (gk - 2)
    case measure=>have:=hp.out;have:=HQ.out;omega
    case rel=>exact ⟨q+1,_,o',Yy6,hdd Yy29,hdd A.out.1,Yy30,hdd Yy31,hdd Yy32,hdd A.out.2⟩
   ·
    go_wp2_with (at_builtin;refine wpList_append_own _ rfl _ _ 69 rfl B 5 i0 (.int .u8 0) 1 1 Tryz.underlying69 HI.out HZ0.out HZ1.out HZ2.out rfl Yy3 _ _ _ rfl (hown.out.alloc _) ⟨wr.heap.size,0,none⟩ 1 1 [.int .u8 47] rfl rfl ?c1 ?c2 ?c3 ?c4 ?c5 ?_)
    case c1=>exact cell_one_new _ _ _
    case c2=>intro x hx;simp at hx;subst hx;rfl
    case c3=>unfold maxLen;have:=hdl.out;omega
    case c4=>have:=hdl.out;omega
    case c5=>simp;have:=hBr.out;omega
    intro v' w2 hown2 hgrow2 _
    have A:=hdd (hown.out.app hbel.out hBr.out _ hown2 hgrow2)
    have HC:=hdd hc
    clear hown2 hgrow2
    go_wp2_with fail
    go_roundg (gk - 2)
    case measure=>have:=hp.out;have:=HQ.out;omega
    case rel=>exact ⟨q+1,_,o',Yy6,hdd Yy29,hdd A.out.1,Yy30,hdd Yy31,hdd Yy32,hdd A.out.2⟩
   ·
    go_wp2_with (at_builtin;refine wpList_append_own _ rfl _ _ 69 rfl B 5 i0 (.int .u8 0) 1 1 Tryz.underlying69 HI.out HZ0.out HZ1.out HZ2.out rfl Yy3 _ _ _ rfl (hown.out.alloc _) ⟨wr.heap.size,0,none⟩ 1 1 [.int .u8 8] rfl rfl ?c1 ?c2 ?c3 ?c4 ?c5 ?_)
    case c1=>exact cell_one_new _ _ _
    case c2=>intro x hx;simp at hx;subst hx;rfl
    case c3=>unfold maxLen;have:=hdl.out;omega
    case c4=>have:=hdl.out;omega
    case c5=>simp;have:=hBr.out;omega
    intro v' w2 hown2 hgrow2 _
    have A:=hdd (hown.out.app hbel.out hBr.out _ hown2 hgrow2)
    have HC:=hdd hc
    clear hown2 hgrow2
    go_wp2_with fail
    go_roundg (gk - 2)
    case measure=>have:=hp.out;have:=HQ.out;omega
    case rel=>exact ⟨q+1,_,o',Yy6,hdd Yy29,hdd A.out.1,Yy30,hdd Yy31,hdd Yy32,hdd A.out.2⟩
   ·
    go_wp2_with (at_builtin;refine wpList_append_own _ rfl _ _ 69 rfl B 5 i0 (.int .u8 0) 1 1 Tryz.underlying69 HI.out HZ0.out HZ1.out HZ2.out rfl Yy3 _ _ _ rfl (hown.out.alloc _) ⟨wr.heap.size,0,none⟩ 1 1 [.int .u8 12] rfl rfl ?c1 ?c2 ?c3 ?c4 ?c5 ?_)
    case c1=>exact cell_one_new _ _ _
    case c2=>intro x hx;simp at hx;subst hx;rfl
    case c3=>unfold maxLen;have:=hdl.out;omega
    case c4=>have:=hdl.out;omega
    case c5=>simp;have:=hBr.out;omega
    intro v' w2 hown2 hgrow2 _
    have A:=hdd (hown.out.app hbel.out hBr.out _ hown2 hgrow2)
    have HC:=hdd hc
    clear hown2 hgrow2
    go_wp2_with fail
    go_roundg (gk - 2)
    case measure=>have:=hp.out;have:=HQ.out;omega
    case rel=>exact ⟨q+1,_,o',Yy6,hdd Yy29,hdd A.out.1,Yy30,hdd Yy31,hdd Yy32,hdd A.out.2⟩
   ·
    go_wp2_with (at_builtin;refine wpList_append_own _ rfl _ _ 69 rfl B 5 i0 (.int .u8 0) 1 1 Tryz.underlying69 HI.out HZ0.out HZ1.out HZ2.out rfl Yy3 _ _ _ rfl (hown.out.alloc _) ⟨wr.heap.size,0,none⟩ 1 1 [.int .u8 10] rfl rfl ?c1 ?c2 ?c3 ?c4 ?c5 ?_)
    case c1=>exact cell_one_new _ _ _
    case c2=>intro x hx;simp at hx;subst hx;rfl
    case c3=>unfold maxLen;have:=hdl.out;omega
    case c4=>have:=hdl.out;omega
    case c5=>simp;have:=hBr.out;omega
    intro v' w2 hown2 hgrow2 _
    have A:=hdd (hown.out.app hbel.out hBr.out _ hown2 hgrow2)
    have HC:=hdd hc
    clear hown2 hgrow2
    go_wp2_with fail
    go_roundg (gk - 2)
    case measure=>have:=hp.out;have:=HQ.out;omega
    case rel=>exact ⟨q+1,_,o',Yy6,hdd Yy29,hdd A.out.1,Yy30,hdd Yy31,hdd Yy32,hdd A.out.2⟩
   ·
    go_wp2_with (at_builtin;refine wpList_append_own _ rfl _ _ 69 rfl B 5 i0 (.int .u8 0) 1 1 Tryz.underlying69 HI.out HZ0.out HZ1.out HZ2.out rfl Yy3 _ _ _ rfl (hown.out.alloc _) ⟨wr.heap.size,0,none⟩ 1 1 [.int .u8 13] rfl rfl ?c1 ?c2 ?c3 ?c4 ?c5 ?_)
    case c1=>exact cell_one_new _ _ _
    case c2=>intro x hx;simp at hx;subst hx;rfl
    case c3=>unfold maxLen;have:=hdl.out;omega
    case c4=>have:=hdl.out;omega
    case c5=>simp;have:=hBr.out;omega
    intro v' w2 hown2 hgrow2 _
    have A:=hdd (hown.out.app hbel.out hBr.out _ hown2 hgrow2)
    have HC:=hdd hc
    clear hown2 hgrow2
    go_wp2_with fail
    go_roundg (gk - 2)
    case measure=>have:=hp.out;have:=HQ.out;omega
    case rel=>exact ⟨q+1,_,o',Yy6,hdd Yy29,hdd A.out.1,Yy30,hdd Yy31,hdd Yy32,hdd A.out.2⟩
   ·
    go_wp2_with (at_builtin;refine wpList_append_own _ rfl _ _ 69 rfl B 5 i0 (.int .u8 0) 1 1 Tryz.underlying69 HI.out HZ0.out HZ1.out HZ2.out rfl Yy3 _ _ _ rfl (hown.out.alloc _) ⟨wr.heap.size,0,none⟩ 1 1 [.int .u8 9] rfl rfl ?c1 ?c2 ?c3 ?c4 ?c5 ?_)
    case c1=>exact cell_one_new _ _ _
    case c2=>intro x hx;simp at hx;subst hx;rfl
    case c3=>unfold maxLen;have:=hdl.out;omega
    case c4=>have:=hdl.out;omega
    case c5=>simp;have:=hBr.out;omega
    intro v' w2 hown2 hgrow2 _
    have A:=hdd (hown.out.app hbel.out hBr.out _ hown2 hgrow2)
    have HC:=hdd hc
    clear hown2 hgrow2
    go_wp2_with fail
    go_roundg (gk - 2)
    case measure=>have:=hp.out;have:=HQ.out;omega
    case rel=>exact ⟨q+1,_,o',Yy6,hdd Yy29,hdd A.out.1,Yy30,hdd Yy31,hdd Yy32,hdd A.out.2⟩
  ·
   have t1:decide (p<u.size)=true:=dtt Yy0
   have plt:p<u.size:=Yy0
   rw [PFnGjSquashItems.bt_at plt] at c92
   obtain ⟨q,hq⟩:∃ q:Nat,q=p+1:=⟨_,rfl⟩
   have hqi:(p:Int)+1=(q:Int):=Yy0
   have qlt:q<u.size:=Yy0
   have c117':(u[q].toNat:Int)=117:=by subst hq;rw [← PFnGjSquashItems.bt_at];exact c117
   have tq:decide (u.size≤q)=false:=dff Yy0
   have q0:0≤(q:Int):=Yy0
   have q1:(q:Int)≤65536:=Yy0
   have tq5:decide ((u.size:Int)<(q:Int)+5)=false:=dff Yy0
   obtain ⟨r1,hr1⟩:∃ r1:Nat,(q:Int)+1=(r1:Int):=⟨q+1,Yy0⟩
   obtain ⟨k,hk⟩:∃ k:Nat,(q:Int)+5=(k:Int):=⟨q+5,Yy0⟩
   have er1:r1=p+2:=Yy0
   have ek:k=p+6:=Yy0
   rw [hk] at tq5
   have tq6:decide (u.size<k)=false:=dff Yy0
   obtain ⟨X,hX⟩:∃ X,u.extract r1 u.size=X:=⟨_,rfl⟩
   have hsl:∀ W,(Instr.slice 9 (.string u) (some (.int .i64 (r1:Int))) none none).run Tryz.prog W = .ok (.string X) W:=fun W=>by
    rw [← hX];have:=run_slice_string_l (P:=Tryz.prog) W (t:=9) (s:=u) Tryz.underlying9 .i64 (r1:Int) Yy0 Yy0;simpa using this
   have hz:X.size=u.size - r1:=by rw [← hX,ByteArray.size_extract];omega
   have hxx:∀ x,x<4→isHex (bt X ((0+x:Nat):Int))=true:=fun x hx'=>by
    rw [← hX,bt_extract (nlr _) Yy0,er1,Nat.zero_add];exact hx x hx'
   have RU:=fun W=>runeit_any (w:=W) X Yy0 Yy0 hxx
   have hn:hexN X 0 4=hexN u (p+2) 4:=by rw [← hX,hexN_extract (nlr _) 4 0 Yy0,er1]
   have hrg:=hexN_range (s:=u) (p:=p+2) 4 (nlr _) hx
   generalize hexN u (p+2) 4=n at hn hrg hr
   rw [hn] at RU
   have n0:0≤n:=hrg.1
   have n1:n<65536:=hrg.2.1
   have RU':=hdd RU;have HR:=hdd hr;have HQ:=hdd hq;have EK:=hdd ek;have HLT:=hdd hlt
   clear RU hr hq ek hX hz hxx hn hrg c117 hx er1 hlt
   go_upto_if 104 with (first | (go_at_call 83;refine (RU'.out _).mono ?_;rintro e w2 ⟨rfl,hb2⟩;have HB2:=hdd hb2;clear hb2) | (go_at_call 84;refine (issur_any n n0 n1).mono ?_;rintro e w3 ⟨rfl,rfl⟩))
   have kle:k≤u.size:=by have:=HLT.out;have:=EK.out;omega
   have k0:0≤(k:Int):=Yy0
   have k1:(k:Int)≤65536:=Yy0
   have hown2:=hdd (hown.out.below HB2.out)
   have hbel2:=hdd (hbel.out.trans (HB2.out.mono hBr.out))
   clear hsl hr1 hqi hk tq5 tq6
   go_cut [4,5] (fun v4 v5 wc=>∃ (k r:Nat) (o':List Int),v4 = .int .i64 (k:Int)∧v5 = .int .i32 (r:Int)∧Hid (p+6≤k∧k≤u.size)∧Hid (r≤1114111)∧Hid (o=Lib.encodeRuneZ (r:Int) ++ o')∧Hid (Un u k o')∧Hid (Ow B wc u3 d)∧Hid (Below B w wc))
   case first=>
    rcases HR.out with ⟨s1,o',ho1,ho2⟩ | ⟨s1,g0,g1,g2,gx,o',ho1,ho2⟩ | ⟨s1,hg,o',ho1,ho2⟩
    ·
     rw [s1]
     have HO1:=hdd ho1;have HO2:=hdd ho2
     obtain ⟨N,rfl⟩:∃ N:Nat,n=(N:Int):=⟨n.toNat,Yy0⟩
     clear ho1 ho2 s1 HR
     go_wp2_with fail
     go_meet
     exact ⟨k,N,o',rfl,rfl,hdd Yy23,hdd Yy0,HO2,by rw [EK.out];exact HO1,hown2,hbel2⟩
    ·
     rw [s1]
     have HO1:=hdd ho1;have HO2:=hdd ho2
     obtain ⟨X2,hX2⟩:∃ X2,u.extract k u.size=X2:=⟨_,rfl⟩
     have hsl2:∀ W,(Instr.slice 9 (.string u) (some (.int .i64 (k:Int))) none none).run Tryz.prog W = .ok (.string X2) W:=fun W=>by
      rw [← hX2];have:=run_slice_string_l (P:=Tryz.prog) W (t:=9) (s:=u) Tryz.underlying9 .i64 (k:Int) Yy0 Yy0;simpa using this
     obtain ⟨m2,hm2⟩:∃ m2:Nat,m2=u.size - k:=⟨_,rfl⟩
     have hz2:X2.size=m2:=by rw [← hX2,ByteArray.size_extract,hm2];omega
     have HM2:=hdd hm2
     have gg1:=g1;have gg2:=g2
     clear hX2 hm2 ho1 ho2 s1 HR
     have hm6:decide ((6:Int)≤(m2:Int))=true:=dtt (by have:=HM2.out;have:=EK.out;omega)
     have klt:k<u.size:=Yy23
     obtain ⟨l,hl⟩:∃ l:Nat,(k:Int)+1=(l:Int):=⟨k+1,Yy0⟩
     have llt:l<u.size:=Yy23
     have e92:(u[k].toNat:Int)=92:=by rw [← PFnGjSquashItems.bt_at klt,EK.out];exact g1
     have e117:(u[l].toNat:Int)=117:=by rw [← PFnGjSquashItems.bt_at llt,show l=p+7 from Yy23];exact g2
     obtain ⟨r2,hr2⟩:∃ r2:Nat,(k:Int)+2=(r2:Int):=⟨k+2,Yy0⟩
     have er2:r2=p+8:=Yy23
     obtain ⟨X3,hX3⟩:∃ X3,u.extract r2 u.size=X3:=⟨_,rfl⟩
     have hsl3:∀ W,(Instr.slice 9 (.string u) (some (.int .i64 (r2:Int))) none none).run Tryz.prog W = .ok (.string X3) W:=fun W=>by
      rw [← hX3];have:=run_slice_string_l (P:=Tryz.prog) W (t:=9) (s:=u) Tryz.underlying9 .i64 (r2:Int) Yy0 Yy0;simpa using this
     have hz3:X3.size=u.size - r2:=by rw [← hX3,ByteArray.size_extract];omega
     have hx3:∀ x,x<4→isHex (bt X3 ((0+x:Nat):Int))=true:=fun x hx'=>by
      rw [← hX3,bt_extract (nlr _) Yy0,er2,Nat.zero_add];exact gx x hx'
     have RV:=fun W=>runeit_any (w:=W) X3 Yy0 Yy0 hx3
     have hn3:hexN X3 0 4=hexN u (p+8) 4:=by rw [← hX3,hexN_extract (nlr _) 4 0 Yy0,er2]
     have hrg3:=hexN_range (s:=u) (p:=p+8) 4 (nlr _) gx
     generalize hexN u (p+8) 4=m at hn3 hrg3 HO2
     rw [hn3] at RV
     have m0:0≤m:=hrg3.1
     have m1:m<65536:=hrg3.2.1
     have dr:=decR_range n m n0 n1
     obtain ⟨N,hN⟩:∃ N:Nat,decR n m=(N:Int):=⟨(decR n m).toNat,Yy0⟩
     have DR:=fun W=>decr_any (w:=W) n m n0 n1 m0 m1
     rw [hN] at DR HO2 dr
     obtain ⟨kk,hkk⟩:∃ kk:Nat,(k:Int)+6=(kk:Int):=⟨k+6,Yy0⟩
     have EKK:Hid (kk=p+12):=hdd Yy23
     have RV':=hdd RV;have DR':=hdd DR;have DRR:=hdd dr;have G0:=hdd g0
     clear hX3 hz3 hx3 hn3 hrg3 RV DR hN dr g0 g1 g2 gg1 gg2 gx er2
     go_wp2_with (first | (go_at_call 83;refine (RV'.out _).mono ?_;rintro e w4 ⟨rfl,hb4⟩;have HB4:=hdd hb4;clear hb4) | (go_at_call 85;refine (DR'.out _).mono ?_;rintro e w5 ⟨rfl,rfl⟩))
     go_meet
     exact ⟨kk,N,o',rfl,rfl,hdd (by have:=EKK.out;have:=G0.out;omega),hdd (by have:=DRR.out;omega),HO2,by rw [EKK.out];exact HO1,hdd (hown2.out.below HB4.out),hdd (hbel2.out.trans (HB4.out.mono (by have:=HB2.out.size;have:=hBr.out;omega)))⟩
    ·
     rw [s1]
     have HO1:=hdd ho1;have HO2:=hdd ho2
     obtain ⟨X2,hX2⟩:∃ X2,u.extract k u.size=X2:=⟨_,rfl⟩
     have hsl2:∀ W,(Instr.slice 9 (.string u) (some (.int .i64 (k:Int))) none none).run Tryz.prog W = .ok (.string X2) W:=fun W=>by
      rw [← hX2];have:=run_slice_string_l (P:=Tryz.prog) W (t:=9) (s:=u) Tryz.underlying9 .i64 (k:Int) Yy0 Yy0;simpa using this
     obtain ⟨m2,hm2⟩:∃ m2:Nat,m2=u.size - k:=⟨_,rfl⟩
     have hz2:X2.size=m2:=by rw [← hX2,ByteArray.size_extract,hm2];omega
     have HM2:=hdd hm2
     clear hX2 hm2 ho1 ho2 s1 HR
     obtain ⟨N,rfl⟩:∃ N:Nat,n=(N:Int):=⟨n.toNat,Yy0⟩
     by_cases g6:6≤m2
     ·
      have hm6:decide ((6:Int)≤(m2:Int))=true:=dtt Yy0
      have klt:k<u.size:=by have:=HM2.out;omega
      obtain ⟨l,hl⟩:∃ l:Nat,(k:Int)+1=(l:Int):=⟨k+1,Yy0⟩
      have llt:l<u.size:=by have:=HM2.out;omega
      by_cases g92:(u[k].toNat:Int)=92
      ·
       have e92:((u[k].toNat:Int) == 92)=true:=beq_iff_eq.mpr g92
       have e117:((u[l].toNat:Int) == 117)=false:=bfo (fun g117=>hg ⟨by have:=HM2.out;have:=EK.out;omega,by rw [← EK.out,PFnGjSquashItems.bt_at klt];exact g92,by rw [show p+7=l from Yy23,PFnGjSquashItems.bt_at llt];exact g117⟩)
       have G6:=hdd g6;have G92:=hdd g92
       clear hg g6 g92
       go_wp2_with fail
       go_meet
       exact ⟨k,N,o',rfl,rfl,hdd Yy23,hdd Yy0,HO2,by rw [EK.out];exact HO1,hown2,hbel2⟩
      ·
       have e92:((u[k].toNat:Int) == 92)=false:=bfo g92
       have G6:=hdd g6;have G92:=hdd g92
       clear hg g6 g92
       go_wp2_with fail
       go_meet
       exact ⟨k,N,o',rfl,rfl,hdd Yy23,hdd Yy0,HO2,by rw [EK.out];exact HO1,hown2,hbel2⟩
     ·
      have hm6:decide ((6:Int)≤(m2:Int))=false:=dff Yy0
      have G6:=hdd g6
      clear hg g6
      go_wp2_with fail
      go_meet
      exact ⟨k,N,o',rfl,rfl,hdd Yy23,hdd Yy0,HO2,by rw [EK.out];exact HO1,hown2,hbel2⟩
   case rest=>
    clear HR RU' hown2 hbel2 HB2 kle k0 k1 EK c92 c117' n0 n1
    obtain ⟨k,r,o',rfl,rfl,hk,hr,ho,hun',hown',hbel'⟩:=hcut
    have hBc:Hid (B≤wc.heap.size):=hdd (by have:=hbel'.out.size;rw [HB.out] at this;exact this)
    go_wp2_with (at_builtin;refine wpList_append_own _ rfl _ _ 69 rfl B 5 i0 (.int .u8 0) 1 1 Tryz.underlying69 HI.out HZ0.out HZ1.out HZ2.out rfl Yy3 _ _ _ rfl (hown'.out.alloc _) ⟨wc.heap.size,0,none⟩ 8 8 [.int .u8 0,.int .u8 0,.int .u8 0,.int .u8 0,.int .u8 0,.int .u8 0,.int .u8 0,.int .u8 0] rfl rfl ?c1 ?c2 ?c3 ?c4 ?c5 ?_)
    case c1=>exact cells_new wc [.int .u8 0,.int .u8 0,.int .u8 0,.int .u8 0,.int .u8 0,.int .u8 0,.int .u8 0,.int .u8 0] 5
    case c2=>intro x hx;simp at hx;subst hx;rfl
    case c3=>unfold maxLen;have:=hdl.out;omega
    case c4=>have:=hdl.out;omega
    case c5=>simp;have:=hBc.out;omega
    intro v' w2 hown3 hgrow3 _
    have HB3:=hdd ((hbel'.out.alloc hBc.out _).grown hgrow3 (by simp;have:=hBc.out;omega) hown'.out.block)
    clear hgrow3
    rcases hown3 with ⟨hl3,⟨-,h0⟩ | ⟨g,cap,cur,rfl,hg,hheap,hncap,hcapm,hcs,htake⟩⟩
    ·
     omega
    ·
     have hrl:=Lib.encodeRuneZ_length (r:Int)
     obtain ⟨nn,hnn⟩:∃ nn,d.length=nn:=⟨_,rfl⟩
     have hrc:(Lib.runeCells (r:Int)).length=(Lib.encodeRuneZ (r:Int)).length:=by unfold Lib.runeCells;rw [List.length_map]
     have ER:=Tryz.utf8_EncodeRune g nn 8 (cap - nn) (r:Int) Yy0 (by have:=hr.out;omega) w2 Yy0
      (fun j hj=>by simp [World.cell?,hheap];omega) (fun j hj=>by simp [World.frozen?,hheap])
     obtain ⟨cur',hh',hs',ht'⟩:=setCells_row (Lib.runeCells (r:Int)) nn w2 cur hheap Yy0
     obtain ⟨lr,hlr⟩:∃ lr,(Lib.runeCells (r:Int)).length=lr:=⟨_,rfl⟩
     rw [hlr] at ER
     have hB4:Below B w2 (w2.setCells g nn (Lib.runeCells (r:Int))):=Lib.below_setCells_w hg _ _ _
     have OW:Ow B (w2.setCells g nn (Lib.runeCells (r:Int))) (.slice (some ⟨g,0,none⟩) (nn+lr) cap) (d ++ Lib.encodeRuneZ (r:Int)):=by
      refine ⟨Yy4,.inr ⟨g,cap,cur',?_,hg,hh',?_,hcapm,Yy0,?_⟩⟩
      ·
       simp;omega
      ·
       simp;omega
      ·
       rw [ht']
       have e1:(cur.toList.take nn)=d.map (Value.int .u8):=by
        have:=congrArg (List.take nn) htake
        rw [List.take_take,show min nn ((d.length+8) * 1)=nn from Yy0,List.take_left' (by simp;exact hnn)] at this
        exact this
       rw [e1,List.take_left' (by simp;rw [hrc]),List.map_append]
       rfl
     generalize w2.setCells g nn (Lib.runeCells (r:Int))=w6 at ER OW hB4
     have ER':=hdd ER;have OW':=hdd OW;have HB4:=hdd hB4
     have HG:=hdd hg;have HN:=hdd hnn
     have hlr1:1≤lr∧lr≤4:=Yy0
     have LR:Hid (lr=(Lib.encodeRuneZ (r:Int)).length):=hdd Yy0
     have ncap:nn+8≤cap:=Yy0
     have capm:=hcapm
     unfold maxLen at capm
     have nn0:nn≤65536:=by have:=hdl.out;omega
     rw [hnn]
     clear hl3 hheap hncap hcapm hcs htake hrl hrc hh' hs' ht' hlr ER OW hB4 hg hnn
     obtain ⟨y,hy⟩:∃ y:Nat,(k:Int) - 1=(y:Int):=⟨k - 1,Yy38⟩
     have y0:0≤(y:Int):=Yy0
     have y1:(y:Int)≤65536:=Yy38
     have HY:Hid (y+1=k):=hdd Yy38
     go_wp2_with (go_at_call 86;refine ER'.out.mono ?_;rintro e w7 ⟨rfl,rfl⟩)
     go_roundg (u.size - (y+1))
     case measure=>have:=HY.out;have:=hk.out;have:=hp.out;omega
     case rel=>
      have e4:(d ++ Lib.encodeRuneZ (r:Int)).length=nn+lr:=by rw [List.length_append,HN.out,LR.out]
      exact ⟨y+1,d ++ Lib.encodeRuneZ (r:Int),o',Yy6,hdd (by have:=HY.out;have:=hk.out;omega),OW',by rw [HY.out];exact hun',hdd (by rw [← hO.out,ho.out,List.append_assoc]),hdd (by rw [e4];have:=HY.out;have:=hk.out;have:=hdl.out;have:=HN.out;omega),hdd (HB3.out.trans HB4.out)⟩
open Go Go.RowKit Go.Proofs.YtieflhncpjjciaaGreatDoorW.PrintWords
theorem run_store_flt {P:Program} {w:World} (a:Addr) (m:Mode) (k:FloatKind) (x:Nat):(store a (.float k x) m).run P w=stored P w a (.float k x) m:=run_store P w a _ m rfl
attribute [local go_sem] run_store_flt
theorem exists_any {w:World} (k:Int) (raw str:ByteArray) (n:Value) (ix:Value) (xs:Value) :
  Calls Tryz.prog 51 #[.agg #[.int .i64 k,.string raw,.string str,n,ix,xs]] w fun e w'=>e = .returned (.bool (k != 0 || (raw.size:Int) != 0))∧Below w.heap.size w w':=by
 go_enter Tryz.func51,Tryz.ntmps51
 go_wp2_with fail
 all_goals
  go_ret
  refine ⟨?_,(Below.refl _ w).alloc (nlr _) _⟩
  first | (rename_i h;subst h;rfl) | (rename_i h;rw [bne_iff_ne.mpr h];rfl)
theorem cellB {w w':World} (hb:Below w.heap.size w w') {a:Addr} {v:Value} (hc:w.cell? a=some v):w'.cell? a=some v:=by
 rw [hb.cell (blo w _ hc)];exact hc
theorem frozB {w w':World} (hb:Below w.heap.size w w') {a:Addr} {v:Value} (hc:w.cell? a=some v) (hf:w.frozen? a=false):w'.frozen? a=false:=by
 rw [hb.frozen (blo w _ hc)];exact hf
theorem results_cell1 {P:Program} {fn:Func} {p:Tmp} {ty:TypeId} (h:fn.results=#[.cell p ty]) (tmps:Array Value) (w:World) (b:Nat) (cs:List Value) (d:TypeDesc) (hp:tmps.getD p undef = .pointer (some ⟨b,0,none⟩)) (hc:w.rangeAt b 0 cs) (hu:P.underlying ty=some d) (hd:d.isRow=true) (hi:(P.info? ty).map (·.size)=some cs.length):(results fn tmps).run P w = .ok (.agg cs.toArray) w:=by
 have hp':tmps[p]?.getD undef = .pointer (some ⟨b,0,none⟩):=by simpa using hp
 simp [results,h,hp',asAddr,run_loadVar_mid w b 0 ty cs d hc hu hd hi]
def cv (w:World) (a:Addr):Value:=(w.cell? a).getD undef
theorem cv_of {w:World} {a:Addr} {v:Value} (h:w.cell? a=some v):w.cell? a=some (cv w a):=by unfold cv;rw [h];rfl
theorem gj_post {w1 w:World} {B:Nat} {k:Int} {raw str:ByteArray} {q:Nat} {ix xs v0 v1 v2 v3 v4:Value} (h0:w.cell? ⟨B,0,none⟩=some (.int .i64 k)) (h1:w.cell? ⟨B,1,none⟩=some (.string raw)) (h2:w.cell? ⟨B,2,none⟩=some (.string str)) (h3:w.cell? ⟨B,3,none⟩=some (.float .f64 q)) (h4:w.cell? ⟨B,4,none⟩=some (ix)) (h5:w.cell? ⟨B,5,none⟩=some (xs)) (h6:w.cell? ⟨B+1,0,none⟩=some (cv w ⟨B+1,0,none⟩)) (h7:w.cell? ⟨B+1,1,none⟩=some (cv w ⟨B+1,1,none⟩)) (h8:w.cell? ⟨B+1,2,none⟩=some (cv w ⟨B+1,2,none⟩)) (h9:w.cell? ⟨B+1,3,none⟩=some (cv w ⟨B+1,3,none⟩)) (h10:w.cell? ⟨B+1,4,none⟩=some (cv w ⟨B+1,4,none⟩)) (h11:w.frozen? ⟨B+1,0,none⟩=false) (h12:w.frozen? ⟨B+1,1,none⟩=false) (h13:w.frozen? ⟨B+1,2,none⟩=false) (h14:w.frozen? ⟨B+1,3,none⟩=false) (h15:w.frozen? ⟨B+1,4,none⟩=false) (h16:Below B w1 w) (h17:B+2≤w.heap.size):(((((w.setCell ⟨B+1,0,none⟩ v0).setCell ⟨B+1,1,none⟩ v1).setCell ⟨B+1,2,none⟩ v2).setCell ⟨B+1,3,none⟩ v3).setCell ⟨B+1,4,none⟩ v4).cell? ⟨B,0,none⟩=some (.int .i64 k)∧(((((w.setCell ⟨B+1,0,none⟩ v0).setCell ⟨B+1,1,none⟩ v1).setCell ⟨B+1,2,none⟩ v2).setCell ⟨B+1,3,none⟩ v3).setCell ⟨B+1,4,none⟩ v4).cell? ⟨B,1,none⟩=some (.string raw)∧(((((w.setCell ⟨B+1,0,none⟩ v0).setCell ⟨B+1,1,none⟩ v1).setCell ⟨B+1,2,none⟩ v2).setCell ⟨B+1,3,none⟩ v3).setCell ⟨B+1,4,none⟩ v4).cell? ⟨B,2,none⟩=some (.string str)∧(((((w.setCell ⟨B+1,0,none⟩ v0).setCell ⟨B+1,1,none⟩ v1).setCell ⟨B+1,2,none⟩ v2).setCell ⟨B+1,3,none⟩ v3).setCell ⟨B+1,4,none⟩ v4).cell? ⟨B,3,none⟩=some (.float .f64 q)∧(((((w.setCell ⟨B+1,0,none⟩ v0).setCell ⟨B+1,1,none⟩ v1).setCell ⟨B+1,2,none⟩ v2).setCell ⟨B+1,3,none⟩ v3).setCell ⟨B+1,4,none⟩ v4).cell? ⟨B,4,none⟩=some (ix)∧(((((w.setCell ⟨B+1,0,none⟩ v0).setCell ⟨B+1,1,none⟩ v1).setCell ⟨B+1,2,none⟩ v2).setCell ⟨B+1,3,none⟩ v3).setCell ⟨B+1,4,none⟩ v4).cell? ⟨B,5,none⟩=some (xs)∧(((((w.setCell ⟨B+1,0,none⟩ v0).setCell ⟨B+1,1,none⟩ v1).setCell ⟨B+1,2,none⟩ v2).setCell ⟨B+1,3,none⟩ v3).setCell ⟨B+1,4,none⟩ v4).cell? ⟨B+1,0,none⟩=some (cv (((((w.setCell ⟨B+1,0,none⟩ v0).setCell ⟨B+1,1,none⟩ v1).setCell ⟨B+1,2,none⟩ v2).setCell ⟨B+1,3,none⟩ v3).setCell ⟨B+1,4,none⟩ v4) ⟨B+1,0,none⟩)∧(((((w.setCell ⟨B+1,0,none⟩ v0).setCell ⟨B+1,1,none⟩ v1).setCell ⟨B+1,2,none⟩ v2).setCell ⟨B+1,3,none⟩ v3).setCell ⟨B+1,4,none⟩ v4).cell? ⟨B+1,1,none⟩=some (cv (((((w.setCell ⟨B+1,0,none⟩ v0).setCell ⟨B+1,1,none⟩ v1).setCell ⟨B+1,2,none⟩ v2).setCell ⟨B+1,3,none⟩ v3).setCell ⟨B+1,4,none⟩ v4) ⟨B+1,1,none⟩)∧(((((w.setCell ⟨B+1,0,none⟩ v0).setCell ⟨B+1,1,none⟩ v1).setCell ⟨B+1,2,none⟩ v2).setCell ⟨B+1,3,none⟩ v3).setCell ⟨B+1,4,none⟩ v4).cell? ⟨B+1,2,none⟩=some (cv (((((w.setCell ⟨B+1,0,none⟩ v0).setCell ⟨B+1,1,none⟩ v1).setCell ⟨B+1,2,none⟩ v2).setCell ⟨B+1,3,none⟩ v3).setCell ⟨B+1,4,none⟩ v4) ⟨B+1,2,none⟩)∧(((((w.setCell ⟨B+1,0,none⟩ v0).setCell ⟨B+1,1,none⟩ v1).setCell ⟨B+1,2,none⟩ v2).setCell ⟨B+1,3,none⟩ v3).setCell ⟨B+1,4,none⟩ v4).cell? ⟨B+1,3,none⟩=some (cv (((((w.setCell ⟨B+1,0,none⟩ v0).setCell ⟨B+1,1,none⟩ v1).setCell ⟨B+1,2,none⟩ v2).setCell ⟨B+1,3,none⟩ v3).setCell ⟨B+1,4,none⟩ v4) ⟨B+1,3,none⟩)∧(((((w.setCell ⟨B+1,0,none⟩ v0).setCell ⟨B+1,1,none⟩ v1).setCell ⟨B+1,2,none⟩ v2).setCell ⟨B+1,3,none⟩ v3).setCell ⟨B+1,4,none⟩ v4).cell? ⟨B+1,4,none⟩=some (cv (((((w.setCell ⟨B+1,0,none⟩ v0).setCell ⟨B+1,1,none⟩ v1).setCell ⟨B+1,2,none⟩ v2).setCell ⟨B+1,3,none⟩ v3).setCell ⟨B+1,4,none⟩ v4) ⟨B+1,4,none⟩)∧(((((w.setCell ⟨B+1,0,none⟩ v0).setCell ⟨B+1,1,none⟩ v1).setCell ⟨B+1,2,none⟩ v2).setCell ⟨B+1,3,none⟩ v3).setCell ⟨B+1,4,none⟩ v4).frozen? ⟨B+1,0,none⟩=false∧(((((w.setCell ⟨B+1,0,none⟩ v0).setCell ⟨B+1,1,none⟩ v1).setCell ⟨B+1,2,none⟩ v2).setCell ⟨B+1,3,none⟩ v3).setCell ⟨B+1,4,none⟩ v4).frozen? ⟨B+1,1,none⟩=false∧(((((w.setCell ⟨B+1,0,none⟩ v0).setCell ⟨B+1,1,none⟩ v1).setCell ⟨B+1,2,none⟩ v2).setCell ⟨B+1,3,none⟩ v3).setCell ⟨B+1,4,none⟩ v4).frozen? ⟨B+1,2,none⟩=false∧(((((w.setCell ⟨B+1,0,none⟩ v0).setCell ⟨B+1,1,none⟩ v1).setCell ⟨B+1,2,none⟩ v2).setCell ⟨B+1,3,none⟩ v3).setCell ⟨B+1,4,none⟩ v4).frozen? ⟨B+1,3,none⟩=false∧(((((w.setCell ⟨B+1,0,none⟩ v0).setCell ⟨B+1,1,none⟩ v1).setCell ⟨B+1,2,none⟩ v2).setCell ⟨B+1,3,none⟩ v3).setCell ⟨B+1,4,none⟩ v4).frozen? ⟨B+1,4,none⟩=false∧Below B w1 (((((w.setCell ⟨B+1,0,none⟩ v0).setCell ⟨B+1,1,none⟩ v1).setCell ⟨B+1,2,none⟩ v2).setCell ⟨B+1,3,none⟩ v3).setCell ⟨B+1,4,none⟩ v4)∧B+2≤(((((w.setCell ⟨B+1,0,none⟩ v0).setCell ⟨B+1,1,none⟩ v1).setCell ⟨B+1,2,none⟩ v2).setCell ⟨B+1,3,none⟩ v3).setCell ⟨B+1,4,none⟩ v4).heap.size:=by
 refine ⟨?_,?_,?_,?_,?_,?_,cv_of (v:=v0) ?_,cv_of (v:=v1) ?_,cv_of (v:=v2) ?_,cv_of (v:=v3) ?_,cv_of (v:=v4) ?_,?_,?_,?_,?_,?_,Below.setCell (Below.setCell (Below.setCell (Below.setCell (Below.setCell h16 (Nat.le_succ B) _) (Nat.le_succ B) _) (Nat.le_succ B) _) (Nat.le_succ B) _) (Nat.le_succ B) _,?_⟩ <;> simp [go_sem, *]
theorem gj_range {w:World} {B:Nat} {v0 v1 v2 v3 v4:Value} {u0:Value} (h0:w.cell? ⟨B+1,0,none⟩=some u0) {u1:Value} (h1:w.cell? ⟨B+1,1,none⟩=some u1) {u2:Value} (h2:w.cell? ⟨B+1,2,none⟩=some u2) {u3:Value} (h3:w.cell? ⟨B+1,3,none⟩=some u3) {u4:Value} (h4:w.cell? ⟨B+1,4,none⟩=some u4):World.rangeAt (((((w.setCell ⟨B+1,0,none⟩ v0).setCell ⟨B+1,1,none⟩ v1).setCell ⟨B+1,2,none⟩ v2).setCell ⟨B+1,3,none⟩ v3).setCell ⟨B+1,4,none⟩ v4) (B+1) 0 [v0,v1,v2,v3,v4]:=by
 intro j v hv
 rcases j with _ | _ | _ | _ | _ | j
 ·
  obtain rfl:v0=v:=Option.some.inj hv
  simp [go_sem, *]
 ·
  obtain rfl:v1=v:=Option.some.inj hv
  simp [go_sem, *]
 ·
  obtain rfl:v2=v:=Option.some.inj hv
  simp [go_sem, *]
 ·
  obtain rfl:v3=v:=Option.some.inj hv
  simp [go_sem, *]
 ·
  obtain rfl:v4=v:=Option.some.inj hv
  simp [go_sem, *]
 ·
  simp at hv
theorem gj_any {w:World} (k:Int) (raw str:ByteArray) (q:Nat) (ix:Value) (xs:Value) :
  Calls Tryz.prog 27 #[.agg #[.int .i64 k,.string raw,.string str,.float .f64 q,ix,xs]] w fun e w'=>e = .returned (.agg #[.int .i64 k,.string raw,.string str,.float .f64 q,.bool (k != 0 || (raw.size:Int) != 0)])∧Below w.heap.size w w':=by
 obtain ⟨B,hB⟩:∃ B,w.heap.size=B:=⟨_,rfl⟩
 go_enter Tryz.func27,Tryz.ntmps27
 go_upto_region 1 with (fail)
 obtain ⟨w1,hw1⟩:∃ w1,(w.alloc (Obj.cells #[.int .i64 k,.string raw,.string str,.float .f64 q,ix,xs] 61)).alloc (Obj.cells #[.int .i64 0,.string ⟨#[]⟩,.string ⟨#[]⟩,.float .f64 0,.bool false] 34)=w1:=⟨_,rfl⟩
 have hs1:w1.heap.size=B+2:=Yy18
 have b1:Below B w w1:=by rw [← hw1];exact ((Below.refl _ w).alloc Yy0 _).alloc (by simp [go_sem];omega) _
 have c0:w1.cell? ⟨B,0,none⟩=some (.int .i64 k):=Yy18
 have c1:w1.cell? ⟨B,1,none⟩=some (.string raw):=Yy18
 have c2:w1.cell? ⟨B,2,none⟩=some (.string str):=Yy18
 have c3:w1.cell? ⟨B,3,none⟩=some (.float .f64 q):=Yy18
 have c4:w1.cell? ⟨B,4,none⟩=some (ix):=Yy18
 have c5:w1.cell? ⟨B,5,none⟩=some (xs):=Yy18
 have d0:w1.cell? ⟨B+1,0,none⟩=some (cv w1 ⟨B+1,0,none⟩):=Yy80
 have d1:w1.cell? ⟨B+1,1,none⟩=some (cv w1 ⟨B+1,1,none⟩):=Yy80
 have d2:w1.cell? ⟨B+1,2,none⟩=some (cv w1 ⟨B+1,2,none⟩):=Yy80
 have d3:w1.cell? ⟨B+1,3,none⟩=some (cv w1 ⟨B+1,3,none⟩):=Yy80
 have d4:w1.cell? ⟨B+1,4,none⟩=some (cv w1 ⟨B+1,4,none⟩):=Yy80
 have f0:w1.frozen? ⟨B+1,0,none⟩=false:=Yy18
 have f1:w1.frozen? ⟨B+1,1,none⟩=false:=Yy18
 have f2:w1.frozen? ⟨B+1,2,none⟩=false:=Yy18
 have f3:w1.frozen? ⟨B+1,3,none⟩=false:=Yy18
 have f4:w1.frozen? ⟨B+1,4,none⟩=false:=Yy18
 have e0:w1.drew.cell? ⟨B,0,none⟩=some (.int .i64 k):=c0
 have e1:w1.drew.cell? ⟨B,1,none⟩=some (.string raw):=c1
 have e2:w1.drew.cell? ⟨B,2,none⟩=some (.string str):=c2
 have e3:w1.drew.cell? ⟨B,3,none⟩=some (.float .f64 q):=c3
 have e4:w1.drew.cell? ⟨B,4,none⟩=some (ix):=c4
 have e5:w1.drew.cell? ⟨B,5,none⟩=some (xs):=c5
 have g0:w1.drew.cell? ⟨B+1,0,none⟩=some (cv w1.drew ⟨B+1,0,none⟩):=cv_of (v:=cv w1 ⟨B+1,0,none⟩) d0
 have g1:w1.drew.cell? ⟨B+1,1,none⟩=some (cv w1.drew ⟨B+1,1,none⟩):=cv_of (v:=cv w1 ⟨B+1,1,none⟩) d1
 have g2:w1.drew.cell? ⟨B+1,2,none⟩=some (cv w1.drew ⟨B+1,2,none⟩):=cv_of (v:=cv w1 ⟨B+1,2,none⟩) d2
 have g3:w1.drew.cell? ⟨B+1,3,none⟩=some (cv w1.drew ⟨B+1,3,none⟩):=cv_of (v:=cv w1 ⟨B+1,3,none⟩) d3
 have g4:w1.drew.cell? ⟨B+1,4,none⟩=some (cv w1.drew ⟨B+1,4,none⟩):=cv_of (v:=cv w1 ⟨B+1,4,none⟩) d4
 have h0:w1.drew.frozen? ⟨B+1,0,none⟩=false:=f0
 have h1:w1.drew.frozen? ⟨B+1,1,none⟩=false:=f1
 have h2:w1.drew.frozen? ⟨B+1,2,none⟩=false:=f2
 have h3:w1.drew.frozen? ⟨B+1,3,none⟩=false:=f3
 have h4:w1.drew.frozen? ⟨B+1,4,none⟩=false:=f4
 have bd:Below B w1 w1.drew:=(Below.refl _ _).drew
 have sd:B+2≤w1.drew.heap.size:=by show B+2≤w1.heap.size;omega
 rw [hw1]
 clear hw1
 go_region_held3 (fun w'=>w'.cell? ⟨B,0,none⟩=some (.int .i64 k)∧w'.cell? ⟨B,1,none⟩=some (.string raw)∧w'.cell? ⟨B,2,none⟩=some (.string str)∧w'.cell? ⟨B,3,none⟩=some (.float .f64 q)∧w'.cell? ⟨B,4,none⟩=some (ix)∧w'.cell? ⟨B,5,none⟩=some (xs)∧w'.cell? ⟨B+1,0,none⟩=some (cv w' ⟨B+1,0,none⟩)∧w'.cell? ⟨B+1,1,none⟩=some (cv w' ⟨B+1,1,none⟩)∧w'.cell? ⟨B+1,2,none⟩=some (cv w' ⟨B+1,2,none⟩)∧w'.cell? ⟨B+1,3,none⟩=some (cv w' ⟨B+1,3,none⟩)∧w'.cell? ⟨B+1,4,none⟩=some (cv w' ⟨B+1,4,none⟩)∧w'.frozen? ⟨B+1,0,none⟩=false∧w'.frozen? ⟨B+1,1,none⟩=false∧w'.frozen? ⟨B+1,2,none⟩=false∧w'.frozen? ⟨B+1,3,none⟩=false∧w'.frozen? ⟨B+1,4,none⟩=false∧Below B w1 w'∧B+2≤w'.heap.size)
  (first
   | with_reducible exact ⟨e0,e1,e2,e3,e4,e5,g0,g1,g2,g3,g4,h0,h1,h2,h3,h4,bd,sd⟩
   | with_reducible exact ⟨c0,c1,c2,c3,c4,c5,d0,d1,d2,d3,d4,f0,f1,f2,f3,f4,Below.refl _ _,(by rw [hs1];exact nlr _)⟩
   | (go_split_ands;with_reducible exact ⟨Yy5,Yy5,Yy5,Yy5,Yy5,Yy5,Yy5,Yy5,Yy5,Yy5,Yy5,Yy5,Yy5,Yy5,Yy5,Yy5,Below.drew Yy5,Yy5⟩)
   | (go_split_ands;with_reducible exact ⟨cellB hb Yy5,cellB hb Yy5,cellB hb Yy5,cellB hb Yy5,cellB hb Yy5,cellB hb Yy5,cv_of (cellB hb Yy5),cv_of (cellB hb Yy5),cv_of (cellB hb Yy5),cv_of (cellB hb Yy5),cv_of (cellB hb Yy5),frozB (v:=cv _ _) hb Yy5 Yy5,frozB (v:=cv _ _) hb Yy5 Yy5,frozB (v:=cv _ _) hb Yy5 Yy5,frozB (v:=cv _ _) hb Yy5 Yy5,frozB (v:=cv _ _) hb Yy5 Yy5,(by have hX:B+2≤_:=Yy5;exact Below.trans Yy5 (hb.mono Yy0)),(by have hX:B+2≤_:=Yy5;have hY:=hb.size;omega)⟩)
   | with_reducible exact ⟨cellB hb c0,cellB hb c1,cellB hb c2,cellB hb c3,cellB hb c4,cellB hb c5,cv_of (cellB hb d0),cv_of (cellB hb d1),cv_of (cellB hb d2),cv_of (cellB hb d3),cv_of (cellB hb d4),frozB hb d0 f0,frozB hb d1 f1,frozB hb d2 f2,frozB hb d3 f3,frozB hb d4 f4,hb.mono (by show B≤w1.heap.size;omega),(by have hY:=hb.size;have hZ:w1.drew.heap.size=w1.heap.size:=rfl;omega)⟩
   | (go_split_ands;with_reducible exact gj_post Yy5 Yy5 Yy5 Yy5 Yy5 Yy5 Yy5 Yy5 Yy5 Yy5 Yy5 Yy5 Yy5 Yy5 Yy5 Yy5 Yy5 Yy5))
  (first | (go_at_call 51;refine (exists_any k raw str (.float .f64 q) ix xs).mono ?_;rintro en w4 ⟨rfl,hb⟩))
 have hbel:=hb
 rename_i hH
 obtain ⟨-,-,-,-,-,-,-,-,-,-,-,-,-,-,-,-,hbel2,-⟩:=hH
 have hrg:=gj_range (v0:=.int .i64 k) (v1:=.string raw) (v2:=.string str) (v3:=.float .f64 q) (v4:=.bool (k != 0 || (raw.size:Int) != 0)) (cellB hb g0) (cellB hb g1) (cellB hb g2) (cellB hb g3) (cellB hb g4)
 clear c0 c1 c2 c3 c4 c5 d0 d1 d2 d3 d4 e0 e1 e2 e3 e4 e5 f0 f1 f2 f3 f4 g0 g1 g2 g3 g4 h0 h1 h2 h3 h4
 have HR:=hdd hrg
 have HB2:=hdd hbel2
 clear hrg hbel2
 go_wp2_with fail
 refine bodyPost_ret (results_cell1 rfl _ _ (B+1) _ _ rfl HR.out Tryz.underlying34 rfl Yy1) rfl ?_
 have hbel2:=HB2.out
 exact ⟨rfl,by rw [hB];exact b1.trans hbel2⟩
structure RV where
 k:Int
 raw:ByteArray
 str:ByteArray
 q:Nat
 ix:Int
def RV.val (r:RV):Value:=.agg #[.int .i64 r.k,.string r.raw,.string r.str,.float .f64 r.q,.int .i64 r.ix,.slice none 0 0]
def RV.cells (r:RV):List Value:=[.int .i64 r.k,.string r.raw,.string r.str,.float .f64 r.q,.bool (r.k != 0 || (r.raw.size:Int) != 0)]
def pairCells (p:RV×RV):List Value:=p.1.cells ++ p.2.cells
structure Ot (ob base:Nat) (L:List (RV×RV)) (w:World):Prop where
 ex:∃ v,w.cell? ⟨ob,0,none⟩=some v∧w.ownsRow base 42 10 v L.length (L.flatMap pairCells)∧v.ownBlock≠some ob
 fr:w.frozen? ⟨ob,0,none⟩=false
structure Keep (ob base:Nat) (w w':World):Prop where
 os:w'.os=w.os
 tape:w'.tape=w.tape
 output:w'.output=w.output
 size:w.heap.size≤w'.heap.size
 block:∀ g,g<base→g≠ob→w'.heap[g]? = w.heap[g]?
theorem Keep.refl (ob base:Nat) (w:World):Keep ob base w w:=⟨rfl,rfl,rfl,nlr _,fun _ _ _=>rfl⟩
theorem Keep.trans {ob base:Nat} {a b c:World} (h:Keep ob base a b) (k:Keep ob base b c):Keep ob base a c:=⟨k.os.trans h.os,k.tape.trans h.tape,k.output.trans h.output,Nat.le_trans h.size k.size,fun g h1 h2=>(k.block g h1 h2).trans (h.block g h1 h2)⟩
theorem Keep.of {ob base B:Nat} {a b:World} (h:Below B a b) (hb:base≤B):Keep ob base a b:=⟨h.os,h.tape,h.output,h.size,fun g h1 _=>h.block g (Nat.lt_of_lt_of_le h1 hb)⟩
theorem Keep.below {ob base:Nat} {w a b:World} (h:Keep ob base w a) (hb:Below a.heap.size a b) (hs:base≤w.heap.size):Keep ob base w b:=h.trans (Keep.of hb (Nat.le_trans hs h.size))
theorem Keep.grown {ob base:Nat} {w w':World} {row:Option Nat} (hg:w.grownBy w' row) (hs:base≤w.heap.size) (hr:∀ g,row=some g→base≤g):Keep ob base w w':=
 ⟨hg.os,hg.tape,hg.output,hg.size,fun g h1 _=>hg.block g (Nat.lt_of_lt_of_le h1 hs) (fun h=>absurd (hr g h.symm) Yy0)⟩
theorem Keep.set {ob base:Nat} (w:World) (i:Nat) (u:Value):Keep ob base w (w.setCell ⟨ob,i,none⟩ u):=by
 have hb:Below 0 w (w.setCell ⟨ob,i,none⟩ u):=(Below.refl 0 w).setCell (Nat.zero_le _) u
 exact ⟨hb.os,hb.tape,hb.output,hb.size,fun g _ h2=>Below.heap_setCell w _ u g h2⟩
theorem own_lt {w:World} {base e size n:Nat} {v:Value} {xs:List Value} (h:w.ownsRow base e size v n xs) {g:Nat} (hg:v.ownBlock=some g):g<w.heap.size:=by
 rcases h.2 with ⟨h2,_⟩ | ⟨g',cap,cur,hv,_,hh,_⟩
 ·
  rw [h2] at hg;cases hg
 ·
  rw [hv] at hg
  obtain rfl:g'=g:=Option.some.inj hg
  exact (Array.getElem?_eq_some_iff.mp hh).1
end Go.Proofs.YtieflhncpjjciaaGreatDoor.Dc
