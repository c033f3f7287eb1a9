/- Walks and plain laws of this claim. -/
import Derived.Test.YtieflhncpjjciaaGreatDoorBxB
import Derived.Test.YtieflhncpjjciaaGreatDoorBxD
import Derived.WalkSpells
import Derived.Test.YtieflhncpjjciaaGreatDoorBxA
set_option maxHeartbeats 8000000
set_option maxRecDepth 100000
set_option linter.unusedVariables false
set_option linter.unusedSimpArgs false
namespace Go.Proofs.YtieflhncpjjciaaGreatDoor.Dc
open Go Go.RowKit
theorem scope_measure {P:Program} {a:Act} {w:World} {Q:Exit→Act→World→Prop} {c:Code} (J:Nat→Nat→Act→World→Prop)
  (first:c.wp P (jumps (fun l a w=>∃ m,J l m a w) Q) a w)
  (pass:∀ l m a w,J l m a w→∃ rest,findLabel c l=some rest∧rest.wp P (jumps (fun l' a' w'=>∃ m',m'<m∧J l' m' a' w') Q) a w):(Code.scope c).wp P Q a w:=by
 intro b k cs
 have key:∀ n l m a w,m=n→J l m a w→∃ rest,findLabel c l=some rest∧∃ e a' w',Q e a' w'∧Arrives P (lone (b.at a (.code rest :: .inScope c :: k)) cs w) b k cs e a' w':=by
  intro n
  induction n using Nat.strongRecOn with
  | _ n ih=>
   intro l m a w hn hJ
   obtain ⟨rest,hf,hp⟩:=pass l m a w hJ
   refine ⟨rest,hf,?_⟩
   obtain ⟨e,a₁,w₁,hq,harr⟩:=hp b (.inScope c :: k) cs
   cases e with
   | normal=>exact ⟨.normal,a₁,w₁,hq,Steps.trans harr (.one step_inScope)⟩
   | exit id=>exact ⟨.exit id,a₁,w₁,hq,fun k' hk=>harr k' (by simp [exitTo,hk])⟩
   | goto l'=>
    obtain ⟨m',hlt,hJ'⟩:=hq
    obtain ⟨rest₂,hf₂,e₂,a₂,w₂,hq₂,harr₂⟩:=ih m' Yy0 l' m' a₁ w₁ rfl hJ'
    exact ⟨e₂,a₂,w₂,hq₂,.of_steps (harr _ (by simp [gotoIn,hf₂])) harr₂⟩
   | ret=>exact ⟨_,a₁,w₁,hq,harr⟩
   | panic ch=>exact ⟨_,a₁,w₁,hq,harr⟩
   | outgrown=>exact ⟨_,a₁,w₁,hq,harr⟩
 obtain ⟨e,a₁,w₁,hq,harr⟩:=first b (.inScope c :: k) cs
 cases e with
 | normal=>exact ⟨.normal,a₁,w₁,hq,.head step_scope (Steps.trans harr (.one step_inScope))⟩
 | exit id=>exact ⟨.exit id,a₁,w₁,hq,fun k' hk=>.head step_scope (harr k' (by simp [exitTo,hk]))⟩
 | goto l'=>
  obtain ⟨m',hJ'⟩:=hq
  obtain ⟨rest₂,hf₂,e₂,a₂,w₂,hq₂,harr₂⟩:=key _ l' m' a₁ w₁ rfl hJ'
  exact ⟨e₂,a₂,w₂,hq₂,.of_steps (.head step_scope (harr _ (by simp [gotoIn,hf₂]))) harr₂⟩
 | ret=>exact ⟨_,a₁,w₁,hq,.of_steps (.one step_scope) harr⟩
 | panic ch=>exact ⟨_,a₁,w₁,hq,.of_steps (.one step_scope) harr⟩
 | outgrown=>exact ⟨_,a₁,w₁,hq,.of_steps (.one step_scope) harr⟩
theorem scope_one {P:Program} {a:Act} {w:World} {Q:Exit→Act→World→Prop} {c:Code} (J:Act→World→Prop) (r:Code) (hf:findLabel c 0=some (Code.skip.seq r))
  (rest:∀ a w,J a w→r.wp P (jumps (fun _ _ _=>False) Q) a w)
  (first:(∀ a w,J a w→r.wp P (jumps (fun l a w=>l=0∧J a w) Q) a w)→c.wp P (jumps (fun l a w=>l=0∧J a w) Q) a w):(Code.scope c).wp P Q a w:=by
 have up:∀ {K K':Nat→Act→World→Prop},(∀ l a w,K l a w→K' l a w)→∀ e a w,jumps K Q e a w→jumps K' Q e a w:=by
  intro K K' h e a w hq
  cases e <;> first | exact h _ _ _ hq | exact hq
 refine scope_labels (fun l a w=>l=0∧J a w) (first fun a w hJ=>Code.wp_mono (up fun _ _ _ h=>h.elim) (rest a w hJ)) ?_
 rintro l a w ⟨rfl,hJ⟩
 refine ⟨_,hf,?_⟩
 have h:=rest a w hJ
 refine wp_seq (wp_skip ?_)
 exact Code.wp_mono (up fun _ _ _ h=>h.elim) h
theorem jumps_up {K K':Nat→Act→World→Prop} {Q:Exit→Act→World→Prop} (h:∀ l a w,K l a w→K' l a w):∀ e a w,jumps K Q e a w→jumps K' Q e a w:=by
 intro e a w hq
 cases e <;> first | exact h _ _ _ hq | exact hq
def JL (J:Nat→Nat→Act→World→Prop) (m:Nat) (l:Nat) (a:Act) (w:World):Prop:=∃ m',m'<m∧(l=1∨l=2∨l=3)∧J l m' a w
theorem JL.up {J:Nat→Nat→Act→World→Prop} {m m2:Nat} (h:m≤m2) {l:Nat} {a:Act} {w:World} (k:JL J m l a w):JL J m2 l a w:=by
 obtain ⟨m',h1,h2⟩:=k
 exact ⟨m',Yy0,h2⟩
theorem scope_three {P:Program} {a:Act} {w:World} {Q:Exit→Act→World→Prop} {c:Code} (J:Nat→Nat→Act→World→Prop) (r1 r2 r3:Code)
  (hf1:findLabel c 1=some (Code.skip.seq r1)) (hf2:findLabel c 2=some (Code.skip.seq r2)) (hf3:findLabel c 3=some (Code.skip.seq r3))
  (h3:∀ m a w,J 3 m a w→r3.wp P (jumps (JL J m) Q) a w)
  (h1:∀ m,(∀ m3 a w,J 3 m3 a w→m3≤m→r3.wp P (jumps (JL J m) Q) a w)→∀ a w,J 1 m a w→r1.wp P (jumps (JL J m) Q) a w)
  (h2:∀ m a w,J 2 m a w→r2.wp P (jumps (JL J m) Q) a w)
  (first:(∀ m a w,J 2 m a w→r2.wp P (jumps (fun l a w=>∃ m,JL J m l a w) Q) a w)→c.wp P (jumps (fun l a w=>∃ m,JL J m l a w) Q) a w):(Code.scope c).wp P Q a w:=by
 refine scope_measure (fun l m a w=>(l=1∨l=2∨l=3)∧J l m a w) (Code.wp_mono (jumps_up fun l a w h=>?_) (first fun m a w hJ=>Code.wp_mono (jumps_up fun _ _ _ h=>⟨m,h⟩) (h2 m a w hJ))) ?_
 ·
  obtain ⟨m,m',_,h2,h3⟩:=h
  exact ⟨m',h2,h3⟩
 ·
  rintro l m a w ⟨rfl | rfl | rfl,hJ⟩
  ·
   exact ⟨_,hf1,wp_seq (wp_skip (Code.wp_mono (jumps_up fun _ _ _ h=>h) (h1 m (fun m3 a w h k=>Code.wp_mono (jumps_up fun _ _ _=>JL.up k) (h3 m3 a w h)) a w hJ)))⟩
  ·
   exact ⟨_,hf2,wp_seq (wp_skip (Code.wp_mono (jumps_up fun _ _ _ h=>h) (h2 m a w hJ)))⟩
  ·
   exact ⟨_,hf3,wp_seq (wp_skip (Code.wp_mono (jumps_up fun _ _ _ h=>h) (h3 m a w hJ)))⟩
theorem lit230 (v:Nat→Value):(List.range 230).map v = [v 0,v 1,v 2,v 3,v 4,v 5,v 6,v 7,v 8,v 9,v 10,v 11,v 12,v 13,v 14,v 15,v 16,v 17,v 18,v 19,v 20,v 21,v 22,v 23,v 24,v 25,v 26,v 27,v 28,v 29,v 30,v 31,v 32,v 33,v 34,v 35,v 36,v 37,v 38,v 39,v 40,v 41,v 42,v 43,v 44,v 45,v 46,v 47,v 48,v 49,v 50,v 51,v 52,v 53,v 54,v 55,v 56,v 57,v 58,v 59,v 60,v 61,v 62,v 63,v 64,v 65,v 66,v 67,v 68,v 69,v 70,v 71,v 72,v 73,v 74,v 75,v 76,v 77,v 78,v 79,v 80,v 81,v 82,v 83,v 84,v 85,v 86,v 87,v 88,v 89,v 90,v 91,v 92,v 93,v 94,v 95,v 96,v 97,v 98,v 99,v 100,v 101,v 102,v 103,v 104,v 105,v 106,v 107,v 108,v 109,v 110,v 111,v 112,v 113,v 114,v 115,v 116,v 117,v 118,v 119,v 120,v 121,v 122,v 123,v 124,v 125,v 126,v 127,v 128,v 129,v 130,v 131,v 132,v 133,v 134,v 135,v 136,v 137,v 138,v 139,v 140,v 141,v 142,v 143,v 144,v 145,v 146,v 147,v 148,v 149,v 150,v 151,v 152,v 153,v 154,v 155,v 156,v 157,v 158,v 159,v 160,v 161,v 162,v 163,v 164,v 165,v 166,v 167,v 168,v 169,v 170,v 171,v 172,v 173,v 174,v 175,v 176,v 177,v 178,v 179,v 180,v 181,v 182,v 183,v 184,v 185,v 186,v 187,v 188,v 189,v 190,v 191,v 192,v 193,v 194,v 195,v 196,v 197,v 198,v 199,v 200,v 201,v 202,v 203,v 204,v 205,v 206,v 207,v 208,v 209,v 210,v 211,v 212,v 213,v 214,v 215,v 216,v 217,v 218,v 219,v 220,v 221,v 222,v 223,v 224,v 225,v 226,v 227,v 228,v 229]:=Yy1
theorem frame230 (t:Array Value) (h:t.size=230):∃ v:Nat→Value,(∀ i,v i=t.getD i undef)∧t=#[v 0,v 1,v 2,v 3,v 4,v 5,v 6,v 7,v 8,v 9,v 10,v 11,v 12,v 13,v 14,v 15,v 16,v 17,v 18,v 19,v 20,v 21,v 22,v 23,v 24,v 25,v 26,v 27,v 28,v 29,v 30,v 31,v 32,v 33,v 34,v 35,v 36,v 37,v 38,v 39,v 40,v 41,v 42,v 43,v 44,v 45,v 46,v 47,v 48,v 49,v 50,v 51,v 52,v 53,v 54,v 55,v 56,v 57,v 58,v 59,v 60,v 61,v 62,v 63,v 64,v 65,v 66,v 67,v 68,v 69,v 70,v 71,v 72,v 73,v 74,v 75,v 76,v 77,v 78,v 79,v 80,v 81,v 82,v 83,v 84,v 85,v 86,v 87,v 88,v 89,v 90,v 91,v 92,v 93,v 94,v 95,v 96,v 97,v 98,v 99,v 100,v 101,v 102,v 103,v 104,v 105,v 106,v 107,v 108,v 109,v 110,v 111,v 112,v 113,v 114,v 115,v 116,v 117,v 118,v 119,v 120,v 121,v 122,v 123,v 124,v 125,v 126,v 127,v 128,v 129,v 130,v 131,v 132,v 133,v 134,v 135,v 136,v 137,v 138,v 139,v 140,v 141,v 142,v 143,v 144,v 145,v 146,v 147,v 148,v 149,v 150,v 151,v 152,v 153,v 154,v 155,v 156,v 157,v 158,v 159,v 160,v 161,v 162,v 163,v 164,v 165,v 166,v 167,v 168,v 169,v 170,v 171,v 172,v 173,v 174,v 175,v 176,v 177,v 178,v 179,v 180,v 181,v 182,v 183,v 184,v 185,v 186,v 187,v 188,v 189,v 190,v 191,v 192,v 193,v 194,v 195,v 196,v 197,v 198,v 199,v 200,v 201,v 202,v 203,v 204,v 205,v 206,v 207,v 208,v 209,v 210,v 211,v 212,v 213,v 214,v 215,v 216,v 217,v 218,v 219,v 220,v 221,v 222,v 223,v 224,v 225,v 226,v 227,v 228,v 229]:=by
 refine ⟨fun i=>t.toList.getD i undef,fun i=>Yy3,?_⟩
 apply Array.toList_inj.mp
 exact (list_range t.toList (by simpa using h)).trans (lit230 _)
def VC (w:World):Prop:=∀ c:Nat,c<256→w.cell? ⟨0,c,none⟩=some (.int .u8 (PFnGjSquashItems.vch (c:Int)))
open Go Go.RowKit Go.Proofs.YtieflhncpjjciaaGreatDoorW.PrintWords Go.Proofs.YtieflhncpjjciaaGreatDoor.PFnGjSquashItems
theorem slice_run (s:ByteArray) (a b:Nat) (h1:a≤b) (h2:b≤s.size) (W:World):(Instr.slice 9 (.string s) (some (.int .i64 (a:Int))) (some (.int .i64 (b:Int))) none).run Tryz.prog W = .ok (.string (s.extract a b)) W:=by
 rw [run_slice_string_if (P:=Tryz.prog) (w:=W) 9 s .i64 .i64 (a:Int) (b:Int) Tryz.underlying9,if_pos ⟨Yy0,Yy0⟩,if_pos ⟨Yy0,Yy0⟩]
 simp
theorem bt_ext {s:ByteArray} {i j k:Nat} (h:j≤s.size) (hk:k<(s.extract i j).size):((s.extract i j)[k].toNat:Int)=bt s ((i+k:Nat):Int):=by
 have h1:k<min j s.size - i:=by rw [ByteArray.size_extract] at hk;exact hk
 rw [PFnGjSquashItems.bt_at Yy0,ByteArray.getElem_extract]
structure JQ (w:World) (s:ByteArray) (b e i0:Nat) (a:Act) (w':World):Prop where
 defers:a.defers = []
 size:a.tmps.size=230
 s0:a.tmps.getD 0 undef = .string s
 s6:a.tmps.getD 6 undef = .int .i64 (b:Int)
 s2:a.tmps.getD 2 undef=undef
 s3:a.tmps.getD 3 undef=undef
 s14:a.tmps.getD 14 undef = .int .i64 (b:Int)
 s15:a.tmps.getD 15 undef = .int .i64 (b:Int)
 s16:a.tmps.getD 16 undef = .int .i64 ((b:Int)+1)
 s17:a.tmps.getD 17 undef = .int .i64 (i0:Int)
 s18:a.tmps.getD 18 undef = .string s
 s19:a.tmps.getD 19 undef = .int .i64 (s.size:Int)
 s20:a.tmps.getD 20 undef = .bool true
 s226:a.tmps.getD 226 undef=undef
 s227:a.tmps.getD 227 undef=undef
 s228:a.tmps.getD 228 undef=undef
 s229:a.tmps.getD 229 undef=undef
 st:∃ i d:Nat,a.tmps.getD 1 undef = .int .i64 (i:Int)∧a.tmps.getD 7 undef = .int .i64 (d:Int)∧a.tmps.getD 8 undef = .int .u8 (vch (bt s (i:Int)))∧vch (bt s (i:Int))≠0∧i0≤i∧Sq s e i d∧1≤d∧d≤i
 world:w'=w
structure JS (w:World) (s:ByteArray) (b e i0 p j d:Nat) (l m:Nat) (a:Act) (w':World):Prop where
 defers:a.defers = []
 size:a.tmps.size=230
 s0:a.tmps.getD 0 undef = .string s
 s6:a.tmps.getD 6 undef = .int .i64 (b:Int)
 s2:a.tmps.getD 2 undef=undef
 s3:a.tmps.getD 3 undef=undef
 s14:a.tmps.getD 14 undef = .int .i64 (b:Int)
 s15:a.tmps.getD 15 undef = .int .i64 (b:Int)
 s16:a.tmps.getD 16 undef = .int .i64 ((b:Int)+1)
 s17:a.tmps.getD 17 undef = .int .i64 (i0:Int)
 s18:a.tmps.getD 18 undef = .string s
 s19:a.tmps.getD 19 undef = .int .i64 (s.size:Int)
 s20:a.tmps.getD 20 undef = .bool true
 s226:a.tmps.getD 226 undef=undef
 s227:a.tmps.getD 227 undef=undef
 s228:a.tmps.getD 228 undef=undef
 s229:a.tmps.getD 229 undef=undef
 s7:a.tmps.getD 7 undef = .int .i64 (d:Int)
 s8:a.tmps.getD 8 undef = .int .u8 2
 s10:a.tmps.getD 10 undef = .int .i64 ((p+1:Nat):Int)
 st:∃ q:Nat,a.tmps.getD 1 undef = .int .i64 (q:Int)∧p+1≤q∧q≤j - 1∧((l=2∧m=3 * (s.size - q)+2)∨(l=1∧m=3 * (s.size - q)+1∧bt s (q:Int)=34)∨(l=3∧m=3 * (s.size - q)))
 world:w'=w
theorem squash_any {w:World} (hv:VC w) (s:ByteArray) (hs:s.size≤65536) (b e:Nat) (h:Sq s e (b+1) 1) :
  Calls Tryz.prog 77 #[.string s,.int .i64 (b:Int)] w fun en w'=>en = .returned (.tuple #[.int .i64 ((e+1:Nat):Int),.string (s.extract b (e+1))])∧∃ q,w'=w.drewN q:=by
 have HV:=hdd hv;clear hv
 have hb:=h.le
 have he:=h.end_lt
 have b0:0≤(b:Int):=Yy0
 have b1:(b:Int)≤65536:=Yy0
 have ss:(s.size:Int)≤65536:=Yy0
 have H:=hdd h;clear h
 go_enter Tryz.func77,Tryz.ntmps77
 go_wp2_with fail
 go_loopg [1,7,8] (s.size - (b+1)) (fun m v1 v7 v8 wd=>∃ (i d:Nat) (c:Int),v1 = .int .i64 (i:Int)∧v7 = .int .i64 (d:Int)∧v8 = .int .u8 c∧Hid (i+m=s.size)∧Hid (Sq s e i d)∧Hid (1≤d∧d≤i)∧Hid (wd=w))
 case atStart=>exact ⟨b+1,1,0,Yy5,rfl,rfl,hdd Yy0,H,hdd Yy0,hdd rfl⟩
 case round =>
  obtain ⟨i,d,c,rfl,rfl,rfl,hi,hq,hd,hw⟩:=hrel
  have hlt:i<s.size:=by have:=hq.out.lt;omega
  have i0:0≤(i:Int):=Yy0
  have i1:(i:Int)<65536:=Yy0
  have d0:1≤(d:Int):=by have:=hd.out;omega
  have d1:(d:Int)<65536:=by have:=hd.out;omega
  have t1:decide (i<s.size)=true:=dtt hlt
  go_upto_block 1 with (fail)
  go_cut [1,7,8] (fun v1 v7 v8 wd=>∃ (i' d:Nat) (c:Int),v1 = .int .i64 (i':Int)∧v7 = .int .i64 (d:Int)∧v8 = .int .u8 c∧Hid (i<i')∧Hid (Sq s e i' d)∧Hid (1≤d∧d≤i')∧Hid (wd=w))
  case first =>
   go_wp2_with fail
   refine scope_one (JQ w s b e i) _ rfl ?_ ?_
   ·
    rintro a' w' hJ
    obtain ⟨t,ds⟩:=a'
    obtain ⟨j1,j2,j3,j4,k2,k3,k14,k15,k16,k17,k18,k19,k20,k226,k227,k228,k229,⟨p,dd,j5,j6,j7,hne,hle,hq,hd1,hd2⟩,hw⟩:=hJ
    obtain ⟨v,hv,rfl⟩:=frame230 t j2
    obtain rfl:ds = []:=j1
    rw [← hv] at j3 j4 j5 j6 j7 k2 k3 k14 k15 k16 k17 k18 k19 k20 k226 k227 k228 k229
    rw [j3,j4,j5,j6,j7,k2,k3,k14,k15,k16,k17,k18,k19,k20,k226,k227,k228,k229]
    clear hv j2 j3 j4 j5 j6 j7 k2 k3 k14 k15 k16 k17 k18 k19 k20 k226 k227 k228 k229
    have HQ:=hdd hq
    have HW:=hdd hw
    have plt:=hq.lt
    have p0:0≤(p:Int):=Yy0
    have p1:(p:Int)<65536:=Yy0
    have dd0:1≤(dd:Int):=Yy0
    have dd1:(dd:Int)<65536:=Yy0
    have HLE:=hdd hle
    have HD2:=hdd hd2
    clear hle hd2 hw
    rcases vch_cases (bt s (p:Int)) with hx | hx | hx | hx
    ·
     exact absurd hx hne
    ·
     rw [hx]
     rcases hq.next1 hx with ⟨e1,e2⟩ | ⟨e1,e2⟩
     ·
      subst e1
      subst e2
      have HX:=hdd hx
      clear hx hq hne
      obtain ⟨en,hen⟩:∃ en:Nat,(p:Int)+1=(en:Int):=⟨p+1,Yy0⟩
      have en0:0≤(en:Int):=Yy0
      have hsl:∀ W,(Instr.slice 9 (.string s) (some (.int .i64 (b:Int))) (some (.int .i64 (en:Int))) none).run Tryz.prog W = .ok (.string (s.extract b en)) W:=fun W=>slice_run s b en Yy0 Yy0 W
      have HEN:=hdd hen
      go_wp2_with fail
      go_quiet (fail)
      go_wp2_with fail
      simp only [jumps,Exit.inBlock,Exit.then]
      go_ret2
      obtain rfl:en=p+1:=by have:=HEN.out;omega
      refine ⟨rfl,nq,?_⟩
      rw [HW.out]
     ·
      have E2':=hdd e2
      have hd2':2≤dd:=e1
      have HX:=hdd hx
      clear hx hq hne e2
      obtain ⟨m,hm⟩:∃ m:Nat,(dd:Int) - 1=(m:Int):=⟨dd - 1,Yy0⟩
      have hm':(dd:Int) + -1=(m:Int):=Yy0
      have dt:((m:Int) == 0)=false:=bfo Yy0
      have HM:=hdd hm
      go_wp2_with fail
      simp only [jumps,Exit.inBlock,Exit.then]
      go_wp2_with fail
      go_meet
      obtain rfl:m=dd - 1:=by have:=HM.out;omega
      exact ⟨p+1,dd - 1,_,rfl,rfl,rfl,hdd (by have:=HLE.out;omega),E2',hdd (by have:=HD2.out;omega),HW⟩
    ·
     obtain ⟨j,hst,hqj⟩:=hq.next2 hx
     have ST:=hdd hst
     have QJ:=hdd hqj
     rw [hx]
     clear hx hq hne hst hqj
     go_wp2_with fail
     refine scope_three (JS w s b e i p j dd) _ _ _ rfl rfl rfl ?_ ?_ ?_ ?_
     ·
      intro m a' w' hJ
      obtain ⟨t,ds⟩:=a'
      obtain ⟨j1,j2,j3,j4,k2,k3,k14,k15,k16,k17,k18,k19,k20,k226,k227,k228,k229,j7,j8,j10,⟨q,jq,hq1,hq2,hq3⟩,hw2⟩:=hJ
      obtain ⟨z,hv,rfl⟩:=frame230 t j2
      obtain rfl:ds = []:=j1
      rw [← hv] at j3 j4 k2 k3 k14 k15 k16 k17 k18 k19 k20 k226 k227 k228 k229 j7 j8 j10 jq
      rw [j3,j4,k2,k3,k14,k15,k16,k17,k18,k19,k20,k226,k227,k228,k229,j7,j8,j10,jq]
      clear hv j2 j3 j4 k2 k3 k14 k15 k16 k17 k18 k19 k20 k226 k227 k228 k229 j7 j8 j10 jq
      have HW2:=hdd hw2;clear hw2
      have hst0:=ST.out
      have hjs:j≤s.size:=hst0.2.1
      have q0:0≤(q:Int):=Yy0
      have q1:(q:Int)<65536:=Yy0
      have pp0:0≤(p:Int):=Yy0
      have HST:=hdd hst0;clear hst0
      obtain ⟨-,hm⟩:3=3∧m=3 * (s.size - q):=by rcases hq3 with h | h | h;omega;omega;exact h
      clear hq3
      have HM:=hdd hm;clear hm
      as_aux_lemma=>
      go_wp2_with fail
      go_loopg [1,12,13] (s.size - q) (fun M v1 v12 v13 wd=>∃ r:Nat,v1 = .int .i64 (r:Int)∧Hid (q≤r∧r≤j - 1)∧Hid (r+M=s.size)∧Hid (wd=w))
      case atStart=>exact ⟨q,rfl,hdd ⟨nlr _,hq2⟩,hdd Yy0,HW2⟩
      case round=>
       obtain ⟨r,rfl,hr,hrm,hwr⟩:=hrel
       have h1:=hr.out
       have rlt:r<s.size:=Yy0
       have r0:0≤(r:Int):=Yy0
       have r1:(r:Int)<65536:=Yy0
       have tr:decide (r<s.size)=true:=dtt rlt
       clear h1
       by_cases c34:s[r].toNat=34
       ·
        have n92:decide ((92:Int)<(s[r].toNat:Int))=false:=dff Yy0
        have n34:((s[r].toNat:Int) != 34)=false:=by rw [c34];rfl
        have B34:Hid (bt s (r:Int)=34):=hdd (by rw [PFnGjSquashItems.bt_at rlt,c34];rfl)
        have C34:=hdd c34;clear c34
        obtain ⟨u,hu⟩:∃ u:Nat,(r:Int) - 1=(u:Int):=⟨r - 1,by have:=hr.out;omega⟩
        have ult:u<s.size:=Yy0
        have HU:=hdd hu
        by_cases c92:s[u].toNat=92
        ·
         have y92:((s[u].toNat:Int) == 92)=true:=by rw [c92];rfl
         have B92:Hid (bt s (u:Int)=92):=hdd (by rw [PFnGjSquashItems.bt_at ult,c92];rfl)
         have C92:=hdd c92;clear c92
         have rp:Hid (p+2≤r):=hdd (by
          have h1:=hr.out;have h2:=HU.out;have h3:=B92.out;have h4:=HST.out.2.2.1
          rcases Nat.lt_or_ge r (p+2) with h | h
          ·
           obtain rfl:u=p:=Yy0
           omega
          ·
           exact h)
         obtain ⟨x,hx⟩:∃ x:Nat,(r:Int) - 2=(x:Int):=⟨r - 2,by have:=rp.out;omega⟩
         have HX2:=hdd hx
         go_upto_block 8 with (fail)
         go_cut [12,13] (fun v12 v13 we=>∃ n:Nat,v12 = .int .i64 (n:Int)∧Hid (odd s p r=decide ((n+1) % 2=1))∧Hid (n≤r)∧Hid (we=w))
         case first=>
          as_aux_lemma=>
          go_wp2_with fail
          go_loopg [12,13] x (fun M v12 v13 we=>∃ (n:Nat) (y:Nat),v12 = .int .i64 (n:Int)∧v13 = .int .i64 (y:Int)∧Hid (y+n+2=r)∧Hid (p≤y)∧Hid (∀ g,y<g→g<r→bt s (g:Int)=92)∧Hid (M=y)∧Hid (we=w))
          case atStart=>
           exact ⟨0,x,rfl,rfl,hdd (by have:=HX2.out;have:=rp.out;omega),hdd (by have:=HX2.out;have:=rp.out;omega),hdd (fun g g1 g2=>by have:=HX2.out;have:=HU.out;obtain rfl:g=u:=Yy0;exact B92.out),hdd rfl,hwr⟩
          case round=>
           obtain ⟨n,y,rfl,rfl,hyn,hpy,hall,hMy,hwe⟩:=hrel
           have n0:0≤(n:Int):=Yy0
           have n1:(n:Int)<65536:=Yy28
           have y0:0≤(y:Int):=Yy0
           have y1:(y:Int)<65536:=Yy28
           have ylt:y<s.size:=Yy28
           by_cases hp:p<y
           ·
            have tp:decide (p<y)=true:=dtt hp
            have tp':decide ((p:Int)<(y:Int))=true:=dtt Yy0
            have HP:=hdd hp;clear hp
            by_cases c:s[y].toNat=92
            ·
             have yc:((s[y].toNat:Int) != 92)=false:=by rw [c];rfl
             have BC:Hid (bt s (y:Int)=92):=hdd (by rw [PFnGjSquashItems.bt_at ylt,c];rfl)
             have C:=hdd c;clear c
             obtain ⟨y',hy'⟩:∃ y':Nat,(y:Int) - 1=(y':Int):=⟨y - 1,by have:=HP.out;omega⟩
             have HY':=hdd hy'
             go_wp2_with fail
             go_roundg y'
             case measure=>have:=hMy.out;have:=HY'.out;omega
             case rel=>exact ⟨n+1,y',Yy5,rfl,hdd (by have:=hyn.out;have:=HY'.out;omega),hdd (by have:=HP.out;have:=HY'.out;omega),hdd (fun g g1 g2=>by rcases eol (show y≤g by have:=HY'.out;omega) with h | h <;> first | exact hall.out g h g2 | (rw [← h];exact BC.out)),hdd rfl,hwe⟩
            ·
             have yc:((s[y].toNat:Int) != 92)=true:=bne_iff_ne.mpr Yy0
             have BC:Hid (bt s (y:Int)≠92):=hdd (by rw [PFnGjSquashItems.bt_at ylt];omega)
             have C:=hdd c;clear c
             go_wp2_with fail
             go_meet
             exact ⟨n,rfl,hdd (odd_bsl (n+1) r (by have:=hyn.out;have:=HP.out;omega) (fun g g1 g2=>hall.out g Yy28 g2) (.inr (by rw [show r - (n+1) - 1=y from Yy28];exact BC.out))),hdd Yy28,hwe⟩
           ·
            have tp:decide (p<y)=false:=dff hp
            have tp':decide ((p:Int)<(y:Int))=false:=dff Yy0
            have HP:=hdd hp;clear hp
            go_wp2_with fail
            go_meet
            exact ⟨n,rfl,hdd (odd_bsl (n+1) r (by have:=hyn.out;have:=hpy.out;omega) (fun g g1 g2=>hall.out g Yy28 g2) (.inl (by have:=hyn.out;have:=hpy.out;have:=HP.out;omega))),hdd Yy28,hwe⟩
         case rest=>
          obtain ⟨n,rfl,ho,hn,hwe⟩:=hcut
          have n0:0≤(n:Int):=Yy0
          have n1:(n:Int)≤65536:=by have:=hn.out;omega
          by_cases ev:n % 2=0
          ·
           have te:(((n:Int) % 2) == 0)=true:=beq_iff_eq.mpr Yy0
           have HO:Hid (r+1≤j - 1):=hdd (by
            have h1:=ho.out;have h2:=HST.out.2.2.2.2.1;have h3:=hr.out;have h4:=HST.out.1
            rcases Nat.lt_or_ge r (j - 1) with h | h
            ·
             omega
            ·
             rw [show j - 1=r from Yy0,h1] at h2;simp at h2;omega)
           have EV:=hdd ev;clear ev
           go_wp2_with fail
           go_step3
           simp only [Exit.then,Exit.inBlock]
           exact show JL _ m 2 _ _ from ⟨3 * (s.size - (r+1))+2,by have:=HM.out;have:=hr.out;have:=HO.out;omega,.inr (.inl rfl),⟨rfl,rfl,rfl,rfl,rfl,rfl,rfl,rfl,rfl,rfl,rfl,rfl,rfl,rfl,rfl,rfl,rfl,rfl,rfl,rfl,⟨r+1,rfl,by have:=hr.out;omega,HO.out,.inl ⟨rfl,rfl⟩⟩,hwe.out⟩⟩
          ·
           have te:(((n:Int) % 2) == 0)=false:=bfo Yy0
           have hrj:r=j - 1:=by
            have h1:=ho.out;have h3:=hr.out;have h4:=HST.out.1
            rcases Nat.lt_or_ge r (j - 1) with h | h
            ·
             have h2:=HST.out.2.2.2.2.2 r Yy0 h B34.out
             rw [h1] at h2;simp at h2;omega
            ·
             omega
           have HRJ:=hdd hrj;clear hrj
           have EV:=hdd ev;clear ev
           go_wp2_with fail
           simp only [jumps,Exit.inBlock,Exit.then]
           go_wp2_with fail
           try simp only [jumps,Exit.inBlock,Exit.then]
           go_wp2_with fail
           have hrj:=HRJ.out
           have:=HST.out.1
           go_meet
           exact ⟨r+1,dd,_,rfl,rfl,rfl,hdd (by have:=HLE.out;have:=hr.out;omega),by rw [show r+1=j from Yy0];exact QJ,hdd (by have:=HD2.out;have:=hr.out;omega),hwe⟩
        ·
         have y92:((s[u].toNat:Int) == 92)=false:=bfo Yy0
         have B92:Hid (bt s ((r - 1:Nat):Int)≠92):=hdd (by rw [show r - 1=u from Yy0,PFnGjSquashItems.bt_at ult];omega)
         have C92:=hdd c92;clear c92
         go_wp2_with fail
         simp only [jumps,Exit.inBlock,Exit.then]
         go_wp2_with fail
         try simp only [jumps,Exit.inBlock,Exit.then]
         go_wp2_with fail
         have hrj:r=j - 1:=HST.out.quote (by have:=hr.out;omega) hr.out.2 B34.out B92.out
         have:=HST.out.1
         go_meet
         exact ⟨r+1,dd,_,rfl,rfl,rfl,hdd (by have:=HLE.out;have:=hr.out;omega),by rw [show r+1=j from Yy0];exact QJ,hdd (by have:=HD2.out;have:=hr.out;omega),hwr⟩
       ·
        have n34:((s[r].toNat:Int) != 34)=true:=bne_iff_ne.mpr Yy0
        have hrj:Hid (r+1≤j - 1):=hdd (by
         have h1:=hr.out;have h2:=HST.out.2.2.2.1;have h3:=HST.out.1
         rcases Nat.lt_or_ge r (j - 1) with h | h
         ·
          omega
         ·
          rw [show j - 1=r from Yy0,PFnGjSquashItems.bt_at rlt] at h2;omega)
        have C34:=hdd c34;clear c34
        by_cases c92:92<s[r].toNat
        ·
         have n92:decide ((92:Int)<(s[r].toNat:Int))=true:=dtt Yy0
         have C92:=hdd c92;clear c92
         go_wp2_with fail
         go_roundg (gk - 1)
         case measure=>have:=hrm.out;omega
         case rel=>exact ⟨r+1,rfl,hdd (by have:=hr.out;have:=hrj.out;omega),hdd (by have:=hrm.out;omega),hwr⟩
        ·
         have n92:decide ((92:Int)<(s[r].toNat:Int))=false:=dff Yy0
         have C92:=hdd c92;clear c92
         go_wp2_with fail
         go_roundg (gk - 1)
         case measure=>have:=hrm.out;omega
         case rel=>exact ⟨r+1,rfl,hdd (by have:=hr.out;have:=hrj.out;omega),hdd (by have:=hrm.out;omega),hwr⟩
     ·
      intro m H3 a' w' hJ
      obtain ⟨t,ds⟩:=a'
      obtain ⟨j1,j2,j3,j4,k2,k3,k14,k15,k16,k17,k18,k19,k20,k226,k227,k228,k229,j7,j8,j10,⟨q,jq,hq1,hq2,hq3⟩,hw2⟩:=hJ
      obtain ⟨z,hv,rfl⟩:=frame230 t j2
      obtain rfl:ds = []:=j1
      rw [← hv] at j3 j4 k2 k3 k14 k15 k16 k17 k18 k19 k20 k226 k227 k228 k229 j7 j8 j10 jq
      rw [j3,j4,k2,k3,k14,k15,k16,k17,k18,k19,k20,k226,k227,k228,k229,j7,j8,j10,jq]
      clear hv j2 j3 j4 k2 k3 k14 k15 k16 k17 k18 k19 k20 k226 k227 k228 k229 j7 j8 j10 jq
      have HW2:=hdd hw2;clear hw2
      have hst0:=ST.out
      have hjs:j≤s.size:=hst0.2.1
      have q0:0≤(q:Int):=Yy0
      have q1:(q:Int)<65536:=Yy0
      have pp0:0≤(p:Int):=Yy0
      have HST:=hdd hst0;clear hst0
      obtain ⟨hm,hb34⟩:m=3 * (s.size - q)+1∧bt s (q:Int)=34:=by rcases hq3 with h | h | h;omega;exact h.2;omega
      clear hq3
      have HM:=hdd hm;clear hm
      have B34:=hdd hb34;clear hb34
      obtain ⟨u,hu⟩:∃ u:Nat,(q:Int) - 1=(u:Int):=⟨q - 1,Yy0⟩
      have ult:u<s.size:=Yy0
      have HU:=hdd hu
      by_cases c92:s[u].toNat=92
      ·
       have y92:((s[u].toNat:Int) != 92)=false:=by rw [c92];rfl
       have C92:=hdd c92;clear c92
       as_aux_lemma=>
       go_wp2_with fail
       go_step3
       simp only [Exit.then,Exit.inBlock]
       rename_i hK
       exact hK _ _ (H3 (3 * (s.size - q)) _ _ ⟨rfl,rfl,rfl,rfl,rfl,rfl,rfl,rfl,rfl,rfl,rfl,rfl,rfl,rfl,rfl,rfl,rfl,rfl,rfl,rfl,⟨q,rfl,hq1,hq2,.inr (.inr ⟨rfl,rfl⟩)⟩,HW2.out⟩ (by have:=HM.out;omega))
      ·
       have y92:((s[u].toNat:Int) != 92)=true:=bne_iff_ne.mpr Yy0
       have B92:Hid (bt s ((q - 1:Nat):Int)≠92):=hdd (by rw [show q - 1=u from Yy0,PFnGjSquashItems.bt_at ult];omega)
       have C92:=hdd c92;clear c92
       as_aux_lemma=>
       go_wp2_with fail
       simp only [jumps,Exit.inBlock,Exit.then]
       go_wp2_with fail
       simp only [jumps,Exit.inBlock,Exit.then,if_true]
       first | go_meet | (rename_i hK;refine hK _ _ ?_;go_meet) | (go_wp2_with fail;go_meet)
       have hrj:q=j - 1:=HST.out.quote Yy0 hq2 B34.out B92.out
       have:=HST.out.1
       exact ⟨q+1,dd,_,rfl,rfl,rfl,hdd (by have:=HLE.out;omega),by rw [show q+1=j from Yy0];exact QJ,hdd (by have:=HD2.out;omega),HW2⟩
     ·
      intro m a' w' hJ
      obtain ⟨t,ds⟩:=a'
      obtain ⟨j1,j2,j3,j4,k2,k3,k14,k15,k16,k17,k18,k19,k20,k226,k227,k228,k229,j7,j8,j10,⟨q,jq,hq1,hq2,hq3⟩,hw2⟩:=hJ
      obtain ⟨z,hv,rfl⟩:=frame230 t j2
      obtain rfl:ds = []:=j1
      rw [← hv] at j3 j4 k2 k3 k14 k15 k16 k17 k18 k19 k20 k226 k227 k228 k229 j7 j8 j10 jq
      rw [j3,j4,k2,k3,k14,k15,k16,k17,k18,k19,k20,k226,k227,k228,k229,j7,j8,j10,jq]
      clear hv j2 j3 j4 k2 k3 k14 k15 k16 k17 k18 k19 k20 k226 k227 k228 k229 j7 j8 j10 jq
      have HW2:=hdd hw2;clear hw2
      have hst0:=ST.out
      have hjs:j≤s.size:=hst0.2.1
      have q0:0≤(q:Int):=Yy0
      have q1:(q:Int)<65536:=Yy0
      have pp0:0≤(p:Int):=Yy0
      have HST:=hdd hst0;clear hst0
      have hm:m=3 * (s.size - q)+2:=by rcases hq3 with h | h | h;exact h.2;omega;omega
      clear hq3
      have HM:=hdd hm;clear hm
      have HQ1:=hdd hq1;clear hq1
      go_wp2_with fail
      go_loopg [1,11] (s.size - q) (fun M v1 v11 wd=>∃ r:Nat,v1 = .int .i64 (r:Int)∧Hid (q≤r∧r≤j - 1)∧Hid (r+M=s.size)∧Hid (wd=w))
      case atStart=>exact ⟨q,rfl,hdd ⟨nlr _,hq2⟩,hdd Yy0,HW2⟩
      case round=>
       obtain ⟨r,rfl,hr,hrm,hwr⟩:=hrel
       have h1:=hr.out
       have rlt:r<s.size:=Yy0
       have r0:0≤(r:Int):=Yy0
       have r1:(r:Int)<65536:=Yy0
       clear h1
       by_cases big:r+8<s.size
       ·
        have t2:decide ((r:Int)<(s.size:Int) - 8)=true:=dtt Yy0
        have t3:r+8≤s.size:=Yy0
        obtain ⟨j8,hj8⟩:∃ j8:Nat,(r:Int)+8=(j8:Int):=⟨r+8,Yy0⟩
        obtain ⟨S8,hS8⟩:∃ S8,s.extract r j8=S8:=⟨_,rfl⟩
        have hsl:∀ W,(Instr.slice 9 (.string s) (some (.int .i64 (r:Int))) (some (.int .i64 (j8:Int))) none).run Tryz.prog W = .ok (.string S8) W:=fun W=>by rw [← hS8];exact slice_run s r j8 Yy0 Yy0 W
        have hz:S8.size=8:=by rw [← hS8,ByteArray.size_extract];omega
        have hbt:∀ k (hk:k<8),(S8[k].toNat:Int)=bt s ((r+k:Nat):Int):=fun k hk=>by subst hS8;exact bt_ext Yy0 Yy0
        have HZ:=hdd hbt;clear hbt
        have HJ8:=hdd hj8
        clear hS8
        by_cases y0:S8[0].toNat=34
        ·
         have e0:((S8[0].toNat:Int) == 34)=true:=by rw [y0];rfl
         have B0:Hid (bt s ((r+0:Nat):Int)=34):=hdd (by rw [← HZ.out 0 Yy0,y0];rfl)
         have Y0:=hdd y0;clear y0
         as_aux_lemma=>
         go_wp2_with fail
         go_step3
         simp only [Exit.then,Exit.inBlock]
         have hin:r+0≤j - 1:=by
          have h1:=hr.out;have h2:=HST.out.2.2.2.1;have h3:=HST.out.1
          rcases Nat.lt_or_ge (j - 1) (r+0) with h | h
          ·
           exfalso
           obtain ⟨g,hg⟩:∃ g,j - 1=r+g:=⟨j - 1 - r,Yy0⟩
           have h4:=HZ.out g Yy0
           rw [← hg,h2] at h4
           have hg0:g<0:=Yy0
           omega
          ·
           exact h
         exact show JL _ m 1 _ _ from ⟨3 * (s.size - (r+0))+1,Yy22,.inl rfl,⟨rfl,rfl,rfl,rfl,rfl,rfl,rfl,rfl,rfl,rfl,rfl,rfl,rfl,rfl,rfl,rfl,rfl,rfl,rfl,rfl,⟨r+0,rfl,Yy23,hin,.inr (.inl ⟨rfl,rfl,B0.out⟩)⟩,hwr.out⟩⟩
        have e0:((S8[0].toNat:Int) == 34)=false:=bfo Yy0
        by_cases y1:S8[1].toNat=34
        ·
         have e1:((S8[1].toNat:Int) == 34)=true:=by rw [y1];rfl
         have B1:Hid (bt s ((r+1:Nat):Int)=34):=hdd (by rw [← HZ.out 1 Yy0,y1];rfl)
         have Y1:=hdd y1;clear y1
         as_aux_lemma=>
         go_wp2_with fail
         go_step3
         simp only [Exit.then,Exit.inBlock]
         have hin:r+1≤j - 1:=by
          have h1:=hr.out;have h2:=HST.out.2.2.2.1;have h3:=HST.out.1
          rcases Nat.lt_or_ge (j - 1) (r+1) with h | h
          ·
           exfalso
           obtain ⟨g,hg⟩:∃ g,j - 1=r+g:=⟨j - 1 - r,Yy0⟩
           have h4:=HZ.out g Yy0
           rw [← hg,h2] at h4
           have hg1:g<1:=Yy0
           first | omega | (have:g=0:=Yy0;rcases this with rfl <;> omega)
          ·
           exact h
         exact show JL _ m 1 _ _ from ⟨3 * (s.size - (r+1))+1,Yy22,.inl rfl,⟨rfl,rfl,rfl,rfl,rfl,rfl,rfl,rfl,rfl,rfl,rfl,rfl,rfl,rfl,rfl,rfl,rfl,rfl,rfl,rfl,⟨r+1,rfl,Yy23,hin,.inr (.inl ⟨rfl,rfl,B1.out⟩)⟩,hwr.out⟩⟩
        have e1:((S8[1].toNat:Int) == 34)=false:=bfo Yy0
        by_cases y2:S8[2].toNat=34
        ·
         have e2:((S8[2].toNat:Int) == 34)=true:=by rw [y2];rfl
         have B2:Hid (bt s ((r+2:Nat):Int)=34):=hdd (by rw [← HZ.out 2 Yy0,y2];rfl)
         have Y2:=hdd y2;clear y2
         as_aux_lemma=>
         go_wp2_with fail
         go_step3
         simp only [Exit.then,Exit.inBlock]
         have hin:r+2≤j - 1:=by
          have h1:=hr.out;have h2:=HST.out.2.2.2.1;have h3:=HST.out.1
          rcases Nat.lt_or_ge (j - 1) (r+2) with h | h
          ·
           exfalso
           obtain ⟨g,hg⟩:∃ g,j - 1=r+g:=⟨j - 1 - r,Yy0⟩
           have h4:=HZ.out g Yy0
           rw [← hg,h2] at h4
           have hg2:g<2:=Yy0
           first | omega | (have:g=0∨g=1:=Yy0;rcases this with rfl | rfl <;> omega)
          ·
           exact h
         exact show JL _ m 1 _ _ from ⟨3 * (s.size - (r+2))+1,Yy22,.inl rfl,⟨rfl,rfl,rfl,rfl,rfl,rfl,rfl,rfl,rfl,rfl,rfl,rfl,rfl,rfl,rfl,rfl,rfl,rfl,rfl,rfl,⟨r+2,rfl,Yy23,hin,.inr (.inl ⟨rfl,rfl,B2.out⟩)⟩,hwr.out⟩⟩
        have e2:((S8[2].toNat:Int) == 34)=false:=bfo Yy0
        by_cases y3:S8[3].toNat=34
        ·
         have e3:((S8[3].toNat:Int) == 34)=true:=by rw [y3];rfl
         have B3:Hid (bt s ((r+3:Nat):Int)=34):=hdd (by rw [← HZ.out 3 Yy0,y3];rfl)
         have Y3:=hdd y3;clear y3
         as_aux_lemma=>
         go_wp2_with fail
         go_step3
         simp only [Exit.then,Exit.inBlock]
         have hin:r+3≤j - 1:=by
          have h1:=hr.out;have h2:=HST.out.2.2.2.1;have h3:=HST.out.1
          rcases Nat.lt_or_ge (j - 1) (r+3) with h | h
          ·
           exfalso
           obtain ⟨g,hg⟩:∃ g,j - 1=r+g:=⟨j - 1 - r,Yy0⟩
           have h4:=HZ.out g Yy0
           rw [← hg,h2] at h4
           have hg3:g<3:=Yy0
           first | omega | (have:g=0∨g=1∨g=2:=Yy0;rcases this with rfl | rfl | rfl <;> omega)
          ·
           exact h
         exact show JL _ m 1 _ _ from ⟨3 * (s.size - (r+3))+1,Yy22,.inl rfl,⟨rfl,rfl,rfl,rfl,rfl,rfl,rfl,rfl,rfl,rfl,rfl,rfl,rfl,rfl,rfl,rfl,rfl,rfl,rfl,rfl,⟨r+3,rfl,Yy23,hin,.inr (.inl ⟨rfl,rfl,B3.out⟩)⟩,hwr.out⟩⟩
        have e3:((S8[3].toNat:Int) == 34)=false:=bfo Yy0
        by_cases y4:S8[4].toNat=34
        ·
         have e4:((S8[4].toNat:Int) == 34)=true:=by rw [y4];rfl
         have B4:Hid (bt s ((r+4:Nat):Int)=34):=hdd (by rw [← HZ.out 4 Yy0,y4];rfl)
         have Y4:=hdd y4;clear y4
         as_aux_lemma=>
         go_wp2_with fail
         go_step3
         simp only [Exit.then,Exit.inBlock]
         have hin:r+4≤j - 1:=by
          have h1:=hr.out;have h2:=HST.out.2.2.2.1;have h3:=HST.out.1
          rcases Nat.lt_or_ge (j - 1) (r+4) with h | h
          ·
           exfalso
           obtain ⟨g,hg⟩:∃ g,j - 1=r+g:=⟨j - 1 - r,Yy0⟩
           have h4:=HZ.out g Yy0
           rw [← hg,h2] at h4
           have hg4:g<4:=Yy0
           first | omega | (have:g=0∨g=1∨g=2∨g=3:=Yy0;rcases this with rfl | rfl | rfl | rfl <;> omega)
          ·
           exact h
         exact show JL _ m 1 _ _ from ⟨3 * (s.size - (r+4))+1,Yy22,.inl rfl,⟨rfl,rfl,rfl,rfl,rfl,rfl,rfl,rfl,rfl,rfl,rfl,rfl,rfl,rfl,rfl,rfl,rfl,rfl,rfl,rfl,⟨r+4,rfl,Yy23,hin,.inr (.inl ⟨rfl,rfl,B4.out⟩)⟩,hwr.out⟩⟩
        have e4:((S8[4].toNat:Int) == 34)=false:=bfo Yy0
        by_cases y5:S8[5].toNat=34
        ·
         have e5:((S8[5].toNat:Int) == 34)=true:=by rw [y5];rfl
         have B5:Hid (bt s ((r+5:Nat):Int)=34):=hdd (by rw [← HZ.out 5 Yy0,y5];rfl)
         have Y5:=hdd y5;clear y5
         as_aux_lemma=>
         go_wp2_with fail
         go_step3
         simp only [Exit.then,Exit.inBlock]
         have hin:r+5≤j - 1:=by
          have h1:=hr.out;have h2:=HST.out.2.2.2.1;have h3:=HST.out.1
          rcases Nat.lt_or_ge (j - 1) (r+5) with h | h
          ·
           exfalso
           obtain ⟨g,hg⟩:∃ g,j - 1=r+g:=⟨j - 1 - r,Yy0⟩
           have h4:=HZ.out g Yy0
           rw [← hg,h2] at h4
           have hg5:g<5:=Yy0
           first | omega | (have:g=0∨g=1∨g=2∨g=3∨g=4:=Yy0;rcases this with rfl | rfl | rfl | rfl | rfl <;> omega)
          ·
           exact h
         exact show JL _ m 1 _ _ from ⟨3 * (s.size - (r+5))+1,Yy22,.inl rfl,⟨rfl,rfl,rfl,rfl,rfl,rfl,rfl,rfl,rfl,rfl,rfl,rfl,rfl,rfl,rfl,rfl,rfl,rfl,rfl,rfl,⟨r+5,rfl,Yy23,hin,.inr (.inl ⟨rfl,rfl,B5.out⟩)⟩,hwr.out⟩⟩
        have e5:((S8[5].toNat:Int) == 34)=false:=bfo Yy0
        by_cases y6:S8[6].toNat=34
        ·
         have e6:((S8[6].toNat:Int) == 34)=true:=by rw [y6];rfl
         have B6:Hid (bt s ((r+6:Nat):Int)=34):=hdd (by rw [← HZ.out 6 Yy0,y6];rfl)
         have Y6:=hdd y6;clear y6
         as_aux_lemma=>
         go_wp2_with fail
         go_step3
         simp only [Exit.then,Exit.inBlock]
         have hin:r+6≤j - 1:=by
          have h1:=hr.out;have h2:=HST.out.2.2.2.1;have h3:=HST.out.1
          rcases Nat.lt_or_ge (j - 1) (r+6) with h | h
          ·
           exfalso
           obtain ⟨g,hg⟩:∃ g,j - 1=r+g:=⟨j - 1 - r,Yy0⟩
           have h4:=HZ.out g Yy0
           rw [← hg,h2] at h4
           have hg6:g<6:=Yy0
           first | omega | (have:g=0∨g=1∨g=2∨g=3∨g=4∨g=5:=Yy0;rcases this with rfl | rfl | rfl | rfl | rfl | rfl <;> omega)
          ·
           exact h
         exact show JL _ m 1 _ _ from ⟨3 * (s.size - (r+6))+1,Yy22,.inl rfl,⟨rfl,rfl,rfl,rfl,rfl,rfl,rfl,rfl,rfl,rfl,rfl,rfl,rfl,rfl,rfl,rfl,rfl,rfl,rfl,rfl,⟨r+6,rfl,Yy23,hin,.inr (.inl ⟨rfl,rfl,B6.out⟩)⟩,hwr.out⟩⟩
        have e6:((S8[6].toNat:Int) == 34)=false:=bfo Yy0
        by_cases y7:S8[7].toNat=34
        ·
         have e7:((S8[7].toNat:Int) == 34)=true:=by rw [y7];rfl
         have B7:Hid (bt s ((r+7:Nat):Int)=34):=hdd (by rw [← HZ.out 7 Yy0,y7];rfl)
         have Y7:=hdd y7;clear y7
         as_aux_lemma=>
         go_wp2_with fail
         go_step3
         simp only [Exit.then,Exit.inBlock]
         have hin:r+7≤j - 1:=by
          have h1:=hr.out;have h2:=HST.out.2.2.2.1;have h3:=HST.out.1
          rcases Nat.lt_or_ge (j - 1) (r+7) with h | h
          ·
           exfalso
           obtain ⟨g,hg⟩:∃ g,j - 1=r+g:=⟨j - 1 - r,Yy0⟩
           have h4:=HZ.out g Yy0
           rw [← hg,h2] at h4
           have hg7:g<7:=Yy0
           first | omega | (have:g=0∨g=1∨g=2∨g=3∨g=4∨g=5∨g=6:=Yy0;rcases this with rfl | rfl | rfl | rfl | rfl | rfl | rfl <;> omega)
          ·
           exact h
         exact show JL _ m 1 _ _ from ⟨3 * (s.size - (r+7))+1,Yy22,.inl rfl,⟨rfl,rfl,rfl,rfl,rfl,rfl,rfl,rfl,rfl,rfl,rfl,rfl,rfl,rfl,rfl,rfl,rfl,rfl,rfl,rfl,⟨r+7,rfl,Yy23,hin,.inr (.inl ⟨rfl,rfl,B7.out⟩)⟩,hwr.out⟩⟩
        have e7:((S8[7].toNat:Int) == 34)=false:=bfo Yy0
        have hin:Hid (r+8≤j - 1):=hdd (by
         have h1:=hr.out;have h2:=HST.out.2.2.2.1;have h3:=HST.out.1
         rcases Nat.lt_or_ge (j - 1) (r+8) with h | h
         ·
          exfalso
          obtain ⟨g,hg⟩:∃ g,j - 1=r+g:=⟨j - 1 - r,Yy0⟩
          have h4:=HZ.out g Yy0
          rw [← hg,h2] at h4
          have:g=0∨g=1∨g=2∨g=3∨g=4∨g=5∨g=6∨g=7:=Yy0
          rcases this with rfl | rfl | rfl | rfl | rfl | rfl | rfl | rfl <;> omega
         ·
          exact h)
        have Y0:=hdd y0;clear y0;have Y1:=hdd y1;clear y1;have Y2:=hdd y2;clear y2;have Y3:=hdd y3;clear y3;have Y4:=hdd y4;clear y4;have Y5:=hdd y5;clear y5;have Y6:=hdd y6;clear y6;have Y7:=hdd y7;clear y7
        as_aux_lemma=>
        go_wp2_with fail
        go_roundg (gk - 8)
        case measure=>have:=hrm.out;omega
        case rel=>
         have hj:=HJ8.out
         obtain rfl:j8=r+8:=Yy0
         exact ⟨r+8,rfl,hdd (by have:=hr.out;have:=hin.out;omega),hdd (by have:=hrm.out;omega),hwr⟩
       ·
        have t2:decide ((r:Int)<(s.size:Int) - 8)=false:=dff Yy0
        as_aux_lemma=>
        go_wp2_with fail
        go_step3
        simp only [Exit.then,Exit.inBlock]
        exact show JL _ m 3 _ _ from ⟨3 * (s.size - r),Yy22,.inr (.inr rfl),⟨rfl,rfl,rfl,rfl,rfl,rfl,rfl,rfl,rfl,rfl,rfl,rfl,rfl,rfl,rfl,rfl,rfl,rfl,rfl,rfl,⟨r,rfl,Yy23,hr.out.2,.inr (.inr ⟨rfl,rfl⟩)⟩,hwr.out⟩⟩
     ·
      intro H2
      have hst0:=ST.out
      have h2j:p+2≤j:=hst0.1
      clear hst0
      go_wp2_with fail
      go_step3
      simp only [Exit.then,Exit.inBlock]
      rename_i hK
      exact hK _ _ (H2 (3 * (s.size - (p+1))+2) _ _ ⟨rfl,rfl,rfl,rfl,rfl,rfl,rfl,rfl,rfl,rfl,rfl,rfl,rfl,rfl,rfl,rfl,rfl,rfl,rfl,rfl,⟨p+1,rfl,nlr _,Yy0,.inl ⟨rfl,rfl⟩⟩,HW.out⟩)
    ·
     rw [hx]
     have E3:=hdd (hq.next3 hx)
     have HX:=hdd hx
     clear hx hq hne
     have dt:((dd:Int)+1 == 0)=false:=bfo Yy0
     go_wp2_with fail
     simp only [jumps,Exit.inBlock,Exit.then]
     go_wp2_with fail
     go_meet
     exact ⟨p+1,dd+1,_,rfl,rfl,rfl,hdd (by have:=HLE.out;omega),E3,hdd (by have:=HD2.out;omega),HW⟩
   ·
    intro H0
    go_upto_block 2 with (fail)
    go_cut [1,8,9] (fun v1 v8 v9 wd=>∃ (i':Nat) (c:Int),v1 = .int .i64 (i':Int)∧v8 = .int .u8 c∧Hid (i≤i')∧Hid (Sq s e i' d)∧Hid (1≤d∧d≤i')∧Hid (wd=w))
    case first=>
     go_wp2_with fail
     go_loopg [1,8,9] (s.size - i) (fun m v1 v8 v9 wd=>∃ (i':Nat) (c:Int),v1 = .int .i64 (i':Int)∧v8 = .int .u8 c∧Hid (i≤i')∧Hid (i'+m=s.size)∧Hid (Sq s e i' d)∧Hid (1≤d∧d≤i')∧Hid (wd=w))
     case atStart=>exact ⟨i,c,rfl,rfl,hdd (nlr _),hdd Yy0,hq,hd,hw⟩
     case round=>
      clear hq hd hw
      obtain ⟨i',c',rfl,rfl,hii,hm,hq,hd,hw⟩:=hrel
      have hlt':i'<s.size:=by have:=hq.out.lt;omega
      have j0:0≤(i':Int):=Yy0
      have j1:(i':Int)<65536:=Yy0
      by_cases big:i'+8<s.size
      ·
       have t2:decide ((i':Int)<(s.size:Int) - 8)=true:=dtt Yy0
       have t3:i'+8≤s.size:=Yy0
       obtain ⟨j8,hj8⟩:∃ j8:Nat,(i':Int)+8=(j8:Int):=⟨i'+8,Yy0⟩
       obtain ⟨S8,hS8⟩:∃ S8,s.extract i' j8=S8:=⟨_,rfl⟩
       have hsl:∀ W,(Instr.slice 9 (.string s) (some (.int .i64 (i':Int))) (some (.int .i64 (j8:Int))) none).run Tryz.prog W = .ok (.string S8) W:=fun W=>by rw [← hS8];exact slice_run s i' j8 Yy0 Yy0 W
       have hz:S8.size=8:=by rw [← hS8,ByteArray.size_extract];omega
       have hbt:∀ k (hk:k<8),(S8[k].toNat:Int)=bt s ((i'+k:Nat):Int):=fun k hk=>by subst hS8;exact bt_ext Yy0 Yy0
       have HZ:=hdd hbt;clear hbt
       have HJ:=hdd hj8
       obtain ⟨v0,hv0⟩:∃ v,vch (S8[0].toNat:Int)=v:=⟨_,rfl⟩
       have g0:wr.cell? ⟨0,S8[0].toNat,none⟩=some (.int .u8 v0):=by rw [← hv0,hw.out];exact HV.out _ (UInt8.toNat_lt _)
       have bb0:(S8[0].toNat:Int)<256:=by have:=UInt8.toNat_lt S8[0];omega
       have HV0:Hid (vch (bt s ((i'+0:Nat):Int))=v0):=hdd (by rw [← HZ.out 0 Yy0];exact hv0)
       clear hv0
       obtain ⟨v1,hv1⟩:∃ v,vch (S8[1].toNat:Int)=v:=⟨_,rfl⟩
       have g1:wr.cell? ⟨0,S8[1].toNat,none⟩=some (.int .u8 v1):=by rw [← hv1,hw.out];exact HV.out _ (UInt8.toNat_lt _)
       have bb1:(S8[1].toNat:Int)<256:=by have:=UInt8.toNat_lt S8[1];omega
       have HV1:Hid (vch (bt s ((i'+1:Nat):Int))=v1):=hdd (by rw [← HZ.out 1 Yy0];exact hv1)
       clear hv1
       obtain ⟨v2,hv2⟩:∃ v,vch (S8[2].toNat:Int)=v:=⟨_,rfl⟩
       have g2:wr.cell? ⟨0,S8[2].toNat,none⟩=some (.int .u8 v2):=by rw [← hv2,hw.out];exact HV.out _ (UInt8.toNat_lt _)
       have bb2:(S8[2].toNat:Int)<256:=by have:=UInt8.toNat_lt S8[2];omega
       have HV2:Hid (vch (bt s ((i'+2:Nat):Int))=v2):=hdd (by rw [← HZ.out 2 Yy0];exact hv2)
       clear hv2
       obtain ⟨v3,hv3⟩:∃ v,vch (S8[3].toNat:Int)=v:=⟨_,rfl⟩
       have g3:wr.cell? ⟨0,S8[3].toNat,none⟩=some (.int .u8 v3):=by rw [← hv3,hw.out];exact HV.out _ (UInt8.toNat_lt _)
       have bb3:(S8[3].toNat:Int)<256:=by have:=UInt8.toNat_lt S8[3];omega
       have HV3:Hid (vch (bt s ((i'+3:Nat):Int))=v3):=hdd (by rw [← HZ.out 3 Yy0];exact hv3)
       clear hv3
       obtain ⟨v4,hv4⟩:∃ v,vch (S8[4].toNat:Int)=v:=⟨_,rfl⟩
       have g4:wr.cell? ⟨0,S8[4].toNat,none⟩=some (.int .u8 v4):=by rw [← hv4,hw.out];exact HV.out _ (UInt8.toNat_lt _)
       have bb4:(S8[4].toNat:Int)<256:=by have:=UInt8.toNat_lt S8[4];omega
       have HV4:Hid (vch (bt s ((i'+4:Nat):Int))=v4):=hdd (by rw [← HZ.out 4 Yy0];exact hv4)
       clear hv4
       obtain ⟨v5,hv5⟩:∃ v,vch (S8[5].toNat:Int)=v:=⟨_,rfl⟩
       have g5:wr.cell? ⟨0,S8[5].toNat,none⟩=some (.int .u8 v5):=by rw [← hv5,hw.out];exact HV.out _ (UInt8.toNat_lt _)
       have bb5:(S8[5].toNat:Int)<256:=by have:=UInt8.toNat_lt S8[5];omega
       have HV5:Hid (vch (bt s ((i'+5:Nat):Int))=v5):=hdd (by rw [← HZ.out 5 Yy0];exact hv5)
       clear hv5
       obtain ⟨v6,hv6⟩:∃ v,vch (S8[6].toNat:Int)=v:=⟨_,rfl⟩
       have g6:wr.cell? ⟨0,S8[6].toNat,none⟩=some (.int .u8 v6):=by rw [← hv6,hw.out];exact HV.out _ (UInt8.toNat_lt _)
       have bb6:(S8[6].toNat:Int)<256:=by have:=UInt8.toNat_lt S8[6];omega
       have HV6:Hid (vch (bt s ((i'+6:Nat):Int))=v6):=hdd (by rw [← HZ.out 6 Yy0];exact hv6)
       clear hv6
       obtain ⟨v7,hv7⟩:∃ v,vch (S8[7].toNat:Int)=v:=⟨_,rfl⟩
       have g7:wr.cell? ⟨0,S8[7].toNat,none⟩=some (.int .u8 v7):=by rw [← hv7,hw.out];exact HV.out _ (UInt8.toNat_lt _)
       have bb7:(S8[7].toNat:Int)<256:=by have:=UInt8.toNat_lt S8[7];omega
       have HV7:Hid (vch (bt s ((i'+7:Nat):Int))=v7):=hdd (by rw [← HZ.out 7 Yy0];exact hv7)
       clear hv7
       clear hS8
       by_cases z0:v0=0
       rotate_left
       ·
        have n0:(v0 != 0)=true:=bne_iff_ne.mpr z0
        have Z0:=hdd z0;clear z0
        as_aux_lemma=>
        go_wp2_with fail
        go_step3
        simp only [Exit.then,Exit.inBlock]
        refine show (0=0∧JQ w s b e i _ _) from ⟨rfl,⟨rfl,rfl,rfl,rfl,rfl,rfl,rfl,rfl,rfl,rfl,rfl,rfl,rfl,rfl,rfl,rfl,rfl,⟨i'+0,d,rfl,rfl,by rw [HV0.out];rfl,by rw [HV0.out];exact Z0.out,Yy19,hq.out,hd.out.1,Yy29⟩,hw.out⟩⟩
       have Q1:=hdd (hq.out.next0 (i:=i'+0) (by rw [HV0.out];exact z0))
       have n0:(v0 != 0)=false:=by rw [z0];rfl
       have Z0:=hdd z0;clear z0
       by_cases z1:v1=0
       rotate_left
       ·
        have n1:(v1 != 0)=true:=bne_iff_ne.mpr z1
        have Z1:=hdd z1;clear z1
        as_aux_lemma=>
        go_wp2_with fail
        go_step3
        simp only [Exit.then,Exit.inBlock]
        refine show (0=0∧JQ w s b e i _ _) from ⟨rfl,⟨rfl,rfl,rfl,rfl,rfl,rfl,rfl,rfl,rfl,rfl,rfl,rfl,rfl,rfl,rfl,rfl,rfl,⟨i'+1,d,rfl,rfl,by rw [HV1.out];rfl,by rw [HV1.out];exact Z1.out,Yy19,Q1.out,hd.out.1,Yy29⟩,hw.out⟩⟩
       have Q2:=hdd (Q1.out.next0 (i:=i'+1) (by rw [HV1.out];exact z1))
       have n1:(v1 != 0)=false:=by rw [z1];rfl
       have Z1:=hdd z1;clear z1
       by_cases z2:v2=0
       rotate_left
       ·
        have n2:(v2 != 0)=true:=bne_iff_ne.mpr z2
        have Z2:=hdd z2;clear z2
        as_aux_lemma=>
        go_wp2_with fail
        go_step3
        simp only [Exit.then,Exit.inBlock]
        refine show (0=0∧JQ w s b e i _ _) from ⟨rfl,⟨rfl,rfl,rfl,rfl,rfl,rfl,rfl,rfl,rfl,rfl,rfl,rfl,rfl,rfl,rfl,rfl,rfl,⟨i'+2,d,rfl,rfl,by rw [HV2.out];rfl,by rw [HV2.out];exact Z2.out,Yy19,Q2.out,hd.out.1,Yy29⟩,hw.out⟩⟩
       have Q3:=hdd (Q2.out.next0 (i:=i'+2) (by rw [HV2.out];exact z2))
       have n2:(v2 != 0)=false:=by rw [z2];rfl
       have Z2:=hdd z2;clear z2
       by_cases z3:v3=0
       rotate_left
       ·
        have n3:(v3 != 0)=true:=bne_iff_ne.mpr z3
        have Z3:=hdd z3;clear z3
        as_aux_lemma=>
        go_wp2_with fail
        go_step3
        simp only [Exit.then,Exit.inBlock]
        refine show (0=0∧JQ w s b e i _ _) from ⟨rfl,⟨rfl,rfl,rfl,rfl,rfl,rfl,rfl,rfl,rfl,rfl,rfl,rfl,rfl,rfl,rfl,rfl,rfl,⟨i'+3,d,rfl,rfl,by rw [HV3.out];rfl,by rw [HV3.out];exact Z3.out,Yy19,Q3.out,hd.out.1,Yy29⟩,hw.out⟩⟩
       have Q4:=hdd (Q3.out.next0 (i:=i'+3) (by rw [HV3.out];exact z3))
       have n3:(v3 != 0)=false:=by rw [z3];rfl
       have Z3:=hdd z3;clear z3
       by_cases z4:v4=0
       rotate_left
       ·
        have n4:(v4 != 0)=true:=bne_iff_ne.mpr z4
        have Z4:=hdd z4;clear z4
        as_aux_lemma=>
        go_wp2_with fail
        go_step3
        simp only [Exit.then,Exit.inBlock]
        refine show (0=0∧JQ w s b e i _ _) from ⟨rfl,⟨rfl,rfl,rfl,rfl,rfl,rfl,rfl,rfl,rfl,rfl,rfl,rfl,rfl,rfl,rfl,rfl,rfl,⟨i'+4,d,rfl,rfl,by rw [HV4.out];rfl,by rw [HV4.out];exact Z4.out,Yy19,Q4.out,hd.out.1,Yy29⟩,hw.out⟩⟩
       have Q5:=hdd (Q4.out.next0 (i:=i'+4) (by rw [HV4.out];exact z4))
       have n4:(v4 != 0)=false:=by rw [z4];rfl
       have Z4:=hdd z4;clear z4
       by_cases z5:v5=0
       rotate_left
       ·
        have n5:(v5 != 0)=true:=bne_iff_ne.mpr z5
        have Z5:=hdd z5;clear z5
        as_aux_lemma=>
        go_wp2_with fail
        go_step3
        simp only [Exit.then,Exit.inBlock]
        refine show (0=0∧JQ w s b e i _ _) from ⟨rfl,⟨rfl,rfl,rfl,rfl,rfl,rfl,rfl,rfl,rfl,rfl,rfl,rfl,rfl,rfl,rfl,rfl,rfl,⟨i'+5,d,rfl,rfl,by rw [HV5.out];rfl,by rw [HV5.out];exact Z5.out,Yy19,Q5.out,hd.out.1,Yy29⟩,hw.out⟩⟩
       have Q6:=hdd (Q5.out.next0 (i:=i'+5) (by rw [HV5.out];exact z5))
       have n5:(v5 != 0)=false:=by rw [z5];rfl
       have Z5:=hdd z5;clear z5
       by_cases z6:v6=0
       rotate_left
       ·
        have n6:(v6 != 0)=true:=bne_iff_ne.mpr z6
        have Z6:=hdd z6;clear z6
        as_aux_lemma=>
        go_wp2_with fail
        go_step3
        simp only [Exit.then,Exit.inBlock]
        refine show (0=0∧JQ w s b e i _ _) from ⟨rfl,⟨rfl,rfl,rfl,rfl,rfl,rfl,rfl,rfl,rfl,rfl,rfl,rfl,rfl,rfl,rfl,rfl,rfl,⟨i'+6,d,rfl,rfl,by rw [HV6.out];rfl,by rw [HV6.out];exact Z6.out,Yy19,Q6.out,hd.out.1,Yy29⟩,hw.out⟩⟩
       have Q7:=hdd (Q6.out.next0 (i:=i'+6) (by rw [HV6.out];exact z6))
       have n6:(v6 != 0)=false:=by rw [z6];rfl
       have Z6:=hdd z6;clear z6
       by_cases z7:v7=0
       rotate_left
       ·
        have n7:(v7 != 0)=true:=bne_iff_ne.mpr z7
        have Z7:=hdd z7;clear z7
        as_aux_lemma=>
        go_wp2_with fail
        go_step3
        simp only [Exit.then,Exit.inBlock]
        refine show (0=0∧JQ w s b e i _ _) from ⟨rfl,⟨rfl,rfl,rfl,rfl,rfl,rfl,rfl,rfl,rfl,rfl,rfl,rfl,rfl,rfl,rfl,rfl,rfl,⟨i'+7,d,rfl,rfl,by rw [HV7.out];rfl,by rw [HV7.out];exact Z7.out,Yy19,Q7.out,hd.out.1,Yy29⟩,hw.out⟩⟩
       have Q8:=hdd (Q7.out.next0 (i:=i'+7) (by rw [HV7.out];exact z7))
       have n7:(v7 != 0)=false:=by rw [z7];rfl
       have Z7:=hdd z7;clear z7
       as_aux_lemma=>
       go_wp2_with fail
       go_roundg (gk - 8)
       case measure=>have:=hm.out;omega
       case rel=>
        have hj:=HJ.out
        obtain rfl:j8=i'+8:=Yy0
        exact ⟨i'+8,v7,rfl,rfl,hdd Yy19,hdd Yy11,Q8,hdd (by have:=hd.out;omega),hw⟩
      ·
       have t2:decide ((i':Int)<(s.size:Int) - 8)=false:=dff Yy0
       go_wp2_with fail
       go_meet
       exact ⟨i',c',rfl,rfl,hii,hq,hd,hw⟩
    case rest=>
     clear hq hd hw
     obtain ⟨i',c',rfl,rfl,hii,hq,hd,hw⟩:=hcut
     have hlt':i'<s.size:=hq.out.lt
     have j0:0≤(i':Int):=Yy0
     have j1:(i':Int)<65536:=Yy0
     obtain ⟨v,hv⟩:∃ v,vch (s[i'].toNat:Int)=v:=⟨_,rfl⟩
     have g:wc.cell? ⟨0,s[i'].toNat,none⟩=some (.int .u8 v):=by rw [← hv,hw.out];exact HV.out _ (UInt8.toNat_lt _)
     have bb:(s[i'].toNat:Int)<256:=by have:=UInt8.toNat_lt s[i'];omega
     have HVv:Hid (vch (bt s (i':Int))=v):=hdd (by rw [PFnGjSquashItems.bt_at hlt'];exact hv)
     clear hv
     by_cases z:v=0
     ·
      have n:(v == 0)=true:=beq_iff_eq.mpr z
      have Z:=hdd z;clear z
      as_aux_lemma=>
      go_wp2_with fail
      simp only [jumps,Exit.inBlock,Exit.then,if_true]
      first | go_meet | (rename_i hK;refine hK _ _ ?_;go_meet) | (go_wp2_with fail;go_meet)
      exact ⟨i'+1,d,v,rfl,rfl,rfl,hdd Yy19,hdd (hq.out.next0 (by rw [HVv.out];exact Z.out)),hdd (by have:=hd.out;omega),hw⟩
     ·
      have n:(v == 0)=false:=bfo z
      have Z:=hdd z;clear z
      go_wp2_with fail
      go_step3
      simp only [Exit.then,Exit.inBlock]
      rename_i hK
      exact hK _ _ (H0 _ _ ⟨rfl,rfl,rfl,rfl,rfl,rfl,rfl,rfl,rfl,rfl,rfl,rfl,rfl,rfl,rfl,rfl,rfl,⟨i',d,rfl,rfl,by rw [HVv.out];rfl,by rw [HVv.out];exact Z.out,hii.out,hq.out,hd.out.1,hd.out.2⟩,hw.out⟩)
  case rest=>
   obtain ⟨i',d',c',rfl,rfl,rfl,hi',hq',hd',hw'⟩:=hcut
   go_wp2_with fail
   go_roundg (s.size - i')
   case measure=>have:=hi'.out;have:=hq'.out.lt;have:=hi.out;omega
   case rel=>exact ⟨i',d',c',rfl,rfl,rfl,hdd (by have:=hq'.out.lt;omega),hq',hd',hw'⟩
end Go.Proofs.YtieflhncpjjciaaGreatDoor.Dc
