/- Walks and plain laws of this claim. -/
import Derived.Test.YtieflhncpjjciaaGreatDoorBwJ
import Derived.Deep.RegionHeld3
import Derived.Test.YtieflhncpjjciaaGreatDoorBwA
set_option maxHeartbeats 8000000
set_option maxRecDepth 100000
set_option linter.unusedVariables false
set_option linter.unusedSimpArgs false
namespace Go.Proofs.YtieflhncpjjciaaGreatDoor.Dc
open Go Go.RowKit Go.Proofs.YtieflhncpjjciaaGreatDoorW.PrintWords Go.Proofs.YtieflhncpjjciaaGreatDoor.PFnGjSquashItems
attribute [local go_sem] run_store_flt
theorem It.skip {u : ByteArray} {i : Nat} {l : List ItT} (h : It u true i l) (hi : i < u.size) (h34 : bt u (i : Int) ≠ 34) : It u true (i + 1) l := by
 cases h with
 | done h h1 _ => exact .done hi (fun _ q hq => h1 rfl q Yy0) (fun h => Yy9)
 | item hi hn hn2 hv hs vk hj he r =>
  refine .item ?_ (fun _ => ⟨(hn rfl).1, fun q h1 h2 => (hn rfl).2 q Yy0 h2⟩) (fun h => Yy9) hv hs vk hj he r
  rcases eol hi with e | e
  ·
   rw [e] at h34; exact absurd (hn rfl).1.1.2.2.1 h34
  ·
   exact e
theorem It.at34 {u : ByteArray} {i : Nat} {l : List ItT} (h : It u true i l) (h34 : bt u (i : Int) = 34) : ∃ t l', l = t :: l' ∧ t.ni = i ∧ StrTok u i t.nj ∧ t.nj ≤ t.v ∧ (∀ q, t.nj ≤ q → q < t.v → sepOK (bt u (q : Int))) ∧ VK u t.kd t.v t.j ∧ t.j < u.size ∧ NumEnd u t.j ∧ It u true (t.j + 1) l' := by
 cases h with
 | done h h1 _ => exact absurd h34 (h1 rfl i (nlr _))
 | @item _ t l' hi hn hn2 hv hs vk hj he r =>
  have e : t.ni = i := by
   rcases eol hi with e | e
   ·
    exact e.symm
   ·
    exact absurd h34 ((hn rfl).2 i (nlr _) e)
  exact ⟨t, l', rfl, e, by rw [← e]; exact (hn rfl).1, hv, hs, vk, hj, he, r⟩
theorem It.endN {u : ByteArray} {ob : Bool} {l : List ItT} (h : It u ob u.size l) : l = [] := by
 cases h with
 | done => rfl
 | item hi hn hn2 hv hs vk hj he r =>
  have h1 := vk.1
  cases ob with
  | true => have := (hn rfl).1.1.1; omega
  | false => have := hn2 rfl; omega
theorem vk_nosep {u : ByteArray} {kd : Int} {v j : Nat} (h : VK u kd v j) : 32 < bt u (v : Int) ∧ bt u (v : Int) ≠ 44 ∧ bt u (v : Int) ≠ 58 := by
 obtain ⟨h1, h2, a | a | a | a⟩ := h
 ·
  have := a.2.1.2.2.1; omega
 ·
  have := a.2.1; omega
 ·
  have := a.2 v (nlr _) h1; omega
 ·
  rcases a.1 with b | b <;> omega
theorem It.three {u : ByteArray} {ob : Bool} {i : Nat} {l : List ItT} (h : It u ob i l) (hi : i < u.size) :
  (ob = true ∧ bt u (i : Int) ≠ 34) ∨ (ob = false ∧ l = [] ∧ ∀ q, i ≤ q → q < u.size → sepOK (bt u (q : Int)) ∨ bt u (q : Int) = 93) ∨
  (∃ t l', l = t :: l' ∧ t.ni = i ∧ (ob = true → StrTok u i t.nj) ∧ (ob = false → t.nj = i) ∧ t.nj ≤ t.v ∧ (∀ q, t.nj ≤ q → q < t.v → sepOK (bt u (q : Int))) ∧ VK u t.kd t.v t.j ∧ t.j < u.size ∧ NumEnd u t.j ∧ It u ob (t.j + 1) l') := by
 cases ob with
 | true =>
  by_cases h34 : bt u (i : Int) = 34
  ·
   obtain ⟨t, l', h1, h2, h3, h4, h5, h6, h7, h8, h9⟩ := h.at34 h34
   exact .inr (.inr ⟨t, l', h1, h2, fun _ => h3, (fun h => Yy9), h4, h5, h6, h7, h8, h9⟩)
  ·
   exact .inl ⟨rfl, h34⟩
 | false =>
  cases h with
  | done _ _ h2 => exact .inr (.inl ⟨rfl, rfl, h2 rfl⟩)
  | @item _ t l' hi hn hn2 hv hs vk hj he r => exact .inr (.inr ⟨t, l', rfl, (hn2 rfl).1, (fun h => Yy9), fun _ => (hn2 rfl).2, hv, hs, vk, hj, he, r⟩)
def Kinv (ob : Bool) (L : List (RV × RV)) (key : RV) : Prop := ((ob = true → key.k = 3) ∧ (ob = false → key.k = 2 ∧ key.raw = ⟨#[]⟩ ∧ key.str = ⟨#[]⟩)) ∧ NumI ob L key.q
def FePost (C : Nat → Prop) (Inv : Nat → List (RV × RV) → World → Prop) (cont : List (RV × RV) → Bool) (u : ByteArray) (ob : Bool) (l : List ItT) (w : World) (e : Ending) (w' : World) : Prop :=
 e = .returned (.tuple #[]) ∧ ∃ L base, Run u ob cont [] l L ∧ Inv base L w' ∧ KeepC C w.heap.size w w' ∧ ∃ q, NumI ob L q
theorem foreach_any {f : Nat} {caps : Array Value} {C : Nat → Prop} {Inv : Nat → List (RV × RV) → World → Prop} {cont : List (RV × RV) → Bool} (hi : IterOK f caps C Inv cont) {w : World} {b0 : Nat} (h : MS w b0) (hBB : b0 ≤ w.heap.size) (hC : ∀ g, C g → b0 ≤ g ∧ g < w.heap.size) (h0 : ∀ base, Inv base [] w)
  (u tstr : ByteArray) (tq : Nat) (tix : Int) (hix : 0 ≤ tix ∧ tix ≤ 65536) (hs : u.size ≤ 65536) (ob : Bool) (l : List ItT) (hb : bt u 0 = if ob then 123 else 91) (hl : It u ob 1 l) :
  Calls Tryz.prog 34 #[.agg #[.int .i64 5, .string u, .string tstr, .float .f64 tq, .int .i64 tix, .slice none 0 0], .func (.func f) #[] caps] w (FePost C Inv cont u ob l w) := by
 obtain ⟨A, hA⟩ : ∃ A, w.heap.size = A := ⟨_, rfl⟩
 have ss : (u.size : Int) ≤ 65536 := Yy0
 have hus : 1 ≤ u.size := by cases hl with | done h _ _ => exact h | item hi hn hn2 hv hs vk hj he r => omega
 have HI := hdd hi; have HM := hdd h; have HBB := hdd hBB; have HC := hdd hC; have H0 := hdd h0; have HL := hdd hl; have HIX := hdd hix
 have HCA : Hid (∀ g, C g → g < A) := hdd (fun g hg => by rw [← hA]; exact (hC g hg).2)
 have HCb : Hid (∀ g, C g → b0 ≤ g) := hdd (fun g hg => (hC g hg).1)
 have ix0 : 0 ≤ tix := hix.1
 have ix1 : tix ≤ 65536 := hix.2
 clear hi h hBB hC h0 hl hix
 go_enter Tryz.func34, Tryz.ntmps34
 go_upto_region 1 with (fail)
 obtain ⟨w1, hw1⟩ : ∃ w1, w.alloc (Obj.cells #[.int .i64 5, .string u, .string tstr, .float .f64 tq, .int .i64 tix, .slice none 0 0] 61) = w1 := ⟨_, rfl⟩
 have hs1 : w1.heap.size = A + 1 := by rw [← hw1, ← hA]; simp [go_sem]
 have b1 : Hid (Below A w w1) := hdd Yy75
 have R1 : Hid (w1.rangeAt A 0 (RV.cl ⟨5, u, tstr, tq, tix⟩)) := hdd (by rw [← hw1, ← hA]; exact rng_new w (RV.cl ⟨5, u, tstr, tq, tix⟩) 61)
 have c0 : w1.cell? ⟨A, 0, none⟩ = some (.int .i64 5) := R1.out 0 _ rfl
 have c1 : w1.cell? ⟨A, 1, none⟩ = some (.string u) := R1.out 1 _ rfl
 have c2 : w1.cell? ⟨A, 2, none⟩ = some (.string tstr) := R1.out 2 _ rfl
 have c3 : w1.cell? ⟨A, 3, none⟩ = some (.float .f64 tq) := R1.out 3 _ rfl
 have c4 : w1.cell? ⟨A, 4, none⟩ = some (.int .i64 tix) := R1.out 4 _ rfl
 have c5 : w1.cell? ⟨A, 5, none⟩ = some (.slice none 0 0) := R1.out 5 _ rfl
 rw [hw1]
 clear hw1
 have HS1 := hdd hs1
 clear hs1
 go_upto_block 0 with (go_at_call 51; refine (exists_any _ _ _ _ _ _).mono ?_; rintro en w2 ⟨rfl, hb2⟩; have k0 := cellB hb2 c0; have k1 := cellB hb2 c1; have B2 := hdd hb2; clear hb2)
 clear c0 c1 c2 c3 c4 c5 k0 k1
 obtain ⟨K, hK⟩ : ∃ K, w2.heap.size = K := ⟨_, rfl⟩
 have Z1 : (w2.alloc (Obj.cells RV.z.cl.toArray 61)).heap.size = w2.heap.size + 1 := Yy15
 have AK : A < K := by have := B2.out.size; have := HS1.out; omega
 have F3 : Hid (FS C Inv A K ⟨5, u, tstr, tq, tix⟩ [] w ((w2.alloc (Obj.cells RV.z.cl.toArray 61)).alloc (Obj.cells RV.z.cl.toArray 61)) RV.z RV.z) := hdd (by
  have hr2 := rng_b R1.out B2.out
  have b2 : Below A w w2 := b1.out.trans (B2.out.mono (by have := HS1.out; omega))
  have b3 : Below A w ((w2.alloc (Obj.cells RV.z.cl.toArray 61)).alloc (Obj.cells RV.z.cl.toArray 61)) := (b2.alloc Yy0 _).alloc (by rw [Z1]; omega) _
  have hk := rng_new w2 RV.z.cl 61
  have hkt := thr_new w2 RV.z.cl 61
  have hv := rng_new (w2.alloc (Obj.cells RV.z.cl.toArray 61)) RV.z.cl 61
  have hvt := thr_new (w2.alloc (Obj.cells RV.z.cl.toArray 61)) RV.z.cl 61
  rw [Z1, hK] at hv hvt
  rw [hK] at hk hkt
  exact ⟨rng_al (rng_al hr2 _) _, rng_al hk _, thr_al hkt _, hv, hvt, HI.out.off _ _ _ _ (H0.out (K + 2)) (OffC.of (by rw [hA]; exact b3)), KeepC.of b3 (nlr _), by rw [World.size_alloc, Z1]; omega, AK⟩)
 obtain ⟨w3, hw3⟩ : ∃ w3, (w2.alloc (Obj.cells RV.z.cl.toArray 61)).alloc (Obj.cells RV.z.cl.toArray 61) = w3 := ⟨_, rfl⟩
 rw [hw3] at F3
 change w2.heap.size = K at hK
 simp only [RV.z, RV.cl] at hw3
 rw [hw3, hK]
 clear hw3 hK Z1 B2 R1 b1
 go_cut [5, 6] (fun v5 v6 wc => ∃ key : RV, v5 = .bool ob ∧ v6 = .int .i64 1 ∧ Hid (FS C Inv A K ⟨5, u, tstr, tq, tix⟩ [] w wc key RV.z) ∧ Hid (Kinv ob [] key))
 case first =>
  go_wp2_with fail
  go_loopg [5, 6] 0 (fun m v5 v6 wr => v5 = .bool false ∧ v6 = .int .i64 0 ∧ Hid (wr = w3))
  case atStart => exact ⟨rfl, rfl, hdd rfl⟩
  case round =>
   obtain ⟨rfl, rfl, hw⟩ := hrel
   obtain rfl := hw.out
   have z0 : 0 < u.size := hus
   have z1 : decide (0 < u.size) = true := dtt hus
   have z2 : decide ((0 : Int) < (u.size : Int)) = true := dtt Yy0
   rw [show (0 : Int) = ((0 : Nat) : Int) from rfl, PFnGjSquashItems.bt_at z0] at hb
   have k0 : wr.cell? ⟨K, 0, none⟩ = some (.int .i64 0) := F3.out.kr 0 _ rfl
   have kf0 : wr.frozen? ⟨K, 0, none⟩ = false := (F3.out.kt 0 Yy0).2
   have k1 : wr.cell? ⟨K, 1, none⟩ = some (.string ⟨#[]⟩) := F3.out.kr 1 _ rfl
   have kf1 : wr.frozen? ⟨K, 1, none⟩ = false := (F3.out.kt 1 Yy0).2
   have k2 : wr.cell? ⟨K, 2, none⟩ = some (.string ⟨#[]⟩) := F3.out.kr 2 _ rfl
   have kf2 : wr.frozen? ⟨K, 2, none⟩ = false := (F3.out.kt 2 Yy0).2
   have k3 : wr.cell? ⟨K, 3, none⟩ = some (.float .f64 0) := F3.out.kr 3 _ rfl
   have kf3 : wr.frozen? ⟨K, 3, none⟩ = false := (F3.out.kt 3 Yy0).2
   have k4 : wr.cell? ⟨K, 4, none⟩ = some (.int .i64 0) := F3.out.kr 4 _ rfl
   have kf4 : wr.frozen? ⟨K, 4, none⟩ = false := (F3.out.kt 4 Yy0).2
   have k5 : wr.cell? ⟨K, 5, none⟩ = some (.slice none 0 0) := F3.out.kr 5 _ rfl
   have kf5 : wr.frozen? ⟨K, 5, none⟩ = false := (F3.out.kt 5 Yy0).2
   cases ob with
   | true =>
    have q1 : ((u[0].toNat : Int) == 123) = true := by rw [hb]; rfl
    clear hb
    go_wp2_with fail
    go_meet
    exact ⟨⟨3, ⟨#[]⟩, ⟨#[]⟩, 0, 0⟩, rfl, rfl, hdd (F3.out.keySet HI.out HCA.out 0 Yy0 _ _ rfl), hdd ⟨⟨fun _ => rfl, (fun h => Yy9)⟩, .nil⟩⟩
   | false =>
    have q1 : ((u[0].toNat : Int) == 123) = false := by rw [hb]; rfl
    have q2 : ((u[0].toNat : Int) == 91) = true := by rw [hb]; rfl
    clear hb
    go_wp2_with fail
    go_meet
    exact ⟨⟨2, ⟨#[]⟩, ⟨#[]⟩, 13830554455654793216, 0⟩, rfl, rfl, hdd ((F3.out.keySet HI.out HCA.out 0 Yy0 _ ⟨2, ⟨#[]⟩, ⟨#[]⟩, 0, 0⟩ rfl).keySet HI.out HCA.out 3 Yy0 _ _ rfl), hdd ⟨⟨(fun h => Yy9), fun _ => ⟨rfl, rfl, rfl⟩⟩, .nil⟩⟩
 case rest =>
  obtain ⟨key, rfl, rfl, F4, KI⟩ := hcut
  clear F3 hb
  go_wp2_with fail
  go_loopg [6, 12] (u.size - 1) (fun m v6 v12 wr => ∃ (i : Nat) (l' : List ItT) (L : List (RV × RV)) (key val : RV) (x : Int), v6 = .int .i64 (i : Int) ∧ v12 = .int .i64 x ∧ Hid (i + m = u.size) ∧ Hid (It u ob i l') ∧ Hid (∀ Z, Run u ob cont L l' Z → Run u ob cont [] l Z) ∧ Hid (FS C Inv A K ⟨5, u, tstr, tq, tix⟩ L w wr key val) ∧ Hid (Kinv ob L key) ∧ Hid (L.length ≤ i))
  case atStart => exact ⟨1, l, [], key, RV.z, 0, rfl, rfl, hdd Yy0, HL, hdd (fun Z h => h), F4, KI, hdd Yy3⟩
  case round =>
   clear F4 KI
   obtain ⟨i, l', L, key, val, x, rfl, rfl, hm, hIt, hRun, F5, KI, hLi⟩ := hrel
   have hiu : i ≤ u.size := Yy12
   rcases eol hiu with h | h
   ·
    have t0 : decide (i < u.size) = false := dff Yy0
    have HE : Hid (l' = []) := hdd (by have := hIt.out; rw [h] at this; exact this.endN)
    clear h hiu
    go_wp2_with fail
    go_end0
    exact ⟨rfl, L, K + 2, hRun.out L (by rw [HE.out]; exact .nil L), F5.out.inv, by rw [hA]; exact F5.out.keep, key.q, KI.out.2⟩
   ·
    have t0 : decide (i < u.size) = true := dtt h
    have hi65 : (i : Int) ≤ 65536 := Yy0
    rcases It.three hIt.out h with ⟨rfl, h34⟩ | ⟨rfl, hl0, hgar⟩ | ⟨tt, l2, hl2, hni, hst, hnj, hv, hsp, hvk, hj, hne, hIt2⟩
    ·
     have hIt3 := hdd (hIt.out.skip h h34)
     rw [PFnGjSquashItems.bt_at h] at h34
     have q1 : ((u[i].toNat : Int) != 34) = true := bne_iff_ne.mpr h34
     clear h34 hIt
     go_wp2_with fail
     go_roundg (gk - 1)
     case measure => have := hm.out; omega
     case rel => exact ⟨i + 1, l', L, key, val, x, Yy5, rfl, hdd Yy12, hIt3, hRun, F5, KI, hdd (by have := hLi.out; omega)⟩
    ·
     subst hl0
     have HG := hdd hgar
     clear hgar hIt
     obtain ⟨r1, qd, -, hadd⟩ := flt_add 32 key.q 4607182418800017408 wr
     have k3 : wr.cell? ⟨K, 3, none⟩ = some (.float .f64 key.q) := F5.out.kr 3 _ rfl
     have kf3 : wr.frozen? ⟨K, 3, none⟩ = false := (F5.out.kt 3 Yy0).2
     go_upto_block 4 with (fail)
     have F6 : Hid (FS C Inv A K ⟨5, u, tstr, tq, tix⟩ L w ((wr.drewN qd).setCell ⟨K, 3, none⟩ (.float .f64 r1)) ⟨key.k, key.raw, key.str, r1, key.ix⟩ val) := hdd ((F5.out.dn HI.out qd).keySet HI.out HCA.out 3 Yy0 _ _ rfl)
     obtain ⟨wB, hwB⟩ : ∃ wB, (wr.drewN qd).setCell ⟨K, 3, none⟩ (.float .f64 r1) = wB := ⟨_, rfl⟩
     rw [hwB] at F6
     rw [hwB]
     clear hwB F5 k3 kf3 hadd
     go_wp2_with fail
     go_loopg [6] (u.size - i) (fun m v6 wl => ∃ k : Nat, v6 = .int .i64 (k : Int) ∧ Hid (k + m = u.size) ∧ Hid (i ≤ k) ∧ Hid (wl = wB))
     case atStart => exact ⟨i, rfl, hdd Yy0, hdd (nlr _), hdd rfl⟩
     case round =>
      obtain ⟨k, rfl, hkm, hik, hwl⟩ := hrel
      obtain rfl := hwl.out
      have hku : k ≤ u.size := Yy22
      have k65 : (k : Int) ≤ 65536 := Yy0
      have CALL : Hid (Calls Tryz.prog 50 #[.string u, .int .i64 (k : Int), .bool true] wr (AnyNone wr)) := hdd (any_none u hs k hku (fun q h1 h2 => by have h3 := HG.out q (by have := hik.out; omega) h2; unfold sepOK at h3; omega))
      rcases eol hku with hx | hx
      ·
       have t1 : decide (k < u.size) = false := dff Yy0
       clear hx
       go_wp2_with (go_at_call 50; (with_reducible refine CALL.out.mono ?_); rintro en w6 ⟨ii, rfl, hb6⟩; have F9 := hdd (F6.out.below HI.out hb6); clear hb6; simp only [RV.val, RV.z]; have k0 : w6.cell? ⟨K + 1, 0, none⟩ = some (.int .i64 val.k) := F9.out.vr 0 _ rfl; have kf0 : w6.frozen? ⟨K + 1, 0, none⟩ = false := (F9.out.vt 0 Yy0).2; have k1 : w6.cell? ⟨K + 1, 1, none⟩ = some (.string val.raw) := F9.out.vr 1 _ rfl; have kf1 : w6.frozen? ⟨K + 1, 1, none⟩ = false := (F9.out.vt 1 Yy0).2; have k2 : w6.cell? ⟨K + 1, 2, none⟩ = some (.string val.str) := F9.out.vr 2 _ rfl; have kf2 : w6.frozen? ⟨K + 1, 2, none⟩ = false := (F9.out.vt 2 Yy0).2; have k3 : w6.cell? ⟨K + 1, 3, none⟩ = some (.float .f64 val.q) := F9.out.vr 3 _ rfl; have kf3 : w6.frozen? ⟨K + 1, 3, none⟩ = false := (F9.out.vt 3 Yy0).2; have k4 : w6.cell? ⟨K + 1, 4, none⟩ = some (.int .i64 val.ix) := F9.out.vr 4 _ rfl; have kf4 : w6.frozen? ⟨K + 1, 4, none⟩ = false := (F9.out.vt 4 Yy0).2; have k5 : w6.cell? ⟨K + 1, 5, none⟩ = some (.slice none 0 0) := F9.out.vr 5 _ rfl; have kf5 : w6.frozen? ⟨K + 1, 5, none⟩ = false := (F9.out.vt 5 Yy0).2)
       go_end0
       have F10 := F9.out.valAll HI.out HCA.out RV.z
       exact ⟨rfl, L, K + 2, hRun.out L (.nil L), F10.inv, by rw [hA]; exact F10.keep, key.q, KI.out.2⟩
      ·
       have t1 : decide (k < u.size) = true := dtt hx
       have hy := HG.out k hik.out hx
       rw [PFnGjSquashItems.bt_at hx] at hy
       unfold sepOK at hy
       by_cases h1 : (u[k].toNat : Int) ≤ 32
       ·
        have e1 : decide ((u[k].toNat : Int) ≤ 32) = true := dtt h1
        clear hy h1
        go_wp2_with fail
        go_roundg (gk - 1)
        case measure => have := hkm.out; omega
        case rel => exact ⟨k + 1, Yy5, hdd Yy22, hdd (by have := hik.out; omega), hdd rfl⟩
       ·
        have e1 : decide ((u[k].toNat : Int) ≤ 32) = false := dff h1
        by_cases h2 : (u[k].toNat : Int) = 44
        ·
         have e2 : ((u[k].toNat : Int) == 44) = true := beq_iff_eq.mpr h2
         clear hy h1 h2
         go_wp2_with fail
         go_roundg (gk - 1)
         case measure => have := hkm.out; omega
         case rel => exact ⟨k + 1, Yy5, hdd Yy22, hdd (by have := hik.out; omega), hdd rfl⟩
        ·
         have e2 : ((u[k].toNat : Int) == 44) = false := bfo h2
         by_cases h3 : (u[k].toNat : Int) = 58
         ·
          have e3 : ((u[k].toNat : Int) == 58) = true := beq_iff_eq.mpr h3
          clear hy h1 h2 h3
          go_wp2_with fail
          go_roundg (gk - 1)
          case measure => have := hkm.out; omega
          case rel => exact ⟨k + 1, Yy5, hdd Yy22, hdd (by have := hik.out; omega), hdd rfl⟩
         ·
          have e3 : ((u[k].toNat : Int) == 58) = false := bfo h3
          clear hy h1 h2 h3
          go_wp2_with (go_at_call 50; (with_reducible refine CALL.out.mono ?_); rintro en w6 ⟨ii, rfl, hb6⟩; have F9 := hdd (F6.out.below HI.out hb6); clear hb6; simp only [RV.val, RV.z]; have k0 : w6.cell? ⟨K + 1, 0, none⟩ = some (.int .i64 val.k) := F9.out.vr 0 _ rfl; have kf0 : w6.frozen? ⟨K + 1, 0, none⟩ = false := (F9.out.vt 0 Yy0).2; have k1 : w6.cell? ⟨K + 1, 1, none⟩ = some (.string val.raw) := F9.out.vr 1 _ rfl; have kf1 : w6.frozen? ⟨K + 1, 1, none⟩ = false := (F9.out.vt 1 Yy0).2; have k2 : w6.cell? ⟨K + 1, 2, none⟩ = some (.string val.str) := F9.out.vr 2 _ rfl; have kf2 : w6.frozen? ⟨K + 1, 2, none⟩ = false := (F9.out.vt 2 Yy0).2; have k3 : w6.cell? ⟨K + 1, 3, none⟩ = some (.float .f64 val.q) := F9.out.vr 3 _ rfl; have kf3 : w6.frozen? ⟨K + 1, 3, none⟩ = false := (F9.out.vt 3 Yy0).2; have k4 : w6.cell? ⟨K + 1, 4, none⟩ = some (.int .i64 val.ix) := F9.out.vr 4 _ rfl; have kf4 : w6.frozen? ⟨K + 1, 4, none⟩ = false := (F9.out.vt 4 Yy0).2; have k5 : w6.cell? ⟨K + 1, 5, none⟩ = some (.slice none 0 0) := F9.out.vr 5 _ rfl; have kf5 : w6.frozen? ⟨K + 1, 5, none⟩ = false := (F9.out.vt 5 Yy0).2)
          go_end0
          have F10 := F9.out.valAll HI.out HCA.out RV.z
          exact ⟨rfl, L, K + 2, hRun.out L (.nil L), F10.inv, by rw [hA]; exact F10.keep, key.q, KI.out.2⟩
    ·
     subst hl2
     have HSP := hdd hsp; have HVK := hdd hvk; have HNE := hdd hne; have HIT2 := hdd hIt2
     have HST := hdd hst; have HNJ := hdd hnj; have HNI := hdd hni
     have VL : Hid (tt.v < tt.j) := hdd hvk.1
     have hinj : i ≤ tt.nj := by cases ob with | true => have := (hst rfl).1.1; omega | false => have := hnj rfl; omega
     clear hsp hvk hne hIt2 hst hnj hni hIt
     go_upto_if 58 with (fail)
     go_cut [6] (fun v6 wc => ∃ key2 : RV, v6 = .int .i64 (tt.nj : Int) ∧ Hid (FS C Inv A K ⟨5, u, tstr, tq, tix⟩ L w wc key2 val) ∧ Hid (KeyOK u ob tt key2) ∧ Hid (∀ v : RV, Kinv ob (L ++ [(key2, v)]) key2))
     case first =>
      cases ob with
      | false =>
       obtain ⟨r1, qd, hfa, hadd⟩ := flt_add 32 key.q 4607182418800017408 wr
       have HFA := hdd hfa
       clear hfa
       have k3 : wr.cell? ⟨K, 3, none⟩ = some (.float .f64 key.q) := F5.out.kr 3 _ rfl
       have kf3 : wr.frozen? ⟨K, 3, none⟩ = false := (F5.out.kt 3 Yy0).2
       go_wp2_with fail
       go_meet
       exact ⟨⟨key.k, key.raw, key.str, r1, key.ix⟩, by rw [HNJ.out trivial], hdd ((F5.out.dn HI.out qd).keySet HI.out HCA.out 3 Yy0 _ _ rfl), hdd ⟨(fun h => Yy9), fun _ => KI.out.1.2 rfl⟩, hdd (fun v => ⟨⟨(fun h => Yy9), fun _ => KI.out.1.2 rfl⟩, NumI.snoc (p := (⟨key.k, key.raw, key.str, r1, key.ix⟩, v)) KI.out.2 (fun h => Yy9) (fun _ => HFA.out)⟩)⟩
      | true =>
       have hst := HST.out rfl
       obtain ⟨ve, hve, sc⟩ := str_call hs hst.1
       have SC : Hid (∀ w : World, Calls Tryz.prog 60 #[.string u, .int .i64 ((i : Int) + 1)] w fun e w' => e = .returned (.tuple #[.int .i64 (tt.nj : Int), .string (u.extract i tt.nj), .bool ve, .bool true]) ∧ ∃ n, w' = w.drewN n) := hdd sc
       obtain ⟨O, hO⟩ := tok_un hst
       have HO := hdd hO
       have KS : Hid (ve = false → KStr (u.extract (i + 1) (tt.nj - 1)) (u.extract (i + 1) (tt.nj - 1))) := hdd (fun h => kstr_plain hst (hve h))
       have HU : Hid ((u.extract (i + 1) (tt.nj - 1)).size ≤ 65536) := hdd Yy13
       obtain ⟨n9, hn9⟩ : ∃ n9, tt.nj - i = n9 := ⟨_, rfl⟩
       have hj2 : i + 2 ≤ tt.nj := hst.1.1
       have hjs : tt.nj ≤ u.size := hst.1.2.1
       have hb := hst.1.2.2.1
       rw [PFnGjSquashItems.bt_at h] at hb
       have n2 : 2 ≤ (n9 : Int) := Yy0
       have n3 : (n9 : Int) ≤ 65536 := Yy0
       have xz : (u.extract i tt.nj).size = n9 := Yy13
       have hsl : ∀ W : World, (Instr.slice 9 (.string (u.extract i tt.nj)) (some (.int .i64 1)) (some (.int .i64 ((n9 : Int) - 1))) none).run Tryz.prog W = .ok (.string (u.extract (i + 1) (tt.nj - 1))) W := fun W => slice_in Yy0 hjs Yy0 W
       have q4 : ((u[i].toNat : Int) != 34) = false := by rw [hb]; rfl
       have a4 : wr.cell? ⟨A, 4, none⟩ = some (.int .i64 tix) := F5.out.tr 4 _ rfl
       clear hn9 sc hve hO hst hb
       cases ve with
       | false =>
        have k1 : wr.cell? ⟨K, 1, none⟩ = some (.string key.raw) := F5.out.kr 1 _ rfl
        have kf1 : wr.frozen? ⟨K, 1, none⟩ = false := (F5.out.kt 1 Yy0).2
        have k2 : wr.cell? ⟨K, 2, none⟩ = some (.string key.str) := F5.out.kr 2 _ rfl
        have kf2 : wr.frozen? ⟨K, 2, none⟩ = false := (F5.out.kt 2 Yy0).2
        have k4 : wr.cell? ⟨K, 4, none⟩ = some (.int .i64 key.ix) := F5.out.kr 4 _ rfl
        have kf4 : wr.frozen? ⟨K, 4, none⟩ = false := (F5.out.kt 4 Yy0).2
        go_wp2_with (go_at_call 60; (with_reducible refine (SC.out _).mono ?_); rintro en w4 ⟨rfl, k9, rfl⟩)
        go_meet
        exact ⟨⟨key.k, u.extract i tt.nj, u.extract (i + 1) (tt.nj - 1), key.q, (i : Int) + tix⟩, rfl, hdd ((((F5.out.dn HI.out k9).keySet HI.out HCA.out 2 Yy0 _ ⟨key.k, key.raw, u.extract (i + 1) (tt.nj - 1), key.q, key.ix⟩ rfl).keySet HI.out HCA.out 1 Yy0 _ ⟨key.k, u.extract i tt.nj, u.extract (i + 1) (tt.nj - 1), key.q, key.ix⟩ rfl).keySet HI.out HCA.out 4 Yy0 _ _ rfl), hdd ⟨fun _ => ⟨KI.out.1.1 rfl, by rw [HNI.out], by rw [HNI.out]; exact KS.out trivial⟩, (fun h => Yy9)⟩, hdd (fun v => ⟨⟨fun _ => KI.out.1.1 rfl, (fun h => Yy9)⟩, NumI.snoc (p := (⟨key.k, u.extract i tt.nj, u.extract (i + 1) (tt.nj - 1), key.q, (i : Int) + tix⟩, v)) KI.out.2 (fun _ => rfl) (fun h => Yy9)⟩)⟩
       | true =>
        go_upto_region 31 with (go_at_call 60; (with_reducible refine (SC.out _).mono ?_); rintro en w4 ⟨rfl, k9, rfl⟩)
        obtain ⟨w5, hw5⟩ : ∃ w5, wr.drewN k9 = w5 := ⟨_, rfl⟩
        have F6 : Hid (FS C Inv A K ⟨5, u, tstr, tq, tix⟩ L w w5 key val) := hdd (by rw [← hw5]; exact F5.out.dn HI.out k9)
        rw [hw5]
        clear hw5 a4
        go_wp2_with (go_at_call 61; (with_reducible refine (unesc_any _ HU.out O HO.out).mono ?_); rintro en w6 ⟨rfl, hb6⟩; have F7 := hdd (F6.out.below HI.out hb6); clear hb6; have k1 : w6.cell? ⟨K, 1, none⟩ = some (.string key.raw) := F7.out.kr 1 _ rfl; have kf1 : w6.frozen? ⟨K, 1, none⟩ = false := (F7.out.kt 1 Yy0).2; have k2 : w6.cell? ⟨K, 2, none⟩ = some (.string key.str) := F7.out.kr 2 _ rfl; have kf2 : w6.frozen? ⟨K, 2, none⟩ = false := (F7.out.kt 2 Yy0).2; have k4 : w6.cell? ⟨K, 4, none⟩ = some (.int .i64 key.ix) := F7.out.kr 4 _ rfl; have kf4 : w6.frozen? ⟨K, 4, none⟩ = false := (F7.out.kt 4 Yy0).2; have a4 : w6.cell? ⟨A, 4, none⟩ = some (.int .i64 tix) := F7.out.tr 4 _ rfl)
        go_meet
        exact ⟨⟨key.k, u.extract i tt.nj, strOfNums O, key.q, (i : Int) + tix⟩, rfl, hdd (((F7.out.keySet HI.out HCA.out 2 Yy0 _ ⟨key.k, key.raw, strOfNums O, key.q, key.ix⟩ rfl).keySet HI.out HCA.out 1 Yy0 _ ⟨key.k, u.extract i tt.nj, strOfNums O, key.q, key.ix⟩ rfl).keySet HI.out HCA.out 4 Yy0 _ _ rfl), hdd ⟨fun _ => ⟨KI.out.1.1 rfl, by rw [HNI.out], by rw [HNI.out]; exact ⟨O, HO.out, rfl⟩⟩, (fun h => Yy9)⟩, hdd (fun v => ⟨⟨fun _ => KI.out.1.1 rfl, (fun h => Yy9)⟩, NumI.snoc (p := (⟨key.k, u.extract i tt.nj, strOfNums O, key.q, (i : Int) + tix⟩, v)) KI.out.2 (fun _ => rfl) (fun h => Yy9)⟩)⟩
     case rest =>
      obtain ⟨key2, rfl, F8, KO, KI2⟩ := hcut
      clear F5 KI
      go_wp2_with fail
      go_loopg [6] (tt.v - tt.nj) (fun m v6 wl => ∃ k : Nat, v6 = .int .i64 (k : Int) ∧ Hid (k + m = tt.v) ∧ Hid (tt.nj ≤ k) ∧ Hid (wl = wc))
      case atStart => exact ⟨tt.nj, rfl, hdd Yy0, hdd (nlr _), hdd rfl⟩
      case round =>
       obtain ⟨k, rfl, hkm, hnk, hwl⟩ := hrel
       obtain rfl := hwl.out
       have hkv : k ≤ tt.v := Yy22
       have hku : k < u.size := by have := VL.out; omega
       have t1 : decide (k < u.size) = true := dtt hku
       have k65 : (k : Int) ≤ 65536 := Yy0
       rcases eol hkv with hx | hx
       ·
        have hy : 32 < bt u (k : Int) ∧ bt u (k : Int) ≠ 44 ∧ bt u (k : Int) ≠ 58 := by rw [hx]; exact vk_nosep HVK.out
        rw [PFnGjSquashItems.bt_at hku] at hy
        have e1 : decide ((u[k].toNat : Int) ≤ 32) = false := dff Yy0
        have e2 : ((u[k].toNat : Int) == 44) = false := bfo hy.2.1
        have e3 : ((u[k].toNat : Int) == 58) = false := bfo hy.2.2
        obtain ⟨hms, hmz⟩ := F8.out.ms HM.out (by rw [← hA]; exact HBB.out) HCb.out
        have CALL : Hid (Calls Tryz.prog 50 #[.string u, .int .i64 (k : Int), .bool true] wr (AnyPost u tt.kd tt.v tt.j wr)) := hdd (any_any hms hmz u hs k tt.v tt.j tt.kd hkv (fun q h1 h2 => Yy0) HVK.out HNE.out)
        have hneq := fun (W : World) => run_neq_slice_nil_any (P := Tryz.prog) W 59 3 none 0 0 0 0 Tryz.underlying59
        have HKX := hdd hx
        clear hms hmz hy hx
        go_upto_region 46 with (go_at_call 50; (with_reducible refine CALL.out.mono ?_); rintro en w6 ⟨q9, ix9, st9, rfl, hix9, hs1, hs2, hb6⟩; have F9 := hdd (F8.out.below HI.out hb6); have HX1 := hdd hs1; have HX2 := hdd hs2; clear hb6 hs1 hs2; simp only [RV.val]; have k0 : w6.cell? ⟨K + 1, 0, none⟩ = some (.int .i64 val.k) := F9.out.vr 0 _ rfl; have kf0 : w6.frozen? ⟨K + 1, 0, none⟩ = false := (F9.out.vt 0 Yy0).2; have k1 : w6.cell? ⟨K + 1, 1, none⟩ = some (.string val.raw) := F9.out.vr 1 _ rfl; have kf1 : w6.frozen? ⟨K + 1, 1, none⟩ = false := (F9.out.vt 1 Yy0).2; have k2 : w6.cell? ⟨K + 1, 2, none⟩ = some (.string val.str) := F9.out.vr 2 _ rfl; have kf2 : w6.frozen? ⟨K + 1, 2, none⟩ = false := (F9.out.vt 2 Yy0).2; have k3 : w6.cell? ⟨K + 1, 3, none⟩ = some (.float .f64 val.q) := F9.out.vr 3 _ rfl; have kf3 : w6.frozen? ⟨K + 1, 3, none⟩ = false := (F9.out.vt 3 Yy0).2; have k4 : w6.cell? ⟨K + 1, 4, none⟩ = some (.int .i64 val.ix) := F9.out.vr 4 _ rfl; have kf4 : w6.frozen? ⟨K + 1, 4, none⟩ = false := (F9.out.vt 4 Yy0).2; have k5 : w6.cell? ⟨K + 1, 5, none⟩ = some (.slice none 0 0) := F9.out.vr 5 _ rfl; have kf5 : w6.frozen? ⟨K + 1, 5, none⟩ = false := (F9.out.vt 5 Yy0).2; have a4 : w6.cell? ⟨A, 4, none⟩ = some (.int .i64 tix) := F9.out.tr 4 _ rfl; have a5 : w6.cell? ⟨A, 5, none⟩ = some (.slice none 0 0) := F9.out.tr 5 _ rfl)
        clear k0 kf0 k1 kf1 k2 kf2 k3 kf3 k4 kf4 k5 kf5 a4 a5 e1 e2 e3 hneq CALL
        have F10 : Hid (FS C Inv A K ⟨5, u, tstr, tq, tix⟩ L w (((((((w6.setCell ⟨K + 1, 0, none⟩ (.int .i64 (gkd tt.kd))).setCell ⟨K + 1, 1, none⟩ (.string (u.extract tt.v tt.j))).setCell ⟨K + 1, 2, none⟩ (.string st9)).setCell ⟨K + 1, 3, none⟩ (.float .f64 q9)).setCell ⟨K + 1, 4, none⟩ (.int .i64 (ix9 : Int))).setCell ⟨K + 1, 5, none⟩ (.slice none 0 0)).setCell ⟨K + 1, 4, none⟩ (.int .i64 ((k : Int) + tix))) key2 ⟨gkd tt.kd, u.extract tt.v tt.j, st9, q9, (k : Int) + tix⟩) := hdd ((F9.out.valAll HI.out HCA.out ⟨gkd tt.kd, u.extract tt.v tt.j, st9, q9, (ix9 : Int)⟩).valSet HI.out HCA.out 4 Yy0 _ _ rfl)
        obtain ⟨wA, hwA⟩ : ∃ wA, ((((((w6.setCell ⟨K + 1, 0, none⟩ (.int .i64 (gkd tt.kd))).setCell ⟨K + 1, 1, none⟩ (.string (u.extract tt.v tt.j))).setCell ⟨K + 1, 2, none⟩ (.string st9)).setCell ⟨K + 1, 3, none⟩ (.float .f64 q9)).setCell ⟨K + 1, 4, none⟩ (.int .i64 (ix9 : Int))).setCell ⟨K + 1, 5, none⟩ (.slice none 0 0)).setCell ⟨K + 1, 4, none⟩ (.int .i64 ((k : Int) + tix)) = wA := ⟨_, rfl⟩
        rw [hwA] at F10
        rw [hwA]
        clear hwA F9 F8
        have PO : Hid (PairOK u ob tt (key2, ⟨gkd tt.kd, u.extract tt.v tt.j, st9, q9, (k : Int) + tix⟩)) := hdd ⟨KO.out, rfl, rfl, HX1.out, HX2.out⟩
        have ST : Hid (Calls Tryz.prog f (#[.agg #[.int .i64 key2.k, .string key2.raw, .string key2.str, .float .f64 key2.q, .int .i64 key2.ix, .slice none 0 0], .agg #[.int .i64 (gkd tt.kd), .string (u.extract tt.v tt.j), .string st9, .float .f64 q9, .int .i64 ((k : Int) + tix), .slice none 0 0]] ++ caps) wA fun e w' => e = .returned (.bool (cont (L ++ [(key2, ⟨gkd tt.kd, u.extract tt.v tt.j, st9, q9, (k : Int) + tix⟩)]))) ∧ Inv (K + 2) (L ++ [(key2, ⟨gkd tt.kd, u.extract tt.v tt.j, st9, q9, (k : Int) + tix⟩)]) w' ∧ KeepC C (K + 2) wA w') := hdd (HI.out.step (K + 2) L key2 ⟨gkd tt.kd, u.extract tt.v tt.j, st9, q9, (k : Int) + tix⟩ wA F10.out.inv F10.out.sz (by have := hLi.out; omega))
        have k0 : wA.cell? ⟨K, 0, none⟩ = some (.int .i64 key2.k) := F10.out.kr 0 _ rfl
        have k1 : wA.cell? ⟨K, 1, none⟩ = some (.string key2.raw) := F10.out.kr 1 _ rfl
        have k2 : wA.cell? ⟨K, 2, none⟩ = some (.string key2.str) := F10.out.kr 2 _ rfl
        have k3 : wA.cell? ⟨K, 3, none⟩ = some (.float .f64 key2.q) := F10.out.kr 3 _ rfl
        have k4 : wA.cell? ⟨K, 4, none⟩ = some (.int .i64 key2.ix) := F10.out.kr 4 _ rfl
        have k5 : wA.cell? ⟨K, 5, none⟩ = some (.slice none 0 0) := F10.out.kr 5 _ rfl
        have v0 : wA.cell? ⟨K + 1, 0, none⟩ = some (.int .i64 (gkd tt.kd)) := F10.out.vr 0 _ rfl
        have v1 : wA.cell? ⟨K + 1, 1, none⟩ = some (.string (u.extract tt.v tt.j)) := F10.out.vr 1 _ rfl
        have v2 : wA.cell? ⟨K + 1, 2, none⟩ = some (.string st9) := F10.out.vr 2 _ rfl
        have v3 : wA.cell? ⟨K + 1, 3, none⟩ = some (.float .f64 q9) := F10.out.vr 3 _ rfl
        have v4 : wA.cell? ⟨K + 1, 4, none⟩ = some (.int .i64 ((k : Int) + tix)) := F10.out.vr 4 _ rfl
        have v5 : wA.cell? ⟨K + 1, 5, none⟩ = some (.slice none 0 0) := F10.out.vr 5 _ rfl
        obtain ⟨b, hbc⟩ : ∃ b, cont (L ++ [(key2, ⟨gkd tt.kd, u.extract tt.v tt.j, st9, q9, (k : Int) + tix⟩)]) = b := ⟨_, rfl⟩
        have heg := HI.out.enter
        rw [hbc] at ST
        have HB := hdd hbc
        clear hbc
        cases b with
        | false =>
         go_wp2_with ((with_reducible refine ST.out.mono ?_); rintro en w7 ⟨rfl, hI, hK⟩; have HI7 := hdd hI; have HK7 := hdd hK; clear hI hK)
         go_end0
         exact ⟨rfl, _, K + 2, hRun.out _ (.stop PO.out HB.out), HI7.out, by rw [hA]; exact (F10.out.iter HCA.out HI7.out HK7.out).keep, key2.q, (KI2.out ⟨gkd tt.kd, u.extract tt.v tt.j, st9, q9, (k : Int) + tix⟩).2⟩
        | true =>
         go_wp2_with ((with_reducible refine ST.out.mono ?_); rintro en w7 ⟨rfl, hI, hK⟩; have HI7 := hdd hI; have HK7 := hdd hK; clear hI hK)
         go_roundg (u.size - (tt.j + 1))
         case measure => have := hm.out; have := VL.out; have := hnk.out; omega
         case rel => exact ⟨tt.j + 1, l2, L ++ [(key2, ⟨gkd tt.kd, u.extract tt.v tt.j, st9, q9, (k : Int) + tix⟩)], key2, ⟨gkd tt.kd, u.extract tt.v tt.j, st9, q9, (k : Int) + tix⟩, _, Yy5, rfl, hdd Yy0, HIT2, hdd (fun Z hZ => hRun.out Z (.next PO.out HB.out hZ)), hdd (F10.out.iter HCA.out HI7.out HK7.out), hdd (KI2.out ⟨gkd tt.kd, u.extract tt.v tt.j, st9, q9, (k : Int) + tix⟩), hdd (by have := hLi.out; have := VL.out; simp; omega)⟩
       ·
        have hy := HSP.out k hnk.out hx
        rw [PFnGjSquashItems.bt_at hku] at hy
        unfold sepOK at hy
        clear KO KI2
        by_cases h1 : (u[k].toNat : Int) ≤ 32
        ·
         have e1 : decide ((u[k].toNat : Int) ≤ 32) = true := dtt h1
         clear hy h1
         go_wp2_with fail
         go_roundg (gk - 1)
         case measure => have := hkm.out; omega
         case rel => exact ⟨k + 1, Yy5, hdd Yy22, hdd (by have := hnk.out; omega), hdd rfl⟩
        ·
         have e1 : decide ((u[k].toNat : Int) ≤ 32) = false := dff h1
         by_cases h2 : (u[k].toNat : Int) = 44
         ·
          have e2 : ((u[k].toNat : Int) == 44) = true := beq_iff_eq.mpr h2
          clear hy h1 h2
          go_wp2_with fail
          go_roundg (gk - 1)
          case measure => have := hkm.out; omega
          case rel => exact ⟨k + 1, Yy5, hdd Yy22, hdd (by have := hnk.out; omega), hdd rfl⟩
         ·
          have e2 : ((u[k].toNat : Int) == 44) = false := bfo h2
          have e3 : ((u[k].toNat : Int) == 58) = true := beq_iff_eq.mpr Yy0
          clear hy h1 h2
          go_wp2_with fail
          go_roundg (gk - 1)
          case measure => have := hkm.out; omega
          case rel => exact ⟨k + 1, Yy5, hdd Yy22, hdd (by have := hnk.out; omega), hdd rfl⟩
open Go Go.RowKit Go.Proofs.YtieflhncpjjciaaGreatDoorW.PrintWords
theorem iter_all {ob sb : Nat} {stop : Int} {pins : List (Nat × Value)} (hs : (sb, Value.int .i64 stop) ∈ pins) : IterOK 47 #[.pointer (some ⟨ob, 0, none⟩), .pointer (some ⟨sb, 0, none⟩)] (CP pins ob) (fun base L w => OtP 42 10 pairCells pins ob base L w) (contS stop) :=
 ⟨fun _ _ => Yy15, fun base L a b w h hb hL => (clo47_any h hs hb hL a b).mono fun e w' ⟨h1, h2, h3⟩ => ⟨h1, h2, h3.toCP⟩, fun base L w w' h k => h.off k⟩
theorem clo73_any {w : World} {ob sb yb base : Nat} {stop : Int} {pins : List (Nat × Value)} {L : List (RV × RV)} (h : OtP 34 5 keyCells pins ob base L w) (hs : (sb, Value.int .i64 stop) ∈ pins) (hy : (yb, Value.func (.func 45) #[] #[.pointer (some ⟨ob, 0, none⟩), .pointer (some ⟨sb, 0, none⟩)]) ∈ pins) (hb : base ≤ w.heap.size) (hL : L.length ≤ 65536) (a b : RV) :
  Calls Tryz.prog 73 #[a.val, b.val, .pointer (some ⟨yb, 0, none⟩)] w fun e w' => e = .returned (.bool (contS stop (L ++ [(a, b)]))) ∧ OtP 34 5 keyCells pins ob base (L ++ [(a, b)]) w' ∧ Keep ob base w w' := by
 obtain ⟨B, hB⟩ : ∃ B, w.heap.size = B := ⟨_, rfl⟩
 obtain ⟨w1, hw1⟩ : ∃ w1, (w.alloc (Obj.cells a.cl.toArray 61)).alloc (Obj.cells b.cl.toArray 61) = w1 := ⟨_, rfl⟩
 have b1 : Below w.heap.size w w1 := by rw [← hw1]; exact ((Below.refl _ w).alloc (nlr _) _).alloc Yy15 _
 have h1 : OtP 34 5 keyCells pins ob base L w1 := h.off (OffC.of b1)
 have y1 : w1.cell? ⟨yb, 0, none⟩ = some (.func (.func 45) #[] #[.pointer (some ⟨ob, 0, none⟩), .pointer (some ⟨sb, 0, none⟩)]) := (h1.pin _ hy).1
 have R1 : w1.rangeAt B 0 a.cl := by rw [← hw1, ← hB]; exact rng_al (rng_new w a.cl 61) _
 have ST : Hid (Calls Tryz.prog 45 #[a.val, .pointer (some ⟨ob, 0, none⟩), .pointer (some ⟨sb, 0, none⟩)] w1 fun e w' => e = .returned (.bool (contS stop (L ++ [(a, b)]))) ∧ OtP 34 5 keyCells pins ob base (L ++ [(a, b)]) w' ∧ Keep ob base w1 w') := hdd (clo45_any h1 hs (Nat.le_trans hb b1.size) hL a b)
 have K1 : Hid (Keep ob base w w1) := hdd (Keep.of b1 hb)
 have heg : ∀ (args : Array Value) (w : World), (callFunc 45 args).run Tryz.prog w = .ok (.enter 45 args) w := fun _ _ => Yy15
 obtain ⟨ak, araw, astr, aq, aix⟩ := a
 obtain ⟨bk, braw, bstr, bq, bix⟩ := b
 have c0 : w1.cell? ⟨B, 0, none⟩ = some (.int .i64 ak) := R1 0 _ rfl
 have c1 : w1.cell? ⟨B, 1, none⟩ = some (.string araw) := R1 1 _ rfl
 have c2 : w1.cell? ⟨B, 2, none⟩ = some (.string astr) := R1 2 _ rfl
 have c3 : w1.cell? ⟨B, 3, none⟩ = some (.float .f64 aq) := R1 3 _ rfl
 have c4 : w1.cell? ⟨B, 4, none⟩ = some (.int .i64 aix) := R1 4 _ rfl
 have c5 : w1.cell? ⟨B, 5, none⟩ = some (.slice none 0 0) := R1 5 _ rfl
 rw [cons_val] at ST ⊢
 rw [cons_val]
 dsimp only at ST ⊢
 simp only [RV.cl] at hw1
 clear h hs hy h1 b1 R1
 obtain ⟨P, hP⟩ : ∃ P : Ending → World → Prop, (fun e w' => e = Ending.returned (.bool (contS stop (L ++ [((⟨ak, araw, astr, aq, aix⟩ : RV), (⟨bk, braw, bstr, bq, bix⟩ : RV))]))) ∧ OtP 34 5 keyCells pins ob base (L ++ [((⟨ak, araw, astr, aq, aix⟩ : RV), (⟨bk, braw, bstr, bq, bix⟩ : RV))]) w' ∧ Keep ob base w w') = P := ⟨_, rfl⟩
 have HPP : Hid (∀ e w', e = Ending.returned (.bool (contS stop (L ++ [((⟨ak, araw, astr, aq, aix⟩ : RV), (⟨bk, braw, bstr, bq, bix⟩ : RV))]))) → OtP 34 5 keyCells pins ob base (L ++ [((⟨ak, araw, astr, aq, aix⟩ : RV), (⟨bk, braw, bstr, bq, bix⟩ : RV))]) w' → Keep ob base w w' → P e w') := hdd (fun e w' h1 h2 h3 => by rw [← hP]; exact ⟨h1, h2, h3⟩)
 rw [hP]
 clear hP
 go_enter Tryz.func73, Tryz.ntmps73
 go_upto_region 1 with (fail)
 try rw [hw1]
 go_wp2_with (first | (go_at_call 45; (with_reducible refine ST.out.mono ?_); rintro en w7 ⟨rfl, hI, hK⟩; have HI7 := hdd hI; have HK7 := hdd hK; clear hI hK) | ((with_reducible refine ST.out.mono ?_); rintro en w7 ⟨rfl, hI, hK⟩; have HI7 := hdd hI; have HK7 := hdd hK; clear hI hK))
 exact HPP.out _ _ rfl HI7.out (K1.out.trans HK7.out)
theorem iter_keys {ob sb yb : Nat} {stop : Int} {pins : List (Nat × Value)} (hs : (sb, Value.int .i64 stop) ∈ pins) (hy : (yb, Value.func (.func 45) #[] #[.pointer (some ⟨ob, 0, none⟩), .pointer (some ⟨sb, 0, none⟩)]) ∈ pins) : IterOK 73 #[.pointer (some ⟨yb, 0, none⟩)] (CP pins ob) (fun base L w => OtP 34 5 keyCells pins ob base L w) (contS stop) :=
 ⟨fun _ _ => Yy15, fun base L a b w h hb hL => (clo73_any h hs hy hb hL a b).mono fun e w' ⟨h1, h2, h3⟩ => ⟨h1, h2, h3.toCP⟩, fun base L w w' h k => h.off k⟩
def FeOK (b0 : Nat) (t : RV) (cont : List (RV × RV) → Bool) (R : List (RV × RV) → Prop) : Prop :=
 ∀ {f : Nat} {caps : Array Value} {C : Nat → Prop} {Inv : Nat → List (RV × RV) → World → Prop}, IterOK f caps C Inv cont → ∀ {w : World}, MS w b0 → b0 ≤ w.heap.size → (∀ g, C g → b0 ≤ g ∧ g < w.heap.size) → (∀ base, Inv base [] w) →
  Calls Tryz.prog 34 #[t.val, .func (.func f) #[] caps] w fun e w' => e = .returned (.tuple #[]) ∧ ∃ L base, R L ∧ Inv base L w' ∧ KeepC C w.heap.size w w'
def ColPost (e size : Nat) (f : RV × RV → List Value) (R : List (RV × RV) → Prop) (w : World) (en : Ending) (w' : World) : Prop :=
 ∃ L base v, en = .returned v ∧ R L ∧ w'.ownsRow base e size v L.length (L.flatMap f) ∧ Below w.heap.size w w'
theorem it46_any {w : World} (t : RV) : Calls Tryz.prog 46 #[t.val] w fun e w' => e = .returned (.func (.func 74) #[] #[.pointer (some ⟨w.heap.size, 0, none⟩)]) ∧ w' = w.alloc (Obj.cells t.cl.toArray 61) := by
 obtain ⟨k, raw, str, q, ix⟩ := t
 rw [cons_val]
 dsimp only
 go_enter Tryz.func46, Tryz.ntmps46
 go_wp2_with fail
 go_ret
 exact ⟨rfl, rfl⟩
theorem it44_any {w : World} (t : RV) : Calls Tryz.prog 44 #[t.val] w fun e w' => e = .returned (.func (.func 72) #[] #[.pointer (some ⟨w.heap.size, 0, none⟩)]) ∧ w' = w.alloc (Obj.cells t.cl.toArray 61) := by
 obtain ⟨k, raw, str, q, ix⟩ := t
 rw [cons_val]
 dsimp only
 go_enter Tryz.func44, Tryz.ntmps44
 go_wp2_with fail
 go_ret
 exact ⟨rfl, rfl⟩
theorem it74_any {w : World} {tb : Nat} {t : RV} {fv : Value} (hr : w.rangeAt tb 0 t.cl) {Q : World → Prop} (FE : Calls Tryz.prog 34 #[t.val, fv] w fun e w' => e = .returned (.tuple #[]) ∧ Q w') :
  Calls Tryz.prog 74 #[fv, .pointer (some ⟨tb, 0, none⟩)] w fun e w' => e = .returned (.tuple #[]) ∧ Q w' := by
 obtain ⟨k, raw, str, q, ix⟩ := t
 have c0 : w.cell? ⟨tb, 0, none⟩ = some (.int .i64 k) := hr 0 _ rfl
 have c1 : w.cell? ⟨tb, 1, none⟩ = some (.string raw) := hr 1 _ rfl
 have c2 : w.cell? ⟨tb, 2, none⟩ = some (.string str) := hr 2 _ rfl
 have c3 : w.cell? ⟨tb, 3, none⟩ = some (.float .f64 q) := hr 3 _ rfl
 have c4 : w.cell? ⟨tb, 4, none⟩ = some (.int .i64 ix) := hr 4 _ rfl
 have c5 : w.cell? ⟨tb, 5, none⟩ = some (.slice none 0 0) := hr 5 _ rfl
 rw [cons_val] at FE
 dsimp only at FE
 have F := hdd FE
 clear FE hr
 go_enter Tryz.func74, Tryz.ntmps74
 go_wp2_with (go_at_call 34; (with_reducible refine F.out.mono ?_); rintro en w2 ⟨rfl, hq⟩)
 go_end0
 exact ⟨rfl, hq⟩
theorem it72_any {w : World} {tb : Nat} {t : RV} {g : Nat} {caps : Array Value} (hr : w.rangeAt tb 0 t.cl) {yv : Value} (hyv : yv = .func (.func g) #[] caps) {Q : World → Prop} (FE : Calls Tryz.prog 34 #[t.val, .func (.func 73) #[] #[.pointer (some ⟨w.heap.size, 0, none⟩)]] (w.alloc (Obj.cells #[yv] 63)) fun e w' => e = .returned (.tuple #[]) ∧ Q w') :
  Calls Tryz.prog 72 #[yv, .pointer (some ⟨tb, 0, none⟩)] w fun e w' => e = .returned (.tuple #[]) ∧ Q w' := by
 obtain ⟨k, raw, str, q, ix⟩ := t
 have c0 : (w.alloc (Obj.cells #[yv] 63)).cell? ⟨tb, 0, none⟩ = some (.int .i64 k) := rng_al hr _ 0 _ rfl
 have c1 : (w.alloc (Obj.cells #[yv] 63)).cell? ⟨tb, 1, none⟩ = some (.string raw) := rng_al hr _ 1 _ rfl
 have c2 : (w.alloc (Obj.cells #[yv] 63)).cell? ⟨tb, 2, none⟩ = some (.string str) := rng_al hr _ 2 _ rfl
 have c3 : (w.alloc (Obj.cells #[yv] 63)).cell? ⟨tb, 3, none⟩ = some (.float .f64 q) := rng_al hr _ 3 _ rfl
 have c4 : (w.alloc (Obj.cells #[yv] 63)).cell? ⟨tb, 4, none⟩ = some (.int .i64 ix) := rng_al hr _ 4 _ rfl
 have c5 : (w.alloc (Obj.cells #[yv] 63)).cell? ⟨tb, 5, none⟩ = some (.slice none 0 0) := rng_al hr _ 5 _ rfl
 rw [cons_val] at FE
 dsimp only at FE
 subst hyv
 obtain ⟨w1, hw1⟩ : ∃ w1, w.alloc (Obj.cells #[Value.func (.func g) #[] caps] 63) = w1 := ⟨_, rfl⟩
 obtain ⟨B, hB⟩ : ∃ B, w.heap.size = B := ⟨_, rfl⟩
 rw [hw1] at FE c0 c1 c2 c3 c4 c5
 rw [hB] at FE
 have F := hdd FE
 clear FE hr
 go_enter Tryz.func72, Tryz.ntmps72
 go_upto_region 1 with (fail)
 try rw [hw1]
 go_wp2_with (go_at_call 34; (with_reducible refine F.out.mono ?_); rintro en w2 ⟨rfl, hq⟩)
 go_end0
 exact ⟨rfl, hq⟩
theorem gjall_any {w : World} {b0 : Nat} (h : MS w b0) (hBB : b0 ≤ w.heap.size) (s : ByteArray) (stop : Int) {Tp : RV → Prop} {R : List (RV × RV) → Prop} (PJ : ∀ {w : World}, MS w b0 → b0 ≤ w.heap.size → Calls Tryz.prog 33 #[.string s] w fun e w' => ∃ t : RV, Tp t ∧ e = .returned t.val ∧ Below w.heap.size w w') (FE : ∀ t, Tp t → FeOK b0 t (contS stop) R) :
  Calls Tryz.prog 21 #[.string s, .int .i64 stop] w (ColPost 42 10 pairCells R w) := by
 obtain ⟨B, hB⟩ : ∃ B, w.heap.size = B := ⟨_, rfl⟩
 have HM := hdd h; have HBB := hdd hBB
 have PP : Hid (∀ {w : World}, MS w b0 → b0 ≤ w.heap.size → Calls Tryz.prog 33 #[.string s] w fun e w' => ∃ t : RV, Tp t ∧ e = .returned t.val ∧ Below w.heap.size w w') := hdd PJ
 have FF := hdd FE
 clear h hBB PJ FE
 go_enter Tryz.func21, Tryz.ntmps21
 go_upto_region 2 with (fail)
 obtain ⟨w1, hw1⟩ : ∃ w1, (w.alloc (Obj.cells #[.int .i64 stop] 3)).alloc (Obj.cells #[.slice none 0 0] 38) = w1 := ⟨_, rfl⟩
 have hs1 : w1.heap.size = B + 2 := Yy7
 have b1 : Hid (Below B w w1) := hdd Yy69
 have S1 : Hid (w1.cell? ⟨B, 0, none⟩ = some (.int .i64 stop)) := hdd Yy7
 have O1 : Hid (w1.cell? ⟨B + 1, 0, none⟩ = some (.slice none 0 0)) := hdd Yy7
 have F1 : Hid (w1.frozen? ⟨B + 1, 0, none⟩ = false) := hdd Yy7
 rw [hw1]
 clear hw1
 have HS1 := hdd hs1
 clear hs1
 have M1 : Hid (MS w1 b0) := hdd (HM.out.below (b1.out.mono Yy55))
 have GO : Hid (∀ (w2 : World) (t : RV), Tp t → Below w1.heap.size w1 w2 → Calls Tryz.prog 74 #[Value.func (.func 47) #[] #[.pointer (some ⟨B + 1, 0, none⟩), .pointer (some ⟨B, 0, none⟩)], .pointer (some ⟨w2.heap.size, 0, none⟩)] (w2.alloc (Obj.cells t.cl.toArray 61)) fun e w' => e = .returned (.tuple #[]) ∧ ∃ (L : List (RV × RV)) (base : Nat) (v : Value), R L ∧ w'.cell? ⟨B + 1, 0, none⟩ = some v ∧ w'.ownsRow base 42 10 v L.length (L.flatMap pairCells) ∧ Below B w w') := hdd (by
  intro w2 t ht hb2
  have hz2 : B + 2 ≤ w2.heap.size := by have := hb2.size; have := HS1.out; omega
  have s2 := cellB hb2 S1.out
  have o2 := cellB hb2 O1.out
  have f2 := frozB hb2 O1.out F1.out
  have b2 : Below w2.heap.size w2 (w2.alloc (Obj.cells t.cl.toArray 61)) := by exact (Below.refl _ w2).alloc (nlr _) _
  have b3 : Below B w (w2.alloc (Obj.cells t.cl.toArray 61)) := (b1.out.trans (hb2.mono (by have := HS1.out; omega))).trans (b2.mono Yy0)
  have hz : (w2.alloc (Obj.cells t.cl.toArray 61)).heap.size = w2.heap.size + 1 := Yy15
  have hr : (w2.alloc (Obj.cells t.cl.toArray 61)).rangeAt w2.heap.size 0 t.cl := rng_new w2 t.cl 61
  have hw2 : (w2.alloc (Obj.cells t.cl.toArray 61)).heap.size = w2.heap.size + 1 := Yy15
  have s3 := cellB b2 s2
  have o3 := cellB b2 o2
  have f3 := frozB b2 o2 f2
  have FE := (FF.out t ht) (iter_all (ob := B + 1) (sb := B) (stop := stop) (pins := [(B, Value.int .i64 stop)]) Yy3) (w := (w2.alloc (Obj.cells t.cl.toArray 61))) (HM.out.below (b3.mono Yy55)) (by have := HBB.out; rw [hz]; omega) (fun g hg => by
   have := HBB.out
   rw [hz]
   rcases hg with rfl | ⟨p, hp, rfl⟩
   ·
    omega
   ·
    simp at hp
    subst hp; dsimp only; omega) (fun base => ⟨⟨_, o3, World.ownsRow_nil _ _ _ _, by simp [Value.ownBlock], fun p hp => by simp [Value.ownBlock]⟩, f3, fun p hp => by
   simp at hp
   subst hp
   exact ⟨s3, by dsimp only; omega⟩⟩)
  refine (it74_any hr (Q := fun w' => ∃ L base, R L ∧ OtP 42 10 pairCells [(B, Value.int .i64 stop)] (B + 1) base L w' ∧ KeepC (CP [(B, Value.int .i64 stop)] (B + 1)) (w2.alloc (Obj.cells t.cl.toArray 61)).heap.size (w2.alloc (Obj.cells t.cl.toArray 61)) w') FE).mono ?_
  rintro e w' ⟨he, L, base, hR, ⟨⟨v, hc, hown, _, _⟩, _, _⟩, hk⟩
  refine ⟨he, L, base, v, hR, hc, hown, b3.trans ⟨hk.os, hk.tape, hk.output, hk.size, fun g hg => hk.block g (by rw [hz]; omega) (fun hc => ?_)⟩⟩
  rcases hc with rfl | ⟨p, hp, rfl⟩
  ·
   omega
  ·
   simp at hp
   subst hp; dsimp only at hg; omega)
 go_upto_region 3 with (first
  | (go_at_call 33; refine (PP.out M1.out (by have := HBB.out; have := HS1.out; omega)).mono ?_; rintro en w2 ⟨t, ht, rfl, hb2⟩; have GW := hdd (GO.out w2 t ht hb2); clear ht hb2)
  | (go_at_call 46; refine (it46_any _).mono ?_; rintro en w3 ⟨rfl, rfl⟩)
  | (go_at_call 74; (with_reducible refine GW.out.mono ?_); rintro en w4 ⟨rfl, L, base, v, hR, hc, hown, hbel⟩; have RR := hdd hR; have OW := hdd hown; have BW := hdd hbel; clear hR hown hbel))
 go_wp2_with fail
 go_ret
 exact ⟨L, base, v, rfl, RR.out, OW.out, by rw [hB]; exact BW.out⟩
theorem gjkeys_any {w : World} {b0 : Nat} (h : MS w b0) (hBB : b0 ≤ w.heap.size) (s : ByteArray) (stop : Int) {Tp : RV → Prop} {R : List (RV × RV) → Prop} (PJ : ∀ {w : World}, MS w b0 → b0 ≤ w.heap.size → Calls Tryz.prog 33 #[.string s] w fun e w' => ∃ t : RV, Tp t ∧ e = .returned t.val ∧ Below w.heap.size w w') (FE : ∀ t, Tp t → FeOK b0 t (contS stop) R) :
  Calls Tryz.prog 20 #[.string s, .int .i64 stop] w (ColPost 34 5 keyCells R w) := by
 obtain ⟨B, hB⟩ : ∃ B, w.heap.size = B := ⟨_, rfl⟩
 have HM := hdd h; have HBB := hdd hBB
 have PP : Hid (∀ {w : World}, MS w b0 → b0 ≤ w.heap.size → Calls Tryz.prog 33 #[.string s] w fun e w' => ∃ t : RV, Tp t ∧ e = .returned t.val ∧ Below w.heap.size w w') := hdd PJ
 have FF := hdd FE
 clear h hBB PJ FE
 go_enter Tryz.func20, Tryz.ntmps20
 go_upto_region 2 with (fail)
 obtain ⟨w1, hw1⟩ : ∃ w1, (w.alloc (Obj.cells #[.int .i64 stop] 3)).alloc (Obj.cells #[.slice none 0 0] 29) = w1 := ⟨_, rfl⟩
 have hs1 : w1.heap.size = B + 2 := Yy7
 have b1 : Hid (Below B w w1) := hdd Yy69
 have S1 : Hid (w1.cell? ⟨B, 0, none⟩ = some (.int .i64 stop)) := hdd Yy7
 have O1 : Hid (w1.cell? ⟨B + 1, 0, none⟩ = some (.slice none 0 0)) := hdd Yy7
 have F1 : Hid (w1.frozen? ⟨B + 1, 0, none⟩ = false) := hdd Yy7
 rw [hw1]
 clear hw1
 have HS1 := hdd hs1
 clear hs1
 have M1 : Hid (MS w1 b0) := hdd (HM.out.below (b1.out.mono Yy55))
 have GO : Hid (∀ (w2 : World) (t : RV), Tp t → Below w1.heap.size w1 w2 → Calls Tryz.prog 72 #[(Value.func (.func 45) #[] #[.pointer (some ⟨B + 1, 0, none⟩), .pointer (some ⟨B, 0, none⟩)]), .pointer (some ⟨w2.heap.size, 0, none⟩)] (w2.alloc (Obj.cells t.cl.toArray 61)) fun e w' => e = .returned (.tuple #[]) ∧ ∃ (L : List (RV × RV)) (base : Nat) (v : Value), R L ∧ w'.cell? ⟨B + 1, 0, none⟩ = some v ∧ w'.ownsRow base 34 5 v L.length (L.flatMap keyCells) ∧ Below B w w') := hdd (by
  intro w2 t ht hb2
  have hz2 : B + 2 ≤ w2.heap.size := by have := hb2.size; have := HS1.out; omega
  have s2 := cellB hb2 S1.out
  have o2 := cellB hb2 O1.out
  have f2 := frozB hb2 O1.out F1.out
  have b2 : Below w2.heap.size w2 ((w2.alloc (Obj.cells t.cl.toArray 61)).alloc (Obj.cells #[(Value.func (.func 45) #[] #[.pointer (some ⟨B + 1, 0, none⟩), .pointer (some ⟨B, 0, none⟩)])] 63)) := by exact ((Below.refl _ w2).alloc (nlr _) _).alloc Yy15 _
  have b3 : Below B w ((w2.alloc (Obj.cells t.cl.toArray 61)).alloc (Obj.cells #[(Value.func (.func 45) #[] #[.pointer (some ⟨B + 1, 0, none⟩), .pointer (some ⟨B, 0, none⟩)])] 63)) := (b1.out.trans (hb2.mono (by have := HS1.out; omega))).trans (b2.mono Yy0)
  have hz : ((w2.alloc (Obj.cells t.cl.toArray 61)).alloc (Obj.cells #[(Value.func (.func 45) #[] #[.pointer (some ⟨B + 1, 0, none⟩), .pointer (some ⟨B, 0, none⟩)])] 63)).heap.size = w2.heap.size + 2 := Yy15
  have hr : (w2.alloc (Obj.cells t.cl.toArray 61)).rangeAt w2.heap.size 0 t.cl := rng_new w2 t.cl 61
  have hw2 : (w2.alloc (Obj.cells t.cl.toArray 61)).heap.size = w2.heap.size + 1 := Yy15
  have s3 := cellB b2 s2
  have o3 := cellB b2 o2
  have f3 := frozB b2 o2 f2
  have y3 : ((w2.alloc (Obj.cells t.cl.toArray 61)).alloc (Obj.cells #[(Value.func (.func 45) #[] #[.pointer (some ⟨B + 1, 0, none⟩), .pointer (some ⟨B, 0, none⟩)])] 63)).cell? ⟨w2.heap.size + 1, 0, none⟩ = some (Value.func (.func 45) #[] #[.pointer (some ⟨B + 1, 0, none⟩), .pointer (some ⟨B, 0, none⟩)]) := by rw [← hw2]; simp [go_sem]
  have FE := (FF.out t ht) (iter_keys (ob := B + 1) (sb := B) (yb := w2.heap.size + 1) (stop := stop) (pins := [(B, Value.int .i64 stop), (w2.heap.size + 1, (Value.func (.func 45) #[] #[.pointer (some ⟨B + 1, 0, none⟩), .pointer (some ⟨B, 0, none⟩)]))]) Yy3 Yy3) (w := ((w2.alloc (Obj.cells t.cl.toArray 61)).alloc (Obj.cells #[(Value.func (.func 45) #[] #[.pointer (some ⟨B + 1, 0, none⟩), .pointer (some ⟨B, 0, none⟩)])] 63))) (HM.out.below (b3.mono Yy55)) (by have := HBB.out; rw [hz]; omega) (fun g hg => by
   have := HBB.out
   rw [hz]
   rcases hg with rfl | ⟨p, hp, rfl⟩
   ·
    omega
   ·
    simp at hp
    rcases hp with rfl | rfl <;> (dsimp only; omega)) (fun base => ⟨⟨_, o3, World.ownsRow_nil _ _ _ _, by simp [Value.ownBlock], fun p hp => by simp [Value.ownBlock]⟩, f3, fun p hp => by
   simp at hp
   rcases hp with rfl | rfl
   ·
    exact ⟨s3, by dsimp only; omega⟩
   ·
    exact ⟨y3, by dsimp only; omega⟩⟩)
  refine (it72_any hr rfl (Q := fun w' => ∃ L base, R L ∧ OtP 34 5 keyCells [(B, Value.int .i64 stop), (w2.heap.size + 1, (Value.func (.func 45) #[] #[.pointer (some ⟨B + 1, 0, none⟩), .pointer (some ⟨B, 0, none⟩)]))] (B + 1) base L w' ∧ KeepC (CP [(B, Value.int .i64 stop), (w2.heap.size + 1, (Value.func (.func 45) #[] #[.pointer (some ⟨B + 1, 0, none⟩), .pointer (some ⟨B, 0, none⟩)]))] (B + 1)) ((w2.alloc (Obj.cells t.cl.toArray 61)).alloc (Obj.cells #[(Value.func (.func 45) #[] #[.pointer (some ⟨B + 1, 0, none⟩), .pointer (some ⟨B, 0, none⟩)])] 63)).heap.size ((w2.alloc (Obj.cells t.cl.toArray 61)).alloc (Obj.cells #[(Value.func (.func 45) #[] #[.pointer (some ⟨B + 1, 0, none⟩), .pointer (some ⟨B, 0, none⟩)])] 63)) w') (by rw [hw2]; exact FE)).mono ?_
  rintro e w' ⟨he, L, base, hR, ⟨⟨v, hc, hown, _, _⟩, _, _⟩, hk⟩
  refine ⟨he, L, base, v, hR, hc, hown, b3.trans ⟨hk.os, hk.tape, hk.output, hk.size, fun g hg => hk.block g (by rw [hz]; omega) (fun hc => ?_)⟩⟩
  rcases hc with rfl | ⟨p, hp, rfl⟩
  ·
   omega
  ·
   simp at hp
   rcases hp with rfl | rfl <;> (dsimp only at hg; omega))
 go_upto_region 3 with (first
  | (go_at_call 33; refine (PP.out M1.out (by have := HBB.out; have := HS1.out; omega)).mono ?_; rintro en w2 ⟨t, ht, rfl, hb2⟩; have GW := hdd (GO.out w2 t ht hb2); clear ht hb2)
  | (go_at_call 44; refine (it44_any _).mono ?_; rintro en w3 ⟨rfl, rfl⟩)
  | (go_at_call 72; (with_reducible refine GW.out.mono ?_); rintro en w4 ⟨rfl, L, base, v, hR, hc, hown, hbel⟩; have RR := hdd hR; have OW := hdd hown; have BW := hdd hbel; clear hR hown hbel))
 go_wp2_with fail
 go_ret
 exact ⟨L, base, v, rfl, RR.out, OW.out, by rw [hB]; exact BW.out⟩
theorem foreach_leaf {b0 : Nat} {t : RV} (ht : t.k ≠ 5) (hex : t.k ≠ 0 ∨ t.raw.size ≠ 0) {cont : List (RV × RV) → Bool} : FeOK b0 t cont (fun L => L = [(RV.z, t)]) := by
 intro f caps C Inv hi w h hBB hC h0
 obtain ⟨A, hA⟩ : ∃ A, w.heap.size = A := ⟨_, rfl⟩
 obtain ⟨k, raw, str, q, ix⟩ := t
 have HI := hdd hi; have HC := hdd hC; have H0 := hdd h0
 have ex : (k != 0 || (raw.size : Int) != 0) = true := by
  dsimp only at hex
  rcases hex with h | h
  ·
   simp [h]
  ·
   simp [h]
 have k5 : (k != 5) = true := bne_iff_ne.mpr ht
 have heg := HI.out.enter
 clear hi h hBB hC h0 hex ht
 rw [cons_val]
 dsimp only
 go_enter Tryz.func34, Tryz.ntmps34
 go_upto_region 1 with (fail)
 obtain ⟨w1, hw1⟩ : ∃ w1, w.alloc (Obj.cells #[.int .i64 k, .string raw, .string str, .float .f64 q, .int .i64 ix, .slice none 0 0] 61) = w1 := ⟨_, rfl⟩
 have hs1 : w1.heap.size = A + 1 := by rw [← hw1, ← hA]; simp [go_sem]
 have b1 : Hid (Below A w w1) := hdd Yy75
 have R1 : Hid (w1.rangeAt A 0 (RV.cl ⟨k, raw, str, q, ix⟩)) := hdd (by rw [← hw1, ← hA]; exact rng_new w (RV.cl ⟨k, raw, str, q, ix⟩) 61)
 have c0 : w1.cell? ⟨A, 0, none⟩ = some (.int .i64 k) := R1.out 0 _ rfl
 have c1 : w1.cell? ⟨A, 1, none⟩ = some (.string raw) := R1.out 1 _ rfl
 have c2 : w1.cell? ⟨A, 2, none⟩ = some (.string str) := R1.out 2 _ rfl
 have c3 : w1.cell? ⟨A, 3, none⟩ = some (.float .f64 q) := R1.out 3 _ rfl
 have c4 : w1.cell? ⟨A, 4, none⟩ = some (.int .i64 ix) := R1.out 4 _ rfl
 have c5 : w1.cell? ⟨A, 5, none⟩ = some (.slice none 0 0) := R1.out 5 _ rfl
 rw [hw1]
 clear hw1
 have HS1 := hdd hs1
 clear hs1
 go_upto_region 3 with (go_at_call 51; refine (exists_any _ _ _ _ _ _).mono ?_; rintro en w2 ⟨rfl, hb2⟩; rw [ex]; have k0 := cellB hb2 c0; have k1 := cellB hb2 c1; have k2 := cellB hb2 c2; have k3 := cellB hb2 c3; have k4 := cellB hb2 c4; have k5' := cellB hb2 c5; have B2 : Hid (Below A w w2) := hdd (b1.out.trans (hb2.mono (by have := HS1.out; omega))); clear hb2)
 clear c0 c1 c2 c3 c4 c5
 have ST : Hid (Calls Tryz.prog f (#[.agg #[.int .i64 0, .string ⟨#[]⟩, .string ⟨#[]⟩, .float .f64 0, .int .i64 0, .slice none 0 0], .agg #[.int .i64 k, .string raw, .string str, .float .f64 q, .int .i64 ix, .slice none 0 0]] ++ caps) w2 fun e w' => e = .returned (.bool (cont ([] ++ [(RV.z, (⟨k, raw, str, q, ix⟩ : RV))]))) ∧ Inv w2.heap.size ([] ++ [(RV.z, (⟨k, raw, str, q, ix⟩ : RV))]) w' ∧ KeepC C w2.heap.size w2 w') :=
  hdd (HI.out.step w2.heap.size [] RV.z ⟨k, raw, str, q, ix⟩ w2 (HI.out.off _ _ _ _ (H0.out _) (OffC.of (by rw [hA]; exact B2.out))) (nlr _) Yy3)
 go_wp2_with ((with_reducible refine ST.out.mono ?_); rintro en w7 ⟨rfl, hI, hK⟩; have HI7 := hdd hI; have HK7 := hdd hK; clear hI hK)
 refine bodyPost_ret (results_none rfl _ _ _) rfl ?_
 exact ⟨rfl, _, w2.heap.size, rfl, HI7.out, (KeepC.of B2.out Yy0).trans (HK7.out.mono Yy47)⟩
end Go.Proofs.YtieflhncpjjciaaGreatDoor.Dc
