/- Walks and plain laws of this claim. -/
import Derived.Test.YtieflhncpjjciaaGreatDoorBvI
import Derived.Test.YtieflhncpjjciaaGreatDoorBvJ
import Derived.Deep.RegionHeld3
set_option linter.unusedVariables false
set_option linter.unusedSimpArgs false
namespace Go.Proofs.YtieflhncpjjciaaGreatDoor.Dc
open Go Go.RowKit Go.Proofs.YtieflhncpjjciaaGreatDoorW.PrintWords Go.Proofs.YtieflhncpjjciaaGreatDoor.PFnGjSquashItems
theorem any_any {w : World} {b0 : Nat} (h : MS w b0) (hBB : b0 ≤ w.heap.size) (s : ByteArray) (hs : s.size ≤ 65536) (p v j : Nat) (kd : Int) (hpv : p ≤ v) (hsk : ∀ q, p ≤ q → q < v → bt s (q : Int) ≤ 32) (hk : VK s kd v j) (he : NumEnd s j) :
  Calls Tryz.prog 50 #[.string s, .int .i64 p, .bool true] w (AnyPost s kd v j w) := by
 have hk' := hk
 obtain ⟨-, -, a | a | a | a⟩ := hk'
 ·
  exact any_str h hBB s hs p v j kd hpv hsk hk a.1
 ·
  exact any_num h hBB s hs p v j kd hpv hsk hk he a.1
 ·
  exact any_lit h hBB s hs p v j kd hpv hsk hk he (by rcases a.1 with a | a | a <;> omega)
 ·
  exact any_json h hBB s hs p v j kd hpv hsk hk (by rcases a.1 with a | a <;> omega)
structure KeepC (C : Nat → Prop) (base : Nat) (w w' : World) : Prop where
 os : w'.os = w.os
 tape : w'.tape = w.tape
 output : w'.output = w.output
 size : w.heap.size ≤ w'.heap.size
 block : ∀ g, g < base → ¬ C g → w'.heap[g]? = w.heap[g]?
structure OffC (C : Nat → Prop) (base : Nat) (w w' : World) : Prop where
 size : w.heap.size ≤ w'.heap.size
 block : ∀ g, g < w.heap.size → C g ∨ base ≤ g → w'.heap[g]? = w.heap[g]?
theorem KeepC.refl (C : Nat → Prop) (base : Nat) (w : World) : KeepC C base w w := ⟨rfl, rfl, rfl, Nat.le_refl _, fun _ _ _ => rfl⟩
theorem KeepC.trans {C : Nat → Prop} {base : Nat} {a b c : World} (h : KeepC C base a b) (k : KeepC C base b c) : KeepC C base a c := ⟨k.os.trans h.os, k.tape.trans h.tape, k.output.trans h.output, Nat.le_trans h.size k.size, fun g h1 h2 => (k.block g h1 h2).trans (h.block g h1 h2)⟩
theorem KeepC.mono {C : Nat → Prop} {base base' : Nat} {a b : World} (h : KeepC C base' a b) (hb : base ≤ base') : KeepC C base a b := ⟨h.os, h.tape, h.output, h.size, fun g h1 h2 => h.block g (Nat.lt_of_lt_of_le h1 hb) h2⟩
theorem KeepC.of {C : Nat → Prop} {base B : Nat} {a b : World} (h : Below B a b) (hb : base ≤ B) : KeepC C base a b := ⟨h.os, h.tape, h.output, h.size, fun g h1 _ => h.block g (Nat.lt_of_lt_of_le h1 hb)⟩
theorem KeepC.toBelow {C : Nat → Prop} {base b0 : Nat} {a b : World} (h : KeepC C base a b) (hb : b0 ≤ base) (hC : ∀ g, C g → b0 ≤ g) : Below b0 a b := ⟨h.os, h.tape, h.output, h.size, fun g h1 => h.block g Y0 (fun hc => by have := hC g hc; omega)⟩
theorem OffC.of {C : Nat → Prop} {base : Nat} {a b : World} (h : Below a.heap.size a b) : OffC C base a b := ⟨h.size, fun g h1 _ => h.block g h1⟩
theorem OffC.set {C : Nat → Prop} {base : Nat} (w : World) (a : Addr) (v : Value) (h1 : ¬ C a.block) (h2 : a.block < base) : OffC C base w (w.setCell a v) := by
 have hb : Below 0 w (w.setCell a v) := (Below.refl 0 w).setCell (Nat.zero_le _) v
 exact ⟨hb.size, fun g _ hg => Below.heap_setCell w a v g (fun e => by subst e; rcases hg with hg | hg; exact h1 hg; omega)⟩
structure IterOK (f : Nat) (caps : Array Value) (C : Nat → Prop) (Inv : Nat → List (RV × RV) → World → Prop) (cont : List (RV × RV) → Bool) : Prop where
 enter : ∀ (args : Array Value) (w : World), (callFunc f args).run Tryz.prog w = .ok (.enter f args) w
 step : ∀ (base : Nat) (L : List (RV × RV)) (a b : RV) (w : World), Inv base L w → base ≤ w.heap.size → L.length ≤ 65536 → Calls Tryz.prog f (#[a.val, b.val] ++ caps) w fun e w' => e = .returned (.bool (cont (L ++ [(a, b)]))) ∧ Inv base (L ++ [(a, b)]) w' ∧ KeepC C base w w'
 off : ∀ (base : Nat) (L : List (RV × RV)) (w w' : World), Inv base L w → OffC C base w w' → Inv base L w'
def RV.cl (r : RV) : List Value := [.int .i64 r.k, .string r.raw, .string r.str, .float .f64 r.q, .int .i64 r.ix, .slice none 0 0]
theorem RV.cl_len (r : RV) : r.cl.length = 6 := rfl
def RV.z : RV := ⟨0, ⟨#[]⟩, ⟨#[]⟩, 0, 0⟩
structure FS (C : Nat → Prop) (Inv : Nat → List (RV × RV) → World → Prop) (A K : Nat) (t : RV) (L : List (RV × RV)) (w wr : World) (key val : RV) : Prop where
 tr : wr.rangeAt A 0 t.cl
 kr : wr.rangeAt K 0 key.cl
 kt : wr.there K 0 6
 vr : wr.rangeAt (K + 1) 0 val.cl
 vt : wr.there (K + 1) 0 6
 inv : Inv (K + 2) L wr
 keep : KeepC C A w wr
 sz : K + 2 ≤ wr.heap.size
 ak : A < K
section
variable {f : Nat} {caps : Array Value} {C : Nat → Prop} {Inv : Nat → List (RV × RV) → World → Prop} {cont : List (RV × RV) → Bool} {A K : Nat} {t key val : RV} {L : List (RV × RV)} {w wr w' : World}
theorem FS.below (h : FS C Inv A K t L w wr key val) (hi : IterOK f caps C Inv cont) (hb : Below wr.heap.size wr w') : FS C Inv A K t L w w' key val :=
 ⟨rng_b h.tr hb, rng_b h.kr hb, thr_b h.kt hb, rng_b h.vr hb, thr_b h.vt hb, hi.off _ _ _ _ h.inv (OffC.of hb), h.keep.trans (KeepC.of hb (by have := h.sz; have := h.ak; omega)), Nat.le_trans h.sz hb.size, h.ak⟩
theorem FS.dn (h : FS C Inv A K t L w wr key val) (hi : IterOK f caps C Inv cont) (n : Nat) : FS C Inv A K t L w (wr.drewN n) key val := h.below hi (Below.drewNs (Below.refl _ _) n)
theorem below_set {B : Nat} (w : World) (a : Addr) (v : Value) (h : B ≤ a.block) : Below B w (w.setCell a v) := (Below.refl B w).setCell h v
theorem FS.keySet (h : FS C Inv A K t L w wr key val) (hi : IterOK f caps C Inv cont) (hC : ∀ g, C g → g < A) (i : Nat) (hl : i < 6) (v : Value) (key' : RV) (hk : key.cl.set i v = key'.cl) : FS C Inv A K t L w (wr.setCell ⟨K, i, none⟩ v) key' val := by
 have ak := h.ak
 have hb := below_set (B := A) wr ⟨K, i, none⟩ v (by show A ≤ K; omega)
 exact ⟨rng_oth h.tr K i v Y0, by rw [← hk]; exact rng_set h.kr i v (by simpa [RV.cl_len] using hl), thr_set h.kt _ v, rng_oth h.vr K i v Y0, thr_set h.vt _ v, hi.off _ _ _ _ h.inv (OffC.set wr _ v (fun hc => by have h9 : K < A := hC _ hc; omega) (by show K < K + 2; omega)), h.keep.trans (KeepC.of hb (Nat.le_refl _)), Nat.le_trans h.sz hb.size, h.ak⟩
theorem FS.valSet (h : FS C Inv A K t L w wr key val) (hi : IterOK f caps C Inv cont) (hC : ∀ g, C g → g < A) (i : Nat) (hl : i < 6) (v : Value) (val' : RV) (hk : val.cl.set i v = val'.cl) : FS C Inv A K t L w (wr.setCell ⟨K + 1, i, none⟩ v) key val' := by
 have ak := h.ak
 have hb := below_set (B := A) wr ⟨K + 1, i, none⟩ v (by show A ≤ K + 1; omega)
 exact ⟨rng_oth h.tr (K + 1) i v Y0, rng_oth h.kr (K + 1) i v Y0, thr_set h.kt _ v, by rw [← hk]; exact rng_set h.vr i v (by simpa [RV.cl_len] using hl), thr_set h.vt _ v, hi.off _ _ _ _ h.inv (OffC.set wr _ v (fun hc => by have h9 : K + 1 < A := hC _ hc; omega) (by show K + 1 < K + 2; omega)), h.keep.trans (KeepC.of hb (Nat.le_refl _)), Nat.le_trans h.sz hb.size, h.ak⟩
theorem FS.valAll (h : FS C Inv A K t L w wr key val) (hi : IterOK f caps C Inv cont) (hC : ∀ g, C g → g < A) (val' : RV) : FS C Inv A K t L w ((((((wr.setCell ⟨K + 1, 0, none⟩ (.int .i64 val'.k)).setCell ⟨K + 1, 1, none⟩ (.string val'.raw)).setCell ⟨K + 1, 2, none⟩ (.string val'.str)).setCell ⟨K + 1, 3, none⟩ (.float .f64 val'.q)).setCell ⟨K + 1, 4, none⟩ (.int .i64 val'.ix)).setCell ⟨K + 1, 5, none⟩ (.slice none 0 0)) key val' :=
 (((((h.valSet hi hC 0 Y0 _ ⟨val'.k, val.raw, val.str, val.q, val.ix⟩ rfl).valSet hi hC 1 Y0 _ ⟨val'.k, val'.raw, val.str, val.q, val.ix⟩ rfl).valSet hi hC 2 Y0 _ ⟨val'.k, val'.raw, val'.str, val.q, val.ix⟩ rfl).valSet hi hC 3 Y0 _ ⟨val'.k, val'.raw, val'.str, val'.q, val.ix⟩ rfl).valSet hi hC 4 Y0 _ ⟨val'.k, val'.raw, val'.str, val'.q, val'.ix⟩ rfl).valSet hi hC 5 Y0 _ val' rfl
theorem FS.iter (h : FS C Inv A K t L w wr key val) (hC : ∀ g, C g → g < A) {L' : List (RV × RV)} (hi : Inv (K + 2) L' w') (hk : KeepC C (K + 2) wr w') : FS C Inv A K t L' w w' key val := by
 have ak := h.ak
 have blk : ∀ b, A ≤ b → b < K + 2 → w'.heap[b]? = wr.heap[b]? := fun b h1 h2 => hk.block b h2 (fun hc => by have := hC b hc; omega)
 have cl : ∀ b o, A ≤ b → b < K + 2 → w'.cell? ⟨b, o, none⟩ = wr.cell? ⟨b, o, none⟩ := fun b o h1 h2 => World.cell?_of_block (blk b h1 h2)
 have fz : ∀ b o, A ≤ b → b < K + 2 → w'.frozen? ⟨b, o, none⟩ = wr.frozen? ⟨b, o, none⟩ := fun b o h1 h2 => by
  show (match w'.heap[b]? with | _ => _) = _
  unfold World.frozen?
  simp only [blk b h1 h2]
 have rg : ∀ b cs, A ≤ b → b < K + 2 → wr.rangeAt b 0 cs → w'.rangeAt b 0 cs := fun b cs h1 h2 hr j v hv => by rw [cl b _ h1 h2]; exact hr j v hv
 have th : ∀ b n, A ≤ b → b < K + 2 → wr.there b 0 n → w'.there b 0 n := fun b n h1 h2 hr j hj => by rw [cl b _ h1 h2, fz b _ h1 h2]; exact hr j hj
 exact ⟨rg _ _ Y0 Y0 h.tr, rg _ _ Y0 Y0 h.kr, th _ _ Y0 Y0 h.kt, rg _ _ Y0 Y0 h.vr, th _ _ Y0 Y0 h.vt, hi, h.keep.trans (hk.mono Y0), Nat.le_trans h.sz hk.size, ak⟩
theorem FS.ms {b0 : Nat} (h : FS C Inv A K t L w wr key val) (hm : MS w b0) (hb : b0 ≤ A) (hC : ∀ g, C g → b0 ≤ g) : MS wr b0 ∧ b0 ≤ wr.heap.size :=
 ⟨hm.below (h.keep.toBelow hb hC), by have := h.sz; have := h.ak; omega⟩
end
def KeyOK (u : ByteArray) (ob : Bool) (t : ItT) (key : RV) : Prop :=
 (ob = true → key.k = 3 ∧ key.raw = u.extract t.ni t.nj ∧ KStr (u.extract (t.ni + 1) (t.nj - 1)) key.str) ∧ (ob = false → key.k = 2 ∧ key.raw = ⟨#[]⟩ ∧ key.str = ⟨#[]⟩)
def ValOK (u : ByteArray) (t : ItT) (val : RV) : Prop :=
 val.k = gkd t.kd ∧ val.raw = u.extract t.v t.j ∧ (t.kd = 4 → KStr (u.extract (t.v + 1) (t.j - 1)) val.str) ∧ (t.kd ≠ 4 → val.str = ⟨#[]⟩)
def PairOK (u : ByteArray) (ob : Bool) (t : ItT) (p : RV × RV) : Prop := KeyOK u ob t p.1 ∧ ValOK u t p.2
inductive Run (u : ByteArray) (ob : Bool) (cont : List (RV × RV) → Bool) : List (RV × RV) → List ItT → List (RV × RV) → Prop
 | nil (L : List (RV × RV)) : Run u ob cont L [] L
 | stop {L : List (RV × RV)} {t : ItT} {l : List ItT} {p : RV × RV} (h : PairOK u ob t p) (hc : cont (L ++ [p]) = false) : Run u ob cont L (t :: l) (L ++ [p])
 | next {L Z : List (RV × RV)} {t : ItT} {l : List ItT} {p : RV × RV} (h : PairOK u ob t p) (hc : cont (L ++ [p]) = true) (r : Run u ob cont (L ++ [p]) l Z) : Run u ob cont L (t :: l) Z
set_option maxHeartbeats 8000000
set_option maxRecDepth 100000
attribute [local go_sem] run_store_flt
def AnyNone (w : World) (e : Ending) (w' : World) : Prop := ∃ i : Int, e = .returned (.tuple #[.int .i64 i, RV.z.val, .bool false]) ∧ Below w.heap.size w w'
theorem any_none {w : World} (s : ByteArray) (hs : s.size ≤ 65536) (p : Nat) (hp : p ≤ s.size) (hsk : ∀ q, p ≤ q → q < s.size → bt s (q : Int) ≤ 32 ∨ bt s (q : Int) = 44 ∨ bt s (q : Int) = 58 ∨ bt s (q : Int) = 93) :
  Calls Tryz.prog 50 #[.string s, .int .i64 p, .bool true] w (AnyNone w) := by
 obtain ⟨B, hB⟩ : ∃ B, w.heap.size = B := ⟨_, rfl⟩
 have ss : (s.size : Int) ≤ 65536 := Y0
 have HSK := hdd hsk
 clear hsk
 go_enter Tryz.func50, Tryz.ntmps50
 go_upto_block 0 with (fail)
 obtain ⟨w1, hw1⟩ : ∃ w1, (w.alloc (Obj.cells #[.int .i64 0, .string ⟨#[]⟩, .string ⟨#[]⟩, .float .f64 0, .int .i64 0, .slice none 0 0] 61)).alloc (Obj.cells #[.int .i64 0, .string ⟨#[]⟩, .string ⟨#[]⟩, .float .f64 0, .int .i64 0, .slice none 0 0] 61) = w1 := ⟨_, rfl⟩
 have hs1 : w1.heap.size = B + 2 := Y2
 have b1 : Below B w w1 := Y31
 have R1 : Hid (w1.rangeAt (B + 1) 0 [.int .i64 0, .string ⟨#[]⟩, .string ⟨#[]⟩, .float .f64 0, .int .i64 0, .slice none 0 0]) := hdd Y32
 have T1 : Hid (w1.there B 0 6) := hdd Y22
 rw [hw1]
 clear hw1
 have HB1 := hdd b1; have HS1 := hdd hs1
 clear b1 hs1
 go_wp2_with fail
 go_loopg [1] (s.size - p) (fun m v1 wr => ∃ q : Nat, v1 = .int .i64 (q : Int) ∧ Hid (q + m = s.size) ∧ Hid (p ≤ q) ∧ Hid (wr = w1))
 case atStart => exact ⟨p, rfl, hdd Y0, hdd (Nat.le_refl _), hdd rfl⟩
 case round =>
  obtain ⟨q, rfl, hq, hpq, hwr⟩ := hrel
  have hqv : q ≤ s.size := Y11
  obtain rfl := hwr.out
  rcases Nat.eq_or_lt_of_le hqv with h | h
  ·
   have t0 : decide (q < s.size) = false := decide_eq_false Y0
   clear h hqv
   go_upto_region 68 with (fail)
   have RG : Hid (World.rangeAt (wr) (B + 1) 0 [.int .i64 0, .string ⟨#[]⟩, .string ⟨#[]⟩, .float .f64 0, .int .i64 0, .slice none 0 0]) := hdd R1.out
   have RT : Hid (World.there (wr) B 0 6) := hdd T1.out
   have RB : Hid (Below B w (wr)) := hdd HB1.out
   obtain ⟨w9, hw9⟩ : ∃ w9, wr = w9 := ⟨_, rfl⟩
   rw [hw9] at RG RT RB
   rw [hw9]
   clear hw9
   refine wp_region_held_drew (S := fun w' => w'.rangeAt (B + 1) 0 [.int .i64 0, .string ⟨#[]⟩, .string ⟨#[]⟩, .float .f64 0, .int .i64 0, .slice none 0 0] ∧ w'.there B 0 6) Y1 ⟨rng_d RG.out, thr_d RT.out⟩ (fun hHeld => ?_)
   refine take_d (i := 0) (v := _) (some 168) rfl rfl Y1 Y1 Y1 (fun _ _ _ h => h) (Or.inl ⟨Y6, fun _ _ => rfl⟩) hHeld ?_
   simp only [Act.put, List.setIfInBounds_toArray, List.set_cons_zero, List.set_cons_succ]
   refine take_d (i := 1) (some 169) rfl rfl Y1 Y1 Y1 (fun _ _ _ h => h) (yieldsIf_load_mid Y6 _ _ rfl _ _ rfl _ _ (fun _ h => h.1) Tryz.underlying61 rfl Y1) hHeld ?_
   simp only [Act.put, List.setIfInBounds_toArray, List.set_cons_zero, List.set_cons_succ]
   refine take_d (i := 2) (v := _) (some 6) rfl rfl Y1 Y1 Y1 (fun _ _ _ h => h) (Or.inl ⟨Y6, fun _ _ => rfl⟩) hHeld ?_
   simp only [Act.put, List.setIfInBounds_toArray, List.set_cons_zero, List.set_cons_succ]
   refine wpAnyH_ready (rs := [3]) Y1 Y4 (cons_d none rfl rfl (fun K hK => ?_) AllReadyH.nil)
   rw [if_pos Y6]
   refine store_d rfl _ _ _ rfl _ _ (List.toArray [.int .i64 0, .string ⟨#[]⟩, .string ⟨#[]⟩, .float .f64 0, .int .i64 0, .slice none 0 0]) rfl rfl hHeld.2 Y1 Y16 ?_
   refine hK.out _ _ ⟨World.rangeAt_setCells_apart hHeld.1 _ _ _ (Or.inl Y0), World.there_setCells hHeld.2 _ _ _⟩ (fun hH2 => ?_)
   clear hK K
   refine take_d (i := 4) (v := _) (some 8) rfl rfl Y1 Y1 Y1 (fun _ _ _ h => h) (Or.inl ⟨Y6, fun _ _ => rfl⟩) hH2 ?_
   simp only [Act.put, List.setIfInBounds_toArray, List.set_cons_zero, List.set_cons_succ]
   refine wpAnyH_done Y1 ?_ _
   have HRG : Hid (World.rangeAt (World.setCells w9.drew B 0 [.int .i64 0, .string ⟨#[]⟩, .string ⟨#[]⟩, .float .f64 0, .int .i64 0, .slice none 0 0]) B 0 [.int .i64 0, .string ⟨#[]⟩, .string ⟨#[]⟩, .float .f64 0, .int .i64 0, .slice none 0 0]) := hdd (World.rangeAt_setCells_same _ _ _ _ hHeld.2)
   have HBE : Hid (Below B w (World.setCells w9.drew B 0 [.int .i64 0, .string ⟨#[]⟩, .string ⟨#[]⟩, .float .f64 0, .int .i64 0, .slice none 0 0])) := hdd (Below.cellsN (Nat.le_refl B) _ 0 _ RB.out.drew)
   clear hHeld hH2
   obtain ⟨w8, hw8⟩ : ∃ w8, World.setCells w9.drew B 0 [.int .i64 0, .string ⟨#[]⟩, .string ⟨#[]⟩, .float .f64 0, .int .i64 0, .slice none 0 0] = w8 := ⟨_, rfl⟩
   rw [hw8] at HRG HBE
   try simp only [List.toList_toArray]
   rw [hw8]
   clear hw8
   go_wp2_with fail
   refine bodyPost_ret (results_tct rfl _ _ B _ _ rfl HRG.out Tryz.underlying61 rfl Y1) rfl ?_
   exact ⟨_, rfl, Y13⟩
  ·
   have t0 : decide (q < s.size) = true := decide_eq_true h
   have hb := HSK.out q hpq.out h
   rw [PFnGjSquashItems.bt_at h] at hb
   have e123 : ((s[q].toNat : Int) == 123) = false := beq_eq_false_iff_ne.mpr Y0
   have e91 : ((s[q].toNat : Int) == 91) = false := beq_eq_false_iff_ne.mpr Y0
   have e34 : ((s[q].toNat : Int) == 34) = false := beq_eq_false_iff_ne.mpr Y0
   have e110 : ((s[q].toNat : Int) == 110) = false := beq_eq_false_iff_ne.mpr Y0
   have e116 : ((s[q].toNat : Int) == 116) = false := beq_eq_false_iff_ne.mpr Y0
   have e102 : ((s[q].toNat : Int) == 102) = false := beq_eq_false_iff_ne.mpr Y0
   have e43 : ((s[q].toNat : Int) == 43) = false := beq_eq_false_iff_ne.mpr Y0
   have e45 : ((s[q].toNat : Int) == 45) = false := beq_eq_false_iff_ne.mpr Y0
   have e48 : ((s[q].toNat : Int) == 48) = false := beq_eq_false_iff_ne.mpr Y0
   have e49 : ((s[q].toNat : Int) == 49) = false := beq_eq_false_iff_ne.mpr Y0
   have e50 : ((s[q].toNat : Int) == 50) = false := beq_eq_false_iff_ne.mpr Y0
   have e51 : ((s[q].toNat : Int) == 51) = false := beq_eq_false_iff_ne.mpr Y0
   have e52 : ((s[q].toNat : Int) == 52) = false := beq_eq_false_iff_ne.mpr Y0
   have e53 : ((s[q].toNat : Int) == 53) = false := beq_eq_false_iff_ne.mpr Y0
   have e54 : ((s[q].toNat : Int) == 54) = false := beq_eq_false_iff_ne.mpr Y0
   have e55 : ((s[q].toNat : Int) == 55) = false := beq_eq_false_iff_ne.mpr Y0
   have e56 : ((s[q].toNat : Int) == 56) = false := beq_eq_false_iff_ne.mpr Y0
   have e57 : ((s[q].toNat : Int) == 57) = false := beq_eq_false_iff_ne.mpr Y0
   have e105 : ((s[q].toNat : Int) == 105) = false := beq_eq_false_iff_ne.mpr Y0
   have e73 : ((s[q].toNat : Int) == 73) = false := beq_eq_false_iff_ne.mpr Y0
   have e78 : ((s[q].toNat : Int) == 78) = false := beq_eq_false_iff_ne.mpr Y0
   have qi : (q : Int) ≤ 65536 := Y0
   by_cases hx : (s[q].toNat : Int) ≤ 32
   ·
    have e0 : decide ((s[q].toNat : Int) ≤ 32) = true := decide_eq_true hx
    clear hb hx
    go_wp2_with fail
    go_roundg (gk - 1)
    case measure => have := hq.out; omega
    case rel => exact ⟨q + 1, Y10, hdd Y11, hdd Y24, hdd rfl⟩
   ·
    have e0 : decide ((s[q].toNat : Int) ≤ 32) = false := decide_eq_false hx
    clear hb hx
    go_wp2_with fail
    go_roundg (gk - 1)
    case measure => have := hq.out; omega
    case rel => exact ⟨q + 1, Y10, hdd Y11, hdd Y24, hdd rfl⟩
set_option maxHeartbeats 8000000
set_option maxRecDepth 100000
attribute [local go_sem] run_store_flt
theorem flt_add (t : TypeId) (x y : Nat) (w : World) : ∃ r q, (binOp .add t (.float .f64 x) (.float .f64 y)).run Tryz.prog w = .ok (.float .f64 r) (w.drewN q) := by
 cases hr : floatBits .add .f64 x y with
 | some r => exact ⟨r, 0, run_float_arith w .add t .f64 x y r hr⟩
 | none =>
  have hr' : FloatKind.f64.format.add x y = none := hr
  refine ⟨(Question.nanBits .f64 x y).cut (w.tape w.drawn (Question.nanBits .f64 x y)), 1, ?_⟩
  simp [binOp, Op.floatArith, hr', Question.forced]
  rfl
theorem It.skip {u : ByteArray} {i : Nat} {l : List ItT} (h : It u true i l) (hi : i < u.size) (h34 : bt u (i : Int) ≠ 34) : It u true (i + 1) l := by
 cases h with
 | done h h1 _ => exact .done hi (fun _ q hq => h1 rfl q Y0) (fun h => Y8)
 | item hi hn hn2 hv hs vk hj he r =>
  refine .item ?_ (fun _ => ⟨(hn rfl).1, fun q h1 h2 => (hn rfl).2 q Y0 h2⟩) (fun h => Y8) hv hs vk hj he r
  rcases Nat.eq_or_lt_of_le hi with e | e
  ·
   rw [e] at h34; exact absurd (hn rfl).1.1.2.2.1 h34
  ·
   exact e
theorem It.at34 {u : ByteArray} {i : Nat} {l : List ItT} (h : It u true i l) (h34 : bt u (i : Int) = 34) : ∃ t l', l = t :: l' ∧ t.ni = i ∧ StrTok u i t.nj ∧ t.nj ≤ t.v ∧ (∀ q, t.nj ≤ q → q < t.v → sepOK (bt u (q : Int))) ∧ VK u t.kd t.v t.j ∧ t.j < u.size ∧ NumEnd u t.j ∧ It u true (t.j + 1) l' := by
 cases h with
 | done h h1 _ => exact absurd h34 (h1 rfl i (Nat.le_refl _))
 | @item _ t l' hi hn hn2 hv hs vk hj he r =>
  have e : t.ni = i := by
   rcases Nat.eq_or_lt_of_le hi with e | e
   ·
    exact e.symm
   ·
    exact absurd h34 ((hn rfl).2 i (Nat.le_refl _) e)
  exact ⟨t, l', rfl, e, by rw [← e]; exact (hn rfl).1, hv, hs, vk, hj, he, r⟩
theorem It.endN {u : ByteArray} {ob : Bool} {l : List ItT} (h : It u ob u.size l) : l = [] := by
 cases h with
 | done => rfl
 | item hi hn hn2 hv hs vk hj he r =>
  have h1 := vk.1
  cases ob with
  | true => have := (hn rfl).1.1.1; omega
  | false => have := hn2 rfl; omega
theorem vk_nosep {u : ByteArray} {kd : Int} {v j : Nat} (h : VK u kd v j) : 32 < bt u (v : Int) ∧ bt u (v : Int) ≠ 44 ∧ bt u (v : Int) ≠ 58 := by
 obtain ⟨h1, h2, a | a | a | a⟩ := h
 ·
  have := a.2.1.2.2.1; omega
 ·
  have := a.2.1; omega
 ·
  have := a.2 v (Nat.le_refl _) h1; omega
 ·
  rcases a.1 with b | b <;> omega
theorem It.three {u : ByteArray} {ob : Bool} {i : Nat} {l : List ItT} (h : It u ob i l) (hi : i < u.size) :
  (ob = true ∧ bt u (i : Int) ≠ 34) ∨ (ob = false ∧ l = [] ∧ ∀ q, i ≤ q → q < u.size → sepOK (bt u (q : Int)) ∨ bt u (q : Int) = 93) ∨
  (∃ t l', l = t :: l' ∧ t.ni = i ∧ (ob = true → StrTok u i t.nj) ∧ (ob = false → t.nj = i) ∧ t.nj ≤ t.v ∧ (∀ q, t.nj ≤ q → q < t.v → sepOK (bt u (q : Int))) ∧ VK u t.kd t.v t.j ∧ t.j < u.size ∧ NumEnd u t.j ∧ It u ob (t.j + 1) l') := by
 cases ob with
 | true =>
  by_cases h34 : bt u (i : Int) = 34
  ·
   obtain ⟨t, l', h1, h2, h3, h4, h5, h6, h7, h8, h9⟩ := h.at34 h34
   exact .inr (.inr ⟨t, l', h1, h2, fun _ => h3, (fun h => Y8), h4, h5, h6, h7, h8, h9⟩)
  ·
   exact .inl ⟨rfl, h34⟩
 | false =>
  cases h with
  | done _ _ h2 => exact .inr (.inl ⟨rfl, rfl, h2 rfl⟩)
  | @item _ t l' hi hn hn2 hv hs vk hj he r => exact .inr (.inr ⟨t, l', rfl, (hn2 rfl).1, (fun h => Y8), fun _ => (hn2 rfl).2, hv, hs, vk, hj, he, r⟩)
def Kinv (ob : Bool) (key : RV) : Prop := (ob = true → key.k = 3) ∧ (ob = false → key.k = 2 ∧ key.raw = ⟨#[]⟩ ∧ key.str = ⟨#[]⟩)
def FePost (C : Nat → Prop) (Inv : Nat → List (RV × RV) → World → Prop) (cont : List (RV × RV) → Bool) (u : ByteArray) (ob : Bool) (l : List ItT) (w : World) (e : Ending) (w' : World) : Prop :=
 e = .returned (.tuple #[]) ∧ ∃ L base, Run u ob cont [] l L ∧ Inv base L w' ∧ KeepC C w.heap.size w w'
theorem foreach_any {f : Nat} {caps : Array Value} {C : Nat → Prop} {Inv : Nat → List (RV × RV) → World → Prop} {cont : List (RV × RV) → Bool} (hi : IterOK f caps C Inv cont) {w : World} {b0 : Nat} (h : MS w b0) (hBB : b0 ≤ w.heap.size) (hC : ∀ g, C g → b0 ≤ g ∧ g < w.heap.size) (h0 : ∀ base, Inv base [] w)
  (u tstr : ByteArray) (tq : Nat) (tix : Int) (hix : 0 ≤ tix ∧ tix ≤ 65536) (hs : u.size ≤ 65536) (ob : Bool) (l : List ItT) (hb : bt u 0 = if ob then 123 else 91) (hl : It u ob 1 l) :
  Calls Tryz.prog 34 #[.agg #[.int .i64 5, .string u, .string tstr, .float .f64 tq, .int .i64 tix, .slice none 0 0], .func (.func f) #[] caps] w (FePost C Inv cont u ob l w) := by
 obtain ⟨A, hA⟩ : ∃ A, w.heap.size = A := ⟨_, rfl⟩
 have ss : (u.size : Int) ≤ 65536 := Y0
 have hus : 1 ≤ u.size := by cases hl with | done h _ _ => exact h | item hi hn hn2 hv hs vk hj he r => omega
 have HI := hdd hi; have HM := hdd h; have HBB := hdd hBB; have HC := hdd hC; have H0 := hdd h0; have HL := hdd hl; have HIX := hdd hix
 have HCA : Hid (∀ g, C g → g < A) := hdd (fun g hg => by rw [← hA]; exact (hC g hg).2)
 have HCb : Hid (∀ g, C g → b0 ≤ g) := hdd (fun g hg => (hC g hg).1)
 have ix0 : 0 ≤ tix := hix.1
 have ix1 : tix ≤ 65536 := hix.2
 clear hi h hBB hC h0 hl hix
 go_enter Tryz.func34, Tryz.ntmps34
 go_upto_region 1 with (fail)
 obtain ⟨w1, hw1⟩ : ∃ w1, w.alloc (Obj.cells #[.int .i64 5, .string u, .string tstr, .float .f64 tq, .int .i64 tix, .slice none 0 0] 61) = w1 := ⟨_, rfl⟩
 have hs1 : w1.heap.size = A + 1 := by rw [← hw1, ← hA]; simp [go_sem]
 have b1 : Hid (Below A w w1) := hdd (by rw [← hw1]; exact (Below.refl _ w).alloc Y0 _)
 have R1 : Hid (w1.rangeAt A 0 (RV.cl ⟨5, u, tstr, tq, tix⟩)) := hdd (by rw [← hw1, ← hA]; exact rng_new w (RV.cl ⟨5, u, tstr, tq, tix⟩) 61)
 have c0 : w1.cell? ⟨A, 0, none⟩ = some (.int .i64 5) := R1.out 0 _ rfl
 have c1 : w1.cell? ⟨A, 1, none⟩ = some (.string u) := R1.out 1 _ rfl
 have c2 : w1.cell? ⟨A, 2, none⟩ = some (.string tstr) := R1.out 2 _ rfl
 have c3 : w1.cell? ⟨A, 3, none⟩ = some (.float .f64 tq) := R1.out 3 _ rfl
 have c4 : w1.cell? ⟨A, 4, none⟩ = some (.int .i64 tix) := R1.out 4 _ rfl
 have c5 : w1.cell? ⟨A, 5, none⟩ = some (.slice none 0 0) := R1.out 5 _ rfl
 rw [hw1]
 clear hw1
 have HS1 := hdd hs1
 clear hs1
 go_upto_block 0 with (go_at_call 51; refine (exists_any _ _ _ _ _ _).mono ?_; rintro en w2 ⟨rfl, hb2⟩; have k0 := cellB hb2 c0; have k1 := cellB hb2 c1; have B2 := hdd hb2; clear hb2)
 clear c0 c1 c2 c3 c4 c5 k0 k1
 obtain ⟨K, hK⟩ : ∃ K, w2.heap.size = K := ⟨_, rfl⟩
 have Z1 : (w2.alloc (Obj.cells RV.z.cl.toArray 61)).heap.size = w2.heap.size + 1 := Y12
 have AK : A < K := by have := B2.out.size; have := HS1.out; omega
 have F3 : Hid (FS C Inv A K ⟨5, u, tstr, tq, tix⟩ [] w ((w2.alloc (Obj.cells RV.z.cl.toArray 61)).alloc (Obj.cells RV.z.cl.toArray 61)) RV.z RV.z) := hdd (by
  have hr2 := rng_b R1.out B2.out
  have b2 : Below A w w2 := b1.out.trans (B2.out.mono (by have := HS1.out; omega))
  have b3 : Below A w ((w2.alloc (Obj.cells RV.z.cl.toArray 61)).alloc (Obj.cells RV.z.cl.toArray 61)) := (b2.alloc Y0 _).alloc (by rw [Z1]; omega) _
  have hk := rng_new w2 RV.z.cl 61
  have hkt := thr_new w2 RV.z.cl 61
  have hv := rng_new (w2.alloc (Obj.cells RV.z.cl.toArray 61)) RV.z.cl 61
  have hvt := thr_new (w2.alloc (Obj.cells RV.z.cl.toArray 61)) RV.z.cl 61
  rw [Z1, hK] at hv hvt
  rw [hK] at hk hkt
  exact ⟨rng_al (rng_al hr2 _) _, rng_al hk _, thr_al hkt _, hv, hvt, HI.out.off _ _ _ _ (H0.out (K + 2)) (OffC.of (by rw [hA]; exact b3)), KeepC.of b3 (Nat.le_refl _), by rw [World.size_alloc, Z1]; omega, AK⟩)
 obtain ⟨w3, hw3⟩ : ∃ w3, (w2.alloc (Obj.cells RV.z.cl.toArray 61)).alloc (Obj.cells RV.z.cl.toArray 61) = w3 := ⟨_, rfl⟩
 rw [hw3] at F3
 change w2.heap.size = K at hK
 simp only [RV.z, RV.cl] at hw3
 rw [hw3, hK]
 clear hw3 hK Z1 B2 R1 b1
 go_cut [5, 6] (fun v5 v6 wc => ∃ key : RV, v5 = .bool ob ∧ v6 = .int .i64 1 ∧ Hid (FS C Inv A K ⟨5, u, tstr, tq, tix⟩ [] w wc key RV.z) ∧ Hid (Kinv ob key))
 case first =>
  go_wp2_with fail
  go_loopg [5, 6] 0 (fun m v5 v6 wr => v5 = .bool false ∧ v6 = .int .i64 0 ∧ Hid (wr = w3))
  case atStart => exact ⟨rfl, rfl, hdd rfl⟩
  case round =>
   obtain ⟨rfl, rfl, hw⟩ := hrel
   obtain rfl := hw.out
   have z0 : 0 < u.size := hus
   have z1 : decide (0 < u.size) = true := decide_eq_true hus
   have z2 : decide ((0 : Int) < (u.size : Int)) = true := decide_eq_true Y0
   rw [show (0 : Int) = ((0 : Nat) : Int) from rfl, PFnGjSquashItems.bt_at z0] at hb
   have k0 : wr.cell? ⟨K, 0, none⟩ = some (.int .i64 0) := F3.out.kr 0 _ rfl
   have kf0 : wr.frozen? ⟨K, 0, none⟩ = false := (F3.out.kt 0 Y0).2
   have k1 : wr.cell? ⟨K, 1, none⟩ = some (.string ⟨#[]⟩) := F3.out.kr 1 _ rfl
   have kf1 : wr.frozen? ⟨K, 1, none⟩ = false := (F3.out.kt 1 Y0).2
   have k2 : wr.cell? ⟨K, 2, none⟩ = some (.string ⟨#[]⟩) := F3.out.kr 2 _ rfl
   have kf2 : wr.frozen? ⟨K, 2, none⟩ = false := (F3.out.kt 2 Y0).2
   have k3 : wr.cell? ⟨K, 3, none⟩ = some (.float .f64 0) := F3.out.kr 3 _ rfl
   have kf3 : wr.frozen? ⟨K, 3, none⟩ = false := (F3.out.kt 3 Y0).2
   have k4 : wr.cell? ⟨K, 4, none⟩ = some (.int .i64 0) := F3.out.kr 4 _ rfl
   have kf4 : wr.frozen? ⟨K, 4, none⟩ = false := (F3.out.kt 4 Y0).2
   have k5 : wr.cell? ⟨K, 5, none⟩ = some (.slice none 0 0) := F3.out.kr 5 _ rfl
   have kf5 : wr.frozen? ⟨K, 5, none⟩ = false := (F3.out.kt 5 Y0).2
   cases ob with
   | true =>
    have q1 : ((u[0].toNat : Int) == 123) = true := Y7
    clear hb
    go_wp2_with fail
    go_meet
    exact ⟨⟨3, ⟨#[]⟩, ⟨#[]⟩, 0, 0⟩, rfl, rfl, hdd (F3.out.keySet HI.out HCA.out 0 Y0 _ _ rfl), hdd ⟨fun _ => rfl, (fun h => Y8)⟩⟩
   | false =>
    have q1 : ((u[0].toNat : Int) == 123) = false := Y7
    have q2 : ((u[0].toNat : Int) == 91) = true := Y7
    clear hb
    go_wp2_with fail
    go_meet
    exact ⟨⟨2, ⟨#[]⟩, ⟨#[]⟩, 13830554455654793216, 0⟩, rfl, rfl, hdd ((F3.out.keySet HI.out HCA.out 0 Y0 _ ⟨2, ⟨#[]⟩, ⟨#[]⟩, 0, 0⟩ rfl).keySet HI.out HCA.out 3 Y0 _ _ rfl), hdd ⟨(fun h => Y8), fun _ => ⟨rfl, rfl, rfl⟩⟩⟩
 case rest =>
  obtain ⟨key, rfl, rfl, F4, KI⟩ := hcut
  clear F3 hb
  go_wp2_with fail
  go_loopg [6, 12] (u.size - 1) (fun m v6 v12 wr => ∃ (i : Nat) (l' : List ItT) (L : List (RV × RV)) (key val : RV) (x : Int), v6 = .int .i64 (i : Int) ∧ v12 = .int .i64 x ∧ Hid (i + m = u.size) ∧ Hid (It u ob i l') ∧ Hid (∀ Z, Run u ob cont L l' Z → Run u ob cont [] l Z) ∧ Hid (FS C Inv A K ⟨5, u, tstr, tq, tix⟩ L w wr key val) ∧ Hid (Kinv ob key) ∧ Hid (L.length ≤ i))
  case atStart => exact ⟨1, l, [], key, RV.z, 0, rfl, rfl, hdd Y0, HL, hdd (fun Z h => h), F4, KI, hdd Y4⟩
  case round =>
   clear F4 KI
   obtain ⟨i, l', L, key, val, x, rfl, rfl, hm, hIt, hRun, F5, KI, hLi⟩ := hrel
   have hiu : i ≤ u.size := by have := hm.out; omega
   rcases Nat.eq_or_lt_of_le hiu with h | h
   ·
    have t0 : decide (i < u.size) = false := decide_eq_false Y0
    have HE : Hid (l' = []) := hdd (by have := hIt.out; rw [h] at this; exact this.endN)
    clear h hiu
    go_wp2_with fail
    go_end0
    exact ⟨rfl, L, K + 2, hRun.out L (by rw [HE.out]; exact .nil L), F5.out.inv, by rw [hA]; exact F5.out.keep⟩
   ·
    have t0 : decide (i < u.size) = true := decide_eq_true h
    have hi65 : (i : Int) ≤ 65536 := Y0
    rcases It.three hIt.out h with ⟨rfl, h34⟩ | ⟨rfl, hl0, hgar⟩ | ⟨tt, l2, hl2, hni, hst, hnj, hv, hsp, hvk, hj, hne, hIt2⟩
    ·
     have hIt3 := hdd (hIt.out.skip h h34)
     rw [PFnGjSquashItems.bt_at h] at h34
     have q1 : ((u[i].toNat : Int) != 34) = true := bne_iff_ne.mpr h34
     clear h34 hIt
     go_wp2_with fail
     go_roundg (gk - 1)
     case measure => have := hm.out; omega
     case rel => exact ⟨i + 1, l', L, key, val, x, Y10, rfl, hdd (by have := hm.out; omega), hIt3, hRun, F5, KI, hdd (by have := hLi.out; omega)⟩
    ·
     subst hl0
     have HG := hdd hgar
     clear hgar hIt
     obtain ⟨r1, qd, hadd⟩ := flt_add 32 key.q 4607182418800017408 wr
     have k3 : wr.cell? ⟨K, 3, none⟩ = some (.float .f64 key.q) := F5.out.kr 3 _ rfl
     have kf3 : wr.frozen? ⟨K, 3, none⟩ = false := (F5.out.kt 3 Y0).2
     go_upto_block 4 with (fail)
     have F6 : Hid (FS C Inv A K ⟨5, u, tstr, tq, tix⟩ L w ((wr.drewN qd).setCell ⟨K, 3, none⟩ (.float .f64 r1)) ⟨key.k, key.raw, key.str, r1, key.ix⟩ val) := hdd ((F5.out.dn HI.out qd).keySet HI.out HCA.out 3 Y0 _ _ rfl)
     obtain ⟨wB, hwB⟩ : ∃ wB, (wr.drewN qd).setCell ⟨K, 3, none⟩ (.float .f64 r1) = wB := ⟨_, rfl⟩
     rw [hwB] at F6
     rw [hwB]
     clear hwB F5 k3 kf3 hadd
     go_wp2_with fail
     go_loopg [6] (u.size - i) (fun m v6 wl => ∃ k : Nat, v6 = .int .i64 (k : Int) ∧ Hid (k + m = u.size) ∧ Hid (i ≤ k) ∧ Hid (wl = wB))
     case atStart => exact ⟨i, rfl, hdd Y0, hdd (Nat.le_refl _), hdd rfl⟩
     case round =>
      obtain ⟨k, rfl, hkm, hik, hwl⟩ := hrel
      obtain rfl := hwl.out
      have hku : k ≤ u.size := Y15
      have k65 : (k : Int) ≤ 65536 := Y0
      have CALL : Hid (Calls Tryz.prog 50 #[.string u, .int .i64 (k : Int), .bool true] wr (AnyNone wr)) := hdd (any_none u hs k hku (fun q h1 h2 => by have h3 := HG.out q (by have := hik.out; omega) h2; unfold sepOK at h3; omega))
      rcases Nat.eq_or_lt_of_le hku with hx | hx
      ·
       have t1 : decide (k < u.size) = false := decide_eq_false Y0
       clear hx
       go_wp2_with (go_at_call 50; (with_reducible refine CALL.out.mono ?_); rintro en w6 ⟨ii, rfl, hb6⟩; have F9 := hdd (F6.out.below HI.out hb6); clear hb6; simp only [RV.val, RV.z]; have k0 : w6.cell? ⟨K + 1, 0, none⟩ = some (.int .i64 val.k) := F9.out.vr 0 _ rfl; have kf0 : w6.frozen? ⟨K + 1, 0, none⟩ = false := (F9.out.vt 0 Y0).2; have k1 : w6.cell? ⟨K + 1, 1, none⟩ = some (.string val.raw) := F9.out.vr 1 _ rfl; have kf1 : w6.frozen? ⟨K + 1, 1, none⟩ = false := (F9.out.vt 1 Y0).2; have k2 : w6.cell? ⟨K + 1, 2, none⟩ = some (.string val.str) := F9.out.vr 2 _ rfl; have kf2 : w6.frozen? ⟨K + 1, 2, none⟩ = false := (F9.out.vt 2 Y0).2; have k3 : w6.cell? ⟨K + 1, 3, none⟩ = some (.float .f64 val.q) := F9.out.vr 3 _ rfl; have kf3 : w6.frozen? ⟨K + 1, 3, none⟩ = false := (F9.out.vt 3 Y0).2; have k4 : w6.cell? ⟨K + 1, 4, none⟩ = some (.int .i64 val.ix) := F9.out.vr 4 _ rfl; have kf4 : w6.frozen? ⟨K + 1, 4, none⟩ = false := (F9.out.vt 4 Y0).2; have k5 : w6.cell? ⟨K + 1, 5, none⟩ = some (.slice none 0 0) := F9.out.vr 5 _ rfl; have kf5 : w6.frozen? ⟨K + 1, 5, none⟩ = false := (F9.out.vt 5 Y0).2)
       go_end0
       have F10 := F9.out.valAll HI.out HCA.out RV.z
       exact ⟨rfl, L, K + 2, hRun.out L (.nil L), F10.inv, by rw [hA]; exact F10.keep⟩
      ·
       have t1 : decide (k < u.size) = true := decide_eq_true hx
       have hy := HG.out k hik.out hx
       rw [PFnGjSquashItems.bt_at hx] at hy
       unfold sepOK at hy
       by_cases h1 : (u[k].toNat : Int) ≤ 32
       ·
        have e1 : decide ((u[k].toNat : Int) ≤ 32) = true := decide_eq_true h1
        clear hy h1
        go_wp2_with fail
        go_roundg (gk - 1)
        case measure => have := hkm.out; omega
        case rel => exact ⟨k + 1, Y10, hdd Y15, hdd (by have := hik.out; omega), hdd rfl⟩
       ·
        have e1 : decide ((u[k].toNat : Int) ≤ 32) = false := decide_eq_false h1
        by_cases h2 : (u[k].toNat : Int) = 44
        ·
         have e2 : ((u[k].toNat : Int) == 44) = true := beq_iff_eq.mpr h2
         clear hy h1 h2
         go_wp2_with fail
         go_roundg (gk - 1)
         case measure => have := hkm.out; omega
         case rel => exact ⟨k + 1, Y10, hdd Y15, hdd (by have := hik.out; omega), hdd rfl⟩
        ·
         have e2 : ((u[k].toNat : Int) == 44) = false := beq_eq_false_iff_ne.mpr h2
         by_cases h3 : (u[k].toNat : Int) = 58
         ·
          have e3 : ((u[k].toNat : Int) == 58) = true := beq_iff_eq.mpr h3
          clear hy h1 h2 h3
          go_wp2_with fail
          go_roundg (gk - 1)
          case measure => have := hkm.out; omega
          case rel => exact ⟨k + 1, Y10, hdd Y15, hdd (by have := hik.out; omega), hdd rfl⟩
         ·
          have e3 : ((u[k].toNat : Int) == 58) = false := beq_eq_false_iff_ne.mpr h3
          clear hy h1 h2 h3
          go_wp2_with (go_at_call 50; (with_reducible refine CALL.out.mono ?_); rintro en w6 ⟨ii, rfl, hb6⟩; have F9 := hdd (F6.out.below HI.out hb6); clear hb6; simp only [RV.val, RV.z]; have k0 : w6.cell? ⟨K + 1, 0, none⟩ = some (.int .i64 val.k) := F9.out.vr 0 _ rfl; have kf0 : w6.frozen? ⟨K + 1, 0, none⟩ = false := (F9.out.vt 0 Y0).2; have k1 : w6.cell? ⟨K + 1, 1, none⟩ = some (.string val.raw) := F9.out.vr 1 _ rfl; have kf1 : w6.frozen? ⟨K + 1, 1, none⟩ = false := (F9.out.vt 1 Y0).2; have k2 : w6.cell? ⟨K + 1, 2, none⟩ = some (.string val.str) := F9.out.vr 2 _ rfl; have kf2 : w6.frozen? ⟨K + 1, 2, none⟩ = false := (F9.out.vt 2 Y0).2; have k3 : w6.cell? ⟨K + 1, 3, none⟩ = some (.float .f64 val.q) := F9.out.vr 3 _ rfl; have kf3 : w6.frozen? ⟨K + 1, 3, none⟩ = false := (F9.out.vt 3 Y0).2; have k4 : w6.cell? ⟨K + 1, 4, none⟩ = some (.int .i64 val.ix) := F9.out.vr 4 _ rfl; have kf4 : w6.frozen? ⟨K + 1, 4, none⟩ = false := (F9.out.vt 4 Y0).2; have k5 : w6.cell? ⟨K + 1, 5, none⟩ = some (.slice none 0 0) := F9.out.vr 5 _ rfl; have kf5 : w6.frozen? ⟨K + 1, 5, none⟩ = false := (F9.out.vt 5 Y0).2)
          go_end0
          have F10 := F9.out.valAll HI.out HCA.out RV.z
          exact ⟨rfl, L, K + 2, hRun.out L (.nil L), F10.inv, by rw [hA]; exact F10.keep⟩
    ·
     subst hl2
     have HSP := hdd hsp; have HVK := hdd hvk; have HNE := hdd hne; have HIT2 := hdd hIt2
     have HST := hdd hst; have HNJ := hdd hnj; have HNI := hdd hni
     have VL : Hid (tt.v < tt.j) := hdd hvk.1
     have hinj : i ≤ tt.nj := by cases ob with | true => have := (hst rfl).1.1; omega | false => have := hnj rfl; omega
     clear hsp hvk hne hIt2 hst hnj hni hIt
     go_upto_if 58 with (fail)
     go_cut [6] (fun v6 wc => ∃ key2 : RV, v6 = .int .i64 (tt.nj : Int) ∧ Hid (FS C Inv A K ⟨5, u, tstr, tq, tix⟩ L w wc key2 val) ∧ Hid (KeyOK u ob tt key2) ∧ Hid (Kinv ob key2))
     case first =>
      cases ob with
      | false =>
       obtain ⟨r1, qd, hadd⟩ := flt_add 32 key.q 4607182418800017408 wr
       have k3 : wr.cell? ⟨K, 3, none⟩ = some (.float .f64 key.q) := F5.out.kr 3 _ rfl
       have kf3 : wr.frozen? ⟨K, 3, none⟩ = false := (F5.out.kt 3 Y0).2
       go_wp2_with fail
       go_meet
       exact ⟨⟨key.k, key.raw, key.str, r1, key.ix⟩, by rw [HNJ.out trivial], hdd ((F5.out.dn HI.out qd).keySet HI.out HCA.out 3 Y0 _ _ rfl), hdd ⟨(fun h => Y8), fun _ => KI.out.2 rfl⟩, hdd ⟨(fun h => Y8), fun _ => KI.out.2 rfl⟩⟩
      | true =>
       have hst := HST.out rfl
       obtain ⟨ve, hve, sc⟩ := str_call hs hst.1
       have SC : Hid (∀ w : World, Calls Tryz.prog 60 #[.string u, .int .i64 ((i : Int) + 1)] w fun e w' => e = .returned (.tuple #[.int .i64 (tt.nj : Int), .string (u.extract i tt.nj), .bool ve, .bool true]) ∧ ∃ n, w' = w.drewN n) := hdd sc
       obtain ⟨O, hO⟩ := tok_un hst
       have HO := hdd hO
       have KS : Hid (ve = false → KStr (u.extract (i + 1) (tt.nj - 1)) (u.extract (i + 1) (tt.nj - 1))) := hdd (fun h => kstr_plain hst (hve h))
       have HU : Hid ((u.extract (i + 1) (tt.nj - 1)).size ≤ 65536) := hdd Y9
       obtain ⟨n9, hn9⟩ : ∃ n9, tt.nj - i = n9 := ⟨_, rfl⟩
       have hj2 : i + 2 ≤ tt.nj := hst.1.1
       have hjs : tt.nj ≤ u.size := hst.1.2.1
       have hb := hst.1.2.2.1
       rw [PFnGjSquashItems.bt_at h] at hb
       have n2 : 2 ≤ (n9 : Int) := Y0
       have n3 : (n9 : Int) ≤ 65536 := Y0
       have xz : (u.extract i tt.nj).size = n9 := Y9
       have hsl : ∀ W : World, (Instr.slice 9 (.string (u.extract i tt.nj)) (some (.int .i64 1)) (some (.int .i64 ((n9 : Int) - 1))) none).run Tryz.prog W = .ok (.string (u.extract (i + 1) (tt.nj - 1))) W := fun W => slice_in Y0 hjs Y0 W
       have q4 : ((u[i].toNat : Int) != 34) = false := Y7
       have a4 : wr.cell? ⟨A, 4, none⟩ = some (.int .i64 tix) := F5.out.tr 4 _ rfl
       clear hn9 sc hve hO hst hb
       cases ve with
       | false =>
        have k1 : wr.cell? ⟨K, 1, none⟩ = some (.string key.raw) := F5.out.kr 1 _ rfl
        have kf1 : wr.frozen? ⟨K, 1, none⟩ = false := (F5.out.kt 1 Y0).2
        have k2 : wr.cell? ⟨K, 2, none⟩ = some (.string key.str) := F5.out.kr 2 _ rfl
        have kf2 : wr.frozen? ⟨K, 2, none⟩ = false := (F5.out.kt 2 Y0).2
        have k4 : wr.cell? ⟨K, 4, none⟩ = some (.int .i64 key.ix) := F5.out.kr 4 _ rfl
        have kf4 : wr.frozen? ⟨K, 4, none⟩ = false := (F5.out.kt 4 Y0).2
        go_wp2_with (go_at_call 60; (with_reducible refine (SC.out _).mono ?_); rintro en w4 ⟨rfl, k9, rfl⟩)
        go_meet
        exact ⟨⟨key.k, u.extract i tt.nj, u.extract (i + 1) (tt.nj - 1), key.q, (i : Int) + tix⟩, rfl, hdd ((((F5.out.dn HI.out k9).keySet HI.out HCA.out 2 Y0 _ ⟨key.k, key.raw, u.extract (i + 1) (tt.nj - 1), key.q, key.ix⟩ rfl).keySet HI.out HCA.out 1 Y0 _ ⟨key.k, u.extract i tt.nj, u.extract (i + 1) (tt.nj - 1), key.q, key.ix⟩ rfl).keySet HI.out HCA.out 4 Y0 _ _ rfl), hdd ⟨fun _ => ⟨KI.out.1 rfl, by rw [HNI.out], by rw [HNI.out]; exact KS.out trivial⟩, (fun h => Y8)⟩, hdd ⟨fun _ => KI.out.1 rfl, (fun h => Y8)⟩⟩
       | true =>
        go_upto_region 31 with (go_at_call 60; (with_reducible refine (SC.out _).mono ?_); rintro en w4 ⟨rfl, k9, rfl⟩)
        obtain ⟨w5, hw5⟩ : ∃ w5, wr.drewN k9 = w5 := ⟨_, rfl⟩
        have F6 : Hid (FS C Inv A K ⟨5, u, tstr, tq, tix⟩ L w w5 key val) := hdd (by rw [← hw5]; exact F5.out.dn HI.out k9)
        rw [hw5]
        clear hw5 a4
        go_wp2_with (go_at_call 61; (with_reducible refine (unesc_any _ HU.out O HO.out).mono ?_); rintro en w6 ⟨rfl, hb6⟩; have F7 := hdd (F6.out.below HI.out hb6); clear hb6; have k1 : w6.cell? ⟨K, 1, none⟩ = some (.string key.raw) := F7.out.kr 1 _ rfl; have kf1 : w6.frozen? ⟨K, 1, none⟩ = false := (F7.out.kt 1 Y0).2; have k2 : w6.cell? ⟨K, 2, none⟩ = some (.string key.str) := F7.out.kr 2 _ rfl; have kf2 : w6.frozen? ⟨K, 2, none⟩ = false := (F7.out.kt 2 Y0).2; have k4 : w6.cell? ⟨K, 4, none⟩ = some (.int .i64 key.ix) := F7.out.kr 4 _ rfl; have kf4 : w6.frozen? ⟨K, 4, none⟩ = false := (F7.out.kt 4 Y0).2; have a4 : w6.cell? ⟨A, 4, none⟩ = some (.int .i64 tix) := F7.out.tr 4 _ rfl)
        go_meet
        exact ⟨⟨key.k, u.extract i tt.nj, strOfNums O, key.q, (i : Int) + tix⟩, rfl, hdd (((F7.out.keySet HI.out HCA.out 2 Y0 _ ⟨key.k, key.raw, strOfNums O, key.q, key.ix⟩ rfl).keySet HI.out HCA.out 1 Y0 _ ⟨key.k, u.extract i tt.nj, strOfNums O, key.q, key.ix⟩ rfl).keySet HI.out HCA.out 4 Y0 _ _ rfl), hdd ⟨fun _ => ⟨KI.out.1 rfl, by rw [HNI.out], by rw [HNI.out]; exact ⟨O, HO.out, rfl⟩⟩, (fun h => Y8)⟩, hdd ⟨fun _ => KI.out.1 rfl, (fun h => Y8)⟩⟩
     case rest =>
      obtain ⟨key2, rfl, F8, KO, KI2⟩ := hcut
      clear F5 KI
      go_wp2_with fail
      go_loopg [6] (tt.v - tt.nj) (fun m v6 wl => ∃ k : Nat, v6 = .int .i64 (k : Int) ∧ Hid (k + m = tt.v) ∧ Hid (tt.nj ≤ k) ∧ Hid (wl = wc))
      case atStart => exact ⟨tt.nj, rfl, hdd Y0, hdd (Nat.le_refl _), hdd rfl⟩
      case round =>
       obtain ⟨k, rfl, hkm, hnk, hwl⟩ := hrel
       obtain rfl := hwl.out
       have hkv : k ≤ tt.v := Y15
       have hku : k < u.size := by have := VL.out; omega
       have t1 : decide (k < u.size) = true := decide_eq_true hku
       have k65 : (k : Int) ≤ 65536 := Y0
       rcases Nat.eq_or_lt_of_le hkv with hx | hx
       ·
        have hy : 32 < bt u (k : Int) ∧ bt u (k : Int) ≠ 44 ∧ bt u (k : Int) ≠ 58 := by rw [hx]; exact vk_nosep HVK.out
        rw [PFnGjSquashItems.bt_at hku] at hy
        have e1 : decide ((u[k].toNat : Int) ≤ 32) = false := decide_eq_false Y0
        have e2 : ((u[k].toNat : Int) == 44) = false := beq_eq_false_iff_ne.mpr hy.2.1
        have e3 : ((u[k].toNat : Int) == 58) = false := beq_eq_false_iff_ne.mpr hy.2.2
        obtain ⟨hms, hmz⟩ := F8.out.ms HM.out (by rw [← hA]; exact HBB.out) HCb.out
        have CALL : Hid (Calls Tryz.prog 50 #[.string u, .int .i64 (k : Int), .bool true] wr (AnyPost u tt.kd tt.v tt.j wr)) := hdd (any_any hms hmz u hs k tt.v tt.j tt.kd hkv (fun q h1 h2 => Y0) HVK.out HNE.out)
        have hneq := fun (W : World) => run_neq_slice_nil_any (P := Tryz.prog) W 59 3 none 0 0 0 0 Tryz.underlying59
        have HKX := hdd hx
        clear hms hmz hy hx
        go_upto_region 46 with (go_at_call 50; (with_reducible refine CALL.out.mono ?_); rintro en w6 ⟨q9, ix9, st9, rfl, hix9, hs1, hs2, hb6⟩; have F9 := hdd (F8.out.below HI.out hb6); have HX1 := hdd hs1; have HX2 := hdd hs2; clear hb6 hs1 hs2; simp only [RV.val]; have k0 : w6.cell? ⟨K + 1, 0, none⟩ = some (.int .i64 val.k) := F9.out.vr 0 _ rfl; have kf0 : w6.frozen? ⟨K + 1, 0, none⟩ = false := (F9.out.vt 0 Y0).2; have k1 : w6.cell? ⟨K + 1, 1, none⟩ = some (.string val.raw) := F9.out.vr 1 _ rfl; have kf1 : w6.frozen? ⟨K + 1, 1, none⟩ = false := (F9.out.vt 1 Y0).2; have k2 : w6.cell? ⟨K + 1, 2, none⟩ = some (.string val.str) := F9.out.vr 2 _ rfl; have kf2 : w6.frozen? ⟨K + 1, 2, none⟩ = false := (F9.out.vt 2 Y0).2; have k3 : w6.cell? ⟨K + 1, 3, none⟩ = some (.float .f64 val.q) := F9.out.vr 3 _ rfl; have kf3 : w6.frozen? ⟨K + 1, 3, none⟩ = false := (F9.out.vt 3 Y0).2; have k4 : w6.cell? ⟨K + 1, 4, none⟩ = some (.int .i64 val.ix) := F9.out.vr 4 _ rfl; have kf4 : w6.frozen? ⟨K + 1, 4, none⟩ = false := (F9.out.vt 4 Y0).2; have k5 : w6.cell? ⟨K + 1, 5, none⟩ = some (.slice none 0 0) := F9.out.vr 5 _ rfl; have kf5 : w6.frozen? ⟨K + 1, 5, none⟩ = false := (F9.out.vt 5 Y0).2; have a4 : w6.cell? ⟨A, 4, none⟩ = some (.int .i64 tix) := F9.out.tr 4 _ rfl; have a5 : w6.cell? ⟨A, 5, none⟩ = some (.slice none 0 0) := F9.out.tr 5 _ rfl)
        clear k0 kf0 k1 kf1 k2 kf2 k3 kf3 k4 kf4 k5 kf5 a4 a5 e1 e2 e3 hneq CALL
        have F10 : Hid (FS C Inv A K ⟨5, u, tstr, tq, tix⟩ L w (((((((w6.setCell ⟨K + 1, 0, none⟩ (.int .i64 (gkd tt.kd))).setCell ⟨K + 1, 1, none⟩ (.string (u.extract tt.v tt.j))).setCell ⟨K + 1, 2, none⟩ (.string st9)).setCell ⟨K + 1, 3, none⟩ (.float .f64 q9)).setCell ⟨K + 1, 4, none⟩ (.int .i64 (ix9 : Int))).setCell ⟨K + 1, 5, none⟩ (.slice none 0 0)).setCell ⟨K + 1, 4, none⟩ (.int .i64 ((k : Int) + tix))) key2 ⟨gkd tt.kd, u.extract tt.v tt.j, st9, q9, (k : Int) + tix⟩) := hdd ((F9.out.valAll HI.out HCA.out ⟨gkd tt.kd, u.extract tt.v tt.j, st9, q9, (ix9 : Int)⟩).valSet HI.out HCA.out 4 Y0 _ _ rfl)
        obtain ⟨wA, hwA⟩ : ∃ wA, ((((((w6.setCell ⟨K + 1, 0, none⟩ (.int .i64 (gkd tt.kd))).setCell ⟨K + 1, 1, none⟩ (.string (u.extract tt.v tt.j))).setCell ⟨K + 1, 2, none⟩ (.string st9)).setCell ⟨K + 1, 3, none⟩ (.float .f64 q9)).setCell ⟨K + 1, 4, none⟩ (.int .i64 (ix9 : Int))).setCell ⟨K + 1, 5, none⟩ (.slice none 0 0)).setCell ⟨K + 1, 4, none⟩ (.int .i64 ((k : Int) + tix)) = wA := ⟨_, rfl⟩
        rw [hwA] at F10
        rw [hwA]
        clear hwA F9 F8
        have PO : Hid (PairOK u ob tt (key2, ⟨gkd tt.kd, u.extract tt.v tt.j, st9, q9, (k : Int) + tix⟩)) := hdd ⟨KO.out, rfl, rfl, HX1.out, HX2.out⟩
        have ST : Hid (Calls Tryz.prog f (#[.agg #[.int .i64 key2.k, .string key2.raw, .string key2.str, .float .f64 key2.q, .int .i64 key2.ix, .slice none 0 0], .agg #[.int .i64 (gkd tt.kd), .string (u.extract tt.v tt.j), .string st9, .float .f64 q9, .int .i64 ((k : Int) + tix), .slice none 0 0]] ++ caps) wA fun e w' => e = .returned (.bool (cont (L ++ [(key2, ⟨gkd tt.kd, u.extract tt.v tt.j, st9, q9, (k : Int) + tix⟩)]))) ∧ Inv (K + 2) (L ++ [(key2, ⟨gkd tt.kd, u.extract tt.v tt.j, st9, q9, (k : Int) + tix⟩)]) w' ∧ KeepC C (K + 2) wA w') := hdd (HI.out.step (K + 2) L key2 ⟨gkd tt.kd, u.extract tt.v tt.j, st9, q9, (k : Int) + tix⟩ wA F10.out.inv F10.out.sz (by have := hLi.out; omega))
        have k0 : wA.cell? ⟨K, 0, none⟩ = some (.int .i64 key2.k) := F10.out.kr 0 _ rfl
        have k1 : wA.cell? ⟨K, 1, none⟩ = some (.string key2.raw) := F10.out.kr 1 _ rfl
        have k2 : wA.cell? ⟨K, 2, none⟩ = some (.string key2.str) := F10.out.kr 2 _ rfl
        have k3 : wA.cell? ⟨K, 3, none⟩ = some (.float .f64 key2.q) := F10.out.kr 3 _ rfl
        have k4 : wA.cell? ⟨K, 4, none⟩ = some (.int .i64 key2.ix) := F10.out.kr 4 _ rfl
        have k5 : wA.cell? ⟨K, 5, none⟩ = some (.slice none 0 0) := F10.out.kr 5 _ rfl
        have v0 : wA.cell? ⟨K + 1, 0, none⟩ = some (.int .i64 (gkd tt.kd)) := F10.out.vr 0 _ rfl
        have v1 : wA.cell? ⟨K + 1, 1, none⟩ = some (.string (u.extract tt.v tt.j)) := F10.out.vr 1 _ rfl
        have v2 : wA.cell? ⟨K + 1, 2, none⟩ = some (.string st9) := F10.out.vr 2 _ rfl
        have v3 : wA.cell? ⟨K + 1, 3, none⟩ = some (.float .f64 q9) := F10.out.vr 3 _ rfl
        have v4 : wA.cell? ⟨K + 1, 4, none⟩ = some (.int .i64 ((k : Int) + tix)) := F10.out.vr 4 _ rfl
        have v5 : wA.cell? ⟨K + 1, 5, none⟩ = some (.slice none 0 0) := F10.out.vr 5 _ rfl
        obtain ⟨b, hbc⟩ : ∃ b, cont (L ++ [(key2, ⟨gkd tt.kd, u.extract tt.v tt.j, st9, q9, (k : Int) + tix⟩)]) = b := ⟨_, rfl⟩
        have heg := HI.out.enter
        rw [hbc] at ST
        have HB := hdd hbc
        clear hbc
        cases b with
        | false =>
         go_wp2_with ((with_reducible refine ST.out.mono ?_); rintro en w7 ⟨rfl, hI, hK⟩; have HI7 := hdd hI; have HK7 := hdd hK; clear hI hK)
         go_end0
         exact ⟨rfl, _, K + 2, hRun.out _ (.stop PO.out HB.out), HI7.out, by rw [hA]; exact (F10.out.iter HCA.out HI7.out HK7.out).keep⟩
        | true =>
         go_wp2_with ((with_reducible refine ST.out.mono ?_); rintro en w7 ⟨rfl, hI, hK⟩; have HI7 := hdd hI; have HK7 := hdd hK; clear hI hK)
         go_roundg (u.size - (tt.j + 1))
         case measure => have := hm.out; have := VL.out; have := hnk.out; omega
         case rel => exact ⟨tt.j + 1, l2, L ++ [(key2, ⟨gkd tt.kd, u.extract tt.v tt.j, st9, q9, (k : Int) + tix⟩)], key2, ⟨gkd tt.kd, u.extract tt.v tt.j, st9, q9, (k : Int) + tix⟩, _, Y10, rfl, hdd Y0, HIT2, hdd (fun Z hZ => hRun.out Z (.next PO.out HB.out hZ)), hdd (F10.out.iter HCA.out HI7.out HK7.out), KI2, hdd (by have := hLi.out; have := VL.out; simp; omega)⟩
       ·
        have hy := HSP.out k hnk.out hx
        rw [PFnGjSquashItems.bt_at hku] at hy
        unfold sepOK at hy
        clear KO KI2
        by_cases h1 : (u[k].toNat : Int) ≤ 32
        ·
         have e1 : decide ((u[k].toNat : Int) ≤ 32) = true := decide_eq_true h1
         clear hy h1
         go_wp2_with fail
         go_roundg (gk - 1)
         case measure => have := hkm.out; omega
         case rel => exact ⟨k + 1, Y10, hdd Y15, hdd (by have := hnk.out; omega), hdd rfl⟩
        ·
         have e1 : decide ((u[k].toNat : Int) ≤ 32) = false := decide_eq_false h1
         by_cases h2 : (u[k].toNat : Int) = 44
         ·
          have e2 : ((u[k].toNat : Int) == 44) = true := beq_iff_eq.mpr h2
          clear hy h1 h2
          go_wp2_with fail
          go_roundg (gk - 1)
          case measure => have := hkm.out; omega
          case rel => exact ⟨k + 1, Y10, hdd Y15, hdd (by have := hnk.out; omega), hdd rfl⟩
         ·
          have e2 : ((u[k].toNat : Int) == 44) = false := beq_eq_false_iff_ne.mpr h2
          have e3 : ((u[k].toNat : Int) == 58) = true := beq_iff_eq.mpr Y0
          clear hy h1 h2
          go_wp2_with fail
          go_roundg (gk - 1)
          case measure => have := hkm.out; omega
          case rel => exact ⟨k + 1, Y10, hdd Y15, hdd (by have := hnk.out; omega), hdd rfl⟩
end Go.Proofs.YtieflhncpjjciaaGreatDoor.Dc
