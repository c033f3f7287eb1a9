/- Walks and plain laws on the way to FnFjFloatNear. No condition but what each lemma states. -/
import Derived.Test.YtjemobfhlfejlaaGreatDoorFbC
import GoSem.PinnedTables
import Derived.ScopeJumps
import Derived.WalkMore
set_option linter.unusedVariables false
set_option linter.unusedSimpArgs false
namespace Go.Proofs.YtjemobfhlfejlaaGreatDoor.Dc
open Go Go.RowKit
def cheat (k : Nat) : Nat × List UInt8 := Pinned.cheatRows.getD k (0, [])
def cdig (k : Nat) : List Int := (cheat k).2.map fun c => (c.toNat : Int)
def tailB : List Int → Bool
  | [] => true
  | y :: s => decide (0 < val (y :: s)) && tailB s
theorem tail_of : ∀ {s : List Int}, tailB s = true → Tail s
  | [], _ => trivial
  | y :: s, h => by
    simp only [tailB, Bool.and_eq_true, decide_eq_true_eq] at h
    exact ⟨h.1, tail_of h.2⟩
def cheatB (k : Nat) : Bool := (cdig k).all (fun x => decide (48 ≤ x ∧ x ≤ 57)) && tailB (cdig k) && decide (val (cdig k) = 5 ^ k) && decide (1 ≤ (cdig k).length) && decide (10 ^ ((cdig k).length - 1) ≤ 5 ^ k) && decide ((cdig k).length ≤ k) && decide ((cheat k).1 = k + 1 - (cdig k).length) && decide ((cheat k).1 ≤ 20)
theorem cheats_all : (List.range 60).all (fun k => cheatB (k + 1)) = true := by kernel_rfl
theorem cheat_of {k : Nat} (h1 : 1 ≤ k) (h2 : k ≤ 60) : Cheat k (cdig k) (cheat k).1 ∧ (cheat k).1 ≤ 20 := by
  have h := List.all_eq_true.mp cheats_all (k - 1) (List.mem_range.mpr (by omega))
  rw [show k - 1 + 1 = k by omega] at h
  simp only [cheatB, Bool.and_eq_true, decide_eq_true_eq, List.all_eq_true] at h
  obtain ⟨⟨⟨⟨⟨⟨⟨a1, a2⟩, a3⟩, a4⟩, a5⟩, a6⟩, a7⟩, a8⟩ := h
  exact ⟨⟨a1, tail_of a2, a3, a4, a5, a6, a7⟩, a8⟩
structure LC (w : World) (B : Nat) : Prop where
  ten : 15 < B
  ex : ∃ lb lo c : Nat, lb < B ∧ w.cell? ⟨15, 0, none⟩ = some (.slice (some ⟨lb, lo, none⟩) 61 c) ∧ ∀ i, i < 61 → w.cell? ⟨lb, lo + i * 2, none⟩ = some (.int .i64 (((cheat i).1 : Nat) : Int)) ∧ w.cell? ⟨lb, lo + i * 2 + 1, none⟩ = some (.string ⟨(cheat i).2.toArray⟩)
theorem LC.below {w w' : World} {B : Nat} (h : LC w B) (hb : Below B w w') : LC w' B := by
  obtain ⟨h0, lb, lo, c, h1, h2, h3⟩ := h
  refine ⟨h0, lb, lo, c, h1, (hb.cell (p := ⟨15, 0, none⟩) h0).trans h2, fun i hi => ⟨(hb.cell (p := ⟨lb, lo + i * 2, none⟩) h1).trans (h3 i hi).1, (hb.cell (p := ⟨lb, lo + i * 2 + 1, none⟩) h1).trans (h3 i hi).2⟩⟩
structure LM (a a' : List Int) (n t de : Nat) : Prop where
  same : ∀ i, i < t → a'.getD i 0 = a.getD i 0
  digs : ∀ i, t + de ≤ i → i < n + de → i < 800 → IsDig (a'.getD i 0)
  lead : t = 0 → de = 0 → a.getD 0 0 < a'.getD 0 0
theorem LM.put {a a' : List Int} {n u de : Nat} (h : LM a a' n (u + 1) de) (hl : a'.length = 800) (hw : u + de < 800) {R : Nat} (hR : R ≤ 9) (h0 : u = 0 → de = 0 → a.getD 0 0 < (R : Int) + 48) : LM a (a'.set (u + de) ((R : Int) + 48)) n u de := by
  refine ⟨fun i hi => ?_, fun i h1 h2 h3 => ?_, fun e1 e2 => ?_⟩
  · rw [getD_set _ _ _ _ (by omega), if_neg (by omega)]; exact h.same i (by omega)
  · rw [getD_set _ _ _ _ (by omega)]
    by_cases e : i = u + de
    · rw [if_pos e]; unfold IsDig; omega
    · rw [if_neg e]; exact h.digs i (by omega) h2 h3
  · rw [getD_set _ _ _ _ (by omega), if_pos (by omega)]; exact h0 e1 e2
theorem LM.pass {a a' : List Int} {n u de : Nat} (h : LM a a' n (u + 1) de) (hw : ¬ u + de < 800) : LM a a' n u de :=
  ⟨fun i hi => h.same i (by omega), fun i h1 h2 h3 => by omega, fun e1 e2 => by omega⟩
structure LT (a a' : List Int) (n de y c : Nat) : Prop where
  num : (c = 0 ∧ y = 0) ∨ (1 ≤ y ∧ 10 ^ (y - 1) ≤ c ∧ c < 10 ^ y)
  y20 : y ≤ 20
  digs : ∀ i, y ≤ i → i < n + de → i < 800 → IsDig (a'.getD i 0)
  lead : y = 0 → 1 ≤ de → 49 ≤ a'.getD 0 0
  lead0 : de = 0 → a.getD 0 0 < a'.getD 0 0
theorem LT.put {a a' : List Int} {n de v c : Nat} (h : LT a a' n de (v + 1) c) (hl : a'.length = 800) (hc : 1 ≤ c) (hde : v + 1 ≤ de) : LT a (a'.set v (((c % 10 : Nat) : Int) + 48)) n de v (c / 10) := by
  have h20 := h.y20
  rcases h.num with ⟨h1, _⟩ | ⟨h1, h2, h3⟩
  · omega
  · rw [Nat.add_sub_cancel] at h2
    rw [Nat.pow_succ] at h3
    refine ⟨?_, by omega, fun i i1 i2 i3 => ?_, fun e _ => ?_, fun e => by omega⟩
    · rcases Nat.eq_zero_or_pos v with e | e
      · subst e; simp at h2 h3; exact .inl ⟨by omega, rfl⟩
      · refine .inr ⟨e, ?_, by omega⟩
        have e2 : 10 ^ (v - 1) * 10 = 10 ^ v := by rw [← Nat.pow_succ]; congr 1; omega
        omega
    · rw [getD_set _ _ _ _ (by omega)]
      by_cases e : i = v
      · rw [if_pos e]; unfold IsDig; omega
      · rw [if_neg e]; exact h.digs i (by omega) i2 i3
    · rw [getD_set _ _ _ _ (by omega), if_pos e.symm]
      subst e; simp at h3; omega
structure LW (L : Nat) (a' : List Int) (t p c dr : Nat) (tr tr' : Bool) : Prop where
  is : L = c * 10 ^ (t - p) + (dv (nf a') p (min t 800 - p) * 10 ^ min (t - 800) (t - p) + dr)
  lt : dr < 10 ^ min (t - 800) (t - p)
  trunc : tr' = (tr || decide (dr ≠ 0))
theorem LW.add {L : Nat} {a' : List Int} {t p c dr : Nat} {tr tr' : Bool} (h : LW L a' t p c dr tr tr') (P : Nat) : LW (P * 10 ^ (t - p) + L) a' t p (c + P) dr tr tr' :=
  ⟨by rw [h.is, Nat.add_mul]; omega, h.lt, h.trunc⟩
theorem LW.put {L : Nat} {a' : List Int} {t v c dr : Nat} {tr tr' : Bool} (h : LW L a' t (v + 1) c dr tr tr') (hl : a'.length = 800) (hv : v < 800) (ht : v < t) : LW L (a'.set v (((c % 10 : Nat) : Int) + 48)) t v (c / 10) dr tr tr' := by
  obtain ⟨g, hg⟩ : ∃ g, g = t - (v + 1) := ⟨_, rfl⟩
  obtain ⟨o, ho⟩ : ∃ o, o = min t 800 - (v + 1) := ⟨_, rfl⟩
  have h1 := h.is
  have h2 := h.lt
  have m1 : min (t - 800) (t - (v + 1)) = t - 800 := by omega
  have m2 : min (t - 800) (t - v) = t - 800 := by omega
  rw [m1] at h1 h2
  rw [← hg, ← ho] at h1
  refine ⟨?_, by rw [m2]; exact h2, h.trunc⟩
  have e1 : nf (a'.set v (((c % 10 : Nat) : Int) + 48)) v = c % 10 := by unfold nf; rw [getD_set _ _ _ _ (by omega), if_pos rfl]; unfold dig; omega
  have e2 : dv (nf (a'.set v (((c % 10 : Nat) : Int) + 48))) (v + 1) o = dv (nf a') (v + 1) o := dv_congr (fun j h1 h2 => by unfold nf; rw [getD_set _ _ _ _ (by omega), if_neg (by omega)])
  rw [m2, show min t 800 - v = o + 1 by omega, show t - v = g + 1 by omega, dv_front, e1, e2, h1, Nat.pow_succ, Nat.add_mul, Nat.mul_assoc (c % 10), ← Nat.pow_add, show o + (t - 800) = g by omega]
  have q := Nat.div_add_mod c 10
  have e3 : c * 10 ^ g = (c / 10) * (10 ^ g * 10) + c % 10 * 10 ^ g := by
    conv => lhs; rw [← q]
    have e4 : 10 * (c / 10) * 10 ^ g = c / 10 * (10 ^ g * 10) := by ac_rfl
    rw [Nat.add_mul, e4]
  omega
theorem LW.pass {L : Nat} {a' : List Int} {t v c dr : Nat} {tr tr' : Bool} (h : LW L a' t (v + 1) c dr tr tr') (hv : ¬ v < 800) (ht : v < t) : LW L a' t v (c / 10) (c % 10 * 10 ^ (t - (v + 1)) + dr) tr (tr' || decide (c % 10 ≠ 0)) := by
  obtain ⟨g, hg⟩ : ∃ g, g = t - (v + 1) := ⟨_, rfl⟩
  have h1 := h.is
  have h2 := h.lt
  have m1 : min (t - 800) (t - (v + 1)) = g := by omega
  have m2 : min (t - 800) (t - v) = g + 1 := by omega
  rw [m1] at h1 h2
  rw [← hg, show min t 800 - (v + 1) = 0 by omega, dv, Nat.zero_mul, Nat.zero_add] at h1
  have pg := p10 g
  have r9 := Nat.mod_lt c (show 10 > 0 by decide)
  refine ⟨?_, ?_, ?_⟩
  · rw [m2, show min t 800 - v = 0 by omega, show t - v = g + 1 by omega, dv, Nat.zero_mul, Nat.zero_add, h1, Nat.pow_succ, ← hg]
    have q := Nat.div_add_mod c 10
    have e3 : c * 10 ^ g = (c / 10) * (10 ^ g * 10) + c % 10 * 10 ^ g := by
      conv => lhs; rw [← q]
      have e4 : 10 * (c / 10) * 10 ^ g = c / 10 * (10 ^ g * 10) := by ac_rfl
      rw [Nat.add_mul, e4]
    omega
  · rw [m2, Nat.pow_succ, ← hg]
    have : c % 10 * 10 ^ g ≤ 9 * 10 ^ g := Nat.mul_le_mul_right _ (by omega)
    omega
  · rw [h.trunc, Bool.or_assoc]
    refine congrArg (tr || ·) ?_
    rw [Bool.eq_iff_iff]
    simp only [Bool.or_eq_true, decide_eq_true_eq]
    rw [← hg]
    generalize c % 10 = u at *
    constructor
    · rintro (h | h)
      · omega
      · have := Nat.mul_le_mul_right (10 ^ g) (show 1 ≤ u by omega); omega
    · intro h
      by_cases hu : u = 0
      · subst hu; left; rw [Nat.zero_mul] at h; omega
      · exact .inr hu
theorem over_is {e t x y L : Nat} (h : x = min t e) (h2 : y = t - e) (ln : L = x + y) : y = L - e := by omega
theorem LW.cut {a a' : List Int} {n de k dr m : Nat} {tr tr' : Bool} {dp : Int} (h : LW (dv (nf a) 0 n * 2 ^ k) a' (n + de) 0 0 dr tr tr') (hx : Norm a' (min (n + de) 800)) (hm : m ≤ min (n + de) 800) (e1 : dv (nf a') 0 (min (n + de) 800) = dv (nf a') 0 m * 10 ^ (min (n + de) 800 - m)) (e2 : dv (nf a') 0 m % 10 ≠ 0) :
    (⟨dv (nf a') 0 m, dp + de - m, tr'⟩ : S3) = cut (dv (nf a) 0 n * 2 ^ k) (dp - n) tr := by
  obtain ⟨x, hxx⟩ : ∃ x, x = min (n + de) 800 := ⟨_, rfl⟩
  obtain ⟨y, hy⟩ : ∃ y, y = n + de - 800 := ⟨_, rfl⟩
  have h1 := h.is
  have h2 := h.lt
  rw [show min (n + de - 800) (n + de - 0) = y by omega] at h1 h2
  rw [Nat.zero_mul, Nat.zero_add, Nat.sub_zero, ← hxx] at h1
  rw [← hxx] at hx hm e1
  obtain ⟨A, hA⟩ : ∃ A, A = dv (nf a) 0 n * 2 ^ k := ⟨_, rfl⟩
  rw [← hA] at h1 ⊢
  have px := hx.pos
  have lo := hx.lo
  have hi := hx.hi
  have p1 := p10 (x - 1)
  have p2 := p10 y
  have ln : dlen A = x + y := by
    apply dlen_is (by omega)
    · rw [show x + y - 1 = x - 1 + y by omega, Nat.pow_add]
      have := Nat.mul_le_mul_right (10 ^ y) lo
      omega
    · have := Nat.mul_le_mul_right (10 ^ y) (show dv (nf a') 0 x + 1 ≤ 10 ^ x by omega)
      rw [Nat.add_mul, Nat.one_mul] at this
      rw [Nat.pow_add]; omega
  have ht : y = dlen A - 800 := over_is hxx hy ln
  have hd : A / 10 ^ y = dv (nf a') 0 m * 10 ^ (x - m) := by rw [h1, Nat.add_comm, Nat.add_mul_div_right _ _ p2, Nat.div_eq_of_lt h2, Nat.zero_add, e1]
  have hmod : A % 10 ^ y = dr := by rw [h1, Nat.add_comm, Nat.add_mul_mod_self_right, Nat.mod_eq_of_lt h2]
  rw [cut_is (M := A) (t := y) (z := x - m) (dp - n) tr ht e2 hd, hmod]
  apply S3.ext'
  · rfl
  · show dp + (de : Int) - (m : Int) = dp - n + (y : Int) + ((x - m : Nat) : Int)
    omega
  · exact h.trunc
def Left (w' : World) (b : Nat) (a : List Int) (n k : Nat) (dp : Int) (ng tr : Bool) : Prop := ∃ (a' : List Int) (m : Nat) (dp' : Int) (tr' : Bool), Norm a' m ∧ D w' b a' (m : Int) dp' ng tr' ∧ dp ≤ dp' ∧ dp' ≤ dp + 20 ∧ (dp' = dp → a.getD 0 0 < a'.getD 0 0) ∧ (⟨dv (nf a') 0 m, dp' - m, tr'⟩ : S3) = cut (dv (nf a) 0 n * 2 ^ k) (dp - n) tr
theorem nb_of (l : List UInt8) : nb ⟨l.toArray⟩ = l.map fun c => (c.toNat : Int) := by simp [nb]
set_option maxHeartbeats 4000000 in
set_option maxRecDepth 100000 in
theorem left_any {w : World} {b : Nat} {a : List Int} {dp : Int} {ng tr : Bool} {n k : Nat} (h : D w b a (n : Int) dp ng tr) (hn : Norm a n) (hc : LC w b) (k1 : 1 ≤ k) (k2 : k ≤ 60) (d1 : -1000000000 ≤ dp) (d2 : dp ≤ 1000000000) :
    Calls Tryz.prog 110 #[.pointer (some ⟨b, 0, none⟩), .int .u64 (k : Int)] w fun e w' => e = .returned (.tuple #[]) ∧ Left w' b a n k dp ng tr ∧ Below b w w' := by
  obtain ⟨h10, lb, lo, cc, hlb, c10, cs⟩ := hc
  obtain ⟨cd, cst⟩ := cs k (by omega)
  obtain ⟨hch, hd20⟩ := cheat_of k1 k2
  have CH := Lib.hid hch; clear hch
  obtain ⟨dl, hdl⟩ : ∃ dl, dl = (cheat k).1 := ⟨_, rfl⟩
  rw [← hdl] at cd hd20
  obtain ⟨cu, hcu⟩ : ∃ cu : ByteArray, cu = ⟨(cheat k).2.toArray⟩ := ⟨_, rfl⟩
  rw [← hcu] at cst
  have CU := Lib.hid hcu; clear hcu
  have DL := Lib.hid hdl; clear hdl
  clear cs
  have H := Lib.hid h; clear h
  have HN := Lib.hid hn; clear hn
  have hu := Tryz.underlying149
  have kk0 : 0 ≤ (k : Int) := by omega
  have kk1 : (k : Int) ≤ 60 := by omega
  have kk2 : (k : Int) < 61 := by omega
  have hk := Lib.hid (pow60 k2)
  have n0 := Lib.hid HN.out.le
  have nn0 : 0 ≤ (n : Int) := by omega
  have nn1 : (n : Int) ≤ 800 := by have := n0.out; omega
  have c800 := H.out.nd_
  have dl0 : 0 ≤ (dl : Int) := by omega
  have dl1 : (dl : Int) ≤ 20 := by omega
  obtain ⟨pb, hpb⟩ : ∃ pb, pb = pl (a.take n) (nb cu) := ⟨_, rfl⟩
  have PF := Lib.hid (fun (q : Nat) => prefix_any (w := w.drewN q) (n := n) (c := 800) (s := cu) (H.out.drewN q) n0.out (by rw [← nb_length, CU.out, nb_of]; have := CH.out.le; unfold cdig at this; omega) HN.out.digs)
  rw [← hpb] at PF
  have hdig : Hid (∀ y ∈ a.take n, IsDig y) := Lib.hid (fun y hy => by
    obtain ⟨i, hi, rfl⟩ := List.mem_iff_getElem.mp hy
    rw [List.length_take] at hi
    have := HN.out.digs i (by omega)
    rw [List.getD_eq_getElem?_getD, List.getElem?_eq_getElem (by omega)] at this
    rw [List.getElem_take]
    exact this)
  have hcons : Hid (a.take n = a.getD 0 0 :: (a.take n).drop 1) := Lib.hid (by
    have := take_get a n 0 HN.out.pos (by have := H.out.len; have := n0.out; omega)
    rwa [List.drop_zero] at this)
  have dpos : 1 ≤ dl := by rw [DL.out, CH.out.de]; have := CH.out.le; omega
  have FI : Hid (∃ de : Nat, (de : Int) = (if pb = true then (dl : Int) - 1 else dl) ∧ carry k (a.take n) < 10 ^ de ∧ (1 ≤ de → 10 ^ (de - 1) ≤ carry k (a.take n)) ∧ de ≤ 20) := Lib.hid (by
    have hf := fills CH.out (x := a.getD 0 0) (b := (a.take n).drop 1) HN.out.lead (by rw [← hcons.out]; exact hdig.out)
    rw [← hcons.out, ← DL.out] at hf
    have hcd : cdig k = nb cu := by rw [CU.out, nb_of]; rfl
    rw [hcd, ← hpb] at hf
    cases pb with
    | false => exact ⟨dl, by simp, hf.1, fun _ => hf.2.1 rfl, hd20⟩
    | true => exact ⟨dl - 1, by simp; omega, (hf.2.2 rfl).1, fun h => by have := (hf.2.2 rfl).2 (by omega); rwa [show dl - 1 - 1 = dl - 2 by omega], by omega⟩)
  have hPB := Lib.hid hpb; clear hpb
  go_enter Tryz.func110, Tryz.ntmps110
  go_wp2_with fail
  go_quiet ((go_at_call 117; exact Calls.quiet_of (PF.out _)))
  go_upto_if 30 with (fail)
  go_cut [4] (fun v4 wc => ∃ (de q : Nat), v4 = .int .i64 (de : Int) ∧ wc = w.drewN q ∧ Hid (carry k (a.take n) < 10 ^ de) ∧ Hid (1 ≤ de → 10 ^ (de - 1) ≤ carry k (a.take n)) ∧ Hid (de ≤ 20))
  case first =>
    obtain ⟨de, e0, e1, e2, e3⟩ := FI.out
    have dd1 : 1 ≤ (dl : Int) := by omega
    have E0 := Lib.hid e0; clear e0
    have E1 := Lib.hid e1; clear e1
    have E2 := Lib.hid e2; clear e2
    have E3 := Lib.hid e3; clear e3
    cases pb with
    | false =>
      go_wp2_with fail
      go_meet
      exact ⟨de, _, congrArg _ (by have := E0.out; simp at this; omega), rfl, E1, E2, E3⟩
    | true =>
      go_wp2_with fail
      go_meet
      exact ⟨de, _, congrArg _ (by have := E0.out; simp at this; omega), rfl, E1, E2, E3⟩
  case rest =>
    obtain ⟨de, q, rfl, rfl, e1, e2, e3⟩ := hcut
    have de0 : 0 ≤ (de : Int) := by omega
    have de1 : (de : Int) ≤ 20 := by have := e3.out; omega
    go_wp2_with fail
    go_loopg [5, 6, 7] n (fun m v5 v6 v7 w' => ∃ (c dr : Nat) (a' : List Int) (tr' : Bool), v5 = .int .i64 ((m : Int) - 1) ∧ v6 = .int .i64 ((m : Int) + (de : Int)) ∧ v7 = .int .u64 (c : Int) ∧ Hid (m ≤ n) ∧ Hid (c = carry k ((a.take n).drop m)) ∧ Hid (LW (dv (nf a) m (n - m) * 2 ^ k) a' (n + de) (m + de) c dr tr tr') ∧ Hid (LM a a' n m de) ∧ Hid (D w' b a' (n : Int) dp ng tr') ∧ Hid (Below b w w'))
    case atStart => exact ⟨0, 0, a, tr, rfl, rfl, rfl, Lib.hid (Nat.le_refl _), Lib.hid (by rw [List.drop_eq_nil_of_le (by rw [List.length_take]; omega), carry_nil]), Lib.hid ⟨by rw [show n - n = 0 by omega, show min (n + de) 800 - (n + de) = 0 by omega, dv, dv]; simp, p10 _, by simp⟩, Lib.hid ⟨fun _ _ => rfl, fun i h1 h2 => by omega, fun h => by have := HN.out.pos; omega⟩, Lib.hid (H.out.drewN q), Lib.hid (Joins.below_draws b w q)⟩
    case round =>
      obtain ⟨c, dr, a', tr', rfl, rfl, rfl, hm, hcar, hW, hL, hD, hB⟩ := hrel
      rcases Nat.eq_zero_or_pos gk with g0 | gp
      · subst g0
        rw [List.drop_zero] at hcar
        rw [Nat.sub_zero, Nat.zero_add] at hW
        have c0 : 0 ≤ (c : Int) := by omega
        have c1 : (c : Int) ≤ 1152921504606846976 := by
          have h1 : c < 2 ^ k := by rw [hcar.out]; exact carry_lt hdig.out
          have := hk.out; omega
        have hlt : Hid (LT a a' n de de c) := Lib.hid (by
          refine ⟨?_, e3.out, fun i h1 h2 h3 => hL.out.digs i (by omega) h2 h3, fun h h' => by omega, fun h => hL.out.lead rfl h⟩
          rcases Nat.eq_zero_or_pos de with e | e
          · have := e1.out
            rw [e, Nat.pow_zero, ← hcar.out] at this
            exact .inl ⟨by omega, e⟩
          · exact .inr ⟨e, by rw [hcar.out]; exact e2.out e, by rw [hcar.out]; exact e1.out⟩)
        have hL0 := Lib.hid hL.out.lead; clear hL
        go_wp2_with fail
        go_loopg [6, 7] de (fun m v6 v7 w' => ∃ (c dr : Nat) (a' : List Int) (tr' : Bool), v6 = .int .i64 (m : Int) ∧ v7 = .int .u64 (c : Int) ∧ Hid (m ≤ de) ∧ Hid (c ≤ 1152921504606846976) ∧ Hid (LT a a' n de m c) ∧ Hid (LW (dv (nf a) 0 n * 2 ^ k) a' (n + de) m c dr tr tr') ∧ Hid (D w' b a' (n : Int) dp ng tr') ∧ Hid (Below b w w'))
        case atStart => exact ⟨c, dr, a', tr', congrArg _ (by simp), rfl, Lib.hid (Nat.le_refl _), Lib.hid (by omega), hlt, hW, hD, hB⟩
        case round =>
          obtain ⟨c, dr, a', tr', rfl, rfl, hmd, hc9, hT, hW, hD, hB⟩ := hrel
          have c0 : 0 ≤ (c : Int) := by omega
          have c1 : (c : Int) ≤ 1152921504606846976 := by have := hc9.out; omega
          by_cases hc : 1 ≤ c
          · have t1 : decide (0 < c) = true := decide_eq_true hc
            obtain ⟨v, rfl⟩ : ∃ v, gk = v + 1 := ⟨gk - 1, by
              rcases hT.out.num with ⟨h1, _⟩ | ⟨h1, _, _⟩ <;> omega⟩
            have v0 : 0 ≤ (v : Int) := by omega
            have v1 : (v : Int) < 20 := by have := hT.out.y20; omega
            obtain ⟨Q, hQ⟩ : ∃ Q : Nat, Q = c / 10 := ⟨_, rfl⟩
            have s3 : (c : Int) / 10 = (Q : Int) := by omega
            have q00 : 0 ≤ (Q : Int) := by omega
            have q10 : (Q : Int) ≤ 1152921504606846976 := by omega
            obtain ⟨R, hR⟩ : ∃ R : Nat, R = c % 10 := ⟨_, rfl⟩
            have s4 : (c : Int) - 10 * (Q : Int) = (R : Int) := by omega
            have r00 : 0 ≤ (R : Int) := by omega
            have r10 : (R : Int) ≤ 9 := by omega
            have HQ := Lib.hid hQ; clear hQ
            have HR := Lib.hid hR; clear hR
            have HC := Lib.hid hc; clear hc
            have w2 : (v : Int) < 800 := by omega
            have w3 : decide (v < 800) = true := decide_eq_true (by omega)
            have e6 : (v : Int) + 1 - 1 = (v : Int) := by omega
            obtain ⟨z, hz⟩ : ∃ z, wr.cell? ⟨b, v, none⟩ = some (.int .u8 z) := ⟨_, hD.out.d v (by omega)⟩
            have frx := hD.out.free v
            go_wp2_with fail
            go_roundg v
            case measure => omega
            case rel => exact ⟨Q, dr, _, tr', rfl, rfl, Lib.hid (by have := hmd.out; omega), Lib.hid (by omega), Lib.hid (by rw [HQ.out, HR.out]; exact hT.out.put hD.out.len HC.out hmd.out), Lib.hid (by rw [HQ.out, HR.out]; exact hW.out.put hD.out.len (by omega) (by have := hmd.out; omega)), Lib.hid (hD.out.set_d v (by omega) _), Lib.hid (hB.out.setCell (Nat.le_refl _) _)⟩
          · have t1 : decide (0 < c) = false := decide_eq_false hc
            have c00 : c = 0 := by omega
            subst c00
            have g00 : gk = 0 := by
              rcases hT.out.num with ⟨_, h1⟩ | ⟨_, h1, _⟩
              · exact h1
              · have := Nat.pow_pos (n := gk - 1) (show 0 < 10 by omega); omega
            subst g00
            have c800' := hD.out.nd_
            have fr0 := hD.out.free 800
            have fr1 := hD.out.free 801
            have hD1 := Lib.hid (hD.out.set_nd ((n : Int) + (de : Int)))
            have d800 := hD1.out.nd_
            have d801 := hD1.out.dp_
            have hlead : Hid (49 ≤ a'.getD 0 0) := Lib.hid (by
              rcases Nat.eq_zero_or_pos de with e | e
              · have h1 := hT.out.lead0 e
                have h2 := HN.out.lead
                omega
              · exact hT.out.lead rfl e)
            by_cases hbig : 800 ≤ n + de
            · have t5 : decide (800 ≤ (n : Int) + (de : Int)) = true := decide_eq_true (by omega)
              have hnorm : Norm a' 800 := ⟨by have := HN.out.pos; omega, by omega, fun i hi => hT.out.digs i (by omega) (by omega) (by omega), hlead.out⟩
              have hD3 : D (((wr.setCell ⟨b, 800, none⟩ (.int .i64 ((n : Int) + (de : Int)))).setCell ⟨b, 800, none⟩ (.int .i64 800)).setCell ⟨b, 801, none⟩ (.int .i64 (dp + (de : Int)))) b a' ((800 : Nat) : Int) (dp + (de : Int)) ng tr' := ((hD.out.set_nd _).set_nd _).set_dp _
              have CT := Lib.hid (trim_any (n := 800) hD3 hnorm)
              have HNO := Lib.hid hnorm; clear hnorm
              have e8 : min (n + de) 800 = 800 := by omega
              have E8 := Lib.hid e8; clear e8
              have HD3 := Lib.hid hD3; clear hD3
              go_wp2_with (go_at_call 118; refine CT.out.mono ?_; rintro e w' ⟨rfl, ⟨m, hm1, hm2, hm3, hm4, hm5⟩, hbt⟩; have HM1 := Lib.hid hm1; have HM2 := Lib.hid hm2; have HM3 := Lib.hid hm3; have HM4 := Lib.hid hm4; have HM5 := Lib.hid hm5; have HBT := Lib.hid hbt; clear hm1 hm2 hm3 hm4 hm5 hbt)
              go_end0
              exact ⟨rfl, ⟨a', m, _, tr', HM2.out, HM3.out, by omega, by omega, fun e => hT.out.lead0 (by omega), hW.out.cut (by rw [E8.out]; exact HNO.out) (by rw [E8.out]; exact HM1.out) (by rw [E8.out]; exact HM4.out) HM5.out⟩, (((hB.out.setCell (Nat.le_refl _) _).setCell (Nat.le_refl _) _).setCell (Nat.le_refl _) _).trans HBT.out⟩
            · have t5 : decide (800 ≤ (n : Int) + (de : Int)) = false := decide_eq_false (by omega)
              have hnorm : Norm a' (n + de) := ⟨by have := HN.out.pos; omega, by omega, fun i hi => hT.out.digs i (by omega) (by omega) (by omega), hlead.out⟩
              have hD3 : D ((wr.setCell ⟨b, 800, none⟩ (.int .i64 ((n : Int) + (de : Int)))).setCell ⟨b, 801, none⟩ (.int .i64 (dp + (de : Int)))) b a' ((n + de : Nat) : Int) (dp + (de : Int)) ng tr' := by
                rw [Int.natCast_add]; exact (hD.out.set_nd _).set_dp _
              have CT := Lib.hid (trim_any (n := (n + de)) hD3 hnorm)
              have HNO := Lib.hid hnorm; clear hnorm
              have e8 : min (n + de) 800 = n + de := by omega
              have E8 := Lib.hid e8; clear e8
              have HD3 := Lib.hid hD3; clear hD3
              go_wp2_with (go_at_call 118; refine CT.out.mono ?_; rintro e w' ⟨rfl, ⟨m, hm1, hm2, hm3, hm4, hm5⟩, hbt⟩; have HM1 := Lib.hid hm1; have HM2 := Lib.hid hm2; have HM3 := Lib.hid hm3; have HM4 := Lib.hid hm4; have HM5 := Lib.hid hm5; have HBT := Lib.hid hbt; clear hm1 hm2 hm3 hm4 hm5 hbt)
              go_end0
              exact ⟨rfl, ⟨a', m, _, tr', HM2.out, HM3.out, by omega, by omega, fun e => hT.out.lead0 (by omega), hW.out.cut (by rw [E8.out]; exact HNO.out) (by rw [E8.out]; exact HM1.out) (by rw [E8.out]; exact HM4.out) HM5.out⟩, ((hB.out.setCell (Nat.le_refl _) _).setCell (Nat.le_refl _) _).trans HBT.out⟩
      · obtain ⟨u, rfl⟩ : ∃ u, gk = u + 1 := ⟨gk - 1, by omega⟩
        have GP := Lib.hid gp; clear gp
        obtain ⟨x, hx⟩ : ∃ x, x = a'.getD u 0 := ⟨_, rfl⟩
        have cx := hD.out.d u (by have := n0.out; have := hm.out; omega)
        rw [← hx] at cx
        have hX := Lib.hid (hx.trans (hL.out.same u (by omega))); clear hx
        have u0 : 0 ≤ (u : Int) := by omega
        have u1 : (u : Int) < 800 := by have := n0.out; have := hm.out; omega
        have xd : Hid (IsDig x) := Lib.hid (by rw [hX.out]; exact HN.out.digs u (by have := hm.out; omega))
        have x0 : 48 ≤ x := xd.out.1
        have x1 : x ≤ 57 := xd.out.2
        have t1 : decide (0 ≤ (u : Int)) = true := decide_eq_true u0
        have c0 : 0 ≤ (c : Int) := by omega
        have hcl : Hid (c < 2 ^ k) := Lib.hid (by rw [hcar.out]; exact carry_lt (fun y hy => hdig.out y (List.mem_of_mem_drop hy)))
        have c1 : (c : Int) ≤ 1152921504606846976 := by have := hcl.out; have := hk.out; omega
        obtain ⟨P, hP⟩ : ∃ P : Nat, P = dig x * 2 ^ k := ⟨_, rfl⟩
        have hP9 : P ≤ 9 * 2 ^ k := by rw [hP]; exact Nat.mul_le_mul_right _ (dig_lt xd.out)
        have pk := hk.out
        have s1 : IntKind.u64.wrap ((x - 48) * 2 ^ k) = (P : Int) := by
          have e : (x - 48) * 2 ^ k = (P : Int) := by
            rw [hP, Int.natCast_mul, show ((dig x : Nat) : Int) = x - 48 by unfold dig; omega]
            simp
          rw [e]
          exact IntWalk.u64_in _ (by omega)
        obtain ⟨N, hN⟩ : ∃ N : Nat, N = c + P := ⟨_, rfl⟩
        have s2 : (c : Int) + (P : Int) = (N : Int) := by omega
        have n00 : 0 ≤ (N : Int) := by omega
        have n10 : (N : Int) ≤ 11529215046068469760 := by have := hcl.out; omega
        obtain ⟨Q, hQ⟩ : ∃ Q : Nat, Q = N / 10 := ⟨_, rfl⟩
        have s3 : (N : Int) / 10 = (Q : Int) := by omega
        have q00 : 0 ≤ (Q : Int) := by omega
        have q10 : (Q : Int) ≤ 1152921504606846976 := by omega
        obtain ⟨R, hR⟩ : ∃ R : Nat, R = N % 10 := ⟨_, rfl⟩
        have s4 : (N : Int) - 10 * (Q : Int) = (R : Int) := by omega
        have r00 : 0 ≤ (R : Int) := by omega
        have r10 : (R : Int) ≤ 9 := by omega
        have HP := Lib.hid hP; clear hP
        have HP9 := Lib.hid hP9; clear hP9
        have PK := Lib.hid pk; clear pk
        have HN' := Lib.hid hN; clear hN
        have HQ := Lib.hid hQ; clear hQ
        have HR := Lib.hid hR; clear hR
        have e6 : (u : Int) + 1 + (de : Int) - 1 = (u : Int) + (de : Int) := by omega
        have HQC : Hid (Q = carry k ((a.take n).drop u)) := Lib.hid (by
          rw [take_get a n u (by have := hm.out; omega) (by have := H.out.len; have := n0.out; omega), carry_cons, ← hX.out, ← hcar.out, ← HP.out, HQ.out, HN'.out, Nat.add_comm])
        have HLL : Hid (LW (dv (nf a) u (n - u) * 2 ^ k) a' (n + de) (u + 1 + de) N dr tr tr') := Lib.hid (by
          have h5 := hW.out.add P
          have e5 : n - u = n - (u + 1) + 1 := by have := hm.out; omega
          rw [e5, dv_front, Nat.add_mul, HN'.out]
          have e6 : nf a u * 10 ^ (n - (u + 1)) * 2 ^ k = P * 10 ^ (n + de - (u + 1 + de)) := by
            rw [HP.out, show n + de - (u + 1 + de) = n - (u + 1) by omega, hX.out]; unfold nf; ac_rfl
          rw [e6]; exact h5)
        rw [show u + 1 + de = u + de + 1 by omega] at HLL
        have HLead : Hid (u = 0 → de = 0 → a.getD 0 0 < (R : Int) + 48) := Lib.hid (fun e e' => by
          have h1 := HQC.out
          rw [e, List.drop_zero] at h1
          have h2 := e1.out
          rw [e', Nat.pow_zero] at h2
          have h3 : dig x * 2 ≤ P := by
            rw [HP.out]
            exact Nat.mul_le_mul_left _ (by have := Nat.pow_le_pow_right (n := 2) (by decide) k1; omega)
          have h4 := HN.out.lead
          have h5 := hX.out
          rw [e] at h5
          have h6 : (dig x : Int) = x - 48 := by unfold dig; omega
          have h7 := HN'.out
          have h8 := HQ.out
          have h9 := HR.out
          omega)
        by_cases hw : u + de < 800
        · have t2 : decide ((u : Int) + (de : Int) < 800) = true := decide_eq_true (by omega)
          have w2 : (u : Int) + (de : Int) < 800 := by omega
          obtain ⟨z, hz⟩ : ∃ z, wr.cell? ⟨b, u + de, none⟩ = some (.int .u8 z) := ⟨_, hD.out.d (u + de) hw⟩
          have frx := hD.out.free (u + de)
          go_wp2_with fail
          go_roundg u
          case measure => omega
          case rel => exact ⟨Q, dr, _, tr', rfl, rfl, rfl, Lib.hid (by have := hm.out; omega), HQC, Lib.hid (by rw [HQ.out, HR.out]; exact HLL.out.put hD.out.len hw (by have := hm.out; omega)), Lib.hid (hL.out.put hD.out.len hw (by omega) (fun e e' => by have := HLead.out e e'; omega)), Lib.hid (hD.out.set_d (u + de) hw _), Lib.hid (hB.out.setCell (Nat.le_refl _) _)⟩
        · have t2 : decide ((u : Int) + (de : Int) < 800) = false := decide_eq_false (by omega)
          have w2 : ¬ (u : Int) + (de : Int) < 800 := by omega
          have fr3 := hD.out.free 803
          have c803 := hD.out.tr_
          by_cases hr0 : (R : Int) = 0
          · have t3 : ((R : Int) != 0) = false := by rw [hr0]; rfl
            have HR0 := Lib.hid hr0; clear hr0
            go_wp2_with fail
            go_roundg u
            case measure => omega
            case rel => exact ⟨Q, _, _, tr', rfl, rfl, rfl, Lib.hid (by have := hm.out; omega), HQC, Lib.hid (by have h5 := HLL.out.pass hw (by have := hm.out; omega); rw [← HR.out, show decide (R ≠ 0) = false from decide_eq_false (by have := HR0.out; omega), Bool.or_false, ← HQ.out] at h5; exact h5), Lib.hid (hL.out.pass hw), hD, hB⟩
          · have t3 : ((R : Int) != 0) = true := bne_iff_ne.mpr hr0
            have HR0 := Lib.hid hr0; clear hr0
            go_wp2_with fail
            go_roundg u
            case measure => omega
            case rel => exact ⟨Q, _, _, true, rfl, rfl, rfl, Lib.hid (by have := hm.out; omega), HQC, Lib.hid (by have h5 := HLL.out.pass hw (by have := hm.out; omega); rw [← HR.out, show decide (R ≠ 0) = true from decide_eq_true (by have := HR0.out; omega), Bool.or_true, ← HQ.out] at h5; exact h5), Lib.hid (hL.out.pass hw), Lib.hid (hD.out.set_tr _), Lib.hid (hB.out.setCell (Nat.le_refl _) _)⟩
end Go.Proofs.YtjemobfhlfejlaaGreatDoor.Dc
namespace Go.Proofs.YtjemobfhlfejlaaGreatDoor.Dc
open Go Go.RowKit
set_option maxHeartbeats 2000000 in
set_option maxRecDepth 100000 in
theorem shl_any {w : World} {b : Nat} {a : List Int} {dp : Int} {ng tr : Bool} {n k : Nat} (h : D w b a (n : Int) dp ng tr) (hn : Norm a n) (hc : LC w b) (k1 : 1 ≤ k) (k2 : k ≤ 60) (d1 : -1000000000 ≤ dp) (d2 : dp ≤ 1000000000) :
    Calls Tryz.prog 105 #[.pointer (some ⟨b, 0, none⟩), .int .i64 (k : Int)] w fun e w' => e = .returned (.tuple #[]) ∧ Left w' b a n k dp ng tr ∧ Below b w w' := by
  have CT := Lib.hid (left_any h hn hc k1 k2 d1 d2)
  have kk0 : 0 ≤ (k : Int) := by omega
  have kk1 : (k : Int) ≤ 60 := by omega
  have kk2 : (0 : Int) < (k : Int) := by omega
  have kk3 : ¬ (60 : Int) < (k : Int) := by omega
  have nn0 : ((n : Int) == 0) = false := by have := hn.pos; simp; omega
  have c800 := h.nd_
  have hu := Tryz.underlying149
  have t1 : decide ((0 : Int) < (k : Int)) = true := decide_eq_true kk2
  have t2 : decide ((60 : Int) < (k : Int)) = false := decide_eq_false kk3
  have t1' : decide (0 < k) = true := decide_eq_true (by omega)
  have H := Lib.hid h; clear h
  have HN := Lib.hid hn; clear hn
  have HC := Lib.hid hc; clear hc
  go_enter Tryz.func105, Tryz.ntmps105
  go_wp2_with fail
  go_loopg [1] 0 (fun m v1 w' => v1 = .int .i64 (k : Int) ∧ w' = w)
  case atStart => exact ⟨rfl, rfl⟩
  case round =>
    obtain ⟨rfl, rfl⟩ := hrel
    go_wp2_with (go_at_call 110; refine CT.out.mono ?_; rintro e w' ⟨rfl, hl, hbt⟩; have HL := Lib.hid hl; have HBT := Lib.hid hbt; clear hl hbt)
    go_end0
    exact ⟨rfl, HL.out, HBT.out⟩
set_option maxHeartbeats 2000000 in
set_option maxRecDepth 100000 in
theorem shr_any {w : World} {b : Nat} {a : List Int} {dp : Int} {ng tr : Bool} {n k : Nat} (h : D w b a (n : Int) dp ng tr) (hn : Norm a n) (k1 : 1 ≤ k) (k2 : k ≤ 60) (d1 : -1000000 ≤ dp) (d2 : dp ≤ 1000000) :
    Calls Tryz.prog 105 #[.pointer (some ⟨b, 0, none⟩), .int .i64 (-(k : Int))] w fun e w' => e = .returned (.tuple #[]) ∧ Right w' b a n k dp ng tr ∧ Below b w w' := by
  have CT := Lib.hid (right_any h hn k1 k2 (by omega) (by omega))
  have kk0 : 0 ≤ (k : Int) := by omega
  have kk1 : (k : Int) ≤ 60 := by omega
  have kk2 : ¬ (0 : Int) < -(k : Int) := by omega
  have kk4 : -(k : Int) < 0 := by omega
  have nn0 : ((n : Int) == 0) = false := by have := hn.pos; simp; omega
  have c800 := h.nd_
  have hu := Tryz.underlying149
  have t1 : decide ((0 : Int) < -(k : Int)) = false := decide_eq_false kk2
  have t2 : decide (-(k : Int) < 0) = true := decide_eq_true kk4
  have t3 : decide ((0 : Int) < (k : Int)) = true := decide_eq_true (by omega)
  have t4 : decide (0 < k) = true := decide_eq_true (by omega)
  have s1 : decide (-(k : Int) < -60) = false := decide_eq_false (by omega)
  have H := Lib.hid h; clear h
  have HN := Lib.hid hn; clear hn
  go_enter Tryz.func105, Tryz.ntmps105
  go_wp2_with fail
  go_loopg [1] 0 (fun m v1 w' => v1 = .int .i64 (-(k : Int)) ∧ w' = w)
  case atStart => exact ⟨rfl, rfl⟩
  case round =>
    obtain ⟨rfl, rfl⟩ := hrel
    go_wp2_with (go_at_call 111; refine CT.out.mono ?_; rintro e w' ⟨rfl, hl, hbt⟩; have HL := Lib.hid hl; have HBT := Lib.hid hbt; clear hl hbt)
    go_end0
    exact ⟨rfl, HL.out, HBT.out⟩
end Go.Proofs.YtjemobfhlfejlaaGreatDoor.Dc
namespace Go.Proofs.YtjemobfhlfejlaaGreatDoor.Dc
open Go Go.RowKit
def rupB (a : List Int) (n x : Nat) (tr : Bool) : Bool := if n ≤ x then false else if a.getD x 0 = 53 ∧ x + 1 = n then (tr || (decide (0 < x) && decide (nf a (x - 1) % 2 ≠ 0))) else decide (53 ≤ a.getD x 0)
theorem rupB_ge {a : List Int} {n x : Nat} {tr : Bool} (h : n ≤ x) : rupB a n x tr = false := by unfold rupB; rw [if_pos h]
theorem rupB_half {a : List Int} {n x : Nat} {tr : Bool} (h : ¬ n ≤ x) (h2 : a.getD x 0 = 53) (h3 : x + 1 = n) : rupB a n x tr = (tr || (decide (0 < x) && decide (nf a (x - 1) % 2 ≠ 0))) := by unfold rupB; rw [if_neg h, if_pos ⟨h2, h3⟩]
theorem rupB_else {a : List Int} {n x : Nat} {tr : Bool} (h : ¬ n ≤ x) (h2 : ¬ (a.getD x 0 = 53 ∧ x + 1 = n)) : rupB a n x tr = decide (53 ≤ a.getD x 0) := by unfold rupB; rw [if_neg h, if_neg h2]
inductive IsBool (r : Bool) : Ending → Prop
  | mk (r' : Bool) (h : r' = r) : IsBool r (.returned (.bool r'))
set_option maxHeartbeats 2000000 in
set_option maxRecDepth 100000 in
theorem round_any {w : World} {b : Nat} {a : List Int} {dp : Int} {ng tr : Bool} {n i : Nat} (h : D w b a (n : Int) dp ng tr) (hn : Norm a n) (d2 : i ≤ 1000000000) :
    Calls Tryz.prog 112 #[.pointer (some ⟨b, 0, none⟩), .int .i64 (i : Int)] w fun e w' => IsBool (rupB a n i tr) e ∧ w' = w := by
  have c800 := h.nd_
  have c803 := h.tr_
  have hu := Tryz.underlying149
  have H := Lib.hid h; clear h
  have HN := Lib.hid hn; clear hn
  have t1 : decide ((i : Int) < 0) = false := decide_eq_false (by omega)
  by_cases hxn : n ≤ i
  · have t2 : decide (n ≤ i) = true := decide_eq_true hxn
    go_enter Tryz.func112, Tryz.ntmps112
    go_wp2_with fail
    go_ret
    refine ⟨IsBool.mk _ ?_, rfl⟩
    exact (rupB_ge hxn).symm
  · have t2 : decide (n ≤ i) = false := decide_eq_false hxn
    obtain ⟨y, hyy⟩ : ∃ y, y = a.getD i 0 := ⟨_, rfl⟩
    have hy := H.out.d i (by have := HN.out.le; omega)
    rw [← hyy] at hy
    have HYY := Lib.hid hyy; clear hyy
    have i0 : 0 ≤ (i : Int) := by omega
    have i1 : (i : Int) < 800 := by have := HN.out.le; omega
    by_cases hy5 : y = 53
    · have t3 : (y == 53) = true := beq_iff_eq.mpr hy5
      have HY := Lib.hid hy5; clear hy5
      by_cases hin : (i : Int) + 1 = (n : Int)
      · have t4 : ((i : Int) + 1 == (n : Int)) = true := beq_iff_eq.mpr hin
        have HIN := Lib.hid hin; clear hin
        cases tr with
        | true =>
          go_enter Tryz.func112, Tryz.ntmps112
          go_wp2_with fail
          go_ret
          refine ⟨IsBool.mk _ ?_, rfl⟩
          rw [rupB_half hxn (by rw [← HYY.out]; exact HY.out) (by have := HIN.out; omega)]; rfl
        | false =>
          rcases Nat.eq_zero_or_pos i with e | e
          · subst e
            go_enter Tryz.func112, Tryz.ntmps112
            go_wp2_with fail
            go_ret
            refine ⟨IsBool.mk _ ?_, rfl⟩
            rw [rupB_half hxn (by rw [← HYY.out]; exact HY.out) (by have := HIN.out; omega)]; rfl
          · obtain ⟨m, hm⟩ : ∃ m : Nat, (i : Int) - 1 = (m : Int) := ⟨i - 1, by omega⟩
            obtain ⟨z, hzz⟩ : ∃ z, z = a.getD m 0 := ⟨_, rfl⟩
            have hz := H.out.d m (by have := HN.out.le; omega)
            rw [← hzz] at hz
            have HZZ := Lib.hid hzz; clear hzz
            have m0 : 0 ≤ (m : Int) := by omega
            have m1 : (m : Int) < 800 := by omega
            have t5 : decide ((0 : Int) < (i : Int)) = true := decide_eq_true (by omega)
            have t5' : decide (0 < i) = true := decide_eq_true e
            have E := Lib.hid e; clear e
            go_enter Tryz.func112, Tryz.ntmps112
            go_wp2_with fail
            go_ret
            refine ⟨IsBool.mk _ ?_, rfl⟩
            rw [rupB_half hxn (by rw [← HYY.out]; exact HY.out) (by have := HIN.out; omega), Bool.false_or, decide_eq_true E.out, Bool.true_and, Bool.eq_iff_iff, bne_iff_ne, decide_eq_true_eq]
            have em : i - 1 = m := by omega
            have zd := (HN.out.digs m (by have := HIN.out; omega)).1
            rw [← HZZ.out] at zd
            rw [em]; unfold nf; rw [← HZZ.out]; unfold dig; omega
      · have t4 : ((i : Int) + 1 == (n : Int)) = false := beq_eq_false_iff_ne.mpr hin
        have HIN := Lib.hid hin; clear hin
        go_enter Tryz.func112, Tryz.ntmps112
        go_wp2_with fail
        go_ret
        refine ⟨IsBool.mk _ ?_, rfl⟩
        rw [rupB_else hxn (fun h => by have := HIN.out; omega), HYY.out]
    · have t3 : (y == 53) = false := beq_eq_false_iff_ne.mpr hy5
      have HY := Lib.hid hy5; clear hy5
      go_enter Tryz.func112, Tryz.ntmps112
      go_wp2_with fail
      go_ret
      refine ⟨IsBool.mk _ ?_, rfl⟩
      rw [rupB_else hxn (fun h => by have h1 := HY.out; have h2 := HYY.out; omega), HYY.out]
end Go.Proofs.YtjemobfhlfejlaaGreatDoor.Dc
namespace Go.Proofs.YtjemobfhlfejlaaGreatDoor.Dc
open Go Go.RowKit
theorem pf9 {a : List Int} {n : Nat} (h : Norm a n) (j : Nat) : pf a n j ≤ 9 := by
  unfold pf
  split
  · exact h.nf9 j ‹_›
  · omega
theorem pf_lt {a : List Int} {n : Nat} (h : Norm a n) {i : Nat} (hi : i ≤ 18) : dv (pf a n) 0 i < 1000000000000000000 := by
  have := dv_lt (f := pf a n) (i := 0) (c := i) (fun j _ _ => pf9 h j)
  exact Nat.lt_of_lt_of_le this (Nat.pow_le_pow_right (n := 10) (by decide) hi)
set_option maxHeartbeats 2000000 in
set_option maxRecDepth 100000 in
theorem rint_any {w : World} {b : Nat} {a : List Int} {ng tr : Bool} {n p : Nat} (h : D w b a (n : Int) (p : Int) ng tr) (hn : Norm a n) (hp : p ≤ 18) :
    Calls Tryz.prog 106 #[.pointer (some ⟨b, 0, none⟩)] w fun e w' => e = .returned (.int .u64 ((dv (pf a n) 0 p + (rupB a n p tr).toNat : Nat) : Int)) ∧ w' = w := by
  have c801 := h.dp_
  have c800 := h.nd_
  have CT := Lib.hid (round_any (i := p) h hn (by omega))
  obtain ⟨r, hr⟩ : ∃ r, r = rupB a n p tr := ⟨_, rfl⟩
  rw [← hr] at CT ⊢
  clear hr
  have hu := Tryz.underlying149
  have H := Lib.hid h; clear h
  have HN := Lib.hid hn; clear hn
  have p0 : (0 : Int) ≤ (p : Int) := by omega
  have p18 : (p : Int) ≤ 18 := by omega
  have t1 : decide (20 < (p : Int)) = false := decide_eq_false (by omega)
  have t1' : decide (20 < p) = false := decide_eq_false (by omega)
  have n8 := Lib.hid HN.out.le
  go_enter Tryz.func106, Tryz.ntmps106
  go_upto_block 0 with (fail)
  go_cut [3, 4] (fun v3 v4 wc => ∃ (i : Nat), v3 = .int .i64 (i : Int) ∧ v4 = .int .u64 ((dv (pf a n) 0 i : Nat) : Int) ∧ wc = w ∧ Hid (i ≤ p) ∧ Hid (i = p ∨ n ≤ i))
  case first =>
    go_wp2_with fail
    go_loopg [3, 4] p (fun m v3 v4 wc => ∃ (i : Nat), v3 = .int .i64 (i : Int) ∧ v4 = .int .u64 ((dv (pf a n) 0 i : Nat) : Int) ∧ wc = w ∧ Hid (i + m = p))
    case atStart => exact ⟨0, rfl, rfl, rfl, Lib.hid (by omega)⟩
    case round =>
      obtain ⟨i, rfl, rfl, rfl, hi⟩ := hrel
      have i0 : 0 ≤ (i : Int) := by omega
      have i2 : (i : Int) ≤ 18 := by have := hi.out; omega
      obtain ⟨X, hX⟩ : ∃ X : Nat, X = dv (pf a n) 0 i := ⟨_, rfl⟩
      rw [← hX]
      have x1 : (X : Int) < 1000000000000000000 := by have := pf_lt HN.out (i := i) (by omega); omega
      have x0 : 0 ≤ (X : Int) := by omega
      have HX := Lib.hid hX; clear hX
      by_cases c1 : i < p
      · have t2 : decide (i < p) = true := decide_eq_true c1
        have t2' : decide ((i : Int) < (p : Int)) = true := decide_eq_true (by omega)
        by_cases c2 : i < n
        · have t3 : decide (i < n) = true := decide_eq_true c2
          have t3' : decide ((i : Int) < (n : Int)) = true := decide_eq_true (by omega)
          obtain ⟨y, hyy⟩ : ∃ y, y = a.getD i 0 := ⟨_, rfl⟩
          have hy := H.out.d i (by have := n8.out; omega)
          rw [← hyy] at hy
          have y0 : 48 ≤ y := by rw [hyy]; exact (HN.out.digs i c2).1
          have y1 : y ≤ 57 := by rw [hyy]; exact (HN.out.digs i c2).2
          have HY := Lib.hid hyy; clear hyy
          have i1 : (i : Int) < 800 := by have := n8.out; omega
          go_wp2_with fail
          go_roundg (gk - 1)
          case measure => have := hi.out; omega
          case rel => exact ⟨i + 1, rfl, congrArg _ (by rw [dv, Nat.zero_add, ← HX.out]; unfold pf; rw [if_pos c2]; unfold nf; rw [← HY.out]; unfold dig; omega), rfl, Lib.hid (by have := hi.out; omega)⟩
        · have t3 : decide (i < n) = false := decide_eq_false c2
          have t3' : decide ((i : Int) < (n : Int)) = false := decide_eq_false (by omega)
          go_wp2_with fail
          go_meet
          exact ⟨i, rfl, by rw [← HX.out], rfl, Lib.hid (by omega), Lib.hid (by omega)⟩
      · have t2 : decide (i < p) = false := decide_eq_false c1
        have t2' : decide ((i : Int) < (p : Int)) = false := decide_eq_false (by omega)
        go_wp2_with fail
        go_meet
        exact ⟨i, rfl, by rw [← HX.out], rfl, Lib.hid (by have := hi.out; omega), Lib.hid (by have := hi.out; omega)⟩
  case rest =>
    obtain ⟨i, rfl, rfl, rfl, hi, hin⟩ := hcut
    have i00 : 0 ≤ (i : Int) := by omega
    go_wp2_with fail
    go_loopg [3, 4] (p - i) (fun m v3 v4 wd => ∃ (j : Nat), v3 = .int .i64 (j : Int) ∧ v4 = .int .u64 ((dv (pf a n) 0 j : Nat) : Int) ∧ wd = wc ∧ Hid (j + m = p) ∧ Hid (j = p ∨ n ≤ j))
    case atStart => exact ⟨i, rfl, rfl, rfl, Lib.hid (by have := hi.out; omega), hin⟩
    case round =>
      obtain ⟨j, rfl, rfl, rfl, hj, hjn⟩ := hrel
      have j0 : 0 ≤ (j : Int) := by omega
      have j2 : (j : Int) ≤ 18 := by have := hj.out; omega
      obtain ⟨X, hX⟩ : ∃ X : Nat, X = dv (pf a n) 0 j := ⟨_, rfl⟩
      rw [← hX]
      have x1 : (X : Int) < 1000000000000000000 := by have := pf_lt HN.out (i := j) (by omega); omega
      have x0 : 0 ≤ (X : Int) := by omega
      have HX := Lib.hid hX; clear hX
      by_cases c1 : j < p
      · have t2 : decide (j < p) = true := decide_eq_true c1
        have t2' : decide ((j : Int) < (p : Int)) = true := decide_eq_true (by omega)
        go_wp2_with fail
        go_roundg (gk - 1)
        case measure => have := hj.out; omega
        case rel => exact ⟨j + 1, rfl, congrArg _ (by rw [dv, Nat.zero_add, ← HX.out]; unfold pf; rw [if_neg (by have := hjn.out; omega)]; omega), rfl, Lib.hid (by have := hj.out; omega), Lib.hid (by have := hjn.out; omega)⟩
      · have t2 : decide (j < p) = false := decide_eq_false c1
        have t2' : decide ((j : Int) < (p : Int)) = false := decide_eq_false (by omega)
        have ejp : j = p := by have := hj.out; omega
        subst ejp
        cases r with
        | true =>
          go_wp2_with (go_at_call 112; refine CT.out.mono ?_; rintro e w' ⟨⟨r, rfl⟩, rfl⟩)
          go_ret
          exact ⟨by rw [← HX.out]; simp, rfl⟩
        | false =>
          go_wp2_with (go_at_call 112; refine CT.out.mono ?_; rintro e w' ⟨⟨r, rfl⟩, rfl⟩)
          go_ret
          exact ⟨by rw [← HX.out]; rfl, rfl⟩
end Go.Proofs.YtjemobfhlfejlaaGreatDoor.Dc
namespace Go.Proofs.YtjemobfhlfejlaaGreatDoor.Dc
open Go Go.RowKit
def jumps (J : Nat → Act → World → Prop) (Q : Exit → Act → World → Prop) : Exit → Act → World → Prop
  | .goto l, a, w => J l a w
  | e, a, w => Q e a w
theorem scope_labels {P : Program} {a : Act} {w : World} {Q : Exit → Act → World → Prop} {c : Code} (J : Nat → Act → World → Prop)
    (first : c.wp P (jumps J Q) a w)
    (pass : ∀ l a w, J l a w → ∃ rest, findLabel c l = some rest ∧ rest.wp P (jumps (fun l' a' w' => J l' a' w' ∧ l' < l) Q) a w) : (Code.scope c).wp P Q a w := by
  intro b k cs
  have key : ∀ n l a w, l = n → J l a w → ∃ rest, findLabel c l = some rest ∧ ∃ e a' w', Q e a' w' ∧ Arrives P (lone (b.at a (.code rest :: .inScope c :: k)) cs w) b k cs e a' w' := by
    intro n
    induction n using Nat.strongRecOn with
    | _ n ih =>
      intro l a w hn hJ
      obtain ⟨rest, hf, hp⟩ := pass l a w hJ
      refine ⟨rest, hf, ?_⟩
      obtain ⟨e, a₁, w₁, hq, harr⟩ := hp b (.inScope c :: k) cs
      cases e with
      | normal => exact ⟨.normal, a₁, w₁, hq, Steps.trans harr (.one step_inScope)⟩
      | exit id => exact ⟨.exit id, a₁, w₁, hq, fun k' hk => harr k' (by simp [exitTo, hk])⟩
      | goto l' =>
        obtain ⟨hJ', hlt⟩ := hq
        obtain ⟨rest₂, hf₂, e₂, a₂, w₂, hq₂, harr₂⟩ := ih l' (by omega) l' a₁ w₁ rfl hJ'
        exact ⟨e₂, a₂, w₂, hq₂, .of_steps (harr _ (by simp [gotoIn, hf₂])) harr₂⟩
      | ret => exact ⟨_, a₁, w₁, hq, harr⟩
      | panic ch => exact ⟨_, a₁, w₁, hq, harr⟩
      | outgrown => exact ⟨_, a₁, w₁, hq, harr⟩
  obtain ⟨e, a₁, w₁, hq, harr⟩ := first b (.inScope c :: k) cs
  cases e with
  | normal => exact ⟨.normal, a₁, w₁, hq, .head step_scope (Steps.trans harr (.one step_inScope))⟩
  | exit id => exact ⟨.exit id, a₁, w₁, hq, fun k' hk => .head step_scope (harr k' (by simp [exitTo, hk]))⟩
  | goto l' =>
    obtain ⟨rest₂, hf₂, e₂, a₂, w₂, hq₂, harr₂⟩ := key _ l' a₁ w₁ rfl hq
    exact ⟨e₂, a₂, w₂, hq₂, .of_steps (.head step_scope (harr _ (by simp [gotoIn, hf₂]))) harr₂⟩
  | ret => exact ⟨_, a₁, w₁, hq, .of_steps (.one step_scope) harr⟩
  | panic ch => exact ⟨_, a₁, w₁, hq, .of_steps (.one step_scope) harr⟩
  | outgrown => exact ⟨_, a₁, w₁, hq, .of_steps (.one step_scope) harr⟩
theorem list_range (l : List Value) {n : Nat} (h : l.length = n) : l = (List.range n).map fun i => l.getD i undef := by
  apply List.ext_getElem
  · simp [h]
  · intro i h1 h2
    simp [h1]
theorem lit243 (v : Nat → Value) : (List.range 243).map v = [v 0, v 1, v 2, v 3, v 4, v 5, v 6, v 7, v 8, v 9, v 10, v 11, v 12, v 13, v 14, v 15, v 16, v 17, v 18, v 19, v 20, v 21, v 22, v 23, v 24, v 25, v 26, v 27, v 28, v 29, v 30, v 31, v 32, v 33, v 34, v 35, v 36, v 37, v 38, v 39, v 40, v 41, v 42, v 43, v 44, v 45, v 46, v 47, v 48, v 49, v 50, v 51, v 52, v 53, v 54, v 55, v 56, v 57, v 58, v 59, v 60, v 61, v 62, v 63, v 64, v 65, v 66, v 67, v 68, v 69, v 70, v 71, v 72, v 73, v 74, v 75, v 76, v 77, v 78, v 79, v 80, v 81, v 82, v 83, v 84, v 85, v 86, v 87, v 88, v 89, v 90, v 91, v 92, v 93, v 94, v 95, v 96, v 97, v 98, v 99, v 100, v 101, v 102, v 103, v 104, v 105, v 106, v 107, v 108, v 109, v 110, v 111, v 112, v 113, v 114, v 115, v 116, v 117, v 118, v 119, v 120, v 121, v 122, v 123, v 124, v 125, v 126, v 127, v 128, v 129, v 130, v 131, v 132, v 133, v 134, v 135, v 136, v 137, v 138, v 139, v 140, v 141, v 142, v 143, v 144, v 145, v 146, v 147, v 148, v 149, v 150, v 151, v 152, v 153, v 154, v 155, v 156, v 157, v 158, v 159, v 160, v 161, v 162, v 163, v 164, v 165, v 166, v 167, v 168, v 169, v 170, v 171, v 172, v 173, v 174, v 175, v 176, v 177, v 178, v 179, v 180, v 181, v 182, v 183, v 184, v 185, v 186, v 187, v 188, v 189, v 190, v 191, v 192, v 193, v 194, v 195, v 196, v 197, v 198, v 199, v 200, v 201, v 202, v 203, v 204, v 205, v 206, v 207, v 208, v 209, v 210, v 211, v 212, v 213, v 214, v 215, v 216, v 217, v 218, v 219, v 220, v 221, v 222, v 223, v 224, v 225, v 226, v 227, v 228, v 229, v 230, v 231, v 232, v 233, v 234, v 235, v 236, v 237, v 238, v 239, v 240, v 241, v 242] := by kernel_rfl
theorem frame243 (t : Array Value) (h : t.size = 243) : ∃ v : Nat → Value, (∀ i, v i = t.getD i undef) ∧ t = #[v 0, v 1, v 2, v 3, v 4, v 5, v 6, v 7, v 8, v 9, v 10, v 11, v 12, v 13, v 14, v 15, v 16, v 17, v 18, v 19, v 20, v 21, v 22, v 23, v 24, v 25, v 26, v 27, v 28, v 29, v 30, v 31, v 32, v 33, v 34, v 35, v 36, v 37, v 38, v 39, v 40, v 41, v 42, v 43, v 44, v 45, v 46, v 47, v 48, v 49, v 50, v 51, v 52, v 53, v 54, v 55, v 56, v 57, v 58, v 59, v 60, v 61, v 62, v 63, v 64, v 65, v 66, v 67, v 68, v 69, v 70, v 71, v 72, v 73, v 74, v 75, v 76, v 77, v 78, v 79, v 80, v 81, v 82, v 83, v 84, v 85, v 86, v 87, v 88, v 89, v 90, v 91, v 92, v 93, v 94, v 95, v 96, v 97, v 98, v 99, v 100, v 101, v 102, v 103, v 104, v 105, v 106, v 107, v 108, v 109, v 110, v 111, v 112, v 113, v 114, v 115, v 116, v 117, v 118, v 119, v 120, v 121, v 122, v 123, v 124, v 125, v 126, v 127, v 128, v 129, v 130, v 131, v 132, v 133, v 134, v 135, v 136, v 137, v 138, v 139, v 140, v 141, v 142, v 143, v 144, v 145, v 146, v 147, v 148, v 149, v 150, v 151, v 152, v 153, v 154, v 155, v 156, v 157, v 158, v 159, v 160, v 161, v 162, v 163, v 164, v 165, v 166, v 167, v 168, v 169, v 170, v 171, v 172, v 173, v 174, v 175, v 176, v 177, v 178, v 179, v 180, v 181, v 182, v 183, v 184, v 185, v 186, v 187, v 188, v 189, v 190, v 191, v 192, v 193, v 194, v 195, v 196, v 197, v 198, v 199, v 200, v 201, v 202, v 203, v 204, v 205, v 206, v 207, v 208, v 209, v 210, v 211, v 212, v 213, v 214, v 215, v 216, v 217, v 218, v 219, v 220, v 221, v 222, v 223, v 224, v 225, v 226, v 227, v 228, v 229, v 230, v 231, v 232, v 233, v 234, v 235, v 236, v 237, v 238, v 239, v 240, v 241, v 242] := by
  refine ⟨fun i => t.toList.getD i undef, fun i => by simp, ?_⟩
  apply Array.toList_inj.mp
  exact (list_range t.toList (by simpa using h)).trans (lit243 _)
end Go.Proofs.YtjemobfhlfejlaaGreatDoor.Dc
namespace Go.Proofs.YtjemobfhlfejlaaGreatDoor.Dc
open Go Go.RowKit
def powt (j : Nat) : Nat := [1, 3, 6, 9, 13, 16, 19, 23, 26].getD j 27
theorem powt_bd (j : Nat) : 1 ≤ powt j ∧ powt j ≤ 27 := by
  by_cases h : j < 9
  · have : ∀ j : Fin 9, 1 ≤ powt j ∧ powt j ≤ 27 := by decide
    exact this ⟨j, h⟩
  · unfold powt
    rw [List.getD_eq_getElem?_getD, List.getElem?_eq_none (by simp; omega)]
    decide
theorem powt_big {j : Nat} (h : 9 ≤ j) : powt j = 27 := by
  unfold powt
  rw [List.getD_eq_getElem?_getD, List.getElem?_eq_none (by simp; omega)]
  rfl
def dpS (S : S3) : Int := S.e + dlen S.n
def ldS (S : S3) : Nat := S.n / 10 ^ (dlen S.n - 1)
def P1 (t : S3 × Int) : Prop := 0 < dpS t.1
def P2 (t : S3 × Int) : Prop := dpS t.1 < 0 ∨ dpS t.1 = 0 ∧ ldS t.1 < 5
def f1 (t : S3 × Int) : S3 × Int := (cut (t.1.n * 5 ^ powt (dpS t.1).toNat) (t.1.e - powt (dpS t.1).toNat) t.1.t, t.2 + powt (dpS t.1).toNat)
def f2 (t : S3 × Int) : S3 × Int := (cut (t.1.n * 2 ^ powt (-dpS t.1).toNat) t.1.e t.1.t, t.2 - powt (-dpS t.1).toNat)
def it (f : S3 × Int → S3 × Int) (s : S3 × Int) : Nat → S3 × Int
  | 0 => s
  | j + 1 => f (it f s j)
structure Rch (P : S3 × Int → Prop) (f : S3 × Int → S3 × Int) (s t : S3 × Int) (j : Nat) : Prop where
  is : t = it f s j
  run : ∀ i, i < j → P (it f s i)
theorem Rch.refl {P : S3 × Int → Prop} {f : S3 × Int → S3 × Int} {s : S3 × Int} : Rch P f s s 0 := ⟨rfl, fun i h => by omega⟩
theorem Rch.next {P : S3 × Int → Prop} {f : S3 × Int → S3 × Int} {s t : S3 × Int} {j : Nat} (h : Rch P f s t j) (hp : P t) : Rch P f s (f t) (j + 1) :=
  ⟨by rw [it, h.is], fun i hi => by
    rcases Nat.lt_or_ge i j with c | c
    · exact h.run i c
    · rw [show i = j by omega, ← h.is]; exact hp⟩
theorem Rch.uniq {P : S3 × Int → Prop} {f : S3 × Int → S3 × Int} {s t t' : S3 × Int} {j j' : Nat} (h : Rch P f s t j) (hp : ¬ P t) (h' : Rch P f s t' j') (hp' : ¬ P t') : t = t' := by
  rcases Nat.lt_trichotomy j j' with c | c | c
  · exact absurd (by rw [h.is]; exact h'.run j c) hp
  · rw [h.is, h'.is, c]
  · exact absurd (by rw [h'.is]; exact h.run j' c) hp'
def RunTo (S : S3) (t : S3 × Int) : Prop := ∃ t1 j1 j2, Rch P1 f1 (S, 0) t1 j1 ∧ ¬ P1 t1 ∧ j1 ≤ 20000 ∧ Rch P2 f2 t1 t j2 ∧ ¬ P2 t ∧ j2 ≤ 20000
theorem RunTo.uniq {S : S3} {t t' : S3 × Int} (h : RunTo S t) (h' : RunTo S t') : t = t' := by
  obtain ⟨t1, j1, j2, a1, a2, _, a3, a4, _⟩ := h
  obtain ⟨t1', j1', j2', b1, b2, _, b3, b4, _⟩ := h'
  obtain rfl := a1.uniq a2 b1 b2
  exact a3.uniq a4 b3 b4
def ipS (S : S3) : Nat := if 0 ≤ S.e then S.n * 10 ^ S.e.toNat else S.n / 10 ^ (-S.e).toNat
def rupS (S : S3) : Bool := if 0 ≤ S.e then false else if S.n / 10 ^ ((-S.e).toNat - 1) % 10 = 5 ∧ S.e = -1 then (S.t || (decide (0 < dpS S) && decide (S.n / 10 % 10 % 2 ≠ 0))) else decide (5 ≤ S.n / 10 ^ ((-S.e).toNat - 1) % 10)
def rintS (S : S3) : Nat := ipS S + (rupS S).toNat
def DS (a : List Int) (n : Nat) (dp : Int) (tr : Bool) : S3 := ⟨dv (nf a) 0 n, dp - n, tr⟩
theorem DS.dp {a : List Int} {n : Nat} {dp : Int} {tr : Bool} (h : Norm a n) : dpS (DS a n dp tr) = dp := by
  show dp - (n : Int) + (dlen (dv (nf a) 0 n) : Int) = dp
  rw [h.len]; omega
theorem DS.ld {a : List Int} {n : Nat} {dp : Int} {tr : Bool} (h : Norm a n) : ldS (DS a n dp tr) = nf a 0 := by
  show dv (nf a) 0 n / 10 ^ (dlen (dv (nf a) 0 n) - 1) = nf a 0
  rw [h.len, ← dv_pre (fun k _ hk => h.nf9 k (by omega)) h.pos, dv, dv, Nat.zero_add]
theorem DS.ip {a : List Int} {n p : Nat} {tr : Bool} (h : Norm a n) : ipS (DS a n p tr) = dv (pf a n) 0 p := by
  show (if 0 ≤ (p : Int) - n then dv (nf a) 0 n * 10 ^ ((p : Int) - n).toNat else dv (nf a) 0 n / 10 ^ (-((p : Int) - n)).toNat) = _
  by_cases c : n ≤ p
  · rw [if_pos (by omega)]
    have := pf_out (a := a) (n := n) (p - n)
    rw [show n + (p - n) = p by omega] at this
    rw [this, show ((p : Int) - n).toNat = p - n by omega]
  · rw [if_neg (by omega), pf_in (by omega), dv_pre (i := 0) (n := n) (j := p) (fun k _ hk => h.nf9 k (by omega)) (by omega), show (-((p : Int) - n)).toNat = n - p by omega]
theorem DS.rup {a : List Int} {n p : Nat} {tr : Bool} (h : Norm a n) : rupS (DS a n p tr) = rupB a n p tr := by
  unfold rupS
  by_cases c : n ≤ p
  · rw [rupB_ge c, if_pos (show 0 ≤ (DS a n p tr).e by show 0 ≤ (p : Int) - n; omega)]
  · have hd := dv_dig (f := nf a) (n := n) (j := p) (fun k hk => h.nf9 k hk) (by omega)
    have hdig := h.digs p (by omega)
    have e1 : (-(DS a n p tr).e).toNat - 1 = n - 1 - p := by show (-((p : Int) - n)).toNat - 1 = _; omega
    have e2 : (DS a n p tr).n = dv (nf a) 0 n := rfl
    have e3 : (DS a n p tr).e = (p : Int) - n := rfl
    have e4 : (DS a n p tr).t = tr := rfl
    have e5 : nf a p = dig (a.getD p 0) := rfl
    have e6 : dig (a.getD p 0) = (a.getD p 0 - 48).toNat := rfl
    unfold IsDig at hdig
    rw [if_neg (show ¬ 0 ≤ (DS a n p tr).e by show ¬ 0 ≤ (p : Int) - n; omega), DS.dp h, e1, e2, ← hd, e3, e4]
    by_cases c2 : a.getD p 0 = 53 ∧ p + 1 = n
    · rw [rupB_half c c2.1 c2.2, if_pos ⟨by rw [e5, e6, c2.1]; rfl, by omega⟩]
      congr 1
      rcases Nat.eq_zero_or_pos p with z | z
      · subst z; rfl
      · rw [show decide ((0 : Int) < (p : Int)) = decide (0 < p) from decide_eq_decide.mpr (by omega)]
        congr 1
        have hd2 := dv_dig (f := nf a) (n := n) (j := p - 1) (fun k hk => h.nf9 k hk) (by omega)
        rw [show n - 1 - (p - 1) = 1 by omega, Nat.pow_one] at hd2
        rw [← hd2]
    · rw [rupB_else c c2, if_neg (fun hh => c2 ⟨by have := hh.1; rw [e5, e6] at this; omega, by have := hh.2; omega⟩), decide_eq_decide, e5, e6]
      omega
theorem DS.rint {a : List Int} {n p : Nat} {tr : Bool} (h : Norm a n) : dv (pf a n) 0 p + (rupB a n p tr).toNat = rintS (DS a n p tr) := by
  unfold rintS
  rw [DS.ip h, DS.rup h]
def fbR (t : S3 × Int) (ng : Bool) : Nat := (t.2 + 1021).toNat * 2 ^ 52 + rintS (cut (t.1.n * 2 ^ 53) t.1.e t.1.t) + (if ng then 2 ^ 63 else 0)
structure Good (t : S3 × Int) : Prop where
  x0 : -1000 ≤ t.2
  x1 : t.2 ≤ 1000
  d0 : 1 ≤ dpS (cut (t.1.n * 2 ^ 53) t.1.e t.1.t)
  d1 : dpS (cut (t.1.n * 2 ^ 53) t.1.e t.1.t) ≤ 18
  m0 : 2 ^ 52 ≤ rintS (cut (t.1.n * 2 ^ 53) t.1.e t.1.t)
  m1 : rintS (cut (t.1.n * 2 ^ 53) t.1.e t.1.t) ≤ 2 ^ 53
end Go.Proofs.YtjemobfhlfejlaaGreatDoor.Dc
