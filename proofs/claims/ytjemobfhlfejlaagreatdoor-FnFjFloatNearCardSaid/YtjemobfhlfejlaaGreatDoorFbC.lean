/- Walks and plain laws on the way to FnFjFloatNear. No condition but what each lemma states. -/
import Derived.Test.YtjemobfhlfejlaaGreatDoorFbB
import Derived.IntWalk
import Derived.Laws.BitsLemmas
set_option linter.unusedVariables false
set_option linter.unusedSimpArgs false
namespace Go.Proofs.YtjemobfhlfejlaaGreatDoor.Dc
open Go Go.RowKit
structure Head (a : List Int) (k n r q : Nat) : Prop where
  is : q = dv (nf a) 0 r
  none_ : r = 0 → q = 0
  some_ : 1 ≤ r → 1 ≤ q
  lt : q < 10 * 2 ^ k
  one : r = 1 → q = dig (a.getD 0 0)
theorem pow60 {k : Nat} (h : k ≤ 60) : 2 ^ k ≤ 2 ^ 60 := Nat.pow_le_pow_right (by decide) h
theorem shr0 {q k : Nat} : (((q : Int) / 2 ^ k == 0) = true) ↔ q < 2 ^ k := by
  rw [beq_iff_eq, show ((2 : Int) ^ k) = ((2 ^ k : Nat) : Int) by simp, ← Int.natCast_ediv]
  have hp : 0 < 2 ^ k := Nat.pow_pos (by decide)
  constructor
  · intro h
    have : q / 2 ^ k = 0 := by omega
    exact (Nat.div_eq_zero_iff_lt hp).mp this
  · intro h
    rw [Nat.div_eq_of_lt h]; rfl
theorem Head.next {a : List Int} {k n r q : Nat} {x : Int} (h : Head a k n r q) (hq : q < 2 ^ k) (hx : x = a.getD r 0) (hd : IsDig x) (hl : 49 ≤ a.getD 0 0) : Head a k n (r + 1) (q * 10 + dig x) := by
  have h9 := dig_lt hd
  have hl1 : r = 0 → 1 ≤ dig x := fun e => by rw [e] at hx; unfold dig; omega
  refine ⟨by rw [dv, Nat.zero_add, ← h.is]; unfold nf; rw [← hx], fun h => by omega, fun _ => ?_, by omega, fun e => ?_⟩
  · rcases Nat.eq_zero_or_pos r with e | e
    · have := hl1 e; omega
    · have := h.some_ e; omega
  · have e0 : r = 0 := by omega
    have := h.none_ e0
    rw [this, hx, e0]; omega
theorem wraps_u64 (n : Int) (h₀ : 0 ≤ n) (h₁ : n < 2 ^ 64) : IntKind.u64.wrap n = n := IntWalk.u64_in _ (by omega)
theorem and_mask {q k : Nat} (hk : k ≤ 60) (hq : q < 2 ^ 64) : bits .and .u64 (q : Int) ((2 : Int) ^ k - 1) = ((q % 2 ^ k : Nat) : Int) := by
  have h := bits_mask .u64 64 (by decide) wraps_u64 k (by omega) (q : Int) (by omega) (by omega)
  rw [h]
  simp
theorem div_cast (q k : Nat) : (q : Int) / 2 ^ k = ((q / 2 ^ k : Nat) : Int) := by simp
theorem div_nine {q k : Nat} (h : q < 10 * 2 ^ k) : q / 2 ^ k ≤ 9 := by
  have hp := Nat.pow_pos (n := k) (show 0 < 2 by omega)
  have : q / 2 ^ k < 10 := (Nat.div_lt_iff_lt_mul hp).mpr h
  omega
theorem div_b {q k : Nat} (h : q < 10 * 2 ^ k) : 0 ≤ (q : Int) / 2 ^ k ∧ (q : Int) / 2 ^ k ≤ 9 := by
  rw [div_cast]
  exact ⟨Int.natCast_nonneg _, by exact_mod_cast div_nine h⟩
theorem getD_set (l : List Int) (x i : Nat) (v : Int) (h : x < l.length) : (l.set x v).getD i 0 = if i = x then v else l.getD i 0 := by
  simp only [List.getD_eq_getElem?_getD, List.getElem?_set]
  by_cases e : x = i
  · subst e; simp [h]
  · rw [if_neg e, if_neg (fun h => e h.symm)]
def pf (a : List Int) (n i : Nat) : Nat := if i < n then nf a i else 0
theorem pf_in {a : List Int} {n r : Nat} (h : r ≤ n) : dv (pf a n) 0 r = dv (nf a) 0 r := dv_congr (fun j _ hj => by unfold pf; rw [if_pos (by omega)])
theorem pf_out {a : List Int} {n : Nat} (j : Nat) : dv (pf a n) 0 (n + j) = dv (nf a) 0 n * 10 ^ j := by
  induction j with
  | zero => rw [Nat.add_zero, pf_in (Nat.le_refl _), Nat.pow_zero, Nat.mul_one]
  | succ j ih => rw [← Nat.add_assoc, dv, ih, Nat.zero_add, Nat.pow_succ, Nat.mul_assoc]; unfold pf; rw [if_neg (by omega), Nat.add_zero]
theorem nf_set {a : List Int} {x : Nat} {v : Int} (h : x < a.length) : dv (nf (a.set x v)) 0 (x + 1) = dv (nf a) 0 x * 10 + dig v := by
  rw [dv, Nat.zero_add]
  have e1 : nf (a.set x v) x = dig v := by unfold nf; rw [getD_set _ _ _ _ h, if_pos rfl]
  rw [e1, dv_congr (g := nf a) (fun j _ hj => by unfold nf; rw [getD_set _ _ _ _ h, if_neg (by omega)])]
theorem dig_put (q : Nat) (k : Nat) : dig ((q : Int) / 2 ^ k + 48) = q / 2 ^ k := by unfold dig; rw [div_cast, Int.add_sub_cancel]; exact Int.toNat_natCast _
theorem step_is {A q k c P : Nat} (h : P = 10 * 2 ^ k * A + q) : P * 10 + c = 10 * 2 ^ k * (A * 10 + q / 2 ^ k) + (q % 2 ^ k * 10 + c) := by
  have e := Nat.div_add_mod q (2 ^ k)
  generalize q / 2 ^ k = u at *
  generalize q % 2 ^ k = v at *
  generalize 2 ^ k = K at *
  have e1 : 10 * K * (A * 10 + u) = 10 * K * A * 10 + 10 * (K * u) := by rw [Nat.mul_add, Nat.mul_assoc (10 * K), Nat.mul_assoc 10 K u]
  omega
structure Mid (a a' : List Int) (k n q r' x q' : Nat) : Prop where
  is : dv (pf a n) 0 r' = 10 * 2 ^ k * dv (nf a') 0 x + q'
  ql : q' < 10 * 2 ^ k
  q0 : x = 0 → q' = q
  rest : ∀ i, x ≤ i → a'.getD i 0 = a.getD i 0
  digs : ∀ i, i < x → IsDig (a'.getD i 0)
  lead : 1 ≤ x → a'.getD 0 0 = 48 + ((q / 2 ^ k : Nat) : Int)
  x8 : x ≤ 800
theorem Mid.put {a a' : List Int} {k n q r' x q' c : Nat} (h : Mid a a' k n q r' x q') (hl : a'.length = 800) (hx : x < 800) (hf : q' % 2 ^ k * 10 + c < 10 * 2 ^ k) (hr : r' < n) (hc : c = nf a r') : Mid a (a'.set x ((q' : Int) / 2 ^ k + 48)) k n q (r' + 1) (x + 1) (q' % 2 ^ k * 10 + c) := by
  have h9 := div_nine h.ql
  have hp : pf a n r' = c := by unfold pf; rw [if_pos hr, hc]
  refine ⟨by rw [nf_set (by omega), dv, Nat.zero_add, hp, dig_put]; exact step_is h.is, hf, fun e => by omega, fun i hi => ?_, fun i hi => ?_, fun _ => ?_, by omega⟩
  · rw [getD_set _ _ _ _ (by omega), if_neg (by omega)]; exact h.rest i (by omega)
  · rw [getD_set _ _ _ _ (by omega)]
    by_cases e : i = x
    · rw [if_pos e]; have := div_b h.ql; unfold IsDig; omega
    · rw [if_neg e]; exact h.digs i (by omega)
  · rw [getD_set _ _ _ _ (by omega)]
    by_cases e : 0 = x
    · rw [if_pos e, div_cast, h.q0 e.symm, Int.add_comm]
    · rw [if_neg e]; exact h.lead (by omega)
structure Twos (k q' m : Nat) : Prop where
  is : (q' = 0 ∧ m = 0) ∨ ∃ j, j ≤ k ∧ 2 ^ j ∣ q' ∧ m = k + 1 - j
theorem Twos.next {k q' m : Nat} (h : Twos k q' m) (hq : 1 ≤ q') : ∃ m', m' < m ∧ Twos k (q' % 2 ^ k * 10) m' := by
  rcases h.is with ⟨h1, _⟩ | ⟨j, h1, h2, h3⟩
  · omega
  · have h4 : 2 ^ j ∣ q' % 2 ^ k := (Nat.dvd_mod_iff (Nat.pow_dvd_pow 2 h1)).mpr h2
    by_cases h0 : q' % 2 ^ k * 10 = 0
    · exact ⟨0, by omega, ⟨.inl ⟨h0, rfl⟩⟩⟩
    · have hj : j < k := by
        rcases Nat.lt_or_ge j k with e | e
        · exact e
        · have e2 : j = k := by omega
          rw [e2] at h2
          have := Nat.mod_eq_zero_of_dvd h2
          omega
      refine ⟨k - j, by omega, ⟨.inr ⟨j + 1, by omega, ?_, by omega⟩⟩⟩
      rw [Nat.pow_succ]
      exact Nat.mul_dvd_mul h4 (by decide)
structure Rest (a a' : List Int) (k n r x y dr q' : Nat) (tr tr' : Bool) : Prop where
  is : dv (pf a n) 0 (r + x + y) = 10 * 2 ^ k * (dv (nf a') 0 x * 10 ^ y + dr) + q'
  ge : n ≤ r + x + y
  lt : dr < 10 ^ y
  full : 1 ≤ y → x = 800
  trunc : tr' = (tr || decide (dr ≠ 0))
theorem Rest.put {a a' : List Int} {k n r x y dr q' : Nat} {tr tr' : Bool} (h : Rest a a' k n r x y dr q' tr tr') (hl : a'.length = 800) (hx : x < 800) : Rest a (a'.set x ((q' : Int) / 2 ^ k + 48)) k n r (x + 1) 0 0 (q' % 2 ^ k * 10) tr tr' := by
  have y0 : y = 0 := by rcases Nat.eq_zero_or_pos y with e | e; exact e; have := h.full e; omega
  subst y0
  have d0 : dr = 0 := by have := h.lt; simp at this; exact this
  subst d0
  have h1 := h.is
  have h2 := h.ge
  have hp : pf a n (r + x) = 0 := by unfold pf; rw [if_neg (by omega)]
  refine ⟨?_, by omega, by decide, fun e => by omega, h.trunc⟩
  simp only [Nat.pow_zero, Nat.mul_one, Nat.add_zero] at h1 ⊢
  rw [← Nat.add_assoc, dv, Nat.zero_add, hp, nf_set (by omega), dig_put]
  exact step_is h1
theorem Rest.drop {a a' : List Int} {k n r x y dr q' : Nat} {tr tr' : Bool} (h : Rest a a' k n r x y dr q' tr tr') (hq : q' < 10 * 2 ^ k) (hx : x = 800) : Rest a a' k n r x (y + 1) (dr * 10 + q' / 2 ^ k) (q' % 2 ^ k * 10) tr (tr' || decide (0 < q' / 2 ^ k)) := by
  have h9 := div_nine hq
  have h1 := h.is
  have h2 := h.ge
  have h3 := h.lt
  have hp : pf a n (r + x + y) = 0 := by unfold pf; rw [if_neg (by omega)]
  refine ⟨?_, by omega, by rw [Nat.pow_succ]; omega, fun _ => hx, ?_⟩
  · rw [← Nat.add_assoc, dv, Nat.zero_add, hp, Nat.pow_succ, ← Nat.mul_assoc, show dv (nf a') 0 x * 10 ^ y * 10 + (dr * 10 + q' / 2 ^ k) = (dv (nf a') 0 x * 10 ^ y + dr) * 10 + q' / 2 ^ k by rw [Nat.add_mul, Nat.add_assoc]]
    exact step_is h1
  · rw [h.trunc, Bool.or_assoc]
    congr 1
    rw [Bool.eq_iff_iff]
    generalize q' / 2 ^ k = u
    simp only [Bool.or_eq_true, decide_eq_true_eq]
    omega
theorem Rest.cut {a a' : List Int} {k n r x y dr m : Nat} {tr tr' : Bool} {dp : Int} (h : Rest a a' k n r x y dr 0 tr tr') (hN : Norm a n) (hx : Norm a' x) (hm : m ≤ x) (e1 : dv (nf a') 0 x = dv (nf a') 0 m * 10 ^ (x - m)) (e2 : dv (nf a') 0 m % 10 ≠ 0) :
    (⟨dv (nf a') 0 m, dp - ((r : Int) - 1) - m, tr'⟩ : S3) = cut (dv (nf a) 0 n * 5 ^ k) (dp - n - k) tr := by
  obtain ⟨A, hA⟩ : ∃ A, A = dv (nf a') 0 x * 10 ^ y + dr := ⟨_, rfl⟩
  have px := hx.pos
  have lo := hx.lo
  have hi := hx.hi
  have p1 := p10 (x - 1)
  have p2 := p10 y
  have hlt := h.lt
  have h1 := h.is
  have hxp : dv (nf a') 0 x ≠ 0 := by omega
  have A0 : A ≠ 0 := by
    have : 1 * 10 ^ y ≤ dv (nf a') 0 x * 10 ^ y := Nat.mul_le_mul_right _ (by omega)
    omega
  have ln : dlen A = x + y := by
    apply dlen_is (by omega)
    · rw [show x + y - 1 = x - 1 + y by omega, Nat.pow_add]
      have := Nat.mul_le_mul_right (10 ^ y) lo
      omega
    · have := Nat.mul_le_mul_right (10 ^ y) (show dv (nf a') 0 x + 1 ≤ 10 ^ x by omega)
      rw [Nat.add_mul, Nat.one_mul] at this
      rw [Nat.pow_add]; omega
  have x8 := hx.le
  have ht : y = dlen A - 800 := by
    rw [ln]
    rcases Nat.eq_zero_or_pos y with e | e
    · omega
    · have := h.full e; omega
  have hd : A / 10 ^ y = dv (nf a') 0 m * 10 ^ (x - m) := by rw [hA, Nat.add_comm, Nat.add_mul_div_right _ _ p2, Nat.div_eq_of_lt hlt, Nat.zero_add, e1]
  have hmod : A % 10 ^ y = dr := by rw [hA, Nat.add_comm, Nat.add_mul_mod_self_right, Nat.mod_eq_of_lt hlt]
  have N0 : dv (nf a) 0 n ≠ 0 := by have := hN.lo; have := p10 (n - 1); omega
  have M0 : dv (nf a) 0 n * 5 ^ k ≠ 0 := Nat.mul_ne_zero N0 (by have := Nat.pow_pos (n := k) (show 0 < 5 by decide); omega)
  have hR : dv (pf a n) 0 (r + x + y) = dv (nf a) 0 n * 10 ^ (r + x + y - n) := by
    have := pf_out (a := a) (n := n) (r + x + y - n)
    rwa [show n + (r + x + y - n) = r + x + y by have := h.ge; omega] at this
  have key : A * 10 ^ (k + 1) = dv (nf a) 0 n * 5 ^ k * 10 ^ (r + x + y - n) := by
    rw [hR, ← hA, Nat.add_zero] at h1
    rw [Nat.mul_right_comm, h1, Nat.pow_succ, ← two_five]
    ac_rfl
  have hc := cut_is (M := A) (t := y) (z := x - m) (dp - ((r : Int) - 1) - x - y) tr ht e2 hd
  have hs := cut_same (x := r + x + y - n) (y := k + 1) M0 A0 (dp - n - k) (dp - ((r : Int) - 1) - x - y) tr key (by have := h.ge; omega)
  rw [← hs, hc, hmod]
  apply S3.ext'
  · rfl
  · show dp - ((r : Int) - 1) - (m : Int) = dp - ((r : Int) - 1) - (x : Int) - (y : Int) + (y : Int) + ((x - m : Nat) : Int)
    omega
  · exact h.trunc
def Right (w' : World) (b : Nat) (a : List Int) (n k : Nat) (dp : Int) (ng tr : Bool) : Prop := ∃ (a' : List Int) (m : Nat) (dp' : Int) (tr' : Bool), Norm a' m ∧ D w' b a' (m : Int) dp' ng tr' ∧ dp' ≤ dp ∧ dp - 1000 ≤ dp' ∧ (dp' = dp → a'.getD 0 0 < a.getD 0 0) ∧ (⟨dv (nf a') 0 m, dp' - m, tr'⟩ : S3) = cut (dv (nf a) 0 n * 5 ^ k) (dp - n - k) tr
set_option maxHeartbeats 2000000 in
set_option maxRecDepth 100000 in
theorem right_any {w : World} {b : Nat} {a : List Int} {dp : Int} {ng tr : Bool} {n k : Nat} (h : D w b a (n : Int) dp ng tr) (hn : Norm a n) (k1 : 1 ≤ k) (k2 : k ≤ 60) (d1 : -1000000000 ≤ dp) (d2 : dp ≤ 1000000000) :
    Calls Tryz.prog 111 #[.pointer (some ⟨b, 0, none⟩), .int .u64 (k : Int)] w fun e w' => e = .returned (.tuple #[]) ∧ Right w' b a n k dp ng tr ∧ Below b w w' := by
  have H := Lib.hid h; clear h
  have HN := Lib.hid hn; clear hn
  have hu := Tryz.underlying149
  have kk0 : 0 ≤ (k : Int) := by omega
  have kk1 : (k : Int) ≤ 60 := by omega
  have hk := Lib.hid (pow60 k2)
  have n0 := Lib.hid HN.out.le
  go_enter Tryz.func111, Tryz.ntmps111
  go_upto_block 0 with (fail)
  go_cut [4, 6] (fun v4 v6 wc => ∃ r q : Nat, v4 = .int .i64 (r : Int) ∧ v6 = .int .u64 (q : Int) ∧ Hid (1 ≤ r) ∧ Hid (r ≤ 1000) ∧ Hid (2 ^ k ≤ q) ∧ Hid (q < 10 * 2 ^ k) ∧ Hid (r = 1 → q = dig (a.getD 0 0)) ∧ Hid (q = dv (pf a n) 0 r) ∧ Hid (D wc b a (n : Int) dp ng tr) ∧ Hid (Below b w wc))
  case first =>
    go_wp2_with fail
    go_loopg [4, 6, 7] n (fun m v4 v6 v7 w' => ∃ r q : Nat, r + m = n ∧ v4 = .int .i64 (r : Int) ∧ v6 = .int .u64 (q : Int) ∧ Hid (Head a k n r q) ∧ Hid (D w' b a (n : Int) dp ng tr) ∧ Hid (Below b w w'))
    case atStart => exact ⟨0, 0, by omega, rfl, rfl, Lib.hid ⟨rfl, fun _ => rfl, fun h => by omega, by have := Nat.pow_pos (n := k) (show 0 < 2 by omega); omega, fun h => by omega⟩, H, Lib.hid (Below.refl _ _)⟩
    case round =>
      obtain ⟨r, q, hr, rfl, rfl, hh, hD, hB⟩ := hrel
      have c800 := hD.out.nd_
      have i0 : 0 ≤ (r : Int) := by omega
      have i1 : 0 ≤ (q : Int) := by omega
      by_cases hq : q < 2 ^ k
      · have t : ((q : Int) / 2 ^ k == 0) = true := shr0.mpr hq
        have hQ := Lib.hid hq; clear hq
        by_cases hrn : r < n
        · obtain ⟨x, hx⟩ : ∃ x, x = a.getD r 0 := ⟨_, rfl⟩
          have cdig := hD.out.d r (by have := n0.out; omega)
          rw [← hx] at cdig
          have hX := Lib.hid hx; clear hx
          have t1 : decide (n ≤ r) = false := decide_eq_false (by omega)
          have i2 : (r : Int) < 800 := by have := n0.out; omega
          have x0 : 48 ≤ x := by rw [hX.out]; exact (HN.out.digs r hrn).1
          have x1 : x ≤ 57 := by rw [hX.out]; exact (HN.out.digs r hrn).2
          have q1 : (q : Int) ≤ 1152921504606846976 := by have := hk.out; have := hQ.out; omega
          go_wp2_with fail
          go_roundg (gk - 1)
          case measure => omega
          case rel =>
            have hx : IsDig x := ⟨x0, x1⟩
            exact ⟨r + 1, q * 10 + dig x, by omega, rfl, congrArg _ (by unfold dig; omega), Lib.hid (hh.out.next hQ.out hX.out hx HN.out.lead), hD, hB⟩
        · have hrn' : r = n := by omega
          subst hrn'
          have t1 : decide (r ≤ r) = true := decide_eq_true (Nat.le_refl _)
          have qp : 1 ≤ q := hh.out.some_ HN.out.pos
          have t2 : ((q : Int) == 0) = false := beq_eq_false_iff_ne.mpr (by omega)
          go_wp2_with fail
          go_loopg [4, 6] (10 * 2 ^ k - q) (fun m v4 v6 w' => ∃ j q' : Nat, q' + m = 10 * 2 ^ k ∧ v4 = .int .i64 ((r : Int) + (j : Int)) ∧ v6 = .int .u64 (q' : Int) ∧ Hid (10 ^ j ≤ q') ∧ Hid (j = 0 → q' = q) ∧ Hid (q' = dv (pf a r) 0 (r + j)) ∧ Hid (q' < 10 * 2 ^ k) ∧ Hid (D w' b a (r : Int) dp ng tr) ∧ Hid (Below b w w'))
          case atStart => exact ⟨0, q, by have := hh.out.lt; omega, congrArg _ (by omega), rfl, Lib.hid (by simpa using qp), Lib.hid (fun _ => rfl), Lib.hid (by rw [Nat.add_zero, pf_in (Nat.le_refl _)]; exact hh.out.is), Lib.hid hh.out.lt, hD, hB⟩
          case round =>
            obtain ⟨j, q', hm, rfl, rfl, hj, hj0, hpf, hlt, hD, hB⟩ := hrel
            have j20 : j < 20 := by
              have h1 := hj.out
              have h2 := hlt.out
              have h3 := hk.out
              exact (Nat.pow_lt_pow_iff_right (show 1 < 10 by omega)).mp (Nat.lt_of_le_of_lt h1 (Nat.lt_of_lt_of_le h2 (show 10 * 2 ^ k ≤ 10 ^ 20 by omega)))
            have qp : 1 ≤ q' := Nat.le_trans (Nat.pow_pos (by decide)) hj.out
            have j0 : 0 ≤ (j : Int) := by omega
            have j1 : (j : Int) < 20 := by omega
            have r1 : (r : Int) ≤ 800 := by have := n0.out; omega
            have q0 : 0 ≤ (q' : Int) := by omega
            by_cases hq' : q' < 2 ^ k
            · have t3 : ((q' : Int) / 2 ^ k == 0) = true := shr0.mpr hq'
              have q1 : (q' : Int) ≤ 1152921504606846976 := by have := hk.out; omega
              have hQ' := Lib.hid hq'; clear hq'
              go_wp2_with fail
              go_roundg (10 * 2 ^ k - 10 * q')
              case measure => have := hQ'.out; omega
              case rel =>
                have h1 := hj.out
                have h2 := hQ'.out
                exact ⟨j + 1, q' * 10, by omega, congrArg _ (by omega), congrArg _ (by omega), Lib.hid (by rw [Nat.pow_succ]; omega), Lib.hid (fun h => by omega), Lib.hid (by rw [← Nat.add_assoc, dv, Nat.zero_add, ← hpf.out]; unfold pf; rw [if_neg (by omega), Nat.add_zero]), Lib.hid (by omega), hD, hB⟩
            · have t3 : ((q' : Int) / 2 ^ k == 0) = false := by rw [Bool.eq_false_iff]; exact fun h => hq' (shr0.mp h)
              have hQ' := Lib.hid (Nat.le_of_not_lt hq'); clear hq'
              go_wp2_with fail
              go_meet
              have jp : 1 ≤ j := by
                rcases Nat.eq_zero_or_pos j with e | e
                · have h1 := hj0.out e
                  have h2 := hQ'.out
                  have h3 := hQ.out
                  omega
                · exact e
              have rp := HN.out.pos
              exact ⟨r + j, q', congrArg _ (by omega), rfl, Lib.hid (by omega), Lib.hid (by have := n0.out; omega), hQ', hlt, Lib.hid (fun h => by omega), hpf, hD, hB⟩
      · have t : ((q : Int) / 2 ^ k == 0) = false := by rw [Bool.eq_false_iff]; exact fun h => hq (shr0.mp h)
        have hQ := Lib.hid (Nat.le_of_not_lt hq); clear hq
        go_wp2_with fail
        go_meet
        have rp : 1 ≤ r := by
          rcases Nat.eq_zero_or_pos r with e | e
          · have h1 := hh.out.none_ e
            have h2 := hQ.out
            have h3 := Nat.pow_pos (n := k) (show 0 < 2 by omega)
            omega
          · exact e
        exact ⟨r, q, rfl, rfl, Lib.hid rp, Lib.hid (by have := n0.out; omega), hQ, Lib.hid hh.out.lt, Lib.hid hh.out.one, Lib.hid (by rw [pf_in (by omega)]; exact hh.out.is), hD, hB⟩
  case rest =>
    obtain ⟨r, q, rfl, rfl, hr1, hr2, hq1, hq2, hone, hqp, hD, hB⟩ := hcut
    have c801 := hD.out.dp_
    have fr := hD.out.free 801
    have r0 : 0 ≤ (r : Int) := by omega
    have r1 : (r : Int) ≤ 1000 := by have := hr2.out; omega
    have P : ∃ p : Nat, p = 2 ^ k := ⟨_, rfl⟩
    have m1 : IntKind.u64.wrap ((2 : Int) ^ k) = (2 : Int) ^ k := by
      have h1 := hk.out
      have h2 := Nat.pow_pos (n := k) (show 0 < 2 by omega)
      rw [show ((2 : Int) ^ k) = ((2 ^ k : Nat) : Int) by simp]
      exact IntWalk.u64_in _ (by omega)
    have m2 : IntKind.u64.wrap ((2 : Int) ^ k - 1) = (2 : Int) ^ k - 1 := by
      have h1 := hk.out
      have h2 := Nat.pow_pos (n := k) (show 0 < 2 by omega)
      rw [show ((2 : Int) ^ k) = ((2 ^ k : Nat) : Int) by simp]
      exact IntWalk.u64_in _ (by omega)
    go_wp2_with fail
    clear m1 m2
    go_outline
    go_loopg [4, 5, 6] (n - r) (fun m v4 v5 v6 w' => ∃ (r' x q' : Nat) (a' : List Int), m = n - r' ∧ Hid (r' = r + x) ∧ v4 = .int .i64 (r' : Int) ∧ v5 = .int .i64 (x : Int) ∧ v6 = .int .u64 (q' : Int) ∧ Hid (x < r') ∧ Hid (r' ≤ 1000) ∧ Hid (Mid a a' k n q r' x q') ∧ Hid (D w' b a' (n : Int) (dp - ((r : Int) - 1)) ng tr) ∧ Hid (Below b w w'))
    case atStart => exact ⟨r, 0, q, a, rfl, Lib.hid rfl, rfl, rfl, rfl, Lib.hid (by have := hr1.out; omega), hr2, Lib.hid ⟨by rw [← hqp.out, dv, Nat.mul_zero, Nat.zero_add], hq2.out, fun _ => rfl, fun _ _ => rfl, fun i hi => by omega, fun h => by omega, by omega⟩, Lib.hid (hD.out.set_dp _), Lib.hid (hB.out.setCell (Nat.le_refl _) _)⟩
    case round =>
      obtain ⟨r', x, q', a', hm, hrx, rfl, rfl, rfl, hx, hr', hM, hD, hB⟩ := hrel
      have c800 := hD.out.nd_
      have s0 : 0 ≤ (r' : Int) := by omega
      have s1 : (r' : Int) ≤ 1000 := by have := hr'.out; omega
      have s2 : 0 ≤ (x : Int) := by omega
      have e0 : 0 ≤ (q' : Int) := by omega
      have dv0 := (div_b hM.out.ql).1
      have dv9 := (div_b hM.out.ql).2
      by_cases hrn : r' < n
      · have t1 : decide (r' < n) = true := decide_eq_true hrn
        obtain ⟨y, hy⟩ : ∃ y, y = a'.getD r' 0 := ⟨_, rfl⟩
        have cdig := hD.out.d r' (by have := n0.out; omega)
        rw [← hy] at cdig
        have hY := Lib.hid (hy.trans (hM.out.rest r' (by have := hx.out; omega))); clear hy
        have i2 : (r' : Int) < 800 := by have := n0.out; omega
        have i3 : (x : Int) < 800 := by have := hx.out; omega
        have frx := hD.out.free x
        obtain ⟨z, hz⟩ : ∃ z, wr.cell? ⟨b, x, none⟩ = some (.int .u8 z) := ⟨_, hD.out.d x (by have := hx.out; have := n0.out; omega)⟩
        obtain ⟨f, hf⟩ : ∃ f : Nat, f = q' % 2 ^ k := ⟨_, rfl⟩
        have ba : bits .and .u64 (q' : Int) ((2 : Int) ^ k - 1) = (f : Int) := by rw [hf]; exact and_mask k2 (by have := hM.out.ql; have := hk.out; omega)
        have fk : Hid (f < 2 ^ k) := Lib.hid (by rw [hf]; exact Nat.mod_lt q' (Nat.pow_pos (n := k) (show 0 < 2 by omega)))
        have HF := Lib.hid hf
        clear hf
        have f0 : 0 ≤ (f : Int) := by omega
        have f1 : (f : Int) ≤ 1152921504606846976 := by have := fk.out; have := hk.out; omega
        have yd : Hid (IsDig y) := Lib.hid (by rw [hY.out]; exact HN.out.digs r' hrn)
        have y0 : 48 ≤ y := yd.out.1
        have y1 : y ≤ 57 := yd.out.2
        go_wp2_with fail
        go_roundg (n - (r' + 1))
        case measure => omega
        case rel =>
          have h1 := hx.out
          have h2 := n0.out
          have h3 := fk.out
          have h4 := dig_lt yd.out
          exact ⟨r' + 1, x + 1, f * 10 + dig y, _, rfl, Lib.hid (by have := hrx.out; omega), rfl, rfl, congrArg _ (by unfold dig; omega), Lib.hid (by omega), Lib.hid (by omega), Lib.hid (by have h5 := hM.out.put (c := dig y) hD.out.len (by omega) (by rw [← HF.out]; omega) hrn (by unfold nf; rw [hY.out]); rw [← HF.out] at h5; exact h5), Lib.hid (hD.out.set_d x (by omega) _), Lib.hid (hB.out.setCell (Nat.le_refl _) _)⟩
      · have t1 : decide (r' < n) = false := decide_eq_false hrn
        go_wp2_with fail
        go_loopg [5, 6] (k + 1) (fun m v5 v6 w' => ∃ (x q' y dr : Nat) (a' : List Int) (tr' : Bool), v5 = .int .i64 (x : Int) ∧ v6 = .int .u64 (q' : Int) ∧ Hid (Rest a a' k n r x y dr q' tr tr') ∧ Hid (Twos k q' m) ∧ Hid (q' < 10 * 2 ^ k) ∧ Hid (x = 0 → q' = q) ∧ Hid (∀ i, i < x → IsDig (a'.getD i 0)) ∧ Hid (1 ≤ x → a'.getD 0 0 = 48 + ((q / 2 ^ k : Nat) : Int)) ∧ Hid (x ≤ 800) ∧ Hid (D w' b a' (n : Int) (dp - ((r : Int) - 1)) ng tr') ∧ Hid (Below b w w'))
        case atStart => exact ⟨x, q', 0, 0, a', tr, rfl, rfl, Lib.hid ⟨by rw [Nat.add_zero, Nat.pow_zero, Nat.mul_one, Nat.add_zero, ← hrx.out]; exact hM.out.is, by have := hrx.out; omega, by decide, fun e => by omega, by simp⟩, Lib.hid ⟨.inr ⟨0, by omega, by simp, by omega⟩⟩, Lib.hid hM.out.ql, Lib.hid hM.out.q0, Lib.hid hM.out.digs, Lib.hid hM.out.lead, Lib.hid hM.out.x8, hD, hB⟩
        case round =>
          obtain ⟨x, q', yy, dr, a', tr', rfl, rfl, hRe, hT, hql, hq0, hdg, hld, hx8, hD, hB⟩ := hrel
          have s2 : 0 ≤ (x : Int) := by omega
          have e0 : 0 ≤ (q' : Int) := by omega
          have dv0 := (div_b hql.out).1
          have dv9 := (div_b hql.out).2
          by_cases hp : 1 ≤ q'
          · have t2 : decide (0 < q') = true := decide_eq_true hp
            obtain ⟨f, hf⟩ : ∃ f : Nat, f = q' % 2 ^ k := ⟨_, rfl⟩
            have ba : bits .and .u64 (q' : Int) ((2 : Int) ^ k - 1) = (f : Int) := by rw [hf]; exact and_mask k2 (by have := hql.out; have := hk.out; omega)
            have fk : Hid (f < 2 ^ k) := Lib.hid (by rw [hf]; exact Nat.mod_lt q' (Nat.pow_pos (n := k) (show 0 < 2 by omega)))
            obtain ⟨m', hm', hT'⟩ := hT.out.next hp
            rw [← hf] at hT'
            have HT' := Lib.hid hT'; clear hT'
            have hF := Lib.hid hf; clear hf
            have f0 : 0 ≤ (f : Int) := by omega
            have f1 : (f : Int) ≤ 1152921504606846976 := by have := fk.out; have := hk.out; omega
            have hm := Lib.hid hm'; clear hm'
            by_cases hx : x < 800
            · have i3 : (x : Int) < 800 := by omega
              have t3 : decide (x < 800) = true := decide_eq_true hx
              have frx := hD.out.free x
              obtain ⟨z, hz⟩ : ∃ z, wr.cell? ⟨b, x, none⟩ = some (.int .u8 z) := ⟨_, hD.out.d x hx⟩
              go_wp2_with fail
              go_roundg m'
              case measure => exact hm.out
              case rel =>
                have h3 := fk.out
                have h0 := getD_set a' x 0 ((q' : Int) / 2 ^ k + 48) (by have := hD.out.len; omega)
                refine ⟨x + 1, f * 10, 0, 0, _, tr', rfl, congrArg _ (by omega), Lib.hid (by rw [hF.out]; exact hRe.out.put hD.out.len hx), HT', Lib.hid (by omega), Lib.hid (fun e => by omega), Lib.hid (fun i hi => ?_), Lib.hid (fun _ => ?_), Lib.hid (by omega), Lib.hid (hD.out.set_d x hx _), Lib.hid (hB.out.setCell (Nat.le_refl _) _)⟩
                · rw [getD_set _ _ _ _ (by have := hD.out.len; omega)]
                  by_cases e : i = x
                  · rw [if_pos e]; unfold IsDig; omega
                  · rw [if_neg e]; exact hdg.out i (by omega)
                · rw [h0]
                  by_cases e : 0 = x
                  · rw [if_pos e, div_cast, hq0.out e.symm, Int.add_comm]
                  · rw [if_neg e]; exact hld.out (by omega)
            · have t3 : decide (x < 800) = false := decide_eq_false hx
              have fr3 := hD.out.free 803
              have c803 := hD.out.tr_
              by_cases hz : 0 < (q' : Int) / 2 ^ k
              · have t4 : decide (0 < (q' : Int) / 2 ^ k) = true := decide_eq_true hz
                have hZ := Lib.hid hz; clear hz
                go_wp2_with fail
                go_roundg m'
                case measure => exact hm.out
                case rel =>
                  have h3 := fk.out
                  exact ⟨x, f * 10, yy + 1, dr * 10 + q' / 2 ^ k, a', true, rfl, congrArg _ (by omega), Lib.hid (by have h5 := hRe.out.drop hql.out (by have := hx8.out; omega); rw [show decide (0 < q' / 2 ^ k) = true from decide_eq_true (by have := hZ.out; rw [div_cast] at this; omega), Bool.or_true, ← hF.out] at h5; exact h5), HT', Lib.hid (by omega), Lib.hid (fun e => by omega), hdg, hld, hx8, Lib.hid (hD.out.set_tr _), Lib.hid (hB.out.setCell (Nat.le_refl _) _)⟩
              · have t4 : decide (0 < (q' : Int) / 2 ^ k) = false := decide_eq_false hz
                have hZ := Lib.hid hz; clear hz
                go_wp2_with fail
                go_roundg m'
                case measure => exact hm.out
                case rel =>
                  have h3 := fk.out
                  exact ⟨x, f * 10, yy + 1, dr * 10 + q' / 2 ^ k, a', tr', rfl, congrArg _ (by omega), Lib.hid (by have h5 := hRe.out.drop hql.out (by have := hx8.out; omega); rw [show decide (0 < q' / 2 ^ k) = false from decide_eq_false (by have := hZ.out; rw [div_cast] at this; omega), Bool.or_false, ← hF.out] at h5; exact h5), HT', Lib.hid (by omega), Lib.hid (fun e => by omega), hdg, hld, hx8, hD, hB⟩
          · have q00 : q' = 0 := by omega
            subst q00
            have t2 : decide (0 < (0 : Nat)) = false := rfl
            have frn := hD.out.free 800
            have c800b := hD.out.nd_
            have x1 : 1 ≤ x := by
              rcases Nat.eq_zero_or_pos x with e | e
              · have h1 := hq0.out e
                have h2 := hq1.out
                have h3 := Nat.pow_pos (n := k) (show 0 < 2 by omega)
                omega
              · exact e
            have qd1 : 1 ≤ q / 2 ^ k := (Nat.le_div_iff_mul_le (Nat.pow_pos (by decide))).mpr (by have := hq1.out; omega)
            have hnorm : Hid (Norm a' x) := Lib.hid ⟨x1, hx8.out, hdg.out, by rw [hld.out x1]; omega⟩
            have X1 := Lib.hid x1; clear x1
            have QD := Lib.hid qd1; clear qd1
            have CT := Lib.hid (trim_any (n := x) (hD.out.set_nd (x : Int)) hnorm.out)
            go_wp2_with (go_at_call 118; refine CT.out.mono ?_; rintro e w' ⟨rfl, ⟨m, hm1, hm2, hm3, hm4, hm5⟩, hbt⟩; have HM1 := Lib.hid hm1; have HM2 := Lib.hid hm2; have HM3 := Lib.hid hm3; have HM4 := Lib.hid hm4; have HM5 := Lib.hid hm5; have HBT := Lib.hid hbt; clear hm1 hm2 hm3 hm4 hm5 hbt)
            go_end0
            refine ⟨rfl, ⟨a', m, _, tr', HM2.out, HM3.out, by have := hr1.out; omega, by have := hr2.out; omega, fun e => ?_, hRe.out.cut HN.out hnorm.out HM1.out HM4.out HM5.out⟩, (hB.out.setCell (Nat.le_refl _) _).trans HBT.out⟩
            have er : r = 1 := by have := hr1.out; omega
            rw [hld.out X1.out, hone.out er]
            have hl := HN.out.lead
            have h2 : 2 ≤ 2 ^ k := by
              have := Nat.pow_le_pow_right (n := 2) (by decide) k1
              omega
            have h3 : dig (a.getD 0 0) / 2 ^ k < dig (a.getD 0 0) := Nat.div_lt_self (by unfold dig; omega) h2
            have h4 : (dig (a.getD 0 0) : Int) = a.getD 0 0 - 48 := by unfold dig; omega
            omega
end Go.Proofs.YtjemobfhlfejlaaGreatDoor.Dc
namespace Go.Proofs.YtjemobfhlfejlaaGreatDoor.Dc
open Go Go.RowKit
theorem ret_bool {a b : Bool} (h : a = b) : Ending.returned (.bool a) = .returned (.bool b) := by rw [h]
def nb (s : ByteArray) : List Int := s.data.toList.map fun c => (c.toNat : Int)
theorem nb_length (s : ByteArray) : (nb s).length = s.size := by simp [nb]
theorem nb_get (s : ByteArray) (i : Nat) (h : i < s.size) : (nb s).drop i = (s[i].toNat : Int) :: (nb s).drop (i + 1) := by
  have h2 : i < (nb s).length := by rw [nb_length]; exact h
  rw [List.drop_eq_getElem_cons h2]
  congr 1
  simp [nb]
  rfl
theorem take_get (a : List Int) (n i : Nat) (h : i < n) (hl : n ≤ a.length) : (a.take n).drop i = a.getD i 0 :: (a.take n).drop (i + 1) := by
  have h2 : i < (a.take n).length := by rw [List.length_take]; omega
  rw [List.drop_eq_getElem_cons h2, List.getElem_take, List.getD_eq_getElem?_getD, List.getElem?_eq_getElem (by omega)]
  rfl
set_option maxHeartbeats 2000000 in
set_option maxRecDepth 100000 in
theorem prefix_any {w : World} {b : Nat} {a : List Int} {dp nd : Int} {ng tr : Bool} {n : Nat} {c : Nat} {s : ByteArray} (h : D w b a nd dp ng tr) (hn : n ≤ 800) (hs : s.size ≤ 1000) (hd : ∀ i, i < n → IsDig (a.getD i 0)) :
    Calls Tryz.prog 117 #[.slice (some ⟨b, 0, none⟩) n c, .string s] w fun e w' => e = .returned (.bool (pl (a.take n) (nb s))) ∧ ∃ nq, w' = w.drewN nq := by
  have H := Lib.hid h; clear h
  have HD := Lib.hid hd; clear hd
  go_enter Tryz.func117, Tryz.ntmps117
  go_wp2
  go_loopg [5] s.size (fun m v5 w' => ∃ i : Nat, i + m = s.size ∧ v5 = .int .i64 (i : Int) ∧ Hid (i ≤ n) ∧ Hid (pl (a.take n) (nb s) = pl ((a.take n).drop i) ((nb s).drop i)) ∧ Hid (∃ nq, w' = w.drewN nq))
  case atStart => exact ⟨0, by omega, rfl, Lib.hid (Nat.zero_le _), Lib.hid (by simp), Lib.hid ⟨0, rfl⟩⟩
  case round =>
    obtain ⟨i, hi, rfl, hin, hpl, hw⟩ := hrel
    obtain ⟨nq0, rfl⟩ := hw.out
    clear hw
    have HD2 := Lib.hid (H.out.drewN nq0)
    have i0 : 0 ≤ (i : Int) := by omega
    by_cases hs1 : i < s.size
    · have t1 : decide (i < s.size) = true := decide_eq_true hs1
      by_cases hn1 : i < n
      · have t2 : decide (n ≤ i) = false := decide_eq_false (by omega)
        have tn : decide (i < n) = true := decide_eq_true hn1
        obtain ⟨x, hx⟩ : ∃ x, x = a.getD i 0 := ⟨_, rfl⟩
        have cdig := H.out.d i (by omega)
        rw [← hx] at cdig
        have hX := Lib.hid hx; clear hx
        obtain ⟨y, hy⟩ : ∃ y : UInt8, y = s[i] := ⟨_, rfl⟩
        have ix1 : (i : Int) < (n : Int) := by omega
        have ix2 : (i : Int) < (s.size : Int) := by omega
        have ix3 : i < s.size := hs1
        have ix4 : i < n := hn1
        have st : Hid (pl (a.take n) (nb s) = if x = (s[i].toNat : Int) then pl ((a.take n).drop (i + 1)) ((nb s).drop (i + 1)) else decide (x < (s[i].toNat : Int))) := Lib.hid (by
          rw [hpl.out, take_get a n i hn1 (by have := H.out.len; omega), nb_get s i hs1, ← hX.out, pl])
        by_cases hc : x = (s[i].toNat : Int)
        · have cb : (x != (s[i].toNat : Int)) = false := by rw [hc]; simp
          have hC := Lib.hid hc; clear hc
          go_wp2_with fail
          go_quiet (fail)
          go_wp2_with fail
          go_roundg (s.size - (i + 1))
          case measure => omega
          case rel => exact ⟨i + 1, by omega, rfl, Lib.hid (by omega), Lib.hid (by rw [st.out, if_pos hC.out]), Lib.hid ⟨_, rfl⟩⟩
        · have cb : (x != (s[i].toNat : Int)) = true := bne_iff_ne.mpr hc
          have hC := Lib.hid hc; clear hc
          go_wp2_with fail
          go_quiet (fail)
          go_wp2_with fail
          go_quiet (fail)
          go_wp2_with fail
          go_ret
          exact ⟨ret_bool (by rw [st.out, if_neg hC.out]), _, by rw [World.drewN_drewN, World.drewN_drewN]⟩
      · have t2 : decide (n ≤ i) = true := decide_eq_true (by omega)
        go_wp2_with fail
        go_ret
        refine ⟨ret_bool ?_, _, rfl⟩
        rw [hpl.out, nb_get s i hs1, show (a.take n).drop i = [] from List.drop_eq_nil_of_le (by rw [List.length_take]; omega), pl]
    · have t1 : decide (i < s.size) = false := decide_eq_false hs1
      go_wp2_with fail
      go_ret
      refine ⟨ret_bool ?_, _, rfl⟩
      rw [hpl.out, show (nb s).drop i = [] from List.drop_eq_nil_of_le (by rw [nb_length]; omega), pl]
end Go.Proofs.YtjemobfhlfejlaaGreatDoor.Dc
