/- Walks and plain laws on the way to FnFjFloatNear. No condition but what each lemma states. -/
import Derived.Test.YtjemobfhlfejlaaGreatDoorFbD
import Derived.Laws.Externs
import Derived.Laws.BitsAllLaws
import Derived.Shelf.Strconv.Itoa0
import Derived.Shelf.Bits.Mul64
import Derived.Shelf.Strings.Prefix
import Derived.Test.YtjemobfhlfejlaaGreatDoorProg
import Derived.Lib.ItoaNum
import GoSem.PinnedTables
set_option linter.unusedVariables false
set_option linter.unusedSimpArgs false
namespace Go.Proofs.YtjemobfhlfejlaaGreatDoor.Dc
open Go Go.RowKit
structure TB (w : World) (B : Nat) : Prop where
  lc : LC w B
  mb : w.cell? ⟨10, 0, none⟩ = some (.int .u64 52)
  eb : w.cell? ⟨10, 1, none⟩ = some (.int .u64 11)
  bi : w.cell? ⟨10, 2, none⟩ = some (.int .i64 (-1023))
  pw : ∃ lb lo c : Nat, lb < B ∧ w.cell? ⟨12, 0, none⟩ = some (.slice (some ⟨lb, lo, none⟩) 9 c) ∧ ∀ i, i < 9 → w.cell? ⟨lb, lo + i, none⟩ = some (.int .i64 (powt i : Int))
theorem TB.below {w w' : World} {B : Nat} (h : TB w B) (hb : Below B w w') : TB w' B := by
  have h10 := h.lc.ten
  obtain ⟨lb, lo, c, p1, p2, p3⟩ := h.pw
  refine ⟨h.lc.below hb, (hb.cell (p := ⟨10, 0, none⟩) (by show 10 < B; omega)).trans h.mb, (hb.cell (p := ⟨10, 1, none⟩) (by show 10 < B; omega)).trans h.eb, (hb.cell (p := ⟨10, 2, none⟩) (by show 10 < B; omega)).trans h.bi, lb, lo, c, p1, (hb.cell (p := ⟨12, 0, none⟩) (by show 12 < B; omega)).trans p2, fun i hi => (hb.cell (p := ⟨lb, lo + i, none⟩) p1).trans (p3 i hi)⟩
inductive IsFB (S : S3) (ng : Bool) : Ending → Prop
  | mk (t : S3 × Int) (h : RunTo S t) : IsFB S ng (.returned (.tuple #[.int .u64 ((fbR t ng : Nat) : Int), .bool false]))
theorem Rch.up {S0 : S3} {a a2 : List Int} {m m2 J k : Nat} {dp dp2 x : Int} {tr tr2 : Bool} (h : Rch P1 f1 (S0, 0) (DS a m dp tr, x) J) (hN : Norm a m) (hp : 0 < dp) (hk : k = powt dp.toNat) (e : (⟨dv (nf a2) 0 m2, dp2 - m2, tr2⟩ : S3) = cut (dv (nf a) 0 m * 5 ^ k) (dp - m - k) tr) : Rch P1 f1 (S0, 0) (DS a2 m2 dp2 tr2, x + k) (J + 1) := by
  have h1 := h.next (show 0 < dpS (DS a m dp tr) by rw [DS.dp hN]; exact hp)
  unfold f1 at h1
  dsimp only at h1
  rw [DS.dp hN, ← hk] at h1
  have e2 : DS a2 m2 dp2 tr2 = cut ((DS a m dp tr).n * 5 ^ k) ((DS a m dp tr).e - k) (DS a m dp tr).t := e
  rw [e2]; exact h1
theorem Rch.dn {s0 : S3 × Int} {a a2 : List Int} {m m2 J k : Nat} {dp dp2 x : Int} {tr tr2 : Bool} (h : Rch P2 f2 s0 (DS a m dp tr, x) J) (hN : Norm a m) (hp : dp < 0 ∨ dp = 0 ∧ a.getD 0 0 < 53) (hk : k = powt (-dp).toNat) (e : (⟨dv (nf a2) 0 m2, dp2 - m2, tr2⟩ : S3) = cut (dv (nf a) 0 m * 2 ^ k) (dp - m) tr) : Rch P2 f2 s0 (DS a2 m2 dp2 tr2, x - k) (J + 1) := by
  have h1 := h.next (show dpS (DS a m dp tr) < 0 ∨ dpS (DS a m dp tr) = 0 ∧ ldS (DS a m dp tr) < 5 by
    rw [DS.dp hN, DS.ld hN]
    rcases hp with c | c
    · exact .inl c
    · exact .inr ⟨c.1, by unfold nf dig; have := c.2; omega⟩)
  unfold f2 at h1
  dsimp only at h1
  rw [DS.dp hN, ← hk] at h1
  have e2 : DS a2 m2 dp2 tr2 = cut ((DS a m dp tr).n * 2 ^ k) (DS a m dp tr).e (DS a m dp tr).t := e
  rw [e2]; exact h1
theorem bit52 {m : Nat} (h0 : 2 ^ 52 ≤ m) (h1 : m < 2 ^ 53) : (bits .and .u64 (m : Int) 4503599627370496 == 0) = false := by
  have h := (bits_nat .u64 64 (by decide) wraps_u64 m 4503599627370496 (by omega) (by decide)).1
  have e : ((4503599627370496 : Nat) : Int) = 4503599627370496 := rfl
  rw [e] at h
  have h2 : (m &&& 4503599627370496).testBit 52 = true := by
    rw [Nat.testBit_and, Nat.testBit_eq_decide_div_mod_eq, show m / 2 ^ 52 = 1 by omega]
    decide
  rw [h, beq_eq_false_iff_ne]
  intro h3
  have h4 : m &&& 4503599627370496 = 0 := by omega
  rw [h4] at h2
  simp at h2
theorem or_hi {a b i : Nat} (h : b < 2 ^ i) (h2 : 2 ^ i * a + b < 2 ^ 64) : bits .or .u64 (b : Int) ((2 ^ i * a : Nat) : Int) = ((2 ^ i * a + b : Nat) : Int) := by
  have h3 := (bits_nat .u64 64 (by decide) wraps_u64 b (2 ^ i * a) (by omega) (by omega)).2
  rw [h3, Nat.or_comm, ← Nat.two_pow_add_eq_or_of_lt h]
theorem asm {m x : Nat} (m0 : 2 ^ 52 ≤ m) (m1 : m < 2 ^ 53) (x1 : x ≤ 2046) : bits .or .u64 (bits .and .u64 (m : Int) 4503599627370495) (IntKind.u64.wrap (IntKind.u64.wrap (bits .and .i64 (x : Int) 2047) * 4503599627370496)) = ((x * 2 ^ 52 + (m - 2 ^ 52) : Nat) : Int) := by
  have a1 := bits_mask .u64 64 (by decide) wraps_u64 52 (by decide) (m : Int) (by omega) (by omega)
  have a2 := bits_mask .i64 63 (by decide) (fun n h0 h1 => IntWalk.i64_in n (by omega)) 11 (by decide) (x : Int) (by omega) (by omega)
  have e1 : ((2 : Int) ^ 52 - 1) = 4503599627370495 := rfl
  have e2 : ((2 : Int) ^ 11 - 1) = 2047 := rfl
  rw [e1] at a1
  rw [e2] at a2
  have e3 : (x : Int) % 2 ^ 11 = (x : Int) := by omega
  rw [a1, a2, e3, IntWalk.u64_in (x : Int) (by omega), IntWalk.u64_in ((x : Int) * 4503599627370496) (by omega)]
  have e4 : (m : Int) % 2 ^ 52 = ((m - 2 ^ 52 : Nat) : Int) := by omega
  have e5 : (x : Int) * 4503599627370496 = ((2 ^ 52 * x : Nat) : Int) := by omega
  rw [e4, e5, or_hi (by omega) (by omega), Nat.mul_comm]
theorem asmF {m x fb : Nat} (m0 : 2 ^ 52 ≤ m) (m1 : m < 2 ^ 53) (x1 : x ≤ 2046) (h : fb = x * 2 ^ 52 + (m - 2 ^ 52) + (if false = true then 2 ^ 63 else 0)) : bits .or .u64 (bits .and .u64 (m : Int) 4503599627370495) (IntKind.u64.wrap (IntKind.u64.wrap (bits .and .i64 (x : Int) 2047) * 4503599627370496)) = (fb : Int) := by
  have e : (if false = true then 2 ^ 63 else 0 : Nat) = 0 := if_neg (by decide)
  rw [e, Nat.add_zero] at h
  rw [asm m0 m1 x1, h]
theorem asmT {m x fb : Nat} (m0 : 2 ^ 52 ≤ m) (m1 : m < 2 ^ 53) (x1 : x ≤ 2046) (h : fb = x * 2 ^ 52 + (m - 2 ^ 52) + (if true = true then 2 ^ 63 else 0)) : bits .or .u64 (bits .or .u64 (bits .and .u64 (m : Int) 4503599627370495) (IntKind.u64.wrap (IntKind.u64.wrap (bits .and .i64 (x : Int) 2047) * 4503599627370496))) 9223372036854775808 = (fb : Int) := by
  have h5 := asm m0 m1 x1
  have h6 := or_hi (a := 1) (b := x * 2 ^ 52 + (m - 2 ^ 52)) (i := 63) (by omega) (by omega)
  have e6 : ((2 ^ 63 * 1 : Nat) : Int) = 9223372036854775808 := rfl
  have e : (if true = true then 2 ^ 63 else 0 : Nat) = 2 ^ 63 := if_pos rfl
  rw [e, Nat.add_comm] at h
  rw [e6, Nat.mul_one] at h6
  rw [h5, h6, h]
theorem IsFB.of {S : S3} {ng : Bool} (t : S3 × Int) (h : RunTo S t) (x : Int) (e : x = ((fbR t ng : Nat) : Int)) : IsFB S ng (.returned (.tuple #[.int .u64 x, .bool false])) := by subst e; exact .mk t h
structure JF (w0 : World) (b : Nat) (S : S3) (ng : Bool) (a : Act) (w : World) : Prop where
  defers : a.defers = []
  size : a.tmps.size = 243
  s0 : a.tmps.getD 0 undef = .pointer (some ⟨b, 0, none⟩)
  s1 : a.tmps.getD 1 undef = .pointer (some ⟨10, 0, none⟩)
  s5 : a.tmps.getD 5 undef = .bool false
  s67 : ∃ (x m : Nat) (t : S3 × Int), a.tmps.getD 6 undef = .int .i64 ((x : Int) - 1023) ∧ a.tmps.getD 7 undef = .int .u64 (m : Int) ∧ x ≤ 2046 ∧ 2 ^ 52 ≤ m ∧ m < 2 ^ 53 ∧ RunTo S t ∧ fbR t ng = x * 2 ^ 52 + (m - 2 ^ 52) + (if ng then 2 ^ 63 else 0)
  below : Below b w0 w
  dec : ∃ (d : List Int) (n dp : Int) (tr : Bool), D w b d n dp ng tr
set_option maxHeartbeats 4000000 in
set_option maxRecDepth 100000 in
theorem fbits_any {w : World} {b : Nat} {a : List Int} {dp : Int} {ng tr : Bool} {n : Nat} (h : D w b a (n : Int) dp ng tr) (hn : Norm a n) (ht : TB w b) (q0 : -330 ≤ dp) (q1 : dp ≤ 310) (hg : ∀ t, RunTo (DS a n dp tr) t → Good t) :
    Calls Tryz.prog 88 #[.pointer (some ⟨b, 0, none⟩), .pointer (some ⟨10, 0, none⟩)] w fun e w' => IsFB (DS a n dp tr) ng e ∧ Below b w w' := by
  obtain ⟨S0, hS0⟩ : ∃ S0, S0 = DS a n dp tr := ⟨_, rfl⟩
  rw [← hS0] at hg ⊢
  have HS0 := Lib.hid hS0; clear hS0
  have HG := Lib.hid hg; clear hg
  have hu := Tryz.underlying149
  have hu2 := Tryz.underlying140
  have H := Lib.hid h; clear h
  have HN := Lib.hid hn; clear hn
  have HT := Lib.hid ht; clear ht
  go_enter Tryz.func88, Tryz.ntmps88
  go_wp2_with fail
  refine scope_labels (fun l a' w' => l = 0 ∧ JF w b S0 ng a' w') ?_ ?_
  · have hT := HT.out
    have c50 := hT.mb
    have c51 := hT.eb
    have c52 := hT.bi
    have HT2 := Lib.hid hT; clear hT
    have c800 := H.out.nd_
    have c801 := H.out.dp_
    have np : 0 < n := HN.out.pos
    · have nn0 : ((n : Int) == 0) = false := beq_eq_false_iff_ne.mpr (by omega)
      have NP := Lib.hid np; clear np
      have HNN := HN
      · have d1 : ¬ 310 < dp := by omega
        have d2 : ¬ dp < -330 := by omega
        have t1 : decide (310 < dp) = false := decide_eq_false d1
        · have t2 : decide (dp < -330) = false := decide_eq_false d2
          have D1 := Lib.hid d1; clear d1
          have D2 := Lib.hid d2; clear d2
          go_upto_block 0 with (fail)
          go_cut [6, 8] (fun v6 v8 wc => ∃ (a' : List Int) (m : Nat) (dp' : Int) (tr' : Bool) (x : Int) (J : Nat), v6 = .int .i64 x ∧ Hid (Rch P1 f1 (S0, 0) (DS a' m dp' tr', x) J) ∧ Hid (J ≤ 20000) ∧ Hid (Norm a' m) ∧ Hid (D wc b a' (m : Int) dp' ng tr') ∧ Hid (Below b w wc) ∧ Hid (-1540 ≤ dp' ∧ dp' ≤ 0) ∧ Hid (0 ≤ x ∧ x ≤ 90000))
          case first =>
            obtain ⟨M0, hM0⟩ : ∃ M0 : Nat, M0 = (dp * 10 + a.getD 0 0 - 48).toNat := ⟨_, rfl⟩
            have hl0 := HNN.out.digs 0 HNN.out.pos
            have HM0 := Lib.hid hM0; clear hM0
            have HL0 := Lib.hid hl0; clear hl0
            go_wp2_with fail
            go_loopg [6, 8] M0 (fun g v6 v8 wc => ∃ (a' : List Int) (m : Nat) (dp' : Int) (tr' : Bool) (x : Int) (J : Nat), v6 = .int .i64 x ∧ Hid (Rch P1 f1 (S0, 0) (DS a' m dp' tr', x) J) ∧ Hid (J + g ≤ 20000) ∧ Hid (Norm a' m) ∧ Hid (D wc b a' (m : Int) dp' ng tr') ∧ Hid (Below b w wc) ∧ Hid (-1540 ≤ dp' ∧ dp' ≤ 310) ∧ Hid (0 ≤ x ∧ x + 27 * (g : Int) ≤ 90000) ∧ Hid (g = (dp' * 10 + a'.getD 0 0 - 48).toNat))
            case atStart => exact ⟨a, n, dp, tr, 0, 0, rfl, Lib.hid (by rw [HS0.out]; exact Rch.refl), Lib.hid (by have h1 := HM0.out; have h2 := HL0.out.2; have := D1.out; have := D2.out; omega), HNN, H, Lib.hid (Below.refl b w), Lib.hid (by have := D1.out; have := D2.out; omega), Lib.hid (by have h1 := HM0.out; have h2 := HL0.out.2; have := D1.out; have := D2.out; omega), HM0⟩
            case round =>
              obtain ⟨a', m, dp', tr', x, J, rfl, hR, hJ, hN, hD, hB, hdp, hx, hg⟩ := hrel
              have x0 : 0 ≤ x := hx.out.1
              have x1 : x ≤ 90000 := by have := hx.out.2; omega
              have c801' := hD.out.dp_
              have hT := HT2.out.below hB.out
              obtain ⟨lb, lo, cc, p1, c7, p3⟩ := hT.pw
              have HT' := Lib.hid hT; clear hT
              have P3 := Lib.hid p3; clear p3
              by_cases e1 : 0 < dp'
              · have t3 : decide (0 < dp') = true := decide_eq_true e1
                by_cases e2 : 9 ≤ dp'
                · have t4 : decide (9 ≤ dp') = true := decide_eq_true e2
                  have E1 := Lib.hid e1; clear e1
                  have CT := Lib.hid (fun q : Nat => shr_any (w := wr.drewN q) (k := 27) (hD.out.drewN q) hN.out (by omega) (by omega) (by have := hdp.out; omega) (by have := hdp.out; omega))
                  go_wp2_with fail
                  go_quiet (fail)
                  go_wp2_with (go_at_call 105; refine (CT.out _).mono ?_; rintro e w' ⟨rfl, ⟨a2, m2, dp2, tr2, q1, q2, q3, q4, q5, q6⟩, hbt⟩; have Q6 := Lib.hid q6; have Q1 := Lib.hid q1; have Q2 := Lib.hid q2; have Q3 := Lib.hid q3; have Q4 := Lib.hid q4; have Q5 := Lib.hid q5; have HBT := Lib.hid hbt; clear hbt q1 q2 q3 q4 q5 q6)
                  have hl2 := Lib.hid (Q1.out.digs 0 Q1.out.pos)
                  have hl1 := Lib.hid (hN.out.digs 0 hN.out.pos)
                  have hlt : Hid ((dp2 * 10 + a2.getD 0 0 - 48).toNat < gk) := Lib.hid (by
                    have h1 := hg.out
                    have h2 := hl1.out
                    have h3 := hl2.out
                    unfold IsDig at h2 h3
                    have h4 := Q3.out
                    have h5 := Q5.out
                    rcases Int.lt_or_eq_of_le h4 with h | h
                    · have := E1.out; omega
                    · have := h5 h; have := E1.out; omega)
                  go_roundg (dp2 * 10 + a2.getD 0 0 - 48).toNat
                  case measure => exact hlt.out
                  case rel => exact ⟨a2, m2, dp2, tr2, _, J + 1, rfl, Lib.hid (hR.out.up hN.out E1.out (by rw [powt_big (by have := E1.out; omega)]) Q6.out), Lib.hid (by have := hJ.out; have := hlt.out; omega), Q1, Q2, Lib.hid ((hB.out.trans (Joins.below_draws b wr _)).trans HBT.out), Lib.hid (by have := hdp.out; have := Q3.out; have := Q4.out; have := E1.out; omega), Lib.hid (by have := hx.out; have := hlt.out; omega), Lib.hid rfl⟩
                · have t4 : decide (9 ≤ dp') = false := decide_eq_false e2
                  obtain ⟨j, rfl⟩ : ∃ j : Nat, dp' = (j : Int) := ⟨dp'.toNat, by omega⟩
                  have j0 : 0 ≤ (j : Int) := by omega
                  have j9 : (j : Int) < 9 := by omega
                  have j9' : j < 9 := by omega
                  have t3' : decide (0 < j) = true := decide_eq_true (by omega)
                  have t4' : decide (9 ≤ j) = false := decide_eq_false (by omega)
                  obtain ⟨z, hz⟩ : ∃ z, z = powt j := ⟨_, rfl⟩
                  have cz := P3.out j j9'
                  rw [← hz] at cz
                  have z1 : 1 ≤ z := by rw [hz]; exact (powt_bd j).1
                  have z2 : z ≤ 27 := by rw [hz]; exact (powt_bd j).2
                  have HZ := Lib.hid hz; clear hz
                  have z0 : 0 ≤ (z : Int) := by omega
                  have z27 : (z : Int) ≤ 27 := by omega
                  have E1 := Lib.hid e1; clear e1
                  have CT := Lib.hid (fun q : Nat => shr_any (w := wr.drewN q) (k := z) (hD.out.drewN q) hN.out (by omega) (by omega) (by have := hdp.out; omega) (by have := hdp.out; omega))
                  go_wp2_with fail
                  go_quiet (fail)
                  go_wp2_with fail
                  go_quiet (fail)
                  go_wp2_with (go_at_call 105; refine (CT.out _).mono ?_; rintro e w' ⟨rfl, ⟨a2, m2, dp2, tr2, q1, q2, q3, q4, q5, q6⟩, hbt⟩; have Q6 := Lib.hid q6; have Q1 := Lib.hid q1; have Q2 := Lib.hid q2; have Q3 := Lib.hid q3; have Q4 := Lib.hid q4; have Q5 := Lib.hid q5; have HBT := Lib.hid hbt; clear hbt q1 q2 q3 q4 q5 q6)
                  have hl2 := Lib.hid (Q1.out.digs 0 Q1.out.pos)
                  have hl1 := Lib.hid (hN.out.digs 0 hN.out.pos)
                  have hlt : Hid ((dp2 * 10 + a2.getD 0 0 - 48).toNat < gk) := Lib.hid (by
                    have h1 := hg.out
                    have h2 := hl1.out
                    have h3 := hl2.out
                    unfold IsDig at h2 h3
                    have h4 := Q3.out
                    have h5 := Q5.out
                    rcases Int.lt_or_eq_of_le h4 with h | h
                    · have := E1.out; omega
                    · have := h5 h; have := E1.out; omega)
                  go_roundg (dp2 * 10 + a2.getD 0 0 - 48).toNat
                  case measure => exact hlt.out
                  case rel => exact ⟨a2, m2, dp2, tr2, _, J + 1, rfl, Lib.hid (hR.out.up hN.out E1.out (by rw [HZ.out]; rfl) Q6.out), Lib.hid (by have := hJ.out; have := hlt.out; omega), Q1, Q2, Lib.hid ((hB.out.trans (Joins.below_draws b wr _)).trans HBT.out), Lib.hid (by have := hdp.out; have := Q3.out; have := Q4.out; have := E1.out; omega), Lib.hid (by have := hx.out; have := hlt.out; omega), Lib.hid rfl⟩
              · have t3 : decide (0 < dp') = false := decide_eq_false e1
                go_wp2_with fail
                go_meet
                exact ⟨a', m, dp', tr', x, J, rfl, hR, Lib.hid (by have := hJ.out; omega), hN, hD, hB, Lib.hid (by have := hdp.out; omega), Lib.hid ⟨x0, x1⟩⟩
          case rest =>
            obtain ⟨a1, n1, dp1, tr1, y1, J1, rfl, hR1, hJ1, hN, hD, hB, hdp, hy⟩ := hcut
            have HN1 := hN
            have HDP1 := hdp
            go_upto_block 2 with (fail)
            go_cut [6, 9] (fun v6 v9 wd => ∃ (a' : List Int) (m : Nat) (dp' : Int) (tr' : Bool) (x : Int), v6 = .int .i64 x ∧ Hid (RunTo S0 (DS a' m dp' tr', x)) ∧ Hid (Norm a' m) ∧ Hid (D wd b a' (m : Int) dp' ng tr') ∧ Hid (Below b w wd) ∧ Hid (0 ≤ dp' ∧ dp' ≤ 20) ∧ Hid (-420000 ≤ x ∧ x ≤ 90000))
            case first =>
              obtain ⟨M0, hM0⟩ : ∃ M0 : Nat, M0 = (-dp1 * 10 + 58 - a1.getD 0 0).toNat := ⟨_, rfl⟩
              have hl0 := hN.out.digs 0 hN.out.pos
              have HM0 := Lib.hid hM0; clear hM0
              have HL0 := Lib.hid hl0; clear hl0
              go_wp2_with fail
              go_loopg [6, 9] M0 (fun g v6 v9 wd => ∃ (a' : List Int) (m : Nat) (dp' : Int) (tr' : Bool) (x : Int) (J : Nat), v6 = .int .i64 x ∧ Hid (Rch P2 f2 (DS a1 n1 dp1 tr1, y1) (DS a' m dp' tr', x) J) ∧ Hid (J + g ≤ 20000) ∧ Hid (Norm a' m) ∧ Hid (D wd b a' (m : Int) dp' ng tr') ∧ Hid (Below b w wd) ∧ Hid (-1540 ≤ dp' ∧ dp' ≤ 20) ∧ Hid (-420000 ≤ x - 27 * (g : Int) ∧ x ≤ 90000) ∧ Hid (g = (-dp' * 10 + 58 - a'.getD 0 0).toNat))
              case atStart => exact ⟨a1, n1, dp1, tr1, y1, 0, rfl, Lib.hid Rch.refl, Lib.hid (by have h1 := HM0.out; have h2 := HL0.out.1; have := hdp.out; have := hy.out; omega), hN, hD, hB, Lib.hid (by have := hdp.out; omega), Lib.hid (by have h1 := HM0.out; have h2 := HL0.out.1; have := hdp.out; have := hy.out; omega), HM0⟩
              case round =>
                clear hN hD hB hdp hy HM0 HL0
                obtain ⟨a', m, dp', tr', x, J, rfl, hR, hJ, hN, hD, hB, hdp, hx, hg⟩ := hrel
                have x0 : -420000 ≤ x := by have := hx.out.1; omega
                have x1 : x ≤ 90000 := hx.out.2
                have dq0 : -1540 ≤ dp' := hdp.out.1
                have dq1 : dp' ≤ 20 := hdp.out.2
                have c801' := hD.out.dp_
                obtain ⟨y, hyy⟩ : ∃ y, y = a'.getD 0 0 := ⟨_, rfl⟩
                have cd0 := hD.out.d 0 (by omega)
                rw [← hyy] at cd0
                have HY := Lib.hid hyy; clear hyy
                have hT := HT2.out.below hB.out
                obtain ⟨lb, lo, cc, p1, c7, p3⟩ := hT.pw
                have HTT := Lib.hid hT; clear hT
                have P3 := Lib.hid p3; clear p3
                by_cases e1 : 0 < dp' ∨ (dp' = 0 ∧ ¬ y < 53)
                · rcases e1 with e1 | ⟨e1, e2⟩
                  · have t3 : decide (dp' < 0) = false := decide_eq_false (by omega)
                    have t4 : (dp' == 0) = false := beq_eq_false_iff_ne.mpr (by omega)
                    go_wp2_with fail
                    go_meet
                    exact ⟨a', m, dp', tr', x, rfl, Lib.hid ⟨_, J1, J, hR1.out, by show ¬ 0 < dpS (DS a1 n1 dp1 tr1); rw [DS.dp HN1.out]; have := HDP1.out; omega, hJ1.out, hR.out, by show ¬ (dpS (DS _ _ _ _) < 0 ∨ dpS (DS _ _ _ _) = 0 ∧ ldS (DS _ _ _ _) < 5); rw [DS.dp hN.out, DS.ld hN.out]; unfold nf dig; have h9 := HY.out; omega, by have := hJ.out; omega⟩, hN, hD, hB, Lib.hid (by have := hdp.out; omega), Lib.hid ⟨x0, x1⟩⟩
                  · subst e1
                    have t5 : decide (y < 53) = false := decide_eq_false e2
                    go_wp2_with fail
                    go_meet
                    exact ⟨a', m, 0, tr', x, rfl, Lib.hid ⟨_, J1, J, hR1.out, by show ¬ 0 < dpS (DS a1 n1 dp1 tr1); rw [DS.dp HN1.out]; have := HDP1.out; omega, hJ1.out, hR.out, by show ¬ (dpS (DS _ _ _ _) < 0 ∨ dpS (DS _ _ _ _) = 0 ∧ ldS (DS _ _ _ _) < 5); rw [DS.dp hN.out, DS.ld hN.out]; unfold nf dig; have h9 := HY.out; omega, by have := hJ.out; omega⟩, hN, hD, hB, Lib.hid (by have := hdp.out; omega), Lib.hid ⟨x0, x1⟩⟩
                · have E1 : Hid (dp' < 0 ∨ dp' = 0 ∧ y < 53) := Lib.hid (by omega)
                  clear e1
                  rcases Int.lt_or_eq_of_le (show dp' ≤ 0 by have := E1.out; omega) with e2 | e2
                  · by_cases e3 : dp' ≤ -9
                    · have t3 : decide (dp' < 0) = true := decide_eq_true e2
                      have t6 : decide (9 ≤ -dp') = true := decide_eq_true (by omega)
                      have CT := Lib.hid (fun q : Nat => shl_any (w := wr.drewN q) (k := 27) (hD.out.drewN q) hN.out (HTT.out.lc.below (Joins.below_draws b wr q)) (by omega) (by omega) (by omega) (by omega))
                      go_wp2_with fail
                      go_quiet (fail)
                      go_wp2_with (go_at_call 105; refine (CT.out _).mono ?_; rintro e w' ⟨rfl, ⟨a2, m2, dp2, tr2, q1, q2, q3, q4, q5, q6⟩, hbt⟩; have Q6 := Lib.hid q6; have Q1 := Lib.hid q1; have Q2 := Lib.hid q2; have Q3 := Lib.hid q3; have Q4 := Lib.hid q4; have Q5 := Lib.hid q5; have HBT := Lib.hid hbt; clear hbt q1 q2 q3 q4 q5 q6)
                      have hl2 := Lib.hid (Q1.out.digs 0 Q1.out.pos)
                      have hl1 := Lib.hid (hN.out.digs 0 hN.out.pos)
                      have hlt : Hid ((-dp2 * 10 + 58 - a2.getD 0 0).toNat < gk) := Lib.hid (by
                        have h1 := hg.out
                        have h2 := hl1.out
                        have h3 := hl2.out
                        unfold IsDig at h2 h3
                        have h4 := Q3.out
                        have h5 := Q5.out
                        have h7 := E1.out
                        rcases Int.lt_or_eq_of_le h4 with h | h
                        · omega
                        · have := h5 h.symm; omega)
                      go_roundg (-dp2 * 10 + 58 - a2.getD 0 0).toNat
                      case measure => exact hlt.out
                      case rel => exact ⟨a2, m2, dp2, tr2, _, J + 1, rfl, Lib.hid (hR.out.dn hN.out (by first | exact .inl e2 | exact .inr ⟨rfl, by have h8 := E1.out; have h9 := HY.out; omega⟩) (by rw [powt_big (by have := E1.out; omega)]) Q6.out), Lib.hid (by have := hJ.out; have := hlt.out; omega), Q1, Q2, Lib.hid ((hB.out.trans (Joins.below_draws b wr _)).trans HBT.out), Lib.hid (by have := hdp.out; have := Q3.out; have := Q4.out; have := E1.out; omega), Lib.hid (by have := hx.out; have := hlt.out; omega), Lib.hid rfl⟩
                    · obtain ⟨j, rfl⟩ : ∃ j : Nat, dp' = -(j : Int) := ⟨(-dp').toNat, by omega⟩
                      have j0 : 0 ≤ (j : Int) := by omega
                      have j9 : (j : Int) < 9 := by omega
                      have j9' : j < 9 := by omega
                      have t3 : decide (-(j : Int) < 0) = true := decide_eq_true e2
                      have t3' : decide (0 < j) = true := decide_eq_true (by omega)
                      have t4 : decide (9 ≤ (j : Int)) = false := decide_eq_false (by omega)
                      have t4' : decide (9 ≤ j) = false := decide_eq_false (by omega)
                      obtain ⟨z, hz⟩ : ∃ z, z = powt j := ⟨_, rfl⟩
                      have cz := P3.out j j9'
                      rw [← hz] at cz
                      have z1 : 1 ≤ z := by rw [hz]; exact (powt_bd j).1
                      have z2 : z ≤ 27 := by rw [hz]; exact (powt_bd j).2
                      have HZ := Lib.hid hz; clear hz
                      have z0 : 0 ≤ (z : Int) := by omega
                      have z27 : (z : Int) ≤ 27 := by omega
                      have CT := Lib.hid (fun q : Nat => shl_any (w := wr.drewN q) (k := z) (hD.out.drewN q) hN.out (HTT.out.lc.below (Joins.below_draws b wr q)) (by omega) (by omega) (by omega) (by omega))
                      go_wp2_with fail
                      go_quiet (fail)
                      go_wp2_with fail
                      go_quiet (fail)
                      go_wp2_with (go_at_call 105; refine (CT.out _).mono ?_; rintro e w' ⟨rfl, ⟨a2, m2, dp2, tr2, q1, q2, q3, q4, q5, q6⟩, hbt⟩; have Q6 := Lib.hid q6; have Q1 := Lib.hid q1; have Q2 := Lib.hid q2; have Q3 := Lib.hid q3; have Q4 := Lib.hid q4; have Q5 := Lib.hid q5; have HBT := Lib.hid hbt; clear hbt q1 q2 q3 q4 q5 q6)
                      have hl2 := Lib.hid (Q1.out.digs 0 Q1.out.pos)
                      have hl1 := Lib.hid (hN.out.digs 0 hN.out.pos)
                      have hlt : Hid ((-dp2 * 10 + 58 - a2.getD 0 0).toNat < gk) := Lib.hid (by
                        have h1 := hg.out
                        have h2 := hl1.out
                        have h3 := hl2.out
                        unfold IsDig at h2 h3
                        have h4 := Q3.out
                        have h5 := Q5.out
                        have h7 := E1.out
                        rcases Int.lt_or_eq_of_le h4 with h | h
                        · omega
                        · have := h5 h.symm; omega)
                      go_roundg (-dp2 * 10 + 58 - a2.getD 0 0).toNat
                      case measure => exact hlt.out
                      case rel => exact ⟨a2, m2, dp2, tr2, _, J + 1, rfl, Lib.hid (hR.out.dn hN.out (by first | exact .inl e2 | exact .inr ⟨rfl, by have h8 := E1.out; have h9 := HY.out; omega⟩) (by rw [HZ.out]; congr 1; omega) Q6.out), Lib.hid (by have := hJ.out; have := hlt.out; omega), Q1, Q2, Lib.hid ((hB.out.trans (Joins.below_draws b wr _)).trans HBT.out), Lib.hid (by have := hdp.out; have := Q3.out; have := Q4.out; have := E1.out; omega), Lib.hid (by have := hx.out; have := hlt.out; omega), Lib.hid rfl⟩
                  · subst e2
                    have t5 : decide (y < 53) = true := decide_eq_true (by have := E1.out; omega)
                    obtain ⟨z, hz⟩ : ∃ z, z = powt 0 := ⟨_, rfl⟩
                    have cz := P3.out 0 (by omega)
                    rw [← hz] at cz
                    have z1 : 1 ≤ z := by rw [hz]; exact (powt_bd 0).1
                    have z2 : z ≤ 27 := by rw [hz]; exact (powt_bd 0).2
                    have HZ := Lib.hid hz; clear hz
                    rw [Nat.add_zero] at cz
                    have z0 : 0 ≤ (z : Int) := by omega
                    have z27 : (z : Int) ≤ 27 := by omega
                    have CT := Lib.hid (fun q : Nat => shl_any (w := wr.drewN q) (k := z) (hD.out.drewN q) hN.out (HTT.out.lc.below (Joins.below_draws b wr q)) (by omega) (by omega) (by omega) (by omega))
                    go_wp2_with fail
                    go_quiet (fail)
                    go_wp2_with fail
                    go_quiet (fail)
                    go_wp2_with (go_at_call 105; refine (CT.out _).mono ?_; rintro e w' ⟨rfl, ⟨a2, m2, dp2, tr2, q1, q2, q3, q4, q5, q6⟩, hbt⟩; have Q6 := Lib.hid q6; have Q1 := Lib.hid q1; have Q2 := Lib.hid q2; have Q3 := Lib.hid q3; have Q4 := Lib.hid q4; have Q5 := Lib.hid q5; have HBT := Lib.hid hbt; clear hbt q1 q2 q3 q4 q5 q6)
                    have hl2 := Lib.hid (Q1.out.digs 0 Q1.out.pos)
                    have hl1 := Lib.hid (hN.out.digs 0 hN.out.pos)
                    have hlt : Hid ((-dp2 * 10 + 58 - a2.getD 0 0).toNat < gk) := Lib.hid (by
                      have h1 := hg.out
                      have h2 := hl1.out
                      have h3 := hl2.out
                      unfold IsDig at h2 h3
                      have h4 := Q3.out
                      have h5 := Q5.out
                      have h7 := E1.out
                      rcases Int.lt_or_eq_of_le h4 with h | h
                      · omega
                      · have := h5 h.symm; omega)
                    go_roundg (-dp2 * 10 + 58 - a2.getD 0 0).toNat
                    case measure => exact hlt.out
                    case rel => exact ⟨a2, m2, dp2, tr2, _, J + 1, rfl, Lib.hid (hR.out.dn hN.out (by first | exact .inl e2 | exact .inr ⟨rfl, by have h8 := E1.out; have h9 := HY.out; omega⟩) (by rw [HZ.out]; rfl) Q6.out), Lib.hid (by have := hJ.out; have := hlt.out; omega), Q1, Q2, Lib.hid ((hB.out.trans (Joins.below_draws b wr _)).trans HBT.out), Lib.hid (by have := hdp.out; have := Q3.out; have := Q4.out; have := E1.out; omega), Lib.hid (by have := hx.out; have := hlt.out; omega), Lib.hid rfl⟩
            case rest =>
              clear hN hD hB hdp hy
              obtain ⟨a2, n2, dp2, tr2, y2, rfl, hRT, hN, hD, hB, hdp, hy⟩ := hcut
              obtain ⟨G0, G1, G2, G3, G4, G5⟩ := HG.out _ hRT.out
              dsimp only at G0 G1 G2 G3 G4 G5
              obtain ⟨S5, hS5⟩ : ∃ S5, S5 = cut ((DS a2 n2 dp2 tr2).n * 2 ^ 53) (DS a2 n2 dp2 tr2).e (DS a2 n2 dp2 tr2).t := ⟨_, rfl⟩
              rw [← hS5] at G2 G3 G4 G5
              obtain ⟨m, hm⟩ : ∃ m, m = rintS S5 := ⟨_, rfl⟩
              rw [← hm] at G4 G5
              have g4 := Lib.hid G4
              have g5 := Lib.hid G5
              clear G4 G5
              obtain ⟨x, rfl⟩ : ∃ x, y2 = x + 1 := ⟨y2 - 1, by omega⟩
              have hfb : fbR (DS a2 n2 dp2 tr2, x + 1) ng = (x + 1022).toNat * 2 ^ 52 + m + (if ng then 2 ^ 63 else 0) := by
                unfold fbR; dsimp only; rw [← hS5, ← hm, show x + 1 + 1021 = x + 1022 by omega]
              have HFB := Lib.hid hfb; clear hfb
              have HM := Lib.hid hm; clear hm
              have HS5 := Lib.hid hS5; clear hS5
              have D2' := Lib.hid G2
              have D3' := Lib.hid G3
              clear G2 G3
              have x0 : -1002 ≤ x := by omega
              have x1 : x ≤ 1000 := by omega
              have hT := HT2.out.below hB.out
              have c50' := hT.mb
              have c51' := hT.eb
              have c52' := hT.bi
              have HT3 := Lib.hid hT; clear hT
              have t3 : decide (x < -1022) = false := decide_eq_false (by omega)
              have t3b : decide (2047 ≤ x + 1023) = false := decide_eq_false (by omega)
              have CT := Lib.hid (fun q : Nat => shl_any (w := wc.drewN q) (k := 53) (hD.out.drewN q) hN.out (HT3.out.lc.below (Joins.below_draws b wc q)) (by omega) (by omega) (by have := hdp.out; omega) (by have := hdp.out; omega))
              go_wp2_with fail
              go_quiet (fail)
              go_upto_region 32 with (go_at_call 105; refine (CT.out _).mono ?_; rintro e w' ⟨rfl, ⟨a3, m3, dp3, tr3, q1, q2, q3, q4, q5, q6⟩, hbt⟩; have Q6 := Lib.hid q6; have Q1 := Lib.hid q1; have Q2 := Lib.hid q2; have HBT := Lib.hid hbt; clear hbt q1 q2 q3 q4 q5 q6)
              have HB5 := Lib.hid ((hB.out.trans (Joins.below_draws b wc _)).trans HBT.out)
              have hT := HT2.out.below HB5.out
              have c50p := hT.mb
              have c51p := hT.eb
              have c52p := hT.bi
              have HT5 := Lib.hid hT; clear hT
              have hE : DS a3 m3 dp3 tr3 = S5 := Q6.out.trans HS5.out.symm
              have HE := Lib.hid hE; clear hE
              obtain ⟨p3, hp3⟩ : ∃ p3 : Nat, dp3 = (p3 : Int) := ⟨dp3.toNat, by have h1 := D2'.out; rw [← HE.out, DS.dp Q1.out] at h1; omega⟩
              subst hp3
              have CR := Lib.hid (rint_any (p := p3) Q2.out Q1.out (by have h1 := D3'.out; rw [← HE.out, DS.dp Q1.out] at h1; omega))
              rw [DS.rint Q1.out, HE.out, ← HM.out] at CR
              go_upto_region 33 with (go_at_call 106; refine CR.out.mono ?_; rintro e w' ⟨rfl, rfl⟩)
              by_cases hm : m = 9007199254740992
              · subst hm
                have t4 : decide (2047 ≤ x + 1 + 1023) = false := decide_eq_false (by omega)
                have t5 : (bits .and .u64 4503599627370496 4503599627370496 == 0) = false := by decide
                go_wp2_with fail
                go_quiet (fail)
                go_wp2_with fail
                go_step3
                simp only [Exit.then, Exit.inBlock, jumps]
                exact ⟨rfl, ⟨rfl, rfl, rfl, rfl, rfl, ⟨(x + 1024).toNat, 4503599627370496, _, (show Value.int IntKind.i64 _ = Value.int IntKind.i64 _ from congrArg _ (by omega)), rfl, by omega, by decide, by decide, hRT.out, by rw [HFB.out]; omega⟩, HB5.out.trans (Joins.below_draws b _ _), ⟨_, _, _, _, Q2.out.drewN _⟩⟩⟩
              · have t4 : ((m : Int) == 9007199254740992) = false := beq_eq_false_iff_ne.mpr (by omega)
                have t5 : (bits .and .u64 (m : Int) 4503599627370496 == 0) = false := bit52 g4.out (by have := g5.out; omega)
                have HM5 := Lib.hid hm; clear hm
                go_wp2_with fail
                go_step3
                simp only [Exit.then, Exit.inBlock, jumps]
                exact ⟨rfl, ⟨rfl, rfl, rfl, rfl, rfl, ⟨(x + 1023).toNat, m, _, (show Value.int IntKind.i64 _ = Value.int IntKind.i64 _ from congrArg _ (by omega)), rfl, by omega, g4.out, by have := g5.out; have := HM5.out; omega, hRT.out, by rw [HFB.out]; have := g4.out; omega⟩, HB5.out, ⟨_, _, _, _, Q2.out⟩⟩⟩
  · rintro l a' w' ⟨rfl, hJ⟩
    refine ⟨_, rfl, ?_⟩
    obtain ⟨t, ds⟩ := a'
    obtain ⟨j1, j2, j3, j4, j5, ⟨x, m, tt, j6, j7, x1, m0, m1, hRT, hfb⟩, hB, ⟨d, dn, ddp, dtr, hD⟩⟩ := hJ
    obtain ⟨v, hv, rfl⟩ := frame243 t j2
    obtain rfl : ds = [] := j1
    rw [← hv] at j3 j4 j5 j6 j7
    rw [j3, j4, j5, j6, j7]
    clear hv j2 j3 j4 j5 j6 j7
    have c802 := hD.ng_
    have TT := HT.out.below hB
    have c50 := TT.mb
    have c51 := TT.eb
    have c52 := TT.bi
    have HD := Lib.hid hD; clear hD
    have HB := Lib.hid hB; clear hB
    have HTT := Lib.hid TT; clear TT
    have HRT := Lib.hid hRT; clear hRT
    have HFB := Lib.hid hfb; clear hfb
    have xx0 : 0 ≤ (x : Int) := by omega
    have xx1 : (x : Int) ≤ 2046 := by omega
    have M0 := Lib.hid m0; clear m0
    have M1 := Lib.hid m1; clear m1
    cases ng with
    | true =>
      go_wp2_with fail
      go_quiet (fail)
      go_wp2_with fail
      go_quiet (fail)
      go_wp2_with fail
      simp only [jumps]
      go_ret2
      refine ⟨?_, by first | exact HB.out.trans (Joins.below_draws b _ _) | exact (HB.out.trans (Joins.below_draws b _ _)).trans (Joins.below_draws b _ _)⟩
      refine IsFB.of tt HRT.out _ ?_
      exact asmT M0.out M1.out x1 HFB.out
    | false =>
      go_wp2_with fail
      go_quiet (fail)
      go_wp2_with fail
      simp only [jumps]
      go_ret2
      refine ⟨?_, by first | exact HB.out.trans (Joins.below_draws b _ _) | exact (HB.out.trans (Joins.below_draws b _ _)).trans (Joins.below_draws b _ _)⟩
      refine IsFB.of tt HRT.out _ ?_
      exact asmF M0.out M1.out x1 HFB.out
end Go.Proofs.YtjemobfhlfejlaaGreatDoor.Dc
namespace Go.Proofs.YtjemobfhlfejlaaGreatDoor.Dc
open Go Go.RowKit
theorem bool2u {w : World} (r : Bool) : Calls Tryz.prog 89 #[.bool r] w fun e w' => e = .returned (.int .u64 (if r then 1 else 0)) ∧ w' = w := by
  cases r
  all_goals
    go_enter Tryz.func89, Tryz.ntmps89
    go_wp2_with fail
    go_ret
    exact ⟨rfl, rfl⟩
theorem bool2i {w : World} (r : Bool) : Calls Tryz.prog 101 #[.bool r] w fun e w' => e = .returned (.int .i64 (if r then 1 else 0)) ∧ w' = w := by
  cases r
  all_goals
    go_enter Tryz.func101, Tryz.ntmps101
    go_wp2_with fail
    go_ret
    exact ⟨rfl, rfl⟩
theorem unmin_any {w : World} (x : Int) (h0 : 1 ≤ x) (h1 : x ≤ 1152921504606846976) : Calls Tryz.prog 102 #[.int .u64 x] w fun e w' => e = .returned (.int .u64 (x * 4 - 2)) ∧ w' = w := by
  go_enter Tryz.func102, Tryz.ntmps102
  go_wp2_with fail
  go_ret
  exact ⟨rfl, rfl⟩
theorem log2_any {w : World} (x : Int) (h0 : -10000 ≤ x) (h1 : x ≤ 10000) : Calls Tryz.prog 98 #[.int .i64 x] w fun e w' => e = .returned (.int .i64 (x * 108853 / 32768)) ∧ w' = w := by
  go_enter Tryz.func98, Tryz.ntmps98
  go_wp2_with fail
  go_ret
  exact ⟨rfl, rfl⟩
theorem rnd_any {w : World} (x : Int) (h0 : 0 ≤ x) (h1 : x < 4611686018427387904) : Calls Tryz.prog 104 #[.int .u64 x] w fun e w' => e = .returned (.int .u64 ((x + 1 + x / 4 % 2) / 4)) ∧ w' = w := by
  have a1 := bits_mask .u64 64 (by decide) wraps_u64 1 (by decide) (x / 4) (by omega) (by omega)
  have e1 : ((2 : Int) ^ 1 - 1) = 1 := rfl
  have e2 : ((2 : Int) ^ 1) = 2 := rfl
  rw [e1, e2] at a1
  have b0 : 0 ≤ x / 4 % 2 := by omega
  have b1 : x / 4 % 2 ≤ 1 := by omega
  go_enter Tryz.func104, Tryz.ntmps104
  go_wp2_with fail
  go_ret
  exact ⟨rfl, rfl⟩
end Go.Proofs.YtjemobfhlfejlaaGreatDoor.Dc
namespace Go.Proofs.YtjemobfhlfejlaaGreatDoor.Dc
open Go Go.RowKit
theorem ffb (x : Int) (w : World) : (callFunc 90 #[.int .u64 x]).run Tryz.prog w = .ok (.value (.float .f64 x.toNat)) w :=
  (run_callFunc_extern Tryz.func90 (by kernel_rfl) (by kernel_rfl) (by kernel_rfl) (e := Extern.MathFloatBits.float64frombits) (by kernel_rfl) _ w).trans rfl
theorem not52 {a : Nat} (ha : a < 2 ^ 64) (h : a % 2 ^ 53 = 2 ^ 52 + a % 2 ^ 52) : bits .andNot .u64 (a : Int) 4503599627370496 = ((a - 2 ^ 52 : Nat) : Int) := by
  have h1 := u64_andNot_nat a 4503599627370496 (by omega) (by decide)
  have e : ((4503599627370496 : Nat) : Int) = 4503599627370496 := rfl
  rw [e] at h1
  rw [h1]
  obtain ⟨c, hc⟩ : ∃ c : Nat, c = 18446744073709551615 - 4503599627370496 := ⟨_, rfl⟩
  rw [← hc]
  obtain ⟨r, hr⟩ : ∃ r, r = a &&& c := ⟨_, rfl⟩
  rw [← hr]
  have d1 : r / 2 ^ 53 = a / 2 ^ 53 := by
    rw [hr, Nat.and_div_two_pow, show c / 2 ^ 53 = 2 ^ 11 - 1 by rw [hc], Nat.and_two_pow_sub_one_eq_mod]
    omega
  have d2 : r % 2 ^ 53 = a % 2 ^ 52 := by
    rw [hr, Nat.and_mod_two_pow, show c % 2 ^ 53 = 2 ^ 52 - 1 by rw [hc], Nat.and_two_pow_sub_one_eq_mod]
    omega
  omega
theorem pk {S m e : Nat} (hS : S = 0 ∨ S = 2 ^ 63) (m0 : 2 ^ 52 ≤ m) (m1 : m < 2 ^ 53) (e1 : e < 2047) : bits .or .u64 (bits .andNot .u64 ((S + m : Nat) : Int) 4503599627370496) ((e : Int) * 4503599627370496) = ((S + e * 2 ^ 52 + (m - 2 ^ 52) : Nat) : Int) := by
  have a1 := not52 (a := S + m) (by omega) (by omega)
  have e5 : (e : Int) * 4503599627370496 = ((2 ^ 52 * e : Nat) : Int) := by omega
  rw [a1, e5]
  have h3 := (bits_nat .u64 64 (by decide) wraps_u64 (S + m - 2 ^ 52) (2 ^ 52 * e) (by omega) (by omega)).2
  rw [h3]
  have h4 : (m - 2 ^ 52) ||| (2 ^ 52 * e) = 2 ^ 52 * e + (m - 2 ^ 52) := by rw [Nat.or_comm, Nat.two_pow_add_eq_or_of_lt (by omega)]
  rcases hS with h | h
  · subst h
    rw [Nat.zero_add, h4]
    omega
  · have h5 : S + m - 2 ^ 52 = 2 ^ 63 * 1 ||| (m - 2 ^ 52) := by rw [← Nat.two_pow_add_eq_or_of_lt (by omega)]; omega
    rw [h5, Nat.or_assoc, h4, ← Nat.two_pow_add_eq_or_of_lt (by omega)]
    omega
theorem and52 {S m : Nat} (hS : S = 0 ∨ S = 2 ^ 63) (m0 : 2 ^ 52 ≤ m) (m1 : m < 2 ^ 53) : (bits .and .u64 ((S + m : Nat) : Int) 4503599627370496 == 0) = false := by
  have h := (bits_nat .u64 64 (by decide) wraps_u64 (S + m) 4503599627370496 (by omega) (by decide)).1
  have e : ((4503599627370496 : Nat) : Int) = 4503599627370496 := rfl
  rw [e] at h
  have h2 : ((S + m) &&& 4503599627370496).testBit 52 = true := by
    rw [Nat.testBit_and, Nat.testBit_eq_decide_div_mod_eq, show (S + m) / 2 ^ 52 % 2 = 1 by omega]
    decide
  rw [h, beq_eq_false_iff_ne]
  intro h3
  have h4 : (S + m) &&& 4503599627370496 = 0 := by omega
  rw [h4] at h2
  simp at h2
theorem IsF.of {f x : Nat} (h : x = f) : Ending.returned (.tuple #[.float .f64 x, .nilIface]) = Ending.returned (.tuple #[.float .f64 f, .nilIface]) := by rw [h]
set_option maxRecDepth 100000 in
theorem pack_any {w : World} (S m e : Nat) (y : Int) (hS : S = 0 ∨ S = 2 ^ 63) (m0 : 2 ^ 52 ≤ m) (m1 : m < 2 ^ 53) (hy : 1075 + y = (e : Int)) (e0 : 1 ≤ e) (e1 : e < 2047) : Calls Tryz.prog 107 #[.int .u64 ((S + m : Nat) : Int), .int .i64 y] w fun en w' => en = .returned (.tuple #[.float .f64 (S + e * 2 ^ 52 + (m - 2 ^ 52)), .nilIface]) ∧ w' = w := by
  have hf := fun x : Int => ffb x w
  have t1 : decide (972 ≤ y) = false := decide_eq_false (by omega)
  have hb := and52 hS m0 m1
  have hp := Lib.hid (pk hS m0 m1 e1)
  obtain ⟨x, hx⟩ : ∃ x : Int, x = ((S + m : Nat) : Int) := ⟨_, rfl⟩
  rw [← hx] at hb hp ⊢
  have x0 : 0 ≤ x := by omega
  have x1 : x < 18446744073709551616 := by omega
  have HX := Lib.hid hx; clear hx
  have y0 : -1074 ≤ y := by omega
  have y1 : y < 972 := by omega
  have HY := Lib.hid hy; clear hy
  obtain ⟨f, hff⟩ : ∃ f, f = S + e * 2 ^ 52 + (m - 2 ^ 52) := ⟨_, rfl⟩
  rw [← hff] at hp ⊢
  clear hff
  go_enter Tryz.func107, Tryz.ntmps107
  go_wp2_with fail
  go_ret2
  refine ⟨IsF.of ?_, rfl⟩
  have e7 : (1075 + y) * 4503599627370496 = (e : Int) * 4503599627370496 := by rw [HY.out]
  rw [e7, hp.out]
  exact Int.toNat_natCast _
end Go.Proofs.YtjemobfhlfejlaaGreatDoor.Dc
namespace Go.Proofs
open Go.Shelf
def Tryz.lays129_ren : Go.Shelf.Ren := ⟨fun | 129 => 97 | n => n, fun | 53 => 27 | 3 => 3 | 4 => 4 | 46 => 51 | 5 => 5 | 9 => 9 | n => n, fun | n => n⟩
theorem Tryz.lays129 : Go.Proofs.Lays.n129 Tryz.prog Tryz.lays129_ren := {
  mixed := by kernel_rfl
  f129 := Tryz.func97.trans (congrArg some (by kernel_rfl))
  t3 := Tryz.underlying3
  a3 := Tryz.isAgg3
  z3 := Tryz.sizeOf3
  v3 := Tryz.zeroValue3
  t4 := Tryz.underlying4
  a4 := Tryz.isAgg4
  z4 := Tryz.sizeOf4
  v4 := Tryz.zeroValue4
  t5 := Tryz.underlying5
  a5 := Tryz.isAgg5
  z5 := Tryz.sizeOf5
  v5 := Tryz.zeroValue5
  t9 := Tryz.underlying9
  a9 := Tryz.isAgg9
  z9 := Tryz.sizeOf9
  v9 := Tryz.zeroValue9
  t46 := Tryz.underlying51
  a46 := Tryz.isAgg51
  z46 := Tryz.sizeOf51
  v46 := Tryz.zeroValue51
  t53 := Tryz.underlying27
  a53 := Tryz.isAgg27
  z53 := Tryz.sizeOf27
  v53 := Tryz.zeroValue27 }
theorem Tryz.bits_Len64 (x : Int) (w : World) (h0 : 0 ≤ x) (h1 : x ≤ 18446744073709551615) :
    Calls Tryz.prog 97 #[.int .u64 x] w fun e w' => e = .returned (.int .i64 (Lib.bitLen x.toNat)) ∧ w' = w := Any.bits_Len64 Tryz.lays129 x w h0 h1
def Tryz.lays264_ren : Go.Shelf.Ren := ⟨fun | 264 => 109 | n => n, fun | 53 => 27 | 46 => 51 | n => n, fun | n => n⟩
theorem Tryz.lays264 : Go.Proofs.Lays.n264 Tryz.prog Tryz.lays264_ren := {
  mixed := by kernel_rfl
  f264 := Tryz.func109.trans (congrArg some (by kernel_rfl))
  t46 := Tryz.underlying51
  a46 := Tryz.isAgg51
  z46 := Tryz.sizeOf51
  v46 := Tryz.zeroValue51
  t53 := Tryz.underlying27
  a53 := Tryz.isAgg27
  z53 := Tryz.sizeOf27
  v53 := Tryz.zeroValue27 }
open Go.RowKit Go.Lib in
theorem Tryz.bits_Mul64 (x y : Nat) (hx : x < 18446744073709551616) (hy : y < 18446744073709551616) (w : World) :
    Calls Tryz.prog 109 #[.int .u64 x, .int .u64 y] w fun e w' => e = .returned (.tuple #[.int .u64 ((x * y / 18446744073709551616 : Nat) : Int), .int .u64 ((x * y % 18446744073709551616 : Nat) : Int)]) ∧ w' = w := Any.bits_Mul64 Tryz.lays264 x y hx hy w
end Go.Proofs
namespace Go.Proofs.YtjemobfhlfejlaaGreatDoor.Dc
open Go Go.RowKit
theorem blen {x : Nat} (h : x < 2 ^ 64) (h0 : x ≠ 0) : 1 ≤ Lib.bitLen x ∧ Lib.bitLen x ≤ 64 ∧ 2 ^ (Lib.bitLen x - 1) ≤ x ∧ x < 2 ^ Lib.bitLen x := by
  obtain ⟨a, b, c⟩ := Lib.bitLenAux_bounds 64 x h h0
  refine ⟨a, ?_, b, c⟩
  have : 2 ^ (Lib.bitLen x - 1) < 2 ^ 64 := Nat.lt_of_le_of_lt b h
  have := (Nat.pow_lt_pow_iff_right (show 1 < 2 by decide)).mp this
  omega
def us (x hi lo s : Nat) : Nat := if x * hi / 2 ^ 64 % 2 ^ s ≠ 0 then (x * hi / 2 ^ 64 / 2 ^ s) ||| 1 else ((x * hi / 2 ^ 64 - (if x * hi % 2 ^ 64 < x * lo / 2 ^ 64 then 1 else 0)) / 2 ^ s) ||| (if 1 < (x * hi % 2 ^ 64 + 2 ^ 64 - x * lo / 2 ^ 64) % 2 ^ 64 then 1 else 0)
end Go.Proofs.YtjemobfhlfejlaaGreatDoor.Dc
namespace Go.Proofs.YtjemobfhlfejlaaGreatDoor.Dc
open Go Go.RowKit
theorem and63 : ∀ c : Fin 64, bits .and .i64 ((c.val : Nat) : Int) 63 = ((c.val : Nat) : Int) := by decide
theorem ret_is {k : IntKind} {a b : Int} (h : a = b) : Ending.returned (.int k a) = .returned (.int k b) := by rw [h]
theorem or_bit {a b : Nat} (ha : a < 18446744073709551616) (hb : b ≤ 1) : bits .or .u64 (a : Int) (b : Int) = ((a ||| b : Nat) : Int) := (bits_nat .u64 64 (by decide) wraps_u64 a b ha (by omega)).2
theorem us_is {x y z c h m n g b : Nat} (hh : h = x * y / 18446744073709551616) (hm : m = x * y % 18446744073709551616) (hn : n = x * z / 18446744073709551616) (hz : h % 2 ^ c = 0) (hg : g = h - (if m < n then 1 else 0)) (hb : b = if 1 < (m + 2 ^ 64 - n) % 2 ^ 64 then 1 else 0) (h64 : g < 18446744073709551616) :
    bits .or .u64 (IntKind.u64.wrap (g : Int) / 2 ^ c) (b : Int) = ((us x y z c : Nat) : Int) := by
  have e1 : us x y z c = g / 2 ^ c ||| b := by
    unfold us
    rw [if_neg (by rw [show x * y / 2 ^ 64 = h from hh.symm, hz]; exact fun h => h rfl)]
    rw [show x * y / 2 ^ 64 = h from hh.symm, show x * y % 2 ^ 64 = m from hm.symm, show x * z / 2 ^ 64 = n from hn.symm, ← hg, ← hb]
  have e2 : (g : Int) / 2 ^ c = ((g / 2 ^ c : Nat) : Int) := by simp
  have b1 : b ≤ 1 := by rw [hb]; split <;> omega
  rw [IntWalk.u64_in (g : Int) (by omega), e2, e1]
  exact or_bit (Nat.lt_of_le_of_lt (Nat.div_le_self _ _) h64) b1
theorem us_hi {x y z c h : Nat} (hh : h = x * y / 18446744073709551616) (hz : ¬ h % 2 ^ c = 0) (h64 : h < 18446744073709551616) : bits .or .u64 ((h : Int) / 2 ^ c) 1 = ((us x y z c : Nat) : Int) := by
  have e1 : us x y z c = h / 2 ^ c ||| 1 := by
    unfold us
    rw [show x * y / 2 ^ 64 = h from hh.symm, if_pos hz]
  have e2 : (h : Int) / 2 ^ c = ((h / 2 ^ c : Nat) : Int) := by simp
  rw [e2, e1]
  exact or_bit (b := 1) (Nat.lt_of_le_of_lt (Nat.div_le_self _ _) h64) (by decide)
set_option maxHeartbeats 2000000 in
set_option maxRecDepth 100000 in
theorem uscale_any {w : World} (p : Nat) (x y z : Nat) (c : Nat) (h1 : x < 18446744073709551616) (y1 : y < 18446744073709551616) (z1 : z < 18446744073709551616)
    (cy : w.cell? ⟨p, 0, none⟩ = some (.int .u64 (y : Int))) (cz : w.cell? ⟨p, 1, none⟩ = some (.int .u64 (z : Int))) (cs : w.cell? ⟨p, 2, none⟩ = some (.int .i64 (c : Int))) (hc : c ≤ 63) (hpos : 1 ≤ x * y / 18446744073709551616) :
    Calls Tryz.prog 100 #[.int .u64 (x : Int), .pointer (some ⟨p, 0, none⟩)] w fun e w' => (e = .returned (.int .u64 ((us x y z c : Nat) : Int))) ∧ ∃ q, w' = w.drewN q := by
  have hu := Tryz.underlying161
  have hs := and63 ⟨c, by omega⟩
  dsimp only at hs
  have M1 := Lib.hid (Tryz.bits_Mul64 x y h1 y1 w)
  have M2 := Lib.hid (Tryz.bits_Mul64 x z h1 z1 w)
  have B := Lib.hid (fun (w : World) r => bool2u (w := w) r)
  obtain ⟨H0, hh⟩ : ∃ H0, H0 = x * y / 18446744073709551616 := ⟨_, rfl⟩
  obtain ⟨m, hm⟩ : ∃ m, m = x * y % 18446744073709551616 := ⟨_, rfl⟩
  obtain ⟨n, hn⟩ : ∃ n, n = x * z / 18446744073709551616 := ⟨_, rfl⟩
  obtain ⟨o, ho⟩ : ∃ o, o = x * z % 18446744073709551616 := ⟨_, rfl⟩
  rw [← hh, ← hm] at M1
  rw [← hn, ← ho] at M2
  have HH := Lib.hid hh; clear hh
  have HM := Lib.hid hm; clear hm
  have HN := Lib.hid hn; clear hn
  have HO := Lib.hid ho; clear ho
  have c0 : 0 ≤ (c : Int) := by omega
  have c1 : (c : Int) ≤ 63 := by omega
  have h64 : H0 < 18446744073709551616 := by rw [HH.out]; exact Nat.div_lt_of_lt_mul (Nat.mul_lt_mul_of_lt_of_lt h1 y1)
  have m64 : m < 18446744073709551616 := by rw [HM.out]; exact Nat.mod_lt _ (by decide)
  have n64 : n < 18446744073709551616 := by rw [HN.out]; exact Nat.div_lt_of_lt_mul (Nat.mul_lt_mul_of_lt_of_lt h1 z1)
  have HP := Lib.hid hpos; clear hpos
  have pc : 0 < 2 ^ c := Nat.two_pow_pos c
  obtain ⟨U, hU⟩ : ∃ U, U = us x y z c := ⟨_, rfl⟩
  rw [← hU]
  have HU := Lib.hid hU; clear hU
  have hd0 : (H0 : Int) / 2 ^ c = ((H0 / 2 ^ c : Nat) : Int) := by simp
  have hle : H0 / 2 ^ c * 2 ^ c ≤ H0 := Nat.div_mul_le_self H0 (2 ^ c)
  have hmd := Nat.div_add_mod H0 (2 ^ c)
  have hwr : IntKind.u64.wrap ((H0 : Int) / 2 ^ c * 2 ^ c) = ((H0 / 2 ^ c * 2 ^ c : Nat) : Int) := by
    rw [hd0, show ((H0 / 2 ^ c : Nat) : Int) * 2 ^ c = ((H0 / 2 ^ c * 2 ^ c : Nat) : Int) by simp]
    exact IntWalk.u64_in _ (by omega)
  by_cases hz : H0 % 2 ^ c = 0
  · have tz : (IntKind.u64.wrap ((H0 : Int) / 2 ^ c * 2 ^ c) != (H0 : Int)) = false := by
      rw [hwr, bne_eq_false_iff_eq]
      have : H0 / 2 ^ c * 2 ^ c = H0 := by rw [Nat.mul_comm]; omega
      rw [this]
    have HZ := Lib.hid hz
    obtain ⟨D, hD⟩ : ∃ D, D = (m + 2 ^ 64 - n) % 2 ^ 64 := ⟨_, rfl⟩
    have wD : IntKind.u64.wrap ((m : Int) - (n : Int)) = (D : Int) := by rw [hD]; simp [IntKind.wrap, IntKind.bits, IntKind.signed]; omega
    have HD := Lib.hid hD
    obtain ⟨g, hg⟩ : ∃ g : Nat, (H0 : Int) - 1 = (g : Int) := ⟨H0 - 1, by have := HP.out; rw [← HH.out] at this; omega⟩
    have HG := Lib.hid hg; clear hg
    have H64 := Lib.hid h64
    clear hz hwr hle hmd hd0 hD h64 m64 n64
    by_cases hmn : m < n
    · have t2 : decide (m < n) = true := decide_eq_true hmn
      have t2' : decide ((m : Int) < (n : Int)) = true := decide_eq_true (by omega)
      have HMN := Lib.hid hmn; clear hmn
      go_enter Tryz.func100, Tryz.ntmps100
      go_upto_region 2 with (go_at_call 109; refine M1.out.mono ?_; rintro e w' ⟨rfl, rfl⟩)
      go_wp2_with (first | (go_at_call 109; refine M2.out.mono ?_; rintro e w' ⟨rfl, rfl⟩) | (go_at_call 89; refine (B.out _ _).mono ?_; rintro e w' ⟨rfl, rfl⟩))
      have hg := HG.out
      go_quiet ((go_at_call 89; exact Calls.quiet_of_same (B.out _ _)))
      go_wp2_with fail
      · have hD1 : 1 < (D : Int) := by assumption
        go_ret
        refine ⟨ret_is ?_, _, rfl⟩
        rw [HU.out]
        exact us_is (m := m) (n := n) (g := g) (b := 1) HH.out HM.out HN.out HZ.out (by rw [if_pos HMN.out]; have := HG.out; omega) (by rw [← HD.out, if_pos (by omega)]) (by have := HG.out; have := H64.out; omega)
      · have hD1 : (D : Int) ≤ 1 := by assumption
        go_ret
        refine ⟨ret_is ?_, _, rfl⟩
        rw [HU.out]
        exact us_is (m := m) (n := n) (g := g) (b := 0) HH.out HM.out HN.out HZ.out (by rw [if_pos HMN.out]; have := HG.out; omega) (by rw [← HD.out, if_neg (by omega)]) (by have := HG.out; have := H64.out; omega)
    · have t2 : decide (m < n) = false := decide_eq_false hmn
      have t2' : decide ((m : Int) < (n : Int)) = false := decide_eq_false (by omega)
      have HMN := Lib.hid hmn; clear hmn
      go_enter Tryz.func100, Tryz.ntmps100
      go_upto_region 2 with (go_at_call 109; refine M1.out.mono ?_; rintro e w' ⟨rfl, rfl⟩)
      go_wp2_with (first | (go_at_call 109; refine M2.out.mono ?_; rintro e w' ⟨rfl, rfl⟩) | (go_at_call 89; refine (B.out _ _).mono ?_; rintro e w' ⟨rfl, rfl⟩))
      go_quiet ((go_at_call 89; exact Calls.quiet_of_same (B.out _ _)))
      go_wp2_with fail
      · have hD1 : 1 < (D : Int) := by assumption
        go_ret
        refine ⟨ret_is ?_, _, rfl⟩
        rw [HU.out]
        exact us_is (m := m) (n := n) (g := H0) (b := 1) HH.out HM.out HN.out HZ.out (by rw [if_neg HMN.out]; rfl) (by rw [← HD.out, if_pos (by omega)]) H64.out
      · have hD1 : (D : Int) ≤ 1 := by assumption
        go_ret
        refine ⟨ret_is ?_, _, rfl⟩
        rw [HU.out]
        exact us_is (m := m) (n := n) (g := H0) (b := 0) HH.out HM.out HN.out HZ.out (by rw [if_neg HMN.out]; rfl) (by rw [← HD.out, if_neg (by omega)]) H64.out
  · have tz : (IntKind.u64.wrap ((H0 : Int) / 2 ^ c * 2 ^ c) != (H0 : Int)) = true := by
      rw [hwr, bne_iff_ne]
      have : H0 / 2 ^ c * 2 ^ c ≠ H0 := by rw [Nat.mul_comm]; omega
      omega
    have HZ := Lib.hid hz
    have H64 := Lib.hid h64
    clear hz hwr hle hmd hd0 h64 m64 n64
    go_enter Tryz.func100, Tryz.ntmps100
    go_upto_region 2 with (go_at_call 109; refine M1.out.mono ?_; rintro e w' ⟨rfl, rfl⟩)
    go_wp2_with fail
    go_ret
    refine ⟨ret_is ?_, 0, rfl⟩
    rw [HU.out]
    exact us_hi (h := H0) HH.out HZ.out H64.out
end Go.Proofs.YtjemobfhlfejlaaGreatDoor.Dc
namespace Go.Proofs.YtjemobfhlfejlaaGreatDoor.Dc
open Go Go.RowKit
def pmr (i : Nat) : Nat × Nat := Pinned.pow10Rows.getD i (0, 0)
def pmv (i : Nat) : Nat := (pmr i).1 * 2 ^ 64 - (pmr i).2
def pmB (i : Nat) : Bool := decide (2 ^ 63 ≤ (pmr i).1) && decide ((pmr i).1 ≤ 2 ^ 64 - 2 ^ 54) && decide ((pmr i).2 < 2 ^ 64) &&
  (if 348 ≤ i then decide (pmv i * 2 ^ ((i - 348) * 108853 / 32768) ≤ 10 ^ (i - 348) * 2 ^ 127 + 2 ^ ((i - 348) * 108853 / 32768)) && decide (10 ^ (i - 348) * 2 ^ 127 ≤ pmv i * 2 ^ ((i - 348) * 108853 / 32768) + 2 ^ ((i - 348) * 108853 / 32768))
  else decide (pmv i * 10 ^ (348 - i) ≤ 2 ^ (127 + ((348 - i) * 108853 + 32767) / 32768) + 10 ^ (348 - i)) && decide (2 ^ (127 + ((348 - i) * 108853 + 32767) / 32768) ≤ pmv i * 10 ^ (348 - i) + 10 ^ (348 - i)))
theorem pm_all : (List.range 696).all pmB = true := by decide +kernel
theorem pm_of {i : Nat} (h : i < 696) : pmB i = true := List.all_eq_true.mp pm_all i (List.mem_range.mpr h)
theorem pm_bd {i : Nat} (h : i < 696) : 2 ^ 63 ≤ (pmr i).1 ∧ (pmr i).1 ≤ 2 ^ 64 - 2 ^ 54 ∧ (pmr i).2 < 2 ^ 64 := by
  have := pm_of h
  simp only [pmB, Bool.and_eq_true, decide_eq_true_eq] at this
  exact ⟨this.1.1.1, this.1.1.2, this.1.2⟩
def pfE (d : Nat) (p : Int) : Int := 53 - Lib.bitLen d - p * 108853 / 32768
def pfU (d : Nat) (p : Int) : Nat := us (d * 2 ^ (64 - Lib.bitLen d)) (pmr (p + 348).toNat).1 (pmr (p + 348).toNat).2 8
def pfV (d : Nat) (p : Int) : Nat := if 2 ^ 55 - 2 ≤ pfU d p then (pfU d p / 2) ||| (pfU d p % 2) else pfU d p
def pfM (d : Nat) (p : Int) : Nat := (pfV d p + 1 + pfV d p / 4 % 2) / 4
def pfX (d : Nat) (p : Int) : Int := pfE d p - (if 2 ^ 55 - 2 ≤ pfU d p then 1 else 0)
def pfR (d : Nat) (p : Int) : Nat := (1074 - pfX d p).toNat * 2 ^ 52 + pfM d p
theorem or1 {a b : Nat} (hb : b ≤ 1) : a ≤ a ||| b ∧ a ||| b ≤ a + 1 ∧ (a ||| b) / 2 = a / 2 := by
  have h1 : a ≤ a ||| b := Nat.left_le_or
  have h2 : (a ||| b) / 2 = a / 2 ||| b / 2 := Nat.or_div_two
  rw [show b / 2 = 0 by omega, Nat.or_zero] at h2
  omega
theorem or_self1 (u : Nat) : u ||| (u % 2) = u := by
  have h1 := or1 (a := u) (b := u % 2) (by omega)
  have h2 := Nat.or_mod_two_pow (a := u) (b := u % 2) (n := 1)
  rw [Nat.pow_one, Nat.mod_mod, Nat.or_self] at h2
  omega
theorem us_near {x hi lo : Nat} (x0 : 2 ^ 63 ≤ x) (x1 : x < 2 ^ 64) (h0 : 2 ^ 63 ≤ hi) (h1 : hi ≤ 2 ^ 64 - 2 ^ 54) (l1 : lo < 2 ^ 64) :
    2 ^ 136 * us x hi lo 8 ≤ x * (hi * 2 ^ 64 - lo) + 2 ^ 136 + 2 ^ 128 ∧ x * (hi * 2 ^ 64 - lo) ≤ 2 ^ 136 * us x hi lo 8 + 2 ^ 136 + 2 * 2 ^ 128 ∧ 2 ^ 54 - 1 ≤ us x hi lo 8 ∧ us x hi lo 8 ≤ 2 ^ 56 - 2 ^ 45 := by
  have e1 : x * (hi * 2 ^ 64 - lo) = x * hi * 2 ^ 64 - x * lo := by rw [Nat.mul_sub, Nat.mul_assoc]
  have n1 : x * lo < 2 ^ 64 * 2 ^ 64 := Nat.mul_lt_mul_of_lt_of_lt x1 l1
  have q1 : 2 ^ 63 * 2 ^ 63 ≤ x * hi := Nat.mul_le_mul x0 h0
  have q2 : x * hi ≤ 2 ^ 64 * (2 ^ 64 - 2 ^ 54) := Nat.mul_le_mul (by omega) h1
  rw [e1]
  generalize hq : x * hi = q at *
  generalize hn : x * lo = n at *
  have key : (q / 2 ^ 64 - 1) / 256 ≤ us x hi lo 8 ∧ us x hi lo 8 ≤ q / 2 ^ 64 / 256 + 1 := by
    unfold us
    rw [hq, hn]
    split
    · have := or1 (a := q / 2 ^ 64 / 2 ^ 8) (b := 1) (by decide)
      constructor
      · refine Nat.le_trans ?_ this.1
        exact Nat.div_le_div_right (by omega)
      · exact this.2.1
    · generalize hb : (if 1 < (q % 2 ^ 64 + 2 ^ 64 - n / 2 ^ 64) % 2 ^ 64 then 1 else 0) = b
      have b1 : b ≤ 1 := by rw [← hb]; split <;> omega
      generalize hg : (if q % 2 ^ 64 < n / 2 ^ 64 then 1 else 0) = g
      have g1 : g ≤ 1 := by rw [← hg]; split <;> omega
      have := or1 (a := (q / 2 ^ 64 - g) / 2 ^ 8) (b := b) b1
      constructor
      · refine Nat.le_trans ?_ this.1
        exact Nat.div_le_div_right (by omega)
      · refine Nat.le_trans this.2.1 ?_
        have : (q / 2 ^ 64 - g) / 2 ^ 8 ≤ q / 2 ^ 64 / 2 ^ 8 := Nat.div_le_div_right (by omega)
        omega
  obtain ⟨k1, k2⟩ := key
  generalize us x hi lo 8 = u at *
  have d := Nat.div_add_mod q (2 ^ 64)
  have dm := Nat.mod_lt q (show 2 ^ 64 > 0 by decide)
  generalize q / 2 ^ 64 = h at *
  generalize q % 2 ^ 64 = m at *
  refine ⟨by omega, by omega, by omega, by omega⟩
end Go.Proofs.YtjemobfhlfejlaaGreatDoor.Dc
namespace Go.Proofs.YtjemobfhlfejlaaGreatDoor.Dc
open Go Go.RowKit
set_option maxRecDepth 100000 in
theorem prescale_any {w : World} (p : Nat) (e x l y z : Int) (i : Nat) (hi : x + 348 = (i : Int)) (i1 : i < 696) (e0 : -100000 ≤ e) (e1 : e ≤ 100000) (l0 : -100000 ≤ l) (l1 : l ≤ 100000)
    (cy : w.cell? ⟨14, i * 2, none⟩ = some (.int .u64 y)) (cz : w.cell? ⟨14, i * 2 + 1, none⟩ = some (.int .u64 z)) (hp : 14 < p) (v0 v1 v2 : Value)
    (c0 : w.cell? ⟨p, 0, none⟩ = some v0) (c1 : w.cell? ⟨p, 1, none⟩ = some v1) (c2 : w.cell? ⟨p, 2, none⟩ = some v2) (f0 : w.frozen? ⟨p, 0, none⟩ = false) (f1 : w.frozen? ⟨p, 1, none⟩ = false) (f2 : w.frozen? ⟨p, 2, none⟩ = false) :
    Calls Tryz.prog 99 #[.pointer (some ⟨p, 0, none⟩), .int .i64 e, .int .i64 x, .int .i64 l] w fun en w' => en = .returned (.tuple #[]) ∧ w' = ((w.setCell ⟨p, 0, none⟩ (.int .u64 y)).setCell ⟨p, 1, none⟩ (.int .u64 z)).setCell ⟨p, 2, none⟩ (.int .i64 (-(e + l + 3))) := by
  have hu := Tryz.underlying161
  have hu2 := Tryz.underlying177
  have hu3 := Tryz.underlying178
  have i0 : 0 ≤ (i : Int) := by omega
  have i2 : (i : Int) < 696 := by omega
  have x0 : -348 ≤ x := by omega
  have x1 : x < 348 := by omega
  have hne : (14 : Nat) ≠ p := by omega
  go_enter Tryz.func99, Tryz.ntmps99
  go_wp2_with fail
  go_end0
  exact ⟨rfl, rfl⟩
theorem prescale_blk {w : World} (p : Nat) (e x l y z : Int) (i : Nat) (hi : x + 348 = (i : Int)) (i1 : i < 696) (e0 : -100000 ≤ e) (e1 : e ≤ 100000) (l0 : -100000 ≤ l) (l1 : l ≤ 100000)
    (cy : w.cell? ⟨14, i * 2, none⟩ = some (.int .u64 y)) (cz : w.cell? ⟨14, i * 2 + 1, none⟩ = some (.int .u64 z)) (hp : 14 < p) (v0 v1 v2 : Value)
    (hk : w.heap[p]? = some (.cells #[v0, v1, v2] 161 (0, 0))) :
    Calls Tryz.prog 99 #[.pointer (some ⟨p, 0, none⟩), .int .i64 e, .int .i64 x, .int .i64 l] w fun en w' => en = .returned (.tuple #[]) ∧ Below p w w' ∧ w'.heap[p]? = some (.cells #[.int .u64 y, .int .u64 z, .int .i64 (-(e + l + 3))] 161 (0, 0)) := by
  refine (prescale_any p e x l y z i hi i1 e0 e1 l0 l1 cy cz hp v0 v1 v2 (by simp [World.cell?, hk]) (by simp [World.cell?, hk]) (by simp [World.cell?, hk]) (by simp [World.frozen?, hk]) (by simp [World.frozen?, hk]) (by simp [World.frozen?, hk])).mono ?_
  rintro en w' ⟨rfl, rfl⟩
  refine ⟨rfl, (((Below.refl p w).setCell (Nat.le_refl _) _).setCell (Nat.le_refl _) _).setCell (Nat.le_refl _) _, ?_⟩
  exact (Joins.block_setCell ((Joins.block_setCell ((Joins.block_setCell hk _).trans rfl) _).trans rfl) _).trans rfl
end Go.Proofs.YtjemobfhlfejlaaGreatDoor.Dc
