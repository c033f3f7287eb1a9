/- Walks and plain laws on the way to FnFjFloatNear. No condition but what each lemma states. -/
import Derived.Test.YtjemobfhlfejlaaGreatDoorFbF
import Derived.Test.YtjemobfhlfejlaaGreatDoorFbH
import Derived.Test.YtjemobfhlfejlaaGreatDoorFbI
import Derived.Test.YtjemobfhlfejlaaGreatDoorFbB
import Derived.Test.YtjemobfhlfejlaaGreatDoorFbA
import Derived.Laws.BitsAllLaws
set_option linter.unusedVariables false
set_option linter.unusedSimpArgs false
namespace Go.Proofs.YtjemobfhlfejlaaGreatDoor.Dc
open Go Go.RowKit
theorem NumStr.extract {s : ByteArray} (h : NumStr s) (a b : Nat) : NumStr (s.extract a b) := by
  intro i hi
  have h1 : i < min b s.size - a := by rw [ByteArray.size_extract] at hi; exact hi
  have h2 : (s.extract a b)[i] = s[a + i]'(by omega) := by rw [ByteArray.getElem_extract]
  rw [h2]
  exact h _ _
set_option maxRecDepth 100000 in
theorem cp_any {w : World} (s : ByteArray) (hs : s.size ≤ 65536) (hN : NumStr s) :
    Calls Tryz.prog 94 #[.string s, .string ⟨#[105, 110, 102, 105, 110, 105, 116, 121]⟩] w fun e w' => e = .returned (.int .i64 0) ∧ w' = w := by
  have HN := Lib.hid hN; clear hN
  rcases Nat.eq_zero_or_pos s.size with e | e
  · obtain rfl : s = ByteArray.empty := by
      apply ByteArray.ext; apply Array.eq_empty_of_size_eq_zero; exact e
    go_enter Tryz.func94, Tryz.ntmps94
    go_wp2_with fail
    go_loopg [6, 7] 0 (fun m v6 v7 wd => v6 = .int .i64 0 ∧ wd = w)
    case atStart => exact ⟨rfl, rfl⟩
    case round =>
      obtain ⟨rfl, rfl⟩ := hrel
      go_wp2_with fail
      go_ret
      exact ⟨rfl, rfl⟩
  · have hc := Lib.hid (isN_cases (HN.out 0 e))
    have te : decide (0 < s.size) = true := decide_eq_true e
    have te' : decide (0 < (s.size : Int)) = true := decide_eq_true (by omega)
    by_cases c69 : s[0].toNat = 69
    · have p65 : decide ((65 : Int) ≤ (s[0].toNat : Int)) = true := decide_eq_true (by omega)
      have p90 : decide ((s[0].toNat : Int) ≤ 90) = true := decide_eq_true (by omega)
      have cI : (s[0].toNat : Int) ≤ 69 := by omega
      have cJ : (69 : Int) ≤ (s[0].toNat : Int) := by omega
      have pe : ((s[0].toNat : Int) + 32 != ((ByteArray.mk #[105, 110, 102, 105, 110, 105, 116, 121])[0].toNat : Int)) = true := by rw [c69]; decide
      have C := Lib.hid c69; clear c69
      go_enter Tryz.func94, Tryz.ntmps94
      go_wp2_with fail
      all_goals
        go_loopg [6, 7] 0 (fun m v6 v7 wd => v6 = .int .i64 0 ∧ wd = w)
        case atStart => exact ⟨rfl, rfl⟩
        case round =>
          obtain ⟨rfl, rfl⟩ := hrel
          go_wp2_with fail
          go_ret
          exact ⟨rfl, rfl⟩
    · by_cases c101 : s[0].toNat = 101
      · have p65 : decide ((65 : Int) ≤ (s[0].toNat : Int)) = true := decide_eq_true (by omega)
        have p90 : decide ((s[0].toNat : Int) ≤ 90) = false := decide_eq_false (by omega)
        have C1 := Lib.hid c101; clear c101
        have pe : ((s[0].toNat : Int) != ((ByteArray.mk #[105, 110, 102, 105, 110, 105, 116, 121])[0].toNat : Int)) = true := by rw [bne_iff_ne]; have := hc.out; show (s[0].toNat : Int) ≠ 105; omega
        have C := Lib.hid c69; clear c69
        go_enter Tryz.func94, Tryz.ntmps94
        go_wp2_with fail
        all_goals
          go_loopg [6, 7] 0 (fun m v6 v7 wd => v6 = .int .i64 0 ∧ wd = w)
          case atStart => exact ⟨rfl, rfl⟩
          case round =>
            obtain ⟨rfl, rfl⟩ := hrel
            go_wp2_with fail
            go_ret
            exact ⟨rfl, rfl⟩
      · have q57 : ¬ (65 : Int) ≤ (s[0].toNat : Int) := by have := hc.out; omega
        have p65 : decide ((65 : Int) ≤ (s[0].toNat : Int)) = false := decide_eq_false q57
        have Q57 := Lib.hid q57
        have C1 := Lib.hid c101; clear q57 c101
        have pe : ((s[0].toNat : Int) != ((ByteArray.mk #[105, 110, 102, 105, 110, 105, 116, 121])[0].toNat : Int)) = true := by rw [bne_iff_ne]; have := hc.out; show (s[0].toNat : Int) ≠ 105; omega
        have C := Lib.hid c69; clear c69
        go_enter Tryz.func94, Tryz.ntmps94
        go_wp2_with fail
        all_goals
          go_loopg [6, 7] 0 (fun m v6 v7 wd => v6 = .int .i64 0 ∧ wd = w)
          case atStart => exact ⟨rfl, rfl⟩
          case round =>
            obtain ⟨rfl, rfl⟩ := hrel
            go_wp2_with fail
            go_ret
            exact ⟨rfl, rfl⟩
def special0 : Value := .tuple #[.float .f64 0, .int .i64 0, .bool false]
set_option maxRecDepth 100000 in
theorem special_any {w : World} (s : ByteArray) (hs : s.size ≤ 65536) (hN : NumStr s) :
    Calls Tryz.prog 80 #[.string s] w fun e w' => e = .returned special0 ∧ w' = w := by
  have HN := Lib.hid hN; clear hN
  rcases Nat.eq_zero_or_pos s.size with e | e
  · obtain rfl : s = ByteArray.empty := by
      apply ByteArray.ext; apply Array.eq_empty_of_size_eq_zero; exact e
    go_enter Tryz.func80, Tryz.ntmps80
    go_wp2_with fail
    go_ret3
    exact ⟨rfl, rfl⟩
  · have hc := Lib.hid (isN_cases (HN.out 0 e))
    have t0 : ¬ s = ByteArray.empty := fun h => by rw [h] at e; exact absurd e (by decide)
    have CP := Lib.hid (cp_any (w := w) (s.extract 1 s.size) (by rw [ByteArray.size_extract]; omega) (HN.out.extract _ _))
    have e' : 1 ≤ s.size := e
    by_cases c43 : s[0].toNat = 43 ∨ s[0].toNat = 45
    · rcases c43 with h | h
      · have p43 : ((s[0].toNat : Int) == 43) = true := beq_iff_eq.mpr (by omega)
        have p45 : ((s[0].toNat : Int) == 45) = false := beq_eq_false_iff_ne.mpr (by omega)
        have C := Lib.hid h; clear h
        go_enter Tryz.func80, Tryz.ntmps80
        go_wp2_with (go_at_call 94; refine CP.out.mono ?_; rintro e w' ⟨rfl, rfl⟩)
        go_ret3
        exact ⟨rfl, rfl⟩
      · have p43 : ((s[0].toNat : Int) == 43) = false := beq_eq_false_iff_ne.mpr (by omega)
        have p45 : ((s[0].toNat : Int) == 45) = true := beq_iff_eq.mpr (by omega)
        have C := Lib.hid h; clear h
        go_enter Tryz.func80, Tryz.ntmps80
        go_wp2_with (go_at_call 94; refine CP.out.mono ?_; rintro e w' ⟨rfl, rfl⟩)
        go_ret3
        exact ⟨rfl, rfl⟩
    · have p43 : ((s[0].toNat : Int) == 43) = false := beq_eq_false_iff_ne.mpr (by omega)
      have p45 : ((s[0].toNat : Int) == 45) = false := beq_eq_false_iff_ne.mpr (by omega)
      have q1 : ((s[0].toNat : Int) == 105) = false := beq_eq_false_iff_ne.mpr (by have := hc.out; omega)
      have q2 : ((s[0].toNat : Int) == 73) = false := beq_eq_false_iff_ne.mpr (by have := hc.out; omega)
      have q3 : ((s[0].toNat : Int) == 110) = false := beq_eq_false_iff_ne.mpr (by have := hc.out; omega)
      have q4 : ((s[0].toNat : Int) == 78) = false := beq_eq_false_iff_ne.mpr (by have := hc.out; omega)
      have C := Lib.hid c43; clear c43
      go_enter Tryz.func80, Tryz.ntmps80
      go_wp2_with fail
      go_ret3
      exact ⟨rfl, rfl⟩
end Go.Proofs.YtjemobfhlfejlaaGreatDoor.Dc
namespace Go.Proofs.YtjemobfhlfejlaaGreatDoor.Dc
open Go Go.RowKit
theorem zero149 : Tryz.zeroCells149 = dcells (List.replicate 800 0) 0 0 false false := by kernel_rfl
theorem D.fresh (w : World) : D (w.alloc (.cells Tryz.zeroCells149 149)) w.heap.size (List.replicate 800 0) 0 0 false false :=
  ⟨by rw [zero149]; exact Array.getElem?_push_size, by rw [List.length_replicate]⟩
theorem LC.mono {w : World} {B B' : Nat} (h : LC w B) (hB : B ≤ B') : LC w B' := by
  obtain ⟨h0, lb, lo, c, h1, h2, h3⟩ := h
  exact ⟨Nat.lt_of_lt_of_le h0 hB, lb, lo, c, Nat.lt_of_lt_of_le h1 hB, h2, h3⟩
theorem TB.mono {w : World} {B B' : Nat} (h : TB w B) (hB : B ≤ B') : TB w B' := by
  obtain ⟨h0, h1, h2, h3, lb, lo, c, h4, h5⟩ := h
  exact ⟨h0.mono hB, h1, h2, h3, lb, lo, c, Nat.lt_of_lt_of_le h4 hB, h5⟩
def sgn (ng : Bool) : Nat := if ng then 2 ^ 63 else 0
theorem sgn_or (ng : Bool) : sgn ng = 0 ∨ sgn ng = 2 ^ 63 := by cases ng; exact .inl rfl; exact .inr rfl
def SlowIs (M : Nat) (P : Int) (ng : Bool) (f : Nat) : Prop := ∃ t, RunTo ⟨M, P, false⟩ t ∧ f = fbR t ng
def PFIs (M : Nat) (P : Int) (ng : Bool) (f : Nat) : Prop :=
  (rfT M = false → (∀ g, aeR (rfM M) (rfP M P) ng = some g → f = g) ∧ (aeR (rfM M) (rfP M P) ng = none → f = sgn ng + pfR (rfM M) (rfP M P))) ∧
  (rfT M = true → (Op.floatEq .f64 (sgn ng + pfR (rfM M) (rfP M P)) (sgn ng + pfR (rfM M + 1) (rfP M P)) = true → f = sgn ng + pfR (rfM M) (rfP M P)) ∧
    (Op.floatEq .f64 (sgn ng + pfR (rfM M) (rfP M P)) (sgn ng + pfR (rfM M + 1) (rfP M P)) = false → SlowIs M P ng f))
theorem PFIs.uniq {M : Nat} {P : Int} {ng : Bool} {f g : Nat} (h : PFIs M P ng f) (k : PFIs M P ng g) : f = g := by
  cases c : rfT M with
  | false =>
    obtain ⟨a1, a2⟩ := h.1 c
    obtain ⟨b1, b2⟩ := k.1 c
    cases d : aeR (rfM M) (rfP M P) ng with
    | none => rw [a2 d, b2 d]
    | some x => rw [a1 x d, b1 x d]
  | true =>
    obtain ⟨a1, a2⟩ := h.2 c
    obtain ⟨b1, b2⟩ := k.2 c
    cases d : Op.floatEq .f64 (sgn ng + pfR (rfM M) (rfP M P)) (sgn ng + pfR (rfM M + 1) (rfP M P)) with
    | true => rw [a1 d, b1 d]
    | false =>
      obtain ⟨t, h1, h2⟩ := a2 d
      obtain ⟨t', h3, h4⟩ := b2 d
      rw [h2, h4, h1.uniq h3]
structure Rng (M : Nat) (P : Int) : Prop where
  m0 : M ≠ 0
  p0 : -345 ≤ rfP M P
  p1 : rfP M P ≤ 310
  e0 : pfE (rfM M) (rfP M P) ≤ 1074
  x0 : -971 ≤ pfX (rfM M) (rfP M P)
  e1 : pfE (rfM M + 1) (rfP M P) ≤ 1074
  x1 : -971 ≤ pfX (rfM M + 1) (rfP M P)
  d0 : -330 ≤ (dlen M : Int) + P
  d1 : (dlen M : Int) + P ≤ 310
  go : ∀ t, RunTo ⟨M, P, false⟩ t → Good t
theorem rfM_bd {M : Nat} (h : M ≠ 0) : rfM M ≠ 0 ∧ rfM M < 10 ^ 19 := by
  have hl := dlen_lo h
  have hp := dlen_pos h
  have hh := dlen_hi M
  unfold rfM
  constructor
  · have : 10 ^ (dlen M - 19) ≤ M := Nat.le_trans (Nat.pow_le_pow_right (by decide) (by omega)) hl
    have := Nat.div_pos this (p10 _)
    omega
  · rw [Nat.div_lt_iff_lt_mul (p10 _), ← Nat.pow_add]
    exact Nat.lt_of_lt_of_le hh (Nat.pow_le_pow_right (by decide) (by omega))
theorem pf64_at {w : World} {B : Nat} (h : TS w B) (hB : B ≤ w.heap.size) (d s : Nat) (p : Int) (hs : s = 0 ∨ s = 2 ^ 63) (d0 : d ≠ 0) (d1 : d < 2 ^ 64) (p0 : -345 ≤ p) (p1 : p ≤ 310) (hE : pfE d p ≤ 1074) (hX : -971 ≤ pfX d p) :
    Calls Tryz.prog 92 #[.int .u64 (d : Int), .int .i64 p, .int .u64 (s : Int)] w fun en w' => en = .returned (.tuple #[.float .f64 (s + pfR d p), .nilIface]) ∧ Below w.heap.size w w' := by
  obtain ⟨cy, cz⟩ := h.pt (p + 348).toNat (by omega)
  have := h.tb.lc.ten
  exact pf64_any d s (p + 348).toNat p hs d0 d1 (by omega) (by omega) cy cz (by omega) hE hX
theorem isAE_one {o : Option Nat} {e : Ending} (h : IsAE o e) : ∃ (f : Nat) (r : Bool), (r = true → o = Option.some f) ∧ (r = false → o = Option.none) ∧ e = .returned (.tuple #[.float .f64 f, .bool r]) := by
  cases h with
  | some f => exact ⟨f, true, fun _ => rfl, fun h => (by cases h), rfl⟩
  | none f => exact ⟨f, false, fun h => (by cases h), fun _ => rfl, rfl⟩
inductive IsAF (M : Nat) (P : Int) (ng : Bool) (n : Nat) : Ending → Prop
  | mk (f : Nat) (h : PFIs M P ng f) : IsAF M P ng n (.returned (.tuple #[.float .f64 f, .int .i64 (n : Int), .nilIface]))
set_option maxHeartbeats 4000000 in
set_option maxRecDepth 100000 in
theorem at64_any {w : World} {B : Nat} (h : TS w B) (hB : B ≤ w.heap.size) {s : ByteArray} {i0 i1 i2 j0 : Nat} {ng es : Bool} (hs : s.size ≤ 800) (hk : Tok s i0 i1 i2 j0 ng es) (hE : exv s j0 < 10000) (hR : Rng (tkM s i0 i2) (tkP s i1 i2 j0 es)) :
    Calls Tryz.prog 77 #[.string s] w fun e w' => IsAF (tkM s i0 i2) (tkP s i1 i2 j0 es) ng s.size e ∧ Below w.heap.size w w' := by
  have SP := special_any (w := w) s (by omega) hk.num
  unfold special0 at SP
  have SP' := Lib.hid SP; clear SP
  have RD := Lib.hid (read_any (w := w) (by omega) hk hR.m0 hE)
  have ST0 := Lib.hid (fun (W : World) (b : Nat) (a : List Int) (g t : Bool) (hD : D W b a 0 0 g t) => set_any hD hs hk hR.m0 hE)
  have c4 := h.op
  obtain ⟨M, hM⟩ : ∃ M, M = tkM s i0 i2 := ⟨_, rfl⟩
  obtain ⟨P, hP⟩ : ∃ P, P = tkP s i1 i2 j0 es := ⟨_, rfl⟩
  rw [← hM, ← hP] at RD ST0 hR ⊢
  clear hM hP
  obtain ⟨r0, r1⟩ := rfM_bd hR.m0
  obtain ⟨m, hm⟩ : ∃ m, m = rfM M := ⟨_, rfl⟩
  obtain ⟨p, hp⟩ : ∃ p, p = rfP M P := ⟨_, rfl⟩
  obtain ⟨tr, htr⟩ : ∃ tr, tr = rfT M := ⟨_, rfl⟩
  rw [← hm, ← hp, ← htr] at RD
  rw [← hm] at r0 r1
  have HMm := Lib.hid hm; clear hm
  have HPp := Lib.hid hp; clear hp
  have HTR := Lib.hid htr; clear htr
  have HR := Lib.hid hR; clear hR
  have R1 := Lib.hid r1; clear r1
  have R0 := Lib.hid r0
  have H := Lib.hid h; clear h
  have HB := Lib.hid hB; clear hB
  have HK := Lib.hid hk; clear hk
  have HE := Lib.hid hE; clear hE
  have ss : (s.size : Int) ≤ 800 := by omega
  go_enter Tryz.func77, Tryz.ntmps77
  go_upto_region 5 with (first | (go_at_call 80; refine SP'.out.mono ?_; rintro e w' ⟨rfl, rfl⟩) | (go_at_call 81; refine RD.out.mono ?_; rintro e w' ⟨rfl, rfl⟩))
  obtain ⟨X, hX⟩ : ∃ X : Int, (if ng then 1 else 0) = X := ⟨_, rfl⟩
  have BU := bool2u (w := w') ng
  rw [hX] at BU
  have BU' := Lib.hid BU; clear BU
  have HX := Lib.hid hX; clear hX
  go_upto_region 11 with (fail)
  go_cut [16] (fun v16 wc => v16 = .int .u64 ((sgn ng : Nat) : Int) ∧ wc = w')
  case first =>
    cases ng
    · obtain rfl : (0 : Int) = X := HX.out
      as_aux_lemma =>
      go_wp2_with (go_at_call 89; refine BU'.out.mono ?_; rintro e w' ⟨rfl, rfl⟩)
      all_goals
        go_meet
        exact ⟨rfl, rfl⟩
    · obtain rfl : (1 : Int) = X := HX.out
      as_aux_lemma =>
      go_wp2_with (go_at_call 89; refine BU'.out.mono ?_; rintro e w' ⟨rfl, rfl⟩)
      all_goals
        go_meet
        exact ⟨rfl, rfl⟩
  case rest =>
    obtain ⟨rfl, rfl⟩ := hcut
    obtain ⟨S, hS⟩ : ∃ S, S = sgn ng := ⟨_, rfl⟩
    rw [← hS]
    have hSo : S = 0 ∨ S = 2 ^ 63 := by rw [hS]; exact sgn_or ng
    have HS := Lib.hid hS; clear hS
    have HSO := Lib.hid hSo; clear hSo
    have t0 : ((m : Int) == 0) = false := beq_eq_false_iff_ne.mpr (by omega)
    have pp0 : -345 ≤ p := by rw [HPp.out]; exact HR.out.p0
    have pp1 : p ≤ 310 := by rw [HPp.out]; exact HR.out.p1
    have t1 : decide (310 < p) = false := decide_eq_false (by omega)
    have t2 : decide (p < -345) = false := decide_eq_false (by omega)
    have EX := Lib.hid (exact_any H.out m p ng R0.out (by have := R1.out; omega) (by omega) (by omega))
    have PF := Lib.hid (fun (W : World) (hW : TS W B) (hWB : B ≤ W.heap.size) => pf64_at (w := W) (B := B) hW hWB m S p HSO.out R0.out (by have := R1.out; omega) (by omega) (by omega) (by rw [HMm.out, HPp.out]; exact HR.out.e0) (by rw [HMm.out, HPp.out]; exact HR.out.x0))
    have PF1 := Lib.hid (fun (W : World) (hW : TS W B) (hWB : B ≤ W.heap.size) => pf64_at (w := W) (B := B) hW hWB (m + 1) S p HSO.out (by omega) (by have := R1.out; omega) (by omega) (by omega) (by rw [HMm.out, HPp.out]; exact HR.out.e1) (by rw [HMm.out, HPp.out]; exact HR.out.x1))
    obtain ⟨F0, hF0⟩ : ∃ F, F = S + pfR m p := ⟨_, rfl⟩
    obtain ⟨F1, hF1⟩ : ∃ F, F = S + pfR (m + 1) p := ⟨_, rfl⟩
    obtain ⟨m1, hm1⟩ : ∃ m1 : Nat, m1 = m + 1 := ⟨_, rfl⟩
    rw [← hF0] at PF
    rw [← hF1, ← hm1] at PF1
    have HF0 := Lib.hid hF0; clear hF0
    have HF1 := Lib.hid hF1; clear hF1
    have hm1' : IntKind.u64.wrap ((m : Int) + 1) = (m1 : Int) := by rw [IntWalk.u64_in _ (by have := R1.out; omega)]; omega
    have HM1 := Lib.hid hm1; clear hm1
    cases tr with
    | false =>
      clear hm1'
      go_upto_region 20 with (go_at_call 91; refine EX.out.mono ?_; rintro e w' ⟨hae, q, rfl⟩; obtain ⟨f, r, hr1, hr2, rfl⟩ := isAE_one hae; have HR1 := Lib.hid hr1; have HR2 := Lib.hid hr2; clear hae hr1 hr2)
      cases r with
      | true =>
        have hpf : PFIs M P ng f := ⟨fun _ => ⟨fun g hg => (by rw [← HMm.out, ← HPp.out, HR1.out rfl] at hg; exact (Option.some.inj hg)), fun hg => (by rw [← HMm.out, ← HPp.out, HR1.out rfl] at hg; cases hg)⟩, fun h => (by rw [← HTR.out] at h; cases h)⟩
        have HPF := Lib.hid hpf; clear hpf
        go_wp2_with fail
        go_ret3
        exact ⟨.mk _ HPF.out, Joins.below_draws _ _ _⟩
      | false =>
        have hpf : PFIs M P ng F0 := ⟨fun _ => ⟨fun g hg => (by rw [← HMm.out, ← HPp.out, HR2.out rfl] at hg; cases hg), fun hg => (by rw [HF0.out, HS.out, HMm.out, HPp.out])⟩, fun h => (by rw [← HTR.out] at h; cases h)⟩
        have HPF := Lib.hid hpf; clear hpf
        have PFq := Lib.hid (PF.out (wc.drewN q) (H.out.below (Joins.below_draws B wc q)) HB.out)
        go_upto_region 23 with (go_at_call 92; refine PFq.out.mono ?_; rintro e w2 ⟨rfl, hb⟩; have HBT := Lib.hid hb; clear hb)
        go_wp2_with fail
        go_ret3
        exact ⟨.mk _ HPF.out, (Joins.below_draws _ _ _).trans HBT.out⟩
    | true =>
      have PF0 := Lib.hid (PF.out wc H.out HB.out)
      go_upto_region 23 with (go_at_call 92; refine PF0.out.mono ?_; rintro e w2 ⟨rfl, hb⟩; have HBT := Lib.hid hb; clear hb)
      have T2 := Lib.hid (H.out.below (HBT.out.mono HB.out))
      have HB2 := Lib.hid (Nat.le_trans HB.out HBT.out.size)
      have PFb := Lib.hid (PF1.out w2 T2.out HB2.out)
      go_upto_region 26 with (go_at_call 92; (with_reducible refine PFb.out.mono ?_); rintro e w3 ⟨rfl, hb⟩; have HBT2 := Lib.hid hb; clear hb)
      have HB3 := Lib.hid (HBT.out.trans (HBT2.out.mono HBT.out.size))
      obtain ⟨x, hx⟩ : ∃ x, Op.floatEq .f64 F0 F1 = x := ⟨_, rfl⟩
      have hx2 := hx
      rw [HF0.out, HF1.out, HS.out, HMm.out, HPp.out] at hx2
      have HX2 := Lib.hid hx2; clear hx2
      have hx' : (FloatKind.f64.format.order F0 F1 == some Ordering.eq) = x := hx
      cases x with
      | true =>
        have hpf : PFIs M P ng F0 := ⟨fun h => (by rw [← HTR.out] at h; cases h), fun _ => ⟨fun _ => (by rw [HF0.out, HS.out, HMm.out, HPp.out]), fun h => (by rw [HX2.out] at h; cases h)⟩⟩
        have HPF := Lib.hid hpf; clear hpf
        go_upto_region 28 with (fail)
        go_ret3
        exact ⟨.mk _ HPF.out, HB3.out⟩
      | false =>
        have hf1 : ∃ b, b = w3.heap.size := ⟨_, rfl⟩
        have B3 := Lib.hid (Joins.below_alloc1 w3 (Obj.cells Tryz.zeroCells149 149))
        have ST := Lib.hid (ST0.out (w3.alloc (.cells Tryz.zeroCells149 149)) w3.heap.size _ _ _ (D.fresh w3))
        have hz3 := Lib.hid HBT2.out.size
        have T3 := Lib.hid (T2.out.below (HBT2.out.mono HB2.out))
        have hsx : s.extract 0 s.size = s := by
          apply ByteArray.ext
          simp [ByteArray.data_extract]
        have k0 : 0 ≤ (s.size : Int) := by omega
        go_upto_region 28 with (fail)
        go_upto_region 29 with (fail)
        go_wp2_with (go_at_call 87; (first | (with_reducible refine ST.out.mono ?_) | (rw [hsx]; (with_reducible refine ST.out.mono ?_))); rintro e w4 ⟨rfl, ⟨a5, hs5, hD5⟩, hb5⟩; have HS5 := Lib.hid hs5; have HD5 := Lib.hid hD5; have HB5 := Lib.hid hb5; clear hs5 hD5 hb5)
        have hN5 : Norm a5 (dlen M) := HS5.out.norm.resolve_left (by have := dlen_pos HR.out.m0; omega)
        have hDS : DS a5 (dlen M) ((dlen M : Int) + P) false = ⟨M, P, false⟩ := S3.ext' HS5.out.val (by show (dlen M : Int) + P - (dlen M : Int) = P; omega) rfl
        have HDS := Lib.hid hDS; clear hDS
        have HN5 := Lib.hid hN5; clear hN5
        have T4 := Lib.hid ((T3.out.tb.mono (Nat.le_trans HB2.out hz3.out)).below (B3.out.trans HB5.out))
        have FB := Lib.hid (fbits_any HD5.out HN5.out T4.out HR.out.d0 HR.out.d1 (by rw [HDS.out]; exact HR.out.go))
        rw [HDS.out] at FB
        have hq := fun (W : World) (x : Int) => ffb x W
        go_at_call 88
        refine FB.out.mono ?_
        rintro e w5 ⟨⟨t, hrun⟩, hb6⟩
        have HB6 := Lib.hid hb6
        have HRUN := Lib.hid hrun
        clear hb6 hrun
        go_wp2_with fail
        all_goals
          go_ret3
          refine ⟨.mk _ ⟨fun h => (by rw [← HTR.out] at h; cases h), fun _ => ⟨fun h => (by rw [HX2.out] at h; cases h), fun _ => ⟨t, HRUN.out, Int.toNat_natCast _⟩⟩⟩, HB3.out.trans (((B3.out.trans HB5.out).trans HB6.out).mono HB3.out.size)⟩
end Go.Proofs.YtjemobfhlfejlaaGreatDoor.Dc
namespace Go.Proofs.YtjemobfhlfejlaaGreatDoor.Dc
open Ie (rv rv_mk two_pos two_add two_nat two_lt Wd u53 inf_is)
theorem ten_pos (e : Int) : (0 : Rat) < 10 ^ e := Rat.zpow_pos (by decide)
theorem ten_add (a b : Int) : (10 : Rat) ^ (a + b) = 10 ^ a * 10 ^ b := Rat.zpow_add (by decide) a b
theorem ten_nat (n : Nat) : ((10 ^ n : Nat) : Rat) = 10 ^ (n : Int) := by
  rw [Rat.zpow_natCast]
  induction n with
  | zero => rfl
  | succ n ih => rw [Nat.pow_succ, Rat.natCast_mul, ih, Rat.pow_succ]; rfl
theorem ten_neg (e : Int) : (10 : Rat) ^ e * 10 ^ (-e) = 1 := by rw [← ten_add, Int.add_right_neg, Rat.zpow_zero]
theorem two_neg (e : Int) : (2 : Rat) ^ e * 2 ^ (-e) = 1 := by rw [← two_add, Int.add_right_neg, Rat.zpow_zero]
theorem ten_lt' {a b : Int} (h : (10 : Rat) ^ a < 10 ^ b) : a < b := by
  apply Classical.byContradiction
  intro c
  obtain ⟨n, hn⟩ : ∃ n : Nat, a = b + n := ⟨(a - b).toNat, by omega⟩
  rw [hn, ten_add, ← ten_nat] at h
  have : ((1 : Nat) : Rat) ≤ ((10 ^ n : Nat) : Rat) := Rat.natCast_le_natCast.mpr (Nat.pow_pos (by decide))
  have := Rat.mul_le_mul_of_nonneg_left this (Rat.le_of_lt (ten_pos b))
  have o : ((1 : Nat) : Rat) = 1 := rfl
  rw [o] at this
  grind
theorem cast_le {a b : Nat} (h : a ≤ b) : (a : Rat) ≤ (b : Rat) := Rat.natCast_le_natCast.mpr h
theorem cast_lt {a b : Nat} (h : a < b) : (a : Rat) < (b : Rat) := Rat.natCast_lt_natCast.mpr h
def lpZ (p : Int) : Int := p * 108853 / 32768
theorem pm_rat {p : Int} (p0 : -348 ≤ p) (p1 : p < 348) :
    (pmv (p + 348).toNat : Rat) * 2 ^ (lpZ p - 127) ≤ 10 ^ p + 2 ^ (lpZ p - 127) ∧ (10 : Rat) ^ p ≤ (pmv (p + 348).toNat : Rat) * 2 ^ (lpZ p - 127) + 2 ^ (lpZ p - 127) := by
  obtain ⟨i, hi⟩ : ∃ i : Nat, p + 348 = (i : Int) := ⟨(p + 348).toNat, by omega⟩
  have e : (p + 348).toNat = i := by omega
  rw [e]
  have h := pm_of (i := i) (by omega)
  simp only [pmB, Bool.and_eq_true, decide_eq_true_eq] at h
  obtain ⟨_, h⟩ := h
  generalize pmv i = pm at *
  by_cases c : 348 ≤ i
  · rw [if_pos c] at h
    simp only [Bool.and_eq_true, decide_eq_true_eq] at h
    obtain ⟨h1, h2⟩ := h
    obtain ⟨n, hn⟩ : ∃ n, n = i - 348 := ⟨_, rfl⟩
    have hp : p = (n : Int) := by omega
    have hl : lpZ p = ((n * 108853 / 32768 : Nat) : Int) := by unfold lpZ; rw [hp]; omega
    rw [← hn] at h1 h2
    rw [hl, hp]
    generalize n * 108853 / 32768 = L at *
    have f1 := cast_le h1
    have f2 := cast_le h2
    rw [Rat.natCast_add, Rat.natCast_mul, Rat.natCast_mul, two_nat, two_nat, ten_nat] at f1
    rw [Rat.natCast_add, Rat.natCast_mul, Rat.natCast_mul, two_nat, two_nat, ten_nat] at f2
    have q := two_neg 127
    have e2 : (2 : Rat) ^ ((L : Int) - 127) = 2 ^ (L : Int) * 2 ^ (-127 : Int) := by rw [← two_add]; rfl
    have t := Rat.le_of_lt (two_pos (-127))
    have e3 : ((127 : Nat) : Int) = 127 := rfl
    rw [e3] at f1 f2
    rw [e2]
    generalize (2 : Rat) ^ (-127 : Int) = A at *
    generalize (2 : Rat) ^ (127 : Int) = B at *
    generalize (2 : Rat) ^ (L : Int) = C at *
    generalize (10 : Rat) ^ (n : Int) = D at *
    have g1 := Rat.mul_le_mul_of_nonneg_right f1 t
    have g2 := Rat.mul_le_mul_of_nonneg_right f2 t
    have k1 : D * B * A = D := by
      have : D * B * A = D * (B * A) := by grind
      rw [this, q, Rat.mul_one]
    rw [Rat.add_mul, k1] at g1
    rw [k1, Rat.add_mul] at g2
    constructor <;> grind
  · rw [if_neg c] at h
    simp only [Bool.and_eq_true, decide_eq_true_eq] at h
    obtain ⟨h1, h2⟩ := h
    obtain ⟨n, hn⟩ : ∃ n, n = 348 - i := ⟨_, rfl⟩
    have hp : p = -(n : Int) := by omega
    have hl : lpZ p = -(((n * 108853 + 32767) / 32768 : Nat) : Int) := by unfold lpZ; rw [hp]; omega
    rw [← hn] at h1 h2
    rw [hl, hp]
    generalize (n * 108853 + 32767) / 32768 = L at *
    have f1 := cast_le h1
    have f2 := cast_le h2
    rw [Rat.natCast_add, Rat.natCast_mul, two_nat, ten_nat] at f1
    rw [Rat.natCast_add, Rat.natCast_mul, two_nat, ten_nat] at f2
    have q := ten_neg (n : Int)
    have e2 : (2 : Rat) ^ (-(L : Int) - 127) * 2 ^ (((127 + L : Nat)) : Int) = 1 := by rw [← two_add, show -(L : Int) - 127 + ((127 + L : Nat) : Int) = 0 by omega, Rat.zpow_zero]
    have t1 := ten_pos (-(n : Int))
    have t2 := two_pos (-(L : Int) - 127)
    generalize (2 : Rat) ^ (-(L : Int) - 127) = A at *
    generalize (2 : Rat) ^ (((127 + L : Nat)) : Int) = B at *
    generalize (10 : Rat) ^ (n : Int) = C at *
    generalize (10 : Rat) ^ (-(n : Int)) = D at *
    have g1 := Rat.mul_le_mul_of_nonneg_right f1 (Rat.le_of_lt (Rat.mul_pos t1 t2))
    have g2 := Rat.mul_le_mul_of_nonneg_right f2 (Rat.le_of_lt (Rat.mul_pos t1 t2))
    have k1 : (pm : Rat) * C * (D * A) = pm * A := by
      have : (pm : Rat) * C * (D * A) = pm * A * (C * D) := by grind
      rw [this, q, Rat.mul_one]
    have k2 : B * (D * A) = D := by
      have : B * (D * A) = D * (A * B) := by grind
      rw [this, e2, Rat.mul_one]
    have k3 : C * (D * A) = A := by
      have : C * (D * A) = A * (C * D) := by grind
      rw [this, q, Rat.mul_one]
    rw [k1, Rat.add_mul, k2, k3] at g1
    rw [Rat.add_mul, k1, k2, k3] at g2
    exact ⟨g1, g2⟩
theorem pmv_bd {p : Int} (p0 : -348 ≤ p) (p1 : p < 348) : 2 ^ 127 - 2 ^ 64 ≤ pmv (p + 348).toNat ∧ pmv (p + 348).toNat < 2 ^ 128 := by
  obtain ⟨h0, h1, l1⟩ := pm_bd (i := (p + 348).toNat) (by omega)
  unfold pmv
  generalize (pmr (p + 348).toNat).1 = a at *
  generalize (pmr (p + 348).toNat).2 = b at *
  omega
theorem ten_two {p : Int} (p0 : -348 ≤ p) (p1 : p < 348) : (2 : Rat) ^ (lpZ p - 1) ≤ 10 ^ p ∧ (10 : Rat) ^ p ≤ 2 ^ (lpZ p + 1) := by
  obtain ⟨a, b⟩ := pm_rat p0 p1
  obtain ⟨c, d⟩ := pmv_bd p0 p1
  have c' := cast_le (show 2 ^ 126 + 1 ≤ pmv (p + 348).toNat by omega)
  have d' := cast_le (show pmv (p + 348).toNat + 1 ≤ 2 ^ 128 by omega)
  rw [Rat.natCast_add, two_nat] at c'
  rw [Rat.natCast_add, two_nat] at d'
  generalize (pmv (p + 348).toNat : Rat) = pm at *
  have e1 : (2 : Rat) ^ (lpZ p - 1) = 2 ^ ((126 : Nat) : Int) * 2 ^ (lpZ p - 127) := by
    rw [← two_add]; congr 1; omega
  have e2 : (2 : Rat) ^ (lpZ p + 1) = 2 ^ ((128 : Nat) : Int) * 2 ^ (lpZ p - 127) := by
    rw [← two_add]; congr 1; omega
  rw [e1, e2]
  have t := two_pos (lpZ p - 127)
  generalize (2 : Rat) ^ (lpZ p - 127) = A at *
  have g1 := Rat.mul_le_mul_of_nonneg_right c' (Rat.le_of_lt t)
  have g2 := Rat.mul_le_mul_of_nonneg_right d' (Rat.le_of_lt t)
  have o : ((1 : Nat) : Rat) = 1 := rfl
  rw [o] at g1 g2
  constructor <;> grind
end Go.Proofs.YtjemobfhlfejlaaGreatDoor.Dc
namespace Go.Proofs.YtjemobfhlfejlaaGreatDoor.Dc
open Ie (rv rv_mk two_pos two_add two_nat two_lt Wd u53 inf_is)
theorem sgn_word (ng : Bool) (z : Nat) : sgn ng + z = Ieee.double.word ng z := by
  cases ng
  · rw [Ie.word_f]; show 0 + z = z; omega
  · rw [Ie.word_t]; rfl
theorem natR (a b : Nat) : ((a + b : Nat) : Rat) = (a : Rat) + b := Rat.natCast_add _ _
theorem mulR (a b : Nat) : ((a * b : Nat) : Rat) = (a : Rat) * b := Rat.natCast_mul _ _
theorem rung_near {m : Nat} {X : Int} {W : Rat} (ng : Bool) (m0 : 2 ^ 52 ≤ m) (m1 : m ≤ 2 ^ 53) (x0 : X ≤ 1074) (x1 : -971 ≤ X) (hm : m < 2 ^ 53 ∨ -970 ≤ X) {c : Rat} (c0 : 0 ≤ c) (c1 : c ≤ 2) (h1 : (m : Rat) * 2 ^ (-X) ≤ W + c * 2 ^ (-X)) (h2 : W ≤ (m : Rat) * 2 ^ (-X) + c * 2 ^ (-X)) :
    Wd (sgn ng + ((1074 - X).toNat * 2 ^ 52 + m)) ng W (2 * c + 1 / 100) := by
  refine ⟨(1074 - X).toNat * 2 ^ 52 + m, sgn_word _ _, by omega, by omega, ?_, ?_⟩
  all_goals
    rw [rv_mk _ _ m1 (Or.inl m0), show (((1074 - X).toNat : Nat) : Int) - 1074 = -X by omega, u53]
    have t := two_pos (-X)
    generalize (2 : Rat) ^ (-X) = A at *
    have a := cast_le m0
    have e : ((2 ^ 52 : Nat) : Rat) = 4503599627370496 := by decide +kernel
    rw [e] at a
    have b := Rat.mul_le_mul_of_nonneg_right a (Rat.le_of_lt t)
    generalize (m : Rat) * A = Z at *
    have cA : c * A ≤ 2 * A := Rat.mul_le_mul_of_nonneg_right c1 (Rat.le_of_lt t)
    have cA0 : 0 ≤ c * A := Rat.mul_nonneg c0 (Rat.le_of_lt t)
    have w : 4503599627370494 * A ≤ W := by grind
    have cw : c * (4503599627370494 * A) ≤ c * W := Rat.mul_le_mul_of_nonneg_left w c0
    grind
theorem pf_near {d : Nat} {p : Int} (ng : Bool) (d0 : d ≠ 0) (d1 : d < 2 ^ 64) (p0 : -345 ≤ p) (p1 : p ≤ 310) (lo : (10 : Rat) ^ (-290 : Int) ≤ (d : Rat) * 10 ^ p) (hi : (d : Rat) * 10 ^ p ≤ 10 ^ (290 : Int)) :
    pfE d p ≤ 1074 ∧ -971 ≤ pfX d p ∧ Wd (sgn ng + pfR d p) ng ((d : Rat) * 10 ^ p) 2 := by
  obtain ⟨b1, b2, b3, b4⟩ := blen d1 d0
  obtain ⟨t1, t2⟩ := ten_two (p := p) (by omega) (by omega)
  obtain ⟨q1, q2⟩ := pm_rat (p := p) (by omega) (by omega)
  obtain ⟨x0, x1⟩ := x_bd d0 d1
  obtain ⟨u0, u1⟩ := pfU_bd d0 d1 (p := p) (by omega) (by omega)
  obtain ⟨m0, m1⟩ := pfM_bd d0 d1 (p := p) (by omega) (by omega)
  obtain ⟨h0, h1, l1⟩ := pm_bd (i := (p + 348).toNat) (by omega)
  obtain ⟨n1, n2, _, _⟩ := us_near x0 x1 h0 h1 l1
  have UU : us (d * 2 ^ (64 - Lib.bitLen d)) (pmr (p + 348).toNat).1 (pmr (p + 348).toNat).2 8 = pfU d p := rfl
  have PV : (pmr (p + 348).toNat).1 * 2 ^ 64 - (pmr (p + 348).toNat).2 = pmv (p + 348).toNat := rfl
  rw [UU, PV] at n1 n2
  have EE : pfE d p = 53 - Lib.bitLen d - lpZ p := rfl
  have MM : pfM d p = (pfV d p + 1 + pfV d p / 4 % 2) / 4 := rfl
  have VV : pfV d p = if 2 ^ 55 - 2 ≤ pfU d p then (pfU d p / 2) ||| (pfU d p % 2) else pfU d p := rfl
  have XX : pfX d p = pfE d p - (if 2 ^ 55 - 2 ≤ pfU d p then 1 else 0) := rfl
  have RR : pfR d p = (1074 - pfX d p).toNat * 2 ^ 52 + pfM d p := rfl
  obtain ⟨b, hb⟩ : ∃ b, b = Lib.bitLen d := ⟨_, rfl⟩
  rw [← hb] at b1 b2 b3 b4 EE n1 n2 x0 x1
  have db3 := cast_le b3
  have db4 := Rat.le_of_lt (cast_lt b4)
  rw [two_nat] at db3 db4
  have w1 : (2 : Rat) ^ (((b - 1 : Nat) : Int) + (lpZ p - 1)) ≤ (d : Rat) * 10 ^ p := by
    rw [two_add]
    have g1 := Rat.mul_le_mul_of_nonneg_right db3 (Rat.le_of_lt (two_pos (lpZ p - 1)))
    have g2 := Rat.mul_le_mul_of_nonneg_left t1 (show (0 : Rat) ≤ (d : Rat) from Rat.le_trans (Rat.le_of_lt (two_pos _)) db3)
    exact Rat.le_trans g1 g2
  have w2 : (d : Rat) * 10 ^ p ≤ (2 : Rat) ^ ((b : Int) + (lpZ p + 1)) := by
    rw [two_add]
    have g1 := Rat.mul_le_mul_of_nonneg_right db4 (Rat.le_of_lt (ten_pos p))
    have g2 := Rat.mul_le_mul_of_nonneg_left t2 (Rat.le_of_lt (two_pos (b : Int)))
    exact Rat.le_trans g1 g2
  have k1 : (2 : Rat) ^ (-964 : Int) < 10 ^ (-290 : Int) := by decide +kernel
  have k2 : (10 : Rat) ^ (290 : Int) < 2 ^ (964 : Int) := by decide +kernel
  have r1 := two_lt (Std.lt_of_lt_of_le k1 (Rat.le_trans lo w2))
  have r2 := two_lt (Std.lt_of_le_of_lt (Rat.le_trans w1 hi) k2)
  have hE : pfE d p ≤ 1074 := by omega
  have hX : -964 ≤ pfX d p := by split at XX <;> omega
  have hX2 : pfX d p ≤ 1074 := by split at XX <;> omega
  refine ⟨hE, by omega, ?_⟩
  obtain ⟨W, hW⟩ : ∃ W, W = (d : Rat) * 10 ^ p := ⟨_, rfl⟩
  rw [← hW]
  have c1 := cast_le n1
  have c2 := cast_le n2
  simp only [natR, mulR, two_nat] at c1 c2
  have ex : (d : Rat) * 2 ^ (((64 - b : Nat)) : Int) * 10 ^ p = W * 2 ^ (((64 - b : Nat)) : Int) := by rw [hW]; grind
  have xpos : (0 : Rat) ≤ (d : Rat) * 2 ^ (((64 - b : Nat)) : Int) := by
    have := two_pos (((64 - b : Nat)) : Int)
    exact Rat.mul_nonneg (Rat.le_trans (Rat.le_of_lt (two_pos _)) db3) (Rat.le_of_lt this)
  have xhi : (d : Rat) * 2 ^ (((64 - b : Nat)) : Int) ≤ 18446744073709551616 := by
    have := cast_le (Nat.le_of_lt x1)
    rw [mulR, two_nat] at this
    have e : ((2 ^ 64 : Nat) : Rat) = 18446744073709551616 := by decide +kernel
    rw [e] at this
    exact this
  have v1 := Rat.mul_le_mul_of_nonneg_left q1 xpos
  have v2 := Rat.mul_le_mul_of_nonneg_left q2 xpos
  rw [Rat.mul_add, ex] at v1
  rw [ex, Rat.mul_add] at v2
  obtain ⟨Y, hY⟩ : ∃ Y, Y = (d : Rat) * 2 ^ (((64 - b : Nat)) : Int) := ⟨_, rfl⟩
  rw [← hY] at v1 v2 c1 c2 xpos xhi
  generalize hpm : (pmv (p + 348).toNat : Rat) = pm at *
  have sc : (2 : Rat) ^ (lpZ p - 127) * 2 ^ (-9 - lpZ p) = 2 ^ (-136 : Int) := by rw [← two_add, show lpZ p - 127 + (-9 - lpZ p) = -136 by omega]
  have sp := two_pos (-9 - lpZ p)
  have sT : W * 2 ^ (((64 - b : Nat)) : Int) * 2 ^ (-9 - lpZ p) = 4 * (W * 2 ^ pfE d p) := by
    have : (2 : Rat) ^ (((64 - b : Nat)) : Int) * 2 ^ (-9 - lpZ p) = 4 * 2 ^ pfE d p := by
      have e4 : (4 : Rat) = 2 ^ (2 : Int) := by decide +kernel
      rw [e4, ← two_add, ← two_add, show (((64 - b : Nat)) : Int) + (-9 - lpZ p) = 2 + pfE d p by omega]
    rw [Rat.mul_assoc, this]; grind
  have y1 := Rat.mul_le_mul_of_nonneg_right v1 (Rat.le_of_lt sp)
  have y2 := Rat.mul_le_mul_of_nonneg_right v2 (Rat.le_of_lt sp)
  rw [Rat.add_mul, sT] at y1
  rw [sT, Rat.add_mul] at y2
  have z1 : Y * (pm * 2 ^ (lpZ p - 127)) * 2 ^ (-9 - lpZ p) = Y * pm * 2 ^ (-136 : Int) := by rw [← sc]; grind
  have z2 : Y * 2 ^ (lpZ p - 127) * 2 ^ (-9 - lpZ p) = Y * 2 ^ (-136 : Int) := by rw [← sc]; grind
  rw [z1, z2] at y1 y2
  have k136 : (2 : Rat) ^ ((136 : Nat) : Int) * 2 ^ (-136 : Int) = 1 := by decide +kernel
  have k128 : (2 : Rat) ^ ((128 : Nat) : Int) * 2 ^ (-136 : Int) = 1 / 256 := by decide +kernel
  have s136 := two_pos (-136)
  have d1' := Rat.mul_le_mul_of_nonneg_right c1 (Rat.le_of_lt s136)
  have d2' := Rat.mul_le_mul_of_nonneg_right c2 (Rat.le_of_lt s136)
  have o2 : ((2 : Nat) : Rat) = 2 := rfl
  have tiny : Y * 2 ^ (-136 : Int) ≤ 1 / 1000 := by
    have := Rat.mul_le_mul_of_nonneg_right xhi (Rat.le_of_lt s136)
    have e : (18446744073709551616 : Rat) * 2 ^ (-136 : Int) ≤ 1 / 1000 := by decide +kernel
    exact Rat.le_trans this e
  obtain ⟨U, hU⟩ : ∃ U, U = pfU d p := ⟨_, rfl⟩
  rw [← hU] at d1' d2'
  have uW : (U : Rat) ≤ 4 * (W * 2 ^ pfE d p) + 51 / 50 ∧ 4 * (W * 2 ^ pfE d p) ≤ (U : Rat) + 51 / 50 := by
    rw [o2] at d2'
    generalize (2 : Rat) ^ ((136 : Nat) : Int) = A at *
    generalize (2 : Rat) ^ ((128 : Nat) : Int) = B at *
    generalize (2 : Rat) ^ (-136 : Int) = C at *
    have f1 : A * (U : Rat) * C = U := by
      have : A * (U : Rat) * C = U * (A * C) := by grind
      rw [this, k136, Rat.mul_one]
    have f2 : (Y * pm + A + B) * C = Y * pm * C + 1 + 1 / 256 := by rw [Rat.add_mul, Rat.add_mul, k136, k128]
    have f3 : (A * (U : Rat) + A + 2 * B) * C = U + 1 + 2 * (1 / 256) := by rw [Rat.add_mul, Rat.add_mul, k136, f1, Rat.mul_assoc, k128]
    rw [f1, f2] at d1'
    rw [f3] at d2'
    clear hpm hY q1 q2 v1 v2 z1 z2 sc sT c1 c2 ex f1 f2 f3 t1 t2 w1 w2 k1 k2 lo hi db3 db4
    constructor <;> grind
  obtain ⟨V, hV⟩ : ∃ V, V = pfV d p := ⟨_, rfl⟩
  obtain ⟨M, hM⟩ : ∃ M, M = pfM d p := ⟨_, rfl⟩
  obtain ⟨X, hXX⟩ : ∃ X, X = pfX d p := ⟨_, rfl⟩
  rw [← hU, ← hV] at VV
  rw [← hU, ← hXX] at XX
  rw [← hV, ← hM] at MM
  rw [← hXX, ← hM] at RR
  rw [← hXX] at hX hX2
  rw [← hM] at m0 m1
  have vW : (V : Rat) ≤ 4 * (W * 2 ^ X) + 51 / 50 ∧ 4 * (W * 2 ^ X) ≤ (V : Rat) + 51 / 50 := by
    by_cases c : 2 ^ 55 - 2 ≤ U
    · rw [if_pos c] at VV XX
      have o := or1 (a := U / 2) (b := U % 2) (by omega)
      have par := Nat.or_mod_two_pow (a := U / 2) (b := U % 2) (n := 1)
      have e1 := cast_le (show 2 * V ≤ U + 1 by
        rcases Nat.mod_two_eq_zero_or_one U with h | h
        · rw [h, Nat.or_zero] at VV; omega
        · omega)
      have e2 := cast_le (show U ≤ 2 * V + 1 by omega)
      rw [mulR, natR] at e1
      rw [natR, mulR] at e2
      have hx : (2 : Rat) ^ pfE d p = 2 * 2 ^ X := by
        have : pfE d p = 1 + X := by omega
        rw [this, two_add]; rfl
      rw [hx] at uW
      have o1 : ((1 : Nat) : Rat) = 1 := rfl
      rw [o2, o1] at e1 e2
      have hq : W * (2 * 2 ^ X) = 2 * (W * 2 ^ X) := by grind
      rw [hq] at uW
      clear hq
      generalize W * 2 ^ X = Q at *
      clear hpm hY q1 q2 v1 v2 z1 z2 sc sT c1 c2 ex t1 t2 w1 w2 k1 k2 lo hi db3 db4 hx y1 y2 d1' d2'
      constructor <;> grind
    · rw [if_neg c] at VV XX
      have : X = pfE d p := by omega
      rw [VV, this]; exact uW
  have mW1 := cast_le (show 4 * M ≤ V + 2 by omega)
  have mW2 := cast_le (show V ≤ 4 * M + 2 by omega)
  rw [mulR, natR, o2] at mW1
  rw [natR, mulR, o2] at mW2
  have o4 : ((4 : Nat) : Rat) = 4 := rfl
  rw [o4] at mW1 mW2
  rw [RR]
  have mul1 : W * 2 ^ X * 2 ^ (-X) = W := by rw [Rat.mul_assoc, Ie.two_add X (-X) |>.symm, Int.add_right_neg, Rat.zpow_zero, Rat.mul_one]
  have tX := two_pos (-X)
  have a1 : (M : Rat) ≤ W * 2 ^ X + 31 / 40 := by
    clear hpm hY q1 q2 v1 v2 z1 z2 sc sT c1 c2 ex t1 t2 w1 w2 k1 k2 lo hi db3 db4 y1 y2 d1' d2' mul1
    grind
  have a2 : W * 2 ^ X ≤ (M : Rat) + 31 / 40 := by
    clear hpm hY q1 q2 v1 v2 z1 z2 sc sT c1 c2 ex t1 t2 w1 w2 k1 k2 lo hi db3 db4 y1 y2 d1' d2' mul1
    grind
  have g1 := Rat.mul_le_mul_of_nonneg_right a1 (Rat.le_of_lt tX)
  have g2 := Rat.mul_le_mul_of_nonneg_right a2 (Rat.le_of_lt tX)
  rw [Rat.add_mul, mul1] at g1
  rw [mul1, Rat.add_mul] at g2
  have fin := rung_near (m := M) (X := X) (W := W) ng m0 (by omega) hX2 (by omega) (.inl m1) (c := 31 / 40) (by decide +kernel) (by decide +kernel) g1 g2
  obtain ⟨z, f1, f2, f3, f4, f5⟩ := fin.ex
  have wpos : 0 ≤ W := by rw [hW]; exact Rat.le_trans (Rat.le_of_lt (ten_pos _)) lo
  refine ⟨z, f1, f2, f3, ?_, ?_⟩
  · rw [u53] at f4 ⊢; grind
  · rw [u53] at f5 ⊢; grind
end Go.Proofs.YtjemobfhlfejlaaGreatDoor.Dc
namespace Go.Proofs.YtjemobfhlfejlaaGreatDoor.Sp
open Go Go.RowKit Go.Proofs.YtjemobfhlfejlaaGreatDoorW.PrintWords Go.Proofs.YtjemobfhlfejlaaGreatDoorW.PrintLast Go.Proofs.YtjemobfhlfejlaaGreatDoorW.PrintMore Go.Proofs.YtjemobfhlfejlaaGreatDoor.PFnFjFloatNear
open Ie (rv rv_mk two_pos two_add two_nat u53)
open Dc (ten_pos ten_add ten_nat ten_neg two_neg cast_le cast_lt natR mulR)
theorem scaled_f {s : ByteArray} (hs : s.size ≤ 800) (hd : ∀ i, i < s.size → Dc.IsD (Dc.bt s i)) {m : Nat} (hm : m < 18446744073709551616) {e p : Int} (e0 : -1100 ≤ e) (e1 : e ≤ 1000) (p0 : -1300 ≤ p) (p1 : p ≤ 500) (b : Bool) {k : Nat} (hk : 20000 ≤ k) :
    spec_scaled.f k (m : Int) e b s p = some (sg (m * 2 ^ e.toNat * 10 ^ (-p).toNat) (tdv s s.size * 2 ^ (-e).toNat * 10 ^ p.toNat)) := by
  obtain ⟨x, x1, x2, x3, x4⟩ := ofWord_f hm (k := k) (by omega)
  obtain ⟨y, y1, y2, y3, y4⟩ := digits_f (by omega) hd (k := k) (by omega)
  have join : ∀ u v : List Int, Nm u → Nm v → u.length ≤ 900 → v.length ≤ 900 → ∀ X Y : Nat, nv u = X → nv v = Y → spec_scaled.j0 k u v b s p = some (sg (X * 10 ^ (-p).toNat) (Y * 10 ^ p.toNat)) := by
    intro u v hu hv lu lv X Y hX hY
    obtain ⟨k, rfl⟩ : ∃ j, k = j + 1 := ⟨k - 1, by omega⟩
    simp only [spec_scaled.j0]
    by_cases c : p > 0
    · rw [if_pos c]
      obtain ⟨n, hn⟩ : ∃ n : Nat, p = (n : Int) := ⟨p.toNat, by omega⟩
      obtain ⟨r, h1, h2, h3, h4⟩ := tens_f n k v (by omega) hv (by omega)
      rw [hn, h1, Option.bind_some, against_f hu h3 (by omega) (by omega) (by omega), Option.bind_some, h2, hX, hY, Int.toNat_natCast, show (-(n : Int)).toNat = 0 by omega, Nat.pow_zero, Nat.mul_one]
    · rw [if_neg c]
      obtain ⟨n, hn⟩ : ∃ n : Nat, -p = (n : Int) := ⟨(-p).toNat, by omega⟩
      have e : wrap64 (-p) = (n : Int) := by unfold wrap64; omega
      obtain ⟨r, h1, h2, h3, h4⟩ := tens_f n k u (by omega) hu (by omega)
      rw [e, h1, Option.bind_some, against_f h3 hv (by omega) (by omega) (by omega), Option.bind_some, h2, hX, hY, hn, Int.toNat_natCast, show p.toNat = 0 by omega, Nat.pow_zero, Nat.mul_one]
  unfold spec_scaled.f
  rw [x1, Option.bind_some, y1, Option.bind_some]
  by_cases c : e > 0
  · rw [if_pos c]
    obtain ⟨n, hn⟩ : ∃ n : Nat, e = (n : Int) := ⟨e.toNat, by omega⟩
    obtain ⟨r, h1, h2, h3, h4⟩ := shift_f x3 (n := n) (by omega) (by omega) (k := k) (by omega)
    rw [hn, h1, Option.bind_some, join r y h3 y3 (by omega) (by omega) _ _ h2 y2, x2, Int.toNat_natCast, show (-(n : Int)).toNat = 0 by omega, Nat.pow_zero, Nat.mul_one]
  · rw [if_neg c]
    obtain ⟨n, hn⟩ : ∃ n : Nat, -e = (n : Int) := ⟨(-e).toNat, by omega⟩
    have ee : wrap64 (-e) = (n : Int) := by unfold wrap64; omega
    obtain ⟨r, h1, h2, h3, h4⟩ := shift_f y3 (n := n) (by omega) (by omega) (k := k) (by omega)
    rw [ee, h1, Option.bind_some, join x r x3 h3 (by omega) (by omega) _ _ x2 h2, y2, hn, Int.toNat_natCast, show e.toNat = 0 by omega, Nat.pow_zero, Nat.mul_one]
theorem two_split (e : Int) : (2 : Rat) ^ e * ((2 ^ (-e).toNat : Nat) : Rat) = ((2 ^ e.toNat : Nat) : Rat) := by
  rw [two_nat, two_nat, ← two_add, show e + ((-e).toNat : Int) = (e.toNat : Int) by omega]
theorem ten_split (e : Int) : (10 : Rat) ^ e * ((10 ^ (-e).toNat : Nat) : Rat) = ((10 ^ e.toNat : Nat) : Rat) := by
  rw [ten_nat, ten_nat, ← ten_add, show e + ((-e).toNat : Int) = (e.toNat : Int) by omega]
theorem sg_rat (m N : Nat) (e p : Int) (r : Int) (hr : r = sg (m * 2 ^ e.toNat * 10 ^ (-p).toNat) (N * 2 ^ (-e).toNat * 10 ^ p.toNat)) :
    (r < 0 → (m : Rat) * 2 ^ e < (N : Rat) * 10 ^ p) ∧ (r = 0 → (m : Rat) * 2 ^ e = (N : Rat) * 10 ^ p) ∧ (0 < r → (N : Rat) * 10 ^ p < (m : Rat) * 2 ^ e) ∧ (r < 0 ∨ r = 0 ∨ r > 0) := by
  obtain ⟨C, hC⟩ : ∃ C : Rat, C = ((2 ^ (-e).toNat : Nat) : Rat) * ((10 ^ (-p).toNat : Nat) : Rat) := ⟨_, rfl⟩
  have Cp : 0 < C := by
    rw [hC]
    refine Rat.mul_pos ?_ ?_
    · have := cast_lt (show 0 < 2 ^ (-e).toNat from Nat.pow_pos (by decide)); exact this
    · have := cast_lt (show 0 < 10 ^ (-p).toNat from Nat.pow_pos (by decide)); exact this
  have f1 : ((m * 2 ^ e.toNat * 10 ^ (-p).toNat : Nat) : Rat) = (m : Rat) * 2 ^ e * C := by
    rw [mulR, mulR, ← two_split, hC]; grind
  have f2 : ((N * 2 ^ (-e).toNat * 10 ^ p.toNat : Nat) : Rat) = (N : Rat) * 10 ^ p * C := by
    rw [mulR, mulR, ← ten_split, hC]; grind
  generalize hX : m * 2 ^ e.toNat * 10 ^ (-p).toNat = X at *
  generalize hY : N * 2 ^ (-e).toNat * 10 ^ p.toNat = Y at *
  unfold sg at hr
  by_cases c : X < Y
  · rw [if_pos c] at hr
    have g := cast_lt c
    rw [f1, f2] at g
    have g2 := Rat.lt_of_mul_lt_mul_right g (Rat.le_of_lt Cp)
    refine ⟨fun _ => g2, fun h => by omega, fun h => by omega, by omega⟩
  · rw [if_neg c] at hr
    by_cases d : Y < X
    · rw [if_pos d] at hr
      have g := cast_lt d
      rw [f1, f2] at g
      have g2 := Rat.lt_of_mul_lt_mul_right g (Rat.le_of_lt Cp)
      refine ⟨fun h => by omega, fun h => by omega, fun _ => g2, by omega⟩
    · rw [if_neg d] at hr
      have ee : X = Y := by omega
      rw [ee, f2] at f1
      have g2 : (N : Rat) * 10 ^ p = (m : Rat) * 2 ^ e := by
        have k1 : ∀ a : Rat, a * C * (1 / C) = a := fun a => by grind
        rw [← k1 ((N : Rat) * 10 ^ p), f1, k1]
      refine ⟨fun h => by omega, fun _ => g2.symm, fun h => by omega, by omega⟩
theorem binary_f {b : Nat} (hb : b < 2047 * 2 ^ 52) : ∃ (m : Nat) (e : Int), spec_binary.f (b : Int) = some ((m : Int), e) ∧ m < 2 ^ 53 ∧ -1074 ≤ e ∧ e ≤ 971 ∧ rv b = (m : Rat) * 2 ^ e ∧ (2 ^ 52 ≤ b → 2 ^ 52 ≤ m ∧ rv (b + 1) = ((m + 1 : Nat) : Rat) * 2 ^ e) := by
  have a1 := bits_mask .u64 64 (by decide) Dc.wraps_u64 52 (by decide) (b : Int) (by omega) (by omega)
  have ek : ((2 : Int) ^ 52 - 1) = 4503599627370495 := rfl
  rw [ek] at a1
  have a2 : (b : Int) % 2 ^ 52 = ((b % 2 ^ 52 : Nat) : Int) := by omega
  rw [a2] at a1
  have w1 : wrap64 ((b : Int) / 4503599627370496) = ((b / 2 ^ 52 : Nat) : Int) := by unfold wrap64; omega
  unfold spec_binary.f
  rw [w1, a1]
  by_cases c : b / 2 ^ 52 = 0
  · rw [if_pos (by omega)]
    refine ⟨b % 2 ^ 52, -1074, rfl, by omega, by omega, by omega, ?_, fun h => by omega⟩
    unfold rv
    rw [if_pos (by omega), show b % 2 ^ 52 = b by omega]
  · rw [if_neg (by omega)]
    have h6 := Dc.or_hi (a := 1) (b := b % 2 ^ 52) (i := 52) (by omega) (by omega)
    have e6 : ((2 ^ 52 * 1 : Nat) : Int) = 4503599627370496 := rfl
    rw [e6] at h6
    have w2 : wrap64 (((b / 2 ^ 52 : Nat) : Int) - 1075) = ((b / 2 ^ 52 : Nat) : Int) - 1075 := by unfold wrap64; omega
    rw [h6, w2, Nat.mul_one]
    refine ⟨2 ^ 52 + b % 2 ^ 52, ((b / 2 ^ 52 : Nat) : Int) - 1075, rfl, by omega, by omega, by omega, ?_, fun _ => ⟨by omega, ?_⟩⟩
    · unfold rv
      rw [if_neg (by omega)]
    · have q := rv_mk (b / 2 ^ 52 - 1) (2 ^ 52 + b % 2 ^ 52 + 1) (by omega) (.inl (by omega))
      rw [show (b / 2 ^ 52 - 1) * 2 ^ 52 + (2 ^ 52 + b % 2 ^ 52 + 1) = b + 1 by omega, show ((b / 2 ^ 52 - 1 : Nat) : Int) - 1074 = ((b / 2 ^ 52 : Nat) : Int) - 1075 by omega] at q
      exact q
def NearTo (V : Rat) (R : Nat) : Prop := 2 ^ 52 < R → R < 2047 * 2 ^ 52 → 0 < V ∧ rv R ≤ V + V * 2 ^ (-53 : Int) ∧ V - V * 2 ^ (-53 : Int) ≤ rv R
theorem nearest_l0 {s : ByteArray} (hs : s.size ≤ 800) (hd : ∀ i, i < s.size → Dc.IsD (Dc.bt s i)) {p : Int} (p0 : -1300 ≤ p) (p1 : p ≤ 500) (b : Bool) {V : Rat} (hV : V = (tdv s s.size : Rat) * 10 ^ p) :
    ∀ d lo hi k : Nat, hi - lo ≤ d → lo < hi → hi ≤ 2047 * 2 ^ 52 → 20000 + d < k → (lo = 0 ∨ rv lo ≤ V) → (hi = 2047 * 2 ^ 52 ∨ V < rv hi) →
      ∃ R : Nat, spec_nearest.l0 k (lo : Int) (hi : Int) b s p = some (R : Int) ∧ R ≤ 2047 * 2 ^ 52 ∧ NearTo V R := by
  intro d
  induction d with
  | zero => intro lo hi k h1 h2; omega
  | succ d ih =>
    intro lo hi k h1 h2 h3 hk hlo hhi
    obtain ⟨k, rfl⟩ : ∃ j, k = j + 1 := ⟨k - 1, by omega⟩
    simp only [spec_nearest.l0]
    have w1 : IntKind.u64.wrap ((hi : Int) - (lo : Int)) = ((hi - lo : Nat) : Int) := by
      rw [show (hi : Int) - (lo : Int) = ((hi - lo : Nat) : Int) by omega]; exact u64w (by omega) (by omega)
    rw [w1]
    by_cases c : 1 < hi - lo
    · rw [if_pos (by omega)]
      have w2 : Int.tdiv ((hi - lo : Nat) : Int) 2 = (((hi - lo) / 2 : Nat) : Int) := by rw [Int.tdiv_eq_ediv_of_nonneg (by omega)]; omega
      obtain ⟨mid, hmid⟩ : ∃ mid, mid = lo + (hi - lo) / 2 := ⟨_, rfl⟩
      have w3 : IntKind.u64.wrap ((((hi - lo) / 2 : Nat)) : Int) = (((hi - lo) / 2 : Nat) : Int) := u64w (by omega) (by omega)
      have w4 : IntKind.u64.wrap ((lo : Int) + (((hi - lo) / 2 : Nat) : Int)) = (mid : Int) := by
        rw [show (lo : Int) + (((hi - lo) / 2 : Nat) : Int) = (mid : Int) by omega]; exact u64w (by omega) (by omega)
      rw [w2, w3, w4]
      obtain ⟨m, e, g1, g2, g3, g4, g5, g6⟩ := binary_f (b := mid) (by omega)
      rw [g1, Option.bind_some]
      have sc := scaled_f hs hd (m := m) (by omega) (e := e) (p := p) (by omega) (by omega) p0 p1 b (k := k) (by omega)
      dsimp only
      rw [sc, Option.bind_some]
      obtain ⟨q1, q2, q3, q4⟩ := sg_rat m (tdv s s.size) e p _ rfl
      rw [← g5, ← hV] at q1 q2 q3
      generalize sg (m * 2 ^ e.toNat * 10 ^ (-p).toNat) (tdv s s.size * 2 ^ (-e).toNat * 10 ^ p.toNat) = r at *
      by_cases cr : r ≤ 0
      · rw [if_pos cr]
        refine ih mid hi k (by omega) (by omega) h3 (by omega) (.inr ?_) hhi
        rcases q4 with h | h | h
        · exact Rat.le_of_lt (q1 h)
        · rw [q2 h]; exact Rat.le_refl
        · omega
      · rw [if_neg cr]
        exact ih lo mid k (by omega) (by omega) (by omega) (by omega) hlo (.inr (q3 (by omega)))
    · rw [if_neg (by omega)]
      have hh : hi = lo + 1 := by omega
      obtain ⟨m, e, g1, g2, g3, g4, g5, g6⟩ := binary_f (b := lo) (by omega)
      rw [g1, Option.bind_some]
      dsimp only
      have w5 : IntKind.u64.wrap (2 * (m : Int)) = ((2 * m : Nat) : Int) := by
        rw [show 2 * (m : Int) = ((2 * m : Nat) : Int) by omega]; exact u64w (by omega) (by omega)
      have w6 : IntKind.u64.wrap (((2 * m : Nat) : Int) + 1) = ((2 * m + 1 : Nat) : Int) := by
        rw [show ((2 * m : Nat) : Int) + 1 = ((2 * m + 1 : Nat) : Int) by omega]; exact u64w (by omega) (by omega)
      have w7 : wrap64 (e - 1) = e - 1 := by unfold wrap64; omega
      have w8 : IntKind.u64.wrap ((lo : Int) + 1) = ((lo + 1 : Nat) : Int) := by
        rw [show (lo : Int) + 1 = ((lo + 1 : Nat) : Int) by omega]; exact u64w (by omega) (by omega)
      rw [w5, w6, w7, w8]
      have sc := scaled_f hs hd (m := 2 * m + 1) (by omega) (e := e - 1) (p := p) (by omega) (by omega) p0 p1 b (k := k) (by omega)
      rw [sc, Option.bind_some]
      obtain ⟨q1, q2, q3, q4⟩ := sg_rat (2 * m + 1) (tdv s s.size) (e - 1) p _ rfl
      rw [← hV] at q1 q2 q3
      generalize sg ((2 * m + 1) * 2 ^ (e - 1).toNat * 10 ^ (-p).toNat) (tdv s s.size * 2 ^ (-(e - 1)).toNat * 10 ^ p.toNat) = r at *
      have half : (2 : Rat) ^ e = 2 * 2 ^ (e - 1) := by
        have : e = 1 + (e - 1) := by omega
        conv => lhs; rw [this, two_add]
        rfl
      have hm1 : ((2 * m + 1 : Nat) : Rat) * 2 ^ (e - 1) = (m : Rat) * 2 ^ e + 2 ^ (e - 1) := by
        rw [natR, mulR, half]
        have o : ((1 : Nat) : Rat) = 1 := rfl
        have o2 : ((2 : Nat) : Rat) = 2 := rfl
        rw [o, o2]; grind
      have ep := two_pos (e - 1)
      have big : 2 ^ 52 ≤ lo → 9007199254740992 * 2 ^ (e - 1) ≤ rv lo := fun h => by
        have a := cast_le (g6 h).1
        have k52 : ((2 ^ 52 : Nat) : Rat) = 4503599627370496 := by decide +kernel
        rw [k52] at a
        have := Rat.mul_le_mul_of_nonneg_right a (Rat.le_of_lt (two_pos e))
        rw [g5]
        rw [half] at this ⊢
        grind
      have up : 2 ^ 52 ≤ lo → rv (lo + 1) = rv lo + 2 * 2 ^ (e - 1) := fun h => by
        rw [(g6 h).2, g5, natR, half]
        have o : ((1 : Nat) : Rat) = 1 := rfl
        rw [o]; grind
      rw [hm1, ← g5] at q1 q2 q3
      have yes : (rv lo + 2 ^ (e - 1) ≤ V) → NearTo V (lo + 1) := fun hle a1 a2 => by
        have hb := big (by omega)
        have hu := up (by omega)
        have hlt : V < rv (lo + 1) := by
          rcases hhi with h | h
          · omega
          · rw [← hh]; exact h
        rw [u53]
        refine ⟨by grind, by grind, by grind⟩
      have no : (V ≤ rv lo + 2 ^ (e - 1)) → NearTo V lo := fun hle a1 a2 => by
        have hb := big (by omega)
        have hlt : rv lo ≤ V := by
          rcases hlo with h | h
          · omega
          · exact h
        rw [u53]
        refine ⟨by grind, by grind, by grind⟩
      by_cases c1 : r < 0
      · rw [if_pos c1]
        exact ⟨lo + 1, rfl, by omega, yes (Rat.le_of_lt (q1 c1))⟩
      · rw [if_neg c1]
        by_cases c2 : r = 0
        · rw [if_pos c2]
          have eq := q2 c2
          split
          · exact ⟨lo + 1, rfl, by omega, yes (by rw [eq]; exact Rat.le_refl)⟩
          · exact ⟨lo, rfl, by omega, no (by rw [eq]; exact Rat.le_refl)⟩
        · rw [if_neg c2]
          exact ⟨lo, rfl, by omega, no (Rat.le_of_lt (q3 (by omega)))⟩
theorem nearest_f {s : ByteArray} (hs : s.size ≤ 800) (hd : ∀ i, i < s.size → Dc.IsD (Dc.bt s i)) {p : Int} (p0 : -1300 ≤ p) (p1 : p ≤ 500) (b : Bool) :
    ∃ (k R : Nat), spec_nearest.f k b s p = some (R : Int) ∧ R ≤ 2047 * 2 ^ 52 ∧ NearTo ((tdv s s.size : Rat) * 10 ^ p) R := by
  obtain ⟨R, h⟩ := nearest_l0 hs hd p0 p1 b rfl (2047 * 2 ^ 52) 0 (2047 * 2 ^ 52) (20000 + 2047 * 2 ^ 52 + 1) (by omega) (by decide) (Nat.le_refl _) (by omega) (.inl rfl) (.inl rfl)
  exact ⟨_, R, h⟩
end Go.Proofs.YtjemobfhlfejlaaGreatDoor.Sp
namespace Go.Proofs.YtjemobfhlfejlaaGreatDoor.Sp
open Ieee Ie
theorem near_steps {V : Rat} {R f : Nat} {ng : Bool} (R1 : 2 ^ 52 < R) (R2 : R < 2047 * 2 ^ 52) (hN : NearTo V R) (hf : Wd f ng V 8) : ∃ z, f = double.word ng z ∧ 2 ^ 52 ≤ z ∧ z < 2047 * 2 ^ 52 ∧ z ≤ R + 10 ∧ R ≤ z + 10 := by
  obtain ⟨v0, n1, n2⟩ := hN R1 R2
  obtain ⟨z, h1, h2, h3, h4, h5⟩ := hf.ex
  exact ⟨z, h1, h2, h3, near_down (by omega) v0 h4 n2, near_up h2 v0 h5 n1⟩
def wLo : Nat := 418002527998569348
def wHi : Nat := 8795988553143856240
theorem wLo_rv : (10 : Rat) ^ (-281 : Int) * 2 ≤ rv wLo := by decide +kernel
theorem wHi_rv : rv wHi * 2 ≤ (10 : Rat) ^ (281 : Int) := by decide +kernel
end Go.Proofs.YtjemobfhlfejlaaGreatDoor.Sp
namespace Go.Proofs.YtjemobfhlfejlaaGreatDoor.Sp
open Ieee Ie Go
theorem read_nn {r : Nat} (h : r < 2047 * 2 ^ 52) : ∃ (m : Nat) (e : Int), double.read r = .number false m e ∧ rv r = (m : Rat) * 2 ^ e := by
  rcases Nat.lt_or_ge r (2 ^ 52) with c | c
  · have sw : double.signWeight = 2 ^ 63 := by decide +kernel
    have bi : double.binade = 2 ^ 52 := rfl
    have lp : double.leastPlace = -1074 := by decide +kernel
    refine ⟨r, -1074, ?_, ?_⟩
    · unfold Format.read
      dsimp only
      rw [sw, bi, lp, Nat.mod_eq_of_lt (by omega), Nat.div_eq_of_lt (by omega), if_pos c]
      rfl
    · unfold rv
      rw [if_pos c]
  · obtain ⟨m, e, h1, _, _, h2, _⟩ := read_word false r c (by rw [inf_is]; exact h)
    exact ⟨m, e, h1, h2⟩
theorem up_rat (m : Nat) {i b : Int} (h : b ≤ i) : (m : Rat) * 2 ^ i = ((m * 2 ^ (i - b).toNat : Nat) : Rat) * 2 ^ b := by
  rw [Rat.natCast_mul, two_nat, show (((i - b).toNat : Nat) : Int) = i - b by omega, Rat.mul_assoc, ← two_add, show i - b + b = i by omega]
theorem signed_f_ (m k : Nat) : Ieee.signed false m k = ((m * 2 ^ k : Nat) : Int) := by
  unfold Ieee.signed
  rw [if_neg (by decide), Nat.shiftLeft_eq]
theorem order_le {r q : Nat} (hr : r < 2047 * 2 ^ 52) (hq : q < 2047 * 2 ^ 52) (h : (double.order r q == some .lt || double.order r q == some .eq) = true) : rv r ≤ rv q := by
  obtain ⟨m, i, h1, h2⟩ := read_nn hr
  obtain ⟨n, j, h3, h4⟩ := read_nn hq
  unfold Format.order at h
  rw [h1, h3] at h
  unfold Datum.order at h
  dsimp only at h
  rw [signed_f_, signed_f_] at h
  have b1 : min i j ≤ i := Int.min_le_left _ _
  have b2 : min i j ≤ j := Int.min_le_right _ _
  rw [h2, h4, up_rat m b1, up_rat n b2]
  apply Rat.mul_le_mul_of_nonneg_right _ (Rat.le_of_lt (two_pos _))
  apply Rat.natCast_le_natCast.mpr
  generalize m * 2 ^ (i - min i j).toNat = A at *
  generalize n * 2 ^ (j - min i j).toNat = B at *
  apply Classical.byContradiction
  intro c
  have : compare (A : Int) (B : Int) = .gt := Int.compare_eq_gt.mpr (by omega)
  rw [this] at h
  simp at h
theorem order_inf {q : Nat} (hq : q < 2047 * 2 ^ 52) : (double.order (2047 * 2 ^ 52) q == some .lt || double.order (2047 * 2 ^ 52) q == some .eq) = false := by
  obtain ⟨n, j, h3, h4⟩ := read_nn hq
  have h1 : double.read (2047 * 2 ^ 52) = .infinity false := by decide +kernel
  unfold Format.order
  rw [h1, h3]
  rfl
theorem rv_small {r : Nat} (h : r ≤ 2 ^ 52) : rv r ≤ 2 ^ (-1022 : Int) := by
  rcases Nat.lt_or_ge r (2 ^ 52) with c | c
  · unfold rv
    rw [if_pos c]
    have e : (2 : Rat) ^ (-1022 : Int) = ((2 ^ 52 : Nat) : Rat) * 2 ^ (-1074 : Int) := by decide +kernel
    rw [e]
    exact Rat.mul_le_mul_of_nonneg_right (Rat.natCast_le_natCast.mpr h) (Rat.le_of_lt (two_pos _))
  · have : r = 2 ^ 52 := by omega
    subst this
    decide +kernel
theorem guard_sizes {V : Rat} {R : Nat} (hR : R ≤ 2047 * 2 ^ 52) (h1 : (double.order wLo R == some .lt || double.order wLo R == some .eq) = true) (h2 : (double.order R wHi == some .lt || double.order R wHi == some .eq) = true) (hN : NearTo V R) :
    2 ^ 52 < R ∧ R < 2047 * 2 ^ 52 ∧ 0 < V ∧ (10 : Rat) ^ (-281 : Int) ≤ V ∧ V ≤ (10 : Rat) ^ (281 : Int) := by
  have a1 : wLo < 2047 * 2 ^ 52 := by decide
  have a2 : wHi < 2047 * 2 ^ 52 := by decide
  have hlt : R < 2047 * 2 ^ 52 := by
    apply Classical.byContradiction
    intro c
    have : R = 2047 * 2 ^ 52 := by omega
    rw [this, order_inf a2] at h2
    exact absurd h2 (by decide)
  have m1 := order_le a1 hlt h1
  have m2 := order_le hlt a2 h2
  have l1 := wLo_rv
  have l2 := wHi_rv
  have p1 := Dc.ten_pos (-281)
  have hgt : 2 ^ 52 < R := by
    apply Classical.byContradiction
    intro c
    have s := rv_small (r := R) (by omega)
    have k : (2 : Rat) ^ (-1022 : Int) < 10 ^ (-281 : Int) := by decide +kernel
    grind
  obtain ⟨v0, n1, n2⟩ := hN hgt hlt
  rw [u53] at n1 n2
  refine ⟨hgt, hlt, v0, ?_, ?_⟩
  · grind
  · grind
theorem order_self {x : Nat} {ng : Bool} {v c : Rat} (h : Wd x ng v c) : (double.order x x == some .eq) = true := by
  obtain ⟨z, h1, h2, h3, _, _⟩ := h.ex
  obtain ⟨m, e, g1, _⟩ := read_word ng z h2 (by rw [inf_is]; exact h3)
  rw [h1]
  unfold Format.order
  rw [g1]
  unfold Datum.order
  dsimp only
  rw [Int.compare_eq_eq.mpr rfl]
  rfl
theorem abs_bit (ng : Bool) {R : Nat} (h : R < 2 ^ 63) : bits .andNot .u64 ((double.word ng R : Nat) : Int) 9223372036854775808 = (R : Int) := by
  have h1 := u64_andNot_nat (double.word ng R) 9223372036854775808 (by cases ng; rw [word_f]; omega; rw [word_t]; omega) (by decide)
  have e : ((9223372036854775808 : Nat) : Int) = 9223372036854775808 := rfl
  rw [e] at h1
  rw [h1]
  have c : (18446744073709551615 - 9223372036854775808 : Nat) = 2 ^ 63 - 1 := by decide
  rw [c, Nat.and_two_pow_sub_one_eq_mod]
  cases ng
  · rw [word_f, Nat.mod_eq_of_lt h]
  · rw [word_t, Nat.add_mod_left, Nat.mod_eq_of_lt h]
theorem or_sign {R : Nat} (h : R < 2 ^ 63) : bits .or .u64 (R : Int) 9223372036854775808 = ((double.word true R : Nat) : Int) := by
  have h3 := (bits_nat .u64 64 (by decide) Dc.wraps_u64 R 9223372036854775808 (by omega) (by decide)).2
  have e : ((9223372036854775808 : Nat) : Int) = 9223372036854775808 := rfl
  rw [e] at h3
  rw [h3, word_t]
  congr 1
  rw [show (9223372036854775808 : Nat) = 2 ^ 63 * 1 from rfl, Nat.or_comm, ← Nat.two_pow_add_eq_or_of_lt h]
end Go.Proofs.YtjemobfhlfejlaaGreatDoor.Sp
