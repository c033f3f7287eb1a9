/- Walks and plain laws on the way to FnFjFloatNear. No condition but what each lemma states. -/
import Derived.Test.YtjemobfhlfejlaaGreatDoorFbL
set_option linter.unusedVariables false
set_option linter.unusedSimpArgs false
namespace Go.Proofs.YtjemobfhlfejlaaGreatDoor.Dc
open Go Go.RowKit
attribute [local go_sem] unary_neg_f
open Ie (fmul fdiv tab post negt ftab powUp powDn Wd)
theorem TF.mono {w : World} {B B' : Nat} (h : TF w B) (hB : B ≤ B') : TF w B' := by
  obtain ⟨⟨h1, h2, ⟨lb, lo, c, h3, h4⟩, h5⟩, h6, h7, h8, h9⟩ := h
  exact ⟨⟨h1.mono hB, h2, ⟨lb, lo, c, Nat.lt_of_lt_of_le h3 hB, h4⟩, h5⟩, h6, h7, h8, h9⟩
section
variable (s : ByteArray) (i0 i1 i2 j0 : Nat) (ng es : Bool)
def ffSlow : Prop := 19 ≤ i1 ∨ (i1 < i2 ∧ 17 ≤ i2 - i0) ∨ (i2 < s.size ∧ 300 < exv s j0)
def ffA : Nat := if i1 < i2 then fdiv (floatOfInt .f64 (tkM s i0 i2 : Int)) (ftab.getD (frl i1 i2) 0) else floatOfInt .f64 (tkM s i0 i2 : Int)
def ffB : Nat := if i2 < s.size then fmul (ffA s i0 i1 i2) (powZ (if es then -(exv s j0 : Int) else (exv s j0 : Int))) else ffA s i0 i1 i2
def ffR : Nat := if ng then Op.negFloat .f64 (ffB s i0 i1 i2 j0 es) else ffB s i0 i1 i2 j0 es
def FFIs (f : Nat) : Prop := (ffSlow s i0 i1 i2 j0 → PFIs (tkM s i0 i2) (tkP s i1 i2 j0 es) ng f) ∧ (¬ ffSlow s i0 i1 i2 j0 → f = ffR s i0 i1 i2 j0 ng es)
end
theorem FFIs.uniq {s : ByteArray} {i0 i1 i2 j0 : Nat} {ng es : Bool} {f g : Nat} (h : FFIs s i0 i1 i2 j0 ng es f) (k : FFIs s i0 i1 i2 j0 ng es g) : f = g := by
  by_cases c : ffSlow s i0 i1 i2 j0
  · exact (h.1 c).uniq (k.1 c)
  · rw [h.2 c, k.2 c]
inductive IsFF (s : ByteArray) (i0 i1 i2 j0 : Nat) (ng es : Bool) : Ending → Prop
  | mk (f : Nat) (h : FFIs s i0 i1 i2 j0 ng es f) : IsFF s i0 i1 i2 j0 ng es (.returned (.tuple #[.float .f64 f, .nilIface]))
set_option maxHeartbeats 4000000 in
set_option maxRecDepth 100000 in
theorem ff_any {w : World} {B : Nat} (h : TF w B) (hB : B ≤ w.heap.size) {s : ByteArray} {i0 i1 i2 j0 : Nat} {ng es : Bool} (hs : s.size ≤ 800) (hk : Tok s i0 i1 i2 j0 ng es) (hE : exv s j0 < 10000) (hR : Rng (tkM s i0 i2) (tkP s i1 i2 j0 es))
    (hdv : i1 < i2 → ¬ 17 ≤ i2 - i0 → Ieee.double.div (floatOfInt .f64 (tkM s i0 i2 : Int)) (ftab.getD (frl i1 i2) 0) = some (fdiv (floatOfInt .f64 (tkM s i0 i2 : Int)) (ftab.getD (frl i1 i2) 0)))
    (hmu : ¬ ffSlow s i0 i1 i2 j0 → i2 < s.size → Ieee.double.mul (ffA s i0 i1 i2) (powZ (if es then -(exv s j0 : Int) else (exv s j0 : Int))) = some (fmul (ffA s i0 i1 i2) (powZ (if es then -(exv s j0 : Int) else (exv s j0 : Int))))) :
    Calls Tryz.prog 26 #[.string s] w fun e w' => IsFF s i0 i1 i2 j0 ng es e ∧ Below w.heap.size w w' := by
  have PA := Lib.hid (fun (W : World) (hW : TS W B) (hWB : B ≤ W.heap.size) => parsefloat_any (w := W) hW hWB hs hk hE hR)
  have ss : (s.size : Int) ≤ 800 := by omega
  have HS := Lib.hid hk.leS
  have L12 := Lib.hid hk.le2
  have L01 := Lib.hid hk.lt1
  have I0 := Lib.hid hk.i0le
  have e0 := hk.le0
  have HK := Lib.hid hk; clear hk
  have HR := Lib.hid hR; clear hR
  have HE := Lib.hid hE; clear hE
  have HDV := Lib.hid hdv; clear hdv
  have HMU := Lib.hid hmu; clear hmu
  have H := Lib.hid h; clear h
  have HB := Lib.hid hB; clear hB
  have t0 : ¬ s = ByteArray.empty := fun h => by rw [h] at e0; simp at e0
  have t00 : ((s.size : Int) == 0) = false := beq_eq_false_iff_ne.mpr (by omega)
  go_enter Tryz.func26, Tryz.ntmps26
  go_upto_if 27 with (fail)
  go_cut [4, 5] (fun v4 v5 wc => v4 = .int .u64 (i0 : Int) ∧ v5 = .bool ng ∧ Hid (wc = w))
  case first =>
    as_aux_lemma =>
    have hb0 := bt_is (show 0 < s.size by omega)
    have hb := Lib.hid hb0; clear hb0
    rcases HK.out.sg with ⟨rfl, rfl, h45⟩ | ⟨rfl, rfl⟩
    · have p45 : ((s[0].toNat : Int) == 45) = true := beq_iff_eq.mpr (by have := hb.out; omega)
      have H45 := Lib.hid h45; clear h45
      have ts : decide ((s.size : Int) ≤ 1) = false := decide_eq_false (by omega)
      as_aux_lemma =>
      go_wp2_with fail
      go_meet
      exact ⟨rfl, congrArg Value.bool p45, Lib.hid rfl⟩
    · have hd := HK.out.dg1 0 (Nat.le_refl _) L01.out
      have p45 : ((s[0].toNat : Int) == 45) = false := beq_eq_false_iff_ne.mpr (by have := hb.out; have := hd.1; omega)
      have HD := Lib.hid hd; clear hd
      as_aux_lemma =>
      go_wp2_with fail
      go_meet
      exact ⟨rfl, congrArg Value.bool p45, Lib.hid rfl⟩
  case rest =>
    as_aux_lemma =>
    obtain ⟨rfl, rfl, hw⟩ := hcut
    have ii0 : 0 ≤ (i0 : Int) := by omega
    have ii1 : (i0 : Int) ≤ 1 := by have := I0.out; omega
    have hd0 := HK.out.dg1 i0 (Nat.le_refl _) L01.out
    have hb0 := bt_is e0
    have p46 : ((s[i0].toNat : Int) == 46) = false := beq_eq_false_iff_ne.mpr (by have := hd0.1; omega)
    have HD0 := Lib.hid hd0; clear hd0 hb0
    go_upto_block 0 with (fail)
    go_cut [4, 6] (fun v4 v6 wc => v4 = .int .u64 (i1 : Int) ∧ v6 = .int .u64 ((mv s i0 (i1 - i0) : Nat) : Int) ∧ Hid (i1 ≤ 18) ∧ Hid (wc = w))
    case first =>
      as_aux_lemma =>
      go_wp2_with fail
      go_loopg [4, 6] (i1 - i0) (fun g v4 v6 wc => ∃ (i d : Nat), v4 = .int .u64 (i : Int) ∧ v6 = .int .u64 (d : Int) ∧ Hid (i + g = i1) ∧ Hid (i0 ≤ i) ∧ Hid (i ≤ 18) ∧ Hid (d = mv s i0 (i - i0)) ∧ Hid (wc = w))
      case atStart => exact ⟨i0, 0, rfl, rfl, Lib.hid (by have := L01.out; omega), Lib.hid (Nat.le_refl _), Lib.hid (by have := I0.out; omega), Lib.hid (by rw [Nat.sub_self]; rfl), hw⟩
      case round =>
        clear hw
        obtain ⟨i, d, rfl, rfl, hi, hi0, hi8, hd, hw⟩ := hrel
        have x0 : 0 ≤ (i : Int) := by omega
        have x1 : (i : Int) ≤ 18 := by have := hi8.out; omega
        have y0 : 0 ≤ (d : Int) := by omega
        have y1 : (d : Int) ≤ 1000000000000000000 := by
          have h1 := mv_lt (s := s) (i0 := i0) (i - i0) (fun k hk => (HK.out.dg1 (i0 + k) (by omega) (by have := hi.out; omega)).2)
          have h2 : 10 ^ (i - i0) ≤ 10 ^ 18 := Nat.pow_le_pow_right (by decide) (by have := hi8.out; omega)
          rw [← hd.out] at h1
          omega
        rcases Nat.eq_zero_or_pos gk with g0 | gp
        · have hii : i = i1 := by have := hi.out; omega
          have HII := Lib.hid hii; clear hii
          have G0 := Lib.hid g0; clear g0
          by_cases hlt : i < s.size
          · have t1 : decide (i < s.size) = true := decide_eq_true hlt
            have hnd : ¬ (48 ≤ bt s i ∧ bt s i ≤ 57) := by
              rw [HII.out]
              rcases HK.out.fr with q | q
              · rcases HK.out.ex with ⟨r, _⟩ | ⟨_, r, _⟩
                · have := HII.out; omega
                · rw [← q]; omega
              · omega
            rw [bt_is hlt] at hnd
            by_cases lo : 48 ≤ s[i].toNat
            · have p48 : decide ((48 : Int) ≤ (s[i].toNat : Int)) = true := decide_eq_true (by omega)
              have p57 : decide ((s[i].toNat : Int) ≤ 57) = false := decide_eq_false (by omega)
              have HND := Lib.hid hnd; clear hnd
              have LO := Lib.hid lo; clear lo
              go_wp2_with fail
              go_meet
              exact ⟨by rw [HII.out], by rw [hd.out, HII.out], Lib.hid (by have := HII.out; have := hi8.out; omega), hw⟩
            · have p48 : decide ((48 : Int) ≤ (s[i].toNat : Int)) = false := decide_eq_false (by omega)
              have HND := Lib.hid hnd; clear hnd
              have LO := Lib.hid lo; clear lo
              go_wp2_with fail
              go_meet
              exact ⟨by rw [HII.out], by rw [hd.out, HII.out], Lib.hid (by have := HII.out; have := hi8.out; omega), hw⟩
          · have t1 : decide (i < s.size) = false := decide_eq_false hlt
            go_wp2_with fail
            go_meet
            exact ⟨by rw [HII.out], by rw [hd.out, HII.out], Lib.hid (by have := HII.out; have := hi8.out; omega), hw⟩
        · have hlt : i < s.size := by have := hi.out; have := L12.out; have := HS.out; omega
          have t1 : decide (i < s.size) = true := decide_eq_true hlt
          have hdg := HK.out.dg1 i hi0.out (by have := hi.out; omega)
          have hb := bt_is hlt
          have p48 : decide ((48 : Int) ≤ (s[i].toNat : Int)) = true := decide_eq_true (by have := hdg.1; omega)
          have p57 : decide ((s[i].toNat : Int) ≤ 57) = true := decide_eq_true (by have := hdg.2; omega)
          have z0 : (48 : Int) ≤ (s[i].toNat : Int) := by have := hdg.1; omega
          have z1 : (s[i].toNat : Int) ≤ 57 := by have := hdg.2; omega
          have hmv := mv_dig hi0.out hdg
          have HMV := Lib.hid hmv; clear hmv
          have HDG := Lib.hid hdg; clear hdg
          have HBB := Lib.hid hb; clear hb
          by_cases h18 : i < 18
          · have t2 : decide ((18 : Int) < (i : Int) + 1) = false := decide_eq_false (by omega)
            have H18 := Lib.hid h18; clear h18
            go_wp2_with fail
            go_roundg (gk - 1)
            case measure => omega
            case rel => exact ⟨i + 1, d * 10 + (bt s i - 48), by go_num, congrArg _ (by have := HBB.out; have := HDG.out.1; omega), Lib.hid (by have := hi.out; omega), Lib.hid (by have := hi0.out; omega), Lib.hid (by have := H18.out; omega), Lib.hid (by rw [HMV.out, hd.out]), hw⟩
          · have t2 : decide ((18 : Int) < (i : Int) + 1) = true := decide_eq_true (by omega)
            have hslow : ffSlow s i0 i1 i2 j0 := .inl (by have := hi.out; omega)
            have HSL := Lib.hid hslow; clear hslow
            have H18 := Lib.hid h18; clear h18
            obtain rfl := hw.out
            have PAw := Lib.hid (PA.out wr H.out.ts HB.out)
            go_wp2_with (go_at_call 39; (with_reducible refine PAw.out.mono ?_); rintro e w' ⟨⟨f, hf⟩, hb⟩; have HF := Lib.hid hf; have HBT := Lib.hid hb; clear hf hb)
            go_ret2
            exact ⟨.mk _ ⟨fun _ => HF.out, fun h => absurd HSL.out h⟩, HBT.out⟩
    case rest =>
      as_aux_lemma =>
      clear hw
      obtain ⟨rfl, rfl, hi8, hw⟩ := hcut
      have a0 : 0 ≤ (i1 : Int) := by omega
      have a1 : (i1 : Int) ≤ 18 := by have := hi8.out; omega
      have tj : decide (i1 ≤ i0) = false := decide_eq_false (by have := L01.out; omega)
      have tj' : decide ((i1 : Int) ≤ (i0 : Int)) = false := decide_eq_false (by have := L01.out; omega)
      obtain ⟨d, hd⟩ : ∃ d, d = mv s i0 (i1 - i0) := ⟨_, rfl⟩
      rw [← hd]
      have y0 : 0 ≤ (d : Int) := by omega
      have HD := Lib.hid hd; clear hd
      obtain ⟨FA, hFA⟩ : ∃ FA, FA = ffA s i0 i1 i2 := ⟨_, rfl⟩
      have hFN : i2 = i1 → floatOfInt .f64 (d : Int) = FA := fun h => by
        rw [hFA]; unfold ffA; rw [if_neg (by omega), HD.out, ← h]; rfl
      have HFN := Lib.hid hFN; clear hFN
      have HFA := Lib.hid hFA; clear hFA
      have hend : i2 = s.size → ¬ (i1 < i2 ∧ 17 ≤ i2 - i0) → ¬ ffSlow s i0 i1 i2 j0 ∧ ffR s i0 i1 i2 j0 ng es = if ng then Op.negFloat .f64 FA else FA := fun h1 h2 => by
        refine ⟨fun h => ?_, ?_⟩
        · rcases h with h | h | h
          · have := hi8.out; omega
          · exact h2 h
          · omega
        · have e : ffB s i0 i1 i2 j0 es = FA := by unfold ffB; rw [if_neg (by omega), ← HFA.out]
          unfold ffR; rw [e]
      have HEND := Lib.hid hend; clear hend
      obtain rfl := hw.out
      by_cases hz : i1 = s.size
      · have hi2 : i2 = i1 := by have := L12.out; have := HS.out; omega
        have hf := HFN.out hi2
        obtain ⟨hE1, hE2⟩ := HEND.out (by omega) (by omega)
        have HE1 := Lib.hid hE1; clear hE1
        have HE2 := Lib.hid hE2; clear hE2
        have t3 : decide (s.size ≤ i1) = true := decide_eq_true (by omega)
        have HZ := Lib.hid hz; clear hz
        have HI2 := Lib.hid hi2; clear hi2
        cases ng with
        | true =>
          go_wp2_with fail
          go_ret2
          exact ⟨.mk _ ⟨fun h => absurd h HE1.out, fun _ => HE2.out.symm⟩, Below.refl _ _⟩
        | false =>
          go_wp2_with fail
          go_ret2
          exact ⟨.mk _ ⟨fun h => absurd h HE1.out, fun _ => HE2.out.symm⟩, Below.refl _ _⟩
      · have t3 : decide (s.size ≤ i1) = false := decide_eq_false (by have := L12.out; have := HS.out; omega)
        have h1s : i1 < s.size := by have := L12.out; have := HS.out; omega
        have HZ := Lib.hid hz; clear hz
        obtain ⟨b46, hb46⟩ : ∃ b, ((s[i1].toNat : Int) == 46) = b := ⟨_, rfl⟩
        go_upto_if 148 with (fail)
        have HB46 := Lib.hid hb46; clear hb46
        go_cut [4, 11] (fun v4 v11 wd => v4 = .int .u64 (i2 : Int) ∧ v11 = .float .f64 FA ∧ Hid (¬ (i1 < i2 ∧ 17 ≤ i2 - i0)) ∧ Hid (i2 < s.size) ∧ Hid (wd = wc))
        case first =>
          as_aux_lemma =>
          have hb1 := bt_is h1s
          by_cases hdot : i1 < i2
          · have h46 : s[i1].toNat = 46 := by
              rw [← hb1]
              rcases HK.out.fr with q | q
              · omega
              · exact q.1
            have p46 : b46 = true := by rw [← HB46.out]; exact beq_iff_eq.mpr (by omega)
            subst p46
            have h12 : i1 + 1 < i2 := by
              rcases HK.out.fr with q | q
              · omega
              · exact q.2
            have t4 : decide ((s.size : Int) ≤ (i1 : Int) + 1) = false := decide_eq_false (by have := HS.out; omega)
            have H12 := Lib.hid h12; clear h12
            have H46 := Lib.hid h46; clear h46 hb1
            have HDOT := Lib.hid hdot; clear hdot
            have hmv0 : mv s i0 (i1 + 1 - i0) = mv s i0 (i1 - i0) := mv_dot (Nat.le_of_lt L01.out) (by rw [bt_is h1s]; exact H46.out)
            have HMV0 := Lib.hid hmv0; clear hmv0
            go_upto_block 2 with (fail)
            go_cut [4, 6] (fun v4 v6 we => v4 = .int .u64 (i2 : Int) ∧ v6 = .int .u64 ((tkM s i0 i2 : Nat) : Int) ∧ Hid (¬ 17 ≤ i2 - i0) ∧ Hid (we = wc))
            case first =>
              as_aux_lemma =>
              go_wp2_with fail
              go_loopg [4, 6] (i2 - (i1 + 1)) (fun g v4 v6 we => ∃ (i e : Nat), v4 = .int .u64 (i : Int) ∧ v6 = .int .u64 (e : Int) ∧ Hid (i + g = i2) ∧ Hid (i1 + 1 ≤ i) ∧ Hid (i = i1 + 1 ∨ i - i0 < 17) ∧ Hid (e = mv s i0 (i - i0)) ∧ Hid (we = wc))
              case atStart => exact ⟨i1 + 1, d, congrArg _ (by omega), rfl, Lib.hid (by have := H12.out; omega), Lib.hid (Nat.le_refl _), Lib.hid (.inl rfl), Lib.hid (by rw [HMV0.out]; exact HD.out), Lib.hid rfl⟩
              case round =>
                obtain ⟨i, e, rfl, rfl, hi, hi0, hi8, he, hw⟩ := hrel
                have x0 : 0 ≤ (i : Int) := by omega
                have x1 : (i : Int) ≤ 19 := by have := hi8.out; have := I0.out; have := a1; omega
                have y0 : 0 ≤ (e : Int) := by omega
                have y1 : (e : Int) ≤ 1000000000000000000 := by
                  rcases hi8.out with q | q
                  · have h1 := mv_lt (s := s) (i0 := i0) (i1 - i0) (fun k hk => (HK.out.dg1 (i0 + k) (by omega) (by omega)).2)
                    have h2 : 10 ^ (i1 - i0) ≤ 10 ^ 18 := Nat.pow_le_pow_right (by decide) (by have := a1; omega)
                    have h3 := he.out
                    rw [q, HMV0.out] at h3
                    rw [← h3] at h1
                    omega
                  · have h1 := mv_lt (s := s) (i0 := i0) (i - i0) (fun k hk => by
                      rcases HK.out.at_ (i := i0 + k) (by omega) (by have := hi.out; omega) with r | r
                      · exact r.2
                      · have := r.2; omega)
                    have h2 : 10 ^ (i - i0) ≤ 10 ^ 18 := Nat.pow_le_pow_right (by decide) (by omega)
                    rw [← he.out] at h1
                    omega
                have xi : (i0 : Int) ≤ (i : Int) := by have := hi0.out; have := L01.out; omega
                rcases Nat.eq_zero_or_pos gk with g0 | gp
                · have hii : i = i2 := by have := hi.out; omega
                  have HII := Lib.hid hii; clear hii
                  have hn17 : ¬ 17 ≤ i2 - i0 := by have := hi8.out; have := HII.out; have := H12.out; omega
                  have HN17 := Lib.hid hn17; clear hn17
                  have G0 := Lib.hid g0; clear g0
                  by_cases hlt : i < s.size
                  · have t1 : decide (i < s.size) = true := decide_eq_true hlt
                    have hnd : ¬ (48 ≤ bt s i ∧ bt s i ≤ 57) := by
                      rw [HII.out]
                      rcases HK.out.ex with ⟨r, _⟩ | ⟨_, r, _⟩
                      · have := HII.out; omega
                      · omega
                    rw [bt_is hlt] at hnd
                    by_cases lo : 48 ≤ s[i].toNat
                    · have p48 : decide ((48 : Int) ≤ (s[i].toNat : Int)) = true := decide_eq_true (by omega)
                      have p57 : decide ((s[i].toNat : Int) ≤ 57) = false := decide_eq_false (by omega)
                      have HND := Lib.hid hnd; clear hnd
                      have LO := Lib.hid lo; clear lo
                      go_wp2_with fail
                      go_meet
                      exact ⟨by rw [HII.out], by rw [he.out, HII.out]; rfl, HN17, hw⟩
                    · have p48 : decide ((48 : Int) ≤ (s[i].toNat : Int)) = false := decide_eq_false (by omega)
                      have HND := Lib.hid hnd; clear hnd
                      have LO := Lib.hid lo; clear lo
                      go_wp2_with fail
                      go_meet
                      exact ⟨by rw [HII.out], by rw [he.out, HII.out]; rfl, HN17, hw⟩
                  · have t1 : decide (i < s.size) = false := decide_eq_false hlt
                    go_wp2_with fail
                    go_meet
                    exact ⟨by rw [HII.out], by rw [he.out, HII.out]; rfl, HN17, hw⟩
                · have hlt : i < s.size := by have := hi.out; have := HS.out; omega
                  have t1 : decide (i < s.size) = true := decide_eq_true hlt
                  have hdg := HK.out.dg2 i (by have := hi0.out; omega) (by have := hi.out; omega)
                  have hb := bt_is hlt
                  have p48 : decide ((48 : Int) ≤ (s[i].toNat : Int)) = true := decide_eq_true (by have := hdg.1; omega)
                  have p57 : decide ((s[i].toNat : Int) ≤ 57) = true := decide_eq_true (by have := hdg.2; omega)
                  have z0 : (48 : Int) ≤ (s[i].toNat : Int) := by have := hdg.1; omega
                  have z1 : (s[i].toNat : Int) ≤ 57 := by have := hdg.2; omega
                  have hmv := mv_dig (i0 := i0) (i := i) (by omega) hdg
                  have HMV := Lib.hid hmv; clear hmv
                  have HDG := Lib.hid hdg; clear hdg
                  have HBB := Lib.hid hb; clear hb
                  by_cases h17 : (i : Int) + 1 - (i0 : Int) < 17
                  · have t2 : decide ((17 : Int) ≤ (i : Int) + 1 - (i0 : Int)) = false := decide_eq_false (by omega)
                    have H17 := Lib.hid h17; clear h17
                    go_wp2_with fail
                    go_roundg (gk - 1)
                    case measure => omega
                    case rel => exact ⟨i + 1, e * 10 + (bt s i - 48), by go_num, congrArg _ (by have := HBB.out; have := HDG.out.1; omega), Lib.hid (by have := hi.out; omega), Lib.hid (by have := hi0.out; omega), Lib.hid (by have := H17.out; omega), Lib.hid (by rw [HMV.out, he.out]), hw⟩
                  · have t2 : decide ((17 : Int) ≤ (i : Int) + 1 - (i0 : Int)) = true := decide_eq_true (by omega)
                    have hslow : ffSlow s i0 i1 i2 j0 := .inr (.inl ⟨HDOT.out, by have := hi.out; omega⟩)
                    have HSL := Lib.hid hslow; clear hslow
                    have H17 := Lib.hid h17; clear h17
                    obtain rfl := hw.out
                    have PAw := Lib.hid (PA.out wr H.out.ts HB.out)
                    go_wp2_with (go_at_call 39; (with_reducible refine PAw.out.mono ?_); rintro e w' ⟨⟨f, hf⟩, hb⟩; have HF := Lib.hid hf; have HBT := Lib.hid hb; clear hf hb)
                    go_ret2
                    exact ⟨.mk _ ⟨fun _ => HF.out, fun h => absurd HSL.out h⟩, HBT.out⟩
            case rest =>
              as_aux_lemma =>
              obtain ⟨rfl, rfl, hn17, hwe⟩ := hcut
              have hN2 : ¬ (i1 < i2 ∧ 17 ≤ i2 - i0) := fun h => hn17.out h.2
              have HN2 := Lib.hid hN2; clear hN2
              have u0 : 0 ≤ (i2 : Int) := by omega
              have u1 : (i2 : Int) ≤ 800 := by have := HS.out; omega
              have t5 : decide ((i2 : Int) < (i1 : Int) + 1) = false := decide_eq_false (by have := H12.out; omega)
              have hq := HDV.out HDOT.out hn17.out
              have hFA : fdiv (floatOfInt .f64 (tkM s i0 i2 : Int)) (ftab.getD (frl i1 i2) 0) = FA := by rw [HFA.out]; unfold ffA; rw [if_pos HDOT.out]
              rw [hFA] at hq
              have gq := div_run hq
              have HQ := Lib.hid hq; clear hq hFA
              obtain ⟨fl, hfl⟩ : ∃ fl, fl = frl i1 i2 := ⟨_, rfl⟩
              rw [← hfl] at gq
              have hfl2 : fl = i2 - i1 - 1 := hfl
              have hfi : (i2 : Int) - ((i1 : Int) + 1) = (fl : Int) := by have := H12.out; omega
              have fl17 : (fl : Int) < 17 := by have := hn17.out; have := L01.out; omega
              have fl0 : 0 ≤ (fl : Int) := by omega
              have cf := H.out.ff fl (by omega)
              obtain ⟨TT, hTT⟩ : ∃ TT, TT = ftab.getD fl 0 := ⟨_, rfl⟩
              rw [← hTT] at cf gq
              obtain ⟨KM, hKM⟩ : ∃ KM, KM = tkM s i0 i2 := ⟨_, rfl⟩
              rw [← hKM] at gq ⊢
              have km0 : 0 ≤ (KM : Int) := by omega
              have HKM := Lib.hid hKM; clear hKM
              have HTT := Lib.hid hTT; clear hTT
              have HFL := Lib.hid hfl; clear hfl
              have HFL2 := Lib.hid hfl2; clear hfl2
              obtain rfl := hwe.out
              by_cases hz2 : i2 = s.size
              · obtain ⟨hE1, hE2⟩ := HEND.out hz2 HN2.out
                have HE1 := Lib.hid hE1; clear hE1
                have HE2 := Lib.hid hE2; clear hE2
                have t6 : decide (s.size ≤ i2) = true := decide_eq_true (by omega)
                have HZ2 := Lib.hid hz2; clear hz2
                cases ng with
                | true =>
                  go_wp2_with fail
                  go_ret2
                  exact ⟨.mk _ ⟨fun h => absurd h HE1.out, fun _ => HE2.out.symm⟩, Below.refl _ _⟩
                | false =>
                  go_wp2_with fail
                  go_ret2
                  exact ⟨.mk _ ⟨fun h => absurd h HE1.out, fun _ => HE2.out.symm⟩, Below.refl _ _⟩
              · have t6 : decide (s.size ≤ i2) = false := decide_eq_false (by have := HS.out; omega)
                have hlt2 : i2 < s.size := by have := HS.out; omega
                have HLT2 := Lib.hid hlt2; clear hlt2
                have HZ2 := Lib.hid hz2; clear hz2
                go_wp2_with fail
                go_meet
                exact ⟨rfl, rfl, HN2, HLT2, Lib.hid rfl⟩
          · have hi2 : i2 = i1 := by have := L12.out; omega
            have hf := HFN.out hi2
            have h46 : s[i1].toNat ≠ 46 := by
              rw [← hb1]
              rcases HK.out.ex with ⟨r, _⟩ | ⟨_, r, _⟩
              · omega
              · rw [← hi2]; omega
            have p46 : b46 = false := by rw [← HB46.out]; exact beq_eq_false_iff_ne.mpr (by omega)
            subst p46
            have H46 := Lib.hid h46; clear h46 hb1
            have HDOT := Lib.hid hdot; clear hdot
            have HI2 := Lib.hid hi2; clear hi2
            go_wp2_with fail
            go_meet
            exact ⟨congrArg _ (by have := HI2.out; omega), rfl, Lib.hid (fun h => HDOT.out h.1), Lib.hid (by have := HI2.out; omega), Lib.hid rfl⟩
        case rest =>
          as_aux_lemma =>
          obtain ⟨rfl, rfl, hn2, hlt2, hwd⟩ := hcut
          obtain rfl := hwd.out
          have u0 : 0 ≤ (i2 : Int) := by omega
          have u1 : (i2 : Int) ≤ 800 := by have := HS.out; omega
          have hb2 := bt_is hlt2.out
          rcases HK.out.ex with ⟨r1, _⟩ | ⟨r1, r2, r3, r4⟩
          · have := hlt2.out; omega
          · have R2 := Lib.hid r2
            have t7 : decide ((s.size : Int) ≤ (i2 : Int) + 1) = false := decide_eq_false (by rcases r4 with h | h | h <;> omega)
            have l7 : i2 + 1 < s.size := by rcases r4 with h | h | h <;> omega
            have R4 := Lib.hid r4; clear r4
            obtain ⟨b101, hb101⟩ : ∃ b, ((s[i2].toNat : Int) == 101) = b := ⟨_, rfl⟩
            have hor : b101 = true ∨ ((s[i2].toNat : Int) == 69) = true := by
              rw [hb2] at r2
              rcases r2 with h | h
              · left; rw [← hb101]; exact beq_iff_eq.mpr (by omega)
              · right; exact beq_iff_eq.mpr (by omega)
            clear r2
            have HOR := Lib.hid hor; clear hor
            go_upto_region 59 with (fail)
            go_cut [231] (fun v231 wd => v231 = .bool true ∧ Hid (wd = wc))
            case first =>
              as_aux_lemma =>
              cases b101 with
              | true =>
                go_wp2_with fail
                go_meet
                exact ⟨rfl, Lib.hid rfl⟩
              | false =>
                have h69 := HOR.out.resolve_left (by decide)
                go_wp2_with fail
                go_meet
                exact ⟨rfl, Lib.hid rfl⟩
            case rest =>
              as_aux_lemma =>
              clear hb101
              obtain ⟨rfl, hwd⟩ := hcut
              obtain rfl := hwd.out
              have hb3 := bt_is l7
              have HB3 := Lib.hid hb3; clear hb3
              obtain ⟨hsg, hhsg⟩ : ∃ b, b = decide (j0 = i2 + 2) := ⟨_, rfl⟩
              have HSG := Lib.hid hhsg; clear hhsg
              go_upto_region 64 with (fail)
              go_cut [249] (fun v249 wd => v249 = .bool hsg ∧ Hid (wd = wc))
              case first =>
                as_aux_lemma =>
                rcases R4.out with ⟨h1, h2⟩ | ⟨h1, h3, h2⟩ | ⟨h1, h3, h2⟩
                · have hd := HK.out.dg3 (i2 + 1) (by omega) l7
                  have p43 : ((s[i2 + 1].toNat : Int) == 43) = false := beq_eq_false_iff_ne.mpr (by have := HB3.out; have := hd.1; omega)
                  have p45 : ((s[i2 + 1].toNat : Int) == 45) = false := beq_eq_false_iff_ne.mpr (by have := HB3.out; have := hd.1; omega)
                  have HD3 := Lib.hid hd; clear hd
                  have H1 := Lib.hid h1; clear h1
                  have q : hsg = false := by rw [HSG.out]; exact decide_eq_false (by have := H1.out; omega)
                  subst q
                  clear h2
                  go_wp2_with fail
                  go_meet
                  exact ⟨rfl, Lib.hid rfl⟩
                · have p43 : ((s[i2 + 1].toNat : Int) == 43) = true := beq_iff_eq.mpr (by have := HB3.out; omega)
                  have H1 := Lib.hid h1; clear h1
                  have H3 := Lib.hid h3; clear h3
                  have q : hsg = true := by rw [HSG.out]; exact decide_eq_true (by have := H1.out; omega)
                  subst q
                  clear h2
                  go_wp2_with fail
                  go_meet
                  exact ⟨rfl, Lib.hid rfl⟩
                · have p43 : ((s[i2 + 1].toNat : Int) == 43) = false := beq_eq_false_iff_ne.mpr (by have := HB3.out; omega)
                  have p45 : ((s[i2 + 1].toNat : Int) == 45) = true := beq_iff_eq.mpr (by have := HB3.out; omega)
                  have H1 := Lib.hid h1; clear h1
                  have H3 := Lib.hid h3; clear h3
                  have q : hsg = true := by rw [HSG.out]; exact decide_eq_true (by have := H1.out; omega)
                  subst q
                  clear h2
                  go_wp2_with fail
                  go_meet
                  exact ⟨rfl, Lib.hid rfl⟩
              case rest =>
                as_aux_lemma =>
                obtain ⟨rfl, hwd⟩ := hcut
                obtain rfl := hwd.out
                go_upto_if 249 with (fail)
                go_cut [4, 15] (fun v4 v15 wd => v4 = .int .u64 (j0 : Int) ∧ v15 = .bool es ∧ Hid (wd = wc))
                case first =>
                  as_aux_lemma =>
                  rcases R4.out with ⟨h1, h2⟩ | ⟨h1, h3, h2⟩ | ⟨h1, h3, h2⟩
                  · have q : hsg = false := by rw [HSG.out]; exact decide_eq_false (by omega)
                    subst q
                    subst h2
                    have H1 := Lib.hid h1; clear h1
                    go_wp2_with fail
                    go_meet
                    exact ⟨congrArg _ (by have := H1.out; omega), rfl, Lib.hid rfl⟩
                  · have q : hsg = true := by rw [HSG.out]; exact decide_eq_true (by omega)
                    subst q
                    subst h2
                    have p45 : ((s[i2 + 1].toNat : Int) == 45) = false := beq_eq_false_iff_ne.mpr (by have := HB3.out; omega)
                    have t8 : decide ((s.size : Int) ≤ (i2 : Int) + 1 + 1) = false := decide_eq_false (by omega)
                    have H1 := Lib.hid h1; clear h1
                    have H3 := Lib.hid h3; clear h3
                    go_wp2_with fail
                    go_meet
                    exact ⟨congrArg _ (by have := H1.out; omega), (by first | rfl | exact congrArg Value.bool p45), Lib.hid rfl⟩
                  · have q : hsg = true := by rw [HSG.out]; exact decide_eq_true (by omega)
                    subst q
                    subst h2
                    have p45 : ((s[i2 + 1].toNat : Int) == 45) = true := beq_iff_eq.mpr (by have := HB3.out; omega)
                    have t8 : decide ((s.size : Int) ≤ (i2 : Int) + 1 + 1) = false := decide_eq_false (by omega)
                    have H1 := Lib.hid h1; clear h1
                    have H3 := Lib.hid h3; clear h3
                    go_wp2_with fail
                    go_meet
                    exact ⟨congrArg _ (by have := H1.out; omega), (by first | rfl | exact congrArg Value.bool p45), Lib.hid rfl⟩
                case rest =>
                  as_aux_lemma =>
                  obtain ⟨rfl, rfl, hwd⟩ := hcut
                  obtain rfl := hwd.out
                  have v0 : 0 ≤ (j0 : Int) := by omega
                  have v1 : (j0 : Int) ≤ 800 := by omega
                  go_upto_block 4 with (fail)
                  go_cut [4, 16] (fun v4 v16 we => v4 = .int .u64 (s.size : Int) ∧ v16 = .int .i16 ((exv s j0 : Nat) : Int) ∧ Hid (exv s j0 ≤ 300) ∧ Hid (we = wc))
                  case first =>
                    as_aux_lemma =>
                    go_wp2_with fail
                    go_loopg [4, 16] (s.size - j0) (fun g v4 v16 we => ∃ (i e : Nat), v4 = .int .u64 (i : Int) ∧ v16 = .int .i16 (e : Int) ∧ Hid (i + g = s.size) ∧ Hid (j0 ≤ i) ∧ Hid (e ≤ 300) ∧ Hid (e = dv (fun k => bt s k - 48) j0 (i - j0)) ∧ Hid (we = wc))
                    case atStart => exact ⟨j0, 0, rfl, rfl, Lib.hid (by omega), Lib.hid (Nat.le_refl _), Lib.hid (by omega), Lib.hid (by rw [Nat.sub_self]; rfl), Lib.hid rfl⟩
                    case round =>
                      obtain ⟨i, e, rfl, rfl, hi, hi0, he3, he, hw⟩ := hrel
                      have x0 : 0 ≤ (i : Int) := by omega
                      have x1 : (i : Int) ≤ 800 := by have := hi.out; omega
                      have y0 : 0 ≤ (e : Int) := by omega
                      have y1 : (e : Int) ≤ 300 := by have := he3.out; omega
                      by_cases hlt : i < s.size
                      · have t1 : decide (i < s.size) = true := decide_eq_true hlt
                        have hdg := HK.out.dg3 i hi0.out hlt
                        have hb := bt_is hlt
                        have p48 : decide ((48 : Int) ≤ (s[i].toNat : Int)) = true := decide_eq_true (by have := hdg.1; omega)
                        have p57 : decide ((s[i].toNat : Int) ≤ 57) = true := decide_eq_true (by have := hdg.2; omega)
                        have z0 : (48 : Int) ≤ (s[i].toNat : Int) := by have := hdg.1; omega
                        have z1 : (s[i].toNat : Int) ≤ 57 := by have := hdg.2; omega
                        have hst := exv_step (s := s) hi0.out
                        have HST := Lib.hid hst; clear hst
                        have HDG := Lib.hid hdg; clear hdg
                        have HBB := Lib.hid hb; clear hb
                        by_cases big : 300 < (e : Int) * 10 + ((s[i].toNat : Int) - 48)
                        · have t2 : decide ((300 : Int) < (e : Int) * 10 + ((s[i].toNat : Int) - 48)) = true := decide_eq_true big
                          have hslow : ffSlow s i0 i1 i2 j0 := .inr (.inr ⟨hlt2.out, by
                            have h3 := dv_le (f := fun k => bt s k - 48) (i := j0) (a := i + 1 - j0) (b := s.size - j0) (by omega)
                            have h4 : exv s j0 = dv (fun k => bt s k - 48) j0 (s.size - j0) := rfl
                            rw [HST.out, ← he.out] at h3
                            have := HBB.out
                            omega⟩)
                          have HSL := Lib.hid hslow; clear hslow
                          have BIG := Lib.hid big; clear big
                          obtain rfl := hw.out
                          have PAw := Lib.hid (PA.out wr H.out.ts HB.out)
                          go_wp2_with (go_at_call 39; (with_reducible refine PAw.out.mono ?_); rintro e w' ⟨⟨f, hf⟩, hb⟩; have HF := Lib.hid hf; have HBT := Lib.hid hb; clear hf hb)
                          go_ret2
                          exact ⟨.mk _ ⟨fun _ => HF.out, fun h => absurd HSL.out h⟩, HBT.out⟩
                        · have t2 : decide ((300 : Int) < (e : Int) * 10 + ((s[i].toNat : Int) - 48)) = false := decide_eq_false big
                          have BIG := Lib.hid big; clear big
                          go_wp2_with fail
                          go_roundg (gk - 1)
                          case measure => have := hi.out; omega
                          case rel => exact ⟨i + 1, e * 10 + (bt s i - 48), by go_num, congrArg _ (by have := HBB.out; have := HDG.out.1; omega), Lib.hid (by have := hi.out; omega), Lib.hid (by have := hi0.out; omega), Lib.hid (by have := HBB.out; have := HDG.out.1; have := BIG.out; omega), Lib.hid (by rw [HST.out, he.out]), hw⟩
                      · have t1 : decide (i < s.size) = false := decide_eq_false hlt
                        go_wp2_with fail
                        go_meet
                        exact ⟨congrArg _ (by have := hi.out; omega), congrArg _ (by rw [he.out, show i = s.size by have := hi.out; omega]; rfl), Lib.hid (by have h5 := he.out; rw [show i = s.size by have := hi.out; omega] at h5; have h6 : exv s j0 = e := h5.symm; rw [h6]; exact he3.out), hw⟩
                  case rest =>
                    as_aux_lemma =>
                    obtain ⟨rfl, rfl, he3, hwd⟩ := hcut
                    obtain rfl := hwd.out
                    have hns : ¬ ffSlow s i0 i1 i2 j0 := fun h => by
                      rcases h with h | h | h
                      · have := hi8.out; omega
                      · exact hn2.out h
                      · have := he3.out; omega
                    have hmul := HMU.out hns hlt2.out
                    rw [← HFA.out] at hmul
                    obtain ⟨FB, hFB⟩ : ∃ FB, FB = ffB s i0 i1 i2 j0 es := ⟨_, rfl⟩
                    have hFB2 : fmul FA (powZ (if es then -(exv s j0 : Int) else (exv s j0 : Int))) = FB := by
                      rw [hFB]; unfold ffB; rw [if_pos hlt2.out, ← HFA.out]
                    rw [hFB2] at hmul
                    have hRR : ffR s i0 i1 i2 j0 ng es = if ng then Op.negFloat .f64 FB else FB := by unfold ffR; rw [← hFB]
                    have HNS := Lib.hid hns; clear hns
                    have HRR := Lib.hid hRR; clear hRR
                    have HFB := Lib.hid hFB; clear hFB hFB2
                    obtain ⟨ev, hev⟩ : ∃ ev, ev = exv s j0 := ⟨_, rfl⟩
                    rw [← hev] at hmul he3 ⊢
                    have ev0 : 0 ≤ (ev : Int) := by omega
                    have ev1 : (ev : Int) ≤ 300 := by have := he3.out; omega
                    have HEV := Lib.hid hev; clear hev
                    have tz : decide (s.size ≤ j0) = false := decide_eq_false (by omega)
                    have tz' : decide ((s.size : Int) ≤ (j0 : Int)) = false := decide_eq_false (by omega)
                    cases es with
                    | true =>
                      have hm2 : Ieee.double.mul FA (powZ (-(ev : Int))) = some FB := hmul
                      clear hmul
                      obtain ⟨X, hX⟩ : ∃ X : Int, -(ev : Int) = X := ⟨_, rfl⟩
                      rw [hX] at hm2
                      have X0 : -300 ≤ X := by omega
                      have X1 : X ≤ 300 := by omega
                      have PW := Lib.hid (pow10_any (w := wc) H.out X X0 X1)
                      obtain ⟨Q, hQ⟩ : ∃ Q, Q = powZ X := ⟨_, rfl⟩
                      rw [← hQ] at hm2 PW
                      have gm := mul_run hm2
                      have HM2 := Lib.hid hm2; clear hm2 hQ
                      cases ng with
                      | true =>
                        go_wp2_with (go_at_call 45; (with_reducible refine PW.out.mono ?_); rintro e w' ⟨rfl, q, rfl⟩)
                        go_ret2
                        exact ⟨.mk _ ⟨fun h => absurd h HNS.out, fun _ => HRR.out.symm⟩, Joins.below_draws _ _ _⟩
                      | false =>
                        go_wp2_with (go_at_call 45; (with_reducible refine PW.out.mono ?_); rintro e w' ⟨rfl, q, rfl⟩)
                        go_ret2
                        exact ⟨.mk _ ⟨fun h => absurd h HNS.out, fun _ => HRR.out.symm⟩, Joins.below_draws _ _ _⟩
                    | false =>
                      have hm2 : Ieee.double.mul FA (powZ (ev : Int)) = some FB := hmul
                      clear hmul
                      have PW := Lib.hid (pow10_any (w := wc) H.out (ev : Int) (by omega) ev1)
                      obtain ⟨Q, hQ⟩ : ∃ Q, Q = powZ (ev : Int) := ⟨_, rfl⟩
                      rw [← hQ] at hm2 PW
                      have gm := mul_run hm2
                      have HM2 := Lib.hid hm2; clear hm2 hQ
                      cases ng with
                      | true =>
                        go_wp2_with (go_at_call 45; (with_reducible refine PW.out.mono ?_); rintro e w' ⟨rfl, q, rfl⟩)
                        go_ret2
                        exact ⟨.mk _ ⟨fun h => absurd h HNS.out, fun _ => HRR.out.symm⟩, Joins.below_draws _ _ _⟩
                      | false =>
                        go_wp2_with (go_at_call 45; (with_reducible refine PW.out.mono ?_); rintro e w' ⟨rfl, q, rfl⟩)
                        go_ret2
                        exact ⟨.mk _ ⟨fun h => absurd h HNS.out, fun _ => HRR.out.symm⟩, Joins.below_draws _ _ _⟩
end Go.Proofs.YtjemobfhlfejlaaGreatDoor.Dc
