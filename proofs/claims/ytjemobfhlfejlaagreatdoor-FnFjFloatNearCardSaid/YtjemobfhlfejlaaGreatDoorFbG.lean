/- Walks and plain laws on the way to FnFjFloatNear. No condition but what each lemma states. -/
import Derived.Test.YtjemobfhlfejlaaGreatDoorFbF
set_option linter.unusedVariables false
set_option linter.unusedSimpArgs false
namespace Go.Proofs.YtjemobfhlfejlaaGreatDoor.Dc
open Go Go.RowKit
theorem results_tmp7 {fn : Func} {a b c d e f g : Tmp} (h : fn.results = #[.tmp a, .tmp b, .tmp c, .tmp d, .tmp e, .tmp f, .tmp g]) (tmps : Array Value) (P : Program) (w : World) :
    (results fn tmps).run P w = .ok (.tuple #[tmps.getD a undef, tmps.getD b undef, tmps.getD c undef, tmps.getD d undef, tmps.getD e undef, tmps.getD f undef, tmps.getD g undef]) w := by
  simp [results, h]
theorem rf_is {m m' p p' : Int} {ng tr : Bool} {n n' : Int} (h1 : m = m') (h2 : p = p') (h3 : n = n') : Ending.returned (.tuple #[.int .u64 m, .int .i64 p, .bool ng, .bool tr, .bool false, .int .i64 n, .bool true]) = Ending.returned (.tuple #[.int .u64 m', .int .i64 p', .bool ng, .bool tr, .bool false, .int .i64 n', .bool true]) := by rw [h1, h2, h3]
def rfM (M : Nat) : Nat := M / 10 ^ (dlen M - 19)
def rfT (M : Nat) : Bool := decide (M % 10 ^ (dlen M - 19) ≠ 0)
def rfP (M : Nat) (P : Int) : Int := P + ((dlen M - 19 : Nat) : Int)
set_option maxHeartbeats 4000000 in
set_option maxRecDepth 100000 in
theorem read_any {w : World} {s : ByteArray} {i0 i1 i2 j0 : Nat} {ng es : Bool} (hs : s.size ≤ 65536) (h : Tok s i0 i1 i2 j0 ng es) (hM : tkM s i0 i2 ≠ 0) (hE : exv s j0 < 10000) :
    Calls Tryz.prog 81 #[.string s] w fun e w' => e = .returned (.tuple #[.int .u64 ((rfM (tkM s i0 i2) : Nat) : Int), .int .i64 (rfP (tkM s i0 i2) (tkP s i1 i2 j0 es)), .bool ng, .bool (rfT (tkM s i0 i2)), .bool false, .int .i64 (s.size : Int), .bool true]) ∧ w' = w := by
  have HN := Lib.hid h.num
  have ss : (s.size : Int) ≤ 65536 := by omega
  have e0 := h.le0
  have e2 := h.leS
  have HS := Lib.hid e2; clear e2
  have L12 := Lib.hid h.le2
  have L01 := Lib.hid h.lt1
  have I0 := Lib.hid h.i0le
  obtain ⟨M, hMM⟩ : ∃ M, M = tkM s i0 i2 := ⟨_, rfl⟩
  obtain ⟨P, hPP⟩ : ∃ P, P = tkP s i1 i2 j0 es := ⟨_, rfl⟩
  obtain ⟨RM, hRM⟩ : ∃ R, R = rfM M := ⟨_, rfl⟩
  obtain ⟨RP, hRP⟩ : ∃ R, R = rfP M P := ⟨_, rfl⟩
  obtain ⟨RT, hRT⟩ : ∃ R, R = rfT M := ⟨_, rfl⟩
  rw [← hMM] at hM ⊢
  rw [← hPP, ← hRM, ← hRP, ← hRT]
  have HM0 := Lib.hid hM; clear hM
  have HMM := Lib.hid hMM; clear hMM
  have HPP := Lib.hid hPP; clear hPP
  have HRM := Lib.hid hRM; clear hRM
  have HRP := Lib.hid hRP; clear hRP
  have HRT := Lib.hid hRT; clear hRT
  have H := Lib.hid h; clear h
  have HE := Lib.hid hE; clear hE
  have t0 : ¬ s = ByteArray.empty := fun h => by rw [h] at e0; simp at e0
  go_enter Tryz.func81, Tryz.ntmps81
  go_wp2_with fail
  refine scope_labels (fun _ _ _ => False) ?_ (fun l a w h => h.elim)
  go_upto_block 0 with (fail)
  go_cut [4, 7] (fun v4 v7 wc => v4 = .bool ng ∧ v7 = .int .i64 (i0 : Int) ∧ Hid (wc = w))
  case first =>
    have hb0 := bt_is (show 0 < s.size by omega)
    have hb := Lib.hid hb0; clear hb0
    rcases H.out.sg with ⟨rfl, rfl, h45⟩ | ⟨rfl, rfl⟩
    · have p43 : ((s[0].toNat : Int) == 43) = false := beq_eq_false_iff_ne.mpr (by have := hb.out; omega)
      have p45 : ((s[0].toNat : Int) == 45) = true := beq_iff_eq.mpr (by have := hb.out; omega)
      have H45 := Lib.hid h45; clear h45
      as_aux_lemma =>
      go_wp2_with fail
      go_meet
      exact ⟨rfl, rfl, Lib.hid rfl⟩
    · have hd := H.out.dg1 0 (Nat.le_refl _) L01.out
      have p43 : ((s[0].toNat : Int) == 43) = false := beq_eq_false_iff_ne.mpr (by have := hb.out; have := hd.1; omega)
      have p45 : ((s[0].toNat : Int) == 45) = false := beq_eq_false_iff_ne.mpr (by have := hb.out; have := hd.1; omega)
      have HD := Lib.hid hd; clear hd
      as_aux_lemma =>
      go_wp2_with fail
      go_meet
      exact ⟨rfl, rfl, Lib.hid rfl⟩
  case rest =>
    obtain ⟨rfl, rfl, hw⟩ := hcut
    have ii0 : 0 ≤ (i0 : Int) := by omega
    have ii1 : (i0 : Int) ≤ 65536 := by have := I0.out; omega
    go_upto_region 12 with (fail)
    go_cut [54] (fun v54 wd => v54 = .bool false ∧ Hid (wd = w))
    case first =>
      as_aux_lemma =>
      by_cases h2 : i0 + 2 < s.size
      · have t1 : decide ((i0 : Int) + 2 < (s.size : Int)) = true := decide_eq_true (by omega)
        have hx := isN_x (HN.out (i0 + 1) (by omega))
        have t2 : i0 < s.size := by omega
        have t3 : i0 + 1 < s.size := by omega
        go_wp2_with (go_at_call 74; refine (lower_any _).mono ?_; rintro e w' ⟨rfl, rfl⟩)
        all_goals
          go_meet
          exact ⟨rfl, hw⟩
      · have t1 : decide ((i0 : Int) + 2 < (s.size : Int)) = false := decide_eq_false (by omega)
        go_wp2_with fail
        go_meet
        exact ⟨rfl, hw⟩
    case rest =>
      obtain ⟨rfl, hw⟩ := hcut
      go_upto_block 1 with (fail)
      go_step3
      go_upto_block 1 with (fail)
      go_cut [2, 5, 7, 9, 13, 14, 15, 16, 17, 18] (fun v2 v5 v7 v9 v13 v14 v15 v16 v17 v18 wd => ∃ (nd nm m : Nat) (dp : Int) (tr sd : Bool), v2 = .int .u64 (m : Int) ∧ v5 = .bool tr ∧ v7 = .int .i64 (i2 : Int) ∧ v9 = .bool false ∧ v13 = .bool sd ∧ v14 = .bool true ∧ v15 = .int .i64 (nd : Int) ∧ v16 = .int .i64 (nm : Int) ∧ v17 = .int .i64 dp ∧ Hid (Rd M nd nm m tr) ∧ Hid (nd ≤ 65536) ∧ Hid (-65536 ≤ dp ∧ dp ≤ 65536) ∧ Hid (sd = true → dp = nd - ((i2 - i1 - 1 : Nat) : Int)) ∧ Hid (sd = false → i2 - i1 - 1 = 0) ∧ Hid (wd = w))
      case first =>
        as_aux_lemma =>
        go_wp2_with fail
        go_loopg [2, 5, 7, 9, 13, 14, 15, 16, 17, 18] (i2 - i0) (fun g v2 v5 v7 v9 v13 v14 v15 v16 v17 v18 wd => ∃ (i nd nm m : Nat) (dp : Int) (tr sd sg : Bool), v2 = .int .u64 (m : Int) ∧ v5 = .bool tr ∧ v7 = .int .i64 (i : Int) ∧ v9 = .bool false ∧ v13 = .bool sd ∧ v14 = .bool sg ∧ v15 = .int .i64 (nd : Int) ∧ v16 = .int .i64 (nm : Int) ∧ v17 = .int .i64 dp ∧ Hid (i + g = i2) ∧ Hid (i0 ≤ i) ∧ Hid (Rd (mv s i0 (i - i0)) nd nm m tr) ∧ Hid (nd ≤ i) ∧ Hid (-(i : Int) ≤ dp ∧ dp ≤ (i : Int)) ∧ Hid (sg = decide (i0 < i)) ∧ Hid (sd = decide (i1 < i)) ∧ Hid (i1 < i → dp = nd - ((i - i1 - 1 : Nat) : Int)) ∧ Hid (wd = w))
        case atStart => exact ⟨i0, 0, 0, 0, 0, false, false, false, rfl, rfl, rfl, rfl, rfl, rfl, rfl, rfl, rfl, Lib.hid (by have := L12.out; have := L01.out; omega), Lib.hid (Nat.le_refl _), Lib.hid (by rw [Nat.sub_self]; exact Rd.zero), Lib.hid (by omega), Lib.hid (by omega), Lib.hid (by simp), Lib.hid (by rw [decide_eq_false (by have := L01.out; omega)]), Lib.hid (fun h => by have := L01.out; omega), hw⟩
        case round =>
          obtain ⟨i, nd, nm, m, dp, tr, sd, sg, rfl, rfl, rfl, rfl, rfl, rfl, rfl, rfl, rfl, hi, hi0, hR, hnd, hdp, hsg, hsd, hdd, hw⟩ := hrel
          have jj0 : 0 ≤ (i : Int) := by omega
          have jj1 : (i : Int) ≤ 65536 := by have := hi.out; have := HS.out; omega
          have d0 : -65536 ≤ dp := by have := hdp.out; omega
          have d1 : dp ≤ 65536 := by have := hdp.out; omega
          have n0 : 0 ≤ (nd : Int) := by omega
          have n1 : (nd : Int) ≤ 65536 := by have := hnd.out; omega
          have k0 : 0 ≤ (nm : Int) := by omega
          have k1 : (nm : Int) ≤ 19 := by have := hR.out.nm_; omega
          have m0 : 0 ≤ (m : Int) := by omega
          have m1 : (m : Int) < 10000000000000000000 := by have := hR.out.m19; omega
          rcases Nat.eq_zero_or_pos gk with g0 | gp
          · have hii : i = i2 := by have := hi.out; omega
            have hsd2 : sd = true → dp = nd - ((i2 - i1 - 1 : Nat) : Int) := fun h => by
              have h1 := hsd.out; rw [h] at h1
              have h2 := hdd.out (of_decide_eq_true h1.symm)
              rw [hii] at h2; exact h2
            have hsd3 : sd = false → i2 - i1 - 1 = 0 := fun h => by
              have h1 := hsd.out; rw [h] at h1
              have h2 := of_decide_eq_false h1.symm
              omega
            have hsg2 : sg = true := by rw [hsg.out]; exact decide_eq_true (by have := L01.out; have := L12.out; omega)
            have HSD2 := Lib.hid hsd2; clear hsd2
            have HSD3 := Lib.hid hsd3; clear hsd3
            have HRM2 : Hid (Rd M nd nm m tr) := Lib.hid (by rw [HMM.out]; have h1 := hR.out; rw [hii] at h1; exact h1)
            have HII := Lib.hid hii; clear hii
            subst hsg2
            have G0 := Lib.hid g0; clear g0
            rcases H.out.ex with ⟨q1, _⟩ | ⟨q1, q2, _, _⟩
            · have t1 : decide (i < s.size) = false := decide_eq_false (by have := HII.out; omega)
              as_aux_lemma =>
              go_wp2_with fail
              go_meet
              exact ⟨nd, nm, m, dp, tr, sd, rfl, rfl, by rw [HII.out], rfl, rfl, rfl, rfl, rfl, rfl, HRM2, Lib.hid (by omega), Lib.hid (by omega), HSD2, HSD3, hw⟩
            · have hlt : i < s.size := by have := HII.out; omega
              have t1 : decide (i < s.size) = true := decide_eq_true hlt
              have q3 : s[i].toNat = 101 ∨ s[i].toNat = 69 := by
                have h5 : bt s i = s[i].toNat := bt_is hlt
                rw [← h5, HII.out]; exact q2
              have p95 := isN_us (HN.out i hlt)
              have p46 : ((s[i].toNat : Int) == 46) = false := beq_eq_false_iff_ne.mpr (by omega)
              have p48 : decide ((48 : Int) ≤ (s[i].toNat : Int)) = true := decide_eq_true (by omega)
              have p57 : decide ((s[i].toNat : Int) ≤ 57) = false := decide_eq_false (by omega)
              clear q2
              have Q3 := Lib.hid q3; clear q3
              as_aux_lemma =>
              go_wp2_with fail
              go_meet
              exact ⟨nd, nm, m, dp, tr, sd, rfl, rfl, by rw [HII.out], rfl, rfl, rfl, rfl, rfl, rfl, HRM2, Lib.hid (by omega), Lib.hid (by omega), HSD2, HSD3, hw⟩
          · have hlt2 : i < i2 := by have := hi.out; omega
            have hlt : i < s.size := by have := HS.out; omega
            have t1 : decide (i < s.size) = true := decide_eq_true hlt
            have p95 := isN_us (HN.out i hlt)
            have hb := bt_is hlt
            have hsg3 : decide (i0 < i + 1) = true := decide_eq_true (by have := hi0.out; omega)
            have HSG3 := Lib.hid hsg3; clear hsg3
            rcases H.out.at_ hi0.out hlt2 with hdg | ⟨hii, hdot⟩
            · have p46 : ((s[i].toNat : Int) == 46) = false := beq_eq_false_iff_ne.mpr (by have := hdg.1; omega)
              have p48 : decide ((48 : Int) ≤ (s[i].toNat : Int)) = true := decide_eq_true (by have := hdg.1; omega)
              have p57 : decide ((s[i].toNat : Int) ≤ 57) = true := decide_eq_true (by have := hdg.2; omega)
              have x0 : (48 : Int) ≤ (s[i].toNat : Int) := by have := hdg.1; omega
              have x1 : (s[i].toNat : Int) ≤ 57 := by have := hdg.2; omega
              have hmv := mv_dig hi0.out hdg
              have hni : i ≠ i1 ∨ True := .inr trivial
              have hsd4 : decide (i1 < i + 1) = sd ∨ i = i1 := by
                rw [hsd.out]
                by_cases c : i = i1
                · exact .inr c
                · exact .inl (decide_eq_decide.mpr (by omega))
              have hsd5 : i ≠ i1 := fun c => by
                have h6 := H.out.fr
                rcases h6 with h6 | h6
                · have := L12.out; omega
                · have h7 := h6.1; rw [← c] at h7; have := hdg.1; omega
              have hsd6 : sd = decide (i1 < i + 1) := by rw [hsd.out]; exact decide_eq_decide.mpr (by omega)
              have HSD6 := Lib.hid hsd6
              have HSD5 := Lib.hid hsd5
              obtain ⟨c, hc⟩ : ∃ c, c = bt s i - 48 := ⟨_, rfl⟩
              rw [← hc] at hmv
              have c9 : c ≤ 9 := by have := hdg.2; omega
              have cb : (s[i].toNat : Int) - 48 = (c : Int) := by have := hdg.1; omega
              have HC := Lib.hid hc; clear hc
              have HMV := Lib.hid hmv; clear hmv
              have HB := Lib.hid hb; clear hb hsd5 hsd6 hsd4 hni
              have HDG := Lib.hid hdg; clear hdg
              have cb0 : 0 ≤ (c : Int) := by omega
              have cb9 : (c : Int) ≤ 9 := by omega
              have HCB := Lib.hid cb
              by_cases z : c = 0 ∧ nd = 0
              · obtain ⟨z1, z2⟩ := z
                have hpad := hR.out.pad z2 z1
                have HPAD := Lib.hid hpad; clear hpad
                subst z2
                have pz : ((s[i].toNat : Int) == 48) = true := beq_iff_eq.mpr (by have := HC.out; have := HB.out; have := HDG.out.1; omega)
                have Z := Lib.hid z1; clear z1
                clear cb
                as_aux_lemma =>
                go_wp2_with fail
                go_roundg (gk - 1)
                case measure => omega
                case rel => exact ⟨i + 1, 0, nm, m, _, tr, sd, true, rfl, rfl, by go_num, rfl, rfl, rfl, rfl, rfl, rfl, Lib.hid (by have := hi.out; omega), Lib.hid (by have := hi0.out; omega), Lib.hid (by rw [HMV.out, HPAD.out]; exact hR.out), Lib.hid (by omega), Lib.hid (by have := hdp.out; omega), Lib.hid HSG3.out.symm, HSD6, Lib.hid (fun h => by have := hdd.out (by have := HSD5.out; omega); have := HSD5.out; omega), hw⟩
              · have hz : ¬ (nd = 0 ∧ c = 0) := fun h => z ⟨h.2, h.1⟩
                have HZ := Lib.hid hz; clear hz z
                by_cases nb : nm < 19
                · have pb : decide ((nm : Int) < 19) = true := decide_eq_true (by omega)
                  have m18 : (m : Int) < 1000000000000000000 := by have := hR.out.m18 nb; omega
                  have NB := Lib.hid nb; clear nb
                  by_cases cz : c = 0
                  · have pz : ((s[i].toNat : Int) == 48) = true := beq_iff_eq.mpr (by have := HC.out; have := HB.out; have := HDG.out.1; omega)
                    have pn : ((nd : Int) == 0) = false := beq_eq_false_iff_ne.mpr (by have := HZ.out; omega)
                    have CZ := Lib.hid cz; clear cz
                    as_aux_lemma =>
                    go_wp2_with fail
                    go_roundg (gk - 1)
                    case measure => omega
                    case rel => exact ⟨i + 1, nd + 1, nm + 1, m * 10 + c, _, tr, sd, true, by first | rfl | (congr 1; omega), rfl, by go_num, rfl, rfl, rfl, by go_num, by go_num, rfl, Lib.hid (by have := hi.out; omega), Lib.hid (by have := hi0.out; omega), Lib.hid (by rw [HMV.out]; exact hR.out.put c9 HZ.out NB.out), Lib.hid (by have := hnd.out; omega), Lib.hid (by have := hdp.out; omega), Lib.hid HSG3.out.symm, HSD6, Lib.hid (fun h => by have := hdd.out (by have := HSD5.out; omega); have := HSD5.out; omega), hw⟩
                  · have pz : ((s[i].toNat : Int) == 48) = false := beq_eq_false_iff_ne.mpr (by have := HC.out; have := HB.out; have := HDG.out.1; omega)
                    have CZ := Lib.hid cz; clear cz
                    as_aux_lemma =>
                    go_wp2_with fail
                    go_roundg (gk - 1)
                    case measure => omega
                    case rel => exact ⟨i + 1, nd + 1, nm + 1, m * 10 + c, _, tr, sd, true, by first | rfl | (congr 1; omega), rfl, by go_num, rfl, rfl, rfl, by go_num, by go_num, rfl, Lib.hid (by have := hi.out; omega), Lib.hid (by have := hi0.out; omega), Lib.hid (by rw [HMV.out]; exact hR.out.put c9 HZ.out NB.out), Lib.hid (by have := hnd.out; omega), Lib.hid (by have := hdp.out; omega), Lib.hid HSG3.out.symm, HSD6, Lib.hid (fun h => by have := hdd.out (by have := HSD5.out; omega); have := HSD5.out; omega), hw⟩
                · have pb : decide ((nm : Int) < 19) = false := decide_eq_false (by omega)
                  have hdrop := hR.out.drop c9 HZ.out nb
                  have NB := Lib.hid nb; clear nb
                  by_cases cz : c = 0
                  · rw [show decide (c ≠ 0) = false by simp [cz], Bool.or_false] at hdrop
                    have HDR := Lib.hid hdrop; clear hdrop
                    have pz : ((s[i].toNat : Int) == 48) = true := beq_iff_eq.mpr (by have := HC.out; have := HB.out; have := HDG.out.1; omega)
                    have pz' : ((s[i].toNat : Int) != 48) = false := by simp [bne, pz]
                    have pn : ((nd : Int) == 0) = false := beq_eq_false_iff_ne.mpr (by have := HZ.out; omega)
                    have CZ := Lib.hid cz; clear cz
                    as_aux_lemma =>
                    go_wp2_with fail
                    go_roundg (gk - 1)
                    case measure => omega
                    case rel => exact ⟨i + 1, nd + 1, nm, m, _, tr, sd, true, rfl, rfl, by go_num, rfl, rfl, rfl, by go_num, rfl, rfl, Lib.hid (by have := hi.out; omega), Lib.hid (by have := hi0.out; omega), Lib.hid (by rw [HMV.out]; exact HDR.out), Lib.hid (by have := hnd.out; omega), Lib.hid (by have := hdp.out; omega), Lib.hid HSG3.out.symm, HSD6, Lib.hid (fun h => by have := hdd.out (by have := HSD5.out; omega); have := HSD5.out; omega), hw⟩
                  · rw [show decide (c ≠ 0) = true by simp [cz], Bool.or_true] at hdrop
                    have HDR := Lib.hid hdrop; clear hdrop
                    have pz : ((s[i].toNat : Int) == 48) = false := beq_eq_false_iff_ne.mpr (by have := HC.out; have := HB.out; have := HDG.out.1; omega)
                    have pz' : ((s[i].toNat : Int) != 48) = true := by simp [bne, pz]
                    have CZ := Lib.hid cz; clear cz
                    as_aux_lemma =>
                    go_wp2_with fail
                    go_roundg (gk - 1)
                    case measure => omega
                    case rel => exact ⟨i + 1, nd + 1, nm, m, _, true, sd, true, rfl, rfl, by go_num, rfl, rfl, rfl, by go_num, rfl, rfl, Lib.hid (by have := hi.out; omega), Lib.hid (by have := hi0.out; omega), Lib.hid (by rw [HMV.out]; exact HDR.out), Lib.hid (by have := hnd.out; omega), Lib.hid (by have := hdp.out; omega), Lib.hid HSG3.out.symm, HSD6, Lib.hid (fun h => by have := hdd.out (by have := HSD5.out; omega); have := HSD5.out; omega), hw⟩
            · have p46 : ((s[i].toNat : Int) == 46) = true := beq_iff_eq.mpr (by omega)
              have hsd7 : sd = false := by rw [hsd.out]; exact decide_eq_false (by omega)
              have hsd8 : true = decide (i1 < i + 1) := by rw [decide_eq_true (by omega)]
              have HSD8 := Lib.hid hsd8; clear hsd8
              have hmv := mv_dot hi0.out hdot
              have HMV := Lib.hid hmv; clear hmv
              have HII := Lib.hid hii; clear hii hdot hb
              subst hsd7
              as_aux_lemma =>
              go_wp2_with fail
              go_roundg (gk - 1)
              case measure => omega
              case rel => exact ⟨i + 1, nd, nm, m, _, tr, true, sg, rfl, rfl, by go_num, rfl, rfl, rfl, rfl, rfl, rfl, Lib.hid (by have := hi.out; omega), Lib.hid (by have := hi0.out; omega), Lib.hid (by rw [HMV.out]; exact hR.out), Lib.hid (by have := hnd.out; omega), Lib.hid (by have := hnd.out; omega), Lib.hid (by rw [hsg.out]; exact decide_eq_decide.mpr (by have := HII.out; have := L01.out; omega)), HSD8, Lib.hid (fun h => by have := HII.out; omega), hw⟩
      case rest =>
        obtain ⟨nd, nm, m, dp, tr, sd, rfl, rfl, rfl, rfl, rfl, rfl, rfl, rfl, rfl, hR, hnd, hdp, hdd, hdz, hw⟩ := hcut
        have jj0 : 0 ≤ (i2 : Int) := by omega
        have jj1 : (i2 : Int) ≤ 65536 := by have := HS.out; omega
        have n0 : 0 ≤ (nd : Int) := by omega
        have n1 : (nd : Int) ≤ 65536 := by have := hnd.out; omega
        have k0 : 0 ≤ (nm : Int) := by omega
        have k1 : (nm : Int) ≤ 19 := by have := hR.out.nm_; omega
        have hTR : tr = RT := by rw [HRT.out]; unfold rfT; rw [← hR.out.nd_]; exact hR.out.tr_
        subst hTR
        have hmR : m = RM := by rw [HRM.out]; unfold rfM; rw [← hR.out.nd_]; exact hR.out.m_
        subst hmR
        have m0' : m ≠ 0 := by
          rw [HRM.out]; unfold rfM
          have hl := dlen_lo HM0.out
          have hp := dlen_pos HM0.out
          have : 10 ^ (dlen M - 19) ≤ M := Nat.le_trans (Nat.pow_le_pow_right (by decide) (by omega)) hl
          have := Nat.div_pos this (p10 _)
          omega
        have mz : ((m : Int) != 0) = true := bne_iff_ne.mpr (by omega)
        have M0 := Lib.hid m0'; clear m0'
        go_upto_if 142 with (fail)
        go_cut [17] (fun v17 we => v17 = .int .i64 ((nd : Int) - (frl i1 i2 : Int)) ∧ Hid (we = w))
        case first =>
          cases sd with
          | true =>
            have := hdd.out rfl
            have HD1 := Lib.hid this; clear this
            go_wp2_with fail
            go_meet
            exact ⟨congrArg _ HD1.out, hw⟩
          | false =>
            have := hdz.out rfl
            have HD1 := Lib.hid this; clear this
            go_wp2_with fail
            go_meet
            exact ⟨congrArg _ (by unfold frl; have := HD1.out; omega), hw⟩
        case rest =>
          clear hdp hdd hdz
          obtain ⟨rfl, hw⟩ := hcut
          obtain ⟨fl, hfl⟩ : ∃ fl, fl = frl i1 i2 := ⟨_, rfl⟩
          rw [← hfl]
          have fl1 : (fl : Int) ≤ 65536 := by rw [hfl]; unfold frl; have := HS.out; omega
          have fl0 : 0 ≤ (fl : Int) := by omega
          have HFL := Lib.hid hfl; clear hfl
          rcases H.out.ex with ⟨q1, q2⟩ | ⟨q1, q2, q3, q4⟩
          · have hP : (nd : Int) - (fl : Int) - (nm : Int) = RP := by
              rw [HRP.out]; unfold rfP
              rw [HPP.out]; unfold tkP exv
              rw [← HFL.out, q2, q1, Nat.sub_self, dv, ← hR.out.nd_]
              have := hR.out.nm_
              cases es <;> simp <;> omega
            have HP := Lib.hid hP; clear hP
            have t1 : decide (i2 < s.size) = false := decide_eq_false (by omega)
            as_aux_lemma =>
            go_wp2_with fail
            simp only [jumps]
            refine bodyPost_ret (results_tmp7 rfl _ _ _) rfl ?_
            exact ⟨rf_is rfl HP.out (by omega), hw.out⟩
          · have t1 : decide (i2 < s.size) = true := decide_eq_true q1
            have he : bits .or .u8 (s[i2].toNat : Int) 32 = 101 := e_low (by have h5 := bt_is q1; rw [← h5]; exact q2)
            have te : (bits .or .u8 (s[i2].toNat : Int) 32 == 101) = true := beq_iff_eq.mpr he
            have HE1 := Lib.hid he; clear he q2
            have t2 : decide ((s.size : Int) ≤ (i2 : Int) + 1) = false := decide_eq_false (by rcases q4 with h | h | h <;> omega)
            have t2' : i2 + 1 < s.size := by rcases q4 with h | h | h <;> omega
            have Q4 := Lib.hid q4; clear q4
            go_upto_block 4 with (go_at_call 74; refine (lower_any _).mono ?_; rintro e w' ⟨rfl, rfl⟩)
            go_cut [7, 19] (fun v7 v19 wf => ∃ sg : Int, v7 = .int .i64 (j0 : Int) ∧ v19 = .int .i64 sg ∧ Hid (sg = if es then -1 else 1) ∧ Hid (wf = w))
            case first =>
              have hb := bt_is t2'
              have HB := Lib.hid hb; clear hb
              rcases Q4.out with ⟨h1, h2⟩ | ⟨h1, h3, h2⟩ | ⟨h1, h3, h2⟩
              · have hd := H.out.dg3 (i2 + 1) (by omega) t2'
                have p43 : ((s[i2 + 1].toNat : Int) == 43) = false := beq_eq_false_iff_ne.mpr (by have := HB.out; have := hd.1; omega)
                have p45 : ((s[i2 + 1].toNat : Int) == 45) = false := beq_eq_false_iff_ne.mpr (by have := HB.out; have := hd.1; omega)
                have HD := Lib.hid hd; clear hd
                have H1 := Lib.hid h1; clear h1
                subst h2
                as_aux_lemma =>
                go_wp2_with fail
                go_meet
                exact ⟨_, congrArg _ (by have := H1.out; omega), rfl, Lib.hid rfl, hw⟩
              · have p43 : ((s[i2 + 1].toNat : Int) == 43) = true := beq_iff_eq.mpr (by have := HB.out; omega)
                have p45 : ((s[i2 + 1].toNat : Int) == 45) = false := beq_eq_false_iff_ne.mpr (by have := HB.out; omega)
                have H1 := Lib.hid h1; clear h1
                have H3 := Lib.hid h3; clear h3
                subst h2
                as_aux_lemma =>
                go_wp2_with fail
                go_meet
                exact ⟨_, congrArg _ (by have := H1.out; omega), rfl, Lib.hid rfl, hw⟩
              · have p43 : ((s[i2 + 1].toNat : Int) == 43) = false := beq_eq_false_iff_ne.mpr (by have := HB.out; omega)
                have p45 : ((s[i2 + 1].toNat : Int) == 45) = true := beq_iff_eq.mpr (by have := HB.out; omega)
                have H1 := Lib.hid h1; clear h1
                have H3 := Lib.hid h3; clear h3
                subst h2
                as_aux_lemma =>
                go_wp2_with fail
                go_meet
                exact ⟨_, congrArg _ (by have := H1.out; omega), rfl, Lib.hid rfl, hw⟩
            case rest =>
              clear t1 te t2 hw
              obtain ⟨sg, rfl, rfl, hsg, hw⟩ := hcut
              have j00 : 0 ≤ (j0 : Int) := by omega
              have j01 : (j0 : Int) ≤ 65536 := by omega
              have t3 : decide (s.size ≤ j0) = false := decide_eq_false (by omega)
              have hd := H.out.dg3 j0 (Nat.le_refl _) q3
              have hb := bt_is q3
              have t4 : decide ((s[j0].toNat : Int) < 48) = false := decide_eq_false (by have := hd.1; omega)
              have t5 : decide ((57 : Int) < (s[j0].toNat : Int)) = false := decide_eq_false (by have := hd.2; omega)
              have HD := Lib.hid hd; clear hd
              have HB := Lib.hid hb; clear hb
              go_upto_block 5 with (fail)
              go_cut [7, 9, 20] (fun v7 v9 v20 wg => v7 = .int .i64 (s.size : Int) ∧ v9 = .bool false ∧ v20 = .int .i64 ((exv s j0 : Nat) : Int) ∧ Hid (wg = w))
              case first =>
                as_aux_lemma =>
                go_wp2_with fail
                go_loopg [7, 9, 20] (s.size - j0) (fun g v7 v9 v20 wg => ∃ (j e : Nat), v7 = .int .i64 (j : Int) ∧ v9 = .bool false ∧ v20 = .int .i64 (e : Int) ∧ Hid (j + g = s.size) ∧ Hid (j0 ≤ j) ∧ Hid (e = dv (fun k => bt s k - 48) j0 (j - j0)) ∧ Hid (wg = w))
                case atStart => exact ⟨j0, 0, rfl, rfl, rfl, Lib.hid (by omega), Lib.hid (Nat.le_refl _), Lib.hid (by rw [Nat.sub_self]; rfl), hw⟩
                case round =>
                  obtain ⟨j, e, rfl, rfl, rfl, hj, hj0, he, hw⟩ := hrel
                  have k00 : 0 ≤ (j : Int) := by omega
                  have k01 : (j : Int) ≤ 65536 := by have := hj.out; omega
                  have e00 : 0 ≤ (e : Int) := by omega
                  have e1 : e < 10000 := by
                    have h1 := he.out
                    have h2 := HE.out
                    have h3 := dv_le (f := fun k => bt s k - 48) (i := j0) (a := j - j0) (b := s.size - j0) (by have := hj.out; omega)
                    unfold exv at h2
                    omega
                  have e11 : (e : Int) ≤ 10000 := by omega
                  by_cases hlt : j < s.size
                  · have t1 : decide (j < s.size) = true := decide_eq_true hlt
                    have p95 := isN_us (HN.out j hlt)
                    have hd := H.out.dg3 j hj0.out hlt
                    have hb := bt_is hlt
                    have t4 : decide ((48 : Int) ≤ (s[j].toNat : Int)) = true := decide_eq_true (by have := hd.1; omega)
                    have t5 : decide ((s[j].toNat : Int) ≤ 57) = true := decide_eq_true (by have := hd.2; omega)
                    have x0 : (48 : Int) ≤ (s[j].toNat : Int) := by have := hd.1; omega
                    have x1 : (s[j].toNat : Int) ≤ 57 := by have := hd.2; omega
                    have t6 : decide (e < 10000) = true := decide_eq_true e1
                    have t6' : decide ((e : Int) < 10000) = true := decide_eq_true (by omega)
                    have hst := exv_step (s := s) hj0.out
                    have HST := Lib.hid hst; clear hst
                    have HD := Lib.hid hd; clear hd
                    have HB := Lib.hid hb; clear hb
                    go_wp2_with fail
                    go_roundg (gk - 1)
                    case measure => have := hj.out; omega
                    case rel => exact ⟨j + 1, e * 10 + (bt s j - 48), by go_num, rfl, congrArg _ (by have := HB.out; have := HD.out.1; omega), Lib.hid (by have := hj.out; omega), Lib.hid (by have := hj0.out; omega), Lib.hid (by rw [HST.out, he.out]), hw⟩
                  · have t1 : decide (j < s.size) = false := decide_eq_false hlt
                    go_wp2_with fail
                    go_meet
                    exact ⟨congrArg _ (by have := hj.out; omega), rfl, congrArg _ (by rw [he.out, show j = s.size by have := hj.out; omega]; rfl), hw⟩
              case rest =>
                clear hw t3 t4 t5
                obtain ⟨rfl, rfl, rfl, hw⟩ := hcut
                obtain ⟨ev, hev⟩ : ∃ ev, ev = exv s j0 := ⟨_, rfl⟩
                rw [← hev]
                have ev0 : 0 ≤ (ev : Int) := by omega
                have ev1 : (ev : Int) ≤ 10000 := by have := HE.out; omega
                have hP : (nd : Int) - (fl : Int) + (if es then -(ev : Int) else (ev : Int)) - (nm : Int) = RP := by
                  rw [HRP.out]; unfold rfP
                  rw [HPP.out]; unfold tkP
                  rw [← hR.out.nd_, ← HFL.out, ← hev]
                  have := hR.out.nm_
                  cases es <;> simp <;> omega
                have HP := Lib.hid hP; clear hP
                have HEV := Lib.hid hev; clear hev
                cases es with
                | true =>
                  obtain rfl : sg = -1 := hsg.out
                  as_aux_lemma =>
                  go_wp2_with fail
                  simp only [jumps]
                  refine bodyPost_ret (results_tmp7 rfl _ _ _) rfl ?_
                  exact ⟨rf_is rfl (by rw [← HP.out]; simp) rfl, hw.out⟩
                | false =>
                  obtain rfl : sg = 1 := hsg.out
                  as_aux_lemma =>
                  go_wp2_with fail
                  simp only [jumps]
                  refine bodyPost_ret (results_tmp7 rfl _ _ _) rfl ?_
                  exact ⟨rf_is rfl (by rw [← HP.out]; simp) rfl, hw.out⟩
end Go.Proofs.YtjemobfhlfejlaaGreatDoor.Dc
