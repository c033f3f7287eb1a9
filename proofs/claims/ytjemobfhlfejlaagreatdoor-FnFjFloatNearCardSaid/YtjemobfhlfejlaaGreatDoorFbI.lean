/- Walks and plain laws on the way to FnFjFloatNear. No condition but what each lemma states. -/
import Derived.Test.YtjemobfhlfejlaaGreatDoorFbF
set_option linter.unusedVariables false
set_option linter.unusedSimpArgs false
namespace Go.Proofs.YtjemobfhlfejlaaGreatDoor.Dc
open Go Go.RowKit
theorem norm_snoc {a : List Int} (hl : a.length = 800) {n : Nat} (hn : n < 800) (h : n = 0 ∨ Norm a n) (x : Int) (x0 : 48 ≤ x) (x1 : x ≤ 57) (hx : n = 0 → x ≠ 48) : Norm (a.set n x) (n + 1) := by
  refine ⟨by omega, by omega, fun i hi => ?_, ?_⟩
  · rcases Nat.lt_or_ge i n with h1 | h1
    · rcases h with h | h
      · omega
      · have := h.digs i h1
        rw [List.getD_eq_getElem?_getD, List.getElem?_set_ne (by omega), ← List.getD_eq_getElem?_getD]
        exact this
    · obtain rfl : i = n := by omega
      rw [List.getD_eq_getElem?_getD, List.getElem?_set_self (by omega)]
      exact ⟨x0, x1⟩
  · rcases Nat.eq_zero_or_pos n with h1 | h1
    · subst h1
      rw [List.getD_eq_getElem?_getD, List.getElem?_set_self (by omega)]
      have := hx rfl
      show 49 ≤ x
      omega
    · rcases h with h | h
      · omega
      · rw [List.getD_eq_getElem?_getD, List.getElem?_set_ne (by omega), ← List.getD_eq_getElem?_getD]
        exact h.lead
structure St (A : Nat) (a : List Int) (n : Nat) : Prop where
  nd_ : n = dlen A
  norm : n = 0 ∨ Norm a n
  val : dv (nf a) 0 n = A
theorem St.pad {A n c : Nat} {a : List Int} (h : St A a n) (hn : n = 0) (hc : c = 0) : A * 10 + c = A := by
  have h1 := h.nd_
  by_cases hA : A = 0
  · omega
  · have := dlen_pos hA; omega
theorem St.nz {A n c : Nat} {a : List Int} (h : St A a n) (hn : ¬ (n = 0 ∧ c = 0)) : A ≠ 0 ∨ c ≠ 0 := by
  have h1 := h.nd_
  by_cases hA : A = 0
  · subst hA; rw [dlen_zero] at h1; omega
  · exact .inl hA
theorem St.put {A n c : Nat} {a : List Int} {x : Int} (h : St A a n) (hl : a.length = 800) (hn : n < 800) (hc : c ≤ 9) (hx : x = (c : Int) + 48) (hz : ¬ (n = 0 ∧ c = 0)) : St (A * 10 + c) (a.set n x) (n + 1) := by
  refine ⟨by rw [dlen_step hc (h.nz hz), h.nd_], .inr (norm_snoc hl hn h.norm x (by omega) (by omega) (fun e => by omega)), ?_⟩
  rw [nf_set (by omega), h.val]
  unfold dig
  omega
set_option maxHeartbeats 4000000 in
set_option maxRecDepth 100000 in
theorem set_any {w : World} {b : Nat} {a : List Int} {ng0 tr0 : Bool} (h : D w b a 0 0 ng0 tr0) {s : ByteArray} {i0 i1 i2 j0 : Nat} {ng es : Bool} (hs : s.size ≤ 800) (hk : Tok s i0 i1 i2 j0 ng es) (hM : tkM s i0 i2 ≠ 0) (hE : exv s j0 < 10000) :
    Calls Tryz.prog 87 #[.pointer (some ⟨b, 0, none⟩), .string s] w fun e w' => e = .returned (.bool true) ∧ (∃ a' : List Int, St (tkM s i0 i2) a' (dlen (tkM s i0 i2)) ∧ D w' b a' ((dlen (tkM s i0 i2) : Nat) : Int) ((dlen (tkM s i0 i2) : Int) + tkP s i1 i2 j0 es) ng false) ∧ Below b w w' := by
  have hu := Tryz.underlying149
  have hu2 := Tryz.underlying147
  have HN := Lib.hid hk.num
  have ss : (s.size : Int) ≤ 800 := by omega
  have HS := Lib.hid hk.leS
  have L12 := Lib.hid hk.le2
  have L01 := Lib.hid hk.lt1
  have I0 := Lib.hid hk.i0le
  have e0 := hk.le0
  obtain ⟨M, hMM⟩ : ∃ M, M = tkM s i0 i2 := ⟨_, rfl⟩
  obtain ⟨P, hPP⟩ : ∃ P, P = tkP s i1 i2 j0 es := ⟨_, rfl⟩
  rw [← hMM] at hM ⊢
  rw [← hPP]
  have HM0 := Lib.hid hM; clear hM
  have HMM := Lib.hid hMM; clear hMM
  have HPP := Lib.hid hPP; clear hPP
  have HK := Lib.hid hk; clear hk
  have HE := Lib.hid hE; clear hE
  have c802 := h.ng_
  have f802 := h.free 802
  have h1 := h.set_ng false
  have c803 := h1.tr_
  have f803 := h1.free 803
  have h2 := h1.set_tr false
  have B2 : Hid (Below b w ((w.setCell ⟨b, 802, none⟩ (.bool false)).setCell ⟨b, 803, none⟩ (.bool false))) := Lib.hid (((Below.refl b w).setCell (Nat.le_refl _) _).setCell (Nat.le_refl _) _)
  have H := Lib.hid h; clear h
  have H1 := Lib.hid h1; clear h1
  have H2 := Lib.hid h2; clear h2
  have t0 : ¬ s = ByteArray.empty := fun h => by rw [h] at e0; simp at e0
  go_enter Tryz.func87, Tryz.ntmps87
  go_upto_block 0 with (fail)
  go_cut [5] (fun v5 wc => v5 = .int .i64 (i0 : Int) ∧ Hid (D wc b a 0 0 ng false) ∧ Hid (Below b w wc))
  case first =>
    have f802' := H2.out.free 802
    have c802' := H2.out.ng_
    have hb0 := bt_is (show 0 < s.size by omega)
    have hb := Lib.hid hb0; clear hb0
    rcases HK.out.sg with ⟨rfl, rfl, h45⟩ | ⟨rfl, rfl⟩
    · have p43 : ((s[0].toNat : Int) == 43) = false := beq_eq_false_iff_ne.mpr (by have := hb.out; omega)
      have p45 : ((s[0].toNat : Int) == 45) = true := beq_iff_eq.mpr (by have := hb.out; omega)
      have H45 := Lib.hid h45; clear h45
      as_aux_lemma =>
      go_wp2_with fail
      go_meet
      exact ⟨rfl, Lib.hid (H2.out.set_ng true), Lib.hid (B2.out.setCell (Nat.le_refl _) _)⟩
    · have hd := HK.out.dg1 0 (Nat.le_refl _) L01.out
      have p43 : ((s[0].toNat : Int) == 43) = false := beq_eq_false_iff_ne.mpr (by have := hb.out; have := hd.1; omega)
      have p45 : ((s[0].toNat : Int) == 45) = false := beq_eq_false_iff_ne.mpr (by have := hb.out; have := hd.1; omega)
      have HD := Lib.hid hd; clear hd
      as_aux_lemma =>
      go_wp2_with fail
      go_meet
      exact ⟨rfl, H2, B2⟩
  case rest =>
    obtain ⟨rfl, hD, hB⟩ := hcut
    clear c802 f802 c803 f803
    have ii0 : 0 ≤ (i0 : Int) := by omega
    have ii1 : (i0 : Int) ≤ 800 := by have := I0.out; omega
    go_upto_block 1 with (fail)
    go_cut [5, 6, 7] (fun v5 v6 v7 wd => ∃ (n : Nat) (dp : Int) (a : List Int) (sd : Bool), v5 = .int .i64 (i2 : Int) ∧ v6 = .bool sd ∧ v7 = .bool true ∧ Hid (St M a n) ∧ Hid (D wd b a (n : Int) dp ng false) ∧ Hid (Below b w wd) ∧ Hid (-800 ≤ dp ∧ dp ≤ 800) ∧ Hid (sd = true → dp = n - ((i2 - i1 - 1 : Nat) : Int)) ∧ Hid (sd = false → i2 - i1 - 1 = 0))
    case first =>
      as_aux_lemma =>
      go_wp2_with fail
      go_loopg [5, 6, 7] (i2 - i0) (fun g v5 v6 v7 wd => ∃ (i n : Nat) (dp : Int) (a : List Int) (sd sg : Bool), v5 = .int .i64 (i : Int) ∧ v6 = .bool sd ∧ v7 = .bool sg ∧ Hid (i + g = i2) ∧ Hid (i0 ≤ i) ∧ Hid (St (mv s i0 (i - i0)) a n) ∧ Hid (n ≤ i) ∧ Hid (D wd b a (n : Int) dp ng false) ∧ Hid (Below b w wd) ∧ Hid (-(i : Int) ≤ dp ∧ dp ≤ (i : Int)) ∧ Hid (sg = decide (i0 < i)) ∧ Hid (sd = decide (i1 < i)) ∧ Hid (i1 < i → dp = n - ((i - i1 - 1 : Nat) : Int)))
      case atStart => exact ⟨i0, 0, 0, a, false, false, rfl, rfl, rfl, Lib.hid (by have := L12.out; have := L01.out; omega), Lib.hid (Nat.le_refl _), Lib.hid (by rw [Nat.sub_self]; exact ⟨dlen_zero.symm, .inl rfl, rfl⟩), Lib.hid (by omega), hD, hB, Lib.hid (by omega), Lib.hid (by simp), Lib.hid (by rw [decide_eq_false (by have := L01.out; omega)]), Lib.hid (fun h => by have := L01.out; omega)⟩
      case round =>
        clear hD hB
        obtain ⟨i, n, dp, a, sd, sg, rfl, rfl, rfl, hi, hi0, hR, hnd, hD, hB, hdp, hsg, hsd, hdd⟩ := hrel
        have jj0 : 0 ≤ (i : Int) := by omega
        have jj1 : (i : Int) ≤ 800 := by have := hi.out; have := HS.out; omega
        have d0 : -800 ≤ dp := by have := hdp.out; omega
        have d1 : dp ≤ 800 := by have := hdp.out; omega
        have n0 : 0 ≤ (n : Int) := by omega
        have n8 : (n : Int) ≤ 800 := by have := hnd.out; omega
        have c800 := hD.out.nd_
        have c801 := hD.out.dp_
        have c803 := hD.out.tr_
        have f801 := hD.out.free 801
        have f800 := hD.out.free 800
        have f803 := hD.out.free 803
        rcases Nat.eq_zero_or_pos gk with g0 | gp
        · have hii : i = i2 := by have := hi.out; omega
          have hsd2 : sd = true → dp = n - ((i2 - i1 - 1 : Nat) : Int) := fun h => by
            have h1 := hsd.out; rw [h] at h1
            have h2 := hdd.out (of_decide_eq_true h1.symm)
            rw [hii] at h2; exact h2
          have hsd3 : sd = false → i2 - i1 - 1 = 0 := fun h => by
            have h1 := hsd.out; rw [h] at h1
            have h2 := of_decide_eq_false h1.symm
            omega
          have hsg2 : sg = true := by rw [hsg.out]; exact decide_eq_true (by have := L01.out; have := L12.out; omega)
          have HSD2 := Lib.hid hsd2; clear hsd2
          have HSD3 := Lib.hid hsd3; clear hsd3
          have HRM2 : Hid (St M a n) := Lib.hid (by rw [HMM.out]; have h1 := hR.out; rw [hii] at h1; exact h1)
          have HII := Lib.hid hii; clear hii
          subst hsg2
          have G0 := Lib.hid g0; clear g0
          rcases HK.out.ex with ⟨q1, _⟩ | ⟨q1, q2, _, _⟩
          · have t1 : decide (i < s.size) = false := decide_eq_false (by have := HII.out; omega)
            as_aux_lemma =>
            go_wp2_with fail
            go_meet
            exact ⟨n, dp, a, sd, by rw [HII.out], rfl, rfl, HRM2, hD, hB, Lib.hid (by omega), HSD2, HSD3⟩
          · have hlt : i < s.size := by have := HII.out; omega
            have t1 : decide (i < s.size) = true := decide_eq_true hlt
            have q3 : s[i].toNat = 101 ∨ s[i].toNat = 69 := by
              have h5 : bt s i = s[i].toNat := bt_is hlt
              rw [← h5, HII.out]; exact q2
            have p95 := isN_us (HN.out i hlt)
            have p46 : ((s[i].toNat : Int) == 46) = false := beq_eq_false_iff_ne.mpr (by omega)
            have p48 : decide ((48 : Int) ≤ (s[i].toNat : Int)) = true := decide_eq_true (by omega)
            have p57 : decide ((s[i].toNat : Int) ≤ 57) = false := decide_eq_false (by omega)
            clear q2
            have Q3 := Lib.hid q3; clear q3
            as_aux_lemma =>
            go_wp2_with fail
            go_meet
            exact ⟨n, dp, a, sd, by rw [HII.out], rfl, rfl, HRM2, hD, hB, Lib.hid (by omega), HSD2, HSD3⟩
        · have hlt2 : i < i2 := by have := hi.out; omega
          have hlt : i < s.size := by have := HS.out; omega
          have t1 : decide (i < s.size) = true := decide_eq_true hlt
          have p95 := isN_us (HN.out i hlt)
          have hb := bt_is hlt
          have hsg3 : decide (i0 < i + 1) = true := decide_eq_true (by have := hi0.out; omega)
          have HSG3 := Lib.hid hsg3; clear hsg3
          rcases HK.out.at_ hi0.out hlt2 with hdg | ⟨hii, hdot⟩
          · have p46 : ((s[i].toNat : Int) == 46) = false := beq_eq_false_iff_ne.mpr (by have := hdg.1; omega)
            have p48 : decide ((48 : Int) ≤ (s[i].toNat : Int)) = true := decide_eq_true (by have := hdg.1; omega)
            have p57 : decide ((s[i].toNat : Int) ≤ 57) = true := decide_eq_true (by have := hdg.2; omega)
            have hmv := mv_dig hi0.out hdg
            have hsd5 : i ≠ i1 := fun c => by
              have h6 := HK.out.fr
              rcases h6 with h6 | h6
              · have := L12.out; omega
              · have h7 := h6.1; rw [← c] at h7; have := hdg.1; omega
            have hsd6 : sd = decide (i1 < i + 1) := by rw [hsd.out]; exact decide_eq_decide.mpr (by omega)
            have HSD6 := Lib.hid hsd6
            have HSD5 := Lib.hid hsd5
            obtain ⟨c, hc⟩ : ∃ c, c = bt s i - 48 := ⟨_, rfl⟩
            rw [← hc] at hmv
            have c9 : c ≤ 9 := by have := hdg.2; omega
            have hx : (s[i].toNat : Int) = (c : Int) + 48 := by have := hdg.1; omega
            have HX := Lib.hid hx; clear hx
            have HC := Lib.hid hc; clear hc
            have HMV := Lib.hid hmv; clear hmv
            have HB := Lib.hid hb; clear hb hsd5 hsd6
            have HDG := Lib.hid hdg; clear hdg
            have nb : n < 800 := by have := hnd.out; omega
            have pb : decide ((n : Int) < 800) = true := decide_eq_true (by omega)
            have nI : (n : Int) < 800 := by omega
            have iI : (i : Int) < (s.size : Int) := by omega
            have n8' : ¬ n = 800 := by omega
            have NB := Lib.hid nb; clear nb
            by_cases z : c = 0 ∧ n = 0
            · obtain ⟨z1, z2⟩ := z
              have hpad := hR.out.pad z2 z1
              have HPAD := Lib.hid hpad; clear hpad
              subst z2
              have pz : ((s[i].toNat : Int) == 48) = true := beq_iff_eq.mpr (by have := HX.out; omega)
              have pz' : ((s[i].toNat : Int) != 48) = false := by simp [bne, pz]
              have Z := Lib.hid z1; clear z1
              as_aux_lemma =>
              go_wp2_with fail
              go_roundg (gk - 1)
              case measure => omega
              case rel => exact ⟨i + 1, 0, dp - 1, a, sd, true, by go_num, rfl, rfl, Lib.hid (by have := hi.out; omega), Lib.hid (by have := hi0.out; omega), Lib.hid (by rw [HMV.out, HPAD.out]; exact hR.out), Lib.hid (by omega), Lib.hid (hD.out.set_dp _), Lib.hid (hB.out.setCell (Nat.le_refl _) _), Lib.hid (by have := hdp.out; omega), Lib.hid HSG3.out.symm, HSD6, Lib.hid (fun h => by have := hdd.out (by have := HSD5.out; omega); have := HSD5.out; omega)⟩
            · have hz : ¬ (n = 0 ∧ c = 0) := fun h => z ⟨h.2, h.1⟩
              have hput := hR.out.put (x := (s[i].toNat : Int)) hD.out.len NB.out c9 HX.out hz
              have HPUT := Lib.hid hput; clear hput
              have HZ := Lib.hid hz; clear hz z
              by_cases cz : c = 0
              · have pz : ((s[i].toNat : Int) == 48) = true := beq_iff_eq.mpr (by have := HX.out; omega)
                have pz' : ((s[i].toNat : Int) != 48) = false := by simp [bne, pz]
                have pn : ((n : Int) == 0) = false := beq_eq_false_iff_ne.mpr (by have := HZ.out; omega)
                have CZ := Lib.hid cz; clear cz
                as_aux_lemma =>
                go_wp2_with fail
                go_still_tail 11, (by kernel_rfl)
                change wpList _ _ _ _ _ (World.drew _)
                obtain ⟨w2, hw2⟩ : ∃ w2, w2 = wr.drew := ⟨_, rfl⟩
                rw [← hw2]
                have hD2 : D w2 b a (n : Int) dp ng false := by rw [hw2]; exact hD.out.drew
                have hB2 : Below b w w2 := by rw [hw2]; exact hB.out.trans (Joins.below_draws b wr 1)
                have HD2 := Lib.hid hD2
                have HB2 := Lib.hid hB2
                have e800 := hD2.nd_
                have g800 := hD2.free 800
                have gn := hD2.free n
                obtain ⟨z, hz⟩ : ∃ z, w2.cell? ⟨b, n, none⟩ = some (.int .u8 z) := ⟨_, hD2.d n NB.out⟩
                have hD3 := hD2.set_d n NB.out (s[i].toNat : Int)
                have e800' := hD3.nd_
                have g800' := hD3.free 800
                have HD3 := Lib.hid hD3
                clear hD2 hB2 hD3 hw2
                as_aux_lemma =>
                go_wp2_with fail
                go_roundg (gk - 1)
                case measure => omega
                case rel => exact ⟨i + 1, n + 1, dp, a.set n (s[i].toNat : Int), sd, true, by go_num, rfl, rfl, Lib.hid (by have := hi.out; omega), Lib.hid (by have := hi0.out; omega), Lib.hid (by rw [HMV.out]; exact HPUT.out), Lib.hid (by have := hnd.out; omega), Lib.hid (HD3.out.set_nd _), Lib.hid ((HB2.out.setCell (Nat.le_refl _) _).setCell (Nat.le_refl _) _), Lib.hid (by have := hdp.out; omega), Lib.hid HSG3.out.symm, HSD6, Lib.hid (fun h => by have := hdd.out (by have := HSD5.out; omega); have := HSD5.out; omega)⟩
              · have pz : ((s[i].toNat : Int) == 48) = false := beq_eq_false_iff_ne.mpr (by have := HX.out; omega)
                have pz' : ((s[i].toNat : Int) != 48) = true := by simp [bne, pz]
                have CZ := Lib.hid cz; clear cz
                as_aux_lemma =>
                go_wp2_with fail
                go_still_tail 11, (by kernel_rfl)
                change wpList _ _ _ _ _ (World.drew _)
                obtain ⟨w2, hw2⟩ : ∃ w2, w2 = wr.drew := ⟨_, rfl⟩
                rw [← hw2]
                have hD2 : D w2 b a (n : Int) dp ng false := by rw [hw2]; exact hD.out.drew
                have hB2 : Below b w w2 := by rw [hw2]; exact hB.out.trans (Joins.below_draws b wr 1)
                have HD2 := Lib.hid hD2
                have HB2 := Lib.hid hB2
                have e800 := hD2.nd_
                have g800 := hD2.free 800
                have gn := hD2.free n
                obtain ⟨z, hz⟩ : ∃ z, w2.cell? ⟨b, n, none⟩ = some (.int .u8 z) := ⟨_, hD2.d n NB.out⟩
                have hD3 := hD2.set_d n NB.out (s[i].toNat : Int)
                have e800' := hD3.nd_
                have g800' := hD3.free 800
                have HD3 := Lib.hid hD3
                clear hD2 hB2 hD3 hw2
                as_aux_lemma =>
                go_wp2_with fail
                go_roundg (gk - 1)
                case measure => omega
                case rel => exact ⟨i + 1, n + 1, dp, a.set n (s[i].toNat : Int), sd, true, by go_num, rfl, rfl, Lib.hid (by have := hi.out; omega), Lib.hid (by have := hi0.out; omega), Lib.hid (by rw [HMV.out]; exact HPUT.out), Lib.hid (by have := hnd.out; omega), Lib.hid (HD3.out.set_nd _), Lib.hid ((HB2.out.setCell (Nat.le_refl _) _).setCell (Nat.le_refl _) _), Lib.hid (by have := hdp.out; omega), Lib.hid HSG3.out.symm, HSD6, Lib.hid (fun h => by have := hdd.out (by have := HSD5.out; omega); have := HSD5.out; omega)⟩
          · have p46 : ((s[i].toNat : Int) == 46) = true := beq_iff_eq.mpr (by omega)
            have hsd7 : sd = false := by rw [hsd.out]; exact decide_eq_false (by omega)
            have hsd8 : true = decide (i1 < i + 1) := by rw [decide_eq_true (by omega)]
            have HSD8 := Lib.hid hsd8; clear hsd8
            have hmv := mv_dot hi0.out hdot
            have HMV := Lib.hid hmv; clear hmv
            have HII := Lib.hid hii; clear hii hdot hb
            subst hsd7
            as_aux_lemma =>
            go_wp2_with fail
            go_roundg (gk - 1)
            case measure => omega
            case rel => exact ⟨i + 1, n, (n : Int), a, true, sg, by go_num, rfl, rfl, Lib.hid (by have := hi.out; omega), Lib.hid (by have := hi0.out; omega), Lib.hid (by rw [HMV.out]; exact hR.out), Lib.hid (by have := hnd.out; omega), Lib.hid (hD.out.set_dp _), Lib.hid (hB.out.setCell (Nat.le_refl _) _), Lib.hid (by have := hnd.out; omega), Lib.hid (by rw [hsg.out]; exact decide_eq_decide.mpr (by have := HII.out; have := L01.out; omega)), HSD8, Lib.hid (fun h => by have := HII.out; omega)⟩
    case rest =>
      clear hD hB
      obtain ⟨n, dp, a, sd, rfl, rfl, rfl, hR, hD, hB, hdp, hdd, hdz⟩ := hcut
      obtain ⟨fl, hfl⟩ : ∃ fl, fl = frl i1 i2 := ⟨_, rfl⟩
      have fl1 : (fl : Int) ≤ 800 := by rw [hfl]; unfold frl; have := HS.out; omega
      have fl0 : 0 ≤ (fl : Int) := by omega
      have HFL := Lib.hid hfl; clear hfl
      have jj0 : 0 ≤ (i2 : Int) := by omega
      have jj1 : (i2 : Int) ≤ 800 := by have := HS.out; omega
      have n0 : 0 ≤ (n : Int) := by omega
      have n8 : (n : Int) ≤ 800 := by rcases hR.out.norm with h | h; omega; have := h.le; omega
      go_upto_if 120 with (fail)
      go_cut [] (fun we => Hid (D we b a (n : Int) ((n : Int) - (fl : Int)) ng false) ∧ Hid (Below b w we))
      case first =>
        have c800 := hD.out.nd_
        have c801 := hD.out.dp_
        have f801 := hD.out.free 801
        cases sd with
        | true =>
          have hdq : dp = (n : Int) - (fl : Int) := by rw [HFL.out]; exact hdd.out rfl
          have HDQ := Lib.hid hdq; clear hdq
          as_aux_lemma =>
          go_wp2_with fail
          go_meet
          exact ⟨Lib.hid (by rw [← HDQ.out]; exact hD.out), hB⟩
        | false =>
          have hdq : fl = 0 := by rw [HFL.out]; exact hdz.out rfl
          have HDQ := Lib.hid hdq; clear hdq
          as_aux_lemma =>
          go_wp2_with fail
          go_meet
          exact ⟨Lib.hid (by have h5 := hD.out.set_dp (n : Int); rw [HDQ.out]; simpa using h5), Lib.hid (hB.out.setCell (Nat.le_refl _) _)⟩
      case rest =>
        clear hD hB hdp hdd hdz
        obtain ⟨hD, hB⟩ := hcut
        rcases HK.out.ex with ⟨q1, q2⟩ | ⟨q1, q2, q3, q4⟩
        · have hP : (n : Int) - (fl : Int) = (n : Int) + P := by
            rw [HPP.out]; unfold tkP exv
            rw [← HFL.out, q2, q1, Nat.sub_self, dv]
            cases es <;> simp <;> omega
          have HP := Lib.hid hP; clear hP
          have t1 : decide (i2 < s.size) = false := decide_eq_false (by omega)
          have t1' : ((i2 : Int) != (s.size : Int)) = false := by rw [q1]; simp
          as_aux_lemma =>
          go_wp2_with fail
          go_ret
          exact ⟨rfl, ⟨a, by rw [← hR.out.nd_]; exact hR.out, by rw [← hR.out.nd_, ← HP.out]; exact hD.out⟩, hB.out⟩
        · have t1 : decide (i2 < s.size) = true := decide_eq_true q1
          have he : bits .or .u8 (s[i2].toNat : Int) 32 = 101 := e_low (by have h5 := bt_is q1; rw [← h5]; exact q2)
          have te : (bits .or .u8 (s[i2].toNat : Int) 32 == 101) = true := beq_iff_eq.mpr he
          have HE1 := Lib.hid he; clear he q2
          have t2 : decide ((s.size : Int) ≤ (i2 : Int) + 1) = false := decide_eq_false (by rcases q4 with h | h | h <;> omega)
          have t2' : i2 + 1 < s.size := by rcases q4 with h | h | h <;> omega
          have Q4 := Lib.hid q4; clear q4
          go_upto_block 4 with (go_at_call 74; refine (lower_any _).mono ?_; rintro e w' ⟨rfl, rfl⟩)
          go_cut [5, 8] (fun v5 v8 wf => ∃ sg : Int, v5 = .int .i64 (j0 : Int) ∧ v8 = .int .i64 sg ∧ Hid (sg = if es then -1 else 1) ∧ Hid (D wf b a (n : Int) ((n : Int) - (fl : Int)) ng false) ∧ Hid (Below b w wf))
          case first =>
            have hb := bt_is t2'
            have HB := Lib.hid hb; clear hb
            rcases Q4.out with ⟨h1, h2⟩ | ⟨h1, h3, h2⟩ | ⟨h1, h3, h2⟩
            · have hd := HK.out.dg3 (i2 + 1) (by omega) t2'
              have p43 : ((s[i2 + 1].toNat : Int) == 43) = false := beq_eq_false_iff_ne.mpr (by have := HB.out; have := hd.1; omega)
              have p45 : ((s[i2 + 1].toNat : Int) == 45) = false := beq_eq_false_iff_ne.mpr (by have := HB.out; have := hd.1; omega)
              have HD := Lib.hid hd; clear hd
              have H1 := Lib.hid h1; clear h1
              subst h2
              as_aux_lemma =>
              go_wp2_with fail
              go_meet
              exact ⟨_, congrArg _ (by have := H1.out; omega), rfl, Lib.hid rfl, hD, hB⟩
            · have p43 : ((s[i2 + 1].toNat : Int) == 43) = true := beq_iff_eq.mpr (by have := HB.out; omega)
              have p45 : ((s[i2 + 1].toNat : Int) == 45) = false := beq_eq_false_iff_ne.mpr (by have := HB.out; omega)
              have H1 := Lib.hid h1; clear h1
              have H3 := Lib.hid h3; clear h3
              subst h2
              as_aux_lemma =>
              go_wp2_with fail
              go_meet
              exact ⟨_, congrArg _ (by have := H1.out; omega), rfl, Lib.hid rfl, hD, hB⟩
            · have p43 : ((s[i2 + 1].toNat : Int) == 43) = false := beq_eq_false_iff_ne.mpr (by have := HB.out; omega)
              have p45 : ((s[i2 + 1].toNat : Int) == 45) = true := beq_iff_eq.mpr (by have := HB.out; omega)
              have H1 := Lib.hid h1; clear h1
              have H3 := Lib.hid h3; clear h3
              subst h2
              as_aux_lemma =>
              go_wp2_with fail
              go_meet
              exact ⟨_, congrArg _ (by have := H1.out; omega), rfl, Lib.hid rfl, hD, hB⟩
          case rest =>
            clear t1 te t2 hD hB
            obtain ⟨sg, rfl, rfl, hsg, hD, hB⟩ := hcut
            have j00 : 0 ≤ (j0 : Int) := by omega
            have j01 : (j0 : Int) ≤ 800 := by omega
            have t3 : decide (s.size ≤ j0) = false := decide_eq_false (by omega)
            have hd := HK.out.dg3 j0 (Nat.le_refl _) q3
            have hb := bt_is q3
            have t4 : decide ((s[j0].toNat : Int) < 48) = false := decide_eq_false (by have := hd.1; omega)
            have t5 : decide ((57 : Int) < (s[j0].toNat : Int)) = false := decide_eq_false (by have := hd.2; omega)
            have HD := Lib.hid hd; clear hd
            have HB := Lib.hid hb; clear hb
            go_upto_block 5 with (fail)
            go_cut [5, 9] (fun v5 v9 wg => v5 = .int .i64 (s.size : Int) ∧ v9 = .int .i64 ((exv s j0 : Nat) : Int) ∧ Hid (D wg b a (n : Int) ((n : Int) - (fl : Int)) ng false) ∧ Hid (Below b w wg))
            case first =>
              as_aux_lemma =>
              go_wp2_with fail
              go_loopg [5, 9] (s.size - j0) (fun g v5 v9 wg => ∃ (j e : Nat), v5 = .int .i64 (j : Int) ∧ v9 = .int .i64 (e : Int) ∧ Hid (j + g = s.size) ∧ Hid (j0 ≤ j) ∧ Hid (e = dv (fun k => bt s k - 48) j0 (j - j0)) ∧ Hid (D wg b a (n : Int) ((n : Int) - (fl : Int)) ng false) ∧ Hid (Below b w wg))
              case atStart => exact ⟨j0, 0, rfl, rfl, Lib.hid (by omega), Lib.hid (Nat.le_refl _), Lib.hid (by rw [Nat.sub_self]; rfl), hD, hB⟩
              case round =>
                clear hD hB
                obtain ⟨j, e, rfl, rfl, hj, hj0, he, hD, hB⟩ := hrel
                have k00 : 0 ≤ (j : Int) := by omega
                have k01 : (j : Int) ≤ 800 := by have := hj.out; omega
                have e00 : 0 ≤ (e : Int) := by omega
                have e1 : e < 10000 := by
                  have h1 := he.out
                  have h2 := HE.out
                  have h3 := dv_le (f := fun k => bt s k - 48) (i := j0) (a := j - j0) (b := s.size - j0) (by have := hj.out; omega)
                  unfold exv at h2
                  omega
                have e11 : (e : Int) ≤ 10000 := by omega
                by_cases hlt : j < s.size
                · have t1 : decide (j < s.size) = true := decide_eq_true hlt
                  have p95 := isN_us (HN.out j hlt)
                  have hd := HK.out.dg3 j hj0.out hlt
                  have hb := bt_is hlt
                  have t4 : decide ((48 : Int) ≤ (s[j].toNat : Int)) = true := decide_eq_true (by have := hd.1; omega)
                  have t5 : decide ((s[j].toNat : Int) ≤ 57) = true := decide_eq_true (by have := hd.2; omega)
                  have x0 : (48 : Int) ≤ (s[j].toNat : Int) := by have := hd.1; omega
                  have x1 : (s[j].toNat : Int) ≤ 57 := by have := hd.2; omega
                  have t6 : decide (e < 10000) = true := decide_eq_true e1
                  have t6' : decide ((e : Int) < 10000) = true := decide_eq_true (by omega)
                  have hst := exv_step (s := s) hj0.out
                  have HST := Lib.hid hst; clear hst
                  have HD := Lib.hid hd; clear hd
                  have HB := Lib.hid hb; clear hb
                  go_wp2_with fail
                  go_roundg (gk - 1)
                  case measure => have := hj.out; omega
                  case rel => exact ⟨j + 1, e * 10 + (bt s j - 48), by go_num, congrArg _ (by have := HB.out; have := HD.out.1; omega), Lib.hid (by have := hj.out; omega), Lib.hid (by have := hj0.out; omega), Lib.hid (by rw [HST.out, he.out]), hD, hB⟩
                · have t1 : decide (j < s.size) = false := decide_eq_false hlt
                  go_wp2_with fail
                  go_meet
                  exact ⟨congrArg _ (by have := hj.out; omega), congrArg _ (by rw [he.out, show j = s.size by have := hj.out; omega]; rfl), hD, hB⟩
            case rest =>
              clear hD hB t3 t4 t5
              obtain ⟨rfl, rfl, hD, hB⟩ := hcut
              obtain ⟨ev, hev⟩ : ∃ ev, ev = exv s j0 := ⟨_, rfl⟩
              rw [← hev]
              have ev0 : 0 ≤ (ev : Int) := by omega
              have ev1 : (ev : Int) ≤ 10000 := by have := HE.out; omega
              have hP : (n : Int) - (fl : Int) + (if es then -(ev : Int) else (ev : Int)) = (n : Int) + P := by
                rw [HPP.out]; unfold tkP
                rw [← HFL.out, ← hev]
                cases es <;> simp <;> omega
              have HP := Lib.hid hP; clear hP
              have HEV := Lib.hid hev; clear hev
              have c801 := hD.out.dp_
              have f801 := hD.out.free 801
              cases es with
              | true =>
                obtain rfl : sg = -1 := hsg.out
                as_aux_lemma =>
                go_wp2_with fail
                go_ret
                exact ⟨rfl, ⟨a, by rw [← hR.out.nd_]; exact hR.out, by rw [← hR.out.nd_, ← HP.out]; exact hD.out.set_dp _⟩, hB.out.setCell (Nat.le_refl _) _⟩
              | false =>
                obtain rfl : sg = 1 := hsg.out
                as_aux_lemma =>
                go_wp2_with fail
                go_ret
                exact ⟨rfl, ⟨a, by rw [← hR.out.nd_]; exact hR.out, by rw [← hR.out.nd_, ← HP.out]; exact hD.out.set_dp _⟩, hB.out.setCell (Nat.le_refl _) _⟩
end Go.Proofs.YtjemobfhlfejlaaGreatDoor.Dc
