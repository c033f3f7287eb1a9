/- Walks and plain laws on the way to FnFjFloatNear. No condition but what each lemma states. -/
import Derived.Test.YtjemobfhlfejlaaGreatDoorFbE
import Derived.Test.YtjemobfhlfejlaaGreatDoorFbA
import Derived.StillTailTactics
set_option linter.unusedVariables false
set_option linter.unusedSimpArgs false
namespace Go.Proofs.YtjemobfhlfejlaaGreatDoor.Dc
open Go Go.RowKit
theorem x_bd {d : Nat} (d0 : d ≠ 0) (d1 : d < 2 ^ 64) : 2 ^ 63 ≤ d * 2 ^ (64 - Lib.bitLen d) ∧ d * 2 ^ (64 - Lib.bitLen d) < 2 ^ 64 := by
  obtain ⟨b1, b2, b3, b4⟩ := blen d1 d0
  have p := Nat.two_pow_pos (64 - Lib.bitLen d)
  constructor
  · have := Nat.mul_le_mul_right (2 ^ (64 - Lib.bitLen d)) b3
    rw [← Nat.pow_add, show Lib.bitLen d - 1 + (64 - Lib.bitLen d) = 63 by omega] at this
    exact this
  · have := Nat.mul_lt_mul_of_pos_right b4 p
    rw [← Nat.pow_add, show Lib.bitLen d + (64 - Lib.bitLen d) = 64 by omega] at this
    exact this
theorem pfU_bd {d : Nat} {p : Int} (d0 : d ≠ 0) (d1 : d < 2 ^ 64) (p0 : -348 ≤ p) (p1 : p < 348) : 2 ^ 54 - 1 ≤ pfU d p ∧ pfU d p ≤ 2 ^ 56 - 2 ^ 45 := by
  obtain ⟨x0, x1⟩ := x_bd d0 d1
  obtain ⟨h0, h1, l1⟩ := pm_bd (i := (p + 348).toNat) (by omega)
  exact (us_near x0 x1 h0 h1 l1).2.2
theorem pfM_bd {d : Nat} {p : Int} (d0 : d ≠ 0) (d1 : d < 2 ^ 64) (p0 : -348 ≤ p) (p1 : p < 348) : 2 ^ 52 ≤ pfM d p ∧ pfM d p < 2 ^ 53 := by
  obtain ⟨u0, u1⟩ := pfU_bd d0 d1 p0 p1
  have hv : 2 ^ 54 - 1 ≤ pfV d p ∧ pfV d p ≤ 2 ^ 55 - 3 := by
    unfold pfV
    split
    · have := or1 (a := pfU d p / 2) (b := pfU d p % 2) (by omega)
      omega
    · omega
  unfold pfM
  omega
set_option maxHeartbeats 2000000 in
set_option maxRecDepth 100000 in
theorem pf64_any {w : World} (d s i : Nat) (p : Int) (hs : s = 0 ∨ s = 2 ^ 63) (d0 : d ≠ 0) (d1 : d < 2 ^ 64) (hi : p + 348 = (i : Int)) (i1 : i < 696)
    (cy : w.cell? ⟨14, i * 2, none⟩ = some (.int .u64 ((pmr i).1 : Int))) (cz : w.cell? ⟨14, i * 2 + 1, none⟩ = some (.int .u64 ((pmr i).2 : Int))) (hb : 14 < w.heap.size)
    (hE : pfE d p ≤ 1074) (hX : -971 ≤ pfX d p) :
    Calls Tryz.prog 92 #[.int .u64 (d : Int), .int .i64 p, .int .u64 (s : Int)] w fun en w' => en = .returned (.tuple #[.float .f64 (s + pfR d p), .nilIface]) ∧ Below w.heap.size w w' := by
  have hu := Tryz.underlying161
  have L := Lib.hid (Tryz.bits_Len64 (d : Int) w (by omega) (by omega))
  rw [Int.toNat_natCast] at L
  obtain ⟨b1, b2, b3, b4⟩ := blen d1 d0
  obtain ⟨h0, h1, l1⟩ := pm_bd i1
  obtain ⟨xb0, xb1⟩ := x_bd d0 d1
  obtain ⟨u0, u1⟩ := pfU_bd d0 d1 (p := p) (by omega) (by omega)
  obtain ⟨m0, m1⟩ := pfM_bd d0 d1 (p := p) (by omega) (by omega)
  have hi' : (p + 348).toNat = i := by omega
  have EE : pfE d p = 53 - Lib.bitLen d - p * 108853 / 32768 := rfl
  have UU : pfU d p = us (d * 2 ^ (64 - Lib.bitLen d)) (pmr (p + 348).toNat).1 (pmr (p + 348).toNat).2 8 := rfl
  rw [hi'] at UU
  have MM : pfM d p = (pfV d p + 1 + pfV d p / 4 % 2) / 4 := rfl
  have VV : pfV d p = if 2 ^ 55 - 2 ≤ pfU d p then (pfU d p / 2) ||| (pfU d p % 2) else pfU d p := rfl
  have XX : pfX d p = pfE d p - (if 2 ^ 55 - 2 ≤ pfU d p then 1 else 0) := rfl
  have RR : pfR d p = (1074 - pfX d p).toNat * 2 ^ 52 + pfM d p := rfl
  have hp1 : 1 ≤ d * 2 ^ (64 - Lib.bitLen d) * (pmr i).1 / 18446744073709551616 := by
    have : 2 ^ 63 * 2 ^ 63 ≤ d * 2 ^ (64 - Lib.bitLen d) * (pmr i).1 := Nat.mul_le_mul xb0 h0
    omega
  have e0 : -348 ≤ p := by omega
  have e1 : p < 348 := by omega
  have G := Lib.hid (log2_any (w := w) p (by omega) (by omega))
  obtain ⟨n, hn⟩ : ∃ n, n = Lib.bitLen d := ⟨_, rfl⟩
  rw [← hn] at L b1 b2 EE UU hp1 xb0 xb1
  obtain ⟨x, hx⟩ : ∃ x, x = d * 2 ^ (64 - n) := ⟨_, rfl⟩
  rw [← hx] at UU hp1 xb0 xb1
  obtain ⟨g, hg⟩ : ∃ g, p * 108853 / 32768 = g := ⟨_, rfl⟩
  rw [hg] at G EE
  have g0 : -1157 ≤ g := by omega
  have g1 : g ≤ 1156 := by omega
  clear hg
  obtain ⟨U, hU⟩ : ∃ U, U = pfU d p := ⟨_, rfl⟩
  obtain ⟨V, hV⟩ : ∃ V, V = pfV d p := ⟨_, rfl⟩
  obtain ⟨M, hM⟩ : ∃ M, M = pfM d p := ⟨_, rfl⟩
  obtain ⟨E, hE'⟩ : ∃ E, E = pfE d p := ⟨_, rfl⟩
  obtain ⟨X, hX'⟩ : ∃ X, X = pfX d p := ⟨_, rfl⟩
  obtain ⟨R, hR⟩ : ∃ R, R = pfR d p := ⟨_, rfl⟩
  rw [← hU] at UU u0 u1 VV XX
  rw [← hV] at MM VV
  rw [← hM] at MM m0 m1 RR
  rw [← hE'] at EE hE XX
  rw [← hX'] at XX RR hX
  rw [← hR] at RR ⊢
  clear hU hV hM hE' hX' hR hi' b3 b4
  have HUU := Lib.hid UU; clear UU
  have HVV := Lib.hid VV; clear VV
  have HMM := Lib.hid MM; clear MM
  have HEE := Lib.hid EE; clear EE
  have HXX := Lib.hid XX; clear XX
  have HRR := Lib.hid RR; clear RR
  have Hu0 := Lib.hid u0; clear u0
  have Hu1 := Lib.hid u1; clear u1
  have Hm0 := Lib.hid m0; clear m0
  have Hm1 := Lib.hid m1; clear m1
  have Hx := Lib.hid hx; clear hx
  have Hx0 := Lib.hid xb0; clear xb0
  have Hx1 := Lib.hid xb1; clear xb1
  have Hd1 := Lib.hid d1; clear d1
  have Hh1 := Lib.hid h1; clear h1
  have Hl1 := Lib.hid l1; clear l1
  have Hh0 := Lib.hid h0; clear h0
  have Hp1 := Lib.hid hp1; clear hp1
  have HHE := Lib.hid hE; clear hE
  have HHX := Lib.hid hX; clear hX
  have HN := Lib.hid hn; clear hn
  have HI := Lib.hid hi; clear hi
  have HB := Lib.hid hb; clear hb
  have HS := Lib.hid hs; clear hs
  go_enter Tryz.func92, Tryz.ntmps92
  go_wp2_with fail
  go_at_call 97
  refine L.out.mono ?_
  rintro en w' ⟨rfl, rfl⟩
  have n0 : 0 ≤ (n : Int) := by omega
  have n1 : (n : Int) ≤ 64 := by omega
  go_upto_region 5 with (go_at_call 98; refine G.out.mono ?_; rintro en w' ⟨rfl, rfl⟩)
  have HBL := Lib.hid (Joins.below_alloc1 w' (Obj.cells #[Value.int IntKind.u64 0, Value.int IntKind.u64 0, Value.int IntKind.i64 0] 161))
  have hk : (w'.alloc (Obj.cells #[Value.int IntKind.u64 0, Value.int IntKind.u64 0, Value.int IntKind.i64 0] 161)).heap[w'.heap.size]? = some (.cells #[Value.int IntKind.u64 0, Value.int IntKind.u64 0, Value.int IntKind.i64 0] 161 (0, 0)) := Array.getElem?_push_size
  have cy' := (HBL.out.cell (p := ⟨14, i * 2, none⟩) HB.out).trans cy
  have cz' := (HBL.out.cell (p := ⟨14, i * 2 + 1, none⟩) HB.out).trans cz
  have ht : min 1074 (53 - (n : Int) - g) = E := by have := HEE.out; have := HHE.out; omega
  have ht' : (if 53 - (n : Int) - g < 1074 then 53 - (n : Int) - g else 1074) = E := by have := HEE.out; have := HHE.out; split <;> omega
  first | rw [ht] | rw [ht']
  clear ht' ht
  have t0 : -3000 ≤ E := by have := HEE.out; omega
  have t1 : E ≤ 3000 := by have := HEE.out; omega
  have PR := Lib.hid (prescale_blk w'.heap.size (E - (64 - (n : Int))) p g (pmr i).1 (pmr i).2 i HI.out i1 (by omega) (by omega) (by omega) (by omega) cy' cz' HB.out _ _ _ hk)
  clear hk
  have hS : -(E - (64 - (n : Int)) + g + 3) = ((8 : Nat) : Int) := by have := HEE.out; omega
  rw [hS] at PR
  clear hS
  go_upto_region 6 with (go_at_call 99; refine PR.out.mono ?_; rintro en w2 ⟨rfl, hb2, hk2⟩; have HB2 := Lib.hid (hb2); have HK2 := Lib.hid hk2; clear hb2 hk2)
  have d0 : w2.cell? ⟨w'.heap.size, 0, none⟩ = some (.int .u64 ((pmr i).1 : Int)) := by simp [World.cell?, HK2.out]
  have d1 : w2.cell? ⟨w'.heap.size, 1, none⟩ = some (.int .u64 ((pmr i).2 : Int)) := by simp [World.cell?, HK2.out]
  have d2 : w2.cell? ⟨w'.heap.size, 2, none⟩ = some (.int .i64 ((8 : Nat) : Int)) := by simp [World.cell?, HK2.out]
  have d2' : w2.cell? ⟨w'.heap.size, 2, none⟩ = some (.int .i64 8) := d2
  have Hd2 := Lib.hid d2; clear d2
  obtain ⟨sh, hsh⟩ : ∃ sh : Nat, (64 : Int) - (n : Int) = (sh : Int) := ⟨64 - n, by omega⟩
  have shx : IntKind.u64.wrap ((d : Int) * 2 ^ sh) = (x : Int) := by
    rw [show (d : Int) * 2 ^ sh = ((d * 2 ^ sh : Nat) : Int) by simp, show sh = 64 - n by omega, ← Hx.out]
    exact IntWalk.u64_in _ (by have := Hx1.out; omega)
  have sh0 : 0 ≤ (sh : Int) := by omega
  have sh1 : (sh : Int) ≤ 63 := by omega
  have UC := Lib.hid (uscale_any w'.heap.size x (pmr i).1 (pmr i).2 8 (by have := Hx1.out; omega) (by have := Hh1.out; omega) (by have := Hl1.out; omega) d0 d1 Hd2.out (by omega) Hp1.out)
  rw [← HUU.out] at UC
  go_upto_region 9 with (go_at_call 100; refine UC.out.mono ?_; rintro en w3 ⟨rfl, q, rfl⟩)
  have U0 : 0 ≤ (U : Int) := by omega
  have U1 : (U : Int) ≤ 72057594037927936 := by have := Hu1.out; omega
  have ba : bits .and .u64 (U : Int) 1 = (U : Int) % 2 := by
    have a1 := bits_mask .u64 64 (by decide) wraps_u64 1 (by decide) (U : Int) (by omega) (by omega)
    have e1 : ((2 : Int) ^ 1 - 1) = 1 := rfl
    rw [e1] at a1
    exact a1
  have V1 : V < 4611686018427387904 := by
    have h1 := HVV.out
    have h2 := Hu1.out
    have h3 := or1 (a := U / 2) (b := U % 2) (by omega)
    split at h1 <;> omega
  have RN := Lib.hid (fun W : World => rnd_any (w := W) (V : Int) (by omega) (by omega))
  rw [show ((V : Int) + 1 + (V : Int) / 4 % 2) / 4 = (M : Int) by have := HMM.out; omega] at RN
  have so : bits .or .u64 (s : Int) (M : Int) = ((s + M : Nat) : Int) := by
    rcases HS.out with h | h
    · subst h
      have := (bits_nat .u64 64 (by decide) wraps_u64 0 M (by decide) (by have := Hm1.out; omega)).2
      rw [Nat.zero_or] at this
      rw [Nat.zero_add]; exact this
    · have h3 := (bits_nat .u64 64 (by decide) wraps_u64 s M (by omega) (by have := Hm1.out; omega)).2
      have h4 := Nat.two_pow_add_eq_or_of_lt (i := 63) (b := M) (by have := Hm1.out; omega) 1
      rw [Nat.mul_one] at h4
      rw [h3, h, ← h4]
  obtain ⟨SM, hSM⟩ : ∃ SM, SM = s + M := ⟨_, rfl⟩
  rw [← hSM] at so
  have SO := Lib.hid so; clear so
  have X0 : -971 ≤ X := HHX.out
  have X1 : X ≤ 1074 := by have h1 := HXX.out; have h2 := HHE.out; split at h1 <;> omega
  have PK := Lib.hid (fun W : World => pack_any (w := W) s M (1075 - X).toNat (-X) HS.out Hm0.out Hm1.out (by omega) (by omega) (by omega))
  have HV1 := Lib.hid V1; clear V1
  rw [← hSM] at PK
  clear hSM
  by_cases hr : 36028797018963966 ≤ U
  · have t1 : decide (36028797018963966 ≤ (U : Int)) = true := decide_eq_true (by omega)
    have t2 : decide (36028797018963966 ≤ U) = true := decide_eq_true hr
    have HR := Lib.hid hr; clear hr
    have hV : V = (U / 2) ||| (U % 2) := by rw [HVV.out, if_pos (by have := HR.out; omega)]
    have bo : bits .or .u64 ((U : Int) / 2) ((U : Int) % 2) = (V : Int) := by
      rw [show (U : Int) % 2 = ((U % 2 : Nat) : Int) by omega]
      rw [show (U : Int) / 2 = ((U / 2 : Nat) : Int) by omega, hV]
      exact or_bit (by have := Hu1.out; omega) (by omega)
    have hx : E - 1 = X := by rw [HXX.out, if_pos (by have := HR.out; omega)]
    have HV' := Lib.hid hV; clear hV
    have BO := Lib.hid bo; clear bo
    go_upto_region 10 with (first | (go_at_call 102; refine (unmin_any _ (by decide) (by decide)).mono ?_; rintro en w4 ⟨rfl, rfl⟩) | (go_at_call 101; refine (bool2i _).mono ?_; rintro en w4 ⟨rfl, rfl⟩))
    have bo := BO.out
    have so := SO.out
    go_wp2_with (first | (go_at_call 104; (with_reducible refine (RN.out _).mono ?_); rintro en w4 ⟨rfl, rfl⟩) | (go_at_call 107; (with_reducible refine (PK.out _).mono ?_); rintro en w4 ⟨rfl, rfl⟩))
    go_ret2
    refine ⟨IsF.of (by rw [HRR.out]; have := Hm0.out; omega), (HBL.out.trans HB2.out).trans (Joins.below_draws _ _ _)⟩
  · have t1 : decide (36028797018963966 ≤ (U : Int)) = false := decide_eq_false (by omega)
    have t2 : decide (36028797018963966 ≤ U) = false := decide_eq_false hr
    have HR := Lib.hid hr; clear hr
    have hV : V = U := by rw [HVV.out, if_neg (by have := HR.out; omega)]
    have bo : bits .or .u64 (U : Int) ((U : Int) % 2) = (V : Int) := by
      rw [show (U : Int) % 2 = ((U % 2 : Nat) : Int) by omega]
      rw [hV]
      have := or_bit (a := U) (b := U % 2) (by have := Hu1.out; omega) (by omega)
      rw [this, or_self1]
    have hx : E = X := by rw [HXX.out, if_neg (by have := HR.out; omega)]; omega
    have HV' := Lib.hid hV; clear hV
    have BO := Lib.hid bo; clear bo
    subst hx
    go_upto_region 10 with (first | (go_at_call 102; refine (unmin_any _ (by decide) (by decide)).mono ?_; rintro en w4 ⟨rfl, rfl⟩) | (go_at_call 101; refine (bool2i _).mono ?_; rintro en w4 ⟨rfl, rfl⟩))
    have bo := BO.out
    have so := SO.out
    go_wp2_with (first | (go_at_call 104; (with_reducible refine (RN.out _).mono ?_); rintro en w4 ⟨rfl, rfl⟩) | (go_at_call 107; (with_reducible refine (PK.out _).mono ?_); rintro en w4 ⟨rfl, rfl⟩))
    go_ret2
    refine ⟨IsF.of (by rw [HRR.out]; have := Hm0.out; omega), (HBL.out.trans HB2.out).trans (Joins.below_draws _ _ _)⟩
end Go.Proofs.YtjemobfhlfejlaaGreatDoor.Dc
namespace Go.Proofs.YtjemobfhlfejlaaGreatDoor.Dc
open Go Go.RowKit
def isN (c : Nat) : Bool := c == 43 || c == 45 || c == 46 || (decide (48 ≤ c) && decide (c ≤ 57)) || c == 69 || c == 101
def NumStr (s : ByteArray) : Prop := ∀ i (h : i < s.size), isN s[i].toNat = true
theorem isN_cases {c : Nat} (h : isN c = true) : c = 43 ∨ c = 45 ∨ c = 46 ∨ (48 ≤ c ∧ c ≤ 57) ∨ c = 69 ∨ c = 101 := by
  simp [isN] at h
  omega
theorem isN_of {c : Nat} (h : c = 43 ∨ c = 45 ∨ c = 46 ∨ (48 ≤ c ∧ c ≤ 57) ∨ c = 69 ∨ c = 101) : isN c = true := by
  simp [isN]
  omega
theorem isN_us {c : Nat} (h : isN c = true) : ((c : Int) == 95) = false := by
  have := isN_cases h
  rw [beq_eq_false_iff_ne]
  omega
theorem dig_x : ∀ c : Fin 10, (bits .or .u8 (((c.val + 48 : Nat)) : Int) 32 == 120) = false := by decide
theorem isN_x {c : Nat} (h : isN c = true) : (bits .or .u8 (c : Int) 32 == 120) = false := by
  rcases isN_cases h with h | h | h | h | h | h
  · subst h; decide
  · subst h; decide
  · subst h; decide
  · have := dig_x ⟨c - 48, by omega⟩
    have e : c - 48 + 48 = c := by omega
    simpa [e] using this
  · subst h; decide
  · subst h; decide
theorem Tok.num {s : ByteArray} {i0 i1 i2 j0 : Nat} {ng es : Bool} (h : Tok s i0 i1 i2 j0 ng es) : NumStr s := by
  intro i hi
  rw [← bt_is hi]
  apply isN_of
  rcases Nat.lt_or_ge i i0 with c | c
  · rcases h.sg with d | d
    · have : i = 0 := by omega
      subst this
      exact .inr (.inl d.2.2)
    · omega
  · rcases Nat.lt_or_ge i i2 with c2 | c2
    · rcases h.at_ c c2 with d | d
      · exact .inr (.inr (.inr (.inl d)))
      · exact .inr (.inr (.inl d.2))
    · rcases Nat.lt_or_ge i j0 with c3 | c3
      · rcases h.ex with d | ⟨d1, d2, d3, d4⟩
        · omega
        · rcases Nat.lt_or_ge i2 i with c4 | c4
          · have : i = i2 + 1 := by omega
            subst this
            rcases d4 with d | d | d
            · omega
            · exact .inl d.2.1
            · exact .inr (.inl d.2.1)
          · have : i = i2 := by omega
            subst this
            rcases d2 with d | d
            · exact .inr (.inr (.inr (.inr (.inr d))))
            · exact .inr (.inr (.inr (.inr (.inl d))))
      · exact .inr (.inr (.inr (.inl (h.dg3 i c3 hi))))
theorem lower_any {w : World} (c : Nat) : Calls Tryz.prog 74 #[.int .u8 (c : Int)] w fun e w' => e = .returned (.int .u8 (bits .or .u8 (c : Int) 32)) ∧ w' = w := by
  go_enter Tryz.func74, Tryz.ntmps74
  go_wp2_with fail
  go_ret
  exact ⟨rfl, rfl⟩
theorem e_low {c : Nat} (h : c = 101 ∨ c = 69) : bits .or .u8 (c : Int) 32 = 101 := by rcases h with h | h <;> subst h <;> decide
theorem exv_step {s : ByteArray} {j0 j : Nat} (h : j0 ≤ j) : dv (fun k => bt s k - 48) j0 (j + 1 - j0) = dv (fun k => bt s k - 48) j0 (j - j0) * 10 + (bt s j - 48) := by
  rw [show j + 1 - j0 = (j - j0) + 1 by omega, dv, show j0 + (j - j0) = j by omega]
theorem dv_le {f : Nat → Nat} {i a b : Nat} (h : a ≤ b) : dv f i a ≤ dv f i b := by
  obtain ⟨c, rfl⟩ : ∃ c, b = a + c := ⟨b - a, by omega⟩
  rw [dv_add]
  have : dv f i a * 1 ≤ dv f i a * 10 ^ c := Nat.mul_le_mul_left _ (p10 c)
  omega
end Go.Proofs.YtjemobfhlfejlaaGreatDoor.Dc
