/- Walks and plain laws on the way to FnFjFloatNear. No condition but what each lemma states. -/
import Derived.Test.YtjemobfhlfejlaaGreatDoorFbN
import Derived.Test.YtjemobfhlfejlaaGreatDoorRows
import Derived.Test.YtjemobfhlfejlaaGreatDoorFbL
import Derived.LaidMore
import Derived.Lib.LaidTab
import Derived.OpenShut
set_option linter.unusedVariables false
set_option linter.unusedSimpArgs false
namespace Go.Proofs.YtjemobfhlfejlaaGreatDoor.Dc
open Go Go.RowKit Go.Proofs.YtjemobfhlfejlaaGreatDoorW.PrintWords
theorem str_self (u : ByteArray) : strOfNums (bytesOf u) = u := by
  refine ByteArray.ext (Array.toList_inj.mp ?_)
  show (strOfNums _).data.toList = u.data.toList
  rw [strOfNums_data]
  unfold bytesOf
  rw [List.map_map]
  conv => rhs; rw [← List.map_id u.data.toList]
  refine List.map_congr_left fun c _ => ?_
  simp
theorem own_far {w : World} {base n g cap : Nat} {e : TypeId} {xs : List Value} {a : Addr} {u : Value} (h : w.ownsRow base e 1 (.slice (some ⟨g, 0, none⟩) n cap) n xs) (hg : g ≠ a.block) : (w.setCell a u).ownsRow base e 1 (.slice (some ⟨g, 0, none⟩) n cap) n xs := by
  refine ⟨h.1, ?_⟩
  rcases h.2 with ⟨h2, _⟩ | ⟨g', cap', cur, hv, hb, hh, hr⟩
  · cases h2
  · refine .inr ⟨g', cap', cur, hv, hb, ?_, hr⟩
    cases hv
    rw [Below.heap_setCell w _ _ _ hg]; exact hh
set_option maxHeartbeats 4000000 in
set_option maxRecDepth 100000 in
theorem parse_any {w : World} {b : Nat} {s : ByteArray} (hs : s.size ≤ 800) (hn : NumStr s) (h0 : 0 < s.size) (hb0 : bt s 0 = 45 ∨ (48 ≤ bt s 0 ∧ bt s 0 ≤ 57))
    (hc0 : w.cell? ⟨b, 0, none⟩ = some (.slice none 0 0)) (hf0 : w.frozen? ⟨b, 0, none⟩ = false) (hc1 : w.cell? ⟨b, 1, none⟩ = some (.slice none 0 0)) (hf1 : w.frozen? ⟨b, 1, none⟩ = false) :
    Calls Tryz.prog 13 #[.pointer (some ⟨b, 0, none⟩), .string s] w fun e w' => ∃ g, e = .returned (.tuple #[.pointer (some ⟨g, 0, none⟩), .nilIface]) ∧ w'.cell? ⟨g, 3, none⟩ = some (.string s) ∧ w'.cell? ⟨g, 4, none⟩ = some (.int .i64 4) ∧ Below b w w' := by
  have SK := Lib.hid (fun W => skip_any (w := W) (s := s) (.inr (by omega)))
  have SE := Lib.hid (fun W => skip_any (w := W) (s := ⟨#[]⟩) (.inl rfl))
  have hlt := World.block_lt_of_cell? w _ hc0
  have PV := Lib.hid (fun (W : World) (h1 : W.cell? ⟨b, 1, none⟩ = some (.slice none 0 0)) (h2 : W.frozen? ⟨b, 1, none⟩ = false) => parseval_any (w := W) hs hn h0 hb0 h1 h2)
  have ss : (s.size : Int) ≤ 800 := by omega
  have HS := Lib.hid hs
  have HLT := Lib.hid hlt
  have HP := Lib.hid h0
  clear hs hn hb0 h0
  go_enter Tryz.func13, Tryz.ntmps13
  go_upto_region 3 with (first | (go_at_call 20; (with_reducible refine (SK.out _).mono ?_); rintro e w' ⟨rfl, hw⟩; obtain rfl := hw.symm) | (at_builtin; go_loud (refine print_append_str w.heap.size rfl _ _ 36 9 5 (by rfl) Tryz.underlying36 Tryz.underlying9 PFnFjFloatNear.info5 (.slice none 0 0) [] s (by rfl) (by rfl) (own_nil _ _ _ _) (Below.refl _ _) (Nat.le_refl _) (by simp; omega) ?_); intro v1 w1 ho1 hb1 hg1; have ho : w1.ownsRow w.heap.size 5 1 v1 s.size (nums .u8 (bytesOf s)) := (by have := ho1; rw [List.nil_append, bytesOf_length] at this; exact this); obtain ⟨gg, cap, rfl, hge, hlt2⟩ := ho.form HP.out; have HO := Lib.hid ho; have HB1 := Lib.hid hb1; have hd0 := (hb1.cell (p := ⟨b, 0, none⟩) hlt).trans hc0; have hg0 := (hb1.frozen (p := ⟨b, 0, none⟩) hlt).trans hf0; have hd1 := (hb1.cell (p := ⟨b, 1, none⟩) hlt).trans hc1; have hh1 := (hb1.frozen (p := ⟨b, 1, none⟩) hlt).trans hf1; clear ho ho1 hb1 hg1))
  obtain ⟨V, hV⟩ : ∃ V, V = Value.slice (some ⟨gg, 0, none⟩) s.size cap := ⟨_, rfl⟩
  obtain ⟨w2, hw2⟩ : ∃ w2, w2 = w1.setCell ⟨b, 0, none⟩ V := ⟨_, rfl⟩
  have hbg : gg ≠ b := by omega
  have e0 : w2.cell? ⟨b, 0, none⟩ = some V := by rw [hw2]; exact World.cell?_setCell_same' _ _ _ (by rw [hd0]; rfl)
  have e1 : w2.cell? ⟨b, 1, none⟩ = some (.slice none 0 0) := by rw [hw2]; simp [go_sem, hd1]
  have k0 : w2.frozen? ⟨b, 0, none⟩ = false := by rw [hw2]; simp [go_sem, hg0]
  have k1 : w2.frozen? ⟨b, 1, none⟩ = false := by rw [hw2]; simp [go_sem, hh1]
  have o2 := own_far (a := ⟨b, 0, none⟩) (u := V) HO.out hbg
  rw [← hV] at o2
  rw [← hw2] at o2
  have b2 : Below b w w2 := by rw [hw2]; exact (HB1.out.mono (Nat.le_of_lt hlt)).setCell (Nat.le_refl _) _
  rw [← hV, ← hw2]
  have RS := Lib.hid (reset_any e1 k1)
  have O2 := Lib.hid o2
  have B2 := Lib.hid b2
  have HV := Lib.hid hV
  have E0 := Lib.hid e0
  have E1 := Lib.hid e1
  have K1 := Lib.hid k1
  clear o2 b2 hw2 hV hd0 hd1 hg0 hh1 hc0 hc1 hf0 hf1 HO HB1 e0 e1 k0 k1
  go_upto_region 4 with (go_at_call 21; (with_reducible refine RS.out.mono ?_); rintro e w3 ⟨rfl, hw3⟩)
  obtain ⟨w3, hw3⟩ : ∃ w3, w3 = w2.setCell ⟨b, 1, none⟩ (.slice none 0 0) := ⟨_, rfl⟩
  rw [← hw3]
  have e0 : w3.cell? ⟨b, 0, none⟩ = some V := by rw [hw3]; simp [go_sem, E0.out]
  have e1 : w3.cell? ⟨b, 1, none⟩ = some (.slice none 0 0) := by rw [hw3]; exact World.cell?_setCell_same' _ _ _ (by rw [E1.out]; rfl)
  have k1 : w3.frozen? ⟨b, 1, none⟩ = false := by rw [hw3]; simp [go_sem, K1.out]
  have o3 : w3.ownsRow w.heap.size 5 1 V s.size (nums .u8 (bytesOf s)) := by rw [hw3, HV.out]; exact own_far (by rw [← HV.out]; exact O2.out) hbg
  have B3 := Lib.hid (show Below b w w3 by rw [hw3]; exact B2.out.setCell (Nat.le_refl _) _)
  clear hw3 E0 E1 K1 O2 B2
  have d0 : w3.drew.cell? ⟨b, 0, none⟩ = some V := e0
  have d1 : w3.drew.cell? ⟨b, 1, none⟩ = some (.slice none 0 0) := e1
  have dk : w3.drew.frozen? ⟨b, 1, none⟩ = false := k1
  have dv : (convert 36 9 V).run Tryz.prog w3.drew = .ok (.string s) w3.drew := by
    have := own_string (P := Tryz.prog) (w := w3.drew) Tryz.underlying36 Tryz.underlying5 Tryz.underlying9 o3
    rw [str_self] at this
    exact this
  rw [HV.out] at dv d0 e0
  have BC := Lib.hid (b2s_any (B := 0) dv)
  have PC := Lib.hid (PV.out w3.drew d1 dk)
  clear dv d1 dk e1 k1 o3 PV
  go_region_law (first | (go_simp; go_at_call 23; (with_reducible refine BC.out.mono ?_); rintro e wz ⟨rfl, hz⟩; obtain rfl := hz.symm; go_wp2_with fail) | (go_simp; go_at_call 22; (with_reducible refine PC.out.mono ?_); rintro e wz ⟨g, rfl, q3, q4, hb⟩; have HBT := Lib.hid hb; clear hb; go_wp2_with fail))
  all_goals
    go_wp2_with (go_at_call 20; (with_reducible refine (SE.out _).mono ?_); rintro e wy ⟨rfl, hy⟩; obtain rfl := hy.symm)
    go_ret2
    exact ⟨g, rfl, q3, q4, B3.out.drew.trans HBT.out⟩
set_option maxHeartbeats 4000000 in
set_option maxRecDepth 100000 in
theorem fjfloat_any {w : World} {B : Nat} (h : TF w B) (hB : B ≤ w.heap.size) {s : ByteArray} {i0 i1 i2 j0 : Nat} {ng es : Bool} (m : Midr s i0 i1 i2 j0 ng es) :
    Calls Tryz.prog 6 #[.string s] w fun e w' => IsFj s i0 i1 i2 j0 ng es e ∧ Below w.heap.size w w' := by
  obtain ⟨w1, hw1⟩ : ∃ w1, w.alloc (Obj.cells #[.slice none 0 0, .slice none 0 0] 41) = w1 := ⟨_, rfl⟩
  have b1 : Below w.heap.size w w1 := by rw [← hw1]; exact (Below.refl _ _).alloc (Nat.le_refl _) _
  have c0 : w1.cell? ⟨w.heap.size, 0, none⟩ = some (.slice none 0 0) := by rw [← hw1, World.cell?_alloc_new]; rfl
  have f0 : w1.frozen? ⟨w.heap.size, 0, none⟩ = false := by rw [← hw1, frozen?_alloc_cells]; exact fz_past rfl (Nat.le_refl _)
  have c1 : w1.cell? ⟨w.heap.size, 1, none⟩ = some (.slice none 0 0) := by rw [← hw1, World.cell?_alloc_new]; rfl
  have f1 : w1.frozen? ⟨w.heap.size, 1, none⟩ = false := by rw [← hw1, frozen?_alloc_cells]; exact fz_past rfl (Nat.le_refl _)
  obtain ⟨hp, hb0⟩ := m.hk.head
  have NC := Lib.hid (parse_any (s := s) m.hs m.hk.num hp hb0 c0 f0 c1 f1)
  have FC := Lib.hid (fun (W : World) (hb : Below w.heap.size w1 W) (g : Nat) (h3 : W.cell? ⟨g, 3, none⟩ = some (.string s)) (h4 : W.cell? ⟨g, 4, none⟩ = some (.int .i64 4)) => float64_any (w := W) (h.below ((b1.trans hb).mono hB)) (Nat.le_trans hB (b1.trans hb).size) m h3 h4)
  have B1 := Lib.hid b1
  clear h hB m b1 c1 f1 c0 f0 hp hb0
  go_enter Tryz.func6, Tryz.ntmps6
  go_upto_region 2 with (fail)
  clear hw1
  go_wp2_with (first | (go_at_call 13; (with_reducible refine NC.out.mono ?_); rintro e w' ⟨g, rfl, q3, q4, hb⟩; have HBT := Lib.hid hb; have FG := Lib.hid (FC.out w' hb g q3 q4); clear hb q3 q4) | (go_at_call 14; (with_reducible refine FG.out.mono ?_); rintro e w2 ⟨⟨f, hf⟩, hb⟩; have HF := Lib.hid hf; have HBT2 := Lib.hid hb; clear hf hb))
  go_quiet (fail)
  go_wp2_with fail
  go_ret2
  exact ⟨.mk f HF.out, ((B1.out.trans HBT.out).trans (HBT2.out.mono (B1.out.trans HBT.out).size)).trans ⟨rfl, rfl, rfl, Nat.le_refl _, fun _ _ => rfl⟩⟩
end Go.Proofs.YtjemobfhlfejlaaGreatDoor.Dc
namespace Go.Proofs.YtjemobfhlfejlaaGreatDoor.Dc
open Go Go.RowKit
theorem near_any {w : World} {x y : Nat} (hx : x < 18446744073709551616) (hy : y < 18446744073709551616) (hd : x / 9223372036854775808 = y / 9223372036854775808) (h1 : x ≤ y + 10) (h2 : y ≤ x + 10) :
    Calls Tryz.prog 8 #[.float .f64 x, .float .f64 y, .int .u64 10] w fun e w' => e = .returned (.bool true) ∧ w' = w := by
  have hg := fun (x : Nat) => ffb12 x w
  have hdI : (((x : Int) / 9223372036854775808) == ((y : Int) / 9223372036854775808)) = true := beq_iff_eq.mpr (by omega)
  have hor : decide (IntKind.u64.wrap ((x : Int) - (y : Int)) ≤ 10) = true ∨ (decide (IntKind.u64.wrap ((x : Int) - (y : Int)) ≤ 10) = false ∧ decide (IntKind.u64.wrap ((y : Int) - (x : Int)) ≤ 10) = true) := by
    rcases Nat.le_total y x with c | c
    · left
      have e : IntKind.u64.wrap ((x : Int) - (y : Int)) = (x : Int) - (y : Int) := Sp.u64w (by omega) (by omega)
      rw [e]; exact decide_eq_true (by omega)
    · have e : IntKind.u64.wrap ((y : Int) - (x : Int)) = (y : Int) - (x : Int) := Sp.u64w (by omega) (by omega)
      cases hz : decide (IntKind.u64.wrap ((x : Int) - (y : Int)) ≤ 10) with
      | true => exact .inl rfl
      | false => refine .inr ⟨rfl, ?_⟩; rw [e]; exact decide_eq_true (by omega)
  clear hd h1 h2 hx hy
  rcases hor with h | ⟨h, h'⟩
  · go_enter Tryz.func8, Tryz.ntmps8
    go_wp2_with fail
    go_ret
    exact ⟨rfl, rfl⟩
  · go_enter Tryz.func8, Tryz.ntmps8
    go_wp2_with fail
    go_ret
    exact ⟨rfl, rfl⟩
end Go.Proofs.YtjemobfhlfejlaaGreatDoor.Dc
namespace Go.Proofs.YtjemobfhlfejlaaGreatDoor.Dc
open Go Go.RowKit
open Sp (NearTo)
abbrev ordLo (R : Nat) : Option Ordering := FloatKind.f64.format.order 418002527998569348 R
abbrev ordHi (R : Nat) : Option Ordering := FloatKind.f64.format.order R 8795988553143856240
theorem word_lt (ng : Bool) {z : Nat} (h : z < 2 ^ 63) : Ieee.double.word ng z < 18446744073709551616 := by
  cases ng
  · rw [Ie.word_f]; omega
  · rw [Ie.word_t]; omega
theorem word_div (ng : Bool) {z y : Nat} (h : z < 2 ^ 63) (k : y < 2 ^ 63) : Ieee.double.word ng z / 9223372036854775808 = Ieee.double.word ng y / 9223372036854775808 := by
  cases ng
  · rw [Ie.word_f, Ie.word_f]; omega
  · rw [Ie.word_t, Ie.word_t]; omega
theorem word_le (ng : Bool) {z y : Nat} (h : z ≤ y + 10) : Ieee.double.word ng z ≤ Ieee.double.word ng y + 10 := by
  cases ng
  · rw [Ie.word_f, Ie.word_f]; omega
  · rw [Ie.word_t, Ie.word_t]; omega
theorem midr_of {s : ByteArray} {i0 i1 i2 j0 : Nat} {ng es : Bool} {R : Nat} (hk : Tok s i0 i1 i2 j0 ng es) (hs : s.size ≤ 800) (hR : R ≤ 2047 * 2 ^ 52) (hN : NearTo ((tkM s i0 i2 : Rat) * 10 ^ tkP s i1 i2 j0 es) R)
    (h1 : (ordLo R == some .lt || ordLo R == some .eq) = true) (h2 : (ordHi R == some .lt || ordHi R == some .eq) = true) :
    Midr s i0 i1 i2 j0 ng es ∧ 2 ^ 52 < R ∧ R < 2047 * 2 ^ 52 := by
  obtain ⟨a1, a2, v0, lo, hi⟩ := Sp.guard_sizes hR h1 h2 hN
  refine ⟨⟨hk, hs, ?_, lo, hi⟩, a1, a2⟩
  intro h
  rw [h] at v0
  have z : ((0 : Nat) : Rat) * 10 ^ tkP s i1 i2 j0 es = 0 := Rat.zero_mul _
  rw [z] at v0
  exact absurd v0 (by decide)
theorem close_of {s : ByteArray} {i0 i1 i2 j0 : Nat} {ng es : Bool} {R f : Nat} (m : Midr s i0 i1 i2 j0 ng es) (a1 : 2 ^ 52 < R) (a2 : R < 2047 * 2 ^ 52) (hN : NearTo ((tkM s i0 i2 : Rat) * 10 ^ tkP s i1 i2 j0 es) R) (hf : FFIs s i0 i1 i2 j0 ng es f) :
    (FloatKind.f64.format.order f f == some .eq) = true ∧ ∀ w : World, Calls Tryz.prog 8 #[.float .f64 f, .float .f64 (Ieee.double.word ng R), .int .u64 10] w fun e w' => e = .returned (.bool true) ∧ w' = w := by
  have hw := ffis_near m.hk m.hM m.lo m.hi hf
  refine ⟨Sp.order_self hw, fun w => ?_⟩
  obtain ⟨z, rfl, z1, z2, z3, z4⟩ := Sp.near_steps a1 a2 hN hw
  exact near_any (word_lt ng (by omega)) (word_lt ng (by omega)) (word_div ng (by omega) (by omega)) (word_le ng z3) (word_le ng z4)
set_option maxHeartbeats 4000000 in
set_option maxRecDepth 100000 in
theorem law_any {w : World} {B : Nat} (h : TF w B) (hB : B ≤ w.heap.size) (s : ByteArray) :
    Calls Tryz.prog 3 #[.string s] w fun e w' => e = .returned (.bool true) ∧ Below w.heap.size w w' := by
  by_cases hs : 2147483647 < s.size
  · have t1 : decide (2147483647 < s.size) = true := decide_eq_true hs
    have t2 : decide ((2147483647 : Int) < (s.size : Int)) = true := decide_eq_true (by omega)
    go_enter Tryz.func3, Tryz.ntmps3
    go_wp2_with fail
    go_ret
    exact ⟨rfl, Below.refl _ _⟩
  have t1 : decide (2147483647 < s.size) = false := decide_eq_false hs
  have t2 : decide ((2147483647 : Int) < (s.size : Int)) = false := decide_eq_false (by omega)
  have NT := Lib.hid (nearestTo_any (w := w) (s := s) (by omega))
  have H := Lib.hid h
  have HB := Lib.hid hB
  clear h hB hs
  go_enter Tryz.func3, Tryz.ntmps3
  go_upto_region 4 with (go_at_call 4; (with_reducible refine NT.out.mono ?_); rintro e w1 ⟨hnt, hb⟩; have HNT := Lib.hid hnt; have HBT := Lib.hid hb; clear hnt hb; obtain ⟨x, ok, rfl⟩ : ∃ x ok, e = .returned (.tuple #[.float .f64 x, .bool ok]) := (by cases HNT.out with | no x => exact ⟨_, _, rfl⟩ | yes i0 i1 i2 j0 ng es R hk hs hR hN => exact ⟨_, _, rfl⟩))
  have hc := HNT.out
  clear HNT NT
  cases hc with
  | no x =>
    go_wp2_with fail
    go_ret
    exact ⟨rfl, HBT.out⟩
  | yes i0 i1 i2 j0 ng es R hk hs hR hN =>
    have AC := Lib.hid (fun W => abs_any (w := W) ng (R := R) (by omega))
    have MID := Lib.hid (midr_of hk hs hR hN)
    have FJ0 := Lib.hid (fun m : Midr s i0 i1 i2 j0 ng es => fjfloat_any (w := w1) (H.out.below (HBT.out.mono HB.out)) (Nat.le_trans HB.out HBT.out.size) m)
    have NF0 := Lib.hid (fun (m : Midr s i0 i1 i2 j0 ng es) (W : World) (hb : Below w1.heap.size w1 W) => numfloat_any (w := W) (H.out.below ((HBT.out.trans (hb.mono HBT.out.size)).mono HB.out)) (Nat.le_trans HB.out (HBT.out.trans (hb.mono HBT.out.size)).size) m)
    have CO0 := Lib.hid (fun (m : Midr s i0 i1 i2 j0 ng es) (a1 : 2 ^ 52 < R) (a2 : R < 2047 * 2 ^ 52) (f : Nat) (hf : FFIs s i0 i1 i2 j0 ng es f) => close_of m a1 a2 hN hf)
    clear hk hs hR hN H HB
    obtain ⟨W0, hW0⟩ : ∃ W0, W0 = Ieee.double.word ng R := ⟨_, rfl⟩
    rw [← hW0] at AC CO0 ⊢
    clear hW0
    cases p1 : (FloatKind.f64.format.order 418002527998569348 R == some .lt) with
    | false =>
      cases p2 : (FloatKind.f64.format.order 418002527998569348 R == some .eq) with
      | false =>
        go_wp2_with (go_at_call 5; (with_reducible refine (AC.out _).mono ?_); rintro e wa ⟨rfl, hwa⟩; obtain rfl := hwa.symm)
        go_ret
        exact ⟨rfl, HBT.out⟩
      | true =>
        cases r1 : (FloatKind.f64.format.order R 8795988553143856240 == some .lt) with
        | false =>
          cases r2 : (FloatKind.f64.format.order R 8795988553143856240 == some .eq) with
          | false =>
            go_wp2_with (go_at_call 5; (with_reducible refine (AC.out _).mono ?_); rintro e wa ⟨rfl, hwa⟩; obtain rfl := hwa.symm)
            go_ret
            exact ⟨rfl, HBT.out⟩
          | true =>
            obtain ⟨m, a1, a2⟩ := MID.out (by rw [p1, p2]; rfl) (by rw [r1, r2]; rfl)
            have FJ := Lib.hid (FJ0.out m); have NF := Lib.hid (NF0.out m); have CO := Lib.hid (CO0.out m a1 a2)
            clear FJ0 NF0 CO0 MID m a1 a2
            go_wp2_with (first | (go_at_call 5; (with_reducible refine (AC.out _).mono ?_); rintro e wa ⟨rfl, hwa⟩; obtain rfl := hwa.symm) | (go_at_call 6; (with_reducible refine FJ.out.mono ?_); rintro e w2 ⟨⟨f, hf⟩, hb2⟩; have HF := Lib.hid hf; have HB2 := Lib.hid hb2; have NF2 := Lib.hid (NF.out w2 hb2); have CL := Lib.hid (CO.out f hf); clear hf hb2) | (go_at_call 7; (with_reducible refine NF2.out.mono ?_); rintro e w3 ⟨⟨f2, hf2⟩, hb3⟩; have HB3 := Lib.hid hb3; have hff : f = f2 := HF.out.uniq hf2; clear hf2 hb3; subst hff; have oe := CL.out.1) | (go_at_call 8; (with_reducible refine (CL.out.2 _).mono ?_); rintro e w4 ⟨rfl, hw4⟩; obtain rfl := hw4.symm))
            go_ret
            exact ⟨rfl, HBT.out.trans ((HB2.out.trans (HB3.out.mono HB2.out.size)).mono HBT.out.size)⟩
        | true =>
          obtain ⟨m, a1, a2⟩ := MID.out (by rw [p1, p2]; rfl) (by rw [r1]; rfl)
          have FJ := Lib.hid (FJ0.out m); have NF := Lib.hid (NF0.out m); have CO := Lib.hid (CO0.out m a1 a2)
          clear FJ0 NF0 CO0 MID m a1 a2
          go_wp2_with (first | (go_at_call 5; (with_reducible refine (AC.out _).mono ?_); rintro e wa ⟨rfl, hwa⟩; obtain rfl := hwa.symm) | (go_at_call 6; (with_reducible refine FJ.out.mono ?_); rintro e w2 ⟨⟨f, hf⟩, hb2⟩; have HF := Lib.hid hf; have HB2 := Lib.hid hb2; have NF2 := Lib.hid (NF.out w2 hb2); have CL := Lib.hid (CO.out f hf); clear hf hb2) | (go_at_call 7; (with_reducible refine NF2.out.mono ?_); rintro e w3 ⟨⟨f2, hf2⟩, hb3⟩; have HB3 := Lib.hid hb3; have hff : f = f2 := HF.out.uniq hf2; clear hf2 hb3; subst hff; have oe := CL.out.1) | (go_at_call 8; (with_reducible refine (CL.out.2 _).mono ?_); rintro e w4 ⟨rfl, hw4⟩; obtain rfl := hw4.symm))
          go_ret
          exact ⟨rfl, HBT.out.trans ((HB2.out.trans (HB3.out.mono HB2.out.size)).mono HBT.out.size)⟩
    | true =>
      cases r1 : (FloatKind.f64.format.order R 8795988553143856240 == some .lt) with
      | false =>
        cases r2 : (FloatKind.f64.format.order R 8795988553143856240 == some .eq) with
        | false =>
          go_wp2_with (go_at_call 5; (with_reducible refine (AC.out _).mono ?_); rintro e wa ⟨rfl, hwa⟩; obtain rfl := hwa.symm)
          go_ret
          exact ⟨rfl, HBT.out⟩
        | true =>
          obtain ⟨m, a1, a2⟩ := MID.out (by rw [p1]; rfl) (by rw [r1, r2]; rfl)
          have FJ := Lib.hid (FJ0.out m); have NF := Lib.hid (NF0.out m); have CO := Lib.hid (CO0.out m a1 a2)
          clear FJ0 NF0 CO0 MID m a1 a2
          go_wp2_with (first | (go_at_call 5; (with_reducible refine (AC.out _).mono ?_); rintro e wa ⟨rfl, hwa⟩; obtain rfl := hwa.symm) | (go_at_call 6; (with_reducible refine FJ.out.mono ?_); rintro e w2 ⟨⟨f, hf⟩, hb2⟩; have HF := Lib.hid hf; have HB2 := Lib.hid hb2; have NF2 := Lib.hid (NF.out w2 hb2); have CL := Lib.hid (CO.out f hf); clear hf hb2) | (go_at_call 7; (with_reducible refine NF2.out.mono ?_); rintro e w3 ⟨⟨f2, hf2⟩, hb3⟩; have HB3 := Lib.hid hb3; have hff : f = f2 := HF.out.uniq hf2; clear hf2 hb3; subst hff; have oe := CL.out.1) | (go_at_call 8; (with_reducible refine (CL.out.2 _).mono ?_); rintro e w4 ⟨rfl, hw4⟩; obtain rfl := hw4.symm))
          go_ret
          exact ⟨rfl, HBT.out.trans ((HB2.out.trans (HB3.out.mono HB2.out.size)).mono HBT.out.size)⟩
      | true =>
        obtain ⟨m, a1, a2⟩ := MID.out (by rw [p1]; rfl) (by rw [r1]; rfl)
        have FJ := Lib.hid (FJ0.out m); have NF := Lib.hid (NF0.out m); have CO := Lib.hid (CO0.out m a1 a2)
        clear FJ0 NF0 CO0 MID m a1 a2
        go_wp2_with (first | (go_at_call 5; (with_reducible refine (AC.out _).mono ?_); rintro e wa ⟨rfl, hwa⟩; obtain rfl := hwa.symm) | (go_at_call 6; (with_reducible refine FJ.out.mono ?_); rintro e w2 ⟨⟨f, hf⟩, hb2⟩; have HF := Lib.hid hf; have HB2 := Lib.hid hb2; have NF2 := Lib.hid (NF.out w2 hb2); have CL := Lib.hid (CO.out f hf); clear hf hb2) | (go_at_call 7; (with_reducible refine NF2.out.mono ?_); rintro e w3 ⟨⟨f2, hf2⟩, hb3⟩; have HB3 := Lib.hid hb3; have hff : f = f2 := HF.out.uniq hf2; clear hf2 hb3; subst hff; have oe := CL.out.1) | (go_at_call 8; (with_reducible refine (CL.out.2 _).mono ?_); rintro e w4 ⟨rfl, hw4⟩; obtain rfl := hw4.symm))
        go_ret
        exact ⟨rfl, HBT.out.trans ((HB2.out.trans (HB3.out.mono HB2.out.size)).mono HBT.out.size)⟩
end Go.Proofs.YtjemobfhlfejlaaGreatDoor.Dc
namespace Go.Proofs.YtjemobfhlfejlaaGreatDoor.Dc
open Go Go.RowKit
open Ie (tab post negt ftab)
set_option maxRecDepth 100000
noncomputable abbrev trd (w : World) (fuel : Nat) (t : TypeId) (cs : List Value) := DataW.trod (H := Unit) (fun _ => ()) Tryz.prog w 0 (fun _ => true) false fuel t cs
theorem laid_get {P : Program} {W : World} {l : List (String × DataW Unit)} {ps : List MemPlace} (h : DataW.LaidVars P W l ps) {n : String} {d : DataW Unit} (hm : (n, d) ∈ l) : ∃ g t cs fuel p, P.globalNamed n = some g ∧ (P.globals[g]?).map (·.type) = some t ∧ W.var? P n = some cs ∧ DataW.trod (fun _ => ()) P W 0 (fun _ => true) false fuel t cs.toList = some (d, p) := by
  induction l generalizing ps with
  | nil => cases hm
  | cons x l ih =>
    obtain ⟨n0, d0⟩ := x
    obtain ⟨g, t, cs, fuel, p, q, h1, h2, h3, h4, h5, _⟩ := h
    rcases List.mem_cons.mp hm with e | hm
    · cases e; exact ⟨g, t, cs, fuel, p, h1, h2, h3, h4⟩
    · exact ih h5 hm
theorem laid_at {W : World} {l : List (String × DataW Unit)} {ps : List MemPlace} (h : DataW.LaidVars Tryz.prog W l ps) {n : String} {d : DataW Unit} (hm : (n, d) ∈ l) (g t : Nat) (hg : Tryz.prog.globalNamed n = some g) (ht : (Tryz.prog.globals[g]?).map (·.type) = some t) : ∃ cs fuel p, trd W fuel t cs = some (d, p) ∧ ∀ i : Nat, W.cell? ⟨g, i, none⟩ = cs[i]? := by
  obtain ⟨g', t', cs, fuel, p, h1, h2, h3, h4⟩ := laid_get h hm
  obtain rfl := Option.some.inj (hg.symm.trans h1)
  obtain rfl := Option.some.inj (ht.symm.trans h2)
  exact ⟨cs.toList, fuel, p, h4, fun i => by rw [World.var?_cell hg h3 i, Array.getElem?_toList]⟩
theorem flt_lit {w : World} {fuel t : Nat} {k : FloatKind} {cs : List Value} {z : Nat} {q : List MemPlace} (ht : Tryz.prog.underlying t = some (.float k)) (h : trd w fuel t cs = some (.lit (.float k z), q)) : cs = [.float k z] := by
  cases fuel with
  | zero => simp [DataW.trod] at h
  | succ n =>
    unfold DataW.trod at h
    rw [ht] at h
    split at h <;> simp_all
theorem spot_none {w : World} {a : Addr} {v : Value} (h : w.cell? a = some v) : a = ⟨a.block, a.off, none⟩ := by
  obtain ⟨b, o, s⟩ := a
  unfold World.cell? at h
  cases s with
  | none => rfl
  | some s =>
    split at h <;> simp at h
theorem add_plain (b o i : Nat) : (⟨b, o, none⟩ : Addr).add i = ⟨b, o + i, none⟩ := by
  unfold Addr.add
  split
  · rename_i h; rw [h]; rfl
  · rfl
theorem slice_cells {w : World} {fuel t e n : Nat} {cs : List Value} {ds : List (DataW Unit)} {p : List MemPlace} (ht : Tryz.prog.underlying t = some (.slice e)) (hc : Tryz.prog.cellsOf e = n) (hn : 1 ≤ n) (hd : 1 ≤ ds.length) (h : trd w fuel t cs = some (.slice ds [], p)) :
    ∃ lb lo c m, cs = [.slice (some ⟨lb, lo, none⟩) ds.length c] ∧ lb < w.heap.size ∧ ∀ (i : Nat) (d : DataW Unit), ds[i]? = some d → ∃ q vs, trd w m e vs = some (d, q) ∧ vs.length = n ∧ ∀ (j : Nat) (v : Value), vs[j]? = some v → w.cell? ⟨lb, lo + i * n + j, none⟩ = some v := by
  rcases DataW.trod_slice ht h with ⟨_, hx⟩ | ⟨a, len, cap, elems, rest, m, _, hcs, hx, _, hl, _, hlen, hel, _⟩
  · simp at hx
  · simp only [Prod.mk.injEq, DataW.slice.injEq] at hx
    obtain ⟨⟨rfl, _⟩, _⟩ := hx
    have el : (elems.map (·.1)).length = len := by simpa using hlen
    rw [hc] at hel
    have key : ∀ (i : Nat) (d : DataW Unit), (elems.map (·.1))[i]? = some d → ∃ q vs, trd w m e vs = some (d, q) ∧ vs.length = n ∧ ∀ (j : Nat) (v : Value), vs[j]? = some v → w.cell? ((a.add (i * n)).add j) = some v := by
      intro i d hid
      have hi : i < len := by rw [← el]; exact (List.getElem?_eq_some_iff.1 hid).1
      have hE := hel i hi
      rw [List.getElem?_map] at hid
      cases hy : elems[i]? with
      | none => simp [hy] at hid
      | some y =>
        rw [hy] at hE hid
        simp only [Option.map_some, Option.some.injEq] at hid
        simp only [Option.bind_eq_some_iff] at hE
        obtain ⟨vs, hv, hy1⟩ := hE
        unfold World.cells? at hv
        rw [if_pos (Nat.zero_le _)] at hv
        have hvl : vs.length = n := by simpa using Lib.mapM_length hv
        refine ⟨y.2, vs, by rw [← hid]; exact hy1, hvl, fun j v hj => ?_⟩
        have hjn : j < n := by rw [← hvl]; exact (List.getElem?_eq_some_iff.1 hj).1
        obtain ⟨b, hb, hf⟩ := Lib.mapM_at hv j j (by simp [hjn])
        rw [hj] at hb
        cases hb
        exact hf
    obtain ⟨d0, hd0⟩ : ∃ d0, (elems.map (·.1))[0]? = some d0 := ⟨_, List.getElem?_eq_getElem hd⟩
    obtain ⟨_, vs0, _, hv0, hc0⟩ := key 0 d0 hd0
    obtain ⟨v0, hv00⟩ : ∃ v0, vs0[0]? = some v0 := ⟨_, List.getElem?_eq_getElem (by omega)⟩
    have ha := hc0 0 v0 hv00
    rw [Nat.zero_mul] at ha
    have ha' : w.cell? a = some v0 := by simpa [Addr.add] using ha
    have hap := spot_none ha'
    refine ⟨a.block, a.off, cap, m, by rw [hcs, el, ← hap], World.block_lt_of_cell? w _ ha', fun i d hid => ?_⟩
    obtain ⟨q, vs, h1, h2, h3⟩ := key i d hid
    refine ⟨q, vs, h1, h2, fun j v hj => ?_⟩
    have := h3 j v hj
    rw [hap, add_plain, add_plain] at this
    exact this
theorem one_cell {l : List Value} (h : l.length = 1) : ∃ v, l = [v] := by
  match l, h with
  | [v], _ => exact ⟨v, rfl⟩
theorem struct2 {w : World} {fuel t : Nat} {cs : List Value} {f0 f1 : Field} {d0 d1 : DataW Unit} {p : List MemPlace} (ht : Tryz.prog.underlying t = some (.struct #[f0, f1])) (o0 : f0.offset = 0) (o1 : f1.offset = 1) (c0 : Tryz.prog.cellsOf f0.type = 1) (c1 : Tryz.prog.cellsOf f1.type = 1) (ct : Tryz.prog.cellsOf t = 2) (h : trd w fuel t cs = some (.agg [d0, d1], p)) :
    ∃ v0 v1 m q0 q1, cs = [v0, v1] ∧ trd w m f0.type [v0] = some (d0, q0) ∧ trd w m f1.type [v1] = some (d1, q1) := by
  obtain ⟨xs, n, _, hx, hl, hxl, hf⟩ := DataW.trod_struct ht h
  have hf0 := hf 0 f0 rfl
  have hf1 := hf 1 f1 rfl
  rw [o0, c0] at hf0
  rw [o1, c1] at hf1
  rw [ct] at hl
  match cs, hl, xs, hxl with
  | [v0, v1], _, [x0, x1], _ =>
    injection hx with hx _
    injection hx with hx
    injection hx with e0 hx
    injection hx with e1 _
    exact ⟨v0, v1, n, x0.2, x1.2, rfl, by rw [e0]; exact hf0, by rw [e1]; exact hf1⟩
theorem struct3 {w : World} {fuel t : Nat} {cs : List Value} {f0 f1 f2 : Field} {d0 d1 d2 : DataW Unit} {p : List MemPlace} (ht : Tryz.prog.underlying t = some (.struct #[f0, f1, f2])) (o0 : f0.offset = 0) (o1 : f1.offset = 1) (o2 : f2.offset = 2) (c0 : Tryz.prog.cellsOf f0.type = 1) (c1 : Tryz.prog.cellsOf f1.type = 1) (c2 : Tryz.prog.cellsOf f2.type = 1) (ct : Tryz.prog.cellsOf t = 3) (h : trd w fuel t cs = some (.agg [d0, d1, d2], p)) :
    ∃ v0 v1 v2 m q0 q1 q2, cs = [v0, v1, v2] ∧ trd w m f0.type [v0] = some (d0, q0) ∧ trd w m f1.type [v1] = some (d1, q1) ∧ trd w m f2.type [v2] = some (d2, q2) := by
  obtain ⟨xs, n, _, hx, hl, hxl, hf⟩ := DataW.trod_struct ht h
  have hf0 := hf 0 f0 rfl
  have hf1 := hf 1 f1 rfl
  have hf2 := hf 2 f2 rfl
  rw [o0, c0] at hf0
  rw [o1, c1] at hf1
  rw [o2, c2] at hf2
  rw [ct] at hl
  match cs, hl, xs, hxl with
  | [v0, v1, v2], _, [x0, x1, x2], _ =>
    injection hx with hx _
    injection hx with hx
    injection hx with e0 hx
    injection hx with e1 hx
    injection hx with e2 _
    exact ⟨v0, v1, v2, n, x0.2, x1.2, x2.2, rfl, by rw [e0]; exact hf0, by rw [e1]; exact hf1, by rw [e2]; exact hf2⟩
theorem int_lit {w : World} {fuel t : Nat} {k : IntKind} {v : Value} {z : Int} {q : List MemPlace} (ht : Tryz.prog.underlying t = some (.int k)) (h : trd w fuel t [v] = some (.lit (.int k z), q)) : v = .int k z ∧ (Lit.int k z).wf = true := by
  obtain ⟨n, h1, h2, h3⟩ := DataW.trod_int ht h
  injection h1 with h1 _
  injection h2 with h2 _
  injection h2 with h2
  injection h2 with _ h2
  subst h2
  exact ⟨h1, h3⟩
theorem str_lit {w : World} {fuel t : Nat} {v : Value} {l : List UInt8} {q : List MemPlace} (ht : Tryz.prog.underlying t = some .string) (h : trd w fuel t [v] = some (.lit (.string l), q)) : v = .string ⟨l.toArray⟩ := by
  obtain ⟨s, h1, h2, _⟩ := DataW.trod_string ht h
  injection h1 with h1 _
  injection h2 with h2 _
  injection h2 with h2
  injection h2 with h2
  rw [h1, h2]
variable {W : World} {l : List (String × DataW Unit)} {ps : List MemPlace}
theorem arr_f {g t n : Nat} {name : String} {L : List Nat} (h : DataW.LaidVars Tryz.prog W l ps) (hm : (name, (.agg (L.map fun z => .lit (.float .f64 z)) : DataW Unit)) ∈ l) (hg : Tryz.prog.globalNamed name = some g) (ht : (Tryz.prog.globals[g]?).map (·.type) = some t) (hu : Tryz.prog.underlying t = some (.array n 22)) (hl : L.length = n) (c1 : Tryz.prog.cellsOf 22 = 1) :
    ∀ i, i < n → W.cell? ⟨g, i, none⟩ = some (.float .f64 (L.getD i 0)) := by
  obtain ⟨cs, fuel, p, h1, h2⟩ := laid_at h hm g t hg ht
  obtain ⟨xs, m, _, hx, hcl, hxl, hf⟩ := DataW.trod_array hu h1
  injection hx with hx _
  injection hx with hx
  intro i hi
  obtain ⟨z, hz⟩ : ∃ z, L[i]? = some z := ⟨_, List.getElem?_eq_getElem (by omega)⟩
  have hgz := congrArg (·[i]?) hx
  simp only [List.getElem?_map, hz, Option.map_some] at hgz
  obtain ⟨y, hy⟩ : ∃ y, xs[i]? = some y := ⟨_, List.getElem?_eq_getElem (by omega)⟩
  rw [hy] at hgz
  have hfi := hf i hi
  rw [hy, c1] at hfi
  injection hgz with hgz
  obtain ⟨y1, y2⟩ := y
  have hg' : y1 = .lit (.float .f64 z) := hgz.symm
  subst hg'
  have hcs := flt_lit Tryz.underlying22 hfi
  have g0 : cs[i]? = some (.float .f64 z) := by
    have := congrArg (·[0]?) hcs
    simpa [List.getElem?_take, List.getElem?_drop] using this
  rw [h2, g0, List.getD_eq_getElem?_getD, hz]
  rfl
theorem ff_laid (h : DataW.LaidVars Tryz.prog W l ps) (hm : ("pub-tetrapla/pub/fastjson/fastfloat.float64pow10", Rows.laid_pub_tetrapla_pub_fastjson_fastfloat_float64pow10) ∈ l) : ∀ i, i < 17 → W.cell? ⟨1, i, none⟩ = some (.float .f64 (ftab.getD i 0)) := by
  have e : (Rows.laid_pub_tetrapla_pub_fastjson_fastfloat_float64pow10 : DataW Unit) = .agg (ftab.map fun z => .lit (.float .f64 z)) := by kernel_rfl
  rw [e] at hm
  exact arr_f h hm (t := 91) (by kernel_rfl) (by kernel_rfl) Tryz.underlying91 (by decide) (by kernel_rfl)
theorem po_laid (h : DataW.LaidVars Tryz.prog W l ps) (hm : ("math.pow10postab32", Rows.laid_math_pow10postab32) ∈ l) : ∀ i, i < 10 → W.cell? ⟨2, i, none⟩ = some (.float .f64 (post.getD i 0)) := by
  have e : (Rows.laid_math_pow10postab32 : DataW Unit) = .agg (post.map fun z => .lit (.float .f64 z)) := by kernel_rfl
  rw [e] at hm
  exact arr_f h hm (t := 112) (by kernel_rfl) (by kernel_rfl) Tryz.underlying112 (by decide) (by kernel_rfl)
theorem ta_laid (h : DataW.LaidVars Tryz.prog W l ps) (hm : ("math.pow10tab", Rows.laid_math_pow10tab) ∈ l) : ∀ i, i < 32 → W.cell? ⟨3, i, none⟩ = some (.float .f64 (tab.getD i 0)) := by
  have e : (Rows.laid_math_pow10tab : DataW Unit) = .agg (tab.map fun z => .lit (.float .f64 z)) := by kernel_rfl
  rw [e] at hm
  exact arr_f h hm (t := 113) (by kernel_rfl) (by kernel_rfl) Tryz.underlying113 (by decide) (by kernel_rfl)
theorem ne_laid (h : DataW.LaidVars Tryz.prog W l ps) (hm : ("math.pow10negtab32", Rows.laid_math_pow10negtab32) ∈ l) : ∀ i, i < 11 → W.cell? ⟨4, i, none⟩ = some (.float .f64 (negt.getD i 0)) := by
  have e : (Rows.laid_math_pow10negtab32 : DataW Unit) = .agg (negt.map fun z => .lit (.float .f64 z)) := by kernel_rfl
  rw [e] at hm
  exact arr_f h hm (t := 114) (by kernel_rfl) (by kernel_rfl) Tryz.underlying114 (by decide) (by kernel_rfl)
theorem op_laid (h : DataW.LaidVars Tryz.prog W l ps) (hm : ("internal/strconv.optimize", Rows.laid_internal_strconv_optimize) ∈ l) : W.cell? ⟨9, 0, none⟩ = some (.bool true) := by
  obtain ⟨cs, fuel, p, h1, h2⟩ := laid_at h hm 9 4 (by kernel_rfl) (by kernel_rfl)
  obtain ⟨b, h3, h4⟩ := DataW.trod_bool Tryz.underlying4 h1
  injection h4 with h4 _
  injection h4 with h4
  injection h4 with h4
  rw [h2, h3, ← h4]
  rfl
theorem fi_laid (h : DataW.LaidVars Tryz.prog W l ps) (hm : ("internal/strconv.float64info", Rows.laid_internal_strconv_float64info) ∈ l) : W.cell? ⟨10, 0, none⟩ = some (.int .u64 52) ∧ W.cell? ⟨10, 1, none⟩ = some (.int .u64 11) ∧ W.cell? ⟨10, 2, none⟩ = some (.int .i64 (-1023)) := by
  obtain ⟨cs, fuel, p, h1, h2⟩ := laid_at h hm 10 140 (by kernel_rfl) (by kernel_rfl)
  obtain ⟨v0, v1, v2, m, q0, q1, q2, rfl, a0, a1, a2⟩ := struct3 Tryz.underlying140 rfl rfl rfl (by kernel_rfl) (by kernel_rfl) (by kernel_rfl) (by kernel_rfl) h1
  rw [h2, h2, h2, (int_lit (by kernel_rfl) a0).1, (int_lit (by kernel_rfl) a1).1, (int_lit (by kernel_rfl) a2).1]
  exact ⟨rfl, rfl, rfl⟩
theorem pw_laid (h : DataW.LaidVars Tryz.prog W l ps) (hm : ("internal/strconv.powtab", Rows.laid_internal_strconv_powtab) ∈ l) : ∃ lb lo c : Nat, lb < W.heap.size ∧ W.cell? ⟨12, 0, none⟩ = some (.slice (some ⟨lb, lo, none⟩) 9 c) ∧ ∀ i, i < 9 → W.cell? ⟨lb, lo + i, none⟩ = some (.int .i64 (powt i : Int)) := by
  obtain ⟨cs, fuel, p, h1, h2⟩ := laid_at h hm 12 171 (by kernel_rfl) (by kernel_rfl)
  have e : (Rows.laid_internal_strconv_powtab : DataW Unit) = .slice (([1, 3, 6, 9, 13, 16, 19, 23, 26] : List Nat).map fun z : Nat => .lit (.int .i64 (z : Int))) [] := by kernel_rfl
  rw [e] at h1
  obtain ⟨lb, lo, c, m, rfl, hlt, hel⟩ := slice_cells (n := 1) Tryz.underlying171 (by kernel_rfl) (by omega) (by simp) h1
  refine ⟨lb, lo, c, hlt, by rw [h2]; rfl, fun i hi => ?_⟩
  obtain ⟨z, hz⟩ : ∃ z, ([1, 3, 6, 9, 13, 16, 19, 23, 26] : List Nat)[i]? = some z := ⟨_, List.getElem?_eq_getElem hi⟩
  obtain ⟨q, vs, h3, h4, h5⟩ := hel i (.lit (.int .i64 (z : Int))) (by rw [List.getElem?_map, hz]; rfl)
  obtain ⟨v, rfl⟩ := one_cell h4
  have := h5 0 v rfl
  rw [Nat.mul_one, Nat.add_zero] at this
  have ez : powt i = z := by unfold powt; rw [List.getD_eq_getElem?_getD, hz]; rfl
  rw [this, (int_lit Tryz.underlying3 h3).1, ez]
theorem fp_laid (h : DataW.LaidVars Tryz.prog W l ps) (hm : ("internal/strconv.float64pow10", Rows.laid_internal_strconv_float64pow10) ∈ l) : ∃ lb lo c : Nat, lb < W.heap.size ∧ W.cell? ⟨13, 0, none⟩ = some (.slice (some ⟨lb, lo, none⟩) 23 c) ∧ ∀ i, i < 23 → W.cell? ⟨lb, lo + i, none⟩ = some (.float .f64 (tab.getD i 0)) := by
  obtain ⟨cs, fuel, p, h1, h2⟩ := laid_at h hm 13 173 (by kernel_rfl) (by kernel_rfl)
  have e : (Rows.laid_internal_strconv_float64pow10 : DataW Unit) = .slice ((tab.take 23).map fun z => .lit (.float .f64 z)) [] := by kernel_rfl
  have hl : ((tab.take 23).map fun z => (.lit (.float .f64 z) : DataW Unit)).length = 23 := by rw [List.length_map]; decide
  rw [e] at h1
  obtain ⟨lb, lo, c, m, rfl, hlt, hel⟩ := slice_cells (n := 1) Tryz.underlying173 (by kernel_rfl) (by omega) (by omega) h1
  refine ⟨lb, lo, c, hlt, by rw [h2, hl]; rfl, fun i hi => ?_⟩
  obtain ⟨z, hz⟩ : ∃ z, (tab.take 23)[i]? = some z := ⟨_, List.getElem?_eq_getElem (by rw [show (tab.take 23).length = 23 by decide]; exact hi)⟩
  obtain ⟨q, vs, h3, h4, h5⟩ := hel i (.lit (.float .f64 z)) (by rw [List.getElem?_map, hz]; rfl)
  have hvs := flt_lit Tryz.underlying22 h3
  subst hvs
  have := h5 0 _ rfl
  rw [Nat.mul_one, Nat.add_zero] at this
  have ez : tab.getD i 0 = z := by
    rw [List.getElem?_take, if_pos hi] at hz
    rw [List.getD_eq_getElem?_getD, hz]; rfl
  rw [this, ez]
theorem lc_laid (h : DataW.LaidVars Tryz.prog W l ps) (hm : ("internal/strconv.leftcheats", Rows.laid_internal_strconv_leftcheats) ∈ l) : LC W W.heap.size := by
  obtain ⟨cs, fuel, p, h1, h2⟩ := laid_at h hm 15 189 (by kernel_rfl) (by kernel_rfl)
  have e : (Rows.laid_internal_strconv_leftcheats : DataW Unit) = .slice (Pinned.cheatRows.map fun x => .agg [.lit (.int .i64 x.1), .lit (.string x.2)]) [] := by kernel_rfl
  have hl : Pinned.cheatRows.length = 61 := by kernel_rfl
  rw [e] at h1
  obtain ⟨lb, lo, c, m, rfl, hlt, hel⟩ := slice_cells (n := 2) Tryz.underlying189 (by kernel_rfl) (by omega) (by simp [hl]) h1
  have h10 : W.cell? ⟨15, 0, none⟩ = some (.slice (some ⟨lb, lo, none⟩) 61 c) := by rw [h2]; simp [hl]
  refine ⟨World.block_lt_of_cell? W _ h10, lb, lo, c, hlt, h10, fun i hi => ?_⟩
  obtain ⟨x, hx⟩ : ∃ x, Pinned.cheatRows[i]? = some x := ⟨_, List.getElem?_eq_getElem (by omega)⟩
  have hc : cheat i = x := by unfold cheat; rw [List.getD_eq_getElem?_getD, hx]; rfl
  obtain ⟨q, vs, h3, h4, h5⟩ := hel i _ (by rw [List.getElem?_map, hx]; rfl)
  obtain ⟨v0, v1, m2, q0, q1, rfl, a0, a1⟩ := struct2 Tryz.underlying188 rfl rfl (by kernel_rfl) (by kernel_rfl) (by kernel_rfl) h3
  have g0 := h5 0 v0 rfl
  rw [Nat.add_zero] at g0
  rw [hc, g0, h5 1 v1 rfl, (int_lit (by kernel_rfl) a0).1, str_lit (by kernel_rfl) a1]
  exact ⟨rfl, rfl⟩
theorem pt_laid (h : DataW.LaidVars Tryz.prog W l ps) (hm : ("internal/strconv.pow10Tab", Rows.laid_internal_strconv_pow10Tab) ∈ l) : ∀ i, i < 696 → W.cell? ⟨14, i * 2, none⟩ = some (.int .u64 ((pmr i).1 : Int)) ∧ W.cell? ⟨14, i * 2 + 1, none⟩ = some (.int .u64 ((pmr i).2 : Int)) := by
  obtain ⟨cs, fuel, p, h1, h2⟩ := laid_at h hm 14 178 (by kernel_rfl) (by kernel_rfl)
  have e : (Rows.laid_internal_strconv_pow10Tab : DataW Unit) = .agg (Pinned.pow10Rows.map fun x => .agg [.lit (.int .u64 x.1), .lit (.int .u64 x.2)]) := by kernel_rfl
  have hl : Pinned.pow10Rows.length = 696 := by kernel_rfl
  rw [e] at h1
  obtain ⟨xs, m, _, hx, hcl, hxl, hf⟩ := DataW.trod_array Tryz.underlying178 h1
  injection hx with hx _
  injection hx with hx
  intro i hi
  obtain ⟨x, hxi⟩ : ∃ x, Pinned.pow10Rows[i]? = some x := ⟨_, List.getElem?_eq_getElem (by omega)⟩
  have hp : pmr i = x := by unfold pmr; rw [List.getD_eq_getElem?_getD, hxi]; rfl
  have hg := congrArg (·[i]?) hx
  simp only [List.getElem?_map, hxi, Option.map_some] at hg
  obtain ⟨y, hy⟩ : ∃ y, xs[i]? = some y := ⟨_, List.getElem?_eq_getElem (by omega)⟩
  rw [hy] at hg
  have hfi := hf i hi
  rw [hy] at hfi
  injection hg with hg
  obtain ⟨y1, y2⟩ := y
  have hg' : y1 = .agg [.lit (.int .u64 x.1), .lit (.int .u64 x.2)] := hg.symm
  subst hg'
  obtain ⟨v0, v1, m2, q0, q1, hcs, a0, a1⟩ := struct2 Tryz.underlying177 rfl rfl (by kernel_rfl) (by kernel_rfl) (by kernel_rfl) hfi
  have c2 : Tryz.prog.cellsOf 177 = 2 := by kernel_rfl
  rw [c2] at hcs
  have g0 : cs[i * 2]? = some v0 := by
    have := congrArg (·[0]?) hcs
    simpa [List.getElem?_take, List.getElem?_drop] using this
  have g1 : cs[i * 2 + 1]? = some v1 := by
    have := congrArg (·[1]?) hcs
    simpa [List.getElem?_take, List.getElem?_drop] using this
  obtain ⟨r0, s0⟩ := int_lit (k := .u64) (by kernel_rfl) a0
  obtain ⟨r1, s1⟩ := int_lit (k := .u64) (by kernel_rfl) a1
  rw [hp]
  exact ⟨by rw [h2, g0, r0], by rw [h2, g1, r1]⟩
end Go.Proofs.YtjemobfhlfejlaaGreatDoor.Dc
