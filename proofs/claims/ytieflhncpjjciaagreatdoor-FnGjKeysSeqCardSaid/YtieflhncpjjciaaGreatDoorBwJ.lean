/- Walks and plain laws of this claim. -/
import Derived.Test.YtieflhncpjjciaaGreatDoorBwB
import Derived.Laws.FloatArith
import Derived.Test.YtieflhncpjjciaaGreatDoorBwH
import Derived.Deep.RegionHeld3
import Derived.BigQuiet
import Derived.Test.YtieflhncpjjciaaGreatDoorBwD
import Derived.Test.YtieflhncpjjciaaGreatDoorBwI
import Derived.Test.YtieflhncpjjciaaGreatDoorBwG
import Derived.Deep.AppendLies
import Derived.Test.YtieflhncpjjciaaGreatDoorBwA
set_option maxHeartbeats 8000000
set_option maxRecDepth 100000
set_option linter.unusedVariables false
set_option linter.unusedSimpArgs false
namespace Go.Proofs.YtieflhncpjjciaaGreatDoor.Dc
open Go Go.RowKit
def NanF (q : Nat) : Prop := ∃ s p, Ieee.double.read q = .nan s p
def FAdd (x y r : Nat) : Prop := floatBits .add .f64 x y = some r ∨ (floatBits .add .f64 x y = none ∧ NanF r)
def NumEq (x y : Nat) : Prop := x = y ∨ (NanF x ∧ NanF y)
theorem sw_d : Ieee.double.signWeight = 9223372036854775808 := by decide +kernel
theorem bi_d : Ieee.double.binade = 4503599627370496 := by decide +kernel
theorem ir_d : Ieee.double.infRung = 9218868437227405312 := by decide +kernel
theorem nan_of {n : Nat} (h : 9218868437227405312 < n % 9223372036854775808) : NanF n := by
 unfold NanF Ieee.Format.read
 simp only [sw_d, bi_d, ir_d]
 rw [if_neg Yy0, if_neg Yy0, if_neg Yy0]
 exact ⟨_, _, rfl⟩
theorem nan_cut (x y t : Nat) : NanF ((Question.nanBits .f64 x y).cut t) := by
 show NanF ((t % 2) * 9223372036854775808 + 9218868437227405312 + 1 + (t / 2) % 4503599627370495)
 apply nan_of
 have h1 : t % 2 = 0 ∨ t % 2 = 1 := Yy0
 have h2 : (t / 2) % 4503599627370495 < 4503599627370495 := Nat.mod_lt _ Yy2
 rcases h1 with h | h <;> rw [h] <;> omega
theorem flt_add (t : TypeId) (x y : Nat) (w : World) : ∃ r q, FAdd x y r ∧ (binOp .add t (.float .f64 x) (.float .f64 y)).run Tryz.prog w = .ok (.float .f64 r) (w.drewN q) := by
 cases hr : floatBits .add .f64 x y with
 | some r => exact ⟨r, 0, .inl hr, run_float_arith w .add t .f64 x y r hr⟩
 | none =>
  have hr' : FloatKind.f64.format.add x y = none := hr
  refine ⟨(Question.nanBits .f64 x y).cut (w.tape w.drawn (Question.nanBits .f64 x y)), 1, .inr ⟨hr, nan_cut _ _ _⟩, ?_⟩
  simp [binOp, Op.floatArith, hr', Question.forced]
  rfl
theorem nan_add {x y : Nat} (h : NanF x) : floatBits .add .f64 x y = none := by
 obtain ⟨s, p, h⟩ := h
 show ((Ieee.double.read x).sum (Ieee.double.read y)).map _ = none
 rw [h]
 cases Ieee.double.read y <;> rfl
theorem fadd_eq {x x' y r r' : Nat} (h : NumEq x x') (k : FAdd x y r) (k' : FAdd x' y r') : NumEq r r' := by
 rcases h with rfl | ⟨h, h'⟩
 ·
  rcases k with k | ⟨k, n⟩
  ·
   rcases k' with k' | ⟨k', _⟩
   ·
    rw [k] at k'; exact .inl (Option.some.inj k')
   ·
    rw [k] at k'; cases k'
  ·
   rcases k' with k' | ⟨_, n'⟩
   ·
    rw [k] at k'; cases k'
   ·
    exact .inr ⟨n, n'⟩
 ·
  rcases k with k | ⟨_, n⟩
  ·
   rw [nan_add h] at k; cases k
  ·
   rcases k' with k' | ⟨_, n'⟩
   ·
    rw [nan_add h'] at k'; cases k'
   ·
    exact .inr ⟨n, n'⟩
theorem order_self {d : Ieee.Datum} (h : ∀ s p, d ≠ .nan s p) : d.order d = some .eq := by
 cases d with
 | nan s p => exact absurd rfl (h s p)
 | infinity s => cases s <;> rfl
 | number s m i => simp [Ieee.Datum.order]
theorem nan_order {x y : Nat} (h : NanF x) : Ieee.double.order x y = none := by
 obtain ⟨s, p, h⟩ := h
 unfold Ieee.Format.order
 rw [h]
 cases Ieee.double.read y <;> rfl
theorem order_eq (x : Nat) (h : ¬ NanF x) : Ieee.double.order x x = some .eq := order_self (fun s p e => h ⟨s, p, e⟩)
theorem alike_any {w : World} (k : Int) (raw str : ByteArray) (q q' : Nat) (ex : Bool) (hq : NumEq q q') :
  Calls Tryz.prog 22 #[.agg #[.int .i64 k, .string raw, .string str, .float .f64 q, .bool ex], .agg #[.int .i64 k, .string raw, .string str, .float .f64 q', .bool ex]] w fun e w' => e = .returned (.bool true) ∧ Below w.heap.size w w' := by
 obtain ⟨B, hB⟩ : ∃ B, w.heap.size = B := ⟨_, rfl⟩
 have hd : (FloatKind.f64.format.order q q' == some Ordering.eq) = true ∨ ((FloatKind.f64.format.order q q' == some Ordering.eq) = false ∧ (FloatKind.f64.format.order q q != some Ordering.eq) = true ∧ (FloatKind.f64.format.order q' q' != some Ordering.eq) = true) := by
  by_cases hn : NanF q
  ·
   have hn' : NanF q' := by rcases hq with rfl | h; exact hn; exact h.2
   refine .inr ⟨?_, ?_, ?_⟩
   ·
    show (Ieee.double.order q q' == _) = false; rw [nan_order hn]; rfl
   ·
    show (Ieee.double.order q q != _) = true; rw [nan_order hn]; rfl
   ·
    show (Ieee.double.order q' q' != _) = true; rw [nan_order hn']; rfl
  ·
   rcases hq with rfl | h
   ·
    left; show (Ieee.double.order q q == _) = true; rw [order_eq q hn]; rfl
   ·
    exact absurd h.1 hn
 have b1 : Below w.heap.size w ((w.alloc (Obj.cells #[.int .i64 k, .string raw, .string str, .float .f64 q, .bool ex] 34)).alloc (Obj.cells #[.int .i64 k, .string raw, .string str, .float .f64 q', .bool ex] 34)) := ((Below.refl _ w).alloc Yy0 _).alloc Yy15 _
 have B1 := hdd b1
 clear b1 hq
 go_enter Tryz.func22, Tryz.ntmps22
 rcases hd with h1 | ⟨h1, h2, h3⟩
 ·
  go_wp2_with fail
  go_ret
  exact ⟨rfl, B1.out⟩
 ·
  go_wp2_with fail
  go_ret
  exact ⟨rfl, B1.out⟩
theorem kind4_any {w : World} : Calls Tryz.prog 29 #[.int .i64 4] w fun e w' => e = .returned (.int .i64 3) ∧ Below w.heap.size w w' := by
 go_enter Tryz.func29, Tryz.ntmps29
 go_wp2_with fail
 go_ret
 exact ⟨rfl, Below.refl _ _⟩
theorem same_leaf {w : World} (k : Int) (u : ByteArray) (B2 : Option Addr) (d2 : Nat) (B3 : Option Addr) (d3 : Nat) (A2 : Option Addr) (e2 : Nat) (A3 : Option Addr) (e3 : Nat) :
  Calls Tryz.prog 30 #[.agg #[.int .i64 k, .string u, .slice B2 0 d2, .slice B3 0 d3], .agg #[.int .i64 k, .string u, .slice A2 0 e2, .slice A3 0 e3]] w fun e w' => e = .returned (.bool true) ∧ Below w.heap.size w w' := by
 obtain ⟨B, hB⟩ : ∃ B, w.heap.size = B := ⟨_, rfl⟩
 have b1 : Hid (Below w.heap.size w ((w.alloc (Obj.cells #[.int .i64 k, .string u, .slice B2 0 d2, .slice B3 0 d3] 26)).alloc (Obj.cells #[.int .i64 k, .string u, .slice A2 0 e2, .slice A3 0 e3] 26))) := hdd (((Below.refl _ w).alloc Yy0 _).alloc Yy15 _)
 go_enter Tryz.func30, Tryz.ntmps30
 go_wp2_with fail
 go_loopg [5] 0 (fun m v5 wr => v5 = .int .i64 0 ∧ Hid (wr = ((w.alloc (Obj.cells #[.int .i64 k, .string u, .slice B2 0 d2, .slice B3 0 d3] 26)).alloc (Obj.cells #[.int .i64 k, .string u, .slice A2 0 e2, .slice A3 0 e3] 26))))
 case atStart => exact ⟨rfl, hdd (by first | rfl | (rw [hB]))⟩
 case round =>
  obtain ⟨rfl, hwr⟩ := hrel
  obtain rfl := hwr.out
  go_wp2_with fail
  go_loopg [6] 0 (fun m v6 w3 => v6 = .int .i64 0 ∧ Hid (w3 = ((w.alloc (Obj.cells #[.int .i64 k, .string u, .slice B2 0 d2, .slice B3 0 d3] 26)).alloc (Obj.cells #[.int .i64 k, .string u, .slice A2 0 e2, .slice A3 0 e3] 26))))
  case atStart => exact ⟨rfl, hdd rfl⟩
  case round =>
   obtain ⟨rfl, hw3⟩ := hrel
   obtain rfl := hw3.out
   go_wp2_with fail
   go_ret
   exact ⟨rfl, by rw [← hB]; exact b1.out⟩
open Go Go.RowKit Go.Proofs.YtieflhncpjjciaaGreatDoorW.PrintWords Go.Proofs.YtieflhncpjjciaaGreatDoor.PFnGjSquashItems
theorem gjis_of {w : World} {n0 : Int} {n1 : ByteArray} {n2 : List ByteArray} {n3 : List S26} {kd : Int} {raw str : ByteArray} {q : Nat} {A2 A3 : Option Addr} {c2 c3 : Nat}
  (hread : Ev (fun k => spec_Read.f k raw) (n0, n1, n2, n3, true)) (hsame : ∀ (w : World) (B2 : Option Addr) (d2 : Nat) (B3 : Option Addr) (d3 : Nat) (A2' : Option Addr) (e2 : Nat) (A3' : Option Addr) (e3 : Nat), Kd.C Kd.string w B2 n2.length n2 → n2.length ≤ d2 → Kd.C k26 w B3 n3.length n3 → n3.length ≤ d3 → Kd.C Kd.string w A2' n2.length n2 → n2.length ≤ e2 → Kd.C k26 w A3' n3.length n3 → n3.length ≤ e3 → Calls Tryz.prog 30 #[.agg #[.int .i64 n0, .string n1, .slice B2 n2.length d2, .slice B3 n3.length d3], .agg #[.int .i64 n0, .string n1, .slice A2' n2.length e2, .slice A3' n3.length e3]] w fun e w' => e = .returned (.bool true) ∧ Below w.heap.size w w') (hkd : ∀ w : World, Calls Tryz.prog 29 #[.int .i64 n0] w fun e w' => e = .returned (.int .i64 kd) ∧ Below w.heap.size w w') (hstr : n0 = 4 → str = n1)
  (h2 : Kd.C Kd.string w A2 n2.length n2) (l2 : n2.length ≤ c2) (h3 : Kd.C k26 w A3 n3.length n3) (l3 : n3.length ≤ c3) :
  Calls Tryz.prog 11 #[.agg #[.int .i64 kd, .string raw, .string str, .float .f64 q, .bool true], .agg #[.int .i64 n0, .string n1, .slice A2 n2.length c2, .slice A3 n3.length c3]] w fun e w' => e = .returned (.bool true) ∧ Below w.heap.size w w' := by
 obtain ⟨k0, hk0⟩ := hread
 have RC : Hid (∀ w, Calls Tryz.prog 28 #[.string raw] w fun e w' => ∃ v2_ v3_ : Value, e = .returned (.tuple #[.agg #[.int .i64 n0, .string n1, v2_, v3_], .bool true]) ∧ Kd.R Kd.string 9 w' w.heap.size (fun _ => True) v2_ n2 ∧ Kd.R k26 26 w' w.heap.size (fun k_ => some k_ ≠ (v2_ : Value).ownBlock) v3_ n3 ∧ Below w.heap.size w w') := hdd (fun w => spec_Read.calls k0 raw _ _ _ _ _ w (hk0 k0 (nlr _)))
 have SC := hdd hsame
 have H2 := hdd h2; have L2 := hdd l2; have H3 := hdd h3; have L3 := hdd l3; have KC := hdd hkd; have HS := hdd hstr
 clear hk0 hsame h2 l2 h3 l3 hkd hstr
 go_enter Tryz.func11, Tryz.ntmps11
 obtain ⟨B, hB⟩ : ∃ B, w.heap.size = B := ⟨_, rfl⟩
 go_upto_region 1 with (fail)
 obtain ⟨wa, hwa⟩ : ∃ wa, (w.alloc (Obj.cells #[.int .i64 kd, .string raw, .string str, .float .f64 q, .bool true] 34)).alloc (Obj.cells #[.int .i64 n0, .string n1, .slice A2 n2.length c2, .slice A3 n3.length c3] 26) = wa := ⟨_, rfl⟩
 have bA : Hid (Below w.heap.size w wa) := hdd (by rw [← hwa]; exact ((Below.refl _ w).alloc (nlr _) _).alloc Yy15 _)
 have sA : Hid (wa.heap.size = B + 2) := hdd Yy30
 have a0 : wa.cell? ⟨B, 0, none⟩ = some (.int .i64 kd) := Yy30
 have a1 : wa.cell? ⟨B, 1, none⟩ = some (.string raw) := Yy30
 have a2 : wa.cell? ⟨B, 2, none⟩ = some (.string str) := Yy30
 have a4 : wa.cell? ⟨B, 4, none⟩ = some (.bool true) := Yy30
 have b0 : wa.cell? ⟨B + 1, 0, none⟩ = some (.int .i64 n0) := Yy30
 have b1 : wa.cell? ⟨B + 1, 1, none⟩ = some (.string n1) := Yy30
 have b2 : wa.cell? ⟨B + 1, 2, none⟩ = some (.slice A2 n2.length c2) := Yy30
 have b3 : wa.cell? ⟨B + 1, 3, none⟩ = some (.slice A3 n3.length c3) := Yy30
 have HA2 := hdd (Kd.C_below H2.out bA.out)
 have HA3 := hdd (Kd.C_below H3.out bA.out)
 rw [hwa]
 clear hwa
 go_upto_region 2 with (go_at_call 28; refine (RC.out _).mono ?_; rintro en w1 ⟨v2, v3, rfl, hR2, hR3, hb1⟩; obtain ⟨B2, d2, rfl, m2, hC2⟩ := Kd.R_reads hR2; obtain ⟨B3, d3, rfl, m3, hC3⟩ := Kd.R_reads hR3; have C2 := hdd hC2; have C3 := hdd hC3; have M2 := hdd m2; have M3 := hdd m3; have e0 := cellB hb1 a0; have e1 := cellB hb1 a1; have e2 := cellB hb1 a2; have e4 := cellB hb1 a4; have f0 := cellB hb1 b0; have f1 := cellB hb1 b1; have f2 := cellB hb1 b2; have f3 := cellB hb1 b3; have G2 := hdd (Kd.C_below HA2.out hb1); have G3 := hdd (Kd.C_below HA3.out hb1); have B1 := hdd hb1; clear hR2 hR3 hb1 hC2 hC3 m2 m3)
 obtain ⟨g, hg⟩ : ∃ g, w1.heap.size = g := ⟨_, rfl⟩
 obtain ⟨wb, hwb⟩ : ∃ wb, w1.alloc (Obj.cells #[.int .i64 n0, .string n1, .slice B2 n2.length d2, .slice B3 n3.length d3] 26) = wb := ⟨_, rfl⟩
 have bB : Hid (Below w1.heap.size w1 wb) := hdd (by rw [← hwb]; exact (Below.refl _ w1).alloc (nlr _) _)
 have g0 : wb.drew.cell? ⟨g, 0, none⟩ = some (.int .i64 n0) := Yy58
 have g1 : wb.drew.cell? ⟨g, 1, none⟩ = some (.string n1) := Yy58
 have g2 : wb.drew.cell? ⟨g, 2, none⟩ = some (.slice B2 n2.length d2) := Yy58
 have g3 : wb.drew.cell? ⟨g, 3, none⟩ = some (.slice B3 n3.length d3) := Yy58
 have p0 : wb.drew.cell? ⟨B, 0, none⟩ = some (.int .i64 kd) := cellB bB.out.drew e0
 have p2 : wb.drew.cell? ⟨B, 2, none⟩ = some (.string str) := cellB bB.out.drew e2
 have p4 : wb.drew.cell? ⟨B, 4, none⟩ = some (.bool true) := cellB bB.out.drew e4
 have q0 : wb.drew.cell? ⟨B + 1, 0, none⟩ = some (.int .i64 n0) := cellB bB.out.drew f0
 have q1 : wb.drew.cell? ⟨B + 1, 1, none⟩ = some (.string n1) := cellB bB.out.drew f1
 have q2 : wb.drew.cell? ⟨B + 1, 2, none⟩ = some (.slice A2 n2.length c2) := cellB bB.out.drew f2
 have q3 : wb.drew.cell? ⟨B + 1, 3, none⟩ = some (.slice A3 n3.length c3) := cellB bB.out.drew f3
 have K2 := hdd (Kd.C_below C2.out bB.out.drew)
 have K3 := hdd (Kd.C_below C3.out bB.out.drew)
 have J2 := hdd (Kd.C_below G2.out bB.out.drew)
 have J3 := hdd (Kd.C_below G3.out bB.out.drew)
 rw [hwb]
 clear hwb e0 e1 e2 e4 f0 f1 f2 f3 a0 a1 a2 a4 b0 b1 b2 b3
 go_region_held3 (fun w' => w'.cell? ⟨B, 0, none⟩ = some (.int .i64 kd) ∧ w'.cell? ⟨B, 2, none⟩ = some (.string str) ∧ w'.cell? ⟨B, 4, none⟩ = some (.bool true) ∧ w'.cell? ⟨B + 1, 0, none⟩ = some (.int .i64 n0) ∧ w'.cell? ⟨B + 1, 1, none⟩ = some (.string n1) ∧ w'.cell? ⟨B + 1, 2, none⟩ = some (.slice A2 n2.length c2) ∧ w'.cell? ⟨B + 1, 3, none⟩ = some (.slice A3 n3.length c3) ∧ w'.cell? ⟨g, 0, none⟩ = some (.int .i64 n0) ∧ w'.cell? ⟨g, 1, none⟩ = some (.string n1) ∧ w'.cell? ⟨g, 2, none⟩ = some (.slice B2 n2.length d2) ∧ w'.cell? ⟨g, 3, none⟩ = some (.slice B3 n3.length d3))
  (first
   | with_reducible exact ⟨yp0, yp2, yp4, yq0, yq1, yq2, yq3, yg0, yg1, yg2, yg3⟩
   | with_reducible exact ⟨xp0, xp2, xp4, xq0, xq1, xq2, xq3, xg0, xg1, xg2, xg3⟩
   | with_reducible exact ⟨p0, p2, p4, q0, q1, q2, q3, g0, g1, g2, g3⟩)
  (first
   | (go_at_call 29; refine (KC.out _).mono ?_; rintro en wz ⟨rfl, hbd⟩; have xp0 := cellB hbd p0; have xp2 := cellB hbd p2; have xp4 := cellB hbd p4; have xq0 := cellB hbd q0; have xq1 := cellB hbd q1; have xq2 := cellB hbd q2; have xq3 := cellB hbd q3; have xg0 := cellB hbd g0; have xg1 := cellB hbd g1; have xg2 := cellB hbd g2; have xg3 := cellB hbd g3; have X2 := hdd (Kd.C_below K2.out hbd); have X3 := hdd (Kd.C_below K3.out hbd); have Y2 := hdd (Kd.C_below J2.out hbd); have Y3 := hdd (Kd.C_below J3.out hbd); have BD := hdd hbd; clear hbd)
   | (go_at_call 30; refine (SC.out _ _ _ _ _ _ _ _ _ X2.out M2.out X3.out M3.out Y2.out L2.out Y3.out L3.out).mono ?_; rintro en wy ⟨rfl, hbe⟩; have yp0 := cellB hbe xp0; have yp2 := cellB hbe xp2; have yp4 := cellB hbe xp4; have yq0 := cellB hbe xq0; have yq1 := cellB hbe xq1; have yq2 := cellB hbe xq2; have yq3 := cellB hbe xq3; have yg0 := cellB hbe xg0; have yg1 := cellB hbe xg1; have yg2 := cellB hbe xg2; have yg3 := cellB hbe xg3; have BE := hdd hbe; clear hbe))
 have BW : Hid (Below w.heap.size w wy) := hdd (by
  have h1 := bA.out.size
  have h2 := B1.out.size
  have h3 := bB.out.size
  exact ((bA.out.trans (B1.out.mono h1)).trans ((bB.out.drew).mono Yy0)).trans ((BD.out.trans (BE.out.mono BD.out.size)).mono (by show _ ≤ wb.heap.size; omega)))
 by_cases h4 : n0 = 4
 ·
  have hs := HS.out h4
  have t1 : (n0 != 4) = false := by rw [h4]; rfl
  subst hs
  clear h4
  go_wp2_with fail
  go_ret
  exact ⟨Yy3, by first | exact BW.out | (rw [← hB]; exact BW.out)⟩
 ·
  have t1 : (n0 != 4) = true := bne_iff_ne.mpr h4
  clear h4
  go_wp2_with fail
  go_ret
  exact ⟨Yy3, by first | exact BW.out | (rw [← hB]; exact BW.out)⟩
theorem gjis_str {w : World} {nm raw : ByteArray} {q : Nat} (hread : Ev (fun k => spec_Read.f k raw) (4, nm, [], [], true)) (hc : Kd.C Kd.string w none 0 []) (hc3 : Kd.C k26 w none 0 []) :
  Calls Tryz.prog 11 #[.agg #[.int .i64 3, .string raw, .string nm, .float .f64 q, .bool true], .agg #[.int .i64 4, .string nm, .slice none 0 0, .slice none 0 0]] w fun e w' => e = .returned (.bool true) ∧ Below w.heap.size w w' :=
 gjis_of (n2 := []) (n3 := []) hread (fun w B2 d2 B3 d3 A2 e2 A3 e3 _ _ _ _ _ _ _ _ => same_leaf 4 nm B2 d2 B3 d3 A2 e2 A3 e3) (fun w => kind4_any) (fun _ => rfl) hc (nlr 0) hc3 (nlr 0)
def ByRow (w : World) (ad : Addr) (s : ByteArray) : Prop := ∀ q : Nat, q < s.size → w.cell? (ad.add q) = some (.int .u8 (bt s (q : Int)))
theorem isB_four {c : Int} (h : isB c = true) : c = 32 ∨ c = 9 ∨ c = 10 ∨ c = 13 := (isB_iff c).mp h
theorem strbytes_any {w : World} (s : ByteArray) (hs : s.size ≤ 65536) (h0 : 0 < s.size) :
  Calls Tryz.prog 76 #[.string s] w fun e w' => ∃ ad c, e = .returned (.slice (some ad) s.size c) ∧ ByRow w' ad s ∧ Below w.heap.size w w' := by
 have hz : s.size ≤ 9223372036854775807 := Yy0
 go_enter Tryz.func76, Tryz.ntmps76
 go_wp2_with (first | ((with_reducible refine gate_dst (N := 4) rfl ?_); refine Kd.V_bytes _ 5 rfl (N := 4) rfl 9 69 _ rfl s rfl Tryz.underlying9 Tryz.underlying69 Tryz.underlying5 hz (ok := fun _ => True) trivial (Below.refl _ _) (nlr _) ?_; intro v455 w4 ho5 hb hg_ hnew_))
 go_ret
 obtain ⟨A, c, rfl, hl, hf⟩ := ho5
 have hC : (Kd.int .u8).C w4 A (bytesOf s).length (bytesOf s) := Kd.F_now hf
 obtain ⟨ad, rfl, _⟩ := Kd.at_int hC 0 Yy2 (by rw [bytesOf_length]; omega)
 refine ⟨ad, c, by rw [bytesOf_length]; rfl, fun q hq => ?_, hb⟩
 have h := Kd.foot_int hC (q : Int) Yy0 (by rw [bytesOf_length]; omega)
 rw [rd_bytesOf] at h
 exact h
theorem varr_any {w : World} {ad : Addr} {c : Nat} (s : ByteArray) (hs : s.size ≤ 65536) (hm : ByRow w ad s) (i p : Nat) (hb : Blk s i p) (hc : bt s (p : Int) = 93) :
  Calls Tryz.prog 112 #[.slice (some ad) s.size c, .int .i64 i] w fun e w' => e = .returned (.tuple #[.int .i64 ((p : Int) + 1), .bool true]) ∧ w' = w := by
 have hps : p < s.size := bt_in hc Yy2
 have ss : (s.size : Int) ≤ 65536 := Yy0
 have HM := hdd hm; have HB := hdd hb; have HC := hdd hc
 clear hm hb hc
 go_enter Tryz.func112, Tryz.ntmps112
 go_wp2_with fail
 go_loopg [1] (p - i) (fun m v1 wr => ∃ q : Nat, v1 = .int .i64 (q : Int) ∧ Hid (q + m = p) ∧ Hid (i ≤ q) ∧ Hid (wr = w))
 case atStart => exact ⟨i, rfl, hdd (by have := HB.out.1; omega), hdd (nlr _), hdd rfl⟩
 case round =>
  obtain ⟨q, rfl, hq, hiq, hwr⟩ := hrel
  obtain rfl := hwr.out
  have hqp : q ≤ p := Yy14
  have hqs : q < s.size := Yy0
  have t0 : decide (q < s.size) = true := dtt hqs
  have k0 : wr.cell? (ad.add q) = some (.int .u8 (bt s (q : Int))) := HM.out q hqs
  rcases eol hqp with h | h
  ·
   subst h
   rw [HC.out] at k0
   go_wp2_with fail
   go_ret2
   exact ⟨rfl, rfl⟩
  ·
   have h4 := isB_four (HB.out.2.2 q hiq.out h)
   rcases h4 with h4 | h4 | h4 | h4
   all_goals
    rw [h4] at k0
    clear h4
    go_wp2_with fail
    go_roundg (gk - 1)
    case measure => have := hq.out; omega
    case rel => exact ⟨q + 1, Yy5, hdd Yy14, hdd (by have := hiq.out; omega), hdd rfl⟩
theorem vobj_any {w : World} {ad : Addr} {c : Nat} (s : ByteArray) (hs : s.size ≤ 65536) (hm : ByRow w ad s) (i p : Nat) (hb : Blk s i p) (hc : bt s (p : Int) = 125) :
  Calls Tryz.prog 111 #[.slice (some ad) s.size c, .int .i64 i] w fun e w' => e = .returned (.tuple #[.int .i64 ((p : Int) + 1), .bool true]) ∧ w' = w := by
 have hps : p < s.size := bt_in hc Yy2
 have ss : (s.size : Int) ≤ 65536 := Yy0
 have HM := hdd hm; have HB := hdd hb; have HC := hdd hc
 clear hm hb hc
 go_enter Tryz.func111, Tryz.ntmps111
 go_wp2_with fail
 go_loopg [1] (p - i) (fun m v1 wr => ∃ q : Nat, v1 = .int .i64 (q : Int) ∧ Hid (q + m = p) ∧ Hid (i ≤ q) ∧ Hid (wr = w))
 case atStart => exact ⟨i, rfl, hdd (by have := HB.out.1; omega), hdd (nlr _), hdd rfl⟩
 case round =>
  obtain ⟨q, rfl, hq, hiq, hwr⟩ := hrel
  obtain rfl := hwr.out
  have hqp : q ≤ p := Yy14
  have hqs : q < s.size := Yy0
  have t0 : decide (q < s.size) = true := dtt hqs
  have k0 : wr.cell? (ad.add q) = some (.int .u8 (bt s (q : Int))) := HM.out q hqs
  rcases eol hqp with h | h
  ·
   subst h
   rw [HC.out] at k0
   go_wp2_with fail
   go_ret2
   exact ⟨rfl, rfl⟩
  ·
   have h4 := isB_four (HB.out.2.2 q hiq.out h)
   rcases h4 with h4 | h4 | h4 | h4
   all_goals
    rw [h4] at k0
    clear h4
    go_wp2_with fail
    go_roundg (gk - 1)
    case measure => have := hq.out; omega
    case rel => exact ⟨q + 1, Yy5, hdd Yy14, hdd (by have := hiq.out; omega), hdd rfl⟩
def Emp (s : ByteArray) (i p : Nat) : Prop := Blk s (i + 1) p ∧ ((bt s (i : Int) = 91 ∧ bt s (p : Int) = 93) ∨ (bt s (i : Int) = 123 ∧ bt s (p : Int) = 125))
theorem vany_any {w : World} {ad : Addr} {c : Nat} (s : ByteArray) (hs : s.size ≤ 65536) (hm : ByRow w ad s) (i p : Nat) (he : Emp s i p) :
  Calls Tryz.prog 93 #[.slice (some ad) s.size c, .int .i64 i] w fun e w' => e = .returned (.tuple #[.int .i64 ((p : Int) + 1), .bool true]) ∧ w' = w := by
 obtain ⟨hb, he⟩ := he
 have his : i < s.size := by rcases he with h | h <;> exact bt_in h.1 Yy2
 have ss : (s.size : Int) ≤ 65536 := Yy0
 have HM := hdd hm
 rcases he with ⟨h1, h2⟩ | ⟨h1, h2⟩
 ·
  have C1 : Hid (Calls Tryz.prog 112 #[.slice (some ad) s.size c, .int .i64 ((i : Int) + 1)] w fun e w' => e = .returned (.tuple #[.int .i64 ((p : Int) + 1), .bool true]) ∧ w' = w) := hdd (varr_any s hs hm (i + 1) p hb h2)
  have H1 := hdd h1
  clear hm hb h2 h1
  go_enter Tryz.func93, Tryz.ntmps93
  go_wp2_with fail
  go_loopg [1] 0 (fun m v1 wr => v1 = .int .i64 (i : Int) ∧ Hid (wr = w))
  case atStart => exact ⟨rfl, hdd rfl⟩
  case round =>
   obtain ⟨rfl, hwr⟩ := hrel
   obtain rfl := hwr.out
   have t0 : decide (i < s.size) = true := dtt his
   have k0 : wr.cell? (ad.add i) = some (.int .u8 91) := by rw [← H1.out]; exact HM.out i his
   go_wp2_with (go_at_call 112; (with_reducible refine C1.out.mono ?_); rintro en w2 ⟨rfl, rfl⟩)
   go_ret2
   exact ⟨rfl, rfl⟩
 ·
  have C1 : Hid (Calls Tryz.prog 111 #[.slice (some ad) s.size c, .int .i64 ((i : Int) + 1)] w fun e w' => e = .returned (.tuple #[.int .i64 ((p : Int) + 1), .bool true]) ∧ w' = w) := hdd (vobj_any s hs hm (i + 1) p hb h2)
  have H1 := hdd h1
  clear hm hb h2 h1
  go_enter Tryz.func93, Tryz.ntmps93
  go_wp2_with fail
  go_loopg [1] 0 (fun m v1 wr => v1 = .int .i64 (i : Int) ∧ Hid (wr = w))
  case atStart => exact ⟨rfl, hdd rfl⟩
  case round =>
   obtain ⟨rfl, hwr⟩ := hrel
   obtain rfl := hwr.out
   have t0 : decide (i < s.size) = true := dtt his
   have k0 : wr.cell? (ad.add i) = some (.int .u8 123) := by rw [← H1.out]; exact HM.out i his
   go_wp2_with (go_at_call 111; (with_reducible refine C1.out.mono ?_); rintro en w2 ⟨rfl, rfl⟩)
   go_ret2
   exact ⟨rfl, rfl⟩
theorem vpay_any {w : World} {ad : Addr} {c : Nat} (s : ByteArray) (hs : s.size ≤ 65536) (hm : ByRow w ad s) (i p : Nat) (he : Emp s i p) (h0 : Blk s 0 i) (h9 : Blk s (p + 1) s.size) :
  Calls Tryz.prog 75 #[.slice (some ad) s.size c, .int .i64 0] w fun e w' => e = .returned (.tuple #[.int .i64 (s.size : Int), .bool true]) ∧ w' = w := by
 have C1 : Hid (Calls Tryz.prog 93 #[.slice (some ad) s.size c, .int .i64 (i : Int)] w fun e w' => e = .returned (.tuple #[.int .i64 ((p : Int) + 1), .bool true]) ∧ w' = w) := hdd (vany_any s hs hm i p he)
 have hp1 : p + 1 ≤ s.size := h9.1
 have his : i < s.size := by rcases he.2 with h | h <;> exact bt_in h.1 Yy2
 have hbi : bt s (i : Int) = 91 ∨ bt s (i : Int) = 123 := by rcases he.2 with h | h; exact .inl h.1; exact .inr h.1
 have ss : (s.size : Int) ≤ 65536 := Yy0
 have HM := hdd hm; have HI := hdd hbi; have H0 := hdd h0; have H9 := hdd h9
 clear hm he h0 h9 hbi
 go_enter Tryz.func75, Tryz.ntmps75
 go_wp2_with fail
 go_loopg [1] i (fun m v1 wr => ∃ q : Nat, v1 = .int .i64 (q : Int) ∧ Hid (q + m = i) ∧ Hid (wr = w))
 case atStart => exact ⟨0, rfl, hdd Yy0, hdd rfl⟩
 case round =>
  obtain ⟨q, rfl, hq, hwr⟩ := hrel
  obtain rfl := hwr.out
  have hqp : q ≤ i := Yy14
  have hqs : q < s.size := Yy0
  have t0 : decide (q < s.size) = true := dtt hqs
  have k0 : wr.cell? (ad.add q) = some (.int .u8 (bt s (q : Int))) := HM.out q hqs
  rcases eol hqp with h | h
  ·
   subst h
   rcases HI.out with h | h
   all_goals
    rw [h] at k0
    clear h
    go_wp2_with (go_at_call 93; (with_reducible refine C1.out.mono ?_); rintro en w2 ⟨rfl, rfl⟩)
    clear k0
    go_loopg [1] (s.size - (p + 1)) (fun m v1 w3 => ∃ x : Nat, v1 = .int .i64 (x : Int) ∧ Hid (x + m = s.size) ∧ Hid (p + 1 ≤ x) ∧ Hid (w3 = w2))
    case atStart => exact ⟨p + 1, Yy5, hdd Yy0, hdd (nlr _), hdd rfl⟩
    case round =>
     obtain ⟨x, rfl, hx, hpx, hw3⟩ := hrel
     obtain rfl := hw3.out
     have hxs : x ≤ s.size := Yy20
     rcases eol hxs with h | h
     ·
      have t1 : decide (x < s.size) = false := dff Yy0
      go_wp2_with fail
      go_ret2
      first | exact ⟨rfl, rfl⟩ | exact ⟨by rw [h]; rfl, rfl⟩
     ·
      have t1 : decide (x < s.size) = true := dtt h
      have k1 := HM.out x h
      have h4 := isB_four (H9.out.2.2 x hpx.out h)
      rcases h4 with h4 | h4 | h4 | h4
      all_goals
       rw [h4] at k1
       clear h4
       go_wp2_with fail
       go_roundg (gk - 1)
       case measure => have := hx.out; omega
       case rel => exact ⟨x + 1, Yy5, hdd Yy20, hdd (by have := hpx.out; omega), hdd rfl⟩
  ·
   have h4 := isB_four (H0.out.2.2 q (Nat.zero_le _) h)
   rcases h4 with h4 | h4 | h4 | h4
   all_goals
    rw [h4] at k0
    clear h4
    go_wp2_with fail
    go_roundg (gk - 1)
    case measure => have := hq.out; omega
    case rel => exact ⟨q + 1, Yy5, hdd Yy14, hdd rfl⟩
theorem valid_any {w : World} (s : ByteArray) (hs : s.size ≤ 65536) (i p : Nat) (he : Emp s i p) (h0 : Blk s 0 i) (h9 : Blk s (p + 1) s.size) :
  Calls Tryz.prog 48 #[.string s] w fun e w' => e = .returned (.bool true) ∧ Below w.heap.size w w' := by
 have hp1 : p + 1 ≤ s.size := h9.1
 have C1 : Hid (Calls Tryz.prog 76 #[.string s] w fun e w' => ∃ ad c, e = .returned (.slice (some ad) s.size c) ∧ ByRow w' ad s ∧ Below w.heap.size w w') := hdd (strbytes_any s hs Yy0)
 have C2 : Hid (∀ (w : World) (ad : Addr) (c : Nat), ByRow w ad s → Calls Tryz.prog 75 #[.slice (some ad) s.size c, .int .i64 0] w fun e w' => e = .returned (.tuple #[.int .i64 (s.size : Int), .bool true]) ∧ w' = w) := hdd (fun w ad c h => vpay_any s hs h i p he h0 h9)
 clear he h0 h9
 go_enter Tryz.func48, Tryz.ntmps48
 go_wp2_with (first
  | (go_at_call 76; (with_reducible refine C1.out.mono ?_); rintro en w2 ⟨ad, c, rfl, hby, hb⟩; have HBY := hdd hby; have HB2 := hdd hb; clear hby hb)
  | (go_at_call 75; (with_reducible refine (C2.out _ _ _ HBY.out).mono ?_); rintro en w3 ⟨rfl, rfl⟩))
 go_ret
 exact ⟨rfl, HB2.out⟩
theorem gjvalid_any {w : World} (s : ByteArray) (hs : s.size ≤ 65536) (i p : Nat) (he : Emp s i p) (h0 : Blk s 0 i) (h9 : Blk s (p + 1) s.size) :
  Calls Tryz.prog 23 #[.string s] w fun e w' => e = .returned (.bool true) ∧ Below w.heap.size w w' := by
 have C1 : Hid (Calls Tryz.prog 48 #[.string s] w fun e w' => e = .returned (.bool true) ∧ Below w.heap.size w w') := hdd (valid_any s hs i p he h0 h9)
 clear he h0 h9
 go_enter Tryz.func23, Tryz.ntmps23
 go_wp2_with (go_at_call 48; (with_reducible refine C1.out.mono ?_); rintro en w2 ⟨rfl, hb⟩)
 go_ret
 exact ⟨rfl, hb⟩
inductive NumI (ob : Bool) : List (RV × RV) → Nat → Prop
 | nil : NumI ob [] (cond ob 0 13830554455654793216)
 | snoc {L : List (RV × RV)} {q : Nat} {p : RV × RV} (h : NumI ob L q) (h1 : ob = true → p.1.q = q) (h2 : ob = false → FAdd q 4607182418800017408 p.1.q) : NumI ob (L ++ [p]) p.1.q
theorem numI_snoc {ob : Bool} {L : List (RV × RV)} {p : RV × RV} {r : Nat} (h : NumI ob (L ++ [p]) r) : ∃ q, NumI ob L q ∧ (ob = true → p.1.q = q) ∧ (ob = false → FAdd q 4607182418800017408 p.1.q) ∧ r = p.1.q := by
 generalize hM : L ++ [p] = M at h
 cases h with
 | nil => simp at hM
 | @snoc L' q p' h h1 h2 =>
  obtain ⟨rfl, e⟩ := List.append_inj' hM rfl
  obtain rfl := List.singleton_inj.mp e
  exact ⟨q, h, h1, h2, rfl⟩
theorem numI_nil {ob : Bool} {L : List (RV × RV)} {q : Nat} (h : NumI ob L q) (e : L = []) : q = cond ob 0 13830554455654793216 := by
 cases h with
 | nil => rfl
 | snoc => simp at e
theorem numI_two {ob : Bool} : ∀ (n : Nat) (L M : List (RV × RV)) (a b : Nat), L.length = n → M.length = n → NumI ob L a → NumI ob M b → NumEq a b ∧ ∀ k (hk : k < L.length) (hk' : k < M.length), NumEq L[k].1.q M[k].1.q
 | 0, L, M, a, b, hl, hm, h, k => by
  obtain rfl := List.length_eq_zero_iff.mp hl
  obtain rfl := List.length_eq_zero_iff.mp hm
  exact ⟨.inl ((numI_nil h rfl).trans (numI_nil k rfl).symm), fun k hk => absurd hk (Nat.not_lt_zero _)⟩
 | n + 1, L, M, a, b, hl, hm, h, k => by
  obtain ⟨L', p, rfl⟩ : ∃ L' p, L = L' ++ [p] := ⟨L.dropLast, L.getLast (by intro e; rw [e] at hl; cases hl), (List.dropLast_concat_getLast _).symm⟩
  obtain ⟨M', p', rfl⟩ : ∃ L' p, M = L' ++ [p] := ⟨M.dropLast, M.getLast (by intro e; rw [e] at hm; cases hm), (List.dropLast_concat_getLast _).symm⟩
  have hl' : L'.length = n := by simpa using hl
  have hm' : M'.length = n := by simpa using hm
  obtain ⟨q, hq, h1, h2, rfl⟩ := numI_snoc h
  obtain ⟨q', hq', h1', h2', rfl⟩ := numI_snoc k
  obtain ⟨e, he⟩ := numI_two n L' M' q q' hl' hm' hq hq'
  have ee : NumEq p.1.q p'.1.q := by
   cases ob with
   | true => rw [h1 rfl, h1' rfl]; exact e
   | false => exact fadd_eq e (h2 rfl) (h2' rfl)
  refine ⟨ee, fun k hk hk' => ?_⟩
  rcases Nat.lt_or_ge k n with x | x
  ·
   rw [List.getElem_append_left Yy0, List.getElem_append_left Yy0]
   exact he k Yy0 Yy0
  ·
   have hk2 : k = n := by simp at hk; omega
   subst hk2
   rw [List.getElem_append_right Yy0, List.getElem_append_right Yy0]
   simp [hl', hm', ee]
def contS (stop : Int) (L : List (RV × RV)) : Bool := (L.length : Int) != stop
theorem contS_len {stop : Int} {L M : List (RV × RV)} (h : L.length = M.length) : contS stop L = contS stop M := by unfold contS; rw [h]
theorem run_two {u : ByteArray} {ob : Bool} {stop : Int} {L0 : List (RV × RV)} {l : List ItT} {L : List (RV × RV)} (h : Run u ob (contS stop) L0 l L) : ∀ {M0 M : List (RV × RV)}, M0.length = L0.length → Run u ob (contS stop) M0 l M →
  ∃ P Q, L = L0 ++ P ∧ M = M0 ++ Q ∧ P.length = Q.length ∧ P.length ≤ l.length ∧ (l ≠ [] → P ≠ []) ∧ ∀ (k : Nat) (a b : RV × RV) (c : ItT), l[k]? = some c → P[k]? = some a → Q[k]? = some b → PairOK u ob c a ∧ PairOK u ob c b := by
 induction h with
 | nil L =>
  intro M0 M _ r
  cases r with
  | nil => exact ⟨[], [], (List.append_nil _).symm, (List.append_nil _).symm, rfl, nlr _, fun h => absurd rfl h, fun k a b c h => Yy8⟩
 | @stop L t l p hp hc =>
  intro M0 M e r
  cases r with
  | @stop _ _ _ p' hp' hc' =>
   refine ⟨[p], [p'], rfl, rfl, rfl, Yy3, fun _ => Yy3, fun k a b c h1 h2 h3 => ?_⟩
   cases k with
   | zero =>
    obtain rfl := Option.some.inj h1
    obtain rfl := Option.some.inj h2
    obtain rfl := Option.some.inj h3
    exact ⟨hp, hp'⟩
   | succ k => simp at h2
  | @next _ _ _ _ p' hp' hc' _ =>
   rw [contS_len (M := L ++ [p]) (by simp [e]), hc] at hc'
   cases hc'
 | @next L Z t l p hp hc r ih =>
  intro M0 M e r'
  cases r' with
  | @stop _ _ _ p' hp' hc' =>
   rw [contS_len (M := L ++ [p]) (by simp [e]), hc] at hc'
   cases hc'
  | @next _ _ _ _ p' hp' hc' r'' =>
   obtain ⟨P, Q, h1, h2, h3, h4, _, h5⟩ := ih (M0 := M0 ++ [p']) (by simp [e]) r''
   refine ⟨p :: P, p' :: Q, by rw [h1]; simp, by rw [h2]; simp, by simp [h3], Yy16, fun _ => Yy3, fun k a b c g1 g2 g3 => ?_⟩
   cases k with
   | zero =>
    obtain rfl := Option.some.inj g1
    obtain rfl := Option.some.inj g2
    obtain rfl := Option.some.inj g3
    exact ⟨hp, hp'⟩
   | succ k => exact h5 k a b c g1 g2 g3
theorem ms_names {s : ByteArray} : ∀ (ms : Ms) (p j : Nat), ms.wf s p j → ms.pd s → ∀ (k : Nat) (x : S121), ms.names[k]? = some x → ∃ ni nj : Nat, x = ⟨(ni : Int), (nj : Int)⟩ ∧ StrTok s ni nj ∧ Pdd s (nj - 1) (ni + 1) ∧ (ms.kn s)[k]? = some (uq s ni nj)
 | .nil, p, j, h, _ => absurd h Yy42
 | .cons ni nj t r, p, j, h, hp => by
  intro k x hx
  obtain ⟨h0, hst, c, hc1, _, v, hv1, h1, h2, q, h3, h4⟩ := h
  rw [Ms.pd] at hp
  rw [Ms.kn]
  cases k with
  | zero => obtain rfl := Option.some.inj hx; exact ⟨ni, nj, rfl, hst, hp.1, rfl⟩
  | succ k =>
   rcases h4 with ⟨_, rfl, _⟩ | ⟨_, p', _, h6⟩
   ·
    cases hx
   ·
    exact ms_names r p' j h6 hp.2.2 k x hx
theorem obj_names {s : ByteArray} {t : T} (hw : t.wf s) (hp : t.pd s) (h6 : t.s.1 = 6) (k : Nat) (x : S121) (hx : t.s.4[k]? = some x) : ∃ ni nj : Nat, x = ⟨(ni : Int), (nj : Int)⟩ ∧ StrTok s ni nj ∧ Pdd s (nj - 1) (ni + 1) ∧ (t.n s).f2[k]? = some (uq s ni nj) := by
 cases t with
 | leaf kd i j =>
  exfalso
  have hk' : kd = 6 := h6
  rcases hw.2.2 with ⟨a, _⟩ | ⟨a, _⟩ | ⟨a, _⟩ | ⟨a, _⟩ | ⟨a, _⟩ <;> omega
 | arr i j es => exact absurd (show (5 : Int) = 6 from h6) Yy2
 | obj i j ms =>
  obtain ⟨h1, h2, p, h3, h4⟩ := hw
  rw [T.n]
  rcases h4 with ⟨a, b, c⟩ | h4
  ·
   subst c; cases hx
  ·
   rw [T.pd] at hp
   exact ms_names ms p j h4 hp k x hx
theorem key_fit {s u : ByteArray} (hs : s.size ≤ 65536) {t : T} (hw : t.wf s) (hp : t.pd s) (hu : u = s.extract t.i s.size) (hti : t.i ≤ s.size) {ob : Bool} {l : List ItT} (hnm : ob = true → t.s.4 = l.map (nmOf t.i)) (hob : ob = decide (t.s.1 = 6)) {k : Nat} {c : ItT} {a b : RV × RV} (hc : l[k]? = some c) (ha : PairOK u ob c a) (hb : PairOK u ob c b) :
  a.1.k = b.1.k ∧ a.1.raw = b.1.raw ∧ a.1.str = b.1.str ∧ (t.s.1 = 6 → ∃ nm, (t.n s).f2[k]? = some nm ∧ a.1.k = 3 ∧ a.1.str = nm ∧ Ev (fun n => spec_Read.f n a.1.raw) (4, nm, [], [], true)) := by
 cases ob with
 | false =>
  obtain ⟨a1, a2, a3⟩ := ha.1.2 rfl
  obtain ⟨b1, b2, b3⟩ := hb.1.2 rfl
  refine ⟨by rw [a1, b1], by rw [a2, b2], by rw [a3, b3], fun h => ?_⟩
  rw [h] at hob
  cases hob
 | true =>
  have h6 : t.s.1 = 6 := by simpa using hob.symm
  obtain ⟨a1, a2, a3⟩ := ha.1.1 rfl
  obtain ⟨b1, b2, b3⟩ := hb.1.1 rfl
  obtain ⟨ni, nj, e, hst, hpd, hkn⟩ := obj_names hw hp h6 k (nmOf t.i c) (by rw [hnm rfl, List.getElem?_map, hc]; rfl)
  have e1 : ni = t.i + c.ni := by have := congrArg S121.f0 e; have h9 : ((t.i + c.ni : Nat) : Int) = (ni : Int) := this; omega
  have e2 : nj = t.i + c.nj := by have := congrArg S121.f1 e; have h9 : ((t.i + c.nj : Nat) : Int) = (nj : Int) := this; omega
  have hjs : nj ≤ s.size := hst.1.2.1
  have hij : ni + 2 ≤ nj := hst.1.1
  have er : u.extract c.ni c.nj = s.extract ni nj := by rw [Suf.extract hu hti Yy0, e1, e2]
  have ex : u.extract (c.ni + 1) (c.nj - 1) = s.extract (ni + 1) (nj - 1) := by rw [Suf.extract hu hti Yy0, e1, e2]; congr 1 <;> omega
  rw [ex] at a3 b3
  have ua := uq_is hs hst hpd a3
  have ub := uq_is hs hst hpd b3
  refine ⟨by rw [a1, b1], by rw [a2, b2], by rw [← ua, ← ub], fun _ => ⟨_, hkn, a1, ua.symm, ?_⟩⟩
  rw [a2, er]
  exact read_tok hs hst
theorem empty_of {s : ByteArray} {t : T} (hw : t.wf s) (h5 : 5 ≤ t.s.1) {l : List ItT} (hl : t.s.5.map kidOf = l.map (itOf t.i)) (h0 : l = []) : ∃ p, Blk s (t.i + 1) p ∧ t.j = p + 1 ∧ ((bt s (t.i : Int) = 91 ∧ bt s (p : Int) = 93) ∨ (bt s (t.i : Int) = 123 ∧ bt s (p : Int) = 125)) := by
 subst h0
 have hk : t.s.5 = [] := by simpa using hl
 cases t with
 | leaf kd i j =>
  exfalso
  have hk' : 5 ≤ kd := h5
  rcases hw.2.2 with ⟨a, _⟩ | ⟨a, _⟩ | ⟨a, _⟩ | ⟨a, _⟩ | ⟨a, _⟩ <;> omega
 | arr i j es =>
  obtain ⟨h1, h2, p, h3, h4⟩ := hw
  rcases h4 with ⟨a, b, c⟩ | h4
  ·
   exact ⟨p, h3, b, .inl ⟨h1, a⟩⟩
  ·
   cases es with
   | nil => exact absurd h4 (by simp [Es.wf])
   | cons t r => cases hk
 | obj i j ms =>
  obtain ⟨h1, h2, p, h3, h4⟩ := hw
  rcases h4 with ⟨a, b, c⟩ | h4
  ·
   exact ⟨p, h3, b, .inr ⟨h1, a⟩⟩
  ·
   cases ms with
   | nil => exact absurd h4 Yy42
   | cons ni nj t r => cases hk
open Go Go.RowKit Go.Proofs.YtieflhncpjjciaaGreatDoorW.PrintWords
theorem info34 : (Tryz.prog.info? 34).map (fun i => (i.zero, i.size, i.bytes)) = some (some (.agg #[.int .i64 0, .string ⟨#[]⟩, .string ⟨#[]⟩, .float .f64 0, .bool false]), 5, 56) := Yy1
def keyCells (p : RV × RV) : List Value := p.1.cells
structure OtP (e size : Nat) (f : RV × RV → List Value) (pins : List (Nat × Value)) (ob base : Nat) (L : List (RV × RV)) (w : World) : Prop where
 ex : ∃ v, w.cell? ⟨ob, 0, none⟩ = some v ∧ w.ownsRow base e size v L.length (L.flatMap f) ∧ v.ownBlock ≠ some ob ∧ ∀ p ∈ pins, v.ownBlock ≠ some p.1
 fr : w.frozen? ⟨ob, 0, none⟩ = false
 pin : ∀ p ∈ pins, w.cell? ⟨p.1, 0, none⟩ = some p.2 ∧ p.1 ≠ ob
def CP (pins : List (Nat × Value)) (ob : Nat) (g : Nat) : Prop := g = ob ∨ ∃ p ∈ pins, g = p.1
theorem OtP.off {e size : Nat} {f : RV × RV → List Value} {pins : List (Nat × Value)} {ob base : Nat} {L : List (RV × RV)} {w w' : World} (h : OtP e size f pins ob base L w) (k : OffC (CP pins ob) base w w') : OtP e size f pins ob base L w' := by
 obtain ⟨⟨v, hc, ho, hn, hp⟩, hf, hpin⟩ := h
 have hlt := blo w _ hc
 have hb := k.block ob hlt (Or.inl (Or.inl rfl))
 refine ⟨⟨v, by rw [World.cell?_of_block (w := w) hb]; exact hc, ⟨ho.1, ?_⟩, hn, hp⟩, ?_, fun p h1 => ⟨?_, (hpin p h1).2⟩⟩
 ·
  rcases ho.2 with h2 | ⟨g, cap, cur, hv, hg, hh, hr⟩
  ·
   exact .inl h2
  ·
   exact .inr ⟨g, cap, cur, hv, hg, Yy66, hr⟩
 ·
  rw [← hf]
  unfold World.frozen?
  simp only [hb]
 ·
  have hp1 := (hpin p h1).1
  rw [World.cell?_of_block (w := w) (k.block p.1 (blo w _ hp1) (Or.inl (Or.inr ⟨p, h1, rfl⟩)))]
  exact hp1
theorem Keep.toCP {pins : List (Nat × Value)} {ob base : Nat} {w w' : World} (h : Keep ob base w w') : KeepC (CP pins ob) base w w' := ⟨h.os, h.tape, h.output, h.size, fun g h1 h2 => h.block g h1 (fun e => h2 (Or.inl e))⟩
theorem otp_push {e size : Nat} {f : RV × RV → List Value} {pins : List (Nat × Value)} {w w7 : World} {ob base gg cap : Nat} {v v' : Value} {L : List (RV × RV)} {p : RV × RV} (e7 : w7.cell? ⟨ob, 0, none⟩ = some v') (f7 : w7.frozen? ⟨ob, 0, none⟩ = false) (hown : w7.ownsRow base e size (.slice (some ⟨gg, 0, none⟩) (L.length + 1) cap) (L.length + 1) (L.flatMap f ++ f p)) (hg : gg ≠ ob)
  (hpin : ∀ p ∈ pins, w.cell? ⟨p.1, 0, none⟩ = some p.2 ∧ p.1 ≠ ob) (hp7 : ∀ p ∈ pins, w7.cell? ⟨p.1, 0, none⟩ = some p.2 ∧ gg ≠ p.1) :
  OtP e size f pins ob base (L ++ [p]) (w7.setCell ⟨ob, 0, none⟩ (.slice (some ⟨gg, 0, none⟩) (L.length + 1) cap)) := by
 have hl : (L ++ [p]).length = L.length + 1 := Yy3
 have hf : (L ++ [p]).flatMap f = L.flatMap f ++ f p := Yy3
 refine ⟨⟨_, World.cell?_setCell_same' _ _ _ (by rw [e7]; rfl), ?_, ?_, ?_⟩, by simp [go_sem, f7], fun p hp => ⟨?_, (hpin p hp).2⟩⟩
 ·
  rw [hl, hf]
  refine ⟨hown.1, ?_⟩
  rcases hown.2 with ⟨h2, _⟩ | ⟨g, cap', cur, hv, hb, hh, hr⟩
  ·
   cases h2
  ·
   refine .inr ⟨g, cap', cur, hv, hb, ?_, hr⟩
   cases hv
   rw [Below.heap_setCell w7 _ _ _ hg]; exact hh
 ·
  intro h
  exact hg (Option.some.inj h)
 ·
  intro p hp h
  exact (hp7 p hp).2 (Option.some.inj h)
 ·
  exact setO (hp7 p hp).1 (fun h => (hpin p hp).2 h.symm)
theorem pin7 {w w7 : World} {row : Option Nat} (hg : w.grownBy w7 row) {v : Value} (hr : row = v.ownBlock) {g gg : Nat} {x : Value} (hc : w.cell? ⟨g, 0, none⟩ = some x) (hv : v.ownBlock ≠ some g) (hat : v.ownBlock = some gg ∨ g < gg) : w7.cell? ⟨g, 0, none⟩ = some x ∧ gg ≠ g := by
 refine ⟨farB hg (by rw [hr]; exact hv) hc, fun e => ?_⟩
 subst e
 rcases hat with h | h
 ·
  exact hv h
 ·
  omega
theorem clo47_any {w : World} {ob sb base : Nat} {stop : Int} {pins : List (Nat × Value)} {L : List (RV × RV)} (h : OtP 42 10 pairCells pins ob base L w) (hs : (sb, Value.int .i64 stop) ∈ pins) (hb : base ≤ w.heap.size) (hL : L.length ≤ 65536) (a b : RV) :
  Calls Tryz.prog 47 #[a.val, b.val, .pointer (some ⟨ob, 0, none⟩), .pointer (some ⟨sb, 0, none⟩)] w fun e w' => e = .returned (.bool (contS stop (L ++ [(a, b)]))) ∧ OtP 42 10 pairCells pins ob base (L ++ [(a, b)]) w' ∧ Keep ob base w w' := by
 obtain ⟨i0, hi, hz0, hz1, hz2⟩ := info_parts info42
 have HI := hdd hi; have HZ0 := hdd hz0; have HZ1 := hdd hz1; have HZ2 := hdd hz2
 clear hi hz0 hz1 hz2
 obtain ⟨⟨v, hc, hown, hne, hnp⟩, hfr, hpin⟩ := h
 have HC := hdd hc; have HO := hdd hown; have HN := hdd hne; have HF := hdd hfr; have HNP := hdd hnp; have HPIN := hdd hpin; have HSB := hdd hs
 have hlt := blo w _ hc
 have CT : Hid (contS stop (L ++ [(a, b)]) = (((L.length + 1 : Nat) : Int) != stop)) := hdd (by unfold contS; rw [List.length_append]; rfl)
 clear hc hown hne hfr hnp hpin hs
 obtain ⟨ak, araw, astr, aq, aix⟩ := a
 obtain ⟨bk, braw, bstr, bq, bix⟩ := b
 rw [cons_val, cons_val]
 dsimp only
 rw [CT.out]
 obtain ⟨B, hB⟩ : ∃ B, w.heap.size = B := ⟨_, rfl⟩
 go_enter Tryz.func47, Tryz.ntmps47
 go_upto_region 1 with (fail)
 obtain ⟨w1, hw1⟩ : ∃ w1, (w.alloc (Obj.cells #[.int .i64 ak, .string araw, .string astr, .float .f64 aq, .int .i64 aix, .slice none 0 0] 61)).alloc (Obj.cells #[.int .i64 bk, .string braw, .string bstr, .float .f64 bq, .int .i64 bix, .slice none 0 0] 61) = w1 := ⟨_, rfl⟩
 have hs1 : w1.heap.size = B + 2 := Yy7
 have b1 : Below B w w1 := Yy69
 have c0 : w1.drew.cell? ⟨B, 0, none⟩ = some (.int .i64 ak) := Yy7
 have c1 : w1.drew.cell? ⟨B, 1, none⟩ = some (.string araw) := Yy7
 have c2 : w1.drew.cell? ⟨B, 2, none⟩ = some (.string astr) := Yy7
 have c3 : w1.drew.cell? ⟨B, 3, none⟩ = some (.float .f64 aq) := Yy7
 have c4 : w1.drew.cell? ⟨B, 4, none⟩ = some (.int .i64 aix) := Yy7
 have c5 : w1.drew.cell? ⟨B, 5, none⟩ = some (.slice none 0 0) := Yy7
 have d0 : w1.drew.cell? ⟨B + 1, 0, none⟩ = some (.int .i64 bk) := Yy7
 have d1 : w1.drew.cell? ⟨B + 1, 1, none⟩ = some (.string braw) := Yy7
 have d2 : w1.drew.cell? ⟨B + 1, 2, none⟩ = some (.string bstr) := Yy7
 have d3 : w1.drew.cell? ⟨B + 1, 3, none⟩ = some (.float .f64 bq) := Yy7
 have d4 : w1.drew.cell? ⟨B + 1, 4, none⟩ = some (.int .i64 bix) := Yy7
 have d5 : w1.drew.cell? ⟨B + 1, 5, none⟩ = some (.slice none 0 0) := Yy7
 have hobB : ob < B := by rw [← hB]; exact hlt
 have hob0 : ob ≠ B := Yy0
 have hob1 : ob ≠ B + 1 := Yy0
 have e0 : w1.drew.cell? ⟨ob, 0, none⟩ = some v := by show w1.cell? _ = _; rw [b1.cell (by show ob < B; omega)]; exact HC.out
 have f0 : w1.drew.frozen? ⟨ob, 0, none⟩ = false := by show w1.frozen? _ = _; rw [b1.frozen (by show ob < B; omega)]; exact HF.out
 have sd : B + 2 ≤ w1.drew.heap.size := by show B + 2 ≤ w1.heap.size; omega
 have hbd : Below w.heap.size w w1.drew := by rw [hB]; exact b1.drew
 have O1 : Hid (w1.drew.ownsRow base 42 10 v L.length (L.flatMap pairCells)) := hdd (ownB hbd HO.out)
 have BB1 : Hid (Below w.heap.size w w1.drew) := hdd hbd
 have HG : Hid (∀ g, v.ownBlock = some g → g < B) := hdd (fun g hg => by rw [← hB]; exact own_lt HO.out hg)
 have P1 : Hid (Keep ob base w w1.drew) := hdd (Keep.of hbd hb)
 rw [hw1]
 clear hw1
 go_region_law (first
   | (go_simp; go_at_call 27; refine (gj_any _ _ _ _ _ _).mono ?_; rintro en wz ⟨rfl, hbz⟩; (first | (have e5 := cellB hbz e4; have f5 := frozB hbz e4 f4; have P5 := hdd (P4.out.below hbz hb); have O5 := hdd (ownB hbz O4.out); have BB5 := hdd (BB4.out.trans (hbz.mono BB4.out.size)); have ls : B + 2 ≤ wz.heap.size := Nat.le_trans ks hbz.size; have hal : ∀ o, Below wz.heap.size wz (wz.alloc o) := fun o => (Below.refl _ wz).alloc (nlr _) o; have e6 : ∀ o, (wz.alloc o).cell? ⟨ob, 0, none⟩ = some v := fun o => cellB (hal o) e5; have z0 : w.heap.size ≤ wz.heap.size := Yy0; have lc0 := cellB hbz kc0; have lc1 := cellB hbz kc1; have lc2 := cellB hbz kc2; have lc3 := cellB hbz kc3; have lc4 := cellB hbz kc4; have lc5 := cellB hbz kc5; have ld0 := cellB hbz kd0; have ld1 := cellB hbz kd1; have ld2 := cellB hbz kd2; have ld3 := cellB hbz kd3; have ld4 := cellB hbz kd4; have ld5 := cellB hbz kd5) | (have e4 := cellB hbz e0; have f4 := frozB hbz e0 f0; have P4 := hdd (P1.out.below hbz hb); have O4 := hdd (ownB hbz O1.out); have BB4 := hdd (BB1.out.trans (hbz.mono BB1.out.size)); have ks : B + 2 ≤ wz.heap.size := Nat.le_trans sd hbz.size; have kc0 := cellB hbz c0; have kc1 := cellB hbz c1; have kc2 := cellB hbz c2; have kc3 := cellB hbz c3; have kc4 := cellB hbz c4; have kc5 := cellB hbz c5; have kd0 := cellB hbz d0; have kd1 := cellB hbz d1; have kd2 := cellB hbz d2; have kd3 := cellB hbz d3; have kd4 := cellB hbz d4; have kd5 := cellB hbz d5)))
   | (refine step_append_lies _ Yy4 _ _ _ Yy4 base 42 i0 _ 10 112 Tryz.underlying38 HI.out HZ0.out HZ1.out HZ2.out rfl Yy0 v L.length (L.flatMap pairCells) Yy4 (ownB (hal _) O5.out) ⟨wz.heap.size, 0, none⟩ 1 1 [.int .i64 ak, .string araw, .string astr, .float .f64 aq, .bool (ak != 0 || (araw.size : Int) != 0), .int .i64 bk, .string braw, .string bstr, .float .f64 bq, .bool (bk != 0 || (braw.size : Int) != 0)] Yy4 Yy4 (World.news_of_block (cs := #[.int .i64 ak, .string araw, .string astr, .float .f64 aq, .bool (ak != 0 || (araw.size : Int) != 0), .int .i64 bk, .string braw, .string bstr, .float .f64 bq, .bool (bk != 0 || (braw.size : Int) != 0)]) (t := 42) (fr := (0, 0)) (heap_alloc_new wz _)) Yy25 Yy0 (by unfold maxLen; omega) Yy0 Yy21 (wz.heap.size + 1) Yy15 ?_; intro gg cap w7 hown7 hgrow7 hat7 hlt7; have P7 := hdd ((P5.out.below (hal _) hb).trans (Keep.grown hgrow7 Yy21 (fun g hg => own_ge HO.out hg))); have e7 := farB hgrow7 HN.out (cellB (hal _) e5); have f7 := farF hgrow7 HN.out (cellB (hal _) e5) (frozB (hal _) e5 f5); have ms : B + 2 ≤ w7.heap.size := Nat.le_trans (Nat.le_trans ls (hal _).size) hgrow7.size; have PN : Hid (∀ p ∈ pins, w7.cell? ⟨p.1, 0, none⟩ = some p.2 ∧ gg ≠ p.1) := hdd (fun p hp => pin7 hgrow7 rfl (cellB (hal _) (cellB BB5.out (HPIN.out p hp).1)) (HNP.out p hp) (by rcases hat7 with h7 | h7; exact .inl h7; exact .inr (by have h9 : p.1 < w.heap.size := blo w _ (HPIN.out p hp).1; omega))); have mc0 := farB hgrow7 (fun h => absurd (HG.out _ h) Yy19) (cellB (hal _) lc0); have mc1 := farB hgrow7 (fun h => absurd (HG.out _ h) Yy19) (cellB (hal _) lc1); have mc2 := farB hgrow7 (fun h => absurd (HG.out _ h) Yy19) (cellB (hal _) lc2); have mc3 := farB hgrow7 (fun h => absurd (HG.out _ h) Yy19) (cellB (hal _) lc3); have mc4 := farB hgrow7 (fun h => absurd (HG.out _ h) Yy19) (cellB (hal _) lc4); have mc5 := farB hgrow7 (fun h => absurd (HG.out _ h) Yy19) (cellB (hal _) lc5); have md0 := farB hgrow7 (fun h => absurd (HG.out _ h) Yy46) (cellB (hal _) ld0); have md1 := farB hgrow7 (fun h => absurd (HG.out _ h) Yy46) (cellB (hal _) ld1); have md2 := farB hgrow7 (fun h => absurd (HG.out _ h) Yy46) (cellB (hal _) ld2); have md3 := farB hgrow7 (fun h => absurd (HG.out _ h) Yy46) (cellB (hal _) ld3); have md4 := farB hgrow7 (fun h => absurd (HG.out _ h) Yy46) (cellB (hal _) ld4); have md5 := farB hgrow7 (fun h => absurd (HG.out _ h) Yy46) (cellB (hal _) ld5)))
 all_goals
  have hgg : gg ≠ ob := fun h => by
   subst h
   rcases hat7 with h7 | h7
   ·
    exact HN.out h7
   ·
    omega
  have PU := hdd (otp_push (p := ⟨⟨ak, araw, astr, aq, aix⟩, ⟨bk, braw, bstr, bq, bix⟩⟩) (v := v) e7 f7 hown7 hgg HPIN.out PN.out)
  have s9 : (w7.setCell ⟨ob, 0, none⟩ (.slice (some ⟨gg, 0, none⟩) (L.length + 1) cap)).cell? ⟨sb, 0, none⟩ = some (.int .i64 stop) := (PU.out.pin _ HSB.out).1
  have o9 : (w7.setCell ⟨ob, 0, none⟩ (.slice (some ⟨gg, 0, none⟩) (L.length + 1) cap)).cell? ⟨ob, 0, none⟩ = some (.slice (some ⟨gg, 0, none⟩) (L.length + 1) cap) := World.cell?_setCell_same' _ _ _ (by rw [e7]; rfl)
  have P9 := hdd (P7.out.trans (Keep.set (ob := ob) (base := base) w7 0 (.slice (some ⟨gg, 0, none⟩) (L.length + 1) cap)))
  obtain ⟨w9, hw9⟩ : ∃ w9, w7.setCell ⟨ob, 0, none⟩ (.slice (some ⟨gg, 0, none⟩) (L.length + 1) cap) = w9 := ⟨_, rfl⟩
  rw [hw9] at PU s9 o9 P9
  rw [hw9]
  clear hw9
  obtain ⟨n9, hn9⟩ : ∃ n9, L.length + 1 = n9 := ⟨_, rfl⟩
  rw [hn9] at o9 ⊢
  go_wp2_with fail
  go_ret
  exact ⟨by first | rfl | (rw [hn9]; rfl), PU.out, P9.out⟩
theorem clo45_any {w : World} {ob sb base : Nat} {stop : Int} {pins : List (Nat × Value)} {L : List (RV × RV)} (h : OtP 34 5 keyCells pins ob base L w) (hs : (sb, Value.int .i64 stop) ∈ pins) (hb : base ≤ w.heap.size) (hL : L.length ≤ 65536) (a b : RV) :
  Calls Tryz.prog 45 #[a.val, .pointer (some ⟨ob, 0, none⟩), .pointer (some ⟨sb, 0, none⟩)] w fun e w' => e = .returned (.bool (contS stop (L ++ [(a, b)]))) ∧ OtP 34 5 keyCells pins ob base (L ++ [(a, b)]) w' ∧ Keep ob base w w' := by
 obtain ⟨i0, hi, hz0, hz1, hz2⟩ := info_parts info34
 have HI := hdd hi; have HZ0 := hdd hz0; have HZ1 := hdd hz1; have HZ2 := hdd hz2
 clear hi hz0 hz1 hz2
 obtain ⟨⟨v, hc, hown, hne, hnp⟩, hfr, hpin⟩ := h
 have HC := hdd hc; have HO := hdd hown; have HN := hdd hne; have HF := hdd hfr; have HNP := hdd hnp; have HPIN := hdd hpin; have HSB := hdd hs
 have hlt := blo w _ hc
 have CT : Hid (contS stop (L ++ [(a, b)]) = (((L.length + 1 : Nat) : Int) != stop)) := hdd (by unfold contS; rw [List.length_append]; rfl)
 clear hc hown hne hfr hnp hpin hs
 obtain ⟨ak, araw, astr, aq, aix⟩ := a
 rw [cons_val]
 dsimp only
 rw [CT.out]
 obtain ⟨B, hB⟩ : ∃ B, w.heap.size = B := ⟨_, rfl⟩
 go_enter Tryz.func45, Tryz.ntmps45
 go_upto_region 1 with (fail)
 obtain ⟨w1, hw1⟩ : ∃ w1, w.alloc (Obj.cells #[.int .i64 ak, .string araw, .string astr, .float .f64 aq, .int .i64 aix, .slice none 0 0] 61) = w1 := ⟨_, rfl⟩
 have hs1 : w1.heap.size = B + 1 := Yy7
 have b1 : Below B w w1 := Yy75
 have c0 : w1.drew.cell? ⟨B, 0, none⟩ = some (.int .i64 ak) := Yy7
 have c1 : w1.drew.cell? ⟨B, 1, none⟩ = some (.string araw) := Yy7
 have c2 : w1.drew.cell? ⟨B, 2, none⟩ = some (.string astr) := Yy7
 have c3 : w1.drew.cell? ⟨B, 3, none⟩ = some (.float .f64 aq) := Yy7
 have c4 : w1.drew.cell? ⟨B, 4, none⟩ = some (.int .i64 aix) := Yy7
 have c5 : w1.drew.cell? ⟨B, 5, none⟩ = some (.slice none 0 0) := Yy7
 have hobB : ob < B := by rw [← hB]; exact hlt
 have hob0 : ob ≠ B := Yy0
 have hob1 : ob ≠ B + 1 := Yy0
 have e0 : w1.drew.cell? ⟨ob, 0, none⟩ = some v := by show w1.cell? _ = _; rw [b1.cell (by show ob < B; omega)]; exact HC.out
 have f0 : w1.drew.frozen? ⟨ob, 0, none⟩ = false := by show w1.frozen? _ = _; rw [b1.frozen (by show ob < B; omega)]; exact HF.out
 have sd : B + 1 ≤ w1.drew.heap.size := by show B + 1 ≤ w1.heap.size; omega
 have hbd : Below w.heap.size w w1.drew := by rw [hB]; exact b1.drew
 have O1 : Hid (w1.drew.ownsRow base 34 5 v L.length (L.flatMap keyCells)) := hdd (ownB hbd HO.out)
 have BB1 : Hid (Below w.heap.size w w1.drew) := hdd hbd
 have HG : Hid (∀ g, v.ownBlock = some g → g < B) := hdd (fun g hg => by rw [← hB]; exact own_lt HO.out hg)
 have P1 : Hid (Keep ob base w w1.drew) := hdd (Keep.of hbd hb)
 rw [hw1]
 clear hw1
 go_region_law (first
   | (go_simp; go_at_call 27; refine (gj_any _ _ _ _ _ _).mono ?_; rintro en wz ⟨rfl, hbz⟩; have e5 := cellB hbz e0; have f5 := frozB hbz e0 f0; have P5 := hdd (P1.out.below hbz hb); have O5 := hdd (ownB hbz O1.out); have BB5 := hdd (BB1.out.trans (hbz.mono BB1.out.size)); have ks : B + 1 ≤ wz.heap.size := Nat.le_trans sd hbz.size; have hal : ∀ o, Below wz.heap.size wz (wz.alloc o) := fun o => (Below.refl _ wz).alloc (nlr _) o; have e6 : ∀ o, (wz.alloc o).cell? ⟨ob, 0, none⟩ = some v := fun o => cellB (hal o) e5; have z0 : w.heap.size ≤ wz.heap.size := Yy0; have kc0 := cellB hbz c0; have kc1 := cellB hbz c1; have kc2 := cellB hbz c2; have kc3 := cellB hbz c3; have kc4 := cellB hbz c4; have kc5 := cellB hbz c5)
   | (refine step_append_lies _ Yy4 _ _ _ Yy4 base 34 i0 _ 5 56 Tryz.underlying29 HI.out HZ0.out HZ1.out HZ2.out rfl Yy0 v L.length (L.flatMap keyCells) Yy4 (ownB (hal _) O5.out) ⟨wz.heap.size, 0, none⟩ 1 1 [.int .i64 ak, .string araw, .string astr, .float .f64 aq, .bool (ak != 0 || (araw.size : Int) != 0)] Yy4 Yy4 (World.news_of_block (cs := #[.int .i64 ak, .string araw, .string astr, .float .f64 aq, .bool (ak != 0 || (araw.size : Int) != 0)]) (t := 34) (fr := (0, 0)) (heap_alloc_new wz _)) Yy25 Yy0 (by unfold maxLen; omega) Yy0 Yy21 (wz.heap.size + 1) Yy15 ?_; intro gg cap w7 hown7 hgrow7 hat7 hlt7; have P7 := hdd ((P5.out.below (hal _) hb).trans (Keep.grown hgrow7 Yy21 (fun g hg => own_ge HO.out hg))); have e7 := farB hgrow7 HN.out (cellB (hal _) e5); have f7 := farF hgrow7 HN.out (cellB (hal _) e5) (frozB (hal _) e5 f5); have ms : B + 1 ≤ w7.heap.size := Nat.le_trans (Nat.le_trans ks (hal _).size) hgrow7.size; have PN : Hid (∀ p ∈ pins, w7.cell? ⟨p.1, 0, none⟩ = some p.2 ∧ gg ≠ p.1) := hdd (fun p hp => pin7 hgrow7 rfl (cellB (hal _) (cellB BB5.out (HPIN.out p hp).1)) (HNP.out p hp) (by rcases hat7 with h7 | h7; exact .inl h7; exact .inr (by have h9 : p.1 < w.heap.size := blo w _ (HPIN.out p hp).1; omega))); have mc0 := farB hgrow7 (fun h => absurd (HG.out _ h) Yy19) (cellB (hal _) kc0); have mc1 := farB hgrow7 (fun h => absurd (HG.out _ h) Yy19) (cellB (hal _) kc1); have mc2 := farB hgrow7 (fun h => absurd (HG.out _ h) Yy19) (cellB (hal _) kc2); have mc3 := farB hgrow7 (fun h => absurd (HG.out _ h) Yy19) (cellB (hal _) kc3); have mc4 := farB hgrow7 (fun h => absurd (HG.out _ h) Yy19) (cellB (hal _) kc4); have mc5 := farB hgrow7 (fun h => absurd (HG.out _ h) Yy19) (cellB (hal _) kc5)))
 all_goals
  have hgg : gg ≠ ob := fun h => by
   subst h
   rcases hat7 with h7 | h7
   ·
    exact HN.out h7
   ·
    omega
  have PU := hdd (otp_push (p := ⟨⟨ak, araw, astr, aq, aix⟩, b⟩) (v := v) e7 f7 hown7 hgg HPIN.out PN.out)
  have s9 : (w7.setCell ⟨ob, 0, none⟩ (.slice (some ⟨gg, 0, none⟩) (L.length + 1) cap)).cell? ⟨sb, 0, none⟩ = some (.int .i64 stop) := (PU.out.pin _ HSB.out).1
  have o9 : (w7.setCell ⟨ob, 0, none⟩ (.slice (some ⟨gg, 0, none⟩) (L.length + 1) cap)).cell? ⟨ob, 0, none⟩ = some (.slice (some ⟨gg, 0, none⟩) (L.length + 1) cap) := World.cell?_setCell_same' _ _ _ (by rw [e7]; rfl)
  have P9 := hdd (P7.out.trans (Keep.set (ob := ob) (base := base) w7 0 (.slice (some ⟨gg, 0, none⟩) (L.length + 1) cap)))
  obtain ⟨w9, hw9⟩ : ∃ w9, w7.setCell ⟨ob, 0, none⟩ (.slice (some ⟨gg, 0, none⟩) (L.length + 1) cap) = w9 := ⟨_, rfl⟩
  rw [hw9] at PU s9 o9 P9
  rw [hw9]
  clear hw9
  obtain ⟨n9, hn9⟩ : ∃ n9, L.length + 1 = n9 := ⟨_, rfl⟩
  rw [hn9] at o9 ⊢
  go_wp2_with fail
  go_ret
  exact ⟨by first | rfl | (rw [hn9]; rfl), PU.out, P9.out⟩
end Go.Proofs.YtieflhncpjjciaaGreatDoor.Dc
