/- Walks and plain laws on the way to FnFjFloatNear. No condition but what each lemma states. -/
import Derived.Test.YtjemobfhlfejlaaGreatDoorFbK
set_option linter.unusedVariables false
set_option linter.unusedSimpArgs false
namespace Go.Proofs.YtjemobfhlfejlaaGreatDoor.Dc
open Go Go.RowKit
open Ie (fmul fdiv tab post negt ftab powUp powDn)
structure TF (w : World) (B : Nat) : Prop where
  ts : TS w B
  ff : ∀ i, i < 17 → w.cell? ⟨1, i, none⟩ = some (.float .f64 (ftab.getD i 0))
  po : ∀ i, i < 10 → w.cell? ⟨2, i, none⟩ = some (.float .f64 (post.getD i 0))
  ta : ∀ i, i < 32 → w.cell? ⟨3, i, none⟩ = some (.float .f64 (tab.getD i 0))
  ne : ∀ i, i < 11 → w.cell? ⟨4, i, none⟩ = some (.float .f64 (negt.getD i 0))
theorem TF.below {w w' : World} {B : Nat} (h : TF w B) (hb : Below B w w') : TF w' B := by
  have h10 := h.ts.tb.lc.ten
  exact ⟨h.ts.below hb, fun i hi => (hb.cell (p := ⟨1, i, none⟩) (by show 1 < B; omega)).trans (h.ff i hi), fun i hi => (hb.cell (p := ⟨2, i, none⟩) (by show 2 < B; omega)).trans (h.po i hi), fun i hi => (hb.cell (p := ⟨3, i, none⟩) (by show 3 < B; omega)).trans (h.ta i hi), fun i hi => (hb.cell (p := ⟨4, i, none⟩) (by show 4 < B; omega)).trans (h.ne i hi)⟩
def powZ (n : Int) : Nat := if 0 ≤ n then powUp n.toNat else powDn (-n).toNat
set_option maxRecDepth 100000 in
theorem pow10_any {w : World} {B : Nat} (h : TF w B) (n : Int) (n0 : -300 ≤ n) (n1 : n ≤ 300) :
    Calls Tryz.prog 45 #[.int .i64 n] w fun e w' => e = .returned (.float .f64 (powZ n)) ∧ ∃ q, w' = w.drewN q := by
  by_cases c : 0 ≤ n
  · obtain ⟨k, rfl⟩ : ∃ k : Nat, n = (k : Int) := ⟨n.toNat, by omega⟩
    have e : powZ (k : Int) = powUp k := by unfold powZ; rw [if_pos c, Int.toNat_natCast]
    rw [e]
    have p1 := h.po (k / 32) (by omega)
    have p2 := h.ta (k % 32) (by omega)
    have hm := mul_run (Ie.powUp_is k (by omega)).1
    obtain ⟨A, hA⟩ : ∃ A, A = post.getD (k / 32) 0 := ⟨_, rfl⟩
    obtain ⟨C, hC⟩ : ∃ C, C = tab.getD (k % 32) 0 := ⟨_, rfl⟩
    obtain ⟨R, hR⟩ : ∃ R, R = powUp k := ⟨_, rfl⟩
    rw [← hA] at p1 hm
    rw [← hC] at p2 hm
    rw [← hR] at hm ⊢
    clear hA hC hR e
    have H := Lib.hid h; clear h
    have k0 : 0 ≤ (k : Int) := by omega
    have k1 : (k : Int) ≤ 300 := by omega
    have t1 : decide (0 ≤ (k : Int)) = true := decide_eq_true k0
    have t2 : decide ((k : Int) ≤ 308) = true := decide_eq_true (by omega)
    go_enter Tryz.func45, Tryz.ntmps45
    go_wp2_with fail
    go_quiet (fail)
    go_wp2_with fail
    go_ret
    exact ⟨rfl, _, rfl⟩
  · obtain ⟨k, hk⟩ : ∃ k : Nat, -n = (k : Int) := ⟨(-n).toNat, by omega⟩
    have e : powZ n = powDn k := by unfold powZ; rw [if_neg c, hk, Int.toNat_natCast]
    rw [e]
    have p1 := h.ne (k / 32) (by omega)
    have p2 := h.ta (k % 32) (by omega)
    have hm := div_run (Ie.powDn_is k (by omega)).1
    obtain ⟨A, hA⟩ : ∃ A, A = negt.getD (k / 32) 0 := ⟨_, rfl⟩
    obtain ⟨C, hC⟩ : ∃ C, C = tab.getD (k % 32) 0 := ⟨_, rfl⟩
    obtain ⟨R, hR⟩ : ∃ R, R = powDn k := ⟨_, rfl⟩
    rw [← hA] at p1 hm
    rw [← hC] at p2 hm
    rw [← hR] at hm ⊢
    clear hA hC hR e
    have H := Lib.hid h; clear h
    have k0 : 0 ≤ (k : Int) := by omega
    have k1 : (k : Int) ≤ 300 := by omega
    have t1 : decide (0 ≤ n) = false := decide_eq_false c
    have t2 : decide (-323 ≤ n) = true := decide_eq_true (by omega)
    have t3 : decide (n < 0) = true := decide_eq_true (by omega)
    clear c
    go_enter Tryz.func45, Tryz.ntmps45
    go_wp2_with fail
    go_quiet (fail)
    go_wp2_with fail
    go_ret
    exact ⟨rfl, _, rfl⟩
end Go.Proofs.YtjemobfhlfejlaaGreatDoor.Dc
