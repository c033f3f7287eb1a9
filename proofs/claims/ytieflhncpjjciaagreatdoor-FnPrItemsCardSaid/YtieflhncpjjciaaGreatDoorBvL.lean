/- FnPrItems: for every input the law returns true and its argument reads as it read. Its condition: the listed variables lie as the program's text lays them (the card ties them). -/
import Derived.Test.YtieflhncpjjciaaGreatDoorBvK
import Derived.Deep.RegionHeld3
import Derived.Test.YtieflhncpjjciaaGreatDoorRows
import Derived.LaidMore
import Derived.Handed
import Derived.KernelRfl
import Derived.Test.YtieflhncpjjciaaGreatDoorBvG
import Derived.BigQuiet
import Derived.Test.YtieflhncpjjciaaGreatDoorTie
import Derived.Test.YtieflhncpjjciaaGreatDoorCards
import Derived.Test.YtieflhncpjjciaaGreatDoorBvH
import Derived.WalkKit
import Derived.ProofKit
import Derived.OpenShut
import Derived.ShutString
import Derived.ChangeOld
import Derived.Below
import Derived.SizedLaws
set_option linter.unusedVariables false
set_option linter.unusedSimpArgs false
namespace Go.Proofs.YtieflhncpjjciaaGreatDoor.Dc
open Go Go.RowKit Go.Proofs.YtieflhncpjjciaaGreatDoorW.PrintWords Go.Proofs.YtieflhncpjjciaaGreatDoor.PFnGjSquashItems
set_option maxHeartbeats 8000000
set_option maxRecDepth 100000
attribute [local go_sem] run_store_flt
theorem parse_json {w : World} (s : ByteArray) (hs : s.size ≤ 65536) (v : Nat) (hv : v < s.size) (hsk : ∀ q, q < v → bt s (q : Int) ≤ 32) (hb : bt s (v : Int) = 91 ∨ bt s (v : Int) = 123) :
  Calls Tryz.prog 33 #[.string s] w fun e w' => e = .returned (RV.val ⟨5, s.extract v s.size, ⟨#[]⟩, 0, (v : Int)⟩) ∧ Below w.heap.size w w' := by
 obtain ⟨B, hB⟩ : ∃ B, w.heap.size = B := ⟨_, rfl⟩
 have ss : (s.size : Int) ≤ 65536 := Y0
 have HSK := hdd hsk
 clear hsk
 go_enter Tryz.func33, Tryz.ntmps33
 go_upto_block 0 with (fail)
 obtain ⟨w1, hw1⟩ : ∃ w1, (w.alloc (Obj.cells #[.int .i64 0, .string ⟨#[]⟩, .string ⟨#[]⟩, .float .f64 0, .int .i64 0, .slice none 0 0] 61)).alloc (Obj.cells #[.int .i64 0, .string ⟨#[]⟩, .string ⟨#[]⟩, .float .f64 0, .int .i64 0, .slice none 0 0] 61) = w1 := ⟨_, rfl⟩
 have hs1 : w1.heap.size = B + 2 := Y2
 have b1 : Below B w w1 := Y31
 have hn0 : (w.alloc (Obj.cells #[.int .i64 0, .string ⟨#[]⟩, .string ⟨#[]⟩, .float .f64 0, .int .i64 0, .slice none 0 0] 61)).heap.size = w.heap.size + 1 := Y12
 have R1 : Hid (w1.rangeAt (B + 1) 0 [.int .i64 0, .string ⟨#[]⟩, .string ⟨#[]⟩, .float .f64 0, .int .i64 0, .slice none 0 0]) := hdd (by rw [← hw1, ← hB]; have hn := rng_new (w.alloc (Obj.cells #[.int .i64 0, .string ⟨#[]⟩, .string ⟨#[]⟩, .float .f64 0, .int .i64 0, .slice none 0 0] 61)) [.int .i64 0, .string ⟨#[]⟩, .string ⟨#[]⟩, .float .f64 0, .int .i64 0, .slice none 0 0] 61; rwa [hn0] at hn)
 have T2 : Hid (w1.there (B + 1) 0 6) := hdd (by rw [← hw1, ← hB]; have hn := thr_new (w.alloc (Obj.cells #[.int .i64 0, .string ⟨#[]⟩, .string ⟨#[]⟩, .float .f64 0, .int .i64 0, .slice none 0 0] 61)) [.int .i64 0, .string ⟨#[]⟩, .string ⟨#[]⟩, .float .f64 0, .int .i64 0, .slice none 0 0] 61; rwa [hn0] at hn)
 have T1 : Hid (w1.there B 0 6) := hdd Y22
 have R0 : Hid (w1.rangeAt B 0 [.int .i64 0, .string ⟨#[]⟩, .string ⟨#[]⟩, .float .f64 0, .int .i64 0, .slice none 0 0]) := hdd (by rw [← hw1, ← hB]; exact rng_al (rng_new w [.int .i64 0, .string ⟨#[]⟩, .string ⟨#[]⟩, .float .f64 0, .int .i64 0, .slice none 0 0] 61) _)
 rw [hw1]
 clear hw1 hn0
 have HB1 := hdd b1; have HS1 := hdd hs1
 clear b1 hs1
 go_wp2_with fail
 go_loopg [4] v (fun m v4 wr => ∃ q : Nat, v4 = .int .i64 (q : Int) ∧ Hid (q + m = v) ∧ Hid (wr = w1))
 case atStart => exact ⟨0, rfl, hdd Y0, hdd rfl⟩
 case round =>
  obtain ⟨q, rfl, hq, hwr⟩ := hrel
  have hqv : q ≤ v := Y11
  have t0 : decide (q < s.size) = true := decide_eq_true Y0
  have qi : (q : Int) ≤ 65536 := Y0
  obtain rfl := hwr.out
  rcases Nat.eq_or_lt_of_le hqv with h | h
  ·
   subst h
   rw [PFnGjSquashItems.bt_at hv] at hb
   rcases hb with hb | hb
   ·
    have q1 : ((s[q].toNat : Int) == 123) = false := Y7
    have q2 : ((s[q].toNat : Int) == 91) = true := Y7
    clear hb
    have k0 : wr.cell? ⟨B + 1, 0, none⟩ = some (.int .i64 0) := R1.out 0 _ rfl
    have kf0 : wr.frozen? ⟨B + 1, 0, none⟩ = false := (T2.out 0 Y0).2
    have k1 : wr.cell? ⟨B + 1, 1, none⟩ = some (.string ⟨#[]⟩) := R1.out 1 _ rfl
    have kf1 : wr.frozen? ⟨B + 1, 1, none⟩ = false := (T2.out 1 Y0).2
    go_upto_region 43 with (fail)
    have R5 : Hid (World.rangeAt ((wr.setCell ⟨B + 1, 0, none⟩ (.int .i64 5)).setCell ⟨B + 1, 1, none⟩ (.string (s.extract q s.size))) (B + 1) 0 [.int .i64 5, .string (s.extract q s.size), .string ⟨#[]⟩, .float .f64 0, .int .i64 0, .slice none 0 0]) := hdd (rng_set (rng_set R1.out 0 (.int .i64 5) Y4) 1 (.string (s.extract q s.size)) Y4)
    have T5 : Hid (World.there ((wr.setCell ⟨B + 1, 0, none⟩ (.int .i64 5)).setCell ⟨B + 1, 1, none⟩ (.string (s.extract q s.size))) B 0 6) := hdd (thr_set (thr_set T1.out _ _) _ _)
    have U5 : Hid (World.there ((wr.setCell ⟨B + 1, 0, none⟩ (.int .i64 5)).setCell ⟨B + 1, 1, none⟩ (.string (s.extract q s.size))) (B + 1) 0 6) := hdd (thr_set (thr_set T2.out _ _) _ _)
    have Q5 : Hid (World.rangeAt ((wr.setCell ⟨B + 1, 0, none⟩ (.int .i64 5)).setCell ⟨B + 1, 1, none⟩ (.string (s.extract q s.size))) B 0 [.int .i64 0, .string ⟨#[]⟩, .string ⟨#[]⟩, .float .f64 0, .int .i64 0, .slice none 0 0]) := hdd (rng_oth (rng_oth R0.out (B + 1) 0 _ Y0) (B + 1) 1 _ Y0)
    have B5 : Hid (Below B w ((wr.setCell ⟨B + 1, 0, none⟩ (.int .i64 5)).setCell ⟨B + 1, 1, none⟩ (.string (s.extract q s.size)))) := hdd (Below.setCell (p := ⟨B + 1, 1, none⟩) (Below.setCell (p := ⟨B + 1, 0, none⟩) HB1.out (Nat.le_succ B) _) (Nat.le_succ B) _)
    obtain ⟨w5, hw5⟩ : ∃ w5, (wr.setCell ⟨B + 1, 0, none⟩ (.int .i64 5)).setCell ⟨B + 1, 1, none⟩ (.string (s.extract q s.size)) = w5 := ⟨_, rfl⟩
    rw [hw5] at R5 T5 U5 B5 Q5
    rw [hw5]
    clear hw5 k0 kf0 k1 kf1
    have e0 : w5.cell? ⟨B + 1, 0, none⟩ = some (.int .i64 5) := R5.out 0 _ rfl
    have e1 : w5.cell? ⟨B + 1, 1, none⟩ = some (.string (s.extract q s.size)) := R5.out 1 _ rfl
    have e2 : w5.cell? ⟨B + 1, 2, none⟩ = some (.string ⟨#[]⟩) := R5.out 2 _ rfl
    have e3 : w5.cell? ⟨B + 1, 3, none⟩ = some (.float .f64 0) := R5.out 3 _ rfl
    have e4 : w5.cell? ⟨B + 1, 4, none⟩ = some (.int .i64 0) := R5.out 4 _ rfl
    have e5 : w5.cell? ⟨B + 1, 5, none⟩ = some (.slice none 0 0) := R5.out 5 _ rfl
    go_upto_region 45 with (go_at_call 51; refine (exists_any _ _ _ _ _ _).mono ?_; rintro en w6 ⟨rfl, hb6⟩; have R6 := hdd (rng_b R5.out hb6); have Q6 := hdd (rng_b Q5.out hb6); have T6 := hdd (thr_b T5.out hb6); have U6 := hdd (thr_b U5.out hb6); have B6 : Hid (Below B w w6) := hdd (B5.out.trans (hb6.mono Y26)); clear hb6; have g0 : w6.cell? ⟨B + 1, 0, none⟩ = some (.int .i64 5) := R6.out 0 _ rfl; have h0 : w6.cell? ⟨B, 0, none⟩ = some (.int .i64 0) := Q6.out 0 _ rfl; have hf0 : w6.frozen? ⟨B, 0, none⟩ = false := (T6.out 0 Y0).2; have g1 : w6.cell? ⟨B + 1, 1, none⟩ = some (.string (s.extract q s.size)) := R6.out 1 _ rfl; have h1 : w6.cell? ⟨B, 1, none⟩ = some (.string ⟨#[]⟩) := Q6.out 1 _ rfl; have hf1 : w6.frozen? ⟨B, 1, none⟩ = false := (T6.out 1 Y0).2; have g2 : w6.cell? ⟨B + 1, 2, none⟩ = some (.string ⟨#[]⟩) := R6.out 2 _ rfl; have h2 : w6.cell? ⟨B, 2, none⟩ = some (.string ⟨#[]⟩) := Q6.out 2 _ rfl; have hf2 : w6.frozen? ⟨B, 2, none⟩ = false := (T6.out 2 Y0).2; have g3 : w6.cell? ⟨B + 1, 3, none⟩ = some (.float .f64 0) := R6.out 3 _ rfl; have h3 : w6.cell? ⟨B, 3, none⟩ = some (.float .f64 0) := Q6.out 3 _ rfl; have hf3 : w6.frozen? ⟨B, 3, none⟩ = false := (T6.out 3 Y0).2; have g4 : w6.cell? ⟨B + 1, 4, none⟩ = some (.int .i64 0) := R6.out 4 _ rfl; have h4 : w6.cell? ⟨B, 4, none⟩ = some (.int .i64 0) := Q6.out 4 _ rfl; have hf4 : w6.frozen? ⟨B, 4, none⟩ = false := (T6.out 4 Y0).2; have g5 : w6.cell? ⟨B + 1, 5, none⟩ = some (.slice none 0 0) := R6.out 5 _ rfl; have h5 : w6.cell? ⟨B, 5, none⟩ = some (.slice none 0 0) := Q6.out 5 _ rfl; have hf5 : w6.frozen? ⟨B, 5, none⟩ = false := (T6.out 5 Y0).2; have gf4 : w6.frozen? ⟨B + 1, 4, none⟩ = false := (U6.out 4 Y0).2)
    clear e0 e1 e2 e3 e4 e5 g0 h0 hf0 g1 h1 hf1 g2 h2 hf2 g3 h3 hf3 g4 h4 hf4 g5 h5 hf5 gf4
    have R7 : Hid (World.rangeAt (w6.setCell ⟨B + 1, 4, none⟩ (.int .i64 (q : Int))) (B + 1) 0 [.int .i64 5, .string (s.extract q s.size), .string ⟨#[]⟩, .float .f64 0, .int .i64 (q : Int), .slice none 0 0]) := hdd (rng_set R6.out 4 (.int .i64 (q : Int)) Y4)
    have Q7 : Hid (World.rangeAt (w6.setCell ⟨B + 1, 4, none⟩ (.int .i64 (q : Int))) B 0 [.int .i64 0, .string ⟨#[]⟩, .string ⟨#[]⟩, .float .f64 0, .int .i64 0, .slice none 0 0]) := hdd (rng_oth Q6.out (B + 1) 4 _ Y0)
    have T7 : Hid (World.there (w6.setCell ⟨B + 1, 4, none⟩ (.int .i64 (q : Int))) B 0 6) := hdd (thr_set T6.out _ _)
    have B7 : Hid (Below B w (w6.setCell ⟨B + 1, 4, none⟩ (.int .i64 (q : Int)))) := hdd (Below.setCell (p := ⟨B + 1, 4, none⟩) B6.out (Nat.le_succ B) _)
    obtain ⟨w7, hw7⟩ : ∃ w7, w6.setCell ⟨B + 1, 4, none⟩ (.int .i64 (q : Int)) = w7 := ⟨_, rfl⟩
    rw [hw7] at R7 T7 B7 Q7
    rw [hw7]
    clear hw7
    have g0 : w7.cell? ⟨B + 1, 0, none⟩ = some (.int .i64 5) := R7.out 0 _ rfl
    have h0 : w7.cell? ⟨B, 0, none⟩ = some (.int .i64 0) := Q7.out 0 _ rfl
    have hf0 : w7.frozen? ⟨B, 0, none⟩ = false := (T7.out 0 Y0).2
    have g1 : w7.cell? ⟨B + 1, 1, none⟩ = some (.string (s.extract q s.size)) := R7.out 1 _ rfl
    have h1 : w7.cell? ⟨B, 1, none⟩ = some (.string ⟨#[]⟩) := Q7.out 1 _ rfl
    have hf1 : w7.frozen? ⟨B, 1, none⟩ = false := (T7.out 1 Y0).2
    have g2 : w7.cell? ⟨B + 1, 2, none⟩ = some (.string ⟨#[]⟩) := R7.out 2 _ rfl
    have h2 : w7.cell? ⟨B, 2, none⟩ = some (.string ⟨#[]⟩) := Q7.out 2 _ rfl
    have hf2 : w7.frozen? ⟨B, 2, none⟩ = false := (T7.out 2 Y0).2
    have g3 : w7.cell? ⟨B + 1, 3, none⟩ = some (.float .f64 0) := R7.out 3 _ rfl
    have h3 : w7.cell? ⟨B, 3, none⟩ = some (.float .f64 0) := Q7.out 3 _ rfl
    have hf3 : w7.frozen? ⟨B, 3, none⟩ = false := (T7.out 3 Y0).2
    have g4 : w7.cell? ⟨B + 1, 4, none⟩ = some (.int .i64 (q : Int)) := R7.out 4 _ rfl
    have h4 : w7.cell? ⟨B, 4, none⟩ = some (.int .i64 0) := Q7.out 4 _ rfl
    have hf4 : w7.frozen? ⟨B, 4, none⟩ = false := (T7.out 4 Y0).2
    have g5 : w7.cell? ⟨B + 1, 5, none⟩ = some (.slice none 0 0) := R7.out 5 _ rfl
    have h5 : w7.cell? ⟨B, 5, none⟩ = some (.slice none 0 0) := Q7.out 5 _ rfl
    have hf5 : w7.frozen? ⟨B, 5, none⟩ = false := (T7.out 5 Y0).2
    have RG : Hid (World.rangeAt ((((((w7.setCell ⟨B, 0, none⟩ (.int .i64 5)).setCell ⟨B, 1, none⟩ (.string (s.extract q s.size))).setCell ⟨B, 2, none⟩ (.string ⟨#[]⟩)).setCell ⟨B, 3, none⟩ (.float .f64 0)).setCell ⟨B, 4, none⟩ (.int .i64 (q : Int))).setCell ⟨B, 5, none⟩ (.slice none 0 0)) B 0 [.int .i64 5, .string (s.extract q s.size), .string ⟨#[]⟩, .float .f64 0, .int .i64 (q : Int), .slice none 0 0]) := hdd (rng_set (rng_set (rng_set (rng_set (rng_set (rng_set Q7.out 0 (.int .i64 5) Y4) 1 (.string (s.extract q s.size)) Y4) 2 (.string ⟨#[]⟩) Y4) 3 (.float .f64 0) Y4) 4 (.int .i64 (q : Int)) Y4) 5 (.slice none 0 0) Y4)
    have HBE : Hid (Below B w ((((((w7.setCell ⟨B, 0, none⟩ (.int .i64 5)).setCell ⟨B, 1, none⟩ (.string (s.extract q s.size))).setCell ⟨B, 2, none⟩ (.string ⟨#[]⟩)).setCell ⟨B, 3, none⟩ (.float .f64 0)).setCell ⟨B, 4, none⟩ (.int .i64 (q : Int))).setCell ⟨B, 5, none⟩ (.slice none 0 0))) := hdd (Below.setCell (p := ⟨B, 5, none⟩) (Below.setCell (p := ⟨B, 4, none⟩) (Below.setCell (p := ⟨B, 3, none⟩) (Below.setCell (p := ⟨B, 2, none⟩) (Below.setCell (p := ⟨B, 1, none⟩) (Below.setCell (p := ⟨B, 0, none⟩) B7.out (Nat.le_refl B) (.int .i64 5)) (Nat.le_refl B) (.string (s.extract q s.size))) (Nat.le_refl B) (.string ⟨#[]⟩)) (Nat.le_refl B) (.float .f64 0)) (Nat.le_refl B) (.int .i64 (q : Int))) (Nat.le_refl B) (.slice none 0 0))
    go_wp2_with fail
    refine bodyPost_ret (results_cell1 rfl _ _ B _ _ rfl RG.out Tryz.underlying61 rfl Y1) rfl ?_
    exact ⟨rfl, Y13⟩
   ·
    have q1 : ((s[q].toNat : Int) == 123) = true := Y7
    clear hb
    have k0 : wr.cell? ⟨B + 1, 0, none⟩ = some (.int .i64 0) := R1.out 0 _ rfl
    have kf0 : wr.frozen? ⟨B + 1, 0, none⟩ = false := (T2.out 0 Y0).2
    have k1 : wr.cell? ⟨B + 1, 1, none⟩ = some (.string ⟨#[]⟩) := R1.out 1 _ rfl
    have kf1 : wr.frozen? ⟨B + 1, 1, none⟩ = false := (T2.out 1 Y0).2
    go_upto_region 43 with (fail)
    have R5 : Hid (World.rangeAt ((wr.setCell ⟨B + 1, 0, none⟩ (.int .i64 5)).setCell ⟨B + 1, 1, none⟩ (.string (s.extract q s.size))) (B + 1) 0 [.int .i64 5, .string (s.extract q s.size), .string ⟨#[]⟩, .float .f64 0, .int .i64 0, .slice none 0 0]) := hdd (rng_set (rng_set R1.out 0 (.int .i64 5) Y4) 1 (.string (s.extract q s.size)) Y4)
    have T5 : Hid (World.there ((wr.setCell ⟨B + 1, 0, none⟩ (.int .i64 5)).setCell ⟨B + 1, 1, none⟩ (.string (s.extract q s.size))) B 0 6) := hdd (thr_set (thr_set T1.out _ _) _ _)
    have U5 : Hid (World.there ((wr.setCell ⟨B + 1, 0, none⟩ (.int .i64 5)).setCell ⟨B + 1, 1, none⟩ (.string (s.extract q s.size))) (B + 1) 0 6) := hdd (thr_set (thr_set T2.out _ _) _ _)
    have Q5 : Hid (World.rangeAt ((wr.setCell ⟨B + 1, 0, none⟩ (.int .i64 5)).setCell ⟨B + 1, 1, none⟩ (.string (s.extract q s.size))) B 0 [.int .i64 0, .string ⟨#[]⟩, .string ⟨#[]⟩, .float .f64 0, .int .i64 0, .slice none 0 0]) := hdd (rng_oth (rng_oth R0.out (B + 1) 0 _ Y0) (B + 1) 1 _ Y0)
    have B5 : Hid (Below B w ((wr.setCell ⟨B + 1, 0, none⟩ (.int .i64 5)).setCell ⟨B + 1, 1, none⟩ (.string (s.extract q s.size)))) := hdd (Below.setCell (p := ⟨B + 1, 1, none⟩) (Below.setCell (p := ⟨B + 1, 0, none⟩) HB1.out (Nat.le_succ B) _) (Nat.le_succ B) _)
    obtain ⟨w5, hw5⟩ : ∃ w5, (wr.setCell ⟨B + 1, 0, none⟩ (.int .i64 5)).setCell ⟨B + 1, 1, none⟩ (.string (s.extract q s.size)) = w5 := ⟨_, rfl⟩
    rw [hw5] at R5 T5 U5 B5 Q5
    rw [hw5]
    clear hw5 k0 kf0 k1 kf1
    have e0 : w5.cell? ⟨B + 1, 0, none⟩ = some (.int .i64 5) := R5.out 0 _ rfl
    have e1 : w5.cell? ⟨B + 1, 1, none⟩ = some (.string (s.extract q s.size)) := R5.out 1 _ rfl
    have e2 : w5.cell? ⟨B + 1, 2, none⟩ = some (.string ⟨#[]⟩) := R5.out 2 _ rfl
    have e3 : w5.cell? ⟨B + 1, 3, none⟩ = some (.float .f64 0) := R5.out 3 _ rfl
    have e4 : w5.cell? ⟨B + 1, 4, none⟩ = some (.int .i64 0) := R5.out 4 _ rfl
    have e5 : w5.cell? ⟨B + 1, 5, none⟩ = some (.slice none 0 0) := R5.out 5 _ rfl
    go_upto_region 45 with (go_at_call 51; refine (exists_any _ _ _ _ _ _).mono ?_; rintro en w6 ⟨rfl, hb6⟩; have R6 := hdd (rng_b R5.out hb6); have Q6 := hdd (rng_b Q5.out hb6); have T6 := hdd (thr_b T5.out hb6); have U6 := hdd (thr_b U5.out hb6); have B6 : Hid (Below B w w6) := hdd (B5.out.trans (hb6.mono Y26)); clear hb6; have g0 : w6.cell? ⟨B + 1, 0, none⟩ = some (.int .i64 5) := R6.out 0 _ rfl; have h0 : w6.cell? ⟨B, 0, none⟩ = some (.int .i64 0) := Q6.out 0 _ rfl; have hf0 : w6.frozen? ⟨B, 0, none⟩ = false := (T6.out 0 Y0).2; have g1 : w6.cell? ⟨B + 1, 1, none⟩ = some (.string (s.extract q s.size)) := R6.out 1 _ rfl; have h1 : w6.cell? ⟨B, 1, none⟩ = some (.string ⟨#[]⟩) := Q6.out 1 _ rfl; have hf1 : w6.frozen? ⟨B, 1, none⟩ = false := (T6.out 1 Y0).2; have g2 : w6.cell? ⟨B + 1, 2, none⟩ = some (.string ⟨#[]⟩) := R6.out 2 _ rfl; have h2 : w6.cell? ⟨B, 2, none⟩ = some (.string ⟨#[]⟩) := Q6.out 2 _ rfl; have hf2 : w6.frozen? ⟨B, 2, none⟩ = false := (T6.out 2 Y0).2; have g3 : w6.cell? ⟨B + 1, 3, none⟩ = some (.float .f64 0) := R6.out 3 _ rfl; have h3 : w6.cell? ⟨B, 3, none⟩ = some (.float .f64 0) := Q6.out 3 _ rfl; have hf3 : w6.frozen? ⟨B, 3, none⟩ = false := (T6.out 3 Y0).2; have g4 : w6.cell? ⟨B + 1, 4, none⟩ = some (.int .i64 0) := R6.out 4 _ rfl; have h4 : w6.cell? ⟨B, 4, none⟩ = some (.int .i64 0) := Q6.out 4 _ rfl; have hf4 : w6.frozen? ⟨B, 4, none⟩ = false := (T6.out 4 Y0).2; have g5 : w6.cell? ⟨B + 1, 5, none⟩ = some (.slice none 0 0) := R6.out 5 _ rfl; have h5 : w6.cell? ⟨B, 5, none⟩ = some (.slice none 0 0) := Q6.out 5 _ rfl; have hf5 : w6.frozen? ⟨B, 5, none⟩ = false := (T6.out 5 Y0).2; have gf4 : w6.frozen? ⟨B + 1, 4, none⟩ = false := (U6.out 4 Y0).2)
    clear e0 e1 e2 e3 e4 e5 g0 h0 hf0 g1 h1 hf1 g2 h2 hf2 g3 h3 hf3 g4 h4 hf4 g5 h5 hf5 gf4
    have R7 : Hid (World.rangeAt (w6.setCell ⟨B + 1, 4, none⟩ (.int .i64 (q : Int))) (B + 1) 0 [.int .i64 5, .string (s.extract q s.size), .string ⟨#[]⟩, .float .f64 0, .int .i64 (q : Int), .slice none 0 0]) := hdd (rng_set R6.out 4 (.int .i64 (q : Int)) Y4)
    have Q7 : Hid (World.rangeAt (w6.setCell ⟨B + 1, 4, none⟩ (.int .i64 (q : Int))) B 0 [.int .i64 0, .string ⟨#[]⟩, .string ⟨#[]⟩, .float .f64 0, .int .i64 0, .slice none 0 0]) := hdd (rng_oth Q6.out (B + 1) 4 _ Y0)
    have T7 : Hid (World.there (w6.setCell ⟨B + 1, 4, none⟩ (.int .i64 (q : Int))) B 0 6) := hdd (thr_set T6.out _ _)
    have B7 : Hid (Below B w (w6.setCell ⟨B + 1, 4, none⟩ (.int .i64 (q : Int)))) := hdd (Below.setCell (p := ⟨B + 1, 4, none⟩) B6.out (Nat.le_succ B) _)
    obtain ⟨w7, hw7⟩ : ∃ w7, w6.setCell ⟨B + 1, 4, none⟩ (.int .i64 (q : Int)) = w7 := ⟨_, rfl⟩
    rw [hw7] at R7 T7 B7 Q7
    rw [hw7]
    clear hw7
    have g0 : w7.cell? ⟨B + 1, 0, none⟩ = some (.int .i64 5) := R7.out 0 _ rfl
    have h0 : w7.cell? ⟨B, 0, none⟩ = some (.int .i64 0) := Q7.out 0 _ rfl
    have hf0 : w7.frozen? ⟨B, 0, none⟩ = false := (T7.out 0 Y0).2
    have g1 : w7.cell? ⟨B + 1, 1, none⟩ = some (.string (s.extract q s.size)) := R7.out 1 _ rfl
    have h1 : w7.cell? ⟨B, 1, none⟩ = some (.string ⟨#[]⟩) := Q7.out 1 _ rfl
    have hf1 : w7.frozen? ⟨B, 1, none⟩ = false := (T7.out 1 Y0).2
    have g2 : w7.cell? ⟨B + 1, 2, none⟩ = some (.string ⟨#[]⟩) := R7.out 2 _ rfl
    have h2 : w7.cell? ⟨B, 2, none⟩ = some (.string ⟨#[]⟩) := Q7.out 2 _ rfl
    have hf2 : w7.frozen? ⟨B, 2, none⟩ = false := (T7.out 2 Y0).2
    have g3 : w7.cell? ⟨B + 1, 3, none⟩ = some (.float .f64 0) := R7.out 3 _ rfl
    have h3 : w7.cell? ⟨B, 3, none⟩ = some (.float .f64 0) := Q7.out 3 _ rfl
    have hf3 : w7.frozen? ⟨B, 3, none⟩ = false := (T7.out 3 Y0).2
    have g4 : w7.cell? ⟨B + 1, 4, none⟩ = some (.int .i64 (q : Int)) := R7.out 4 _ rfl
    have h4 : w7.cell? ⟨B, 4, none⟩ = some (.int .i64 0) := Q7.out 4 _ rfl
    have hf4 : w7.frozen? ⟨B, 4, none⟩ = false := (T7.out 4 Y0).2
    have g5 : w7.cell? ⟨B + 1, 5, none⟩ = some (.slice none 0 0) := R7.out 5 _ rfl
    have h5 : w7.cell? ⟨B, 5, none⟩ = some (.slice none 0 0) := Q7.out 5 _ rfl
    have hf5 : w7.frozen? ⟨B, 5, none⟩ = false := (T7.out 5 Y0).2
    have RG : Hid (World.rangeAt ((((((w7.setCell ⟨B, 0, none⟩ (.int .i64 5)).setCell ⟨B, 1, none⟩ (.string (s.extract q s.size))).setCell ⟨B, 2, none⟩ (.string ⟨#[]⟩)).setCell ⟨B, 3, none⟩ (.float .f64 0)).setCell ⟨B, 4, none⟩ (.int .i64 (q : Int))).setCell ⟨B, 5, none⟩ (.slice none 0 0)) B 0 [.int .i64 5, .string (s.extract q s.size), .string ⟨#[]⟩, .float .f64 0, .int .i64 (q : Int), .slice none 0 0]) := hdd (rng_set (rng_set (rng_set (rng_set (rng_set (rng_set Q7.out 0 (.int .i64 5) Y4) 1 (.string (s.extract q s.size)) Y4) 2 (.string ⟨#[]⟩) Y4) 3 (.float .f64 0) Y4) 4 (.int .i64 (q : Int)) Y4) 5 (.slice none 0 0) Y4)
    have HBE : Hid (Below B w ((((((w7.setCell ⟨B, 0, none⟩ (.int .i64 5)).setCell ⟨B, 1, none⟩ (.string (s.extract q s.size))).setCell ⟨B, 2, none⟩ (.string ⟨#[]⟩)).setCell ⟨B, 3, none⟩ (.float .f64 0)).setCell ⟨B, 4, none⟩ (.int .i64 (q : Int))).setCell ⟨B, 5, none⟩ (.slice none 0 0))) := hdd (Below.setCell (p := ⟨B, 5, none⟩) (Below.setCell (p := ⟨B, 4, none⟩) (Below.setCell (p := ⟨B, 3, none⟩) (Below.setCell (p := ⟨B, 2, none⟩) (Below.setCell (p := ⟨B, 1, none⟩) (Below.setCell (p := ⟨B, 0, none⟩) B7.out (Nat.le_refl B) (.int .i64 5)) (Nat.le_refl B) (.string (s.extract q s.size))) (Nat.le_refl B) (.string ⟨#[]⟩)) (Nat.le_refl B) (.float .f64 0)) (Nat.le_refl B) (.int .i64 (q : Int))) (Nat.le_refl B) (.slice none 0 0))
    go_wp2_with fail
    refine bodyPost_ret (results_cell1 rfl _ _ B _ _ rfl RG.out Tryz.underlying61 rfl Y1) rfl ?_
    exact ⟨rfl, Y13⟩
  ·
   have hb := HSK.out q h
   rw [PFnGjSquashItems.bt_at (show q < s.size from Y0)] at hb
   have q1 : ((s[q].toNat : Int) == 123) = false := beq_eq_false_iff_ne.mpr Y0
   have q2 : ((s[q].toNat : Int) == 91) = false := beq_eq_false_iff_ne.mpr Y0
   have q3 : decide ((s[q].toNat : Int) ≤ 32) = true := decide_eq_true hb
   go_wp2_with fail
   go_roundg (gk - 1)
   case measure => have := hq.out; omega
   case rel => exact ⟨q + 1, Y10, hdd Y11, hdd rfl⟩
set_option maxHeartbeats 8000000
set_option maxRecDepth 100000
inductive All2 {α β : Type} (R : α → β → Prop) : List α → List β → Prop
 | nil : All2 R [] []
 | cons {a : α} {b : β} {l : List α} {m : List β} (h : R a b) (r : All2 R l m) : All2 R (a :: l) (b :: m)
theorem All2.len {α β : Type} {R : α → β → Prop} {l : List α} {m : List β} (h : All2 R l m) : l.length = m.length := by
 induction h with
 | nil => rfl
 | cons _ _ ih => simp [ih]
theorem All2.get {α β : Type} {R : α → β → Prop} {l : List α} {m : List β} (h : All2 R l m) : ∀ (k : Nat) (a : α), l[k]? = some a → ∃ b, m[k]? = some b ∧ R a b := by
 induction h with
 | nil => intro k a hk; simp at hk
 | cons h r ih =>
  intro k a hk
  cases k with
  | zero => obtain rfl := Option.some.inj hk; exact ⟨_, rfl, h⟩
  | succ k => exact ih k a hk
theorem run_all {u : ByteArray} {ob : Bool} {L Z : List (RV × RV)} {l : List ItT} (h : Run u ob (fun _ => true) L l Z) : ∃ P, Z = L ++ P ∧ All2 (PairOK u ob) l P := by
 induction h with
 | nil L => exact ⟨[], (List.append_nil L).symm, .nil⟩
 | stop _ hc => cases hc
 | @next L Z t l p hp _ _ ih =>
  obtain ⟨P, h1, h2⟩ := ih
  exact ⟨p :: P, by rw [h1]; simp, .cons hp h2⟩
theorem Ot.off {ob base : Nat} {L : List (RV × RV)} {w w' : World} (h : Ot ob base L w) (k : OffC (fun g => g = ob) base w w') : Ot ob base L w' := by
 obtain ⟨⟨v, hc, ho, hn⟩, hf⟩ := h
 have hlt := World.block_lt_of_cell? w _ hc
 have hb := k.block ob hlt (Or.inl rfl)
 refine ⟨⟨v, by rw [World.cell?_of_block (w := w) hb]; exact hc, ⟨ho.1, ?_⟩, hn⟩, ?_⟩
 ·
  rcases ho.2 with h2 | ⟨g, cap, cur, hv, hg, hh, hr⟩
  ·
   exact .inl h2
  ·
   exact .inr ⟨g, cap, cur, hv, hg, by rw [k.block g (Array.getElem?_eq_some_iff.mp hh).1 (Or.inr hg)]; exact hh, hr⟩
 ·
  rw [← hf]
  unfold World.frozen?
  simp only [hb]
theorem Keep.toC {ob base : Nat} {w w' : World} (h : Keep ob base w w') : KeepC (fun g => g = ob) base w w' := ⟨h.os, h.tape, h.output, h.size, h.block⟩
theorem iter_items (ob : Nat) : IterOK 35 #[.pointer (some ⟨ob, 0, none⟩)] (fun g => g = ob) (fun base L w => Ot ob base L w) (fun _ => true) :=
 ⟨fun _ _ => Y12, fun base L a b w h hb hL => (clo_any h hb hL a b).mono fun e w' ⟨h1, h2, h3⟩ => ⟨h1, h2, h3.toC⟩, fun base L w w' h k => h.off k⟩
def ItemsPost (u : ByteArray) (ob : Bool) (l : List ItT) (w : World) (e : Ending) (w' : World) : Prop :=
 ∃ (P : List (RV × RV)) (base : Nat) (v : Value), e = .returned v ∧ All2 (PairOK u ob) l P ∧ w'.ownsRow base 42 10 v P.length (P.flatMap pairCells) ∧ Below w.heap.size w w'
theorem items_any {w : World} {b0 : Nat} (h : MS w b0) (hBB : b0 ≤ w.heap.size) (s : ByteArray) (hs : s.size ≤ 65536) (v : Nat) (hv : v < s.size) (hsk : ∀ q, q < v → bt s (q : Int) ≤ 32) (ob : Bool) (l : List ItT) (hb : bt (s.extract v s.size) 0 = if ob then 123 else 91) (hl : It (s.extract v s.size) ob 1 l) :
  Calls Tryz.prog 13 #[.string s] w (ItemsPost (s.extract v s.size) ob l w) := by
 have hb2 : bt s (v : Int) = 91 ∨ bt s (v : Int) = 123 := by
  have := (Suf.of s (Nat.le_of_lt hv)).b 0
  simp only [Nat.add_zero] at this
  rw [show ((0 : Nat) : Int) = 0 from rfl, hb] at this
  rw [← this]
  cases ob <;> simp
 obtain ⟨B, hB⟩ : ∃ B, w.heap.size = B := ⟨_, rfl⟩
 have PJ : Hid (∀ w : World, Calls Tryz.prog 33 #[.string s] w fun e w' => e = .returned (RV.val ⟨5, s.extract v s.size, ⟨#[]⟩, 0, (v : Int)⟩) ∧ Below w.heap.size w w') := hdd (fun w => parse_json s hs v hv hsk hb2)
 have hus : (s.extract v s.size).size ≤ 65536 := Y9
 have hix : 0 ≤ (v : Int) ∧ (v : Int) ≤ 65536 := Y0
 obtain ⟨u, hu⟩ : ∃ u, s.extract v s.size = u := ⟨_, rfl⟩
 rw [hu] at PJ hb hl hus ⊢
 have FE : Hid (∀ (w2 : World), MS w2 b0 → b0 ≤ w2.heap.size → (∀ g, g = B → b0 ≤ g ∧ g < w2.heap.size) → (∀ base, Ot B base [] w2) → Calls Tryz.prog 34 #[.agg #[.int .i64 5, .string u, .string ⟨#[]⟩, .float .f64 0, .int .i64 (v : Int), .slice none 0 0], .func (.func 35) #[] #[.pointer (some ⟨B, 0, none⟩)]] w2 (FePost (fun g => g = B) (fun base L w => Ot B base L w) (fun _ => true) u ob l w2)) := hdd (fun w2 h1 h2 h3 h4 => foreach_any (iter_items B) h1 h2 h3 h4 u ⟨#[]⟩ 0 (v : Int) hix hus ob l hb hl)
 have HM := hdd h; have HBB := hdd hBB
 clear h hBB hsk hb hl hus hix hb2 hu
 go_enter Tryz.func13, Tryz.ntmps13
 go_upto_region 2 with (fail)
 obtain ⟨w1, hw1⟩ : ∃ w1, w.alloc (Obj.cells #[.slice none 0 0] 38) = w1 := ⟨_, rfl⟩
 have hs1 : w1.heap.size = B + 1 := Y2
 have b1 : Hid (Below B w w1) := hdd (by rw [← hw1]; exact (Below.refl _ w).alloc Y0 _)
 have c0 : w1.cell? ⟨B, 0, none⟩ = some (.slice none 0 0) := Y2
 have f0 : w1.frozen? ⟨B, 0, none⟩ = false := Y2
 rw [hw1]
 clear hw1
 have HS1 := hdd hs1
 clear hs1
 go_upto_region 3 with (first | (go_at_call 33; refine (PJ.out _).mono ?_; rintro en w2 ⟨rfl, hb2⟩; simp only [RV.val]; have c1 := cellB hb2 c0; have f1 := frozB hb2 c0 f0; have B2 := hdd hb2; have FE2 := hdd (FE.out w2 (HM.out.below ((b1.out.mono Y23).trans (hb2.mono (by have := HS1.out; have := HBB.out; omega)))) (by have := hb2.size; have := HS1.out; have := HBB.out; omega) (fun g hg => by have := hb2.size; have := HS1.out; have := HBB.out; omega) (fun base => ⟨⟨_, c1, World.ownsRow_nil _ _ _ _, by simp [Value.ownBlock]⟩, f1⟩)); clear hb2 c1 f1) | (go_at_call 34; (with_reducible refine FE2.out.mono ?_); rintro en w3 ⟨rfl, L, base, hrun, ⟨⟨vv, hcc, hown, hne⟩, hfr⟩, hkeep⟩; have RU := hdd hrun; have OW := hdd hown; have KP := hdd hkeep; clear hrun hown hne hfr hkeep))
 go_wp2_with fail
 go_ret
 obtain ⟨P, hP1, hP2⟩ := run_all RU.out
 rw [List.nil_append] at hP1
 subst hP1
 refine ⟨L, base, vv, rfl, hP2, OW.out, ?_⟩
 have hk := KP.out
 have h2 := B2.out
 have h3 := HS1.out
 rw [hB]
 exact (b1.out.trans (h2.mono Y0)).trans ⟨hk.os, hk.tape, hk.output, hk.size, fun g hg => hk.block g (by have := h2.size; omega) Y0⟩
end Go.Proofs.YtieflhncpjjciaaGreatDoor.Dc
namespace Go.Proofs.YtieflhncpjjciaaGreatDoor.Wit
open Go
def okL (P : Program) (w : World) : List TypeId → List Value → Bool
 | [], [] => true
 | u :: us, v :: vs => Cell.okRefB P w u v && okL P w us vs
 | _, _ => false
theorem okL_len {P : Program} {w : World} : ∀ {us : List TypeId} {vs : List Value}, okL P w us vs = true → vs.length = us.length
 | [], [], _ => rfl
 | u :: us, v :: vs, h => by
  simp only [okL, Bool.and_eq_true] at h
  simp only [List.length_cons, okL_len h.2]
 | [], _ :: _, h => by simp [okL] at h
 | _ :: _, [], h => by simp [okL] at h
theorem okL_get {P : Program} {w : World} : ∀ {us : List TypeId} {vs : List Value}, okL P w us vs = true → ∀ (i : Nat) v, vs[i]? = some v → ∃ u, us[i]? = some u ∧ Cell.okRefB P w u v = true
 | [], [], _, i, v, h => Y14
 | u :: us, x :: vs, h, 0, v, hv => by
  simp only [okL, Bool.and_eq_true] at h
  simp only [List.getElem?_cons_zero, Option.some.injEq] at hv
  subst hv
  exact ⟨u, rfl, h.1⟩
 | u :: us, x :: vs, h, i + 1, v, hv => by
  simp only [okL, Bool.and_eq_true] at h
  rw [List.getElem?_cons_succ] at hv ⊢
  exact okL_get h.2 i v hv
 | [], _ :: _, h, _, _, _ => by simp [okL] at h
 | _ :: _, [], h, _, _, _ => by simp [okL] at h
def rowL (P : Program) (w : World) (t : TypeId) (cs : List Value) : Bool :=
 match P.cellTypes P.depth t with
 | some ts => okL P w ts cs
 | none => false
theorem rowL_ok {P : Program} {w : World} {base : Nat} {t : TypeId} {cs : Array Value} (h : rowL P w t cs.toList = true) : Row.ok P w .any base t cs := by
 unfold rowL at h
 split at h
 ·
  rename_i ts hts
  have hl := okL_len h
  rw [Array.length_toList] at hl
  refine ⟨ts, hts, ⟨1, Y0⟩, fun i v hv => ?_⟩
  have hi : i < cs.size := (Array.getElem?_eq_some_iff.1 hv).1
  rw [← Array.getElem?_toList] at hv
  obtain ⟨u, hu, hc⟩ := okL_get h i v hv
  exact ⟨u, by rw [Nat.mod_eq_of_lt Y0]; exact hu, Cell.ok_of_okRefB hc⟩
 ·
  cases h
def sameL : List Value → List Value → Bool
 | [], [] => true
 | _ :: a, _ :: b => sameL a b
 | _, _ => false
theorem sameL_len : ∀ {a b : List Value}, sameL a b = true → a.length = b.length
 | [], [], _ => rfl
 | _ :: a, _ :: b, h => by simp only [List.length_cons, sameL_len (a := a) (b := b) h]
 | [], _ :: _, h => by simp [sameL] at h
 | _ :: _, [], h => by simp [sameL] at h
def oneL (P : Program) (w : World) (g : Nat) : Bool :=
 match ((begin P (fun _ _ => 0) default).world.heap[g]?).bind Obj.row? with
 | none => true
 | some (zero, t) =>
  match w.heap[g]? with
  | some (.cells cs t' frozen) => decide (t' = t) && decide (frozen = (0, 0)) && sameL cs.toList zero.toList && (!P.buildable t || rowL P w t cs.toList)
  | _ => false
theorem shaped {P : Program} {w : World} (hv : (List.range P.globals.size).all (oneL P w) = true)
  (hr : (w.heap.toList.drop P.globals.size).take ((begin P (fun _ _ => 0) default).world.heap.size - P.globals.size) = (begin P (fun _ _ => 0) default).world.heap.toList.drop P.globals.size) : w.Shaped P := by
 refine ⟨fun g zero t hg hz => ?_, fun k h1 h2 => ?_⟩
 case refine_2 =>
  have := congrArg (·[k - P.globals.size]?) hr
  simp only [List.getElem?_take, List.getElem?_drop, Array.getElem?_toList] at this
  rw [if_pos Y0, Nat.add_sub_cancel' h1] at this
  exact this
 simp only [List.all_eq_true, List.mem_range] at hv
 have := hv g hg
 unfold oneL at this
 rw [hz] at this
 simp only at this
 split at this
 ·
  rename_i cs t' fr hw
  simp only [Bool.and_eq_true, decide_eq_true_eq, Bool.or_eq_true, Bool.not_eq_true'] at this
  obtain ⟨⟨⟨rfl, rfl⟩, hs⟩, hb⟩ := this
  refine ⟨cs, hw, by have := sameL_len hs; rwa [Array.length_toList, Array.length_toList] at this, fun hbuild => ?_⟩
  rcases hb with hb | hb
  ·
   rw [hbuild] at hb; cases hb
  ·
   exact rowL_ok hb
 ·
  cases this
def runB (P : Program) (w : World) (r : Nat × Nat) : Bool :=
 match w.heap[r.1]? with
 | some (.cells c _ (0, 0)) => c.toList.all fun v => match v with | .iface u x => Value.okWideB P w u x | _ => true
 | _ => false
theorem row_mem {b n : Nat} {p : MemPlace} (h : p ∈ MemPlace.row ⟨b, 0, none⟩ n) : ∃ i, p = .cell b i := by
 unfold MemPlace.row at h
 obtain ⟨i, _, rfl⟩ := List.mem_map.1 h
 exact ⟨i, Y4⟩
theorem row_nodup (b n : Nat) : (MemPlace.row ⟨b, 0, none⟩ n).Nodup := by
 unfold MemPlace.row
 refine List.Pairwise.map _ (fun i j hij h => hij ?_) List.nodup_range
 injection h with _ h
 simpa using h
theorem runs_nodup : ∀ {rs : List (Nat × Nat)}, (rs.map (·.1)).Nodup → (rs.flatMap fun r => MemPlace.row ⟨r.1, 0, none⟩ r.2).Nodup
 | [], _ => List.nodup_nil
 | r :: rs, h => by
  rw [List.map_cons, List.nodup_cons] at h
  rw [List.flatMap_cons, List.nodup_append]
  refine ⟨row_nodup _ _, runs_nodup h.2, fun a ha b hb e => h.1 ?_⟩
  obtain ⟨i, h1⟩ := row_mem ha
  obtain ⟨s, hs, h2⟩ := List.mem_flatMap.1 hb
  obtain ⟨j, h3⟩ := row_mem h2
  rw [h1, h3] at e
  injection e with e _
  exact List.mem_map.2 ⟨s, hs, e.symm⟩
theorem laid_runs {P : Program} {w : World} {l : List (String × DataW Unit)} {rs : List (Nat × Nat)} (fuel : Nat) (h : DataW.laidRun P w fuel (l.map (·.1)) = some (l, rs.flatMap fun r => MemPlace.row ⟨r.1, 0, none⟩ r.2)) (hn : (rs.map (·.1)).Nodup) (hr : rs.all (runB P w) = true) : laidMet P l w := by
 refine ⟨_, DataW.LaidVars_of_laidRun h, runs_nodup hn, fun b off hp => ?_⟩
 obtain ⟨r, hrm, hp⟩ := List.mem_flatMap.1 hp
 obtain ⟨i, h1⟩ := row_mem hp
 injection h1 with h1 _
 have := List.all_eq_true.1 hr _ hrm
 unfold runB at this
 rw [← h1] at this
 split at this
 ·
  rename_i c t hh
  refine ⟨⟨c, t, hh⟩, fun u v hc => ?_⟩
  unfold World.cell? at hc
  rw [hh] at hc
  simp only [Option.isSome_none, Bool.false_eq_true, if_false] at hc
  have hm : Value.iface u v ∈ c.toList := by rw [← Array.getElem?_toList] at hc; exact List.mem_of_getElem? hc
  exact Value.okWide_of_okWideB (List.all_eq_true.1 this _ hm)
 ·
  cases this
def flat1 : DataW Unit → Value
 | .lit (.int k z) => .int k z
 | .lit (.float k b) => .float k b
 | .lit (.bool b) => .bool b
 | .lit (.string l) => .string ⟨l.toArray⟩
 | _ => undef
def flat2 : DataW Unit → List Value
 | .agg ds => ds.map flat1
 | d => [flat1 d]
def rowOf : DataW Unit → List Value
 | .agg ds => ds.flatMap flat2
 | .slice ds _ => ds.flatMap flat2
 | d => [flat1 d]
def lenOf : DataW Unit → Nat
 | .slice ds _ => ds.length
 | _ => 0
def errOf : DataW Unit → List Value
 | .iface _ (.ptr (.agg ds)) => ds.map flat1
 | _ => []
def blk (d : DataW Unit) (t : TypeId) : Obj := .cells (rowOf d).toArray t (0, 0)
def slc (d : DataW Unit) (b : Nat) (t : TypeId) : Obj := .cells #[.slice (some ⟨b, 0, none⟩) (lenOf d) (lenOf d)] t (0, 0)
def errv (b : Nat) : Obj := .cells #[.iface 200 (.pointer (some ⟨b, 0, none⟩))] 117 (0, 0)
open Rows in
def vars : List Obj := [blk laid_pub_tetrapla_pub_gjson_vchars 133, errv 19, errv 20, blk laid_internal_strconv_float32info 182, blk laid_internal_strconv_optimize 4, blk laid_internal_strconv_float64info 182, slc laid_internal_strconv_float32pow10 23 206, slc laid_internal_strconv_powtab 21 59, slc laid_internal_strconv_float64pow10 22 218, blk laid_internal_strconv_pow10Tab 223, slc laid_internal_strconv_leftcheats 24 234, blk laid_internal_strconv_uint64pow10 237, blk laid_math_bits_deBruijn32tab 239, blk laid_math_bits_deBruijn64tab 240]
open Rows in
def more : List Obj := [.cells (errOf laid_strconv_ErrSyntax).toArray 202 (0, 0), .cells (errOf laid_strconv_ErrRange).toArray 202 (0, 0), blk laid_internal_strconv_powtab 3, blk laid_internal_strconv_float64pow10 32, blk laid_internal_strconv_float32pow10 164, blk laid_internal_strconv_leftcheats 233]
noncomputable def ww (os : Os) : World :=
 { World.holding Tryz.prog os ⟨#[], #[], []⟩ with heap := (vars ++ ((World.holding Tryz.prog os ⟨#[], #[], []⟩).heap.toList.drop 14) ++ more).toArray }
def runs : List (Nat × Nat) := [(12, 32), (13, 64), (3, 3), (5, 3), (4, 1), (7, 1), (21, 9), (8, 1), (22, 23), (6, 1), (23, 11), (11, 20), (2, 1), (20, 1), (1, 1), (19, 1), (0, 256), (10, 1), (24, 122), (9, 1392)]
theorem ww_shaped (os : Os) (args : Array Value) : ((ww os).forCall (fun _ _ => 0) ⟨#[], args, []⟩).Shaped Tryz.prog :=
 shaped Y1 Y1
theorem ww_laid (os : Os) (args : Array Value) : laidMet Tryz.prog Rows.fnGjSquashItemsRow.laid ((ww os).forCall (fun _ _ => 0) ⟨#[], args, []⟩).memory :=
 laid_runs (rs := runs) 8 Y1 Y5 Y1
end Go.Proofs.YtieflhncpjjciaaGreatDoor.Wit
namespace Go.Proofs.YtieflhncpjjciaaGreatDoor.Dc
open Go Go.RowKit Go.Proofs.YtieflhncpjjciaaGreatDoorW.PrintWords Go.Proofs.YtieflhncpjjciaaGreatDoor.PFnGjSquashItems
set_option maxHeartbeats 8000000
set_option maxRecDepth 100000
theorem all2_map {α β γ : Type} {f : α → γ} {g : β → γ} : ∀ {l : List α} {m : List β}, l.map f = m.map g → ∀ (k : Nat) (a : α), l[k]? = some a → ∃ b, m[k]? = some b ∧ f a = g b
 | [], [], _, k, a, h => Y14
 | [], _ :: _, h, _, _, _ => Y14
 | _ :: _, [], h, _, _, _ => Y14
 | x :: l, y :: m, h, 0, a, hk => by
  obtain rfl := Option.some.inj hk
  simp only [List.map_cons, List.cons.injEq] at h
  exact ⟨y, rfl, h.1⟩
 | x :: l, y :: m, h, k + 1, a, hk => by
  simp only [List.map_cons, List.cons.injEq] at h
  exact all2_map h.2 k a hk
theorem pair_cell {P : List (RV × RV)} {k : Nat} {p : RV × RV} (h : P[k]? = some p) (j : Nat) (hj : j < 10) : (P.flatMap pairCells)[k * 10 + j]? = (pairCells p)[j]? := by
 induction P generalizing k with
 | nil => simp at h
 | cons a P ih =>
  have ha : (pairCells a).length = 10 := rfl
  rw [List.flatMap_cons]
  cases k with
  | zero =>
   obtain rfl := Option.some.inj h
   rw [List.getElem?_append_left Y0, Nat.zero_mul, Nat.zero_add]
  | succ k =>
   rw [List.getElem?_append_right Y0, ha, show (k + 1) * 10 + j - 10 = k * 10 + j from Y0]
   exact ih h
theorem ext_ext {s : ByteArray} {o v j : Nat} (h1 : v ≤ j) (h2 : o + j ≤ s.size) : (s.extract o s.size).extract v j = s.extract (o + v) (o + j) := by
 rw [ByteArray.extract_extract, Nat.min_eq_left h2]
theorem It.vk {u : ByteArray} {ob : Bool} {i : Nat} {l : List ItT} (h : It u ob i l) : ∀ (k : Nat) (t : ItT), l[k]? = some t → VK u t.kd t.v t.j ∧ t.j < u.size := by
 induction h with
 | done => intro k t h; simp at h
 | item hi hn hn2 hv hs vk hj he r ih =>
  intro k t h
  cases k with
  | zero => obtain rfl := Option.some.inj h; exact ⟨vk, hj⟩
  | succ k => exact ih k t h
theorem cell_later_of {w w' : World} (h : Below w.heap.size w w') {a : Addr} {v : Value} (hc : w.cell? a = some v) : w'.cell? a = some v := cellB h hc
theorem own_form {w : World} {base e size n : Nat} {v : Value} {xs : List Value} (h : w.ownsRow base e size v n xs) : ∃ A c, v = .slice A n c := by
 rcases h.2 with ⟨h2, h3⟩ | ⟨g, cap, cur, hv, _⟩
 ·
  exact ⟨none, 0, by rw [h2, h3]⟩
 ·
  exact ⟨_, _, hv⟩
end Go.Proofs.YtieflhncpjjciaaGreatDoor.Dc
namespace Go.Proofs.YtieflhncpjjciaaGreatDoor.PFnGjSquashItems
open Go Go.RowKit Go.Proofs.YtieflhncpjjciaaGreatDoorW.PrintWords Go.Proofs.YtieflhncpjjciaaGreatDoor.Dc
theorem c_len {s : ByteArray} (hs : s.size ≤ 65536) {t : T} (hw : t.wf s) : (t.c s).length ≤ s.size := by
 have hv := wf_vk hw
 have hj := hv.2.1
 have H : Pc s s 0 s.size := ⟨fun x _ _ => rfl, rfl, Nat.zero_le _, Nat.le_refl _, hs⟩
 have := (ug_t H t hw (Nat.zero_le _) hj [] Y4).1
 rw [List.nil_append] at this
 omega
theorem kstr_fn {u a b : ByteArray} (h : KStr u a) (k : KStr u b) : a = b := by
 obtain ⟨o, h1, rfl⟩ := h
 obtain ⟨o', k1, rfl⟩ := k
 rw [h1.fn k1]
theorem items_two {s : ByteArray} (hs : s.size ≤ 65536) {t : T} (hw : t.wf s) (hk : 5 ≤ t.s.1) (hb0 : Blk s 0 t.i) (hbj : Blk s t.j s.size) {u : ByteArray} (hu : strOfNums (t.c s) = u) :
  ∃ (ob : Bool) (l l' : List ItT), u.size ≤ 65536 ∧ 0 < u.size ∧
   bt (s.extract t.i s.size) 0 = (if ob then 123 else 91) ∧ It (s.extract t.i s.size) ob 1 l ∧ bt (u.extract 0 u.size) 0 = (if ob then 123 else 91) ∧ It (u.extract 0 u.size) ob 1 l' ∧
   l.length = t.s.5.length ∧ l'.length = t.s.5.length ∧
   ∀ P P', All2 (PairOK (s.extract t.i s.size) ob) l P → All2 (PairOK (u.extract 0 u.size) ob) l' P' → ∀ k, k < t.s.5.length →
    ∃ p p', P[k]? = some p ∧ P'[k]? = some p' ∧ p'.1.str = p.1.str ∧ Ev (fun k => impl_PrUgly.f k p.2.raw) p'.2.raw := by
 have hv := wf_vk hw
 have hjs := hv.2.1
 have hij := hv.1
 obtain ⟨ob, l, hob, hit, hmap, hnm, hobk⟩ := t_items2 hw hk hbj (Suf.of s Y0)
 have hy : At u 0 (t.c s) := by rw [← hu]; exact str_at (isBy_t s t)
 have hz : u.size = (t.c s).length := by rw [← hu]; exact str_size (isBy_t s t)
 have hcl := c_len hs hw
 obtain ⟨w1, w2, w3, w4⟩ := y_wf t 0 hw hy
 have w5 := T.wf_lt _ w1
 obtain ⟨ob', l', hob', hit', hmap', hnm', hobk'⟩ := t_items2 w1 (by rw [w4]; exact hk) (by rw [w3, Nat.zero_add, ← hz]; exact blk0 (Nat.le_refl _)) (Suf.of u (by rw [w2]; exact Nat.zero_le _))
 obtain rfl : ob' = ob := by rw [hobk', hobk, w4]
 rw [w2] at hob' hit' hmap'
 have tk := t_kids hw hy
 have len1 : l.length = t.s.5.length := by have := congrArg List.length hmap; simpa using this.symm
 have len2 : l'.length = t.s.5.length := by have := congrArg List.length hmap'; rw [List.length_map, List.length_map] at this; rw [← this]; exact tk.1.len.symm
 refine ⟨ob', l, l', Y0, Y0, hob, hit, hob', hit', len1, len2, fun P P' hP hP' k hkl => ?_⟩
 obtain ⟨q, hq⟩ : ∃ q, t.s.5[k]? = some q := ⟨_, List.getElem?_eq_getElem hkl⟩
 obtain ⟨ti, h1, h2⟩ := all2_map hmap k q hq
 obtain ⟨p, h3, h4⟩ := hP.get k ti h1
 obtain ⟨q', hq', t', o', ht', e1, e2, hat⟩ := tk.1.get k q hq
 obtain ⟨ti', h1', h2'⟩ := all2_map hmap' k q' hq'
 obtain ⟨p', h3', h4'⟩ := hP'.get k ti' h1'
 obtain ⟨v1, v2⟩ := hit.vk k ti h1
 obtain ⟨v1', v2'⟩ := hit'.vk k ti' h1'
 have v3 := v1.1
 have v3' := v1'.1
 have sz1 : (s.extract t.i s.size).size = s.size - t.i := Y9
 have sz2 : (u.extract 0 u.size).size = u.size := Y9
 obtain ⟨y1, y2, y3, y4⟩ := y_wf t' o' ht' hat
 rw [e1, kid_t] at h2
 rw [e2, kid_t, y2, y3] at h2'
 unfold itOf at h2 h2'
 injection h2 with _ h2
 injection h2 with h2a h2b
 injection h2' with _ h2'
 injection h2' with h2a' h2b'
 have a1 : t'.i = t.i + ti.v := Y0
 have a2 : t'.j = t.i + ti.j := Y0
 have a3 : ti'.v = o' := Y0
 have a4 : ti'.j = o' + (t'.c s).length := Y0
 refine ⟨p, p', h3, h3', ?_, ?_⟩
 ·
  cases ob' with
  | false =>
   rw [((h4'.1).2 rfl).2.2, ((h4.1).2 rfl).2.2]
  | true =>
   have n1 := ((h4.1).1 rfl).2.2
   have n2 := ((h4'.1).1 rfl).2.2
   have m1 : t.s.4[k]? = some (nmOf t.i ti) := by rw [hnm rfl, List.getElem?_map, h1]; rfl
   have m2 : (t.y s 0).s.4[k]? = some (nmOf 0 ti') := by rw [hnm' rfl, List.getElem?_map, h1', w2]; rfl
   obtain ⟨x', x1, ni, nj, on, hst, x2, x3, hwin⟩ := tk.2.get k _ m1
   rw [m2] at x1
   obtain rfl := Option.some.inj x1
   unfold nmOf at x2 x3
   injection x2 with x2a x2b
   injection x3 with x3a x3b
   have st1 := hst.1.1
   have st2 := hst.1.2.1
   have zu := hwin.zu
   have b1 : ni = t.i + ti.ni := Y0
   have b2 : nj = t.i + ti.nj := Y0
   have b3 : ti'.ni = on := Y0
   have b4 : ti'.nj = on + (nj - ni) := Y0
   rw [ext_ext Y0 Y0] at n1 n2
   rw [show t.i + (ti.ni + 1) = ni + 1 from Y0, show t.i + (ti.nj - 1) = ni + 1 + (nj - ni - 2) from Y0] at n1
   rw [show 0 + (ti'.ni + 1) = on + 1 from Y0, show 0 + (ti'.nj - 1) = on + 1 + (nj - ni - 2) from Y0, (hwin.sub 1 (nj - ni - 2) Y0).ext] at n2
   exact kstr_fn n2 n1
 ·
  have r1 : p.2.raw = s.extract t'.i t'.j := by rw [h4.2.2.1, ext_ext Y0 Y0, a1, a2]
  have r2 : p'.2.raw = strOfNums (t'.c s) := by
   rw [h4'.2.2.1, ext_ext Y0 Y0, Nat.zero_add, Nat.zero_add, a3, a4]
   exact at_ext hat (isBy_t s t')
  rw [r1, r2]
  exact ugly_raw hs ht'
end Go.Proofs.YtieflhncpjjciaaGreatDoor.PFnGjSquashItems
namespace Go.Proofs.YtieflhncpjjciaaGreatDoor.Dc
open Go Go.RowKit Go.Proofs.YtieflhncpjjciaaGreatDoorW.PrintWords Go.Proofs.YtieflhncpjjciaaGreatDoor.PFnGjSquashItems
set_option maxHeartbeats 8000000
set_option maxRecDepth 100000
theorem ugly_calls {v r : ByteArray} (h : Ev (fun k => impl_PrUgly.f k v) r) (w : World) : Calls Tryz.prog 14 #[.string v] w fun e w' => e = .returned (.string r) ∧ Below w.heap.size w w' := by
 obtain ⟨k0, hk0⟩ := h
 exact impl_PrUgly.calls k0 v r w (hk0 k0 (Nat.le_refl _))
theorem own_some {w : World} {base e size n : Nat} {A : Option Addr} {c : Nat} {xs : List Value} (h : w.ownsRow base e size (.slice A n c) n xs) (hn : 0 < n) : ∃ g, A = some ⟨g, 0, none⟩ := by
 rcases h.2 with ⟨h2, h3⟩ | ⟨g, cap, cur, hv, _⟩
 ·
  omega
 ·
  injection hv with e1; exact ⟨g, e1⟩
theorem kids_len {s : ByteArray} {t : T} (hw : t.wf s) : t.s.5.length ≤ t.j := by
 cases t with
 | leaf kd i j => exact Nat.zero_le _
 | arr i j es =>
  obtain ⟨_, _, p, _, h⟩ := hw
  rcases h with ⟨_, _, rfl⟩ | h
  ·
   exact Nat.zero_le _
  ·
   exact Nat.le_trans (Nat.le_add_right _ p) (es_len es p j h)
 | obj i j ms =>
  obtain ⟨_, _, p, _, h⟩ := hw
  rcases h with ⟨_, _, rfl⟩ | h
  ·
   exact Nat.zero_le _
  ·
   exact Nat.le_trans (Nat.le_add_right _ p) (ms_len ms p j h).1
theorem pi_any {w : World} {b0 : Nat} (h : MS w b0) (hBB : b0 ≤ w.heap.size) (s : ByteArray) (hs : s.size ≤ 140737488351232) :
  Calls Tryz.prog 4 #[.string s] w fun e w' => e = .returned (.bool true) ∧ Below w.heap.size w w' := by
 rcases Nat.lt_or_ge 2147483647 s.size with h1 | h1
 ·
  have t1 : decide ((2147483647 : Int) < (s.size : Int)) = true := decide_eq_true Y0
  go_enter Tryz.func4, Tryz.ntmps4
  go_wp2_with fail
  go_ret
  exact ⟨rfl, Below.refl _ _⟩
 ·
  have t1 : decide ((2147483647 : Int) < (s.size : Int)) = false := decide_eq_false Y0
  have ss : (s.size : Int) ≤ 2147483647 := Y0
  obtain ⟨r1, r2, r3, r4, ok, ⟨k0, hk0⟩, hG⟩ := gjtext_ev2 s
  have GC : Hid (∀ w, Calls Tryz.prog 12 #[.string s] w fun e w' => ∃ v2_ v3_ : Value, e = .returned (.tuple #[.agg #[.int .i64 r1, .string r2, v2_, v3_], .bool ok]) ∧ Kd.R Kd.string 9 w' w.heap.size (fun _ => True) v2_ r3 ∧ Kd.R k26 26 w' w.heap.size (fun k_ => some k_ ≠ (v2_ : Value).ownBlock) v3_ r4 ∧ Below w.heap.size w w') := hdd (fun w => laws_gjText.calls k0 s r1 r2 r3 r4 ok w (hk0 k0 (Nat.le_refl _)))
  have HG := hdd hG
  have HM := hdd h; have HBB := hdd hBB
  clear hG hk0 h hBB
  cases ok with
  | false =>
   go_enter Tryz.func4, Tryz.ntmps4
   go_wp2_with (go_at_call 12; refine (GC.out _).mono ?_; rintro en w1 ⟨v2, v3, rfl, hR2, hR3, hb1⟩; obtain ⟨A2, c2, rfl, -⟩ := Kd.R_reads hR2; obtain ⟨A3, c3, rfl, -⟩ := Kd.R_reads hR3; have B1 := hdd hb1; clear hR2 hR3 hb1)
   go_ret
   exact ⟨rfl, B1.out.alloc B1.out.size _⟩
  | true =>
   obtain ⟨hs65, _, t, hw, hnode, hb0, hbj, _⟩ := HG.out rfl
   have hr1 : r1 = t.s.1 := by rw [← T.n_kind s t, ← hnode]
   have hr4 : r4.length = t.s.5.length := by have := (T.n_kids hs65 hw).len; rw [← hnode] at this; exact this.symm
   rcases Nat.lt_or_ge 4096 s.size with h2 | h2
   ·
    have t2 : decide ((4096 : Int) < (s.size : Int)) = true := decide_eq_true Y0
    clear hr1 hr4 hnode
    go_enter Tryz.func4, Tryz.ntmps4
    go_wp2_with (go_at_call 12; refine (GC.out _).mono ?_; rintro en w1 ⟨v2, v3, rfl, hR2, hR3, hb1⟩; obtain ⟨A2, c2, rfl, -⟩ := Kd.R_reads hR2; obtain ⟨A3, c3, rfl, -⟩ := Kd.R_reads hR3; have B1 := hdd hb1; clear hR2 hR3 hb1)
    go_ret
    exact ⟨rfl, B1.out.alloc B1.out.size _⟩
   ·
    have t2 : decide ((4096 : Int) < (s.size : Int)) = false := decide_eq_false Y0
    by_cases h56 : r1 = 5 ∨ r1 = 6
    ·
     obtain ⟨u, hu⟩ : ∃ u, strOfNums (t.c s) = u := ⟨_, rfl⟩
     obtain ⟨ob, l, l', z1, z2, q1, q2, q1', q2', len1, len2, hRF⟩ := items_two hs65 hw (by rw [← hr1]; omega) hb0 hbj hu
     have hug := ugly_whole hs65 hw hb0 hbj
     rw [hu] at hug
     obtain ⟨n, hn⟩ : ∃ n, t.s.5.length = n := ⟨_, rfl⟩
     have n65 : n ≤ 65536 := by have := kids_len hw; have := hbj.1; have := hbj.2.1; omega
     rw [hn] at len1 len2 hRF hr4
     have UC : Hid (∀ w : World, Calls Tryz.prog 14 #[.string s] w fun e w' => e = .returned (.string u) ∧ Below w.heap.size w w') := hdd (ugly_calls hug)
     have RF := hdd hRF
     have I1 : Hid (∀ w4 : World, MS w4 b0 → b0 ≤ w4.heap.size → Calls Tryz.prog 13 #[.string u] w4 (ItemsPost (u.extract 0 u.size) ob l' w4)) := hdd (fun w4 h1 h2 => items_any h1 h2 u z1 0 z2 (fun q hq => Y0) ob l' q1' q2')
     have I2 : Hid (∀ w4 : World, MS w4 b0 → b0 ≤ w4.heap.size → Calls Tryz.prog 13 #[.string s] w4 (ItemsPost (s.extract t.i s.size) ob l w4)) := hdd (fun w4 h1 h2 => items_any h1 h2 s hs65 t.i (by have := T.wf_lt t hw; have := hbj.1; have := hbj.2.1; omega) (fun q hq => isB_le (hb0.2.2 q (Nat.zero_le _) hq)) ob l q1 q2)
     have N1 := hdd len1; have N2 := hdd len2
     clear hRF hug hu q1 q2 q1' q2' len1 len2 hn hb0 hbj hw hnode
     have HR1 := hdd hr1
     clear hr1
     rcases h56 with h56 | h56
     all_goals
      subst h56
      go_enter Tryz.func4, Tryz.ntmps4
      go_upto_region 4 with (go_at_call 12; refine (GC.out _).mono ?_; rintro en w1 ⟨v2, v3, rfl, hR2, hR3, hb1⟩; obtain ⟨A2, c2, rfl, -⟩ := Kd.R_reads hR2; obtain ⟨A3, c3, rfl, -⟩ := Kd.R_reads hR3; have B1 := hdd hb1; clear hR2 hR3 hb1)
      first | (obtain ⟨wA, hwA⟩ : ∃ wA, w1.alloc (Obj.cells #[.int .i64 5, .string r2, .slice A2 r3.length c2, .slice A3 n c3] 26) = wA := ⟨_, rfl⟩; have bA : Hid (Below w.heap.size w wA) := hdd (by rw [← hwA]; exact B1.out.alloc B1.out.size _); have ka : wA.cell? ⟨w1.heap.size, 0, none⟩ = some (.int .i64 5) := Y27; have kb : wA.cell? ⟨w1.heap.size, 3, none⟩ = some (.slice A3 n c3) := Y27; rw [hwA]) | (obtain ⟨wA, hwA⟩ : ∃ wA, w1.alloc (Obj.cells #[.int .i64 6, .string r2, .slice A2 r3.length c2, .slice A3 n c3] 26) = wA := ⟨_, rfl⟩; have bA : Hid (Below w.heap.size w wA) := hdd (by rw [← hwA]; exact B1.out.alloc B1.out.size _); have ka : wA.cell? ⟨w1.heap.size, 0, none⟩ = some (.int .i64 6) := Y27; have kb : wA.cell? ⟨w1.heap.size, 3, none⟩ = some (.slice A3 n c3) := Y27; rw [hwA])
      clear hwA
      go_upto_region 7 with (first
       | (go_at_call 14; refine (UC.out _).mono ?_; rintro en w2 ⟨rfl, hb2⟩; have B2 := hdd (bA.out.trans (hb2.mono bA.out.size)); have kb2 := cellB hb2 kb; have IT1 := hdd (I1.out w2 (HM.out.below (B2.out.mono HBB.out)) (Nat.le_trans HBB.out B2.out.size)); clear hb2)
       | (go_at_call 13; (with_reducible refine IT1.out.mono ?_); rintro en w3 ⟨Q1, base1, gv1, rfl, hP1, hown1, hb3⟩; obtain ⟨GA1, gc1, rfl⟩ := own_form hown1; have hL1 := hP1.len.symm.trans N2.out; rw [hL1] at hown1 ⊢; have HP1 := hdd hP1; have HL1 := hdd hL1; have B3 := hdd (B2.out.trans (hb3.mono B2.out.size)); have OW1 := hdd hown1; have kb3 := cellB hb3 kb2; have IT2 := hdd (I2.out w3 (HM.out.below (B3.out.mono HBB.out)) (Nat.le_trans HBB.out B3.out.size)); clear hP1 hL1 hown1 hb3)
       | (go_at_call 13; (with_reducible refine IT2.out.mono ?_); rintro en w4 ⟨Q2, base2, gv2, rfl, hP2, hown2, hb4⟩; obtain ⟨GA2, gc2, rfl⟩ := own_form hown2; have hL2 := hP2.len.symm.trans N1.out; rw [hL2] at hown2 ⊢; have HP2 := hdd hP2; have HL2 := hdd hL2; have B4 := hdd (B3.out.trans (hb4.mono B3.out.size)); have OW2 := hdd hown2; have OW1' := hdd (ownB hb4 OW1.out); have kb4 := cellB hb4 kb3; clear hP2 hL2 hown2 hb4))
      clear ka kb kb2 kb3
      go_wp2_with fail
      clear kb4
      go_loopg [53] n (fun m v53 wr => ∃ k : Nat, v53 = .int .i64 (k : Int) ∧ Hid (k + m = n) ∧ Hid (Below w4.heap.size w4 wr))
      case atStart => exact ⟨0, rfl, hdd Y0, hdd (Below.refl _ _)⟩
      case round =>
       obtain ⟨k, rfl, hkm, hBr⟩ := hrel
       have hkn : k ≤ n := Y15
       rcases Nat.eq_or_lt_of_le hkn with hx | hx
       ·
        have t5 : decide (k < n) = false := decide_eq_false Y0
        clear hx hkn
        go_wp2_with fail
        go_ret
        exact ⟨rfl, B4.out.trans (hBr.out.mono B4.out.size)⟩
       ·
        have t5 : decide (k < n) = true := decide_eq_true hx
        obtain ⟨p, p', hp, hp', hstr, hug⟩ := RF.out Q2 Q1 HP2.out HP1.out k hx
        obtain ⟨g1, rfl⟩ := own_some OW1'.out Y0
        obtain ⟨g2, rfl⟩ := own_some OW2.out Y0
        obtain ⟨R1, hR1⟩ : ∃ R1, p'.2.raw = R1 := ⟨_, rfl⟩
        obtain ⟨R2, hR2⟩ : ∃ R2, p.2.raw = R2 := ⟨_, rfl⟩
        obtain ⟨ST, hST⟩ : ∃ ST, p.1.str = ST := ⟨_, rfl⟩
        rw [hR1, hR2] at hug
        rw [hST] at hstr
        have UG := hdd (ugly_calls hug)
        have c1 : wr.drew.cell? ⟨g1, k * 10 + 5 + 1, none⟩ = some (.string R1) := by
         show wr.cell? _ = _
         rw [cell_later_of hBr.out (by rw [OW1'.out.cellAt (k * 10 + 5 + 1) Y0, pair_cell hp' 6 Y0]; rfl)]
         show some (Value.string p'.2.raw) = _
         rw [hR1]
        have c2 : wr.drew.cell? ⟨g2, k * 10 + 5 + 1, none⟩ = some (.string R2) := by
         show wr.cell? _ = _
         rw [cell_later_of hBr.out (by rw [OW2.out.cellAt (k * 10 + 5 + 1) Y0, pair_cell hp 6 Y0]; rfl)]
         show some (Value.string p.2.raw) = _
         rw [hR2]
        have c3 : wr.drew.cell? ⟨g1, k * 10 + 2, none⟩ = some (.string ST) := by
         show wr.cell? _ = _
         rw [cell_later_of hBr.out (by rw [OW1'.out.cellAt (k * 10 + 2) Y0, pair_cell hp' 2 Y0]; rfl)]
         show some (Value.string p'.1.str) = _
         rw [hstr]
        have c4 : wr.drew.cell? ⟨g2, k * 10 + 2, none⟩ = some (.string ST) := by
         show wr.cell? _ = _
         rw [cell_later_of hBr.out (by rw [OW2.out.cellAt (k * 10 + 2) Y0, pair_cell hp 2 Y0]; rfl)]
         show some (Value.string p.1.str) = _
         rw [hST]
        have kb : (k : Int) + 1 ≤ 9223372036854775807 := Y0
        have hkx : (k : Int) < (n : Int) := Y0
        have hk0 : 0 ≤ (k : Int) := Y0
        clear hp hp' hstr hug hR1 hR2 hST
        go_upto_region 12 with (fail)
        go_region_held3 (fun w' => w'.cell? ⟨g1, k * 10 + 5 + 1, none⟩ = some (.string R1) ∧ w'.cell? ⟨g2, k * 10 + 5 + 1, none⟩ = some (.string R2) ∧ w'.cell? ⟨g1, k * 10 + 2, none⟩ = some (.string ST) ∧ w'.cell? ⟨g2, k * 10 + 2, none⟩ = some (.string ST))
         (first
          | with_reducible exact ⟨d1, d2, d3, d4⟩
          | with_reducible exact ⟨c1, c2, c3, c4⟩)
         (first
          | (go_at_call 14; refine (UG.out _).mono ?_; rintro en wz ⟨rfl, hbz⟩; have d1 := cellB hbz c1; have d2 := cellB hbz c2; have d3 := cellB hbz c3; have d4 := cellB hbz c4; have BZ := hdd hbz; clear hbz))
        go_wp2_with fail
        go_roundg (gk - 1)
        case measure => have := hkm.out; omega
        case rel => exact ⟨k + 1, Y10, hdd Y15, hdd (hBr.out.drew.trans (BZ.out.mono hBr.out.size))⟩
    ·
     have t3 : (r1 != 5) = true := bne_iff_ne.mpr Y0
     have t4 : (r1 != 6) = true := bne_iff_ne.mpr Y0
     clear hr1 hr4 hnode h56
     go_enter Tryz.func4, Tryz.ntmps4
     go_wp2_with (go_at_call 12; refine (GC.out _).mono ?_; rintro en w1 ⟨v2, v3, rfl, hR2, hR3, hb1⟩; obtain ⟨A2, c2, rfl, -⟩ := Kd.R_reads hR2; obtain ⟨A3, c3, rfl, -⟩ := Kd.R_reads hR3; have B1 := hdd hb1; clear hR2 hR3 hb1)
     go_ret
     exact ⟨rfl, B1.out.alloc B1.out.size _⟩
end Go.Proofs.YtieflhncpjjciaaGreatDoor.Dc
namespace Go.Proofs.YtieflhncpjjciaaGreatDoor.fnPrItems
open Go Go.ChangeShapes Go.WideShapes Go.ChangeAt Go.RowKit
open Go.ChangeMaps (open_string shut_string)
theorem own : ownKnob Tryz.prog.godebug = none := Y1
abbrev L : List (String × DataW Unit) := Rows.fnPrItemsRow.laid
theorem laid_h {W : World} (h : laidMetH Tryz.prog L W) : laidMet Tryz.prog L W := by
 unfold laidMetH at h
 have e : (L.filter fun x => x.2.handleName?.isSome) = [] := Y1
 rw [e] at h
 exact h
theorem h_laid {W : World} (h : laidMet Tryz.prog L W) : laidMetH Tryz.prog L W := by
 unfold laidMetH
 have e : (L.filter fun x => x.2.handleName?.isSome) = [] := Y1
 rw [e]
 exact h
theorem ms_of {W : World} (h : laidMetH Tryz.prog L W) : Dc.MS W W.heap.size := by
 obtain ⟨ps, hl, _⟩ := laid_h h
 have lc := Dc.lc_laid hl Y17
 obtain ⟨f0, f1, f2⟩ := Dc.fi_laid hl Y17
 exact ⟨⟨⟨lc, f0, f1, f2, Dc.pw_laid hl Y17⟩, Dc.op_laid hl Y17, Dc.fp_laid hl Y17, Dc.pt_laid hl Y17, Dc.er_laid hl Y17, Dc.er2_laid hl Y17⟩, Dc.vc_laid hl Y17⟩
set_option maxRecDepth 100000 in
theorem lifted (os : Os) (started : os.Started) (H : Type) (enc : TypeId × Value → H) :
  ReturnsInHanded {} Tryz.checked os 4 .any (fun w args => (Rows.fnPrItemsSpec.pre enc Tryz.prog Tryz.f4 [] false w args ∧ laidMetH Tryz.prog L w) ∧ sizedMet enc Tryz.prog Tryz.f4 (OpenSpec.ofChange Rows.fnPrItemsSpec) false w args)
   (Rows.fnPrItemsSpec.post enc Tryz.prog Tryz.f4 false true false false) := by
 refine returnsInHanded_of_change_and (C := Tryz.checked) (X := fun w _ => laidMetH Tryz.prog L w) (fun _ _ _ hh h => h.of_heap hh) own started Y1 Tryz.func4
  (ChangeSpec.witness_shaped (enc := enc) (C := Tryz.checked) (os := os) (X := fun w _ => laidMetH Tryz.prog L w) false (Wit.ww os) #[.string ByteArray.empty] 8 rfl (Wit.ww_shaped os _) Y1 Y1 Y1 (h_laid (show laidMet Tryz.prog Rows.fnGjSquashItemsRow.laid _ from Wit.ww_laid os _))) ?_
 intro W base args ds gs before hval0 hW hcnd hsz0 hL _
 have hsz : (DataW.weightsEach Tryz.prog (Tryz.f4.params.toList ++ Rows.fnPrItemsSpec.plain.varTypes Tryz.prog) (ds ++ gs)).all (· ≤ reachBytes) = true := hsz0
 have hval : ∀ (j : Nat) t v, Tryz.f4.params[j]? = some t → args[j]? = some v → Value.okWide Tryz.prog W .any base t v := hval0
 have hW' := hW
 obtain ⟨p, q, hA0, hV, rfl, hfz, hnd⟩ := hW
 have hA : DataW.TrodAll enc Tryz.prog W 0 (fun _ => true) true Tryz.f4.params.toList args.toList ds p := hA0
 rw [Tryz.params4] at hA hval hsz
 obtain ⟨v0, vs0, d0, ds0, p0, q0, hargs, rfl, rfl, h0, r0⟩ := trodAll_cons hA
 obtain ⟨rfl, rfl, rfl⟩ := trodAll_nil r0
 obtain rfl : args = #[v0] := by cases args; simp_all
 obtain ⟨rfl, rfl⟩ := trodVars_none hV
 obtain ⟨a0, rfl, rfl, rfl, y0⟩ := open_string Tryz.underlying9 (hval 0 9 v0 rfl rfl) h0
 have w0 : a0.size ≤ 140737488351232 := by
  have z := sized_string hsz (j := 0) (t := 9) rfl rfl
  rw [Array.length_toList] at z
  exact z
 clear hA0 hval0 hsz0 hsz
 refine (Dc.pi_any (ms_of hL) (Nat.le_refl _) a0 w0).mono fun e W' ⟨he, bel⟩ => ?_
 subst he
 exact ⟨_, rfl, _, _, _, [], _, [], hW', trodAll_mk1 (shut_bool Tryz.underlying4 _), (trodAll_cons_mk (shut_string Tryz.underlying9 y0) trodAll_mk0), rfl, bel.frame _, fun h => Y8⟩
theorem over : Rows.fnPrItemsRow.holds Tryz.pinned (OpenSpec.ofChange Rows.fnPrItemsSpec) :=
 OpenClaim.holds_of_wide 4 Tryz.f4 rfl rfl rfl rfl rfl rfl rfl ⟨rfl, rfl, rfl, rfl, rfl⟩ rfl rfl rfl rfl rfl Y1 Tryz.func4 Y1
  (of_decide_eq_true Y1) (by unfold Func.isWrapper; first | (rw [if_pos (by decide +kernel)]; kernel_rfl) | (rw [if_neg (by decide +kernel)]; exact ⟨rfl, rfl⟩))
  (fun os started H enc _ => lifted os started H enc)
theorem proved : Rows.FnPrItemsSaid := over
end Go.Proofs.YtieflhncpjjciaaGreatDoor.fnPrItems
namespace Go.Proofs.YtieflhncpjjciaaGreatDoor
open Go
theorem fnPrItems_holds : Rows.FnPrItemsCardSaid :=
 Claim7.holds_tied_plain_at .later [] [.data, .data, .widerDeep, .widerDeep, .data, .data, .data, .data, .data, .sentinel, .sentinel, .data, .pinned, .pinned] true (true, "b1dcc411c499c5894b71696f58e9455ba2b5aa11ffa77ebcc77e305c263be0e2") true
  fnPrItems.proved (fun _ h => Y8) Y1 (fun _ h => Y8) fnPrItems_row_tie rfl ⟨rfl, rfl⟩ Y1 rfl
  (fun f fn hf hfn => by
   obtain rfl : f = 4 := Option.some.inj ((show Tryz.prog.funcNamed "pub-tetrapla/laws.FnPrItems" = some 4 from Y1).symm.trans hf) |>.symm
   obtain rfl : fn = Tryz.f4 := (Option.some.inj (Tryz.func4.symm.trans hfn)).symm
   exact ⟨Y1, fun j t ht => by
    rw [Tryz.params4] at ht
    have h9 : t = 9 := by
     rcases j with _ | j
     ·
      simpa using ht.symm
     ·
      simp at ht
    subst h9
    exact (show Tryz.prog.wantsStandIn 9 = false from Y1)⟩)
  Y1
#print axioms fnPrItems_holds
end Go.Proofs.YtieflhncpjjciaaGreatDoor
