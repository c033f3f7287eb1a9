/- Walks and plain laws of this claim. -/
import Derived.Test.YtieflhncpjjciaaGreatDoorBvH
import Derived.Test.YtieflhncpjjciaaGreatDoorBuE
import Derived.Deep.RegionHeld3
set_option linter.unusedVariables false
set_option linter.unusedSimpArgs false
namespace Go.Proofs.YtieflhncpjjciaaGreatDoor.Dc
open Go Go.RowKit Go.Proofs.YtieflhncpjjciaaGreatDoorW.PrintWords Go.Proofs.YtieflhncpjjciaaGreatDoor.PFnGjSquashItems
set_option maxHeartbeats 8000000
set_option maxRecDepth 100000
attribute [local go_sem] run_store_flt
theorem any_json {w : World} {b0 : Nat} (h : MS w b0) (hBB : b0 ≤ w.heap.size) (s : ByteArray) (hs : s.size ≤ 65536) (p v j : Nat) (kd : Int) (hpv : p ≤ v) (hsk : ∀ q, p ≤ q → q < v → bt s (q : Int) ≤ 32) (hk : VK s kd v j) (h5 : 5 ≤ kd) :
  Calls Tryz.prog 50 #[.string s, .int .i64 p, .bool true] w (AnyPost s kd v j w) := by
 obtain ⟨B, hB⟩ : ∃ B, w.heap.size = B := ⟨_, rfl⟩
 have ss : (s.size : Int) ≤ 65536 := Y0
 have hvs : v < s.size := Y25
 have hv := h.vc
 have HM := hdd h
 have HBB := hdd hBB
 clear h hBB
 go_enter Tryz.func50, Tryz.ntmps50
 go_upto_block 0 with (fail)
 obtain ⟨w1, hw1⟩ : ∃ w1, (w.alloc (Obj.cells #[.int .i64 0, .string ⟨#[]⟩, .string ⟨#[]⟩, .float .f64 0, .int .i64 0, .slice none 0 0] 61)).alloc (Obj.cells #[.int .i64 0, .string ⟨#[]⟩, .string ⟨#[]⟩, .float .f64 0, .int .i64 0, .slice none 0 0] 61) = w1 := ⟨_, rfl⟩
 have hs1 : w1.heap.size = B + 2 := Y2
 have b1 : Below B w w1 := Y31
 have R1 : Hid (w1.rangeAt (B + 1) 0 [.int .i64 0, .string ⟨#[]⟩, .string ⟨#[]⟩, .float .f64 0, .int .i64 0, .slice none 0 0]) := hdd Y32
 have T1 : Hid (w1.there B 0 6) := hdd Y22
 have c0 : w1.cell? ⟨B, 0, none⟩ = some (.int .i64 0) := Y2
 have cf0 : w1.frozen? ⟨B, 0, none⟩ = false := Y2
 have c1 : w1.cell? ⟨B, 1, none⟩ = some (.string ⟨#[]⟩) := Y2
 have cf1 : w1.frozen? ⟨B, 1, none⟩ = false := Y2
 have c2 : w1.cell? ⟨B, 2, none⟩ = some (.string ⟨#[]⟩) := Y2
 have cf2 : w1.frozen? ⟨B, 2, none⟩ = false := Y2
 have c3 : w1.cell? ⟨B, 3, none⟩ = some (.float .f64 0) := Y2
 have cf3 : w1.frozen? ⟨B, 3, none⟩ = false := Y2
 have c4 : w1.cell? ⟨B, 4, none⟩ = some (.int .i64 0) := Y2
 have cf4 : w1.frozen? ⟨B, 4, none⟩ = false := Y2
 have c5 : w1.cell? ⟨B, 5, none⟩ = some (.slice none 0 0) := Y2
 have cf5 : w1.frozen? ⟨B, 5, none⟩ = false := Y2
 have d0 : w1.cell? ⟨B + 1, 0, none⟩ = some (.int .i64 0) := Y2
 have df0 : w1.frozen? ⟨B + 1, 0, none⟩ = false := Y2
 have d1 : w1.cell? ⟨B + 1, 1, none⟩ = some (.string ⟨#[]⟩) := Y2
 have df1 : w1.frozen? ⟨B + 1, 1, none⟩ = false := Y2
 have d2 : w1.cell? ⟨B + 1, 2, none⟩ = some (.string ⟨#[]⟩) := Y2
 have df2 : w1.frozen? ⟨B + 1, 2, none⟩ = false := Y2
 have d3 : w1.cell? ⟨B + 1, 3, none⟩ = some (.float .f64 0) := Y2
 have df3 : w1.frozen? ⟨B + 1, 3, none⟩ = false := Y2
 have d4 : w1.cell? ⟨B + 1, 4, none⟩ = some (.int .i64 0) := Y2
 have df4 : w1.frozen? ⟨B + 1, 4, none⟩ = false := Y2
 have d5 : w1.cell? ⟨B + 1, 5, none⟩ = some (.slice none 0 0) := Y2
 have df5 : w1.frozen? ⟨B + 1, 5, none⟩ = false := Y2
 have M1 : Hid (MS w1 b0) := hdd (HM.out.below (b1.mono Y23))
 have V1 : Hid (VC w1) := hdd M1.out.vc
 rw [hw1]
 clear hw1 hv
 have HB1 := hdd b1; have HS1 := hdd hs1
 clear b1 hs1
 go_wp2_with fail
 go_loopg [1] (v - p) (fun m v1 wr => ∃ q : Nat, v1 = .int .i64 (q : Int) ∧ Hid (q + m = v) ∧ Hid (p ≤ q) ∧ Hid (wr = w1))
 case atStart => exact ⟨p, rfl, hdd Y0, hdd (Nat.le_refl _), hdd rfl⟩
 case round =>
  obtain ⟨q, rfl, hq, hpq, hwr⟩ := hrel
  have hqv : q ≤ v := Y11
  have t0 : decide (q < s.size) = true := decide_eq_true Y0
  obtain rfl := hwr.out
  rcases Nat.eq_or_lt_of_le hqv with h | h
  ·
   subst h
   obtain ⟨hvj, hjs, hk3⟩ := hk
   have hsq : Sq s (j - 1) (q + 1) 1 := by rcases hk3 with ⟨a, _⟩ | ⟨a, _⟩ | ⟨a, _⟩ | ⟨_, b⟩ <;> first | exact b | omega
   have hb : bt s (q : Int) = 91 ∨ bt s (q : Int) = 123 := by rcases hk3 with ⟨a, _⟩ | ⟨a, _⟩ | ⟨a, _⟩ | ⟨a, _⟩ <;> omega
   have hgk : gkd kd = 5 := by unfold gkd; repeat (rw [if_neg Y0])
   rw [PFnGjSquashItems.bt_at (show q < s.size from Y0)] at hb
   have HSQ := hdd hsq
   obtain ⟨n9, hn9⟩ : ∃ n9, j - q = n9 := ⟨_, rfl⟩
   have jn : (j : Int) - (n9 : Int) = (q : Int) := Y0
   have mj : min (j : Int) (s.size : Int) = (j : Int) := Y0
   have hj1 : j - 1 + 1 = j := Y0
   have jb : (j : Int) ≤ 65536 := Y0
   have xz : (s.extract q j).size = n9 := Y9
   clear hn9
   have HGK := hdd hgk
   clear hsq hk3 hgk
   rcases hb with hb | hb
   ·
    have q1 : ((s[q].toNat : Int) == 123) = false := Y7
    have q2 : ((s[q].toNat : Int) == 91) = true := Y7
    go_upto_region 12 with (go_at_call 77; refine (squash_any V1.out s hs q (j - 1) HSQ.out).mono ?_; rintro en w4 ⟨rfl, k4, rfl⟩; rw [hj1])
    have RG : Hid (World.rangeAt ((((wr.drewN k4).setCell ⟨B + 1, 1, none⟩ (.string (s.extract q j))).setCell ⟨B + 1, 0, none⟩ (.int .i64 5)).setCell ⟨B + 1, 4, none⟩ (.int .i64 (q : Int))) (B + 1) 0 [.int .i64 5, .string (s.extract q j), .string ⟨#[]⟩, .float .f64 0, .int .i64 (q : Int), .slice none 0 0]) := hdd (rng_set (rng_set (rng_set (rng_dn R1.out k4) 1 (.string (s.extract q j)) Y4) 0 (.int .i64 5) Y4) 4 (.int .i64 (q : Int)) Y4)
    have RT : Hid (World.there ((((wr.drewN k4).setCell ⟨B + 1, 1, none⟩ (.string (s.extract q j))).setCell ⟨B + 1, 0, none⟩ (.int .i64 5)).setCell ⟨B + 1, 4, none⟩ (.int .i64 (q : Int))) B 0 6) := hdd (thr_set (thr_set (thr_set (thr_dn T1.out k4) ⟨B + 1, 1, none⟩ (.string (s.extract q j))) ⟨B + 1, 0, none⟩ (.int .i64 5)) ⟨B + 1, 4, none⟩ (.int .i64 (q : Int)))
    have RB : Hid (Below B w ((((wr.drewN k4).setCell ⟨B + 1, 1, none⟩ (.string (s.extract q j))).setCell ⟨B + 1, 0, none⟩ (.int .i64 5)).setCell ⟨B + 1, 4, none⟩ (.int .i64 (q : Int)))) := hdd (Below.setCell (p := ⟨B + 1, 4, none⟩) (Below.setCell (p := ⟨B + 1, 0, none⟩) (Below.setCell (p := ⟨B + 1, 1, none⟩) (Below.drewNs HB1.out k4) (Nat.le_succ B) (.string (s.extract q j))) (Nat.le_succ B) (.int .i64 5)) (Nat.le_succ B) (.int .i64 (q : Int)))
    obtain ⟨w9, hw9⟩ : ∃ w9, (((wr.drewN k4).setCell ⟨B + 1, 1, none⟩ (.string (s.extract q j))).setCell ⟨B + 1, 0, none⟩ (.int .i64 5)).setCell ⟨B + 1, 4, none⟩ (.int .i64 (q : Int)) = w9 := ⟨_, rfl⟩
    rw [hw9] at RG RT RB
    rw [hw9]
    clear hw9
    clear c0 cf0 c1 cf1 c2 cf2 c3 cf3 c4 cf4 c5 cf5 d0 df0 d1 df1 d2 df2 d3 df3 d4 df4 d5 df5
    refine wp_region_held_drew (S := fun w' => w'.rangeAt (B + 1) 0 [.int .i64 5, .string (s.extract q j), .string ⟨#[]⟩, .float .f64 0, .int .i64 (q : Int), .slice none 0 0] ∧ w'.there B 0 6) Y1 ⟨rng_d RG.out, thr_d RT.out⟩ (fun hHeld => ?_)
    refine take_d (i := 0) (v := _) (some 50) rfl rfl Y1 Y1 Y1 (fun _ _ _ h => h) (Or.inl ⟨Y6, fun _ _ => rfl⟩) hHeld ?_
    simp only [Act.put, List.setIfInBounds_toArray, List.set_cons_zero, List.set_cons_succ]
    refine take_d (i := 1) (some 51) rfl rfl Y1 Y1 Y1 (fun _ _ _ h => h) (yieldsIf_load_mid Y6 _ _ rfl _ _ rfl _ _ (fun _ h => h.1) Tryz.underlying61 rfl Y1) hHeld ?_
    simp only [Act.put, List.setIfInBounds_toArray, List.set_cons_zero, List.set_cons_succ]
    refine take_d (i := 2) (v := _) (some 6) rfl rfl Y1 Y1 Y1 (fun _ _ _ h => h) (Or.inl ⟨Y6, fun _ _ => rfl⟩) hHeld ?_
    simp only [Act.put, List.setIfInBounds_toArray, List.set_cons_zero, List.set_cons_succ]
    refine wpAnyH_ready (rs := [3]) Y1 Y4 (cons_d none rfl rfl (fun K hK => ?_) AllReadyH.nil)
    rw [if_pos Y6]
    refine store_d rfl _ _ _ rfl _ _ (List.toArray [.int .i64 5, .string (s.extract q j), .string ⟨#[]⟩, .float .f64 0, .int .i64 (q : Int), .slice none 0 0]) rfl rfl hHeld.2 Y1 Y16 ?_
    refine hK.out _ _ ⟨World.rangeAt_setCells_apart hHeld.1 _ _ _ (Or.inl Y0), World.there_setCells hHeld.2 _ _ _⟩ (fun hH2 => ?_)
    clear hK K
    refine take_d (i := 4) (v := _) (some 8) rfl rfl Y1 Y1 Y1 (fun _ _ _ h => h) (Or.inl ⟨Y6, fun _ _ => rfl⟩) hH2 ?_
    simp only [Act.put, List.setIfInBounds_toArray, List.set_cons_zero, List.set_cons_succ]
    refine wpAnyH_done Y1 ?_ _
    have HRG : Hid (World.rangeAt (World.setCells w9.drew B 0 [.int .i64 5, .string (s.extract q j), .string ⟨#[]⟩, .float .f64 0, .int .i64 (q : Int), .slice none 0 0]) B 0 [.int .i64 5, .string (s.extract q j), .string ⟨#[]⟩, .float .f64 0, .int .i64 (q : Int), .slice none 0 0]) := hdd (World.rangeAt_setCells_same _ _ _ _ hHeld.2)
    have HBE : Hid (Below B w (World.setCells w9.drew B 0 [.int .i64 5, .string (s.extract q j), .string ⟨#[]⟩, .float .f64 0, .int .i64 (q : Int), .slice none 0 0])) := hdd (Below.cellsN (Nat.le_refl B) _ 0 _ RB.out.drew)
    clear hHeld hH2
    obtain ⟨w8, hw8⟩ : ∃ w8, World.setCells w9.drew B 0 [.int .i64 5, .string (s.extract q j), .string ⟨#[]⟩, .float .f64 0, .int .i64 (q : Int), .slice none 0 0] = w8 := ⟨_, rfl⟩
    rw [hw8] at HRG HBE
    try simp only [List.toList_toArray]
    rw [hw8]
    clear hw8
    go_wp2_with fail
    refine bodyPost_ret (results_tct rfl _ _ B _ _ rfl HRG.out Tryz.underlying61 rfl Y1) rfl ?_
    exact ⟨0, q, ⟨#[]⟩, by rw [HGK.out]; rfl, Nat.le_of_lt hvs, fun h => absurd h Y0, fun _ => rfl, Y13⟩
   ·
    have q1 : ((s[q].toNat : Int) == 123) = true := Y7
    go_upto_region 12 with (go_at_call 77; refine (squash_any V1.out s hs q (j - 1) HSQ.out).mono ?_; rintro en w4 ⟨rfl, k4, rfl⟩; rw [hj1])
    have RG : Hid (World.rangeAt ((((wr.drewN k4).setCell ⟨B + 1, 1, none⟩ (.string (s.extract q j))).setCell ⟨B + 1, 0, none⟩ (.int .i64 5)).setCell ⟨B + 1, 4, none⟩ (.int .i64 (q : Int))) (B + 1) 0 [.int .i64 5, .string (s.extract q j), .string ⟨#[]⟩, .float .f64 0, .int .i64 (q : Int), .slice none 0 0]) := hdd (rng_set (rng_set (rng_set (rng_dn R1.out k4) 1 (.string (s.extract q j)) Y4) 0 (.int .i64 5) Y4) 4 (.int .i64 (q : Int)) Y4)
    have RT : Hid (World.there ((((wr.drewN k4).setCell ⟨B + 1, 1, none⟩ (.string (s.extract q j))).setCell ⟨B + 1, 0, none⟩ (.int .i64 5)).setCell ⟨B + 1, 4, none⟩ (.int .i64 (q : Int))) B 0 6) := hdd (thr_set (thr_set (thr_set (thr_dn T1.out k4) ⟨B + 1, 1, none⟩ (.string (s.extract q j))) ⟨B + 1, 0, none⟩ (.int .i64 5)) ⟨B + 1, 4, none⟩ (.int .i64 (q : Int)))
    have RB : Hid (Below B w ((((wr.drewN k4).setCell ⟨B + 1, 1, none⟩ (.string (s.extract q j))).setCell ⟨B + 1, 0, none⟩ (.int .i64 5)).setCell ⟨B + 1, 4, none⟩ (.int .i64 (q : Int)))) := hdd (Below.setCell (p := ⟨B + 1, 4, none⟩) (Below.setCell (p := ⟨B + 1, 0, none⟩) (Below.setCell (p := ⟨B + 1, 1, none⟩) (Below.drewNs HB1.out k4) (Nat.le_succ B) (.string (s.extract q j))) (Nat.le_succ B) (.int .i64 5)) (Nat.le_succ B) (.int .i64 (q : Int)))
    obtain ⟨w9, hw9⟩ : ∃ w9, (((wr.drewN k4).setCell ⟨B + 1, 1, none⟩ (.string (s.extract q j))).setCell ⟨B + 1, 0, none⟩ (.int .i64 5)).setCell ⟨B + 1, 4, none⟩ (.int .i64 (q : Int)) = w9 := ⟨_, rfl⟩
    rw [hw9] at RG RT RB
    rw [hw9]
    clear hw9
    clear c0 cf0 c1 cf1 c2 cf2 c3 cf3 c4 cf4 c5 cf5 d0 df0 d1 df1 d2 df2 d3 df3 d4 df4 d5 df5
    refine wp_region_held_drew (S := fun w' => w'.rangeAt (B + 1) 0 [.int .i64 5, .string (s.extract q j), .string ⟨#[]⟩, .float .f64 0, .int .i64 (q : Int), .slice none 0 0] ∧ w'.there B 0 6) Y1 ⟨rng_d RG.out, thr_d RT.out⟩ (fun hHeld => ?_)
    refine take_d (i := 0) (v := _) (some 50) rfl rfl Y1 Y1 Y1 (fun _ _ _ h => h) (Or.inl ⟨Y6, fun _ _ => rfl⟩) hHeld ?_
    simp only [Act.put, List.setIfInBounds_toArray, List.set_cons_zero, List.set_cons_succ]
    refine take_d (i := 1) (some 51) rfl rfl Y1 Y1 Y1 (fun _ _ _ h => h) (yieldsIf_load_mid Y6 _ _ rfl _ _ rfl _ _ (fun _ h => h.1) Tryz.underlying61 rfl Y1) hHeld ?_
    simp only [Act.put, List.setIfInBounds_toArray, List.set_cons_zero, List.set_cons_succ]
    refine take_d (i := 2) (v := _) (some 6) rfl rfl Y1 Y1 Y1 (fun _ _ _ h => h) (Or.inl ⟨Y6, fun _ _ => rfl⟩) hHeld ?_
    simp only [Act.put, List.setIfInBounds_toArray, List.set_cons_zero, List.set_cons_succ]
    refine wpAnyH_ready (rs := [3]) Y1 Y4 (cons_d none rfl rfl (fun K hK => ?_) AllReadyH.nil)
    rw [if_pos Y6]
    refine store_d rfl _ _ _ rfl _ _ (List.toArray [.int .i64 5, .string (s.extract q j), .string ⟨#[]⟩, .float .f64 0, .int .i64 (q : Int), .slice none 0 0]) rfl rfl hHeld.2 Y1 Y16 ?_
    refine hK.out _ _ ⟨World.rangeAt_setCells_apart hHeld.1 _ _ _ (Or.inl Y0), World.there_setCells hHeld.2 _ _ _⟩ (fun hH2 => ?_)
    clear hK K
    refine take_d (i := 4) (v := _) (some 8) rfl rfl Y1 Y1 Y1 (fun _ _ _ h => h) (Or.inl ⟨Y6, fun _ _ => rfl⟩) hH2 ?_
    simp only [Act.put, List.setIfInBounds_toArray, List.set_cons_zero, List.set_cons_succ]
    refine wpAnyH_done Y1 ?_ _
    have HRG : Hid (World.rangeAt (World.setCells w9.drew B 0 [.int .i64 5, .string (s.extract q j), .string ⟨#[]⟩, .float .f64 0, .int .i64 (q : Int), .slice none 0 0]) B 0 [.int .i64 5, .string (s.extract q j), .string ⟨#[]⟩, .float .f64 0, .int .i64 (q : Int), .slice none 0 0]) := hdd (World.rangeAt_setCells_same _ _ _ _ hHeld.2)
    have HBE : Hid (Below B w (World.setCells w9.drew B 0 [.int .i64 5, .string (s.extract q j), .string ⟨#[]⟩, .float .f64 0, .int .i64 (q : Int), .slice none 0 0])) := hdd (Below.cellsN (Nat.le_refl B) _ 0 _ RB.out.drew)
    clear hHeld hH2
    obtain ⟨w8, hw8⟩ : ∃ w8, World.setCells w9.drew B 0 [.int .i64 5, .string (s.extract q j), .string ⟨#[]⟩, .float .f64 0, .int .i64 (q : Int), .slice none 0 0] = w8 := ⟨_, rfl⟩
    rw [hw8] at HRG HBE
    try simp only [List.toList_toArray]
    rw [hw8]
    clear hw8
    go_wp2_with fail
    refine bodyPost_ret (results_tct rfl _ _ B _ _ rfl HRG.out Tryz.underlying61 rfl Y1) rfl ?_
    exact ⟨0, q, ⟨#[]⟩, by rw [HGK.out]; rfl, Nat.le_of_lt hvs, fun h => absurd h Y0, fun _ => rfl, Y13⟩
  ·
   have hb := hsk q hpq.out h
   rw [PFnGjSquashItems.bt_at (show q < s.size from Y0)] at hb
   have q1 : ((s[q].toNat : Int) == 123) = false := beq_eq_false_iff_ne.mpr Y0
   have q2 : ((s[q].toNat : Int) == 91) = false := beq_eq_false_iff_ne.mpr Y0
   have q3 : decide ((s[q].toNat : Int) ≤ 32) = true := decide_eq_true hb
   go_wp2_with fail
   go_roundg (gk - 1)
   case measure => have := hq.out; omega
   case rel => exact ⟨q + 1, Y10, hdd Y11, hdd Y24, hdd rfl⟩
set_option maxHeartbeats 8000000
set_option maxRecDepth 100000
attribute [local go_sem] run_store_flt
theorem slice_in {s : ByteArray} {q j n : Nat} (h1 : q < j) (h2 : j ≤ s.size) (h3 : j - q = n ∧ 2 ≤ n) (W : World) : (Instr.slice 9 (.string (s.extract q j)) (some (.int .i64 1)) (some (.int .i64 ((n : Int) - 1))) none).run Tryz.prog W = .ok (.string (s.extract (q + 1) (j - 1))) W := by
 have h := slice_run (s.extract q j) 1 (n - 1) Y0 Y9 W
 rw [show ((1 : Nat) : Int) = 1 from rfl, show ((n - 1 : Nat) : Int) = (n : Int) - 1 from Y0] at h
 rw [h, ByteArray.extract_extract, show min (q + (n - 1)) j = j - 1 from Y0]
theorem un_plain {u : ByteArray} : ∀ m p, u.size - p = m → p ≤ u.size → Tk u u.size p → (∀ q : Nat, p ≤ q → q < u.size → bt u (q : Int) ≠ 92) → Un u p ((u.data.toList.drop p).map fun c => (c.toNat : Int)) := by
 intro m
 induction m with
 | zero =>
  intro p hm hp _ _
  obtain rfl : p = u.size := Y0
  rw [List.drop_of_length_le Y4]
  exact .nil
 | succ m ih =>
  intro p hm hp ht hn
  have hlt : p < u.size := Y0
  cases ht with
  | nil => omega
  | plain h c32 c34 c92 r =>
   have hr := ih (p + 1) Y0 Y0 r (fun q h1 h2 => hn q Y0 h2)
   have e : (u.data.toList.drop p).map (fun c => (c.toNat : Int)) = bt u (p : Int) :: ((u.data.toList.drop (p + 1)).map fun c => (c.toNat : Int)) := by
    rw [List.drop_eq_getElem_cons (by simpa using hlt), List.map_cons, PFnGjSquashItems.bt_at hlt]
    rfl
   rw [e]
   exact .plain hlt c32 c92 hr
  | esc h92 _ _ _ => exact absurd h92 (hn p (Nat.le_refl _) hlt)
theorem str_self (u : ByteArray) : strOfNums (u.data.toList.map fun c => (c.toNat : Int)) = u := by
 refine ByteArray.ext (Array.toList_inj.mp ?_)
 show (strOfNums _).data.toList = u.data.toList
 rw [strOfNums_data, List.map_map]
 conv => rhs; rw [← List.map_id u.data.toList]
 refine List.map_congr_left fun c _ => ?_
 simp
theorem kstr_plain {s : ByteArray} {i j : Nat} (h : StrTok s i j) (hn : ∀ p : Nat, i + 1 ≤ p → p < j - 1 → bt s (p : Int) ≠ 92) : KStr (s.extract (i + 1) (j - 1)) (s.extract (i + 1) (j - 1)) := by
 have h1 := h.1.1
 have h2 := h.1.2.1
 have hz : (s.extract (i + 1) (j - 1)).size = j - 1 - (i + 1) := Y9
 have ht := tk_shift (a := i + 1) Y0 _ h.2 (Nat.le_refl _)
 rw [← hz, Nat.sub_self] at ht
 have hu := un_plain _ 0 rfl (Nat.zero_le _) ht (fun q _ hq => by
  rw [PFnGjSquashItems.bt_at hq, bt_ext Y0 hq]
  exact hn _ Y0 Y0)
 rw [List.drop_zero] at hu
 exact ⟨_, hu, (str_self _).symm⟩
theorem any_str {w : World} {b0 : Nat} (h : MS w b0) (hBB : b0 ≤ w.heap.size) (s : ByteArray) (hs : s.size ≤ 65536) (p v j : Nat) (kd : Int) (hpv : p ≤ v) (hsk : ∀ q, p ≤ q → q < v → bt s (q : Int) ≤ 32) (hk : VK s kd v j) (h4 : kd = 4) :
  Calls Tryz.prog 50 #[.string s, .int .i64 p, .bool true] w (AnyPost s kd v j w) := by
 obtain ⟨B, hB⟩ : ∃ B, w.heap.size = B := ⟨_, rfl⟩
 have ss : (s.size : Int) ≤ 65536 := Y0
 have hvs : v < s.size := Y25
 have hv := h.vc
 have HM := hdd h
 have HBB := hdd hBB
 clear h hBB
 go_enter Tryz.func50, Tryz.ntmps50
 go_upto_block 0 with (fail)
 obtain ⟨w1, hw1⟩ : ∃ w1, (w.alloc (Obj.cells #[.int .i64 0, .string ⟨#[]⟩, .string ⟨#[]⟩, .float .f64 0, .int .i64 0, .slice none 0 0] 61)).alloc (Obj.cells #[.int .i64 0, .string ⟨#[]⟩, .string ⟨#[]⟩, .float .f64 0, .int .i64 0, .slice none 0 0] 61) = w1 := ⟨_, rfl⟩
 have hs1 : w1.heap.size = B + 2 := Y2
 have b1 : Below B w w1 := Y31
 have R1 : Hid (w1.rangeAt (B + 1) 0 [.int .i64 0, .string ⟨#[]⟩, .string ⟨#[]⟩, .float .f64 0, .int .i64 0, .slice none 0 0]) := hdd Y32
 have T1 : Hid (w1.there B 0 6) := hdd Y22
 have T2 : Hid (w1.there (B + 1) 0 6) := hdd Y36
 have c0 : w1.cell? ⟨B, 0, none⟩ = some (.int .i64 0) := Y2
 have cf0 : w1.frozen? ⟨B, 0, none⟩ = false := Y2
 have c1 : w1.cell? ⟨B, 1, none⟩ = some (.string ⟨#[]⟩) := Y2
 have cf1 : w1.frozen? ⟨B, 1, none⟩ = false := Y2
 have c2 : w1.cell? ⟨B, 2, none⟩ = some (.string ⟨#[]⟩) := Y2
 have cf2 : w1.frozen? ⟨B, 2, none⟩ = false := Y2
 have c3 : w1.cell? ⟨B, 3, none⟩ = some (.float .f64 0) := Y2
 have cf3 : w1.frozen? ⟨B, 3, none⟩ = false := Y2
 have c4 : w1.cell? ⟨B, 4, none⟩ = some (.int .i64 0) := Y2
 have cf4 : w1.frozen? ⟨B, 4, none⟩ = false := Y2
 have c5 : w1.cell? ⟨B, 5, none⟩ = some (.slice none 0 0) := Y2
 have cf5 : w1.frozen? ⟨B, 5, none⟩ = false := Y2
 have d0 : w1.cell? ⟨B + 1, 0, none⟩ = some (.int .i64 0) := Y2
 have df0 : w1.frozen? ⟨B + 1, 0, none⟩ = false := Y2
 have d1 : w1.cell? ⟨B + 1, 1, none⟩ = some (.string ⟨#[]⟩) := Y2
 have df1 : w1.frozen? ⟨B + 1, 1, none⟩ = false := Y2
 have d2 : w1.cell? ⟨B + 1, 2, none⟩ = some (.string ⟨#[]⟩) := Y2
 have df2 : w1.frozen? ⟨B + 1, 2, none⟩ = false := Y2
 have d3 : w1.cell? ⟨B + 1, 3, none⟩ = some (.float .f64 0) := Y2
 have df3 : w1.frozen? ⟨B + 1, 3, none⟩ = false := Y2
 have d4 : w1.cell? ⟨B + 1, 4, none⟩ = some (.int .i64 0) := Y2
 have df4 : w1.frozen? ⟨B + 1, 4, none⟩ = false := Y2
 have d5 : w1.cell? ⟨B + 1, 5, none⟩ = some (.slice none 0 0) := Y2
 have df5 : w1.frozen? ⟨B + 1, 5, none⟩ = false := Y2
 have M1 : Hid (MS w1 b0) := hdd (HM.out.below (b1.mono Y23))
 have V1 : Hid (VC w1) := hdd M1.out.vc
 rw [hw1]
 clear hw1 hv
 have HB1 := hdd b1; have HS1 := hdd hs1
 clear b1 hs1
 go_wp2_with fail
 go_loopg [1] (v - p) (fun m v1 wr => ∃ q : Nat, v1 = .int .i64 (q : Int) ∧ Hid (q + m = v) ∧ Hid (p ≤ q) ∧ Hid (wr = w1))
 case atStart => exact ⟨p, rfl, hdd Y0, hdd (Nat.le_refl _), hdd rfl⟩
 case round =>
  obtain ⟨q, rfl, hq, hpq, hwr⟩ := hrel
  have hqv : q ≤ v := Y11
  have t0 : decide (q < s.size) = true := decide_eq_true Y0
  obtain rfl := hwr.out
  rcases Nat.eq_or_lt_of_le hqv with h | h
  ·
   subst h
   obtain ⟨hvj, hjs, hk3⟩ := hk
   have hst : StrTok s q j := by rcases hk3 with ⟨_, b⟩ | ⟨a, _⟩ | ⟨⟨a, _⟩ | ⟨a, _⟩ | ⟨a, _⟩, _⟩ | ⟨⟨a, _⟩ | ⟨a, _⟩, _⟩ <;> first | exact b | omega
   clear hk3
   have hb : bt s (q : Int) = 34 := hst.1.2.2.1
   have hj2 : q + 2 ≤ j := hst.1.1
   rw [PFnGjSquashItems.bt_at (show q < s.size from Y0)] at hb
   obtain ⟨ve, hve, sc⟩ := str_call hs hst.1
   have SC : Hid (∀ w : World, Calls Tryz.prog 60 #[.string s, .int .i64 ((q : Int) + 1)] w fun e w' => e = .returned (.tuple #[.int .i64 (j : Int), .string (s.extract q j), .bool ve, .bool true]) ∧ ∃ n, w' = w.drewN n) := hdd sc
   obtain ⟨O, hO⟩ := tok_un hst
   have HO := hdd hO
   have KS : Hid (ve = false → KStr (s.extract (q + 1) (j - 1)) (s.extract (q + 1) (j - 1))) := hdd (fun h => kstr_plain hst (hve h))
   have HU : Hid ((s.extract (q + 1) (j - 1)).size ≤ 65536) := hdd Y9
   obtain ⟨n9, hn9⟩ : ∃ n9, j - q = n9 := ⟨_, rfl⟩
   have n2 : 2 ≤ (n9 : Int) := Y0
   have n3 : (n9 : Int) ≤ 65536 := Y0
   have xz : (s.extract q j).size = n9 := Y9
   have hsl : ∀ W : World, (Instr.slice 9 (.string (s.extract q j)) (some (.int .i64 1)) (some (.int .i64 ((n9 : Int) - 1))) none).run Tryz.prog W = .ok (.string (s.extract (q + 1) (j - 1))) W := fun W => slice_in hvj hjs Y0 W
   clear hn9 sc hve hO hst
   have q1 : ((s[q].toNat : Int) == 123) = false := Y7
   have q2 : ((s[q].toNat : Int) == 91) = false := Y7
   have q3 : decide ((s[q].toNat : Int) ≤ 32) = false := Y7
   have q4 : ((s[q].toNat : Int) == 34) = true := Y7
   have qi : (q : Int) ≤ 65536 := Y0
   clear hb
   cases ve with
   | false =>
    go_upto_region 47 with (go_at_call 60; refine (SC.out _).mono ?_; rintro en w4 ⟨rfl, k4, rfl⟩)
    have RG : Hid (World.rangeAt ((((wr.drewN k4).setCell ⟨B + 1, 0, none⟩ (.int .i64 3)).setCell ⟨B + 1, 1, none⟩ (.string (s.extract q j))).setCell ⟨B + 1, 2, none⟩ (.string (s.extract (q + 1) (j - 1)))) (B + 1) 0 [.int .i64 3, .string (s.extract q j), .string (s.extract (q + 1) (j - 1)), .float .f64 0, .int .i64 0, .slice none 0 0]) := hdd (rng_set (rng_set (rng_set (rng_dn R1.out k4) 0 (.int .i64 3) Y4) 1 (.string (s.extract q j)) Y4) 2 (.string (s.extract (q + 1) (j - 1))) Y4)
    have RT : Hid (World.there ((((wr.drewN k4).setCell ⟨B + 1, 0, none⟩ (.int .i64 3)).setCell ⟨B + 1, 1, none⟩ (.string (s.extract q j))).setCell ⟨B + 1, 2, none⟩ (.string (s.extract (q + 1) (j - 1)))) B 0 6) := hdd (thr_set (thr_set (thr_set (thr_dn T1.out k4) ⟨B + 1, 0, none⟩ (.int .i64 3)) ⟨B + 1, 1, none⟩ (.string (s.extract q j))) ⟨B + 1, 2, none⟩ (.string (s.extract (q + 1) (j - 1))))
    have RB : Hid (Below B w ((((wr.drewN k4).setCell ⟨B + 1, 0, none⟩ (.int .i64 3)).setCell ⟨B + 1, 1, none⟩ (.string (s.extract q j))).setCell ⟨B + 1, 2, none⟩ (.string (s.extract (q + 1) (j - 1))))) := hdd (Below.setCell (p := ⟨B + 1, 2, none⟩) (Below.setCell (p := ⟨B + 1, 1, none⟩) (Below.setCell (p := ⟨B + 1, 0, none⟩) (Below.drewNs HB1.out k4) (Nat.le_succ B) (.int .i64 3)) (Nat.le_succ B) (.string (s.extract q j))) (Nat.le_succ B) (.string (s.extract (q + 1) (j - 1))))
    obtain ⟨w9, hw9⟩ : ∃ w9, (((wr.drewN k4).setCell ⟨B + 1, 0, none⟩ (.int .i64 3)).setCell ⟨B + 1, 1, none⟩ (.string (s.extract q j))).setCell ⟨B + 1, 2, none⟩ (.string (s.extract (q + 1) (j - 1))) = w9 := ⟨_, rfl⟩
    rw [hw9] at RG RT RB
    rw [hw9]
    clear hw9
    clear c0 cf0 c1 cf1 c2 cf2 c3 cf3 c4 cf4 c5 cf5 d0 df0 d1 df1 d2 df2 d3 df3 d4 df4 d5 df5
    refine wp_region_held_drew (S := fun w' => w'.rangeAt (B + 1) 0 [.int .i64 3, .string (s.extract q j), .string (s.extract (q + 1) (j - 1)), .float .f64 0, .int .i64 0, .slice none 0 0] ∧ w'.there B 0 6) Y1 ⟨rng_d RG.out, thr_d RT.out⟩ (fun hHeld => ?_)
    refine take_d (i := 0) (v := _) (some 114) rfl rfl Y1 Y1 Y1 (fun _ _ _ h => h) (Or.inl ⟨Y6, fun _ _ => rfl⟩) hHeld ?_
    simp only [Act.put, List.setIfInBounds_toArray, List.set_cons_zero, List.set_cons_succ]
    refine take_d (i := 1) (some 115) rfl rfl Y1 Y1 Y1 (fun _ _ _ h => h) (yieldsIf_load_mid Y6 _ _ rfl _ _ rfl _ _ (fun _ h => h.1) Tryz.underlying61 rfl Y1) hHeld ?_
    simp only [Act.put, List.setIfInBounds_toArray, List.set_cons_zero, List.set_cons_succ]
    refine take_d (i := 2) (v := _) (some 6) rfl rfl Y1 Y1 Y1 (fun _ _ _ h => h) (Or.inl ⟨Y6, fun _ _ => rfl⟩) hHeld ?_
    simp only [Act.put, List.setIfInBounds_toArray, List.set_cons_zero, List.set_cons_succ]
    refine wpAnyH_ready (rs := [3]) Y1 Y4 (cons_d none rfl rfl (fun K hK => ?_) AllReadyH.nil)
    rw [if_pos Y6]
    refine store_d rfl _ _ _ rfl _ _ (List.toArray [.int .i64 3, .string (s.extract q j), .string (s.extract (q + 1) (j - 1)), .float .f64 0, .int .i64 0, .slice none 0 0]) rfl rfl hHeld.2 Y1 Y16 ?_
    refine hK.out _ _ ⟨World.rangeAt_setCells_apart hHeld.1 _ _ _ (Or.inl Y0), World.there_setCells hHeld.2 _ _ _⟩ (fun hH2 => ?_)
    clear hK K
    refine take_d (i := 4) (v := _) (some 8) rfl rfl Y1 Y1 Y1 (fun _ _ _ h => h) (Or.inl ⟨Y6, fun _ _ => rfl⟩) hH2 ?_
    simp only [Act.put, List.setIfInBounds_toArray, List.set_cons_zero, List.set_cons_succ]
    refine wpAnyH_done Y1 ?_ _
    have HRG : Hid (World.rangeAt (World.setCells w9.drew B 0 [.int .i64 3, .string (s.extract q j), .string (s.extract (q + 1) (j - 1)), .float .f64 0, .int .i64 0, .slice none 0 0]) B 0 [.int .i64 3, .string (s.extract q j), .string (s.extract (q + 1) (j - 1)), .float .f64 0, .int .i64 0, .slice none 0 0]) := hdd (World.rangeAt_setCells_same _ _ _ _ hHeld.2)
    have HBE : Hid (Below B w (World.setCells w9.drew B 0 [.int .i64 3, .string (s.extract q j), .string (s.extract (q + 1) (j - 1)), .float .f64 0, .int .i64 0, .slice none 0 0])) := hdd (Below.cellsN (Nat.le_refl B) _ 0 _ RB.out.drew)
    clear hHeld hH2
    obtain ⟨w8, hw8⟩ : ∃ w8, World.setCells w9.drew B 0 [.int .i64 3, .string (s.extract q j), .string (s.extract (q + 1) (j - 1)), .float .f64 0, .int .i64 0, .slice none 0 0] = w8 := ⟨_, rfl⟩
    rw [hw8] at HRG HBE
    try simp only [List.toList_toArray]
    rw [hw8]
    clear hw8
    go_wp2_with fail
    refine bodyPost_ret (results_tct rfl _ _ B _ _ rfl HRG.out Tryz.underlying61 rfl Y1) rfl ?_
    exact ⟨0, 0, _, by rw [h4]; rfl, Nat.zero_le _, fun _ => KS.out trivial, fun h => absurd h4 h, Y13⟩
   | true =>
    go_upto_region 45 with (go_at_call 60; refine (SC.out _).mono ?_; rintro en w4 ⟨rfl, k4, rfl⟩)
    have R5 : Hid (World.rangeAt (((wr.drewN k4).setCell ⟨B + 1, 0, none⟩ (.int .i64 3)).setCell ⟨B + 1, 1, none⟩ (.string (s.extract q j))) (B + 1) 0 [.int .i64 3, .string (s.extract q j), .string ⟨#[]⟩, .float .f64 0, .int .i64 0, .slice none 0 0]) := hdd (rng_set (rng_set (rng_dn R1.out k4) 0 (.int .i64 3) Y4) 1 (.string (s.extract q j)) Y4)
    have T5 : Hid (World.there (((wr.drewN k4).setCell ⟨B + 1, 0, none⟩ (.int .i64 3)).setCell ⟨B + 1, 1, none⟩ (.string (s.extract q j))) B 0 6) := hdd (thr_set (thr_set (thr_dn T1.out k4) _ _) _ _)
    have U5 : Hid (World.there (((wr.drewN k4).setCell ⟨B + 1, 0, none⟩ (.int .i64 3)).setCell ⟨B + 1, 1, none⟩ (.string (s.extract q j))) (B + 1) 0 6) := hdd (thr_set (thr_set (thr_dn T2.out k4) _ _) _ _)
    have B5 : Hid (Below B w (((wr.drewN k4).setCell ⟨B + 1, 0, none⟩ (.int .i64 3)).setCell ⟨B + 1, 1, none⟩ (.string (s.extract q j)))) := hdd (Below.setCell (p := ⟨B + 1, 1, none⟩) (Below.setCell (p := ⟨B + 1, 0, none⟩) (Below.drewNs HB1.out k4) (Nat.le_succ B) _) (Nat.le_succ B) _)
    obtain ⟨w5, hw5⟩ : ∃ w5, ((wr.drewN k4).setCell ⟨B + 1, 0, none⟩ (.int .i64 3)).setCell ⟨B + 1, 1, none⟩ (.string (s.extract q j)) = w5 := ⟨_, rfl⟩
    rw [hw5] at R5 T5 U5 B5
    rw [hw5]
    clear hw5
    clear c0 cf0 c1 cf1 c2 cf2 c3 cf3 c4 cf4 c5 cf5 d0 df0 d1 df1 d2 df2 d3 df3 d4 df4 d5 df5
    have e2 : w5.cell? ⟨B + 1, 2, none⟩ = some (.string ⟨#[]⟩) := R5.out 2 _ rfl
    have ef2 : w5.frozen? ⟨B + 1, 2, none⟩ = false := (U5.out 2 Y0).2
    go_upto_region 47 with (go_at_call 61; refine (unesc_any _ HU.out O HO.out).mono ?_; rintro en w6 ⟨rfl, hb6⟩; have e6 := cellB hb6 e2; have f6 := frozB hb6 e2 ef2; have HB6 := hdd hb6; clear hb6)
    have R1 := hdd (rng_b R5.out HB6.out)
    have T1 := hdd (thr_b T5.out HB6.out)
    have HB1 : Hid (Below B w w6) := hdd (B5.out.trans (HB6.out.mono Y26))
    clear e2 ef2 e6 f6
    have RG : Hid (World.rangeAt (w6.setCell ⟨B + 1, 2, none⟩ (.string (strOfNums O))) (B + 1) 0 [.int .i64 3, .string (s.extract q j), .string (strOfNums O), .float .f64 0, .int .i64 0, .slice none 0 0]) := hdd (rng_set R1.out 2 (.string (strOfNums O)) Y4)
    have RT : Hid (World.there (w6.setCell ⟨B + 1, 2, none⟩ (.string (strOfNums O))) B 0 6) := hdd (thr_set T1.out ⟨B + 1, 2, none⟩ (.string (strOfNums O)))
    have RB : Hid (Below B w (w6.setCell ⟨B + 1, 2, none⟩ (.string (strOfNums O)))) := hdd (Below.setCell (p := ⟨B + 1, 2, none⟩) HB1.out (Nat.le_succ B) (.string (strOfNums O)))
    obtain ⟨w9, hw9⟩ : ∃ w9, w6.setCell ⟨B + 1, 2, none⟩ (.string (strOfNums O)) = w9 := ⟨_, rfl⟩
    rw [hw9] at RG RT RB
    rw [hw9]
    clear hw9
    refine wp_region_held_drew (S := fun w' => w'.rangeAt (B + 1) 0 [.int .i64 3, .string (s.extract q j), .string (strOfNums O), .float .f64 0, .int .i64 0, .slice none 0 0] ∧ w'.there B 0 6) Y1 ⟨rng_d RG.out, thr_d RT.out⟩ (fun hHeld => ?_)
    refine take_d (i := 0) (v := _) (some 114) rfl rfl Y1 Y1 Y1 (fun _ _ _ h => h) (Or.inl ⟨Y6, fun _ _ => rfl⟩) hHeld ?_
    simp only [Act.put, List.setIfInBounds_toArray, List.set_cons_zero, List.set_cons_succ]
    refine take_d (i := 1) (some 115) rfl rfl Y1 Y1 Y1 (fun _ _ _ h => h) (yieldsIf_load_mid Y6 _ _ rfl _ _ rfl _ _ (fun _ h => h.1) Tryz.underlying61 rfl Y1) hHeld ?_
    simp only [Act.put, List.setIfInBounds_toArray, List.set_cons_zero, List.set_cons_succ]
    refine take_d (i := 2) (v := _) (some 6) rfl rfl Y1 Y1 Y1 (fun _ _ _ h => h) (Or.inl ⟨Y6, fun _ _ => rfl⟩) hHeld ?_
    simp only [Act.put, List.setIfInBounds_toArray, List.set_cons_zero, List.set_cons_succ]
    refine wpAnyH_ready (rs := [3]) Y1 Y4 (cons_d none rfl rfl (fun K hK => ?_) AllReadyH.nil)
    rw [if_pos Y6]
    refine store_d rfl _ _ _ rfl _ _ (List.toArray [.int .i64 3, .string (s.extract q j), .string (strOfNums O), .float .f64 0, .int .i64 0, .slice none 0 0]) rfl rfl hHeld.2 Y1 Y16 ?_
    refine hK.out _ _ ⟨World.rangeAt_setCells_apart hHeld.1 _ _ _ (Or.inl Y0), World.there_setCells hHeld.2 _ _ _⟩ (fun hH2 => ?_)
    clear hK K
    refine take_d (i := 4) (v := _) (some 8) rfl rfl Y1 Y1 Y1 (fun _ _ _ h => h) (Or.inl ⟨Y6, fun _ _ => rfl⟩) hH2 ?_
    simp only [Act.put, List.setIfInBounds_toArray, List.set_cons_zero, List.set_cons_succ]
    refine wpAnyH_done Y1 ?_ _
    have HRG : Hid (World.rangeAt (World.setCells w9.drew B 0 [.int .i64 3, .string (s.extract q j), .string (strOfNums O), .float .f64 0, .int .i64 0, .slice none 0 0]) B 0 [.int .i64 3, .string (s.extract q j), .string (strOfNums O), .float .f64 0, .int .i64 0, .slice none 0 0]) := hdd (World.rangeAt_setCells_same _ _ _ _ hHeld.2)
    have HBE : Hid (Below B w (World.setCells w9.drew B 0 [.int .i64 3, .string (s.extract q j), .string (strOfNums O), .float .f64 0, .int .i64 0, .slice none 0 0])) := hdd (Below.cellsN (Nat.le_refl B) _ 0 _ RB.out.drew)
    clear hHeld hH2
    obtain ⟨w8, hw8⟩ : ∃ w8, World.setCells w9.drew B 0 [.int .i64 3, .string (s.extract q j), .string (strOfNums O), .float .f64 0, .int .i64 0, .slice none 0 0] = w8 := ⟨_, rfl⟩
    rw [hw8] at HRG HBE
    try simp only [List.toList_toArray]
    rw [hw8]
    clear hw8
    go_wp2_with fail
    refine bodyPost_ret (results_tct rfl _ _ B _ _ rfl HRG.out Tryz.underlying61 rfl Y1) rfl ?_
    exact ⟨0, 0, _, by rw [h4]; rfl, Nat.zero_le _, fun _ => ⟨O, HO.out, rfl⟩, fun h => absurd h4 h, Y13⟩
  ·
   have hb := hsk q hpq.out h
   rw [PFnGjSquashItems.bt_at (show q < s.size from Y0)] at hb
   have q1 : ((s[q].toNat : Int) == 123) = false := beq_eq_false_iff_ne.mpr Y0
   have q2 : ((s[q].toNat : Int) == 91) = false := beq_eq_false_iff_ne.mpr Y0
   have q3 : decide ((s[q].toNat : Int) ≤ 32) = true := decide_eq_true hb
   go_wp2_with fail
   go_roundg (gk - 1)
   case measure => have := hq.out; omega
   case rel => exact ⟨q + 1, Y10, hdd Y11, hdd Y24, hdd rfl⟩
end Go.Proofs.YtieflhncpjjciaaGreatDoor.Dc
