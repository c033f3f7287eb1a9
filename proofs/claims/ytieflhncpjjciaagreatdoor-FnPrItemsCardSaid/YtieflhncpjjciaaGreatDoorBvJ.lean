/- Walks and plain laws of this claim. -/
import Derived.Test.YtieflhncpjjciaaGreatDoorBvH
import Derived.Test.YtieflhncpjjciaaGreatDoorBuE
import Derived.Deep.RegionHeld3
set_option linter.unusedVariables false
set_option linter.unusedSimpArgs false
namespace Go.Proofs.YtieflhncpjjciaaGreatDoor.Dc
open Go Go.RowKit Go.Proofs.YtieflhncpjjciaaGreatDoorW.PrintWords Go.Proofs.YtieflhncpjjciaaGreatDoor.PFnGjSquashItems
set_option maxHeartbeats 8000000
set_option maxRecDepth 100000
attribute [local go_sem] run_store_flt
theorem any_lit {w : World} {b0 : Nat} (h : MS w b0) (hBB : b0 ≤ w.heap.size) (s : ByteArray) (hs : s.size ≤ 65536) (p v j : Nat) (kd : Int) (hpv : p ≤ v) (hsk : ∀ q, p ≤ q → q < v → bt s (q : Int) ≤ 32) (hk : VK s kd v j) (he : NumEnd s j) (h3 : kd < 3) :
  Calls Tryz.prog 50 #[.string s, .int .i64 p, .bool true] w (AnyPost s kd v j w) := by
 obtain ⟨B, hB⟩ : ∃ B, w.heap.size = B := ⟨_, rfl⟩
 have ss : (s.size : Int) ≤ 65536 := Y0
 have hvs : v < s.size := Y25
 have hv := h.vc
 have HM := hdd h
 have HBB := hdd hBB
 clear h hBB
 go_enter Tryz.func50, Tryz.ntmps50
 go_upto_block 0 with (fail)
 obtain ⟨w1, hw1⟩ : ∃ w1, (w.alloc (Obj.cells #[.int .i64 0, .string ⟨#[]⟩, .string ⟨#[]⟩, .float .f64 0, .int .i64 0, .slice none 0 0] 61)).alloc (Obj.cells #[.int .i64 0, .string ⟨#[]⟩, .string ⟨#[]⟩, .float .f64 0, .int .i64 0, .slice none 0 0] 61) = w1 := ⟨_, rfl⟩
 have hs1 : w1.heap.size = B + 2 := Y2
 have b1 : Below B w w1 := Y31
 have R1 : Hid (w1.rangeAt (B + 1) 0 [.int .i64 0, .string ⟨#[]⟩, .string ⟨#[]⟩, .float .f64 0, .int .i64 0, .slice none 0 0]) := hdd Y32
 have T1 : Hid (w1.there B 0 6) := hdd Y22
 have c0 : w1.cell? ⟨B, 0, none⟩ = some (.int .i64 0) := Y2
 have cf0 : w1.frozen? ⟨B, 0, none⟩ = false := Y2
 have c1 : w1.cell? ⟨B, 1, none⟩ = some (.string ⟨#[]⟩) := Y2
 have cf1 : w1.frozen? ⟨B, 1, none⟩ = false := Y2
 have c2 : w1.cell? ⟨B, 2, none⟩ = some (.string ⟨#[]⟩) := Y2
 have cf2 : w1.frozen? ⟨B, 2, none⟩ = false := Y2
 have c3 : w1.cell? ⟨B, 3, none⟩ = some (.float .f64 0) := Y2
 have cf3 : w1.frozen? ⟨B, 3, none⟩ = false := Y2
 have c4 : w1.cell? ⟨B, 4, none⟩ = some (.int .i64 0) := Y2
 have cf4 : w1.frozen? ⟨B, 4, none⟩ = false := Y2
 have c5 : w1.cell? ⟨B, 5, none⟩ = some (.slice none 0 0) := Y2
 have cf5 : w1.frozen? ⟨B, 5, none⟩ = false := Y2
 have d0 : w1.cell? ⟨B + 1, 0, none⟩ = some (.int .i64 0) := Y2
 have df0 : w1.frozen? ⟨B + 1, 0, none⟩ = false := Y2
 have d1 : w1.cell? ⟨B + 1, 1, none⟩ = some (.string ⟨#[]⟩) := Y2
 have df1 : w1.frozen? ⟨B + 1, 1, none⟩ = false := Y2
 have d2 : w1.cell? ⟨B + 1, 2, none⟩ = some (.string ⟨#[]⟩) := Y2
 have df2 : w1.frozen? ⟨B + 1, 2, none⟩ = false := Y2
 have d3 : w1.cell? ⟨B + 1, 3, none⟩ = some (.float .f64 0) := Y2
 have df3 : w1.frozen? ⟨B + 1, 3, none⟩ = false := Y2
 have d4 : w1.cell? ⟨B + 1, 4, none⟩ = some (.int .i64 0) := Y2
 have df4 : w1.frozen? ⟨B + 1, 4, none⟩ = false := Y2
 have d5 : w1.cell? ⟨B + 1, 5, none⟩ = some (.slice none 0 0) := Y2
 have df5 : w1.frozen? ⟨B + 1, 5, none⟩ = false := Y2
 have M1 : Hid (MS w1 b0) := hdd (HM.out.below (b1.mono Y23))
 have V1 : Hid (VC w1) := hdd M1.out.vc
 rw [hw1]
 clear hw1 hv
 have HB1 := hdd b1; have HS1 := hdd hs1
 clear b1 hs1
 go_wp2_with fail
 go_loopg [1] (v - p) (fun m v1 wr => ∃ q : Nat, v1 = .int .i64 (q : Int) ∧ Hid (q + m = v) ∧ Hid (p ≤ q) ∧ Hid (wr = w1))
 case atStart => exact ⟨p, rfl, hdd Y0, hdd (Nat.le_refl _), hdd rfl⟩
 case round =>
  obtain ⟨q, rfl, hq, hpq, hwr⟩ := hrel
  have hqv : q ≤ v := Y11
  have t0 : decide (q < s.size) = true := decide_eq_true Y0
  obtain rfl := hwr.out
  rcases Nat.eq_or_lt_of_le hqv with h | h
  ·
   subst h
   obtain ⟨hvj, hjs, hk3⟩ := hk
   obtain ⟨hkd, haz⟩ : ((kd = 0 ∧ bt s (q : Int) = 110 ∧ bt s ((q + 1 : Nat) : Int) = 117) ∨ (kd = 1 ∧ bt s (q : Int) = 102) ∨ (kd = 2 ∧ bt s (q : Int) = 116)) ∧ ∀ p, q ≤ p → p < j → 97 ≤ bt s (p : Int) ∧ bt s (p : Int) ≤ 122 := by rcases hk3 with ⟨a, _⟩ | ⟨a, _⟩ | b | ⟨⟨a, _⟩ | ⟨a, _⟩, _⟩ <;> first | exact b | omega
   clear hk3
   have LC : Hid (∀ w : World, Calls Tryz.prog 78 #[.string s, .int .i64 (q : Int)] w fun e w' => e = .returned (.tuple #[.int .i64 (j : Int), .string (s.extract q j)]) ∧ ∃ n, w' = w.drewN n) := hdd (lit_call hs hvj hjs haz he)
   clear haz
   have qi : (q : Int) ≤ 65536 := Y0
   rcases hkd with ⟨hkd, hb, hb1⟩ | ⟨hkd, hb⟩ | ⟨hkd, hb⟩
   ·
    have hq1 : q + 1 < s.size := bt_in hb1 Y0
    rw [PFnGjSquashItems.bt_at hq1] at hb1
    have t1 : decide ((q : Int) + 1 < (s.size : Int)) = true := decide_eq_true Y0
    have t2 : decide (q + 1 < s.size) = true := decide_eq_true hq1
    have t3 : ((s[q + 1].toNat : Int) != 117) = false := by rw [hb1]; rfl
    clear hb1
    rw [PFnGjSquashItems.bt_at (show q < s.size from Y0)] at hb
    have q0 : ((s[q].toNat : Int) == 123) = false := Y7
    have q1 : ((s[q].toNat : Int) == 91) = false := Y7
    have q2 : ((s[q].toNat : Int) == 34) = false := Y7
    have q3 : ((s[q].toNat : Int) == 110) = true := Y7
    have q4 : ((s[q].toNat : Int) == 116) = false := Y7
    have q5 : ((s[q].toNat : Int) == 102) = false := Y7
    have q9 : decide ((s[q].toNat : Int) ≤ 32) = false := Y7
    clear hb
    go_upto_region 59 with (go_at_call 78; refine (LC.out _).mono ?_; rintro en w4 ⟨rfl, k4, rfl⟩)
    have RG : Hid (World.rangeAt ((wr.drewN k4).setCell ⟨B + 1, 1, none⟩ (.string (s.extract q j))) (B + 1) 0 [.int .i64 0, .string (s.extract q j), .string ⟨#[]⟩, .float .f64 0, .int .i64 0, .slice none 0 0]) := hdd (rng_set (rng_dn R1.out k4) 1 (.string (s.extract q j)) Y4)
    have RT : Hid (World.there ((wr.drewN k4).setCell ⟨B + 1, 1, none⟩ (.string (s.extract q j))) B 0 6) := hdd (thr_set (thr_dn T1.out k4) ⟨B + 1, 1, none⟩ (.string (s.extract q j)))
    have RB : Hid (Below B w ((wr.drewN k4).setCell ⟨B + 1, 1, none⟩ (.string (s.extract q j)))) := hdd (Below.setCell (p := ⟨B + 1, 1, none⟩) (Below.drewNs HB1.out k4) (Nat.le_succ B) (.string (s.extract q j)))
    obtain ⟨w9, hw9⟩ : ∃ w9, (wr.drewN k4).setCell ⟨B + 1, 1, none⟩ (.string (s.extract q j)) = w9 := ⟨_, rfl⟩
    rw [hw9] at RG RT RB
    rw [hw9]
    clear hw9
    clear c0 cf0 c1 cf1 c2 cf2 c3 cf3 c4 cf4 c5 cf5 d0 df0 d1 df1 d2 df2 d3 df3 d4 df4 d5 df5
    refine wp_region_held_drew (S := fun w' => w'.rangeAt (B + 1) 0 [.int .i64 0, .string (s.extract q j), .string ⟨#[]⟩, .float .f64 0, .int .i64 0, .slice none 0 0] ∧ w'.there B 0 6) Y1 ⟨rng_d RG.out, thr_d RT.out⟩ (fun hHeld => ?_)
    refine take_d (i := 0) (v := _) (some 147) rfl rfl Y1 Y1 Y1 (fun _ _ _ h => h) (Or.inl ⟨Y6, fun _ _ => rfl⟩) hHeld ?_
    simp only [Act.put, List.setIfInBounds_toArray, List.set_cons_zero, List.set_cons_succ]
    refine take_d (i := 1) (some 148) rfl rfl Y1 Y1 Y1 (fun _ _ _ h => h) (yieldsIf_load_mid Y6 _ _ rfl _ _ rfl _ _ (fun _ h => h.1) Tryz.underlying61 rfl Y1) hHeld ?_
    simp only [Act.put, List.setIfInBounds_toArray, List.set_cons_zero, List.set_cons_succ]
    refine take_d (i := 2) (v := _) (some 6) rfl rfl Y1 Y1 Y1 (fun _ _ _ h => h) (Or.inl ⟨Y6, fun _ _ => rfl⟩) hHeld ?_
    simp only [Act.put, List.setIfInBounds_toArray, List.set_cons_zero, List.set_cons_succ]
    refine wpAnyH_ready (rs := [3]) Y1 Y4 (cons_d none rfl rfl (fun K hK => ?_) AllReadyH.nil)
    rw [if_pos Y6]
    refine store_d rfl _ _ _ rfl _ _ (List.toArray [.int .i64 0, .string (s.extract q j), .string ⟨#[]⟩, .float .f64 0, .int .i64 0, .slice none 0 0]) rfl rfl hHeld.2 Y1 Y16 ?_
    refine hK.out _ _ ⟨World.rangeAt_setCells_apart hHeld.1 _ _ _ (Or.inl Y0), World.there_setCells hHeld.2 _ _ _⟩ (fun hH2 => ?_)
    clear hK K
    refine take_d (i := 4) (v := _) (some 8) rfl rfl Y1 Y1 Y1 (fun _ _ _ h => h) (Or.inl ⟨Y6, fun _ _ => rfl⟩) hH2 ?_
    simp only [Act.put, List.setIfInBounds_toArray, List.set_cons_zero, List.set_cons_succ]
    refine wpAnyH_done Y1 ?_ _
    have HRG : Hid (World.rangeAt (World.setCells w9.drew B 0 [.int .i64 0, .string (s.extract q j), .string ⟨#[]⟩, .float .f64 0, .int .i64 0, .slice none 0 0]) B 0 [.int .i64 0, .string (s.extract q j), .string ⟨#[]⟩, .float .f64 0, .int .i64 0, .slice none 0 0]) := hdd (World.rangeAt_setCells_same _ _ _ _ hHeld.2)
    have HBE : Hid (Below B w (World.setCells w9.drew B 0 [.int .i64 0, .string (s.extract q j), .string ⟨#[]⟩, .float .f64 0, .int .i64 0, .slice none 0 0])) := hdd (Below.cellsN (Nat.le_refl B) _ 0 _ RB.out.drew)
    clear hHeld hH2
    obtain ⟨w8, hw8⟩ : ∃ w8, World.setCells w9.drew B 0 [.int .i64 0, .string (s.extract q j), .string ⟨#[]⟩, .float .f64 0, .int .i64 0, .slice none 0 0] = w8 := ⟨_, rfl⟩
    rw [hw8] at HRG HBE
    try simp only [List.toList_toArray]
    rw [hw8]
    clear hw8
    go_wp2_with fail
    refine bodyPost_ret (results_tct rfl _ _ B _ _ rfl HRG.out Tryz.underlying61 rfl Y1) rfl ?_
    exact ⟨0, 0, ⟨#[]⟩, by rw [hkd]; rfl, Nat.zero_le _, fun h => absurd h Y0, fun _ => rfl, Y13⟩
   ·
    rw [PFnGjSquashItems.bt_at (show q < s.size from Y0)] at hb
    have q0 : ((s[q].toNat : Int) == 123) = false := Y7
    have q1 : ((s[q].toNat : Int) == 91) = false := Y7
    have q2 : ((s[q].toNat : Int) == 34) = false := Y7
    have q3 : ((s[q].toNat : Int) == 110) = false := Y7
    have q4 : ((s[q].toNat : Int) == 116) = false := Y7
    have q5 : ((s[q].toNat : Int) == 102) = true := Y7
    have q9 : decide ((s[q].toNat : Int) ≤ 32) = false := Y7
    clear hb
    go_upto_region 59 with (go_at_call 78; refine (LC.out _).mono ?_; rintro en w4 ⟨rfl, k4, rfl⟩)
    have RG : Hid (World.rangeAt (((wr.drewN k4).setCell ⟨B + 1, 1, none⟩ (.string (s.extract q j))).setCell ⟨B + 1, 0, none⟩ (.int .i64 1)) (B + 1) 0 [.int .i64 1, .string (s.extract q j), .string ⟨#[]⟩, .float .f64 0, .int .i64 0, .slice none 0 0]) := hdd (rng_set (rng_set (rng_dn R1.out k4) 1 (.string (s.extract q j)) Y4) 0 (.int .i64 1) Y4)
    have RT : Hid (World.there (((wr.drewN k4).setCell ⟨B + 1, 1, none⟩ (.string (s.extract q j))).setCell ⟨B + 1, 0, none⟩ (.int .i64 1)) B 0 6) := hdd (thr_set (thr_set (thr_dn T1.out k4) ⟨B + 1, 1, none⟩ (.string (s.extract q j))) ⟨B + 1, 0, none⟩ (.int .i64 1))
    have RB : Hid (Below B w (((wr.drewN k4).setCell ⟨B + 1, 1, none⟩ (.string (s.extract q j))).setCell ⟨B + 1, 0, none⟩ (.int .i64 1))) := hdd (Below.setCell (p := ⟨B + 1, 0, none⟩) (Below.setCell (p := ⟨B + 1, 1, none⟩) (Below.drewNs HB1.out k4) (Nat.le_succ B) (.string (s.extract q j))) (Nat.le_succ B) (.int .i64 1))
    obtain ⟨w9, hw9⟩ : ∃ w9, ((wr.drewN k4).setCell ⟨B + 1, 1, none⟩ (.string (s.extract q j))).setCell ⟨B + 1, 0, none⟩ (.int .i64 1) = w9 := ⟨_, rfl⟩
    rw [hw9] at RG RT RB
    rw [hw9]
    clear hw9
    clear c0 cf0 c1 cf1 c2 cf2 c3 cf3 c4 cf4 c5 cf5 d0 df0 d1 df1 d2 df2 d3 df3 d4 df4 d5 df5
    refine wp_region_held_drew (S := fun w' => w'.rangeAt (B + 1) 0 [.int .i64 1, .string (s.extract q j), .string ⟨#[]⟩, .float .f64 0, .int .i64 0, .slice none 0 0] ∧ w'.there B 0 6) Y1 ⟨rng_d RG.out, thr_d RT.out⟩ (fun hHeld => ?_)
    refine take_d (i := 0) (v := _) (some 147) rfl rfl Y1 Y1 Y1 (fun _ _ _ h => h) (Or.inl ⟨Y6, fun _ _ => rfl⟩) hHeld ?_
    simp only [Act.put, List.setIfInBounds_toArray, List.set_cons_zero, List.set_cons_succ]
    refine take_d (i := 1) (some 148) rfl rfl Y1 Y1 Y1 (fun _ _ _ h => h) (yieldsIf_load_mid Y6 _ _ rfl _ _ rfl _ _ (fun _ h => h.1) Tryz.underlying61 rfl Y1) hHeld ?_
    simp only [Act.put, List.setIfInBounds_toArray, List.set_cons_zero, List.set_cons_succ]
    refine take_d (i := 2) (v := _) (some 6) rfl rfl Y1 Y1 Y1 (fun _ _ _ h => h) (Or.inl ⟨Y6, fun _ _ => rfl⟩) hHeld ?_
    simp only [Act.put, List.setIfInBounds_toArray, List.set_cons_zero, List.set_cons_succ]
    refine wpAnyH_ready (rs := [3]) Y1 Y4 (cons_d none rfl rfl (fun K hK => ?_) AllReadyH.nil)
    rw [if_pos Y6]
    refine store_d rfl _ _ _ rfl _ _ (List.toArray [.int .i64 1, .string (s.extract q j), .string ⟨#[]⟩, .float .f64 0, .int .i64 0, .slice none 0 0]) rfl rfl hHeld.2 Y1 Y16 ?_
    refine hK.out _ _ ⟨World.rangeAt_setCells_apart hHeld.1 _ _ _ (Or.inl Y0), World.there_setCells hHeld.2 _ _ _⟩ (fun hH2 => ?_)
    clear hK K
    refine take_d (i := 4) (v := _) (some 8) rfl rfl Y1 Y1 Y1 (fun _ _ _ h => h) (Or.inl ⟨Y6, fun _ _ => rfl⟩) hH2 ?_
    simp only [Act.put, List.setIfInBounds_toArray, List.set_cons_zero, List.set_cons_succ]
    refine wpAnyH_done Y1 ?_ _
    have HRG : Hid (World.rangeAt (World.setCells w9.drew B 0 [.int .i64 1, .string (s.extract q j), .string ⟨#[]⟩, .float .f64 0, .int .i64 0, .slice none 0 0]) B 0 [.int .i64 1, .string (s.extract q j), .string ⟨#[]⟩, .float .f64 0, .int .i64 0, .slice none 0 0]) := hdd (World.rangeAt_setCells_same _ _ _ _ hHeld.2)
    have HBE : Hid (Below B w (World.setCells w9.drew B 0 [.int .i64 1, .string (s.extract q j), .string ⟨#[]⟩, .float .f64 0, .int .i64 0, .slice none 0 0])) := hdd (Below.cellsN (Nat.le_refl B) _ 0 _ RB.out.drew)
    clear hHeld hH2
    obtain ⟨w8, hw8⟩ : ∃ w8, World.setCells w9.drew B 0 [.int .i64 1, .string (s.extract q j), .string ⟨#[]⟩, .float .f64 0, .int .i64 0, .slice none 0 0] = w8 := ⟨_, rfl⟩
    rw [hw8] at HRG HBE
    try simp only [List.toList_toArray]
    rw [hw8]
    clear hw8
    go_wp2_with fail
    refine bodyPost_ret (results_tct rfl _ _ B _ _ rfl HRG.out Tryz.underlying61 rfl Y1) rfl ?_
    exact ⟨0, 0, ⟨#[]⟩, by rw [hkd]; rfl, Nat.zero_le _, fun h => absurd h Y0, fun _ => rfl, Y13⟩
   ·
    rw [PFnGjSquashItems.bt_at (show q < s.size from Y0)] at hb
    have q0 : ((s[q].toNat : Int) == 123) = false := Y7
    have q1 : ((s[q].toNat : Int) == 91) = false := Y7
    have q2 : ((s[q].toNat : Int) == 34) = false := Y7
    have q3 : ((s[q].toNat : Int) == 110) = false := Y7
    have q4 : ((s[q].toNat : Int) == 116) = true := Y7
    have q5 : ((s[q].toNat : Int) == 102) = false := Y7
    have q9 : decide ((s[q].toNat : Int) ≤ 32) = false := Y7
    clear hb
    go_upto_region 59 with (go_at_call 78; refine (LC.out _).mono ?_; rintro en w4 ⟨rfl, k4, rfl⟩)
    have RG : Hid (World.rangeAt (((wr.drewN k4).setCell ⟨B + 1, 1, none⟩ (.string (s.extract q j))).setCell ⟨B + 1, 0, none⟩ (.int .i64 4)) (B + 1) 0 [.int .i64 4, .string (s.extract q j), .string ⟨#[]⟩, .float .f64 0, .int .i64 0, .slice none 0 0]) := hdd (rng_set (rng_set (rng_dn R1.out k4) 1 (.string (s.extract q j)) Y4) 0 (.int .i64 4) Y4)
    have RT : Hid (World.there (((wr.drewN k4).setCell ⟨B + 1, 1, none⟩ (.string (s.extract q j))).setCell ⟨B + 1, 0, none⟩ (.int .i64 4)) B 0 6) := hdd (thr_set (thr_set (thr_dn T1.out k4) ⟨B + 1, 1, none⟩ (.string (s.extract q j))) ⟨B + 1, 0, none⟩ (.int .i64 4))
    have RB : Hid (Below B w (((wr.drewN k4).setCell ⟨B + 1, 1, none⟩ (.string (s.extract q j))).setCell ⟨B + 1, 0, none⟩ (.int .i64 4))) := hdd (Below.setCell (p := ⟨B + 1, 0, none⟩) (Below.setCell (p := ⟨B + 1, 1, none⟩) (Below.drewNs HB1.out k4) (Nat.le_succ B) (.string (s.extract q j))) (Nat.le_succ B) (.int .i64 4))
    obtain ⟨w9, hw9⟩ : ∃ w9, ((wr.drewN k4).setCell ⟨B + 1, 1, none⟩ (.string (s.extract q j))).setCell ⟨B + 1, 0, none⟩ (.int .i64 4) = w9 := ⟨_, rfl⟩
    rw [hw9] at RG RT RB
    rw [hw9]
    clear hw9
    clear c0 cf0 c1 cf1 c2 cf2 c3 cf3 c4 cf4 c5 cf5 d0 df0 d1 df1 d2 df2 d3 df3 d4 df4 d5 df5
    refine wp_region_held_drew (S := fun w' => w'.rangeAt (B + 1) 0 [.int .i64 4, .string (s.extract q j), .string ⟨#[]⟩, .float .f64 0, .int .i64 0, .slice none 0 0] ∧ w'.there B 0 6) Y1 ⟨rng_d RG.out, thr_d RT.out⟩ (fun hHeld => ?_)
    refine take_d (i := 0) (v := _) (some 147) rfl rfl Y1 Y1 Y1 (fun _ _ _ h => h) (Or.inl ⟨Y6, fun _ _ => rfl⟩) hHeld ?_
    simp only [Act.put, List.setIfInBounds_toArray, List.set_cons_zero, List.set_cons_succ]
    refine take_d (i := 1) (some 148) rfl rfl Y1 Y1 Y1 (fun _ _ _ h => h) (yieldsIf_load_mid Y6 _ _ rfl _ _ rfl _ _ (fun _ h => h.1) Tryz.underlying61 rfl Y1) hHeld ?_
    simp only [Act.put, List.setIfInBounds_toArray, List.set_cons_zero, List.set_cons_succ]
    refine take_d (i := 2) (v := _) (some 6) rfl rfl Y1 Y1 Y1 (fun _ _ _ h => h) (Or.inl ⟨Y6, fun _ _ => rfl⟩) hHeld ?_
    simp only [Act.put, List.setIfInBounds_toArray, List.set_cons_zero, List.set_cons_succ]
    refine wpAnyH_ready (rs := [3]) Y1 Y4 (cons_d none rfl rfl (fun K hK => ?_) AllReadyH.nil)
    rw [if_pos Y6]
    refine store_d rfl _ _ _ rfl _ _ (List.toArray [.int .i64 4, .string (s.extract q j), .string ⟨#[]⟩, .float .f64 0, .int .i64 0, .slice none 0 0]) rfl rfl hHeld.2 Y1 Y16 ?_
    refine hK.out _ _ ⟨World.rangeAt_setCells_apart hHeld.1 _ _ _ (Or.inl Y0), World.there_setCells hHeld.2 _ _ _⟩ (fun hH2 => ?_)
    clear hK K
    refine take_d (i := 4) (v := _) (some 8) rfl rfl Y1 Y1 Y1 (fun _ _ _ h => h) (Or.inl ⟨Y6, fun _ _ => rfl⟩) hH2 ?_
    simp only [Act.put, List.setIfInBounds_toArray, List.set_cons_zero, List.set_cons_succ]
    refine wpAnyH_done Y1 ?_ _
    have HRG : Hid (World.rangeAt (World.setCells w9.drew B 0 [.int .i64 4, .string (s.extract q j), .string ⟨#[]⟩, .float .f64 0, .int .i64 0, .slice none 0 0]) B 0 [.int .i64 4, .string (s.extract q j), .string ⟨#[]⟩, .float .f64 0, .int .i64 0, .slice none 0 0]) := hdd (World.rangeAt_setCells_same _ _ _ _ hHeld.2)
    have HBE : Hid (Below B w (World.setCells w9.drew B 0 [.int .i64 4, .string (s.extract q j), .string ⟨#[]⟩, .float .f64 0, .int .i64 0, .slice none 0 0])) := hdd (Below.cellsN (Nat.le_refl B) _ 0 _ RB.out.drew)
    clear hHeld hH2
    obtain ⟨w8, hw8⟩ : ∃ w8, World.setCells w9.drew B 0 [.int .i64 4, .string (s.extract q j), .string ⟨#[]⟩, .float .f64 0, .int .i64 0, .slice none 0 0] = w8 := ⟨_, rfl⟩
    rw [hw8] at HRG HBE
    try simp only [List.toList_toArray]
    rw [hw8]
    clear hw8
    go_wp2_with fail
    refine bodyPost_ret (results_tct rfl _ _ B _ _ rfl HRG.out Tryz.underlying61 rfl Y1) rfl ?_
    exact ⟨0, 0, ⟨#[]⟩, by rw [hkd]; rfl, Nat.zero_le _, fun h => absurd h Y0, fun _ => rfl, Y13⟩
  ·
   have hb := hsk q hpq.out h
   rw [PFnGjSquashItems.bt_at (show q < s.size from Y0)] at hb
   have q1 : ((s[q].toNat : Int) == 123) = false := beq_eq_false_iff_ne.mpr Y0
   have q2 : ((s[q].toNat : Int) == 91) = false := beq_eq_false_iff_ne.mpr Y0
   have q3 : decide ((s[q].toNat : Int) ≤ 32) = true := decide_eq_true hb
   go_wp2_with fail
   go_roundg (gk - 1)
   case measure => have := hq.out; omega
   case rel => exact ⟨q + 1, Y10, hdd Y11, hdd Y24, hdd rfl⟩
set_option maxHeartbeats 8000000
set_option maxRecDepth 100000
attribute [local go_sem] run_store_flt
theorem any_num {w : World} {b0 : Nat} (h : MS w b0) (hBB : b0 ≤ w.heap.size) (s : ByteArray) (hs : s.size ≤ 65536) (p v j : Nat) (kd : Int) (hpv : p ≤ v) (hsk : ∀ q, p ≤ q → q < v → bt s (q : Int) ≤ 32) (hk : VK s kd v j) (he : NumEnd s j) (h3 : kd = 3) :
  Calls Tryz.prog 50 #[.string s, .int .i64 p, .bool true] w (AnyPost s kd v j w) := by
 obtain ⟨B, hB⟩ : ∃ B, w.heap.size = B := ⟨_, rfl⟩
 have ss : (s.size : Int) ≤ 65536 := Y0
 have hvs : v < s.size := Y25
 have hv := h.vc
 have HM := hdd h
 have HBB := hdd hBB
 clear h hBB
 go_enter Tryz.func50, Tryz.ntmps50
 go_upto_block 0 with (fail)
 obtain ⟨w1, hw1⟩ : ∃ w1, (w.alloc (Obj.cells #[.int .i64 0, .string ⟨#[]⟩, .string ⟨#[]⟩, .float .f64 0, .int .i64 0, .slice none 0 0] 61)).alloc (Obj.cells #[.int .i64 0, .string ⟨#[]⟩, .string ⟨#[]⟩, .float .f64 0, .int .i64 0, .slice none 0 0] 61) = w1 := ⟨_, rfl⟩
 have hs1 : w1.heap.size = B + 2 := Y2
 have b1 : Below B w w1 := Y31
 have R1 : Hid (w1.rangeAt (B + 1) 0 [.int .i64 0, .string ⟨#[]⟩, .string ⟨#[]⟩, .float .f64 0, .int .i64 0, .slice none 0 0]) := hdd Y32
 have T1 : Hid (w1.there B 0 6) := hdd Y22
 have T2 : Hid (w1.there (B + 1) 0 6) := hdd Y36
 have c0 : w1.cell? ⟨B, 0, none⟩ = some (.int .i64 0) := Y2
 have cf0 : w1.frozen? ⟨B, 0, none⟩ = false := Y2
 have c1 : w1.cell? ⟨B, 1, none⟩ = some (.string ⟨#[]⟩) := Y2
 have cf1 : w1.frozen? ⟨B, 1, none⟩ = false := Y2
 have c2 : w1.cell? ⟨B, 2, none⟩ = some (.string ⟨#[]⟩) := Y2
 have cf2 : w1.frozen? ⟨B, 2, none⟩ = false := Y2
 have c3 : w1.cell? ⟨B, 3, none⟩ = some (.float .f64 0) := Y2
 have cf3 : w1.frozen? ⟨B, 3, none⟩ = false := Y2
 have c4 : w1.cell? ⟨B, 4, none⟩ = some (.int .i64 0) := Y2
 have cf4 : w1.frozen? ⟨B, 4, none⟩ = false := Y2
 have c5 : w1.cell? ⟨B, 5, none⟩ = some (.slice none 0 0) := Y2
 have cf5 : w1.frozen? ⟨B, 5, none⟩ = false := Y2
 have d0 : w1.cell? ⟨B + 1, 0, none⟩ = some (.int .i64 0) := Y2
 have df0 : w1.frozen? ⟨B + 1, 0, none⟩ = false := Y2
 have d1 : w1.cell? ⟨B + 1, 1, none⟩ = some (.string ⟨#[]⟩) := Y2
 have df1 : w1.frozen? ⟨B + 1, 1, none⟩ = false := Y2
 have d2 : w1.cell? ⟨B + 1, 2, none⟩ = some (.string ⟨#[]⟩) := Y2
 have df2 : w1.frozen? ⟨B + 1, 2, none⟩ = false := Y2
 have d3 : w1.cell? ⟨B + 1, 3, none⟩ = some (.float .f64 0) := Y2
 have df3 : w1.frozen? ⟨B + 1, 3, none⟩ = false := Y2
 have d4 : w1.cell? ⟨B + 1, 4, none⟩ = some (.int .i64 0) := Y2
 have df4 : w1.frozen? ⟨B + 1, 4, none⟩ = false := Y2
 have d5 : w1.cell? ⟨B + 1, 5, none⟩ = some (.slice none 0 0) := Y2
 have df5 : w1.frozen? ⟨B + 1, 5, none⟩ = false := Y2
 have M1 : Hid (MS w1 b0) := hdd (HM.out.below (b1.mono Y23))
 have V1 : Hid (VC w1) := hdd M1.out.vc
 rw [hw1]
 clear hw1 hv
 have HB1 := hdd b1; have HS1 := hdd hs1
 clear b1 hs1
 go_wp2_with fail
 go_loopg [1] (v - p) (fun m v1 wr => ∃ q : Nat, v1 = .int .i64 (q : Int) ∧ Hid (q + m = v) ∧ Hid (p ≤ q) ∧ Hid (wr = w1))
 case atStart => exact ⟨p, rfl, hdd Y0, hdd (Nat.le_refl _), hdd rfl⟩
 case round =>
  obtain ⟨q, rfl, hq, hpq, hwr⟩ := hrel
  have hqv : q ≤ v := Y11
  have t0 : decide (q < s.size) = true := decide_eq_true Y0
  obtain rfl := hwr.out
  rcases Nat.eq_or_lt_of_le hqv with h | h
  ·
   subst h
   obtain ⟨hvj, hjs, hk3⟩ := hk
   obtain ⟨hb, hno⟩ : (bt s (q : Int) = 45 ∨ (48 ≤ bt s (q : Int) ∧ bt s (q : Int) ≤ 57)) ∧ ∀ p, q ≤ p → p < j → numOK (bt s (p : Int)) := by rcases hk3 with ⟨a, _⟩ | ⟨_, a, b⟩ | ⟨⟨a, _⟩ | ⟨a, _⟩ | ⟨a, _⟩, _⟩ | ⟨⟨a, _⟩ | ⟨a, _⟩, _⟩ <;> first | exact ⟨a, b⟩ | omega
   clear hk3
   have NC : Hid (∀ w : World, Calls Tryz.prog 79 #[.string s, .int .i64 (q : Int)] w fun e w' => e = .returned (.tuple #[.int .i64 (j : Int), .string (s.extract q j)]) ∧ ∃ n, w' = w.drewN n) := hdd (num_call hs hvj hjs hno he)
   have NS : Hid (NumStr (s.extract q j)) := hdd (num_str hjs hno)
   have NZ : Hid ((s.extract q j).size ≤ 65536) := hdd Y9
   clear hno
   have qi : (q : Int) ≤ 65536 := Y0
   rw [PFnGjSquashItems.bt_at (show q < s.size from Y0)] at hb
   have q0 : ((s[q].toNat : Int) == 123) = false := beq_eq_false_iff_ne.mpr Y0
   have q1 : ((s[q].toNat : Int) == 91) = false := beq_eq_false_iff_ne.mpr Y0
   have q2 : ((s[q].toNat : Int) == 34) = false := beq_eq_false_iff_ne.mpr Y0
   have q3 : ((s[q].toNat : Int) == 110) = false := beq_eq_false_iff_ne.mpr Y0
   have q4 : ((s[q].toNat : Int) == 116) = false := beq_eq_false_iff_ne.mpr Y0
   have q5 : ((s[q].toNat : Int) == 102) = false := beq_eq_false_iff_ne.mpr Y0
   have q9 : decide ((s[q].toNat : Int) ≤ 32) = false := decide_eq_false Y0
   go_upto_block 2 with (fail)
   go_cut [1, 11] (fun v1 v11 wc => v1 = .int .i64 (q : Int) ∧ v11 = .bool true ∧ Hid (wc = wr))
   case first =>
    have hx : (s[q].toNat : Int) = 45 ∨ (s[q].toNat : Int) = 48 ∨ (s[q].toNat : Int) = 49 ∨ (s[q].toNat : Int) = 50 ∨ (s[q].toNat : Int) = 51 ∨ (s[q].toNat : Int) = 52 ∨ (s[q].toNat : Int) = 53 ∨ (s[q].toNat : Int) = 54 ∨ (s[q].toNat : Int) = 55 ∨ (s[q].toNat : Int) = 56 ∨ (s[q].toNat : Int) = 57 := Y0
    clear hb
    rcases hx with hx | hx | hx | hx | hx | hx | hx | hx | hx | hx | hx
    ·
     have e43 : ((s[q].toNat : Int) == 43) = false := Y3
     have e45 : ((s[q].toNat : Int) == 45) = true := Y3
     clear hx
     go_wp2_with fail
     go_meet
     exact ⟨rfl, rfl, hdd rfl⟩
    ·
     have e43 : ((s[q].toNat : Int) == 43) = false := Y3
     have e45 : ((s[q].toNat : Int) == 45) = false := Y3
     have e48 : ((s[q].toNat : Int) == 48) = true := Y3
     clear hx
     go_wp2_with fail
     go_meet
     exact ⟨rfl, rfl, hdd rfl⟩
    ·
     have e43 : ((s[q].toNat : Int) == 43) = false := Y3
     have e45 : ((s[q].toNat : Int) == 45) = false := Y3
     have e48 : ((s[q].toNat : Int) == 48) = false := Y3
     have e49 : ((s[q].toNat : Int) == 49) = true := Y3
     clear hx
     go_wp2_with fail
     go_meet
     exact ⟨rfl, rfl, hdd rfl⟩
    ·
     have e43 : ((s[q].toNat : Int) == 43) = false := Y3
     have e45 : ((s[q].toNat : Int) == 45) = false := Y3
     have e48 : ((s[q].toNat : Int) == 48) = false := Y3
     have e49 : ((s[q].toNat : Int) == 49) = false := Y3
     have e50 : ((s[q].toNat : Int) == 50) = true := Y3
     clear hx
     go_wp2_with fail
     go_meet
     exact ⟨rfl, rfl, hdd rfl⟩
    ·
     have e43 : ((s[q].toNat : Int) == 43) = false := Y3
     have e45 : ((s[q].toNat : Int) == 45) = false := Y3
     have e48 : ((s[q].toNat : Int) == 48) = false := Y3
     have e49 : ((s[q].toNat : Int) == 49) = false := Y3
     have e50 : ((s[q].toNat : Int) == 50) = false := Y3
     have e51 : ((s[q].toNat : Int) == 51) = true := Y3
     clear hx
     go_wp2_with fail
     go_meet
     exact ⟨rfl, rfl, hdd rfl⟩
    ·
     have e43 : ((s[q].toNat : Int) == 43) = false := Y3
     have e45 : ((s[q].toNat : Int) == 45) = false := Y3
     have e48 : ((s[q].toNat : Int) == 48) = false := Y3
     have e49 : ((s[q].toNat : Int) == 49) = false := Y3
     have e50 : ((s[q].toNat : Int) == 50) = false := Y3
     have e51 : ((s[q].toNat : Int) == 51) = false := Y3
     have e52 : ((s[q].toNat : Int) == 52) = true := Y3
     clear hx
     go_wp2_with fail
     go_meet
     exact ⟨rfl, rfl, hdd rfl⟩
    ·
     have e43 : ((s[q].toNat : Int) == 43) = false := Y3
     have e45 : ((s[q].toNat : Int) == 45) = false := Y3
     have e48 : ((s[q].toNat : Int) == 48) = false := Y3
     have e49 : ((s[q].toNat : Int) == 49) = false := Y3
     have e50 : ((s[q].toNat : Int) == 50) = false := Y3
     have e51 : ((s[q].toNat : Int) == 51) = false := Y3
     have e52 : ((s[q].toNat : Int) == 52) = false := Y3
     have e53 : ((s[q].toNat : Int) == 53) = true := Y3
     clear hx
     go_wp2_with fail
     go_meet
     exact ⟨rfl, rfl, hdd rfl⟩
    ·
     have e43 : ((s[q].toNat : Int) == 43) = false := Y3
     have e45 : ((s[q].toNat : Int) == 45) = false := Y3
     have e48 : ((s[q].toNat : Int) == 48) = false := Y3
     have e49 : ((s[q].toNat : Int) == 49) = false := Y3
     have e50 : ((s[q].toNat : Int) == 50) = false := Y3
     have e51 : ((s[q].toNat : Int) == 51) = false := Y3
     have e52 : ((s[q].toNat : Int) == 52) = false := Y3
     have e53 : ((s[q].toNat : Int) == 53) = false := Y3
     have e54 : ((s[q].toNat : Int) == 54) = true := Y3
     clear hx
     go_wp2_with fail
     go_meet
     exact ⟨rfl, rfl, hdd rfl⟩
    ·
     have e43 : ((s[q].toNat : Int) == 43) = false := Y3
     have e45 : ((s[q].toNat : Int) == 45) = false := Y3
     have e48 : ((s[q].toNat : Int) == 48) = false := Y3
     have e49 : ((s[q].toNat : Int) == 49) = false := Y3
     have e50 : ((s[q].toNat : Int) == 50) = false := Y3
     have e51 : ((s[q].toNat : Int) == 51) = false := Y3
     have e52 : ((s[q].toNat : Int) == 52) = false := Y3
     have e53 : ((s[q].toNat : Int) == 53) = false := Y3
     have e54 : ((s[q].toNat : Int) == 54) = false := Y3
     have e55 : ((s[q].toNat : Int) == 55) = true := Y3
     clear hx
     go_wp2_with fail
     go_meet
     exact ⟨rfl, rfl, hdd rfl⟩
    ·
     have e43 : ((s[q].toNat : Int) == 43) = false := Y3
     have e45 : ((s[q].toNat : Int) == 45) = false := Y3
     have e48 : ((s[q].toNat : Int) == 48) = false := Y3
     have e49 : ((s[q].toNat : Int) == 49) = false := Y3
     have e50 : ((s[q].toNat : Int) == 50) = false := Y3
     have e51 : ((s[q].toNat : Int) == 51) = false := Y3
     have e52 : ((s[q].toNat : Int) == 52) = false := Y3
     have e53 : ((s[q].toNat : Int) == 53) = false := Y3
     have e54 : ((s[q].toNat : Int) == 54) = false := Y3
     have e55 : ((s[q].toNat : Int) == 55) = false := Y3
     have e56 : ((s[q].toNat : Int) == 56) = true := Y3
     clear hx
     go_wp2_with fail
     go_meet
     exact ⟨rfl, rfl, hdd rfl⟩
    ·
     have e43 : ((s[q].toNat : Int) == 43) = false := Y3
     have e45 : ((s[q].toNat : Int) == 45) = false := Y3
     have e48 : ((s[q].toNat : Int) == 48) = false := Y3
     have e49 : ((s[q].toNat : Int) == 49) = false := Y3
     have e50 : ((s[q].toNat : Int) == 50) = false := Y3
     have e51 : ((s[q].toNat : Int) == 51) = false := Y3
     have e52 : ((s[q].toNat : Int) == 52) = false := Y3
     have e53 : ((s[q].toNat : Int) == 53) = false := Y3
     have e54 : ((s[q].toNat : Int) == 54) = false := Y3
     have e55 : ((s[q].toNat : Int) == 55) = false := Y3
     have e56 : ((s[q].toNat : Int) == 56) = false := Y3
     have e57 : ((s[q].toNat : Int) == 57) = true := Y3
     clear hx
     go_wp2_with fail
     go_meet
     exact ⟨rfl, rfl, hdd rfl⟩
   case rest =>
    obtain ⟨rfl, rfl, hwc⟩ := hcut
    obtain rfl := hwc.out
    go_upto_region 66 with (go_at_call 79; (with_reducible refine (NC.out _).mono ?_); rintro en w4 ⟨rfl, k4, rfl⟩)
    have R5 : Hid (World.rangeAt (((wc.drewN k4).setCell ⟨B + 1, 1, none⟩ (.string (s.extract q j))).setCell ⟨B + 1, 0, none⟩ (.int .i64 2)) (B + 1) 0 [.int .i64 2, .string (s.extract q j), .string ⟨#[]⟩, .float .f64 0, .int .i64 0, .slice none 0 0]) := hdd (rng_set (rng_set (rng_dn R1.out k4) 1 (.string (s.extract q j)) Y4) 0 (.int .i64 2) Y4)
    have T5 : Hid (World.there (((wc.drewN k4).setCell ⟨B + 1, 1, none⟩ (.string (s.extract q j))).setCell ⟨B + 1, 0, none⟩ (.int .i64 2)) B 0 6) := hdd (thr_set (thr_set (thr_dn T1.out k4) _ _) _ _)
    have U5 : Hid (World.there (((wc.drewN k4).setCell ⟨B + 1, 1, none⟩ (.string (s.extract q j))).setCell ⟨B + 1, 0, none⟩ (.int .i64 2)) (B + 1) 0 6) := hdd (thr_set (thr_set (thr_dn T2.out k4) _ _) _ _)
    have B5 : Hid (Below B w (((wc.drewN k4).setCell ⟨B + 1, 1, none⟩ (.string (s.extract q j))).setCell ⟨B + 1, 0, none⟩ (.int .i64 2))) := hdd (Below.setCell (p := ⟨B + 1, 0, none⟩) (Below.setCell (p := ⟨B + 1, 1, none⟩) (Below.drewNs HB1.out k4) (Nat.le_succ B) _) (Nat.le_succ B) _)
    obtain ⟨w5, hw5⟩ : ∃ w5, ((wc.drewN k4).setCell ⟨B + 1, 1, none⟩ (.string (s.extract q j))).setCell ⟨B + 1, 0, none⟩ (.int .i64 2) = w5 := ⟨_, rfl⟩
    rw [hw5] at R5 T5 U5 B5
    rw [hw5]
    clear hw5
    clear c0 cf0 c1 cf1 c2 cf2 c3 cf3 c4 cf4 c5 cf5 d0 df0 d1 df1 d2 df2 d3 df3 d4 df4 d5 df5
    have M5 : Hid (MS w5 b0) := hdd (HM.out.below (B5.out.mono Y23))
    have HB5 : Hid (b0 ≤ w5.heap.size) := hdd (by have := B5.out.size; have := HBB.out; omega)
    have e2 : w5.cell? ⟨B + 1, 3, none⟩ = some (.float .f64 0) := R5.out 3 _ rfl
    have ef2 : w5.frozen? ⟨B + 1, 3, none⟩ = false := (U5.out 3 Y0).2
    go_upto_region 67 with (go_at_call 80; refine (parsefloat_any M5.out.ts HB5.out _ NZ.out NS.out).mono ?_; rintro en w6 ⟨⟨fl, er⟩, hb6⟩; have e6 := cellB hb6 e2; have f6 := frozB hb6 e2 ef2; have HB6 := hdd hb6; clear hb6)
    have R1 := hdd (rng_b R5.out HB6.out)
    have T1 := hdd (thr_b T5.out HB6.out)
    have HB1 : Hid (Below B w w6) := hdd (B5.out.trans (HB6.out.mono Y26))
    clear e2 ef2 e6 f6
    have RG : Hid (World.rangeAt (w6.setCell ⟨B + 1, 3, none⟩ (.float .f64 fl)) (B + 1) 0 [.int .i64 2, .string (s.extract q j), .string ⟨#[]⟩, .float .f64 fl, .int .i64 0, .slice none 0 0]) := hdd (rng_set R1.out 3 (.float .f64 fl) Y4)
    have RT : Hid (World.there (w6.setCell ⟨B + 1, 3, none⟩ (.float .f64 fl)) B 0 6) := hdd (thr_set T1.out ⟨B + 1, 3, none⟩ (.float .f64 fl))
    have RB : Hid (Below B w (w6.setCell ⟨B + 1, 3, none⟩ (.float .f64 fl))) := hdd (Below.setCell (p := ⟨B + 1, 3, none⟩) HB1.out (Nat.le_succ B) (.float .f64 fl))
    obtain ⟨w9, hw9⟩ : ∃ w9, w6.setCell ⟨B + 1, 3, none⟩ (.float .f64 fl) = w9 := ⟨_, rfl⟩
    rw [hw9] at RG RT RB
    rw [hw9]
    clear hw9
    refine wp_region_held_drew (S := fun w' => w'.rangeAt (B + 1) 0 [.int .i64 2, .string (s.extract q j), .string ⟨#[]⟩, .float .f64 fl, .int .i64 0, .slice none 0 0] ∧ w'.there B 0 6) Y1 ⟨rng_d RG.out, thr_d RT.out⟩ (fun hHeld => ?_)
    refine take_d (i := 0) (v := _) (some 166) rfl rfl Y1 Y1 Y1 (fun _ _ _ h => h) (Or.inl ⟨Y6, fun _ _ => rfl⟩) hHeld ?_
    simp only [Act.put, List.setIfInBounds_toArray, List.set_cons_zero, List.set_cons_succ]
    refine take_d (i := 1) (some 167) rfl rfl Y1 Y1 Y1 (fun _ _ _ h => h) (yieldsIf_load_mid Y6 _ _ rfl _ _ rfl _ _ (fun _ h => h.1) Tryz.underlying61 rfl Y1) hHeld ?_
    simp only [Act.put, List.setIfInBounds_toArray, List.set_cons_zero, List.set_cons_succ]
    refine take_d (i := 2) (v := _) (some 6) rfl rfl Y1 Y1 Y1 (fun _ _ _ h => h) (Or.inl ⟨Y6, fun _ _ => rfl⟩) hHeld ?_
    simp only [Act.put, List.setIfInBounds_toArray, List.set_cons_zero, List.set_cons_succ]
    refine wpAnyH_ready (rs := [3]) Y1 Y4 (cons_d none rfl rfl (fun K hK => ?_) AllReadyH.nil)
    rw [if_pos Y6]
    refine store_d rfl _ _ _ rfl _ _ (List.toArray [.int .i64 2, .string (s.extract q j), .string ⟨#[]⟩, .float .f64 fl, .int .i64 0, .slice none 0 0]) rfl rfl hHeld.2 Y1 Y16 ?_
    refine hK.out _ _ ⟨World.rangeAt_setCells_apart hHeld.1 _ _ _ (Or.inl Y0), World.there_setCells hHeld.2 _ _ _⟩ (fun hH2 => ?_)
    clear hK K
    refine take_d (i := 4) (v := _) (some 8) rfl rfl Y1 Y1 Y1 (fun _ _ _ h => h) (Or.inl ⟨Y6, fun _ _ => rfl⟩) hH2 ?_
    simp only [Act.put, List.setIfInBounds_toArray, List.set_cons_zero, List.set_cons_succ]
    refine wpAnyH_done Y1 ?_ _
    have HRG : Hid (World.rangeAt (World.setCells w9.drew B 0 [.int .i64 2, .string (s.extract q j), .string ⟨#[]⟩, .float .f64 fl, .int .i64 0, .slice none 0 0]) B 0 [.int .i64 2, .string (s.extract q j), .string ⟨#[]⟩, .float .f64 fl, .int .i64 0, .slice none 0 0]) := hdd (World.rangeAt_setCells_same _ _ _ _ hHeld.2)
    have HBE : Hid (Below B w (World.setCells w9.drew B 0 [.int .i64 2, .string (s.extract q j), .string ⟨#[]⟩, .float .f64 fl, .int .i64 0, .slice none 0 0])) := hdd (Below.cellsN (Nat.le_refl B) _ 0 _ RB.out.drew)
    clear hHeld hH2
    obtain ⟨w8, hw8⟩ : ∃ w8, World.setCells w9.drew B 0 [.int .i64 2, .string (s.extract q j), .string ⟨#[]⟩, .float .f64 fl, .int .i64 0, .slice none 0 0] = w8 := ⟨_, rfl⟩
    rw [hw8] at HRG HBE
    try simp only [List.toList_toArray]
    rw [hw8]
    clear hw8
    go_wp2_with fail
    refine bodyPost_ret (results_tct rfl _ _ B _ _ rfl HRG.out Tryz.underlying61 rfl Y1) rfl ?_
    exact ⟨fl, 0, ⟨#[]⟩, by rw [h3]; rfl, Nat.zero_le _, fun h => absurd h Y0, fun _ => rfl, Y13⟩
  ·
   have hb := hsk q hpq.out h
   rw [PFnGjSquashItems.bt_at (show q < s.size from Y0)] at hb
   have q1 : ((s[q].toNat : Int) == 123) = false := beq_eq_false_iff_ne.mpr Y0
   have q2 : ((s[q].toNat : Int) == 91) = false := beq_eq_false_iff_ne.mpr Y0
   have q3 : decide ((s[q].toNat : Int) ≤ 32) = true := decide_eq_true hb
   go_wp2_with fail
   go_roundg (gk - 1)
   case measure => have := hq.out; omega
   case rel => exact ⟨q + 1, Y10, hdd Y11, hdd Y24, hdd rfl⟩
end Go.Proofs.YtieflhncpjjciaaGreatDoor.Dc
