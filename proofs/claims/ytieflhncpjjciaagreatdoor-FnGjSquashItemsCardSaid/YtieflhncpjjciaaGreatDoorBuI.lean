/- Walks and plain laws of this claim. -/
import Derived.Test.YtieflhncpjjciaaGreatDoorBuH
import Derived.Test.YtieflhncpjjciaaGreatDoorBuE
import Derived.Deep.RegionHeld3
set_option linter.unusedVariables false
set_option linter.unusedSimpArgs false
namespace Go.Proofs.YtieflhncpjjciaaGreatDoor.Dc
open Go Go.RowKit Go.Proofs.YtieflhncpjjciaaGreatDoorW.PrintWords Go.Proofs.YtieflhncpjjciaaGreatDoor.PFnGjSquashItems
set_option maxHeartbeats 8000000
set_option maxRecDepth 100000
attribute [local go_sem] run_store_flt
theorem any_json {w : World} {b0 : Nat} (h : MS w b0) (hBB : b0 ≤ w.heap.size) (s : ByteArray) (hs : s.size ≤ 65536) (p v j : Nat) (kd : Int) (hpv : p ≤ v) (hsk : ∀ q, p ≤ q → q < v → bt s (q : Int) ≤ 32) (hk : VK s kd v j) (h5 : 5 ≤ kd) :
  Calls Tryz.prog 50 #[.string s, .int .i64 p, .bool true] w (AnyPost s kd v j w) := by
 obtain ⟨B, hB⟩ : ∃ B, w.heap.size = B := ⟨_, rfl⟩
 have ss : (s.size : Int) ≤ 65536 := by omega
 have hvs : v < s.size := by have := hk.1; have := hk.2.1; omega
 have hv := h.vc
 have HM := Lib.hid h
 have HBB := Lib.hid hBB
 clear h hBB
 go_enter Tryz.func50, Tryz.ntmps50
 go_upto_block 0 with (fail)
 obtain ⟨w1, hw1⟩ : ∃ w1, (w.alloc (Obj.cells #[.int .i64 0, .string ⟨#[]⟩, .string ⟨#[]⟩, .float .f64 0, .int .i64 0, .slice none 0 0] 61)).alloc (Obj.cells #[.int .i64 0, .string ⟨#[]⟩, .string ⟨#[]⟩, .float .f64 0, .int .i64 0, .slice none 0 0] 61) = w1 := ⟨_, rfl⟩
 have hs1 : w1.heap.size = B + 2 := by rw [← hw1, ← hB]; simp [go_sem]
 have b1 : Below B w w1 := by rw [← hw1]; exact ((Below.refl _ w).alloc (by omega) _).alloc (by simp [go_sem]; omega) _
 have R1 : Hid (w1.rangeAt (B + 1) 0 [.int .i64 0, .string ⟨#[]⟩, .string ⟨#[]⟩, .float .f64 0, .int .i64 0, .slice none 0 0]) := Lib.hid (by rw [← hw1, ← hB]; have hn := rng_new (w.alloc (Obj.cells #[.int .i64 0, .string ⟨#[]⟩, .string ⟨#[]⟩, .float .f64 0, .int .i64 0, .slice none 0 0] 61)) [.int .i64 0, .string ⟨#[]⟩, .string ⟨#[]⟩, .float .f64 0, .int .i64 0, .slice none 0 0] 61; rwa [show (w.alloc (Obj.cells #[.int .i64 0, .string ⟨#[]⟩, .string ⟨#[]⟩, .float .f64 0, .int .i64 0, .slice none 0 0] 61)).heap.size = w.heap.size + 1 from by simp [go_sem]] at hn)
 have T1 : Hid (w1.there B 0 6) := Lib.hid (by rw [← hw1, ← hB]; exact thr_al (thr_new w [.int .i64 0, .string ⟨#[]⟩, .string ⟨#[]⟩, .float .f64 0, .int .i64 0, .slice none 0 0] 61) _)
 have c0 : w1.cell? ⟨B, 0, none⟩ = some (.int .i64 0) := by rw [← hw1, ← hB]; simp [go_sem]
 have cf0 : w1.frozen? ⟨B, 0, none⟩ = false := by rw [← hw1, ← hB]; simp [go_sem]
 have c1 : w1.cell? ⟨B, 1, none⟩ = some (.string ⟨#[]⟩) := by rw [← hw1, ← hB]; simp [go_sem]
 have cf1 : w1.frozen? ⟨B, 1, none⟩ = false := by rw [← hw1, ← hB]; simp [go_sem]
 have c2 : w1.cell? ⟨B, 2, none⟩ = some (.string ⟨#[]⟩) := by rw [← hw1, ← hB]; simp [go_sem]
 have cf2 : w1.frozen? ⟨B, 2, none⟩ = false := by rw [← hw1, ← hB]; simp [go_sem]
 have c3 : w1.cell? ⟨B, 3, none⟩ = some (.float .f64 0) := by rw [← hw1, ← hB]; simp [go_sem]
 have cf3 : w1.frozen? ⟨B, 3, none⟩ = false := by rw [← hw1, ← hB]; simp [go_sem]
 have c4 : w1.cell? ⟨B, 4, none⟩ = some (.int .i64 0) := by rw [← hw1, ← hB]; simp [go_sem]
 have cf4 : w1.frozen? ⟨B, 4, none⟩ = false := by rw [← hw1, ← hB]; simp [go_sem]
 have c5 : w1.cell? ⟨B, 5, none⟩ = some (.slice none 0 0) := by rw [← hw1, ← hB]; simp [go_sem]
 have cf5 : w1.frozen? ⟨B, 5, none⟩ = false := by rw [← hw1, ← hB]; simp [go_sem]
 have d0 : w1.cell? ⟨B + 1, 0, none⟩ = some (.int .i64 0) := by rw [← hw1, ← hB]; simp [go_sem]
 have df0 : w1.frozen? ⟨B + 1, 0, none⟩ = false := by rw [← hw1, ← hB]; simp [go_sem]
 have d1 : w1.cell? ⟨B + 1, 1, none⟩ = some (.string ⟨#[]⟩) := by rw [← hw1, ← hB]; simp [go_sem]
 have df1 : w1.frozen? ⟨B + 1, 1, none⟩ = false := by rw [← hw1, ← hB]; simp [go_sem]
 have d2 : w1.cell? ⟨B + 1, 2, none⟩ = some (.string ⟨#[]⟩) := by rw [← hw1, ← hB]; simp [go_sem]
 have df2 : w1.frozen? ⟨B + 1, 2, none⟩ = false := by rw [← hw1, ← hB]; simp [go_sem]
 have d3 : w1.cell? ⟨B + 1, 3, none⟩ = some (.float .f64 0) := by rw [← hw1, ← hB]; simp [go_sem]
 have df3 : w1.frozen? ⟨B + 1, 3, none⟩ = false := by rw [← hw1, ← hB]; simp [go_sem]
 have d4 : w1.cell? ⟨B + 1, 4, none⟩ = some (.int .i64 0) := by rw [← hw1, ← hB]; simp [go_sem]
 have df4 : w1.frozen? ⟨B + 1, 4, none⟩ = false := by rw [← hw1, ← hB]; simp [go_sem]
 have d5 : w1.cell? ⟨B + 1, 5, none⟩ = some (.slice none 0 0) := by rw [← hw1, ← hB]; simp [go_sem]
 have df5 : w1.frozen? ⟨B + 1, 5, none⟩ = false := by rw [← hw1, ← hB]; simp [go_sem]
 have M1 : Hid (MS w1 b0) := Lib.hid (HM.out.below (b1.mono (by rw [← hB]; exact HBB.out)))
 have V1 : Hid (VC w1) := Lib.hid M1.out.vc
 rw [hw1]
 clear hw1 hv
 have HB1 := Lib.hid b1; have HS1 := Lib.hid hs1
 clear b1 hs1
 go_wp2_with fail
 go_loopg [1] (v - p) (fun m v1 wr => ∃ q : Nat, v1 = .int .i64 (q : Int) ∧ Hid (q + m = v) ∧ Hid (p ≤ q) ∧ Hid (wr = w1))
 case atStart => exact ⟨p, rfl, Lib.hid (by omega), Lib.hid (Nat.le_refl _), Lib.hid rfl⟩
 case round =>
  obtain ⟨q, rfl, hq, hpq, hwr⟩ := hrel
  have hqv : q ≤ v := by have := hq.out; omega
  have t0 : decide (q < s.size) = true := decide_eq_true (by omega)
  obtain rfl := hwr.out
  rcases Nat.eq_or_lt_of_le hqv with h | h
  ·
   subst h
   obtain ⟨hvj, hjs, hk3⟩ := hk
   have hsq : Sq s (j - 1) (q + 1) 1 := by rcases hk3 with ⟨a, _⟩ | ⟨a, _⟩ | ⟨a, _⟩ | ⟨_, b⟩ <;> first | exact b | omega
   have hb : bt s (q : Int) = 91 ∨ bt s (q : Int) = 123 := by rcases hk3 with ⟨a, _⟩ | ⟨a, _⟩ | ⟨a, _⟩ | ⟨a, _⟩ <;> omega
   have hgk : gkd kd = 5 := by unfold gkd; repeat (rw [if_neg (by omega)])
   rw [PFnGjSquashItems.bt_at (show q < s.size by omega)] at hb
   have HSQ := Lib.hid hsq
   obtain ⟨n9, hn9⟩ : ∃ n9, j - q = n9 := ⟨_, rfl⟩
   have jn : (j : Int) - (n9 : Int) = (q : Int) := by omega
   have mj : min (j : Int) (s.size : Int) = (j : Int) := by omega
   have hj1 : j - 1 + 1 = j := by omega
   have jb : (j : Int) ≤ 65536 := by omega
   have xz : (s.extract q j).size = n9 := by rw [ByteArray.size_extract]; omega
   clear hn9
   have HGK := Lib.hid hgk
   clear hsq hk3 hgk
   rcases hb with hb | hb
   ·
    have q1 : ((s[q].toNat : Int) == 123) = false := by rw [hb]; rfl
    have q2 : ((s[q].toNat : Int) == 91) = true := by rw [hb]; rfl
    go_upto_region 12 with (go_at_call 77; refine (squash_any V1.out s hs q (j - 1) HSQ.out).mono ?_; rintro en w4 ⟨rfl, k4, rfl⟩; rw [hj1])
    have RG : Hid (World.rangeAt ((((wr.drewN k4).setCell ⟨B + 1, 1, none⟩ (.string (s.extract q j))).setCell ⟨B + 1, 0, none⟩ (.int .i64 5)).setCell ⟨B + 1, 4, none⟩ (.int .i64 (q : Int))) (B + 1) 0 [.int .i64 5, .string (s.extract q j), .string ⟨#[]⟩, .float .f64 0, .int .i64 (q : Int), .slice none 0 0]) := Lib.hid (rng_set (rng_set (rng_set (rng_dn R1.out k4) 1 (.string (s.extract q j)) (by simp)) 0 (.int .i64 5) (by simp)) 4 (.int .i64 (q : Int)) (by simp))
    have RT : Hid (World.there ((((wr.drewN k4).setCell ⟨B + 1, 1, none⟩ (.string (s.extract q j))).setCell ⟨B + 1, 0, none⟩ (.int .i64 5)).setCell ⟨B + 1, 4, none⟩ (.int .i64 (q : Int))) B 0 6) := Lib.hid (thr_set (thr_set (thr_set (thr_dn T1.out k4) ⟨B + 1, 1, none⟩ (.string (s.extract q j))) ⟨B + 1, 0, none⟩ (.int .i64 5)) ⟨B + 1, 4, none⟩ (.int .i64 (q : Int)))
    have RB : Hid (Below B w ((((wr.drewN k4).setCell ⟨B + 1, 1, none⟩ (.string (s.extract q j))).setCell ⟨B + 1, 0, none⟩ (.int .i64 5)).setCell ⟨B + 1, 4, none⟩ (.int .i64 (q : Int)))) := Lib.hid (Below.setCell (p := ⟨B + 1, 4, none⟩) (Below.setCell (p := ⟨B + 1, 0, none⟩) (Below.setCell (p := ⟨B + 1, 1, none⟩) (Below.drewNs HB1.out k4) (Nat.le_succ B) (.string (s.extract q j))) (Nat.le_succ B) (.int .i64 5)) (Nat.le_succ B) (.int .i64 (q : Int)))
    obtain ⟨w9, hw9⟩ : ∃ w9, (((wr.drewN k4).setCell ⟨B + 1, 1, none⟩ (.string (s.extract q j))).setCell ⟨B + 1, 0, none⟩ (.int .i64 5)).setCell ⟨B + 1, 4, none⟩ (.int .i64 (q : Int)) = w9 := ⟨_, rfl⟩
    rw [hw9] at RG RT RB
    rw [hw9]
    clear hw9
    clear c0 cf0 c1 cf1 c2 cf2 c3 cf3 c4 cf4 c5 cf5 d0 df0 d1 df1 d2 df2 d3 df3 d4 df4 d5 df5
    refine wp_region_held_drew (S := fun w' => w'.rangeAt (B + 1) 0 [.int .i64 5, .string (s.extract q j), .string ⟨#[]⟩, .float .f64 0, .int .i64 (q : Int), .slice none 0 0] ∧ w'.there B 0 6) (by kernel_rfl) ⟨rng_d RG.out, thr_d RT.out⟩ (fun hHeld => ?_)
    refine take_d (i := 0) (v := _) (some 50) rfl rfl (by kernel_rfl) (by kernel_rfl) (by kernel_rfl) (fun _ _ _ h => h) (Or.inl ⟨by rfl, fun _ _ => rfl⟩) hHeld ?_
    simp only [Act.put, List.setIfInBounds_toArray, List.set_cons_zero, List.set_cons_succ]
    refine take_d (i := 1) (some 51) rfl rfl (by kernel_rfl) (by kernel_rfl) (by kernel_rfl) (fun _ _ _ h => h) (yieldsIf_load_mid (by rfl) _ _ rfl _ _ rfl _ _ (fun _ h => h.1) Tryz.underlying61 rfl (by kernel_rfl)) hHeld ?_
    simp only [Act.put, List.setIfInBounds_toArray, List.set_cons_zero, List.set_cons_succ]
    refine take_d (i := 2) (v := _) (some 6) rfl rfl (by kernel_rfl) (by kernel_rfl) (by kernel_rfl) (fun _ _ _ h => h) (Or.inl ⟨by rfl, fun _ _ => rfl⟩) hHeld ?_
    simp only [Act.put, List.setIfInBounds_toArray, List.set_cons_zero, List.set_cons_succ]
    refine wpAnyH_ready (rs := [3]) (by kernel_rfl) (by simp) (cons_d none rfl rfl (fun K hK => ?_) AllReadyH.nil)
    rw [if_pos (by rfl)]
    refine store_d rfl _ _ _ rfl _ _ (List.toArray [.int .i64 5, .string (s.extract q j), .string ⟨#[]⟩, .float .f64 0, .int .i64 (q : Int), .slice none 0 0]) rfl rfl hHeld.2 (by kernel_rfl) (by simp [Value.oneCell']) ?_
    refine hK.out _ _ ⟨World.rangeAt_setCells_apart hHeld.1 _ _ _ (Or.inl (by omega)), World.there_setCells hHeld.2 _ _ _⟩ (fun hH2 => ?_)
    clear hK K
    refine take_d (i := 4) (v := _) (some 8) rfl rfl (by kernel_rfl) (by kernel_rfl) (by kernel_rfl) (fun _ _ _ h => h) (Or.inl ⟨by rfl, fun _ _ => rfl⟩) hH2 ?_
    simp only [Act.put, List.setIfInBounds_toArray, List.set_cons_zero, List.set_cons_succ]
    refine wpAnyH_done (by kernel_rfl) ?_ _
    have HRG : Hid (World.rangeAt (World.setCells w9.drew B 0 [.int .i64 5, .string (s.extract q j), .string ⟨#[]⟩, .float .f64 0, .int .i64 (q : Int), .slice none 0 0]) B 0 [.int .i64 5, .string (s.extract q j), .string ⟨#[]⟩, .float .f64 0, .int .i64 (q : Int), .slice none 0 0]) := Lib.hid (World.rangeAt_setCells_same _ _ _ _ hHeld.2)
    have HBE : Hid (Below B w (World.setCells w9.drew B 0 [.int .i64 5, .string (s.extract q j), .string ⟨#[]⟩, .float .f64 0, .int .i64 (q : Int), .slice none 0 0])) := Lib.hid (Below.cellsN (Nat.le_refl B) _ 0 _ RB.out.drew)
    clear hHeld hH2
    obtain ⟨w8, hw8⟩ : ∃ w8, World.setCells w9.drew B 0 [.int .i64 5, .string (s.extract q j), .string ⟨#[]⟩, .float .f64 0, .int .i64 (q : Int), .slice none 0 0] = w8 := ⟨_, rfl⟩
    rw [hw8] at HRG HBE
    try simp only [List.toList_toArray]
    rw [hw8]
    clear hw8
    go_wp2_with fail
    refine bodyPost_ret (results_tct rfl _ _ B _ _ rfl HRG.out Tryz.underlying61 rfl (by kernel_rfl)) rfl ?_
    exact ⟨0, q, ⟨#[]⟩, by rw [HGK.out]; rfl, Nat.le_of_lt hvs, fun h => absurd h (by omega), fun _ => rfl, by rw [hB]; exact HBE.out⟩
   ·
    have q1 : ((s[q].toNat : Int) == 123) = true := by rw [hb]; rfl
    go_upto_region 12 with (go_at_call 77; refine (squash_any V1.out s hs q (j - 1) HSQ.out).mono ?_; rintro en w4 ⟨rfl, k4, rfl⟩; rw [hj1])
    have RG : Hid (World.rangeAt ((((wr.drewN k4).setCell ⟨B + 1, 1, none⟩ (.string (s.extract q j))).setCell ⟨B + 1, 0, none⟩ (.int .i64 5)).setCell ⟨B + 1, 4, none⟩ (.int .i64 (q : Int))) (B + 1) 0 [.int .i64 5, .string (s.extract q j), .string ⟨#[]⟩, .float .f64 0, .int .i64 (q : Int), .slice none 0 0]) := Lib.hid (rng_set (rng_set (rng_set (rng_dn R1.out k4) 1 (.string (s.extract q j)) (by simp)) 0 (.int .i64 5) (by simp)) 4 (.int .i64 (q : Int)) (by simp))
    have RT : Hid (World.there ((((wr.drewN k4).setCell ⟨B + 1, 1, none⟩ (.string (s.extract q j))).setCell ⟨B + 1, 0, none⟩ (.int .i64 5)).setCell ⟨B + 1, 4, none⟩ (.int .i64 (q : Int))) B 0 6) := Lib.hid (thr_set (thr_set (thr_set (thr_dn T1.out k4) ⟨B + 1, 1, none⟩ (.string (s.extract q j))) ⟨B + 1, 0, none⟩ (.int .i64 5)) ⟨B + 1, 4, none⟩ (.int .i64 (q : Int)))
    have RB : Hid (Below B w ((((wr.drewN k4).setCell ⟨B + 1, 1, none⟩ (.string (s.extract q j))).setCell ⟨B + 1, 0, none⟩ (.int .i64 5)).setCell ⟨B + 1, 4, none⟩ (.int .i64 (q : Int)))) := Lib.hid (Below.setCell (p := ⟨B + 1, 4, none⟩) (Below.setCell (p := ⟨B + 1, 0, none⟩) (Below.setCell (p := ⟨B + 1, 1, none⟩) (Below.drewNs HB1.out k4) (Nat.le_succ B) (.string (s.extract q j))) (Nat.le_succ B) (.int .i64 5)) (Nat.le_succ B) (.int .i64 (q : Int)))
    obtain ⟨w9, hw9⟩ : ∃ w9, (((wr.drewN k4).setCell ⟨B + 1, 1, none⟩ (.string (s.extract q j))).setCell ⟨B + 1, 0, none⟩ (.int .i64 5)).setCell ⟨B + 1, 4, none⟩ (.int .i64 (q : Int)) = w9 := ⟨_, rfl⟩
    rw [hw9] at RG RT RB
    rw [hw9]
    clear hw9
    clear c0 cf0 c1 cf1 c2 cf2 c3 cf3 c4 cf4 c5 cf5 d0 df0 d1 df1 d2 df2 d3 df3 d4 df4 d5 df5
    refine wp_region_held_drew (S := fun w' => w'.rangeAt (B + 1) 0 [.int .i64 5, .string (s.extract q j), .string ⟨#[]⟩, .float .f64 0, .int .i64 (q : Int), .slice none 0 0] ∧ w'.there B 0 6) (by kernel_rfl) ⟨rng_d RG.out, thr_d RT.out⟩ (fun hHeld => ?_)
    refine take_d (i := 0) (v := _) (some 50) rfl rfl (by kernel_rfl) (by kernel_rfl) (by kernel_rfl) (fun _ _ _ h => h) (Or.inl ⟨by rfl, fun _ _ => rfl⟩) hHeld ?_
    simp only [Act.put, List.setIfInBounds_toArray, List.set_cons_zero, List.set_cons_succ]
    refine take_d (i := 1) (some 51) rfl rfl (by kernel_rfl) (by kernel_rfl) (by kernel_rfl) (fun _ _ _ h => h) (yieldsIf_load_mid (by rfl) _ _ rfl _ _ rfl _ _ (fun _ h => h.1) Tryz.underlying61 rfl (by kernel_rfl)) hHeld ?_
    simp only [Act.put, List.setIfInBounds_toArray, List.set_cons_zero, List.set_cons_succ]
    refine take_d (i := 2) (v := _) (some 6) rfl rfl (by kernel_rfl) (by kernel_rfl) (by kernel_rfl) (fun _ _ _ h => h) (Or.inl ⟨by rfl, fun _ _ => rfl⟩) hHeld ?_
    simp only [Act.put, List.setIfInBounds_toArray, List.set_cons_zero, List.set_cons_succ]
    refine wpAnyH_ready (rs := [3]) (by kernel_rfl) (by simp) (cons_d none rfl rfl (fun K hK => ?_) AllReadyH.nil)
    rw [if_pos (by rfl)]
    refine store_d rfl _ _ _ rfl _ _ (List.toArray [.int .i64 5, .string (s.extract q j), .string ⟨#[]⟩, .float .f64 0, .int .i64 (q : Int), .slice none 0 0]) rfl rfl hHeld.2 (by kernel_rfl) (by simp [Value.oneCell']) ?_
    refine hK.out _ _ ⟨World.rangeAt_setCells_apart hHeld.1 _ _ _ (Or.inl (by omega)), World.there_setCells hHeld.2 _ _ _⟩ (fun hH2 => ?_)
    clear hK K
    refine take_d (i := 4) (v := _) (some 8) rfl rfl (by kernel_rfl) (by kernel_rfl) (by kernel_rfl) (fun _ _ _ h => h) (Or.inl ⟨by rfl, fun _ _ => rfl⟩) hH2 ?_
    simp only [Act.put, List.setIfInBounds_toArray, List.set_cons_zero, List.set_cons_succ]
    refine wpAnyH_done (by kernel_rfl) ?_ _
    have HRG : Hid (World.rangeAt (World.setCells w9.drew B 0 [.int .i64 5, .string (s.extract q j), .string ⟨#[]⟩, .float .f64 0, .int .i64 (q : Int), .slice none 0 0]) B 0 [.int .i64 5, .string (s.extract q j), .string ⟨#[]⟩, .float .f64 0, .int .i64 (q : Int), .slice none 0 0]) := Lib.hid (World.rangeAt_setCells_same _ _ _ _ hHeld.2)
    have HBE : Hid (Below B w (World.setCells w9.drew B 0 [.int .i64 5, .string (s.extract q j), .string ⟨#[]⟩, .float .f64 0, .int .i64 (q : Int), .slice none 0 0])) := Lib.hid (Below.cellsN (Nat.le_refl B) _ 0 _ RB.out.drew)
    clear hHeld hH2
    obtain ⟨w8, hw8⟩ : ∃ w8, World.setCells w9.drew B 0 [.int .i64 5, .string (s.extract q j), .string ⟨#[]⟩, .float .f64 0, .int .i64 (q : Int), .slice none 0 0] = w8 := ⟨_, rfl⟩
    rw [hw8] at HRG HBE
    try simp only [List.toList_toArray]
    rw [hw8]
    clear hw8
    go_wp2_with fail
    refine bodyPost_ret (results_tct rfl _ _ B _ _ rfl HRG.out Tryz.underlying61 rfl (by kernel_rfl)) rfl ?_
    exact ⟨0, q, ⟨#[]⟩, by rw [HGK.out]; rfl, Nat.le_of_lt hvs, fun h => absurd h (by omega), fun _ => rfl, by rw [hB]; exact HBE.out⟩
  ·
   have hb := hsk q hpq.out h
   rw [PFnGjSquashItems.bt_at (show q < s.size by omega)] at hb
   have q1 : ((s[q].toNat : Int) == 123) = false := beq_eq_false_iff_ne.mpr (by omega)
   have q2 : ((s[q].toNat : Int) == 91) = false := beq_eq_false_iff_ne.mpr (by omega)
   have q3 : decide ((s[q].toNat : Int) ≤ 32) = true := decide_eq_true hb
   go_wp2_with fail
   go_roundg (gk - 1)
   case measure => have := hq.out; omega
   case rel => exact ⟨q + 1, by go_num, Lib.hid (by have := hq.out; omega), Lib.hid (by have := hpq.out; omega), Lib.hid rfl⟩
end Go.Proofs.YtieflhncpjjciaaGreatDoor.Dc
namespace Go.Proofs.YtieflhncpjjciaaGreatDoor.Dc
open Go Go.RowKit Go.Proofs.YtieflhncpjjciaaGreatDoorW.PrintWords Go.Proofs.YtieflhncpjjciaaGreatDoor.PFnGjSquashItems
set_option maxHeartbeats 8000000
set_option maxRecDepth 100000
attribute [local go_sem] run_store_flt
theorem slice_in {s : ByteArray} {q j n : Nat} (h1 : q < j) (h2 : j ≤ s.size) (h3 : j - q = n ∧ 2 ≤ n) (W : World) : (Instr.slice 9 (.string (s.extract q j)) (some (.int .i64 1)) (some (.int .i64 ((n : Int) - 1))) none).run Tryz.prog W = .ok (.string (s.extract (q + 1) (j - 1))) W := by
 have h := slice_run (s.extract q j) 1 (n - 1) (by omega) (by rw [ByteArray.size_extract]; omega) W
 rw [show ((1 : Nat) : Int) = 1 from rfl, show ((n - 1 : Nat) : Int) = (n : Int) - 1 by omega] at h
 rw [h, ByteArray.extract_extract, show min (q + (n - 1)) j = j - 1 by omega]
theorem un_plain {u : ByteArray} : ∀ m p, u.size - p = m → p ≤ u.size → Tk u u.size p → (∀ q : Nat, p ≤ q → q < u.size → bt u (q : Int) ≠ 92) → Un u p ((u.data.toList.drop p).map fun c => (c.toNat : Int)) := by
 intro m
 induction m with
 | zero =>
  intro p hm hp _ _
  obtain rfl : p = u.size := by omega
  rw [List.drop_of_length_le (by simp)]
  exact .nil
 | succ m ih =>
  intro p hm hp ht hn
  have hlt : p < u.size := by omega
  cases ht with
  | nil => omega
  | plain h c32 c34 c92 r =>
   have hr := ih (p + 1) (by omega) (by omega) r (fun q h1 h2 => hn q (by omega) h2)
   have e : (u.data.toList.drop p).map (fun c => (c.toNat : Int)) = bt u (p : Int) :: ((u.data.toList.drop (p + 1)).map fun c => (c.toNat : Int)) := by
    rw [List.drop_eq_getElem_cons (by simpa using hlt), List.map_cons, PFnGjSquashItems.bt_at hlt]
    rfl
   rw [e]
   exact .plain hlt c32 c92 hr
  | esc h92 _ _ _ => exact absurd h92 (hn p (Nat.le_refl _) hlt)
theorem str_self (u : ByteArray) : strOfNums (u.data.toList.map fun c => (c.toNat : Int)) = u := by
 refine ByteArray.ext (Array.toList_inj.mp ?_)
 show (strOfNums _).data.toList = u.data.toList
 rw [strOfNums_data, List.map_map]
 conv => rhs; rw [← List.map_id u.data.toList]
 refine List.map_congr_left fun c _ => ?_
 simp
theorem kstr_plain {s : ByteArray} {i j : Nat} (h : StrTok s i j) (hn : ∀ p : Nat, i + 1 ≤ p → p < j - 1 → bt s (p : Int) ≠ 92) : KStr (s.extract (i + 1) (j - 1)) (s.extract (i + 1) (j - 1)) := by
 have h1 := h.1.1
 have h2 := h.1.2.1
 have hz : (s.extract (i + 1) (j - 1)).size = j - 1 - (i + 1) := by rw [ByteArray.size_extract]; omega
 have ht := tk_shift (a := i + 1) (by omega) _ h.2 (Nat.le_refl _)
 rw [← hz, Nat.sub_self] at ht
 have hu := un_plain _ 0 rfl (Nat.zero_le _) ht (fun q _ hq => by
  rw [PFnGjSquashItems.bt_at hq, bt_ext (by omega) hq]
  exact hn _ (by omega) (by omega))
 rw [List.drop_zero] at hu
 exact ⟨_, hu, (str_self _).symm⟩
theorem any_str {w : World} {b0 : Nat} (h : MS w b0) (hBB : b0 ≤ w.heap.size) (s : ByteArray) (hs : s.size ≤ 65536) (p v j : Nat) (kd : Int) (hpv : p ≤ v) (hsk : ∀ q, p ≤ q → q < v → bt s (q : Int) ≤ 32) (hk : VK s kd v j) (h4 : kd = 4) :
  Calls Tryz.prog 50 #[.string s, .int .i64 p, .bool true] w (AnyPost s kd v j w) := by
 obtain ⟨B, hB⟩ : ∃ B, w.heap.size = B := ⟨_, rfl⟩
 have ss : (s.size : Int) ≤ 65536 := by omega
 have hvs : v < s.size := by have := hk.1; have := hk.2.1; omega
 have hv := h.vc
 have HM := Lib.hid h
 have HBB := Lib.hid hBB
 clear h hBB
 go_enter Tryz.func50, Tryz.ntmps50
 go_upto_block 0 with (fail)
 obtain ⟨w1, hw1⟩ : ∃ w1, (w.alloc (Obj.cells #[.int .i64 0, .string ⟨#[]⟩, .string ⟨#[]⟩, .float .f64 0, .int .i64 0, .slice none 0 0] 61)).alloc (Obj.cells #[.int .i64 0, .string ⟨#[]⟩, .string ⟨#[]⟩, .float .f64 0, .int .i64 0, .slice none 0 0] 61) = w1 := ⟨_, rfl⟩
 have hs1 : w1.heap.size = B + 2 := by rw [← hw1, ← hB]; simp [go_sem]
 have b1 : Below B w w1 := by rw [← hw1]; exact ((Below.refl _ w).alloc (by omega) _).alloc (by simp [go_sem]; omega) _
 have R1 : Hid (w1.rangeAt (B + 1) 0 [.int .i64 0, .string ⟨#[]⟩, .string ⟨#[]⟩, .float .f64 0, .int .i64 0, .slice none 0 0]) := Lib.hid (by rw [← hw1, ← hB]; have hn := rng_new (w.alloc (Obj.cells #[.int .i64 0, .string ⟨#[]⟩, .string ⟨#[]⟩, .float .f64 0, .int .i64 0, .slice none 0 0] 61)) [.int .i64 0, .string ⟨#[]⟩, .string ⟨#[]⟩, .float .f64 0, .int .i64 0, .slice none 0 0] 61; rwa [show (w.alloc (Obj.cells #[.int .i64 0, .string ⟨#[]⟩, .string ⟨#[]⟩, .float .f64 0, .int .i64 0, .slice none 0 0] 61)).heap.size = w.heap.size + 1 from by simp [go_sem]] at hn)
 have T1 : Hid (w1.there B 0 6) := Lib.hid (by rw [← hw1, ← hB]; exact thr_al (thr_new w [.int .i64 0, .string ⟨#[]⟩, .string ⟨#[]⟩, .float .f64 0, .int .i64 0, .slice none 0 0] 61) _)
 have T2 : Hid (w1.there (B + 1) 0 6) := Lib.hid (by rw [← hw1, ← hB]; have hn := thr_new (w.alloc (Obj.cells #[.int .i64 0, .string ⟨#[]⟩, .string ⟨#[]⟩, .float .f64 0, .int .i64 0, .slice none 0 0] 61)) [.int .i64 0, .string ⟨#[]⟩, .string ⟨#[]⟩, .float .f64 0, .int .i64 0, .slice none 0 0] 61; rwa [show (w.alloc (Obj.cells #[.int .i64 0, .string ⟨#[]⟩, .string ⟨#[]⟩, .float .f64 0, .int .i64 0, .slice none 0 0] 61)).heap.size = w.heap.size + 1 from by simp [go_sem]] at hn)
 have c0 : w1.cell? ⟨B, 0, none⟩ = some (.int .i64 0) := by rw [← hw1, ← hB]; simp [go_sem]
 have cf0 : w1.frozen? ⟨B, 0, none⟩ = false := by rw [← hw1, ← hB]; simp [go_sem]
 have c1 : w1.cell? ⟨B, 1, none⟩ = some (.string ⟨#[]⟩) := by rw [← hw1, ← hB]; simp [go_sem]
 have cf1 : w1.frozen? ⟨B, 1, none⟩ = false := by rw [← hw1, ← hB]; simp [go_sem]
 have c2 : w1.cell? ⟨B, 2, none⟩ = some (.string ⟨#[]⟩) := by rw [← hw1, ← hB]; simp [go_sem]
 have cf2 : w1.frozen? ⟨B, 2, none⟩ = false := by rw [← hw1, ← hB]; simp [go_sem]
 have c3 : w1.cell? ⟨B, 3, none⟩ = some (.float .f64 0) := by rw [← hw1, ← hB]; simp [go_sem]
 have cf3 : w1.frozen? ⟨B, 3, none⟩ = false := by rw [← hw1, ← hB]; simp [go_sem]
 have c4 : w1.cell? ⟨B, 4, none⟩ = some (.int .i64 0) := by rw [← hw1, ← hB]; simp [go_sem]
 have cf4 : w1.frozen? ⟨B, 4, none⟩ = false := by rw [← hw1, ← hB]; simp [go_sem]
 have c5 : w1.cell? ⟨B, 5, none⟩ = some (.slice none 0 0) := by rw [← hw1, ← hB]; simp [go_sem]
 have cf5 : w1.frozen? ⟨B, 5, none⟩ = false := by rw [← hw1, ← hB]; simp [go_sem]
 have d0 : w1.cell? ⟨B + 1, 0, none⟩ = some (.int .i64 0) := by rw [← hw1, ← hB]; simp [go_sem]
 have df0 : w1.frozen? ⟨B + 1, 0, none⟩ = false := by rw [← hw1, ← hB]; simp [go_sem]
 have d1 : w1.cell? ⟨B + 1, 1, none⟩ = some (.string ⟨#[]⟩) := by rw [← hw1, ← hB]; simp [go_sem]
 have df1 : w1.frozen? ⟨B + 1, 1, none⟩ = false := by rw [← hw1, ← hB]; simp [go_sem]
 have d2 : w1.cell? ⟨B + 1, 2, none⟩ = some (.string ⟨#[]⟩) := by rw [← hw1, ← hB]; simp [go_sem]
 have df2 : w1.frozen? ⟨B + 1, 2, none⟩ = false := by rw [← hw1, ← hB]; simp [go_sem]
 have d3 : w1.cell? ⟨B + 1, 3, none⟩ = some (.float .f64 0) := by rw [← hw1, ← hB]; simp [go_sem]
 have df3 : w1.frozen? ⟨B + 1, 3, none⟩ = false := by rw [← hw1, ← hB]; simp [go_sem]
 have d4 : w1.cell? ⟨B + 1, 4, none⟩ = some (.int .i64 0) := by rw [← hw1, ← hB]; simp [go_sem]
 have df4 : w1.frozen? ⟨B + 1, 4, none⟩ = false := by rw [← hw1, ← hB]; simp [go_sem]
 have d5 : w1.cell? ⟨B + 1, 5, none⟩ = some (.slice none 0 0) := by rw [← hw1, ← hB]; simp [go_sem]
 have df5 : w1.frozen? ⟨B + 1, 5, none⟩ = false := by rw [← hw1, ← hB]; simp [go_sem]
 have M1 : Hid (MS w1 b0) := Lib.hid (HM.out.below (b1.mono (by rw [← hB]; exact HBB.out)))
 have V1 : Hid (VC w1) := Lib.hid M1.out.vc
 rw [hw1]
 clear hw1 hv
 have HB1 := Lib.hid b1; have HS1 := Lib.hid hs1
 clear b1 hs1
 go_wp2_with fail
 go_loopg [1] (v - p) (fun m v1 wr => ∃ q : Nat, v1 = .int .i64 (q : Int) ∧ Hid (q + m = v) ∧ Hid (p ≤ q) ∧ Hid (wr = w1))
 case atStart => exact ⟨p, rfl, Lib.hid (by omega), Lib.hid (Nat.le_refl _), Lib.hid rfl⟩
 case round =>
  obtain ⟨q, rfl, hq, hpq, hwr⟩ := hrel
  have hqv : q ≤ v := by have := hq.out; omega
  have t0 : decide (q < s.size) = true := decide_eq_true (by omega)
  obtain rfl := hwr.out
  rcases Nat.eq_or_lt_of_le hqv with h | h
  ·
   subst h
   obtain ⟨hvj, hjs, hk3⟩ := hk
   have hst : StrTok s q j := by rcases hk3 with ⟨_, b⟩ | ⟨a, _⟩ | ⟨⟨a, _⟩ | ⟨a, _⟩ | ⟨a, _⟩, _⟩ | ⟨⟨a, _⟩ | ⟨a, _⟩, _⟩ <;> first | exact b | omega
   clear hk3
   have hb : bt s (q : Int) = 34 := hst.1.2.2.1
   have hj2 : q + 2 ≤ j := hst.1.1
   rw [PFnGjSquashItems.bt_at (show q < s.size by omega)] at hb
   obtain ⟨ve, hve, sc⟩ := str_call hs hst.1
   have SC : Hid (∀ w : World, Calls Tryz.prog 60 #[.string s, .int .i64 ((q : Int) + 1)] w fun e w' => e = .returned (.tuple #[.int .i64 (j : Int), .string (s.extract q j), .bool ve, .bool true]) ∧ ∃ n, w' = w.drewN n) := Lib.hid sc
   obtain ⟨O, hO⟩ := tok_un hst
   have HO := Lib.hid hO
   have KS : Hid (ve = false → KStr (s.extract (q + 1) (j - 1)) (s.extract (q + 1) (j - 1))) := Lib.hid (fun h => kstr_plain hst (hve h))
   have HU : Hid ((s.extract (q + 1) (j - 1)).size ≤ 65536) := Lib.hid (by rw [ByteArray.size_extract]; omega)
   obtain ⟨n9, hn9⟩ : ∃ n9, j - q = n9 := ⟨_, rfl⟩
   have n2 : 2 ≤ (n9 : Int) := by omega
   have n3 : (n9 : Int) ≤ 65536 := by omega
   have xz : (s.extract q j).size = n9 := by rw [ByteArray.size_extract]; omega
   have hsl : ∀ W : World, (Instr.slice 9 (.string (s.extract q j)) (some (.int .i64 1)) (some (.int .i64 ((n9 : Int) - 1))) none).run Tryz.prog W = .ok (.string (s.extract (q + 1) (j - 1))) W := fun W => slice_in hvj hjs (by omega) W
   clear hn9 sc hve hO hst
   have q1 : ((s[q].toNat : Int) == 123) = false := by rw [hb]; rfl
   have q2 : ((s[q].toNat : Int) == 91) = false := by rw [hb]; rfl
   have q3 : decide ((s[q].toNat : Int) ≤ 32) = false := by rw [hb]; rfl
   have q4 : ((s[q].toNat : Int) == 34) = true := by rw [hb]; rfl
   have qi : (q : Int) ≤ 65536 := by omega
   clear hb
   cases ve with
   | false =>
    go_upto_region 47 with (go_at_call 60; refine (SC.out _).mono ?_; rintro en w4 ⟨rfl, k4, rfl⟩)
    have RG : Hid (World.rangeAt ((((wr.drewN k4).setCell ⟨B + 1, 0, none⟩ (.int .i64 3)).setCell ⟨B + 1, 1, none⟩ (.string (s.extract q j))).setCell ⟨B + 1, 2, none⟩ (.string (s.extract (q + 1) (j - 1)))) (B + 1) 0 [.int .i64 3, .string (s.extract q j), .string (s.extract (q + 1) (j - 1)), .float .f64 0, .int .i64 0, .slice none 0 0]) := Lib.hid (rng_set (rng_set (rng_set (rng_dn R1.out k4) 0 (.int .i64 3) (by simp)) 1 (.string (s.extract q j)) (by simp)) 2 (.string (s.extract (q + 1) (j - 1))) (by simp))
    have RT : Hid (World.there ((((wr.drewN k4).setCell ⟨B + 1, 0, none⟩ (.int .i64 3)).setCell ⟨B + 1, 1, none⟩ (.string (s.extract q j))).setCell ⟨B + 1, 2, none⟩ (.string (s.extract (q + 1) (j - 1)))) B 0 6) := Lib.hid (thr_set (thr_set (thr_set (thr_dn T1.out k4) ⟨B + 1, 0, none⟩ (.int .i64 3)) ⟨B + 1, 1, none⟩ (.string (s.extract q j))) ⟨B + 1, 2, none⟩ (.string (s.extract (q + 1) (j - 1))))
    have RB : Hid (Below B w ((((wr.drewN k4).setCell ⟨B + 1, 0, none⟩ (.int .i64 3)).setCell ⟨B + 1, 1, none⟩ (.string (s.extract q j))).setCell ⟨B + 1, 2, none⟩ (.string (s.extract (q + 1) (j - 1))))) := Lib.hid (Below.setCell (p := ⟨B + 1, 2, none⟩) (Below.setCell (p := ⟨B + 1, 1, none⟩) (Below.setCell (p := ⟨B + 1, 0, none⟩) (Below.drewNs HB1.out k4) (Nat.le_succ B) (.int .i64 3)) (Nat.le_succ B) (.string (s.extract q j))) (Nat.le_succ B) (.string (s.extract (q + 1) (j - 1))))
    obtain ⟨w9, hw9⟩ : ∃ w9, (((wr.drewN k4).setCell ⟨B + 1, 0, none⟩ (.int .i64 3)).setCell ⟨B + 1, 1, none⟩ (.string (s.extract q j))).setCell ⟨B + 1, 2, none⟩ (.string (s.extract (q + 1) (j - 1))) = w9 := ⟨_, rfl⟩
    rw [hw9] at RG RT RB
    rw [hw9]
    clear hw9
    clear c0 cf0 c1 cf1 c2 cf2 c3 cf3 c4 cf4 c5 cf5 d0 df0 d1 df1 d2 df2 d3 df3 d4 df4 d5 df5
    refine wp_region_held_drew (S := fun w' => w'.rangeAt (B + 1) 0 [.int .i64 3, .string (s.extract q j), .string (s.extract (q + 1) (j - 1)), .float .f64 0, .int .i64 0, .slice none 0 0] ∧ w'.there B 0 6) (by kernel_rfl) ⟨rng_d RG.out, thr_d RT.out⟩ (fun hHeld => ?_)
    refine take_d (i := 0) (v := _) (some 114) rfl rfl (by kernel_rfl) (by kernel_rfl) (by kernel_rfl) (fun _ _ _ h => h) (Or.inl ⟨by rfl, fun _ _ => rfl⟩) hHeld ?_
    simp only [Act.put, List.setIfInBounds_toArray, List.set_cons_zero, List.set_cons_succ]
    refine take_d (i := 1) (some 115) rfl rfl (by kernel_rfl) (by kernel_rfl) (by kernel_rfl) (fun _ _ _ h => h) (yieldsIf_load_mid (by rfl) _ _ rfl _ _ rfl _ _ (fun _ h => h.1) Tryz.underlying61 rfl (by kernel_rfl)) hHeld ?_
    simp only [Act.put, List.setIfInBounds_toArray, List.set_cons_zero, List.set_cons_succ]
    refine take_d (i := 2) (v := _) (some 6) rfl rfl (by kernel_rfl) (by kernel_rfl) (by kernel_rfl) (fun _ _ _ h => h) (Or.inl ⟨by rfl, fun _ _ => rfl⟩) hHeld ?_
    simp only [Act.put, List.setIfInBounds_toArray, List.set_cons_zero, List.set_cons_succ]
    refine wpAnyH_ready (rs := [3]) (by kernel_rfl) (by simp) (cons_d none rfl rfl (fun K hK => ?_) AllReadyH.nil)
    rw [if_pos (by rfl)]
    refine store_d rfl _ _ _ rfl _ _ (List.toArray [.int .i64 3, .string (s.extract q j), .string (s.extract (q + 1) (j - 1)), .float .f64 0, .int .i64 0, .slice none 0 0]) rfl rfl hHeld.2 (by kernel_rfl) (by simp [Value.oneCell']) ?_
    refine hK.out _ _ ⟨World.rangeAt_setCells_apart hHeld.1 _ _ _ (Or.inl (by omega)), World.there_setCells hHeld.2 _ _ _⟩ (fun hH2 => ?_)
    clear hK K
    refine take_d (i := 4) (v := _) (some 8) rfl rfl (by kernel_rfl) (by kernel_rfl) (by kernel_rfl) (fun _ _ _ h => h) (Or.inl ⟨by rfl, fun _ _ => rfl⟩) hH2 ?_
    simp only [Act.put, List.setIfInBounds_toArray, List.set_cons_zero, List.set_cons_succ]
    refine wpAnyH_done (by kernel_rfl) ?_ _
    have HRG : Hid (World.rangeAt (World.setCells w9.drew B 0 [.int .i64 3, .string (s.extract q j), .string (s.extract (q + 1) (j - 1)), .float .f64 0, .int .i64 0, .slice none 0 0]) B 0 [.int .i64 3, .string (s.extract q j), .string (s.extract (q + 1) (j - 1)), .float .f64 0, .int .i64 0, .slice none 0 0]) := Lib.hid (World.rangeAt_setCells_same _ _ _ _ hHeld.2)
    have HBE : Hid (Below B w (World.setCells w9.drew B 0 [.int .i64 3, .string (s.extract q j), .string (s.extract (q + 1) (j - 1)), .float .f64 0, .int .i64 0, .slice none 0 0])) := Lib.hid (Below.cellsN (Nat.le_refl B) _ 0 _ RB.out.drew)
    clear hHeld hH2
    obtain ⟨w8, hw8⟩ : ∃ w8, World.setCells w9.drew B 0 [.int .i64 3, .string (s.extract q j), .string (s.extract (q + 1) (j - 1)), .float .f64 0, .int .i64 0, .slice none 0 0] = w8 := ⟨_, rfl⟩
    rw [hw8] at HRG HBE
    try simp only [List.toList_toArray]
    rw [hw8]
    clear hw8
    go_wp2_with fail
    refine bodyPost_ret (results_tct rfl _ _ B _ _ rfl HRG.out Tryz.underlying61 rfl (by kernel_rfl)) rfl ?_
    exact ⟨0, 0, _, by rw [h4]; rfl, Nat.zero_le _, fun _ => KS.out trivial, fun h => absurd h4 h, by rw [hB]; exact HBE.out⟩
   | true =>
    go_upto_region 45 with (go_at_call 60; refine (SC.out _).mono ?_; rintro en w4 ⟨rfl, k4, rfl⟩)
    have R5 : Hid (World.rangeAt (((wr.drewN k4).setCell ⟨B + 1, 0, none⟩ (.int .i64 3)).setCell ⟨B + 1, 1, none⟩ (.string (s.extract q j))) (B + 1) 0 [.int .i64 3, .string (s.extract q j), .string ⟨#[]⟩, .float .f64 0, .int .i64 0, .slice none 0 0]) := Lib.hid (rng_set (rng_set (rng_dn R1.out k4) 0 (.int .i64 3) (by simp)) 1 (.string (s.extract q j)) (by simp))
    have T5 : Hid (World.there (((wr.drewN k4).setCell ⟨B + 1, 0, none⟩ (.int .i64 3)).setCell ⟨B + 1, 1, none⟩ (.string (s.extract q j))) B 0 6) := Lib.hid (thr_set (thr_set (thr_dn T1.out k4) _ _) _ _)
    have U5 : Hid (World.there (((wr.drewN k4).setCell ⟨B + 1, 0, none⟩ (.int .i64 3)).setCell ⟨B + 1, 1, none⟩ (.string (s.extract q j))) (B + 1) 0 6) := Lib.hid (thr_set (thr_set (thr_dn T2.out k4) _ _) _ _)
    have B5 : Hid (Below B w (((wr.drewN k4).setCell ⟨B + 1, 0, none⟩ (.int .i64 3)).setCell ⟨B + 1, 1, none⟩ (.string (s.extract q j)))) := Lib.hid (Below.setCell (p := ⟨B + 1, 1, none⟩) (Below.setCell (p := ⟨B + 1, 0, none⟩) (Below.drewNs HB1.out k4) (Nat.le_succ B) _) (Nat.le_succ B) _)
    obtain ⟨w5, hw5⟩ : ∃ w5, ((wr.drewN k4).setCell ⟨B + 1, 0, none⟩ (.int .i64 3)).setCell ⟨B + 1, 1, none⟩ (.string (s.extract q j)) = w5 := ⟨_, rfl⟩
    rw [hw5] at R5 T5 U5 B5
    rw [hw5]
    clear hw5
    clear c0 cf0 c1 cf1 c2 cf2 c3 cf3 c4 cf4 c5 cf5 d0 df0 d1 df1 d2 df2 d3 df3 d4 df4 d5 df5
    have e2 : w5.cell? ⟨B + 1, 2, none⟩ = some (.string ⟨#[]⟩) := R5.out 2 _ rfl
    have ef2 : w5.frozen? ⟨B + 1, 2, none⟩ = false := (U5.out 2 (by omega)).2
    go_upto_region 47 with (go_at_call 61; refine (unesc_any _ HU.out O HO.out).mono ?_; rintro en w6 ⟨rfl, hb6⟩; have e6 := cellB hb6 e2; have f6 := frozB hb6 e2 ef2; have HB6 := Lib.hid hb6; clear hb6)
    have R1 := Lib.hid (rng_b R5.out HB6.out)
    have T1 := Lib.hid (thr_b T5.out HB6.out)
    have HB1 : Hid (Below B w w6) := Lib.hid (B5.out.trans (HB6.out.mono (by have := B5.out.size; omega)))
    clear e2 ef2 e6 f6
    have RG : Hid (World.rangeAt (w6.setCell ⟨B + 1, 2, none⟩ (.string (strOfNums O))) (B + 1) 0 [.int .i64 3, .string (s.extract q j), .string (strOfNums O), .float .f64 0, .int .i64 0, .slice none 0 0]) := Lib.hid (rng_set R1.out 2 (.string (strOfNums O)) (by simp))
    have RT : Hid (World.there (w6.setCell ⟨B + 1, 2, none⟩ (.string (strOfNums O))) B 0 6) := Lib.hid (thr_set T1.out ⟨B + 1, 2, none⟩ (.string (strOfNums O)))
    have RB : Hid (Below B w (w6.setCell ⟨B + 1, 2, none⟩ (.string (strOfNums O)))) := Lib.hid (Below.setCell (p := ⟨B + 1, 2, none⟩) HB1.out (Nat.le_succ B) (.string (strOfNums O)))
    obtain ⟨w9, hw9⟩ : ∃ w9, w6.setCell ⟨B + 1, 2, none⟩ (.string (strOfNums O)) = w9 := ⟨_, rfl⟩
    rw [hw9] at RG RT RB
    rw [hw9]
    clear hw9
    refine wp_region_held_drew (S := fun w' => w'.rangeAt (B + 1) 0 [.int .i64 3, .string (s.extract q j), .string (strOfNums O), .float .f64 0, .int .i64 0, .slice none 0 0] ∧ w'.there B 0 6) (by kernel_rfl) ⟨rng_d RG.out, thr_d RT.out⟩ (fun hHeld => ?_)
    refine take_d (i := 0) (v := _) (some 114) rfl rfl (by kernel_rfl) (by kernel_rfl) (by kernel_rfl) (fun _ _ _ h => h) (Or.inl ⟨by rfl, fun _ _ => rfl⟩) hHeld ?_
    simp only [Act.put, List.setIfInBounds_toArray, List.set_cons_zero, List.set_cons_succ]
    refine take_d (i := 1) (some 115) rfl rfl (by kernel_rfl) (by kernel_rfl) (by kernel_rfl) (fun _ _ _ h => h) (yieldsIf_load_mid (by rfl) _ _ rfl _ _ rfl _ _ (fun _ h => h.1) Tryz.underlying61 rfl (by kernel_rfl)) hHeld ?_
    simp only [Act.put, List.setIfInBounds_toArray, List.set_cons_zero, List.set_cons_succ]
    refine take_d (i := 2) (v := _) (some 6) rfl rfl (by kernel_rfl) (by kernel_rfl) (by kernel_rfl) (fun _ _ _ h => h) (Or.inl ⟨by rfl, fun _ _ => rfl⟩) hHeld ?_
    simp only [Act.put, List.setIfInBounds_toArray, List.set_cons_zero, List.set_cons_succ]
    refine wpAnyH_ready (rs := [3]) (by kernel_rfl) (by simp) (cons_d none rfl rfl (fun K hK => ?_) AllReadyH.nil)
    rw [if_pos (by rfl)]
    refine store_d rfl _ _ _ rfl _ _ (List.toArray [.int .i64 3, .string (s.extract q j), .string (strOfNums O), .float .f64 0, .int .i64 0, .slice none 0 0]) rfl rfl hHeld.2 (by kernel_rfl) (by simp [Value.oneCell']) ?_
    refine hK.out _ _ ⟨World.rangeAt_setCells_apart hHeld.1 _ _ _ (Or.inl (by omega)), World.there_setCells hHeld.2 _ _ _⟩ (fun hH2 => ?_)
    clear hK K
    refine take_d (i := 4) (v := _) (some 8) rfl rfl (by kernel_rfl) (by kernel_rfl) (by kernel_rfl) (fun _ _ _ h => h) (Or.inl ⟨by rfl, fun _ _ => rfl⟩) hH2 ?_
    simp only [Act.put, List.setIfInBounds_toArray, List.set_cons_zero, List.set_cons_succ]
    refine wpAnyH_done (by kernel_rfl) ?_ _
    have HRG : Hid (World.rangeAt (World.setCells w9.drew B 0 [.int .i64 3, .string (s.extract q j), .string (strOfNums O), .float .f64 0, .int .i64 0, .slice none 0 0]) B 0 [.int .i64 3, .string (s.extract q j), .string (strOfNums O), .float .f64 0, .int .i64 0, .slice none 0 0]) := Lib.hid (World.rangeAt_setCells_same _ _ _ _ hHeld.2)
    have HBE : Hid (Below B w (World.setCells w9.drew B 0 [.int .i64 3, .string (s.extract q j), .string (strOfNums O), .float .f64 0, .int .i64 0, .slice none 0 0])) := Lib.hid (Below.cellsN (Nat.le_refl B) _ 0 _ RB.out.drew)
    clear hHeld hH2
    obtain ⟨w8, hw8⟩ : ∃ w8, World.setCells w9.drew B 0 [.int .i64 3, .string (s.extract q j), .string (strOfNums O), .float .f64 0, .int .i64 0, .slice none 0 0] = w8 := ⟨_, rfl⟩
    rw [hw8] at HRG HBE
    try simp only [List.toList_toArray]
    rw [hw8]
    clear hw8
    go_wp2_with fail
    refine bodyPost_ret (results_tct rfl _ _ B _ _ rfl HRG.out Tryz.underlying61 rfl (by kernel_rfl)) rfl ?_
    exact ⟨0, 0, _, by rw [h4]; rfl, Nat.zero_le _, fun _ => ⟨O, HO.out, rfl⟩, fun h => absurd h4 h, by rw [hB]; exact HBE.out⟩
  ·
   have hb := hsk q hpq.out h
   rw [PFnGjSquashItems.bt_at (show q < s.size by omega)] at hb
   have q1 : ((s[q].toNat : Int) == 123) = false := beq_eq_false_iff_ne.mpr (by omega)
   have q2 : ((s[q].toNat : Int) == 91) = false := beq_eq_false_iff_ne.mpr (by omega)
   have q3 : decide ((s[q].toNat : Int) ≤ 32) = true := decide_eq_true hb
   go_wp2_with fail
   go_roundg (gk - 1)
   case measure => have := hq.out; omega
   case rel => exact ⟨q + 1, by go_num, Lib.hid (by have := hq.out; omega), Lib.hid (by have := hpq.out; omega), Lib.hid rfl⟩
end Go.Proofs.YtieflhncpjjciaaGreatDoor.Dc
