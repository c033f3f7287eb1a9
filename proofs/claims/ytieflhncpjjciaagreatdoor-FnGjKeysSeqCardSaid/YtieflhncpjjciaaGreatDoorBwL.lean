/- Walks and plain laws of this claim. -/
import Derived.Test.YtieflhncpjjciaaGreatDoorBwG
import Derived.Test.YtieflhncpjjciaaGreatDoorBwB
import Derived.Test.YtieflhncpjjciaaGreatDoorBwF
import Derived.Test.YtieflhncpjjciaaGreatDoorBwI
import Derived.Deep.RegionHeld3
import Derived.BigQuiet
import Derived.Test.YtieflhncpjjciaaGreatDoorBwA
set_option maxHeartbeats 8000000
set_option maxRecDepth 100000
set_option linter.unusedVariables false
set_option linter.unusedSimpArgs false
namespace Go.Proofs.YtieflhncpjjciaaGreatDoor.Dc
open Go Go.RowKit Go.Proofs.YtieflhncpjjciaaGreatDoorW.PrintWords Go.Proofs.YtieflhncpjjciaaGreatDoor.PFnGjSquashItems
theorem ext_all (u : ByteArray) : u.extract 0 u.size = u := Yy3
theorem tolit_any {w : World} (u : ByteArray) (hs : u.size ≤ 65536) (j : Nat) (h0 : 0 < j) (hj : j ≤ u.size) (hn : ∀ q, 0 ≤ q → q < j → 97 ≤ bt u (q : Int) ∧ bt u (q : Int) ≤ 122) (he : NumEnd u j) :
  Calls Tryz.prog 58 #[.string u] w fun e w' => e = .returned (.string (u.extract 0 j)) ∧ w' = w := by
 have ss : (u.size : Int) ≤ 65536 := Yy0
 have HN := hdd hn; have HE := hdd he
 clear hn he
 go_enter Tryz.func58, Tryz.ntmps58
 go_wp2_with fail
 go_loopg [3] (j - 1) (fun m v3 wr => ∃ q : Nat, v3 = .int .i64 (q : Int) ∧ Hid (q + m = j) ∧ Hid (wr = w))
 case atStart => exact ⟨1, rfl, hdd Yy0, hdd rfl⟩
 case round =>
  obtain ⟨q, rfl, hq, hwr⟩ := hrel
  obtain rfl := hwr.out
  have hqj : q ≤ j := Yy14
  have q65 : (q : Int) ≤ 65536 := Yy0
  rcases eol hqj with h | h
  ·
   subst h
   rcases eol hj with h1 | h1
   ·
    have t0 : decide (q < u.size) = false := dff Yy0
    go_wp2_with fail
    go_ret
    refine ⟨?_, rfl⟩
    first | rfl | (rw [h1, ext_all]; rfl)
   ·
    have t0 : decide (q < u.size) = true := dtt h1
    have hb := HE.out
    unfold NumEnd at hb
    rw [PFnGjSquashItems.bt_at h1] at hb
    by_cases hc : (u[q].toNat : Int) < 97
    ·
     have e1 : decide ((u[q].toNat : Int) < 97) = true := dtt hc
     clear hb
     go_wp2_with fail
     go_ret
     exact ⟨rfl, rfl⟩
    ·
     have e1 : decide ((u[q].toNat : Int) < 97) = false := dff hc
     have e2 : decide ((122 : Int) < (u[q].toNat : Int)) = true := dtt Yy0
     clear hb
     go_wp2_with fail
     go_ret
     exact ⟨rfl, rfl⟩
  ·
   have h1 : q < u.size := Yy0
   have t0 : decide (q < u.size) = true := dtt h1
   have hb := HN.out q (Nat.zero_le _) h
   rw [PFnGjSquashItems.bt_at h1] at hb
   have e1 : decide ((u[q].toNat : Int) < 97) = false := dff Yy0
   have e2 : decide ((122 : Int) < (u[q].toNat : Int)) = false := dff Yy0
   clear hb
   go_wp2_with fail
   go_roundg (gk - 1)
   case measure => have := hq.out; omega
   case rel => exact ⟨q + 1, Yy5, hdd Yy14, hdd rfl⟩
def TsPost (u : ByteArray) (e : Nat) (w : World) (en : Ending) (w' : World) : Prop := ∃ str, en = .returned (.tuple #[.string (u.extract 0 (e + 1)), .string str]) ∧ KStr (u.extract 1 e) str ∧ Below w.heap.size w w'
theorem tostr_any {w : World} (u : ByteArray) (hs : u.size ≤ 65536) (e : Nat) (h : StrTok u 0 (e + 1)) :
  Calls Tryz.prog 59 #[.string u] w (TsPost u e w) := by
 have ss : (u.size : Int) ≤ 65536 := Yy0
 have he1 : 1 ≤ e := by have := h.1.1; omega
 have hes : e < u.size := by have := h.1.2.1; omega
 have h34e : bt u (e : Int) = 34 := h.1.2.2.2.1
 have h340 : bt u ((0 : Nat) : Int) = 34 := h.1.2.2.1
 have hodd : odd u 0 e = false := h.1.2.2.2.2.1
 have hin : ∀ q, 0 < q → q < e → bt u (q : Int) = 34 → odd u 0 q = true := fun q h1 h2 => h.1.2.2.2.2.2 q h1 h2
 obtain ⟨O, hO⟩ := tok_un h
 have HO : Hid (Un (u.extract 1 e) 0 O) := hdd hO
 have HU : Hid ((u.extract 1 e).size ≤ 65536) := hdd Yy13
 have KP : Hid ((∀ p : Nat, 1 ≤ p → p < e → bt u (p : Int) ≠ 92) → KStr (u.extract 1 e) (u.extract 1 e)) := hdd (fun hn => kstr_plain h hn)
 have HIN := hdd hin; have HOD := hdd hodd; have H34E := hdd h34e; have H340 := hdd h340
 have HQ : Hid (∀ q, 0 < q → q ≤ e → bt u (q : Int) = 34 → bt u ((q - 1 : Nat) : Int) ≠ 92 → q = e) := hdd (fun q h1 h2 h3 h4 => h.1.quote h1 h2 h3 h4)
 clear hO h hin hodd h34e h340
 go_enter Tryz.func59, Tryz.ntmps59
 go_wp2_with fail
 go_loopg [4] (e - 1) (fun m v4 wr => ∃ q : Nat, v4 = .int .i64 (q : Int) ∧ Hid (q + m = e) ∧ Hid (1 ≤ q) ∧ Hid (∀ p : Nat, 1 ≤ p → p < q → bt u (p : Int) ≠ 92) ∧ Hid (wr = w))
 case atStart => exact ⟨1, rfl, hdd Yy0, hdd (nlr _), hdd (fun p h1 h2 => Yy0), hdd rfl⟩
 case round =>
  obtain ⟨q, rfl, hq, h1q, hpl, hwr⟩ := hrel
  obtain rfl := hwr.out
  have hqe : q ≤ e := Yy14
  have hqs : q < u.size := Yy0
  have q65 : (q : Int) ≤ 65536 := Yy0
  have q1 : 1 ≤ (q : Int) := by have := h1q.out; omega
  have t0 : decide (q < u.size) = true := dtt hqs
  by_cases hg : (92 : Int) < (u[q].toNat : Int)
  ·
   have e1 : decide ((92 : Int) < (u[q].toNat : Int)) = true := dtt hg
   have hne : q ≠ e := fun h => by have h9 := H34E.out; rw [← h, PFnGjSquashItems.bt_at hqs] at h9; omega
   have NX : Hid (∀ p : Nat, 1 ≤ p → p < q + 1 → bt u (p : Int) ≠ 92) := hdd (fun p h1 h2 => by
    rcases eol (Nat.le_of_lt_succ h2) with h3 | h3
    ·
     subst h3; rw [PFnGjSquashItems.bt_at hqs]; omega
    ·
     exact hpl.out p h1 h3)
   clear hg
   go_wp2_with fail
   go_roundg (gk - 1)
   case measure => have := hq.out; omega
   case rel => exact ⟨q + 1, Yy5, hdd Yy14, hdd Yy0, NX, hdd rfl⟩
  ·
   have e1 : decide ((92 : Int) < (u[q].toNat : Int)) = false := dff hg
   by_cases hc : (u[q].toNat : Int) = 34
   ·
    have e2 : ((u[q].toNat : Int) == 34) = true := beq_iff_eq.mpr hc
    obtain rfl : q = e := HQ.out q h1q.out hqe (by rw [PFnGjSquashItems.bt_at hqs]; exact hc) (by
     rcases eol h1q.out with h3 | h3
     ·
      rw [← h3, Nat.sub_self, H340.out]; decide
     ·
      exact hpl.out (q - 1) Yy0 Yy0)
    clear hg hc
    go_upto_region 6 with (fail)
    go_quiet (fail)
    go_wp2_with fail
    go_ret2
    exact ⟨_, rfl, KP.out hpl.out, Below.drewNs (Below.refl _ _) _⟩
   ·
    have e2 : ((u[q].toNat : Int) == 34) = false := bfo hc
    have hne : q ≠ e := fun h => hc (by have h9 := H34E.out; rw [← h, PFnGjSquashItems.bt_at hqs] at h9; exact h9)
    by_cases hd : (u[q].toNat : Int) = 92
    ·
     have e3 : ((u[q].toNat : Int) == 92) = true := beq_iff_eq.mpr hd
     have hq1e : q + 1 ≤ e := Yy0
     clear hg hc hd
     go_wp2_with fail
     go_loopg [4] (e - (q + 1)) (fun m v4 w2 => ∃ x : Nat, v4 = .int .i64 (x : Int) ∧ Hid (x + m = e) ∧ Hid (q + 1 ≤ x) ∧ Hid (w2 = wr))
     case atStart => exact ⟨q + 1, Yy5, hdd Yy0, hdd (nlr _), hdd rfl⟩
     case round =>
      clear e1 e2 e3 t0
      obtain ⟨x, rfl, hx, hqx, hw2⟩ := hrel
      obtain rfl := hw2.out
      have hxe : x ≤ e := Yy20
      have hxs : x < u.size := Yy0
      have x65 : (x : Int) ≤ 65536 := Yy0
      have x2 : 2 ≤ (x : Int) := by have := hqx.out; omega
      have x1 : 1 ≤ (x : Int) := Yy0
      have x1n : 1 ≤ x := Yy0
      have xs1 : x + 1 ≤ u.size := hxs
      have t1 : decide (x < u.size) = true := dtt hxs
      by_cases hg : (92 : Int) < (u[x].toNat : Int)
      ·
       have e1 : decide ((92 : Int) < (u[x].toNat : Int)) = true := dtt hg
       have hne : x ≠ e := fun h => by have h9 := H34E.out; rw [← h, PFnGjSquashItems.bt_at hxs] at h9; omega
       clear hg
       go_wp2_with fail
       go_roundg (gk - 1)
       case measure => have := hx.out; omega
       case rel => exact ⟨x + 1, Yy5, hdd Yy20, hdd (by have := hqx.out; omega), hdd rfl⟩
      ·
       have e1 : decide ((92 : Int) < (u[x].toNat : Int)) = false := dff hg
       clear hg
       by_cases hc : (u[x].toNat : Int) = 34
       ·
        have e2 : ((u[x].toNat : Int) == 34) = true := beq_iff_eq.mpr hc
        have HC : Hid (bt u (x : Int) = 34) := hdd (by rw [PFnGjSquashItems.bt_at hxs]; exact hc)
        clear hc
        obtain ⟨y, hy⟩ : ∃ y : Nat, (x : Int) - 1 = (y : Int) := ⟨x - 1, Yy0⟩
        have hyx : y < u.size := Yy0
        have y0 : 0 ≤ (y : Int) := Yy0
        have HY : Hid (y = x - 1) := hdd Yy0
        by_cases hp : (u[y].toNat : Int) = 92
        ·
         have e3 : ((u[y].toNat : Int) == 92) = true := beq_iff_eq.mpr hp
         have HP : Hid (bt u (y : Int) = 92) := hdd (by rw [PFnGjSquashItems.bt_at hyx]; exact hp)
         clear hp
         obtain ⟨z, hz⟩ : ∃ z : Nat, (x : Int) - 2 = (z : Int) := ⟨x - 2, Yy0⟩
         have hzs : z < u.size := Yy0
         have HZ : Hid (x = z + 2) := hdd Yy0
         go_upto_block 4 with (fail)
         go_cut [5, 6] (fun v5 v6 wc => ∃ n : Nat, v5 = .int .i64 (n : Int) ∧ Hid (odd u 0 x = decide ((n + 1) % 2 = 1)) ∧ Hid (n ≤ x) ∧ Hid (wc = wr))
         case first =>
          go_wp2_with fail
          go_loopg [5, 6] z (fun m v5 v6 w5 => ∃ n : Nat, v5 = .int .i64 (n : Int) ∧ v6 = .int .i64 (m : Int) ∧ Hid (x = m + n + 2) ∧ Hid (∀ p, x - (n + 1) ≤ p → p < x → bt u (p : Int) = 92) ∧ Hid (w5 = wr))
          case atStart => exact ⟨0, rfl, rfl, hdd (by have := HZ.out; omega), hdd (fun p h1 h2 => by rw [show p = y by have := HY.out; omega]; exact HP.out), hdd rfl⟩
          case round =>
           clear e1 e2 e3 t1
           obtain ⟨n, rfl, rfl, hn, hbs, hw5⟩ := hrel
           obtain rfl := hw5.out
           have n65 : (n : Int) ≤ 65536 := Yy18
           have n0 : 0 ≤ (n : Int) := Yy0
           have m65 : (gk : Int) ≤ 65536 := Yy18
           have hms : gk < u.size := Yy18
           rcases Nat.eq_zero_or_pos gk with hm | hm
           ·
            have t2 : decide (0 < gk) = false := dff Yy0
            have t3 : decide ((0 : Int) < (gk : Int)) = false := dff Yy0
            have OD : Hid (odd u 0 x = decide ((n + 1) % 2 = 1)) := hdd (odd_bsl (s := u) (b := 0) (n + 1) x Yy18 hbs.out (Or.inl Yy18))
            clear hm
            go_wp2_with fail
            go_meet
            exact ⟨n, rfl, OD, hdd Yy18, hdd rfl⟩
           ·
            have t2 : decide (0 < gk) = true := dtt hm
            have t3 : decide ((0 : Int) < (gk : Int)) = true := dtt Yy0
            by_cases hb : (u[gk].toNat : Int) = 92
            ·
             have e4 : ((u[gk].toNat : Int) != 92) = false := by rw [bne_eq_false_iff_eq]; exact hb
             have HB : Hid (bt u (gk : Int) = 92) := hdd (by rw [PFnGjSquashItems.bt_at hms]; exact hb)
             clear hb
             go_wp2_with fail
             go_roundg (gk - 1)
             case measure => omega
             case rel => exact ⟨n + 1, Yy5, by first | go_num | (congr 1; omega), hdd Yy18, hdd (fun p h1 h2 => by
              rcases Nat.lt_or_ge p (x - (n + 1)) with h3 | h3
              ·
               rw [show p = gk from Yy18]; exact HB.out
              ·
               exact hbs.out p h3 h2), hdd rfl⟩
            ·
             have e4 : ((u[gk].toNat : Int) != 92) = true := bne_iff_ne.mpr hb
             have OD : Hid (odd u 0 x = decide ((n + 1) % 2 = 1)) := hdd (odd_bsl (s := u) (b := 0) (n + 1) x Yy18 hbs.out (Or.inr (by rw [show x - (n + 1) - 1 = gk from Yy18, PFnGjSquashItems.bt_at hms]; exact hb)))
             clear hb
             go_wp2_with fail
             go_meet
             exact ⟨n, rfl, OD, hdd Yy18, hdd rfl⟩
         case rest =>
          obtain ⟨n, rfl, ho, hn, hwc⟩ := hcut
          obtain rfl := hwc.out
          rcases eol hxe with h | h
          ·
           subst h
           have hn2 : n % 2 = 1 := by have h1 := ho.out; rw [HOD.out] at h1; have h2 := of_decide_eq_false h1.symm; omega
           have e4 : (Int.tmod (n : Int) 2 == 0) = false := by rw [beq_eq_false_iff_ne]; intro h; have := (tmod2 n).mp h; omega
           have e5 : ((n : Int) % 2 == 0) = false := bfo Yy0
           clear hn2
           obtain ⟨x9, hx9⟩ : ∃ x9 : Nat, (x : Int) + 1 = (x9 : Int) := ⟨x + 1, Yy0⟩
           have HX9 : Hid (x9 = x + 1) := hdd Yy0
           have b0 : (0 : Int) ≤ (x9 : Int) := Yy0
           have b1 : (x9 : Int) ≤ (u.size : Int) := Yy0
           have b2 : (0 : Int) ≤ (x : Int) := Yy0
           have b3 : (x : Int) ≤ (u.size : Int) := Yy0
           have b4 : x9 ≤ u.size := Yy0
           have b6 : IntKind.i64.wrap (x9 : Int) = (x9 : Int) := by rw [IntKind.wrap_i64]; omega
           have b5 : x ≤ u.size := Yy0
           go_upto_region 21 with (fail)
           go_region_law (first | (go_simp; go_at_call 61; (with_reducible refine (unesc_any _ HU.out O HO.out).mono ?_); rintro en wz ⟨rfl, hbz⟩; have BZ := hdd hbz; clear hbz; go_wp2_with fail))
           go_wp2_with fail
           go_ret2
           obtain rfl := HX9.out
           exact ⟨_, rfl, ⟨O, HO.out, rfl⟩, Yy67⟩
          ·
           have hn2 : n % 2 = 0 := by have h1 := ho.out; rw [HIN.out x Yy0 h HC.out] at h1; have h2 := of_decide_eq_true h1.symm; omega
           have e4 : (Int.tmod (n : Int) 2 == 0) = true := by rw [beq_iff_eq]; exact (tmod2 n).mpr hn2
           have e5 : ((n : Int) % 2 == 0) = true := beq_iff_eq.mpr Yy0
           clear hn2
           go_wp2_with fail
           go_roundg (gk - 1)
           case measure => have := hx.out; omega
           case rel => exact ⟨x + 1, Yy5, hdd Yy20, hdd (by have := hqx.out; omega), hdd rfl⟩
        ·
         have e3 : ((u[y].toNat : Int) == 92) = false := bfo hp
         obtain rfl : x = e := HQ.out x Yy0 hxe HC.out (by rw [show x - 1 = y from Yy0, PFnGjSquashItems.bt_at hyx]; exact hp)
         clear hp
         obtain ⟨x9, hx9⟩ : ∃ x9 : Nat, (x : Int) + 1 = (x9 : Int) := ⟨x + 1, Yy0⟩
         have HX9 : Hid (x9 = x + 1) := hdd Yy0
         have b0 : (0 : Int) ≤ (x9 : Int) := Yy0
         have b1 : (x9 : Int) ≤ (u.size : Int) := Yy0
         have b2 : (0 : Int) ≤ (x : Int) := Yy0
         have b3 : (x : Int) ≤ (u.size : Int) := Yy0
         have b4 : x9 ≤ u.size := Yy0
         have b6 : IntKind.i64.wrap (x9 : Int) = (x9 : Int) := by rw [IntKind.wrap_i64]; omega
         have b5 : x ≤ u.size := Yy0
         go_upto_region 21 with (fail)
         go_region_law (first | (go_simp; go_at_call 61; (with_reducible refine (unesc_any _ HU.out O HO.out).mono ?_); rintro en wz ⟨rfl, hbz⟩; have BZ := hdd hbz; clear hbz; go_wp2_with fail))
         go_wp2_with fail
         go_ret2
         obtain rfl := HX9.out
         exact ⟨_, rfl, ⟨O, HO.out, rfl⟩, Yy67⟩
       ·
        have e2 : ((u[x].toNat : Int) == 34) = false := bfo hc
        have hne : x ≠ e := fun h => hc (by have h9 := H34E.out; rw [← h, PFnGjSquashItems.bt_at hxs] at h9; exact h9)
        clear hc
        go_wp2_with fail
        go_roundg (gk - 1)
        case measure => have := hx.out; omega
        case rel => exact ⟨x + 1, Yy5, hdd Yy20, hdd (by have := hqx.out; omega), hdd rfl⟩
    ·
     have e3 : ((u[q].toNat : Int) == 92) = false := bfo hd
     have NX : Hid (∀ p : Nat, 1 ≤ p → p < q + 1 → bt u (p : Int) ≠ 92) := hdd (fun p h1 h2 => by
      rcases eol (Nat.le_of_lt_succ h2) with h3 | h3
      ·
       subst h3; rw [PFnGjSquashItems.bt_at hqs]; exact hd
      ·
       exact hpl.out p h1 h3)
     clear hg hc hd
     go_wp2_with fail
     go_roundg (gk - 1)
     case measure => have := hq.out; omega
     case rel => exact ⟨q + 1, Yy5, hdd Yy14, hdd Yy0, NX, hdd rfl⟩
def TnPost (u : ByteArray) (j : Nat) (w : World) (en : Ending) (w' : World) : Prop := ∃ q, en = .returned (.tuple #[.string (u.extract 0 j), .float .f64 q]) ∧ Below w.heap.size w w'
theorem tonum_any {w : World} {b0 : Nat} (h : MS w b0) (hBB : b0 ≤ w.heap.size) (u : ByteArray) (hs : u.size ≤ 65536) (j : Nat) (h0 : 0 < j) (hj : j ≤ u.size) (hn : ∀ q, 0 ≤ q → q < j → numOK (bt u (q : Int))) (he : NumEnd u j) :
  Calls Tryz.prog 57 #[.string u] w (TnPost u j w) := by
 have ss : (u.size : Int) ≤ 65536 := Yy0
 have PF : Hid (Calls Tryz.prog 80 #[.string (u.extract 0 j), .int .i64 64] w fun e w' => IsF2 e ∧ Below w.heap.size w w') := hdd (parsefloat_any h.ts hBB (u.extract 0 j) Yy13 (num_str hj hn))
 have HN := hdd hn; have HE := hdd he
 clear h hBB hn he
 go_enter Tryz.func57, Tryz.ntmps57
 go_wp2_with fail
 go_loopg [4] (j - 1) (fun m v4 wr => ∃ q : Nat, v4 = .int .i64 (q : Int) ∧ Hid (q + m = j) ∧ Hid (wr = w))
 case atStart => exact ⟨1, rfl, hdd Yy0, hdd rfl⟩
 case round =>
  obtain ⟨q, rfl, hq, hwr⟩ := hrel
  obtain rfl := hwr.out
  have hqj : q ≤ j := Yy14
  have q65 : (q : Int) ≤ 65536 := Yy0
  rcases eol hqj with h | h
  ·
   subst h
   rcases eol hj with h1 | h1
   ·
    have t0 : decide (q < u.size) = false := dff Yy0
    rw [h1, ext_all] at PF
    have E : Hid (u.extract 0 q = u) := hdd (by rw [h1, ext_all])
    clear h1
    go_wp2_with (go_at_call 80; (with_reducible refine PF.out.mono ?_); rintro en w6 ⟨⟨fl, er⟩, hb6⟩; have HB6 := hdd hb6; clear hb6)
    go_ret2
    exact ⟨_, by rw [E.out]; rfl, HB6.out⟩
   ·
    have t0 : decide (q < u.size) = true := dtt h1
    have hb := HE.out
    unfold NumEnd at hb
    rw [PFnGjSquashItems.bt_at h1] at hb
    have hb2 : (u[q].toNat : Int) ≤ 32 ∨ (u[q].toNat : Int) = 44 ∨ (u[q].toNat : Int) = 93 ∨ (u[q].toNat : Int) = 125 := by rcases hb with h | h; omega; exact h
    clear hb
    by_cases h3 : (u[q].toNat : Int) ≤ 32
    ·
     have e1 : decide ((u[q].toNat : Int) ≤ 45) = true := dtt Yy0
     have e2 : decide ((u[q].toNat : Int) ≤ 32) = true := dtt h3
     clear hb2 h3
     go_wp2_with (go_at_call 80; (with_reducible refine PF.out.mono ?_); rintro en w6 ⟨⟨fl, er⟩, hb6⟩; have HB6 := hdd hb6; clear hb6)
     go_ret2
     exact ⟨_, rfl, HB6.out⟩
    ·
     have e2 : decide ((u[q].toNat : Int) ≤ 32) = false := dff h3
     rcases hb2 with h4 | h4 | h4 | h4
     ·
      exact absurd h4 h3
     ·
      have e1 : decide ((u[q].toNat : Int) ≤ 45) = true := dtt Yy0
      have e3 : ((u[q].toNat : Int) == 44) = true := beq_iff_eq.mpr h4
      clear h3 h4
      go_wp2_with (go_at_call 80; (with_reducible refine PF.out.mono ?_); rintro en w6 ⟨⟨fl, er⟩, hb6⟩; have HB6 := hdd hb6; clear hb6)
      go_ret2
      exact ⟨_, rfl, HB6.out⟩
     ·
      have e1 : decide ((u[q].toNat : Int) ≤ 45) = false := dff Yy0
      have e3 : ((u[q].toNat : Int) == 93) = true := beq_iff_eq.mpr h4
      clear h3 h4
      go_wp2_with (go_at_call 80; (with_reducible refine PF.out.mono ?_); rintro en w6 ⟨⟨fl, er⟩, hb6⟩; have HB6 := hdd hb6; clear hb6)
      go_ret2
      exact ⟨_, rfl, HB6.out⟩
     ·
      have e1 : decide ((u[q].toNat : Int) ≤ 45) = false := dff Yy0
      have e3 : ((u[q].toNat : Int) == 93) = false := bfo Yy0
      have e4 : ((u[q].toNat : Int) == 125) = true := beq_iff_eq.mpr h4
      clear h3 h4
      go_wp2_with (go_at_call 80; (with_reducible refine PF.out.mono ?_); rintro en w6 ⟨⟨fl, er⟩, hb6⟩; have HB6 := hdd hb6; clear hb6)
      go_ret2
      exact ⟨_, rfl, HB6.out⟩
  ·
   have h1 : q < u.size := Yy0
   have t0 : decide (q < u.size) = true := dtt h1
   have hb := HN.out q (Nat.zero_le _) h
   rw [PFnGjSquashItems.bt_at h1] at hb
   unfold numOK at hb
   by_cases h3 : (u[q].toNat : Int) ≤ 45
   ·
    have e1 : decide ((u[q].toNat : Int) ≤ 45) = true := dtt h3
    have e2 : decide ((u[q].toNat : Int) ≤ 32) = false := dff Yy0
    have e3 : ((u[q].toNat : Int) == 44) = false := bfo Yy0
    clear hb h3
    go_wp2_with fail
    go_roundg (gk - 1)
    case measure => have := hq.out; omega
    case rel => exact ⟨q + 1, Yy5, hdd Yy14, hdd rfl⟩
   ·
    have e1 : decide ((u[q].toNat : Int) ≤ 45) = false := dff h3
    have e2 : ((u[q].toNat : Int) == 93) = false := bfo Yy0
    have e3 : ((u[q].toNat : Int) == 125) = false := bfo Yy0
    clear hb h3
    go_wp2_with fail
    go_roundg (gk - 1)
    case measure => have := hq.out; omega
    case rel => exact ⟨q + 1, Yy5, hdd Yy14, hdd rfl⟩
attribute [local go_sem] run_store_flt
def ParsePost (s : ByteArray) (kd : Int) (v j : Nat) (w : World) (en : Ending) (w' : World) : Prop := ∃ t : RV, en = .returned t.val ∧ t.k = gkd kd ∧ (kd < 5 → t.raw = s.extract v j) ∧ (5 ≤ kd → t = ⟨5, s.extract v s.size, ⟨#[]⟩, 0, (v : Int)⟩) ∧ Below w.heap.size w w'
def ParseK (s : ByteArray) (kd : Int) (v j : Nat) (k9 : Int) (raw9 str9 : ByteArray) (q9 : Nat) : Prop := k9 = gkd kd ∧ raw9.size ≠ 0 ∧ (kd < 5 → raw9 = s.extract v j) ∧ (5 ≤ kd → k9 = 5 ∧ raw9 = s.extract v s.size ∧ str9 = ⟨#[]⟩ ∧ q9 = 0)
theorem parse_all {w : World} {b0 : Nat} (h : MS w b0) (hBB : b0 ≤ w.heap.size) (s : ByteArray) (hs : s.size ≤ 65536) (v j : Nat) (kd : Int) (hsk : ∀ q, q < v → bt s (q : Int) ≤ 32) (hk : VK s kd v j) (he : NumEnd s j) :
  Calls Tryz.prog 33 #[.string s] w (ParsePost s kd v j w) := by
 obtain ⟨B, hB⟩ : ∃ B, w.heap.size = B := ⟨_, rfl⟩
 have ss : (s.size : Int) ≤ 65536 := Yy0
 have hv : v < s.size := by have := hk.1; have := hk.2.1; omega
 have HSK := hdd hsk
 have SF := Suf.of s (Nat.le_of_lt hv)
 have hj : v + (j - v) = j := by have := hk.1; omega
 have UK : VK (s.extract v s.size) kd 0 (j - v) := SF.vk (by rw [Nat.add_zero, hj]; exact hk)
 have UE : NumEnd (s.extract v s.size) (j - v) := by
  have hz := SF.sz
  have h2 := hk.2.1
  rcases he with h | h
  ·
   left; omega
  ·
   rcases Nat.lt_or_ge j s.size with h3 | h3
   ·
    right; rw [SF.b, hj]; exact h
   ·
    left; omega
 have UZ : Hid ((s.extract v s.size).size ≤ 65536 ∧ 0 < j - v ∧ j - v ≤ (s.extract v s.size).size) := hdd ⟨Yy13, UK.1, UK.2.1⟩
 have EX : Hid ((s.extract v s.size).extract 0 (j - v) = s.extract v j) := hdd (by rw [Suf.extract rfl (Nat.le_of_lt hv) (by rw [hj]; exact hk.2.1), Nat.add_zero, hj])
 have NZ : Hid ((s.extract v j).size ≠ 0 ∧ (s.extract v s.size).size ≠ 0) := hdd (by have := hk.1; have := hk.2.1; rw [ByteArray.size_extract, ByteArray.size_extract]; omega)
 have HM := hdd h; have HBB := hdd hBB; have HK := hdd hk; have HUK := hdd UK; have HUE := hdd UE
 clear h hBB hsk he hk UK UE SF hj
 go_enter Tryz.func33, Tryz.ntmps33
 go_upto_block 0 with (fail)
 obtain ⟨w1, hw1⟩ : ∃ w1, (w.alloc (Obj.cells #[.int .i64 0, .string ⟨#[]⟩, .string ⟨#[]⟩, .float .f64 0, .int .i64 0, .slice none 0 0] 61)).alloc (Obj.cells #[.int .i64 0, .string ⟨#[]⟩, .string ⟨#[]⟩, .float .f64 0, .int .i64 0, .slice none 0 0] 61) = w1 := ⟨_, rfl⟩
 have hs1 : w1.heap.size = B + 2 := Yy7
 have b1 : Below B w w1 := Yy69
 have hn0 : (w.alloc (Obj.cells #[.int .i64 0, .string ⟨#[]⟩, .string ⟨#[]⟩, .float .f64 0, .int .i64 0, .slice none 0 0] 61)).heap.size = w.heap.size + 1 := Yy15
 have R1 : Hid (w1.rangeAt (B + 1) 0 [.int .i64 0, .string ⟨#[]⟩, .string ⟨#[]⟩, .float .f64 0, .int .i64 0, .slice none 0 0]) := hdd (by rw [← hw1, ← hB]; have hn := rng_new (w.alloc (Obj.cells #[.int .i64 0, .string ⟨#[]⟩, .string ⟨#[]⟩, .float .f64 0, .int .i64 0, .slice none 0 0] 61)) [.int .i64 0, .string ⟨#[]⟩, .string ⟨#[]⟩, .float .f64 0, .int .i64 0, .slice none 0 0] 61; rwa [hn0] at hn)
 have T2 : Hid (w1.there (B + 1) 0 6) := hdd (by rw [← hw1, ← hB]; have hn := thr_new (w.alloc (Obj.cells #[.int .i64 0, .string ⟨#[]⟩, .string ⟨#[]⟩, .float .f64 0, .int .i64 0, .slice none 0 0] 61)) [.int .i64 0, .string ⟨#[]⟩, .string ⟨#[]⟩, .float .f64 0, .int .i64 0, .slice none 0 0] 61; rwa [hn0] at hn)
 have T1 : Hid (w1.there B 0 6) := hdd Yy62
 have R0 : Hid (w1.rangeAt B 0 [.int .i64 0, .string ⟨#[]⟩, .string ⟨#[]⟩, .float .f64 0, .int .i64 0, .slice none 0 0]) := hdd (by rw [← hw1, ← hB]; exact rng_al (rng_new w [.int .i64 0, .string ⟨#[]⟩, .string ⟨#[]⟩, .float .f64 0, .int .i64 0, .slice none 0 0] 61) _)
 rw [hw1]
 clear hw1 hn0
 have HB1 := hdd b1; have HS1 := hdd hs1
 clear b1 hs1
 go_cut [4] (fun v4 wc => ∃ (k9 : Int) (raw9 str9 : ByteArray) (q9 : Nat), v4 = .int .i64 (v : Int) ∧ Hid (ParseK s kd v j k9 raw9 str9 q9) ∧ Hid (wc.rangeAt (B + 1) 0 [.int .i64 k9, .string raw9, .string str9, .float .f64 q9, .int .i64 0, .slice none 0 0]) ∧ Hid (wc.there (B + 1) 0 6) ∧ Hid (wc.rangeAt B 0 [.int .i64 0, .string ⟨#[]⟩, .string ⟨#[]⟩, .float .f64 0, .int .i64 0, .slice none 0 0]) ∧ Hid (wc.there B 0 6) ∧ Hid (Below B w wc))
 case first =>
  go_wp2_with fail
  go_loopg [4] v (fun m v4 wr => ∃ q : Nat, v4 = .int .i64 (q : Int) ∧ Hid (q + m = v) ∧ Hid (wr = w1))
  case atStart => exact ⟨0, rfl, hdd Yy0, hdd rfl⟩
  case round =>
   obtain ⟨q, rfl, hq, hwr⟩ := hrel
   have hqv : q ≤ v := Yy14
   have hqs : q < s.size := Yy0
   have t0 : decide (q < s.size) = true := dtt hqs
   have qi : (q : Int) ≤ 65536 := Yy0
   obtain rfl := hwr.out
   rcases eol hqv with h | h
   ·
    subst h
    rcases HK.out.2.2 with ⟨hkd, hst⟩ | ⟨hkd, hb, -⟩ | ⟨⟨hkd, hb, hb2⟩ | ⟨hkd, hb⟩ | ⟨hkd, hb⟩, -⟩ | ⟨⟨hkd, hb⟩ | ⟨hkd, hb⟩, -⟩
    ·
     have HKD := hdd hkd
     have ust : StrTok (s.extract q s.size) 0 (j - q) := by rcases HUK.out.2.2 with ⟨_, b⟩ | ⟨a, _⟩ | ⟨⟨a, _⟩ | ⟨a, _⟩ | ⟨a, _⟩, _⟩ | ⟨⟨a, _⟩ | ⟨a, _⟩, _⟩ <;> first | exact b | omega
     have hj2 : q + 2 ≤ j := hst.1.1
     have hb : bt s (q : Int) = 34 := hst.1.2.2.1
     rw [PFnGjSquashItems.bt_at hqs] at hb
     obtain ⟨e, he⟩ : ∃ e, j - q = e + 1 := ⟨j - q - 1, Yy0⟩
     have EX1 : Hid ((s.extract q s.size).extract 0 (e + 1) = s.extract q j) := hdd (by rw [← he]; exact EX.out)
     have CT : Hid (∀ w : World, Calls Tryz.prog 59 #[.string (s.extract q s.size)] w (TsPost (s.extract q s.size) e w)) := hdd (fun w => tostr_any _ UZ.out.1 e (by rw [← he]; exact ust))
     clear hst ust he hkd
     have k0 : wr.cell? ⟨B + 1, 0, none⟩ = some (.int .i64 0) := R1.out 0 _ rfl
     have kf0 : wr.frozen? ⟨B + 1, 0, none⟩ = false := (T2.out 0 Yy0).2
     have R2 : Hid (World.rangeAt (wr.setCell ⟨B + 1, 0, none⟩ (.int .i64 3)) (B + 1) 0 [.int .i64 3, .string ⟨#[]⟩, .string ⟨#[]⟩, .float .f64 0, .int .i64 0, .slice none 0 0]) := hdd (rng_set R1.out 0 (.int .i64 3) Yy3)
     have V2 : Hid (World.there (wr.setCell ⟨B + 1, 0, none⟩ (.int .i64 3)) (B + 1) 0 6) := hdd (thr_set T2.out _ _)
     have Q2 : Hid (World.rangeAt (wr.setCell ⟨B + 1, 0, none⟩ (.int .i64 3)) B 0 [.int .i64 0, .string ⟨#[]⟩, .string ⟨#[]⟩, .float .f64 0, .int .i64 0, .slice none 0 0]) := hdd (rng_oth R0.out (B + 1) 0 _ Yy0)
     have T3 : Hid (World.there (wr.setCell ⟨B + 1, 0, none⟩ (.int .i64 3)) B 0 6) := hdd (thr_set T1.out _ _)
     have B2 : Hid (Below B w (wr.setCell ⟨B + 1, 0, none⟩ (.int .i64 3))) := hdd (Below.setCell (p := ⟨B + 1, 0, none⟩) HB1.out (Nat.le_succ B) _)
     go_wp2_with (go_at_call 59; (with_reducible refine (CT.out _).mono ?_); rintro en wz ⟨str9, rfl, -, hbz⟩; rw [EX1.out]; have R3 := hdd (rng_b R2.out hbz); have V3 := hdd (thr_b V2.out hbz); have Q3 := hdd (rng_b Q2.out hbz); have T4 := hdd (thr_b T3.out hbz); have B3 : Hid (Below B w wz) := hdd (B2.out.trans (hbz.mono Yy47)); clear hbz; have m1 : wz.cell? ⟨B + 1, 1, none⟩ = some (.string ⟨#[]⟩) := R3.out 1 _ rfl; have mf1 : wz.frozen? ⟨B + 1, 1, none⟩ = false := (V3.out 1 Yy0).2; have m2 : wz.cell? ⟨B + 1, 2, none⟩ = some (.string ⟨#[]⟩) := R3.out 2 _ rfl; have mf2 : wz.frozen? ⟨B + 1, 2, none⟩ = false := (V3.out 2 Yy0).2)
     go_meet
     exact ⟨3, s.extract q j, str9, 0, rfl, hdd ⟨Yy43, NZ.out.1, fun _ => rfl, fun h => absurd h Yy44⟩, hdd (rng_set (rng_set R3.out 1 (.string (s.extract q j)) Yy3) 2 (.string str9) Yy3), hdd (thr_set (thr_set V3.out _ _) _ _), hdd (rng_oth (rng_oth Q3.out (B + 1) 1 _ Yy0) (B + 1) 2 _ Yy0), hdd (thr_set (thr_set T4.out _ _) _ _), hdd (Below.setCell (p := ⟨B + 1, 2, none⟩) (Below.setCell (p := ⟨B + 1, 1, none⟩) B3.out (Nat.le_succ B) _) (Nat.le_succ B) _)⟩
    ·
     have HKD := hdd hkd
     have hnm : ∀ x, 0 ≤ x → x < j - q → numOK (bt (s.extract q s.size) (x : Int)) := by rcases HUK.out.2.2 with ⟨a, _⟩ | ⟨_, _, b⟩ | ⟨⟨a, _⟩ | ⟨a, _⟩ | ⟨a, _⟩, _⟩ | ⟨⟨a, _⟩ | ⟨a, _⟩, _⟩ <;> first | exact b | omega
     have CT : Hid (∀ w : World, (MS w b0 ∧ b0 ≤ w.heap.size) → Calls Tryz.prog 57 #[.string (s.extract q s.size)] w (TnPost (s.extract q s.size) (j - q) w)) := hdd (fun w hm => tonum_any hm.1 hm.2 _ UZ.out.1 (j - q) UZ.out.2.1 UZ.out.2.2 hnm HUE.out)
     clear hnm hkd
     rw [PFnGjSquashItems.bt_at hqs] at hb
     have hb9 : (s[q].toNat : Int) = 45 ∨ (s[q].toNat : Int) = 48 ∨ (s[q].toNat : Int) = 49 ∨ (s[q].toNat : Int) = 50 ∨ (s[q].toNat : Int) = 51 ∨ (s[q].toNat : Int) = 52 ∨ (s[q].toNat : Int) = 53 ∨ (s[q].toNat : Int) = 54 ∨ (s[q].toNat : Int) = 55 ∨ (s[q].toNat : Int) = 56 ∨ (s[q].toNat : Int) = 57 := Yy0
     clear hb
     rcases hb9 with hb | hb | hb | hb | hb | hb | hb | hb | hb | hb | hb
     all_goals
      have k0 : wr.cell? ⟨B + 1, 0, none⟩ = some (.int .i64 0) := R1.out 0 _ rfl
      have kf0 : wr.frozen? ⟨B + 1, 0, none⟩ = false := (T2.out 0 Yy0).2
      have R2 : Hid (World.rangeAt (wr.setCell ⟨B + 1, 0, none⟩ (.int .i64 2)) (B + 1) 0 [.int .i64 2, .string ⟨#[]⟩, .string ⟨#[]⟩, .float .f64 0, .int .i64 0, .slice none 0 0]) := hdd (rng_set R1.out 0 (.int .i64 2) Yy3)
      have V2 : Hid (World.there (wr.setCell ⟨B + 1, 0, none⟩ (.int .i64 2)) (B + 1) 0 6) := hdd (thr_set T2.out _ _)
      have Q2 : Hid (World.rangeAt (wr.setCell ⟨B + 1, 0, none⟩ (.int .i64 2)) B 0 [.int .i64 0, .string ⟨#[]⟩, .string ⟨#[]⟩, .float .f64 0, .int .i64 0, .slice none 0 0]) := hdd (rng_oth R0.out (B + 1) 0 _ Yy0)
      have T3 : Hid (World.there (wr.setCell ⟨B + 1, 0, none⟩ (.int .i64 2)) B 0 6) := hdd (thr_set T1.out _ _)
      have B2 : Hid (Below B w (wr.setCell ⟨B + 1, 0, none⟩ (.int .i64 2))) := hdd (Below.setCell (p := ⟨B + 1, 0, none⟩) HB1.out (Nat.le_succ B) _)
      have M2 : Hid (MS (wr.setCell ⟨B + 1, 0, none⟩ (.int .i64 2)) b0 ∧ b0 ≤ (World.heap (wr.setCell ⟨B + 1, 0, none⟩ (.int .i64 2))).size) := hdd ⟨HM.out.below (B2.out.mono Yy55), by have := HBB.out; have := B2.out.size; omega⟩
      go_wp2_with (go_at_call 57; (with_reducible refine (CT.out _ M2.out).mono ?_); rintro en wz ⟨q9, rfl, hbz⟩; rw [EX.out]; have R3 := hdd (rng_b R2.out hbz); have V3 := hdd (thr_b V2.out hbz); have Q3 := hdd (rng_b Q2.out hbz); have T4 := hdd (thr_b T3.out hbz); have B3 : Hid (Below B w wz) := hdd (B2.out.trans (hbz.mono Yy47)); clear hbz; have m1 : wz.cell? ⟨B + 1, 1, none⟩ = some (.string ⟨#[]⟩) := R3.out 1 _ rfl; have mf1 : wz.frozen? ⟨B + 1, 1, none⟩ = false := (V3.out 1 Yy0).2; have m3 : wz.cell? ⟨B + 1, 3, none⟩ = some (.float .f64 0) := R3.out 3 _ rfl; have mf3 : wz.frozen? ⟨B + 1, 3, none⟩ = false := (V3.out 3 Yy0).2)
      go_meet
      exact ⟨2, s.extract q j, ⟨#[]⟩, q9, rfl, hdd ⟨Yy43, NZ.out.1, fun _ => rfl, fun h => absurd h Yy44⟩, hdd (rng_set (rng_set R3.out 1 (.string (s.extract q j)) Yy3) 3 (.float .f64 q9) Yy3), hdd (thr_set (thr_set V3.out _ _) _ _), hdd (rng_oth (rng_oth Q3.out (B + 1) 1 _ Yy0) (B + 1) 3 _ Yy0), hdd (thr_set (thr_set T4.out _ _) _ _), hdd (Below.setCell (p := ⟨B + 1, 3, none⟩) (Below.setCell (p := ⟨B + 1, 1, none⟩) B3.out (Nat.le_succ B) _) (Nat.le_succ B) _)⟩
    ·
     have HKD := hdd hkd
     have hv1 : q + 1 < s.size := bt_in hb2 Yy2
     rw [PFnGjSquashItems.bt_at hv1] at hb2
     rw [PFnGjSquashItems.bt_at hqs] at hb
     have hnm : ∀ x, 0 ≤ x → x < j - q → 97 ≤ bt (s.extract q s.size) (x : Int) ∧ bt (s.extract q s.size) (x : Int) ≤ 122 := Yy63
     have CT : Hid (∀ w : World, Calls Tryz.prog 58 #[.string (s.extract q s.size)] w fun en w' => en = .returned (.string ((s.extract q s.size).extract 0 (j - q))) ∧ w' = w) := hdd (fun w => tolit_any _ UZ.out.1 (j - q) UZ.out.2.1 UZ.out.2.2 hnm HUE.out)
     clear hnm
     have t9 : decide (q + 1 < s.size) = true := dtt hv1
     clear hkd
     have k0 : wr.cell? ⟨B + 1, 0, none⟩ = some (.int .i64 0) := R1.out 0 _ rfl
     have kf0 : wr.frozen? ⟨B + 1, 0, none⟩ = false := (T2.out 0 Yy0).2
     have R2 : Hid (World.rangeAt (wr.setCell ⟨B + 1, 0, none⟩ (.int .i64 0)) (B + 1) 0 [.int .i64 0, .string ⟨#[]⟩, .string ⟨#[]⟩, .float .f64 0, .int .i64 0, .slice none 0 0]) := hdd (rng_set R1.out 0 (.int .i64 0) Yy3)
     have V2 : Hid (World.there (wr.setCell ⟨B + 1, 0, none⟩ (.int .i64 0)) (B + 1) 0 6) := hdd (thr_set T2.out _ _)
     have Q2 : Hid (World.rangeAt (wr.setCell ⟨B + 1, 0, none⟩ (.int .i64 0)) B 0 [.int .i64 0, .string ⟨#[]⟩, .string ⟨#[]⟩, .float .f64 0, .int .i64 0, .slice none 0 0]) := hdd (rng_oth R0.out (B + 1) 0 _ Yy0)
     have T3 : Hid (World.there (wr.setCell ⟨B + 1, 0, none⟩ (.int .i64 0)) B 0 6) := hdd (thr_set T1.out _ _)
     have B2 : Hid (Below B w (wr.setCell ⟨B + 1, 0, none⟩ (.int .i64 0))) := hdd (Below.setCell (p := ⟨B + 1, 0, none⟩) HB1.out (Nat.le_succ B) _)
     go_wp2_with (go_at_call 58; (with_reducible refine (CT.out _).mono ?_); rintro en wz ⟨rfl, hwz⟩; rw [EX.out]; have hbz : Below (World.heap (wr.setCell ⟨B + 1, 0, none⟩ (.int .i64 0))).size (wr.setCell ⟨B + 1, 0, none⟩ (.int .i64 0)) wz := (by rw [hwz]; exact Below.refl _ _); clear hwz; have R3 := hdd (rng_b R2.out hbz); have V3 := hdd (thr_b V2.out hbz); have Q3 := hdd (rng_b Q2.out hbz); have T4 := hdd (thr_b T3.out hbz); have B3 : Hid (Below B w wz) := hdd (B2.out.trans (hbz.mono Yy47)); clear hbz; have m1 : wz.cell? ⟨B + 1, 1, none⟩ = some (.string ⟨#[]⟩) := R3.out 1 _ rfl; have mf1 : wz.frozen? ⟨B + 1, 1, none⟩ = false := (V3.out 1 Yy0).2)
     go_meet
     exact ⟨0, s.extract q j, ⟨#[]⟩, 0, rfl, hdd ⟨Yy43, NZ.out.1, fun _ => rfl, fun h => absurd h Yy44⟩, hdd (rng_set R3.out 1 (.string (s.extract q j)) Yy3), hdd (thr_set V3.out _ _), hdd (rng_oth Q3.out (B + 1) 1 _ Yy0), hdd (thr_set T4.out _ _), hdd (Below.setCell (p := ⟨B + 1, 1, none⟩) B3.out (Nat.le_succ B) _)⟩
    ·
     have HKD := hdd hkd
     rw [PFnGjSquashItems.bt_at hqs] at hb
     have hnm : ∀ x, 0 ≤ x → x < j - q → 97 ≤ bt (s.extract q s.size) (x : Int) ∧ bt (s.extract q s.size) (x : Int) ≤ 122 := Yy63
     have CT : Hid (∀ w : World, Calls Tryz.prog 58 #[.string (s.extract q s.size)] w fun en w' => en = .returned (.string ((s.extract q s.size).extract 0 (j - q))) ∧ w' = w) := hdd (fun w => tolit_any _ UZ.out.1 (j - q) UZ.out.2.1 UZ.out.2.2 hnm HUE.out)
     clear hnm
     clear hkd
     have k0 : wr.cell? ⟨B + 1, 0, none⟩ = some (.int .i64 0) := R1.out 0 _ rfl
     have kf0 : wr.frozen? ⟨B + 1, 0, none⟩ = false := (T2.out 0 Yy0).2
     have R2 : Hid (World.rangeAt (wr.setCell ⟨B + 1, 0, none⟩ (.int .i64 1)) (B + 1) 0 [.int .i64 1, .string ⟨#[]⟩, .string ⟨#[]⟩, .float .f64 0, .int .i64 0, .slice none 0 0]) := hdd (rng_set R1.out 0 (.int .i64 1) Yy3)
     have V2 : Hid (World.there (wr.setCell ⟨B + 1, 0, none⟩ (.int .i64 1)) (B + 1) 0 6) := hdd (thr_set T2.out _ _)
     have Q2 : Hid (World.rangeAt (wr.setCell ⟨B + 1, 0, none⟩ (.int .i64 1)) B 0 [.int .i64 0, .string ⟨#[]⟩, .string ⟨#[]⟩, .float .f64 0, .int .i64 0, .slice none 0 0]) := hdd (rng_oth R0.out (B + 1) 0 _ Yy0)
     have T3 : Hid (World.there (wr.setCell ⟨B + 1, 0, none⟩ (.int .i64 1)) B 0 6) := hdd (thr_set T1.out _ _)
     have B2 : Hid (Below B w (wr.setCell ⟨B + 1, 0, none⟩ (.int .i64 1))) := hdd (Below.setCell (p := ⟨B + 1, 0, none⟩) HB1.out (Nat.le_succ B) _)
     go_wp2_with (go_at_call 58; (with_reducible refine (CT.out _).mono ?_); rintro en wz ⟨rfl, hwz⟩; rw [EX.out]; have hbz : Below (World.heap (wr.setCell ⟨B + 1, 0, none⟩ (.int .i64 1))).size (wr.setCell ⟨B + 1, 0, none⟩ (.int .i64 1)) wz := (by rw [hwz]; exact Below.refl _ _); clear hwz; have R3 := hdd (rng_b R2.out hbz); have V3 := hdd (thr_b V2.out hbz); have Q3 := hdd (rng_b Q2.out hbz); have T4 := hdd (thr_b T3.out hbz); have B3 : Hid (Below B w wz) := hdd (B2.out.trans (hbz.mono Yy47)); clear hbz; have m1 : wz.cell? ⟨B + 1, 1, none⟩ = some (.string ⟨#[]⟩) := R3.out 1 _ rfl; have mf1 : wz.frozen? ⟨B + 1, 1, none⟩ = false := (V3.out 1 Yy0).2)
     go_meet
     exact ⟨1, s.extract q j, ⟨#[]⟩, 0, rfl, hdd ⟨Yy43, NZ.out.1, fun _ => rfl, fun h => absurd h Yy44⟩, hdd (rng_set R3.out 1 (.string (s.extract q j)) Yy3), hdd (thr_set V3.out _ _), hdd (rng_oth Q3.out (B + 1) 1 _ Yy0), hdd (thr_set T4.out _ _), hdd (Below.setCell (p := ⟨B + 1, 1, none⟩) B3.out (Nat.le_succ B) _)⟩
    ·
     have HKD := hdd hkd
     rw [PFnGjSquashItems.bt_at hqs] at hb
     have hnm : ∀ x, 0 ≤ x → x < j - q → 97 ≤ bt (s.extract q s.size) (x : Int) ∧ bt (s.extract q s.size) (x : Int) ≤ 122 := Yy63
     have CT : Hid (∀ w : World, Calls Tryz.prog 58 #[.string (s.extract q s.size)] w fun en w' => en = .returned (.string ((s.extract q s.size).extract 0 (j - q))) ∧ w' = w) := hdd (fun w => tolit_any _ UZ.out.1 (j - q) UZ.out.2.1 UZ.out.2.2 hnm HUE.out)
     clear hnm
     clear hkd
     have k0 : wr.cell? ⟨B + 1, 0, none⟩ = some (.int .i64 0) := R1.out 0 _ rfl
     have kf0 : wr.frozen? ⟨B + 1, 0, none⟩ = false := (T2.out 0 Yy0).2
     have R2 : Hid (World.rangeAt (wr.setCell ⟨B + 1, 0, none⟩ (.int .i64 4)) (B + 1) 0 [.int .i64 4, .string ⟨#[]⟩, .string ⟨#[]⟩, .float .f64 0, .int .i64 0, .slice none 0 0]) := hdd (rng_set R1.out 0 (.int .i64 4) Yy3)
     have V2 : Hid (World.there (wr.setCell ⟨B + 1, 0, none⟩ (.int .i64 4)) (B + 1) 0 6) := hdd (thr_set T2.out _ _)
     have Q2 : Hid (World.rangeAt (wr.setCell ⟨B + 1, 0, none⟩ (.int .i64 4)) B 0 [.int .i64 0, .string ⟨#[]⟩, .string ⟨#[]⟩, .float .f64 0, .int .i64 0, .slice none 0 0]) := hdd (rng_oth R0.out (B + 1) 0 _ Yy0)
     have T3 : Hid (World.there (wr.setCell ⟨B + 1, 0, none⟩ (.int .i64 4)) B 0 6) := hdd (thr_set T1.out _ _)
     have B2 : Hid (Below B w (wr.setCell ⟨B + 1, 0, none⟩ (.int .i64 4))) := hdd (Below.setCell (p := ⟨B + 1, 0, none⟩) HB1.out (Nat.le_succ B) _)
     go_wp2_with (go_at_call 58; (with_reducible refine (CT.out _).mono ?_); rintro en wz ⟨rfl, hwz⟩; rw [EX.out]; have hbz : Below (World.heap (wr.setCell ⟨B + 1, 0, none⟩ (.int .i64 4))).size (wr.setCell ⟨B + 1, 0, none⟩ (.int .i64 4)) wz := (by rw [hwz]; exact Below.refl _ _); clear hwz; have R3 := hdd (rng_b R2.out hbz); have V3 := hdd (thr_b V2.out hbz); have Q3 := hdd (rng_b Q2.out hbz); have T4 := hdd (thr_b T3.out hbz); have B3 : Hid (Below B w wz) := hdd (B2.out.trans (hbz.mono Yy47)); clear hbz; have m1 : wz.cell? ⟨B + 1, 1, none⟩ = some (.string ⟨#[]⟩) := R3.out 1 _ rfl; have mf1 : wz.frozen? ⟨B + 1, 1, none⟩ = false := (V3.out 1 Yy0).2)
     go_meet
     exact ⟨4, s.extract q j, ⟨#[]⟩, 0, rfl, hdd ⟨Yy43, NZ.out.1, fun _ => rfl, fun h => absurd h Yy44⟩, hdd (rng_set R3.out 1 (.string (s.extract q j)) Yy3), hdd (thr_set V3.out _ _), hdd (rng_oth Q3.out (B + 1) 1 _ Yy0), hdd (thr_set T4.out _ _), hdd (Below.setCell (p := ⟨B + 1, 1, none⟩) B3.out (Nat.le_succ B) _)⟩
    ·
     have HKD := hdd hkd
     rw [PFnGjSquashItems.bt_at hqs] at hb
     clear hkd
     have k0 : wr.cell? ⟨B + 1, 0, none⟩ = some (.int .i64 0) := R1.out 0 _ rfl
     have kf0 : wr.frozen? ⟨B + 1, 0, none⟩ = false := (T2.out 0 Yy0).2
     have R2 : Hid (World.rangeAt (wr.setCell ⟨B + 1, 0, none⟩ (.int .i64 5)) (B + 1) 0 [.int .i64 5, .string ⟨#[]⟩, .string ⟨#[]⟩, .float .f64 0, .int .i64 0, .slice none 0 0]) := hdd (rng_set R1.out 0 (.int .i64 5) Yy3)
     have V2 : Hid (World.there (wr.setCell ⟨B + 1, 0, none⟩ (.int .i64 5)) (B + 1) 0 6) := hdd (thr_set T2.out _ _)
     have Q2 : Hid (World.rangeAt (wr.setCell ⟨B + 1, 0, none⟩ (.int .i64 5)) B 0 [.int .i64 0, .string ⟨#[]⟩, .string ⟨#[]⟩, .float .f64 0, .int .i64 0, .slice none 0 0]) := hdd (rng_oth R0.out (B + 1) 0 _ Yy0)
     have T3 : Hid (World.there (wr.setCell ⟨B + 1, 0, none⟩ (.int .i64 5)) B 0 6) := hdd (thr_set T1.out _ _)
     have B2 : Hid (Below B w (wr.setCell ⟨B + 1, 0, none⟩ (.int .i64 5))) := hdd (Below.setCell (p := ⟨B + 1, 0, none⟩) HB1.out (Nat.le_succ B) _)
     have k1 : wr.cell? ⟨B + 1, 1, none⟩ = some (.string ⟨#[]⟩) := R1.out 1 _ rfl
     have kf1 : wr.frozen? ⟨B + 1, 1, none⟩ = false := (T2.out 1 Yy0).2
     go_wp2_with fail
     go_meet
     exact ⟨5, s.extract q s.size, ⟨#[]⟩, 0, rfl, hdd ⟨Yy43, NZ.out.2, fun h => absurd h Yy44, fun _ => ⟨rfl, rfl, rfl, rfl⟩⟩, hdd (rng_set R2.out 1 (.string (s.extract q s.size)) Yy3), hdd (thr_set V2.out _ _), hdd (rng_oth Q2.out (B + 1) 1 _ Yy0), hdd (thr_set T3.out _ _), hdd (Below.setCell (p := ⟨B + 1, 1, none⟩) B2.out (Nat.le_succ B) _)⟩
    ·
     have HKD := hdd hkd
     rw [PFnGjSquashItems.bt_at hqs] at hb
     clear hkd
     have k0 : wr.cell? ⟨B + 1, 0, none⟩ = some (.int .i64 0) := R1.out 0 _ rfl
     have kf0 : wr.frozen? ⟨B + 1, 0, none⟩ = false := (T2.out 0 Yy0).2
     have R2 : Hid (World.rangeAt (wr.setCell ⟨B + 1, 0, none⟩ (.int .i64 5)) (B + 1) 0 [.int .i64 5, .string ⟨#[]⟩, .string ⟨#[]⟩, .float .f64 0, .int .i64 0, .slice none 0 0]) := hdd (rng_set R1.out 0 (.int .i64 5) Yy3)
     have V2 : Hid (World.there (wr.setCell ⟨B + 1, 0, none⟩ (.int .i64 5)) (B + 1) 0 6) := hdd (thr_set T2.out _ _)
     have Q2 : Hid (World.rangeAt (wr.setCell ⟨B + 1, 0, none⟩ (.int .i64 5)) B 0 [.int .i64 0, .string ⟨#[]⟩, .string ⟨#[]⟩, .float .f64 0, .int .i64 0, .slice none 0 0]) := hdd (rng_oth R0.out (B + 1) 0 _ Yy0)
     have T3 : Hid (World.there (wr.setCell ⟨B + 1, 0, none⟩ (.int .i64 5)) B 0 6) := hdd (thr_set T1.out _ _)
     have B2 : Hid (Below B w (wr.setCell ⟨B + 1, 0, none⟩ (.int .i64 5))) := hdd (Below.setCell (p := ⟨B + 1, 0, none⟩) HB1.out (Nat.le_succ B) _)
     have k1 : wr.cell? ⟨B + 1, 1, none⟩ = some (.string ⟨#[]⟩) := R1.out 1 _ rfl
     have kf1 : wr.frozen? ⟨B + 1, 1, none⟩ = false := (T2.out 1 Yy0).2
     go_wp2_with fail
     go_meet
     exact ⟨5, s.extract q s.size, ⟨#[]⟩, 0, rfl, hdd ⟨Yy43, NZ.out.2, fun h => absurd h Yy44, fun _ => ⟨rfl, rfl, rfl, rfl⟩⟩, hdd (rng_set R2.out 1 (.string (s.extract q s.size)) Yy3), hdd (thr_set V2.out _ _), hdd (rng_oth Q2.out (B + 1) 1 _ Yy0), hdd (thr_set T3.out _ _), hdd (Below.setCell (p := ⟨B + 1, 1, none⟩) B2.out (Nat.le_succ B) _)⟩
   ·
    have hb := HSK.out q h
    rw [PFnGjSquashItems.bt_at hqs] at hb
    have q1 : ((s[q].toNat : Int) == 123) = false := bfo Yy0
    have q2 : ((s[q].toNat : Int) == 91) = false := bfo Yy0
    have q3 : decide ((s[q].toNat : Int) ≤ 32) = true := dtt hb
    go_wp2_with fail
    go_roundg (gk - 1)
    case measure => have := hq.out; omega
    case rel => exact ⟨q + 1, Yy5, hdd Yy14, hdd rfl⟩
 case rest =>
  clear R1 T2 T1 R0 HB1 HS1
  obtain ⟨k9, raw9, str9, q9, rfl, hK, R5, U5, Q5, T5, B5⟩ := hcut
  have ex : (k9 != 0 || (raw9.size : Int) != 0) = true := by
   have h1 := hK.out.2.1
   rw [show ((raw9.size : Int) != 0) = true from bne_iff_ne.mpr Yy0, Bool.or_true]
  have e0 : wc.cell? ⟨B + 1, 0, none⟩ = some (.int .i64 k9) := R5.out 0 _ rfl
  have e1 : wc.cell? ⟨B + 1, 1, none⟩ = some (.string raw9) := R5.out 1 _ rfl
  have e2 : wc.cell? ⟨B + 1, 2, none⟩ = some (.string str9) := R5.out 2 _ rfl
  have e3 : wc.cell? ⟨B + 1, 3, none⟩ = some (.float .f64 q9) := R5.out 3 _ rfl
  have e4 : wc.cell? ⟨B + 1, 4, none⟩ = some (.int .i64 0) := R5.out 4 _ rfl
  have e5 : wc.cell? ⟨B + 1, 5, none⟩ = some (.slice none 0 0) := R5.out 5 _ rfl
  go_upto_region 45 with (go_at_call 51; refine (exists_any _ _ _ _ _ _).mono ?_; rintro en w6 ⟨rfl, hb6⟩; rw [ex]; have R6 := hdd (rng_b R5.out hb6); have Q6 := hdd (rng_b Q5.out hb6); have T6 := hdd (thr_b T5.out hb6); have U6 := hdd (thr_b U5.out hb6); have B6 : Hid (Below B w w6) := hdd (B5.out.trans (hb6.mono (by have := B5.out.size; omega))); clear hb6; have gf4 : w6.frozen? ⟨B + 1, 4, none⟩ = false := (U6.out 4 Yy0).2; have g4 : w6.cell? ⟨B + 1, 4, none⟩ = some (.int .i64 0) := R6.out 4 _ rfl)
  clear e0 e1 e2 e3 e4 e5 g4 gf4
  have R7 : Hid (World.rangeAt (w6.setCell ⟨B + 1, 4, none⟩ (.int .i64 (v : Int))) (B + 1) 0 [.int .i64 k9, .string raw9, .string str9, .float .f64 q9, .int .i64 (v : Int), .slice none 0 0]) := hdd (rng_set R6.out 4 (.int .i64 (v : Int)) Yy3)
  have Q7 : Hid (World.rangeAt (w6.setCell ⟨B + 1, 4, none⟩ (.int .i64 (v : Int))) B 0 [.int .i64 0, .string ⟨#[]⟩, .string ⟨#[]⟩, .float .f64 0, .int .i64 0, .slice none 0 0]) := hdd (rng_oth Q6.out (B + 1) 4 _ Yy0)
  have T7 : Hid (World.there (w6.setCell ⟨B + 1, 4, none⟩ (.int .i64 (v : Int))) B 0 6) := hdd (thr_set T6.out _ _)
  have B7 : Hid (Below B w (w6.setCell ⟨B + 1, 4, none⟩ (.int .i64 (v : Int)))) := hdd (Below.setCell (p := ⟨B + 1, 4, none⟩) B6.out (Nat.le_succ B) _)
  obtain ⟨w7, hw7⟩ : ∃ w7, w6.setCell ⟨B + 1, 4, none⟩ (.int .i64 (v : Int)) = w7 := ⟨_, rfl⟩
  rw [hw7] at R7 T7 B7 Q7
  rw [hw7]
  clear hw7
  have g0 : w7.cell? ⟨B + 1, 0, none⟩ = some (.int .i64 k9) := R7.out 0 _ rfl
  have h0 : w7.cell? ⟨B, 0, none⟩ = some (.int .i64 0) := Q7.out 0 _ rfl
  have hf0 : w7.frozen? ⟨B, 0, none⟩ = false := (T7.out 0 Yy0).2
  have g1 : w7.cell? ⟨B + 1, 1, none⟩ = some (.string raw9) := R7.out 1 _ rfl
  have h1 : w7.cell? ⟨B, 1, none⟩ = some (.string ⟨#[]⟩) := Q7.out 1 _ rfl
  have hf1 : w7.frozen? ⟨B, 1, none⟩ = false := (T7.out 1 Yy0).2
  have g2 : w7.cell? ⟨B + 1, 2, none⟩ = some (.string str9) := R7.out 2 _ rfl
  have h2 : w7.cell? ⟨B, 2, none⟩ = some (.string ⟨#[]⟩) := Q7.out 2 _ rfl
  have hf2 : w7.frozen? ⟨B, 2, none⟩ = false := (T7.out 2 Yy0).2
  have g3 : w7.cell? ⟨B + 1, 3, none⟩ = some (.float .f64 q9) := R7.out 3 _ rfl
  have h3 : w7.cell? ⟨B, 3, none⟩ = some (.float .f64 0) := Q7.out 3 _ rfl
  have hf3 : w7.frozen? ⟨B, 3, none⟩ = false := (T7.out 3 Yy0).2
  have g4 : w7.cell? ⟨B + 1, 4, none⟩ = some (.int .i64 (v : Int)) := R7.out 4 _ rfl
  have h4 : w7.cell? ⟨B, 4, none⟩ = some (.int .i64 0) := Q7.out 4 _ rfl
  have hf4 : w7.frozen? ⟨B, 4, none⟩ = false := (T7.out 4 Yy0).2
  have g5 : w7.cell? ⟨B + 1, 5, none⟩ = some (.slice none 0 0) := R7.out 5 _ rfl
  have h5 : w7.cell? ⟨B, 5, none⟩ = some (.slice none 0 0) := Q7.out 5 _ rfl
  have hf5 : w7.frozen? ⟨B, 5, none⟩ = false := (T7.out 5 Yy0).2
  have RG : Hid (World.rangeAt ((((((w7.setCell ⟨B, 0, none⟩ (.int .i64 k9)).setCell ⟨B, 1, none⟩ (.string raw9)).setCell ⟨B, 2, none⟩ (.string str9)).setCell ⟨B, 3, none⟩ (.float .f64 q9)).setCell ⟨B, 4, none⟩ (.int .i64 (v : Int))).setCell ⟨B, 5, none⟩ (.slice none 0 0)) B 0 [.int .i64 k9, .string raw9, .string str9, .float .f64 q9, .int .i64 (v : Int), .slice none 0 0]) := hdd (rng_set (rng_set (rng_set (rng_set (rng_set (rng_set Q7.out 0 (.int .i64 k9) Yy3) 1 (.string raw9) Yy3) 2 (.string str9) Yy3) 3 (.float .f64 q9) Yy3) 4 (.int .i64 (v : Int)) Yy3) 5 (.slice none 0 0) Yy3)
  have HBE : Hid (Below B w ((((((w7.setCell ⟨B, 0, none⟩ (.int .i64 k9)).setCell ⟨B, 1, none⟩ (.string raw9)).setCell ⟨B, 2, none⟩ (.string str9)).setCell ⟨B, 3, none⟩ (.float .f64 q9)).setCell ⟨B, 4, none⟩ (.int .i64 (v : Int))).setCell ⟨B, 5, none⟩ (.slice none 0 0))) := hdd (Below.setCell (p := ⟨B, 5, none⟩) (Below.setCell (p := ⟨B, 4, none⟩) (Below.setCell (p := ⟨B, 3, none⟩) (Below.setCell (p := ⟨B, 2, none⟩) (Below.setCell (p := ⟨B, 1, none⟩) (Below.setCell (p := ⟨B, 0, none⟩) B7.out (nlr B) (.int .i64 k9)) (nlr B) (.string raw9)) (nlr B) (.string str9)) (nlr B) (.float .f64 q9)) (nlr B) (.int .i64 (v : Int))) (nlr B) (.slice none 0 0))
  go_wp2_with fail
  refine bodyPost_ret (results_cell1 rfl _ _ B _ _ rfl RG.out Tryz.underlying61 rfl Yy1) rfl ?_
  exact ⟨⟨k9, raw9, str9, q9, (v : Int)⟩, rfl, hK.out.1, hK.out.2.2.1, fun h => by obtain ⟨rfl, rfl, rfl, rfl⟩ := hK.out.2.2.2 h; rfl, Yy29⟩
end Go.Proofs.YtieflhncpjjciaaGreatDoor.Dc
