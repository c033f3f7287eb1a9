/- FnGjKeysSeq: for every input the law returns true and its arguments read as they read. Its condition: the listed variables lie as the program's text lays them (the card ties them). -/
import Derived.Test.YtieflhncpjjciaaGreatDoorBwJ
import Derived.Test.YtieflhncpjjciaaGreatDoorBwK
import Derived.Test.YtieflhncpjjciaaGreatDoorBwL
import Derived.Test.YtieflhncpjjciaaGreatDoorBwG
import Derived.BigQuiet
import Derived.Deep.RegionHeld3
import Derived.Test.YtieflhncpjjciaaGreatDoorRows
import Derived.LaidMore
import Derived.Handed
import Derived.KernelRfl
import Derived.Test.YtieflhncpjjciaaGreatDoorTie
import Derived.Test.YtieflhncpjjciaaGreatDoorCards
import Derived.Test.YtieflhncpjjciaaGreatDoorBwH
import Derived.WalkKit
import Derived.ProofKit
import Derived.OpenShut
import Derived.ShutString
import Derived.ChangeOld
import Derived.Below
import Derived.SizedLaws
import Derived.Test.YtieflhncpjjciaaGreatDoorBwA
set_option maxHeartbeats 8000000
set_option maxRecDepth 100000
set_option linter.unusedVariables false
set_option linter.unusedSimpArgs false
namespace Go.Proofs.YtieflhncpjjciaaGreatDoor.Dc
open Go Go.RowKit Go.Proofs.YtieflhncpjjciaaGreatDoorW.PrintWords Go.Proofs.YtieflhncpjjciaaGreatDoor.PFnGjSquashItems
theorem fe_cont {b0 : Nat} {cont : List (RV × RV) → Bool} (u tstr : ByteArray) (tq : Nat) (tix : Int) (hix : 0 ≤ tix ∧ tix ≤ 65536) (hs : u.size ≤ 65536) (ob : Bool) (l : List ItT) (hb : bt u 0 = if ob then 123 else 91) (hl : It u ob 1 l) :
  FeOK b0 ⟨5, u, tstr, tq, tix⟩ cont (fun L => Run u ob cont [] l L ∧ ∃ q, NumI ob L q) := by
 intro f caps C Inv hi w h hBB hC h0
 exact (foreach_any hi h hBB hC h0 u tstr tq tix hix hs ob l hb hl).mono fun e w' ⟨he, L, base, hr, h1, h2, h3⟩ => ⟨he, L, base, ⟨hr, h3⟩, h1, h2⟩
structure KSum (s : ByteArray) (t : T) (L M : List (RV × RV)) : Prop where
 len : L.length = M.length
 few : L.length ≤ 65536
 fit : ∀ (k : Nat) (a b : RV × RV), L[k]? = some a → M[k]? = some b → a.1.k = b.1.k ∧ a.1.raw = b.1.raw ∧ a.1.str = b.1.str ∧ NumEq a.1.q b.1.q ∧ (t.s.1 = 6 → ∃ nm, (t.n s).f2[k]? = some nm ∧ a.1.k = 3 ∧ a.1.str = nm ∧ Ev (fun n => spec_Read.f n a.1.raw) (4, nm, [], [], true))
 none : L = [] → ∃ i p, Emp s i p ∧ Blk s 0 i ∧ Blk s (p + 1) s.size
theorem it_len {u : ByteArray} {ob : Bool} {i : Nat} {l : List ItT} (h : It u ob i l) : l.length + i ≤ u.size + 1 := by
 induction h with
 | done h _ _ => simp; omega
 | item hi hn hn2 hv hs vk hj he r ih =>
  have h8 := vk.1
  rw [List.length_cons]
  cases ob with
  | true => have h9 := (hn rfl).1.1.1; omega
  | false => have h9 := hn2 rfl; omega
theorem ks_sum {b0 : Nat} {s : ByteArray} (hs : s.size ≤ 65536) {t : T} (hw : t.wf s) (hp : t.pd s) (hb0 : Blk s 0 t.i) (hbj : Blk s t.j s.size) (stop : Int) :
  ∃ (Tp : RV → Prop) (R : List (RV × RV) → Prop), (∀ {w : World}, MS w b0 → b0 ≤ w.heap.size → Calls Tryz.prog 33 #[.string s] w fun e w' => ∃ t : RV, Tp t ∧ e = .returned t.val ∧ Below w.heap.size w w') ∧ (∀ r, Tp r → FeOK b0 r (contS stop) R) ∧ ∀ L M, R L → R M → KSum s t L M := by
 have hij := T.wf_lt t hw
 have hjs : t.j ≤ s.size := hbj.1
 have his : t.i < s.size := Yy0
 have hsk : ∀ q, q < t.i → bt s (q : Int) ≤ 32 := fun q hq => isB_le (hb0.2.2 q (Nat.zero_le _) hq)
 have hvk := wf_vk hw
 have he : NumEnd s t.j := by
  rcases eol hjs with h | h
  ·
   exact .inl h
  ·
   exact .inr (.inl (isB_le (hbj.2.2 t.j (nlr _) h)))
 by_cases h5 : 5 ≤ t.s.1
 ·
  obtain ⟨ob, l, h1, h2, h3, h4, h6⟩ := t_items2 hw h5 hbj (Suf.of s (Nat.le_of_lt his))
  have hz : (s.extract t.i s.size).size ≤ 65536 := Yy13
  refine ⟨fun r => r = ⟨5, s.extract t.i s.size, ⟨#[]⟩, 0, (t.i : Int)⟩, fun L => Run (s.extract t.i s.size) ob (contS stop) [] l L ∧ ∃ q, NumI ob L q, ?_, ?_, ?_⟩
  ·
   intro w hm hb
   exact (parse_all hm hb s hs t.i t.j t.s.1 hsk hvk he).mono fun e w' ⟨r, h1, _, _, h2, h3⟩ => ⟨r, h2 h5, h1, h3⟩
  ·
   rintro r rfl
   exact fe_cont _ _ _ _ Yy0 hz ob l h1 h2
  ·
   rintro L M ⟨r1, q1, n1⟩ ⟨r2, q2, n2⟩
   obtain ⟨P, Q, eP, eQ, e1, e2, e3, e4⟩ := run_two r1 rfl r2
   rw [List.nil_append] at eP eQ
   rw [eP] at n1
   rw [eQ] at n2
   rw [eP, eQ]
   clear r1 r2 eP eQ
   have hnum := (numI_two P.length P Q q1 q2 rfl e1.symm n1 n2).2
   have hll := it_len h2
   refine ⟨e1, Yy0, fun k a b ha hb => ?_, fun h0 => ?_⟩
   ·
    have hk : k < P.length := (List.getElem?_eq_some_iff.mp ha).1
    have hk' : k < Q.length := (List.getElem?_eq_some_iff.mp hb).1
    obtain ⟨pa, pb⟩ := e4 k a b (l[k]' Yy0) (List.getElem?_eq_getElem Yy0) ha hb
    have hn := hnum k hk hk'
    rw [(List.getElem?_eq_some_iff.mp ha).2, (List.getElem?_eq_some_iff.mp hb).2] at hn
    obtain ⟨f1, f2, f3, f4⟩ := key_fit hs hw hp rfl (Nat.le_of_lt his) h4 h6 (List.getElem?_eq_getElem Yy0) pa pb
    exact ⟨f1, f2, f3, hn, f4⟩
   ·
    have hl : l = [] := by
     by_cases hl : l = []
     ·
      exact hl
     ·
      exact absurd h0 (e3 hl)
    obtain ⟨p, g1, g2, g3⟩ := empty_of hw h5 h3 hl
    exact ⟨t.i, p, ⟨g1, g3⟩, hb0, by rw [← g2]; exact hbj⟩
 ·
  refine ⟨fun r => r.k ≠ 5 ∧ (r.k ≠ 0 ∨ r.raw.size ≠ 0), fun L => ∃ r, L = [(RV.z, r)], ?_, ?_, ?_⟩
  ·
   intro w hm hb
   refine (parse_all hm hb s hs t.i t.j t.s.1 hsk hvk he).mono ?_
   rintro e w' ⟨r, he, h1, h2, _, hb⟩
   have h2 := h2 Yy0
   refine ⟨r, ⟨?_, .inr (by rw [h2, ByteArray.size_extract]; omega)⟩, he, hb⟩
   have hkd : 0 ≤ t.s.1 := by rcases hvk.2.2 with ⟨a, _⟩ | ⟨a, _⟩ | ⟨⟨a, _⟩ | ⟨a, _⟩ | ⟨a, _⟩, _⟩ | ⟨⟨a, _⟩ | ⟨a, _⟩, _⟩ <;> omega
   rw [h1]
   unfold gkd
   repeat' split
   all_goals first | decide | omega
  ·
   rintro r ⟨h1, h2⟩
   intro f caps C Inv hi w h hBB hC h0
   exact (foreach_leaf h1 h2 hi h hBB hC h0).mono fun e w' ⟨he, L, base, hL, g1, g2⟩ => ⟨he, L, base, ⟨r, hL⟩, g1, g2⟩
  ·
   rintro L M ⟨r, rfl⟩ ⟨r', rfl⟩
   refine ⟨rfl, Yy3, fun k a b ha hb => ?_, fun h => Yy9⟩
   cases k with
   | succ k => simp at ha
   | zero =>
    obtain rfl := Option.some.inj ha
    obtain rfl := Option.some.inj hb
    exact ⟨rfl, rfl, rfl, .inl rfl, fun h => absurd h Yy0⟩
inductive All2 {α β : Type} (R : α → β → Prop) : List α → List β → Prop
 | nil : All2 R [] []
 | cons {a : α} {b : β} {l : List α} {m : List β} (h : R a b) (r : All2 R l m) : All2 R (a :: l) (b :: m)
theorem All2.len {α β : Type} {R : α → β → Prop} {l : List α} {m : List β} (h : All2 R l m) : l.length = m.length := by
 induction h with
 | nil => rfl
 | cons _ _ ih => simp [ih]
theorem All2.get {α β : Type} {R : α → β → Prop} {l : List α} {m : List β} (h : All2 R l m) : ∀ (k : Nat) (a : α), l[k]? = some a → ∃ b, m[k]? = some b ∧ R a b := by
 induction h with
 | nil => intro k a hk; simp at hk
 | cons h r ih =>
  intro k a hk
  cases k with
  | zero => obtain rfl := Option.some.inj hk; exact ⟨_, rfl, h⟩
  | succ k => exact ih k a hk
theorem Ot.off {ob base : Nat} {L : List (RV × RV)} {w w' : World} (h : Ot ob base L w) (k : OffC (fun g => g = ob) base w w') : Ot ob base L w' := by
 obtain ⟨⟨v, hc, ho, hn⟩, hf⟩ := h
 have hlt := blo w _ hc
 have hb := k.block ob hlt (Or.inl rfl)
 refine ⟨⟨v, by rw [World.cell?_of_block (w := w) hb]; exact hc, ⟨ho.1, ?_⟩, hn⟩, ?_⟩
 ·
  rcases ho.2 with h2 | ⟨g, cap, cur, hv, hg, hh, hr⟩
  ·
   exact .inl h2
  ·
   exact .inr ⟨g, cap, cur, hv, hg, Yy66, hr⟩
 ·
  rw [← hf]
  unfold World.frozen?
  simp only [hb]
theorem pair_cell {P : List (RV × RV)} {k : Nat} {p : RV × RV} (h : P[k]? = some p) (j : Nat) (hj : j < 10) : (P.flatMap pairCells)[k * 10 + j]? = (pairCells p)[j]? := by
 induction P generalizing k with
 | nil => simp at h
 | cons a P ih =>
  have ha : (pairCells a).length = 10 := rfl
  rw [List.flatMap_cons]
  cases k with
  | zero =>
   obtain rfl := Option.some.inj h
   rw [List.getElem?_append_left Yy0, Nat.zero_mul, Nat.zero_add]
  | succ k =>
   rw [List.getElem?_append_right Yy0, ha, show (k + 1) * 10 + j - 10 = k * 10 + j from Yy0]
   exact ih h
theorem It.vk {u : ByteArray} {ob : Bool} {i : Nat} {l : List ItT} (h : It u ob i l) : ∀ (k : Nat) (t : ItT), l[k]? = some t → VK u t.kd t.v t.j ∧ t.j < u.size := by
 induction h with
 | done => intro k t h; simp at h
 | item hi hn hn2 hv hs vk hj he r ih =>
  intro k t h
  cases k with
  | zero => obtain rfl := Option.some.inj h; exact ⟨vk, hj⟩
  | succ k => exact ih k t h
theorem cell_later_of {w w' : World} (h : Below w.heap.size w w') {a : Addr} {v : Value} (hc : w.cell? a = some v) : w'.cell? a = some v := cellB h hc
theorem own_form {w : World} {base e size n : Nat} {v : Value} {xs : List Value} (h : w.ownsRow base e size v n xs) : ∃ A c, v = .slice A n c := by
 rcases h.2 with ⟨h2, h3⟩ | ⟨g, cap, cur, hv, _⟩
 ·
  exact ⟨none, 0, by rw [h2, h3]⟩
 ·
  exact ⟨_, _, hv⟩
theorem c_nil {α : Type} (d : Kd α) (w : World) : d.C w none 0 [] := by
 obtain ⟨A, c, he, _, hc⟩ := Kd.R_reads (Kd.R_nil d 9 w 0 (fun _ => True))
 injection he with h1 h2 h3
 subst h1
 exact hc
theorem key_cell {P : List (RV × RV)} {k : Nat} {p : RV × RV} (h : P[k]? = some p) (j : Nat) (hj : j < 5) : (P.flatMap keyCells)[k * 5 + j]? = (keyCells p)[j]? := by
 induction P generalizing k with
 | nil => simp at h
 | cons a P ih =>
  have ha : (keyCells a).length = 5 := rfl
  rw [List.flatMap_cons]
  cases k with
  | zero =>
   obtain rfl := Option.some.inj h
   rw [List.getElem?_append_left Yy0, Nat.zero_mul, Nat.zero_add]
  | succ k =>
   rw [List.getElem?_append_right Yy0, ha, show (k + 1) * 5 + j - 5 = k * 5 + j from Yy0]
   exact ih h
theorem own_at {w : World} {base e size n : Nat} {A : Option Addr} {c : Nat} {xs : List Value} (h : w.ownsRow base e size (.slice A n c) n xs) (hn : 0 < n) : ∃ g, A = some ⟨g, 0, none⟩ := by
 rcases h.2 with ⟨h2, h3⟩ | ⟨g, cap, cur, hv, _⟩
 ·
  omega
 ·
  injection hv with e1; exact ⟨g, e1⟩
theorem kq_any {w : World} {b0 : Nat} (h : MS w b0) (hBB : b0 ≤ w.heap.size) (s : ByteArray) (hs : s.size ≤ 140737488351232) (stop : Int) :
  Calls Tryz.prog 7 #[.string s, .int .i64 stop] w fun e w' => e = .returned (.bool true) ∧ Below w.heap.size w w' := by
 rcases Nat.lt_or_ge 2147483647 s.size with h1 | h1
 ·
  have t1 : decide ((2147483647 : Int) < (s.size : Int)) = true := dtt Yy0
  go_enter Tryz.func7, Tryz.ntmps7
  go_wp2_with fail
  go_ret
  exact ⟨rfl, Below.refl _ _⟩
 ·
  have t1 : decide ((2147483647 : Int) < (s.size : Int)) = false := dff Yy0
  have ss : (s.size : Int) ≤ 2147483647 := Yy0
  obtain ⟨r1, r2, r3, r4, ok, ⟨k0, hk0⟩, hG⟩ := gjtext_ev2 s
  have GC : Hid (∀ w, Calls Tryz.prog 12 #[.string s] w fun e w' => ∃ v2_ v3_ : Value, e = .returned (.tuple #[.agg #[.int .i64 r1, .string r2, v2_, v3_], .bool ok]) ∧ Kd.R Kd.string 9 w' w.heap.size (fun _ => True) v2_ r3 ∧ Kd.R k26 26 w' w.heap.size (fun k_ => some k_ ≠ (v2_ : Value).ownBlock) v3_ r4 ∧ Below w.heap.size w w') := hdd (fun w => laws_gjText.calls k0 s r1 r2 r3 r4 ok w (hk0 k0 (nlr _)))
  have HG := hdd hG
  have HM := hdd h; have HBB := hdd hBB
  clear hG hk0 h hBB
  cases ok with
  | false =>
   go_enter Tryz.func7, Tryz.ntmps7
   go_wp2_with (go_at_call 12; refine (GC.out _).mono ?_; rintro en w1 ⟨v2, v3, rfl, hR2, hR3, hb1⟩; obtain ⟨A2, cc2, rfl, -⟩ := Kd.R_reads hR2; obtain ⟨A3, c3, rfl, -⟩ := Kd.R_reads hR3; have B1 := hdd hb1; clear hR2 hR3 hb1)
   go_ret
   exact ⟨rfl, B1.out.alloc B1.out.size _⟩
  | true =>
   obtain ⟨hs65, hpd, t, hw, hnode, hb0, hbj, _⟩ := HG.out rfl
   have hr1 : r1 = t.s.1 := by rw [← T.n_kind s t, ← hnode]
   have hr3 : r3 = (t.n s).f2 := by rw [← hnode]
   obtain ⟨Tp, R, hPJ, hFE, hSUM⟩ := ks_sum (b0 := b0) hs65 hw (pd_whole hs65 hpd hw hb0) hb0 hbj stop
   have GK : Hid (∀ w4 : World, MS w4 b0 → b0 ≤ w4.heap.size → Calls Tryz.prog 20 #[.string s, .int .i64 stop] w4 (ColPost 34 5 keyCells R w4)) := hdd (fun w4 h1 h2 => gjkeys_any h1 h2 s stop hPJ hFE)
   have GA : Hid (∀ w4 : World, MS w4 b0 → b0 ≤ w4.heap.size → Calls Tryz.prog 21 #[.string s, .int .i64 stop] w4 (ColPost 42 10 pairCells R w4)) := hdd (fun w4 h1 h2 => gjall_any h1 h2 s stop hPJ hFE)
   have SU := hdd hSUM
   have HR1 := hdd hr1; have HR3 := hdd hr3
   have VA : Hid (∀ (i p : Nat), Emp s i p → Blk s 0 i → Blk s (p + 1) s.size → ∀ w, Calls Tryz.prog 23 #[.string s] w fun e w' => e = .returned (.bool true) ∧ Below w.heap.size w w') := hdd (fun i p h1 h2 h3 w => gjvalid_any s hs65 i p h1 h2 h3)
   clear hPJ hFE hSUM hr1 hr3 hb0 hbj hw hnode hpd
   go_enter Tryz.func7, Tryz.ntmps7
   go_upto_region 6 with (go_at_call 12; refine (GC.out _).mono ?_; rintro en w1 ⟨v2, v3, rfl, hR2, hR3, hb1⟩; obtain ⟨A2, cc2, rfl, hl2, hC2⟩ := Kd.R_reads hR2; obtain ⟨A3, c3, rfl, -⟩ := Kd.R_reads hR3; have B1 := hdd hb1; have KC1 := hdd hC2; clear hR2 hR3 hb1 hl2 hC2)
   obtain ⟨nd, hnd⟩ : ∃ nd, w1.heap.size = nd := ⟨_, rfl⟩
   obtain ⟨wA, hwA⟩ : ∃ wA, w1.alloc (Obj.cells #[.int .i64 r1, .string r2, .slice A2 r3.length cc2, .slice A3 r4.length c3] 26) = wA := ⟨_, rfl⟩
   have bA : Hid (Below w.heap.size w wA) := hdd (by rw [← hwA]; exact B1.out.alloc B1.out.size _)
   have ka : wA.cell? ⟨nd, 0, none⟩ = some (.int .i64 r1) := (by rw [← hwA, ← hnd]; simp [go_sem])
   have kk : wA.cell? ⟨nd, 2, none⟩ = some (.slice A2 r3.length cc2) := (by rw [← hwA, ← hnd]; simp [go_sem])
   have CA : Hid (Kd.C Kd.string wA A2 r3.length r3) := hdd (by rw [← hwA]; exact Kd.C_alloc KC1.out _)
   rw [hwA]
   clear hwA
   go_upto_region 7 with (first
    | (go_at_call 20; refine (GK.out wA (HM.out.below (bA.out.mono HBB.out)) (Nat.le_trans HBB.out bA.out.size)).mono ?_; rintro en w2 ⟨L, base1, v1, rfl, hR1, hown1, hb2⟩; obtain ⟨GA1, gc1, rfl⟩ := own_form hown1; have RL := hdd hR1; have OW1 := hdd hown1; have B2 := hdd (bA.out.trans (hb2.mono bA.out.size)); have ka2 := cellB hb2 ka; have kk2 := cellB hb2 kk; have CA2 := hdd (Kd.C_below CA.out hb2); clear hR1 hown1 hb2)
    | (go_at_call 21; refine (GA.out w2 (HM.out.below (B2.out.mono HBB.out)) (Nat.le_trans HBB.out B2.out.size)).mono ?_; rintro en w4 ⟨M, base2, v2, rfl, hR2, hown2, hb4⟩; obtain ⟨GA2, gc2, rfl⟩ := own_form hown2; have RM := hdd hR2; have OW2 := hdd hown2; have OW1' := hdd (ownB hb4 OW1.out); have B4 := hdd (B2.out.trans (hb4.mono B2.out.size)); have ka4 := cellB hb4 ka2; have kk4 := cellB hb4 kk2; have CA4 := hdd (Kd.C_below CA2.out hb4); clear hR2 hown2 hb4))
   clear ka kk ka2 kk2
   obtain ⟨hlen, hfew, hfit, hnone⟩ := SU.out L M RL.out RM.out
   obtain ⟨n, hn⟩ : ∃ n, L.length = n := ⟨_, rfl⟩
   have hn2 : M.length = n := hlen.symm.trans hn
   rw [hn] at OW1' hfew ⊢
   rw [hn2] at OW2 ⊢
   have FIT := hdd hfit; have NO := hdd hnone; have NL := hdd hn; have NM := hdd hn2
   have n65 : (n : Int) ≤ 65536 := Yy0
   clear hlen hfit hnone hn hn2
   have KA := hdd ka4; have KK := hdd kk4
   clear ka4 kk4
   go_wp2_with fail
   go_loopg [33] n (fun m v33 wr => ∃ k : Nat, v33 = .int .i64 (k : Int) ∧ Hid (k + m = n) ∧ Hid (Below w4.heap.size w4 wr))
   case atStart => exact ⟨0, rfl, hdd Yy0, hdd (Below.refl _ _)⟩
   case round =>
    obtain ⟨k, rfl, hkm, hBr⟩ := hrel
    have hkn : k ≤ n := Yy22
    rcases eol hkn with hx | hx
    ·
     have t5 : decide (k < n) = false := dff Yy0
     rcases Nat.eq_zero_or_pos n with h0 | h0
     ·
      obtain ⟨i, p, g1, g2, g3⟩ := NO.out (List.length_eq_zero_iff.mp (NL.out.trans h0))
      have VV := hdd (VA.out i p g1 g2 g3)
      have t6 : decide (0 < n) = false := dff Yy0
      have t7 : decide ((0 : Int) < (n : Int)) = false := dff Yy0
      clear g1 g2 g3 hx hkn h0
      go_wp2_with (go_at_call 23; (with_reducible refine (VV.out _).mono ?_); rintro en w9 ⟨rfl, hb9⟩; have B9 := hdd hb9; clear hb9)
      go_ret
      exact ⟨rfl, (B4.out.trans (hBr.out.mono B4.out.size)).trans (B9.out.mono (Nat.le_trans B4.out.size hBr.out.size))⟩
     ·
      have t6 : decide (0 < n) = true := dtt h0
      have t7 : decide ((0 : Int) < (n : Int)) = true := dtt Yy0
      clear hx hkn h0
      go_wp2_with fail
      go_ret
      exact ⟨rfl, B4.out.trans (hBr.out.mono B4.out.size)⟩
    ·
     have t5 : decide (k < n) = true := dtt hx
     obtain ⟨a, ha⟩ : ∃ a, L[k]? = some a := ⟨_, List.getElem?_eq_getElem (by have := NL.out; omega)⟩
     obtain ⟨b, hb⟩ : ∃ b, M[k]? = some b := ⟨_, List.getElem?_eq_getElem (by have := NM.out; omega)⟩
     obtain ⟨f1, f2, f3, f4, f5⟩ := FIT.out k a b ha hb
     obtain ⟨g1, rfl⟩ := own_at OW1'.out Yy0
     obtain ⟨g2, rfl⟩ := own_at OW2.out Yy0
     obtain ⟨⟨ak, araw, astr, aq, aix⟩, av⟩ := a
     obtain ⟨⟨bk, braw, bstr, bq, bix⟩, bv⟩ := b
     dsimp only at f1 f2 f3 f4 f5
     subst f1
     subst f2
     subst f3
     by_cases h6 : r1 = 6
     ·
      subst h6
      have e6 : ((6 : Int) == 6) = true := rfl
      obtain ⟨nm, hnm, f6, f7, f8⟩ := f5 HR1.out.symm
      subst f6
      subst f7
      have hk3 : k < r3.length := by rw [HR3.out]; exact (List.getElem?_eq_some_iff.mp hnm).1
      obtain ⟨ad, hA2, hks⟩ := Kd.at_string CA4.out (k : Int) Yy0 Yy0
      subst hA2
      rw [Int.toNat_natCast, show rdOf ByteArray.empty r3 (k : Int) = astr by unfold rdOf; rw [Int.toNat_natCast, List.getD_eq_getElem?_getD, HR3.out, hnm]; rfl] at hks
      have c5 : wr.drew.cell? (ad.add k) = some (.string astr) := cell_later_of hBr.out hks
      have GJ : Hid (∀ w, Calls Tryz.prog 11 #[.agg #[.int .i64 3, .string araw, .string astr, .float .f64 aq, .bool true], .agg #[.int .i64 4, .string astr, .slice none 0 0, .slice none 0 0]] w fun e w' => e = .returned (.bool true) ∧ Below w.heap.size w w') := hdd (fun w => gjis_str f8 (c_nil _ w) (c_nil _ w))
      have k3l : (k : Int) < (r3.length : Int) := Yy0
      clear hnm hks f8
      have AL : Hid (∀ w, Calls Tryz.prog 22 #[.agg #[.int .i64 3, .string araw, .string astr, .float .f64 aq, .bool true], .agg #[.int .i64 3, .string araw, .string astr, .float .f64 bq, .bool true]] w fun e w' => e = .returned (.bool true) ∧ Below w.heap.size w w') := hdd (fun w => alike_any 3 araw astr aq bq true f4)
      have c0 : wr.drew.cell? ⟨g1, k * 5, none⟩ = some (.int .i64 3) := by
       refine cell_later_of hBr.out ?_
       show w4.cell? ⟨g1, k * 5 + 0, none⟩ = _
       rw [OW1'.out.cellAt (k * 5 + 0) Yy0, key_cell ha 0 Yy0]
       rfl
      have c1 : wr.drew.cell? ⟨g1, k * 5 + 1, none⟩ = some (.string araw) := by
       refine cell_later_of hBr.out ?_
       show w4.cell? ⟨g1, k * 5 + 1, none⟩ = _
       rw [OW1'.out.cellAt (k * 5 + 1) Yy0, key_cell ha 1 Yy0]
       rfl
      have c2 : wr.drew.cell? ⟨g1, k * 5 + 2, none⟩ = some (.string astr) := by
       refine cell_later_of hBr.out ?_
       show w4.cell? ⟨g1, k * 5 + 2, none⟩ = _
       rw [OW1'.out.cellAt (k * 5 + 2) Yy0, key_cell ha 2 Yy0]
       rfl
      have c3 : wr.drew.cell? ⟨g1, k * 5 + 3, none⟩ = some (.float .f64 aq) := by
       refine cell_later_of hBr.out ?_
       show w4.cell? ⟨g1, k * 5 + 3, none⟩ = _
       rw [OW1'.out.cellAt (k * 5 + 3) Yy0, key_cell ha 3 Yy0]
       rfl
      have c4 : wr.drew.cell? ⟨g1, k * 5 + 4, none⟩ = some (.bool true) := by
       refine cell_later_of hBr.out ?_
       show w4.cell? ⟨g1, k * 5 + 4, none⟩ = _
       rw [OW1'.out.cellAt (k * 5 + 4) Yy0, key_cell ha 4 Yy0]
       rfl
      have d0 : wr.drew.cell? ⟨g2, k * 10, none⟩ = some (.int .i64 3) := by
       refine cell_later_of hBr.out ?_
       show w4.cell? ⟨g2, k * 10 + 0, none⟩ = _
       rw [OW2.out.cellAt (k * 10 + 0) Yy0, pair_cell hb 0 Yy0]
       rfl
      have d1 : wr.drew.cell? ⟨g2, k * 10 + 1, none⟩ = some (.string araw) := by
       refine cell_later_of hBr.out ?_
       show w4.cell? ⟨g2, k * 10 + 1, none⟩ = _
       rw [OW2.out.cellAt (k * 10 + 1) Yy0, pair_cell hb 1 Yy0]
       rfl
      have d2 : wr.drew.cell? ⟨g2, k * 10 + 2, none⟩ = some (.string astr) := by
       refine cell_later_of hBr.out ?_
       show w4.cell? ⟨g2, k * 10 + 2, none⟩ = _
       rw [OW2.out.cellAt (k * 10 + 2) Yy0, pair_cell hb 2 Yy0]
       rfl
      have d3 : wr.drew.cell? ⟨g2, k * 10 + 3, none⟩ = some (.float .f64 bq) := by
       refine cell_later_of hBr.out ?_
       show w4.cell? ⟨g2, k * 10 + 3, none⟩ = _
       rw [OW2.out.cellAt (k * 10 + 3) Yy0, pair_cell hb 3 Yy0]
       rfl
      have d4 : wr.drew.cell? ⟨g2, k * 10 + 4, none⟩ = some (.bool true) := by
       refine cell_later_of hBr.out ?_
       show w4.cell? ⟨g2, k * 10 + 4, none⟩ = _
       rw [OW2.out.cellAt (k * 10 + 4) Yy0, pair_cell hb 4 Yy0]
       rfl
      have na : wr.drew.cell? ⟨nd, 0, none⟩ = some (.int .i64 6) := cell_later_of hBr.out KA.out
      have nk : wr.drew.cell? ⟨nd, 2, none⟩ = some (.slice (some ad) r3.length cc2) := cell_later_of hBr.out KK.out
      have kb : (k : Int) + 1 ≤ 9223372036854775807 := Yy0
      have hkx : (k : Int) < (n : Int) := Yy0
      have hk0 : 0 ≤ (k : Int) := Yy0
      clear ha hb f4
      go_upto_region 12 with (fail)
      go_region_held3 (fun w' => w'.cell? ⟨g1, k * 5, none⟩ = some (.int .i64 3) ∧ w'.cell? ⟨g1, k * 5 + 1, none⟩ = some (.string araw) ∧ w'.cell? ⟨g1, k * 5 + 2, none⟩ = some (.string astr) ∧ w'.cell? ⟨g1, k * 5 + 3, none⟩ = some (.float .f64 aq) ∧ w'.cell? ⟨g1, k * 5 + 4, none⟩ = some (.bool true) ∧ w'.cell? ⟨g2, k * 10, none⟩ = some (.int .i64 3) ∧ w'.cell? ⟨g2, k * 10 + 1, none⟩ = some (.string araw) ∧ w'.cell? ⟨g2, k * 10 + 2, none⟩ = some (.string astr) ∧ w'.cell? ⟨g2, k * 10 + 3, none⟩ = some (.float .f64 bq) ∧ w'.cell? ⟨g2, k * 10 + 4, none⟩ = some (.bool true) ∧ w'.cell? ⟨nd, 0, none⟩ = some (.int .i64 6) ∧ w'.cell? ⟨nd, 2, none⟩ = some (.slice (some ad) r3.length cc2) ∧ w'.cell? (ad.add k) = some (.string astr))
       (first
        | with_reducible exact ⟨yc0, yc1, yc2, yc3, yc4, yd0, yd1, yd2, yd3, yd4, yna, ynk, yc5⟩
        | with_reducible exact ⟨xc0, xc1, xc2, xc3, xc4, xd0, xd1, xd2, xd3, xd4, xna, xnk, xc5⟩
        | with_reducible exact ⟨c0, c1, c2, c3, c4, d0, d1, d2, d3, d4, na, nk, c5⟩)
       (first
        | (go_at_call 22; refine (AL.out _).mono ?_; rintro en wz ⟨rfl, hbz⟩; have xc0 := cellB hbz c0; have xc1 := cellB hbz c1; have xc2 := cellB hbz c2; have xc3 := cellB hbz c3; have xc4 := cellB hbz c4; have xd0 := cellB hbz d0; have xd1 := cellB hbz d1; have xd2 := cellB hbz d2; have xd3 := cellB hbz d3; have xd4 := cellB hbz d4; have xna := cellB hbz na; have xnk := cellB hbz nk; have xc5 := cellB hbz c5; have BZ := hdd hbz; clear hbz)
        | (go_at_call 11; refine (GJ.out _).mono ?_; rintro en wy ⟨rfl, hby⟩; have yc0 := cellB hby xc0; have yc1 := cellB hby xc1; have yc2 := cellB hby xc2; have yc3 := cellB hby xc3; have yc4 := cellB hby xc4; have yd0 := cellB hby xd0; have yd1 := cellB hby xd1; have yd2 := cellB hby xd2; have yd3 := cellB hby xd3; have yd4 := cellB hby xd4; have yna := cellB hby xna; have ynk := cellB hby xnk; have yc5 := cellB hby xc5; have BY := hdd hby; clear hby))
      go_wp2_with fail
      go_roundg (gk - 1)
      case measure => have := hkm.out; omega
      case rel => exact ⟨k + 1, Yy5, hdd Yy22, hdd ((hBr.out.drew.trans (BZ.out.mono hBr.out.size)).trans (BY.out.mono (Nat.le_trans hBr.out.size BZ.out.size)))⟩
     ·
      have e6 : (r1 == 6) = false := bfo h6
      have e7 : decide (r1 = 6) = false := dff h6
      have e8 : (r1 = 6) = False := eq_false h6
      clear f5
      obtain ⟨ex, hex⟩ : ∃ ex, (ak != 0 || (araw.size : Int) != 0) = ex := ⟨_, rfl⟩
      have AL : Hid (∀ w, Calls Tryz.prog 22 #[.agg #[.int .i64 ak, .string araw, .string astr, .float .f64 aq, .bool ex], .agg #[.int .i64 ak, .string araw, .string astr, .float .f64 bq, .bool ex]] w fun e w' => e = .returned (.bool true) ∧ Below w.heap.size w w') := hdd (fun w => alike_any ak araw astr aq bq ex f4)
      have c0 : wr.drew.cell? ⟨g1, k * 5, none⟩ = some (.int .i64 ak) := by
       refine cell_later_of hBr.out ?_
       show w4.cell? ⟨g1, k * 5 + 0, none⟩ = _
       rw [OW1'.out.cellAt (k * 5 + 0) Yy0, key_cell ha 0 Yy0]
       rfl
      have c1 : wr.drew.cell? ⟨g1, k * 5 + 1, none⟩ = some (.string araw) := by
       refine cell_later_of hBr.out ?_
       show w4.cell? ⟨g1, k * 5 + 1, none⟩ = _
       rw [OW1'.out.cellAt (k * 5 + 1) Yy0, key_cell ha 1 Yy0]
       rfl
      have c2 : wr.drew.cell? ⟨g1, k * 5 + 2, none⟩ = some (.string astr) := by
       refine cell_later_of hBr.out ?_
       show w4.cell? ⟨g1, k * 5 + 2, none⟩ = _
       rw [OW1'.out.cellAt (k * 5 + 2) Yy0, key_cell ha 2 Yy0]
       rfl
      have c3 : wr.drew.cell? ⟨g1, k * 5 + 3, none⟩ = some (.float .f64 aq) := by
       refine cell_later_of hBr.out ?_
       show w4.cell? ⟨g1, k * 5 + 3, none⟩ = _
       rw [OW1'.out.cellAt (k * 5 + 3) Yy0, key_cell ha 3 Yy0]
       rfl
      have c4 : wr.drew.cell? ⟨g1, k * 5 + 4, none⟩ = some (.bool ex) := by
       refine cell_later_of hBr.out ?_
       show w4.cell? ⟨g1, k * 5 + 4, none⟩ = _
       rw [OW1'.out.cellAt (k * 5 + 4) Yy0, key_cell ha 4 Yy0]
       rw [← hex]
       rfl
      have d0 : wr.drew.cell? ⟨g2, k * 10, none⟩ = some (.int .i64 ak) := by
       refine cell_later_of hBr.out ?_
       show w4.cell? ⟨g2, k * 10 + 0, none⟩ = _
       rw [OW2.out.cellAt (k * 10 + 0) Yy0, pair_cell hb 0 Yy0]
       rfl
      have d1 : wr.drew.cell? ⟨g2, k * 10 + 1, none⟩ = some (.string araw) := by
       refine cell_later_of hBr.out ?_
       show w4.cell? ⟨g2, k * 10 + 1, none⟩ = _
       rw [OW2.out.cellAt (k * 10 + 1) Yy0, pair_cell hb 1 Yy0]
       rfl
      have d2 : wr.drew.cell? ⟨g2, k * 10 + 2, none⟩ = some (.string astr) := by
       refine cell_later_of hBr.out ?_
       show w4.cell? ⟨g2, k * 10 + 2, none⟩ = _
       rw [OW2.out.cellAt (k * 10 + 2) Yy0, pair_cell hb 2 Yy0]
       rfl
      have d3 : wr.drew.cell? ⟨g2, k * 10 + 3, none⟩ = some (.float .f64 bq) := by
       refine cell_later_of hBr.out ?_
       show w4.cell? ⟨g2, k * 10 + 3, none⟩ = _
       rw [OW2.out.cellAt (k * 10 + 3) Yy0, pair_cell hb 3 Yy0]
       rfl
      have d4 : wr.drew.cell? ⟨g2, k * 10 + 4, none⟩ = some (.bool ex) := by
       refine cell_later_of hBr.out ?_
       show w4.cell? ⟨g2, k * 10 + 4, none⟩ = _
       rw [OW2.out.cellAt (k * 10 + 4) Yy0, pair_cell hb 4 Yy0]
       rw [← hex]
       rfl
      have na : wr.drew.cell? ⟨nd, 0, none⟩ = some (.int .i64 r1) := cell_later_of hBr.out KA.out
      have nk : wr.drew.cell? ⟨nd, 2, none⟩ = some (.slice A2 r3.length cc2) := cell_later_of hBr.out KK.out
      have kb : (k : Int) + 1 ≤ 9223372036854775807 := Yy0
      have hkx : (k : Int) < (n : Int) := Yy0
      have hk0 : 0 ≤ (k : Int) := Yy0
      clear ha hb f4 hex
      have ra : wr.drew.rangeAt g1 (k * 5) [.int .i64 ak, .string araw, .string astr, .float .f64 aq, .bool ex] := fun j u hu => by
       rcases j with _ | _ | _ | _ | _ | j
       ·
        obtain rfl := Option.some.inj hu
        exact c0
       ·
        obtain rfl := Option.some.inj hu
        exact c1
       ·
        obtain rfl := Option.some.inj hu
        exact c2
       ·
        obtain rfl := Option.some.inj hu
        exact c3
       ·
        obtain rfl := Option.some.inj hu
        exact c4
       ·
        simp at hu
      have rb : wr.drew.rangeAt g2 (k * 10) [.int .i64 ak, .string araw, .string astr, .float .f64 bq, .bool ex] := fun j u hu => by
       rcases j with _ | _ | _ | _ | _ | j
       ·
        obtain rfl := Option.some.inj hu
        exact d0
       ·
        obtain rfl := Option.some.inj hu
        exact d1
       ·
        obtain rfl := Option.some.inj hu
        exact d2
       ·
        obtain rfl := Option.some.inj hu
        exact d3
       ·
        obtain rfl := Option.some.inj hu
        exact d4
       ·
        simp at hu
      clear c0 d0 c1 d1 c2 d2 c3 d3 c4 d4
      have RA := hdd ra; have RB := hdd rb; have NA := hdd na
      clear ra rb na nk
      go_upto_region 12 with (fail)
      refine wp_region_held_drew (S := fun w' => w'.rangeAt g1 (k * 5) [.int .i64 ak, .string araw, .string astr, .float .f64 aq, .bool ex] ∧ w'.rangeAt g2 (k * 10) [.int .i64 ak, .string araw, .string astr, .float .f64 bq, .bool ex] ∧ w'.cell? ⟨nd, 0, none⟩ = some (.int .i64 r1)) Yy1 ⟨RA.out, RB.out, NA.out⟩ (fun hHeld => ?_)
      refine take_d (i := 0) (v := _) (some 36) rfl rfl Yy1 Yy1 Yy1 (fun _ _ _ h => h) (Or.inl ⟨Yy4, fun _ _ => rfl⟩) hHeld ?_
      simp only [Act.put, List.setIfInBounds_toArray, List.set_cons_zero, List.set_cons_succ]
      refine take_d (i := 1) (v := _) (some 37) rfl rfl Yy1 Yy1 Yy1 (fun _ _ _ h => h) (Or.inl ⟨Yy4, fun _ _ => rfl⟩) hHeld ?_
      simp only [Act.put, List.setIfInBounds_toArray, List.set_cons_zero, List.set_cons_succ]
      refine take_d (i := 2) (v := .pointer (some ⟨g1, k * 5, none⟩)) (some 38) rfl rfl Yy1 Yy1 Yy1 (fun _ _ _ h => h) (Or.inl ⟨Yy4, fun w _ => by go_simp⟩) hHeld ?_
      simp only [Act.put, List.setIfInBounds_toArray, List.set_cons_zero, List.set_cons_succ]
      refine take_d (i := 3) (some 39) rfl rfl Yy1 Yy1 Yy1 (fun _ _ _ h => h) (yieldsIf_load_mid Yy4 _ _ rfl _ _ rfl _ _ (fun _ h => h.1) Tryz.underlying34 rfl Yy1) hHeld ?_
      simp only [Act.put, List.setIfInBounds_toArray, List.set_cons_zero, List.set_cons_succ]
      refine take_d (i := 4) (v := _) (some 40) rfl rfl Yy1 Yy1 Yy1 (fun _ _ _ h => h) (Or.inl ⟨Yy4, fun _ _ => rfl⟩) hHeld ?_
      simp only [Act.put, List.setIfInBounds_toArray, List.set_cons_zero, List.set_cons_succ]
      refine take_d (i := 5) (v := _) (some 41) rfl rfl Yy1 Yy1 Yy1 (fun _ _ _ h => h) (Or.inl ⟨Yy4, fun _ _ => rfl⟩) hHeld ?_
      simp only [Act.put, List.setIfInBounds_toArray, List.set_cons_zero, List.set_cons_succ]
      refine take_d (i := 6) (v := .pointer (some ⟨g2, k * 10, none⟩)) (some 42) rfl rfl Yy1 Yy1 Yy1 (fun _ _ _ h => h) (Or.inl ⟨Yy4, fun w _ => by go_simp⟩) hHeld ?_
      simp only [Act.put, List.setIfInBounds_toArray, List.set_cons_zero, List.set_cons_succ]
      refine take_d (i := 7) (v := .pointer (some ⟨g2, k * 10, none⟩)) (some 43) rfl rfl Yy1 Yy1 Yy1 (fun _ _ _ h => h) (Or.inl ⟨Yy4, fun w _ => by go_simp⟩) hHeld ?_
      simp only [Act.put, List.setIfInBounds_toArray, List.set_cons_zero, List.set_cons_succ]
      refine take_d (i := 8) (some 44) rfl rfl Yy1 Yy1 Yy1 (fun _ _ _ h => h) (yieldsIf_load_mid Yy4 _ _ rfl _ _ rfl _ _ (fun _ h => h.2.1) Tryz.underlying34 rfl Yy1) hHeld ?_
      simp only [Act.put, List.setIfInBounds_toArray, List.set_cons_zero, List.set_cons_succ]
      refine wpAnyH_ready (rs := [9]) Yy1 Yy3 (cons_d (some 45) rfl rfl (fun K hK => ?_) AllReadyH.nil)
      rw [if_pos Yy4]
      go_simp
      with_reducible refine (AL.out _).mono ?_
      rintro en wz ⟨rfl, hbz⟩
      have BZ := hdd hbz
      dsimp only
      refine hK.out _ _ ⟨fun j u hu => cellB hbz (hHeld.1 j u hu), fun j u hu => cellB hbz (hHeld.2.1 j u hu), cellB hbz hHeld.2.2⟩ (fun hH2 => ?_)
      clear hK K hHeld hbz
      refine take_d (i := 10) (v := .bool false) (some 46) rfl rfl Yy1 Yy1 Yy1 (fun _ _ _ h => h) (Or.inl ⟨Yy4, fun w _ => by go_simp⟩) hH2 ?_
      simp only [Act.put, List.setIfInBounds_toArray, List.set_cons_zero, List.set_cons_succ]
      refine take_d (i := 11) (v := _) (some 47) rfl rfl Yy1 Yy1 Yy1 (fun _ _ _ h => h) (Or.inl ⟨Yy4, fun _ _ => rfl⟩) hH2 ?_
      simp only [Act.put, List.setIfInBounds_toArray, List.set_cons_zero, List.set_cons_succ]
      refine take_d (i := 12) (v := .pointer (some ⟨nd, 0, none⟩)) (some 48) rfl rfl Yy1 Yy1 Yy1 (fun _ _ _ h => h) (Or.inl ⟨Yy4, fun w _ => by go_simp⟩) hH2 ?_
      simp only [Act.put, List.setIfInBounds_toArray, List.set_cons_zero, List.set_cons_succ]
      refine take_d (i := 13) (v := .int .i64 r1) (some 49) rfl rfl Yy1 Yy1 Yy1 (fun _ _ _ h => h) (Or.inl ⟨Yy4, fun w hw => by have h9 := hw.2.2; go_simp⟩) hH2 ?_
      simp only [Act.put, List.setIfInBounds_toArray, List.set_cons_zero, List.set_cons_succ]
      refine take_d (i := 14) (v := .bool false) (some 50) rfl rfl Yy1 Yy1 Yy1 (fun _ _ _ h => h) (Or.inl ⟨Yy4, fun w _ => by go_simp⟩) hH2 ?_
      simp only [Act.put, List.setIfInBounds_toArray, List.set_cons_zero, List.set_cons_succ]
      refine take_d (i := 15) (v := _) (some 51) rfl rfl Yy1 Yy1 Yy1 (fun _ _ _ h => h) (Or.inl ⟨Yy4, fun _ _ => rfl⟩) hH2 ?_
      simp only [Act.put, List.setIfInBounds_toArray, List.set_cons_zero, List.set_cons_succ]
      refine take_d (i := 16) (v := _) (some 52) rfl rfl Yy1 Yy1 Yy1 (fun _ _ _ h => h) (Or.inr ⟨Yy4, rfl⟩) hH2 ?_
      simp only [Act.put, List.setIfInBounds_toArray, List.set_cons_zero, List.set_cons_succ]
      refine take_d (i := 17) (v := _) (some 53) rfl rfl Yy1 Yy1 Yy1 (fun _ _ _ h => h) (Or.inr ⟨Yy4, rfl⟩) hH2 ?_
      simp only [Act.put, List.setIfInBounds_toArray, List.set_cons_zero, List.set_cons_succ]
      refine take_d (i := 18) (v := _) (some 54) rfl rfl Yy1 Yy1 Yy1 (fun _ _ _ h => h) (Or.inr ⟨Yy4, rfl⟩) hH2 ?_
      simp only [Act.put, List.setIfInBounds_toArray, List.set_cons_zero, List.set_cons_succ]
      refine take_d (i := 19) (v := _) (some 55) rfl rfl Yy1 Yy1 Yy1 (fun _ _ _ h => h) (Or.inr ⟨Yy4, rfl⟩) hH2 ?_
      simp only [Act.put, List.setIfInBounds_toArray, List.set_cons_zero, List.set_cons_succ]
      refine take_d (i := 20) (v := _) (some 56) rfl rfl Yy1 Yy1 Yy1 (fun _ _ _ h => h) (Or.inr ⟨Yy4, rfl⟩) hH2 ?_
      simp only [Act.put, List.setIfInBounds_toArray, List.set_cons_zero, List.set_cons_succ]
      refine take_d (i := 21) (v := _) (some 57) rfl rfl Yy1 Yy1 Yy1 (fun _ _ _ h => h) (Or.inr ⟨Yy4, rfl⟩) hH2 ?_
      simp only [Act.put, List.setIfInBounds_toArray, List.set_cons_zero, List.set_cons_succ]
      refine take_d (i := 22) (v := _) (some 58) rfl rfl Yy1 Yy1 Yy1 (fun _ _ _ h => h) (Or.inr ⟨Yy4, rfl⟩) hH2 ?_
      simp only [Act.put, List.setIfInBounds_toArray, List.set_cons_zero, List.set_cons_succ]
      refine take_d (i := 23) (v := _) (some 59) rfl rfl Yy1 Yy1 Yy1 (fun _ _ _ h => h) (Or.inr ⟨Yy4, rfl⟩) hH2 ?_
      simp only [Act.put, List.setIfInBounds_toArray, List.set_cons_zero, List.set_cons_succ]
      refine take_d (i := 24) (v := _) (some 60) rfl rfl Yy1 Yy1 Yy1 (fun _ _ _ h => h) (Or.inr ⟨Yy4, rfl⟩) hH2 ?_
      simp only [Act.put, List.setIfInBounds_toArray, List.set_cons_zero, List.set_cons_succ]
      refine take_d (i := 25) (v := _) (some 61) rfl rfl Yy1 Yy1 Yy1 (fun _ _ _ h => h) (Or.inr ⟨Yy4, rfl⟩) hH2 ?_
      simp only [Act.put, List.setIfInBounds_toArray, List.set_cons_zero, List.set_cons_succ]
      refine take_d (i := 26) (v := _) (some 62) rfl rfl Yy1 Yy1 Yy1 (fun _ _ _ h => h) (Or.inr ⟨Yy4, rfl⟩) hH2 ?_
      simp only [Act.put, List.setIfInBounds_toArray, List.set_cons_zero, List.set_cons_succ]
      refine take_d (i := 27) (v := _) (some 63) rfl rfl Yy1 Yy1 Yy1 (fun _ _ _ h => h) (Or.inr ⟨Yy4, rfl⟩) hH2 ?_
      simp only [Act.put, List.setIfInBounds_toArray, List.set_cons_zero, List.set_cons_succ]
      refine take_d (i := 28) (v := .bool false) (some 64) rfl rfl Yy1 Yy1 Yy1 (fun _ _ _ h => h) (Or.inl ⟨Yy4, fun w _ => by go_simp⟩) hH2 ?_
      simp only [Act.put, List.setIfInBounds_toArray, List.set_cons_zero, List.set_cons_succ]
      refine take_d (i := 29) (v := .bool false) (some 65) rfl rfl Yy1 Yy1 Yy1 (fun _ _ _ h => h) (Or.inl ⟨Yy4, fun w _ => by go_simp⟩) hH2 ?_
      simp only [Act.put, List.setIfInBounds_toArray, List.set_cons_zero, List.set_cons_succ]
      refine wpAnyH_done Yy1 ?_ _
      go_wp2_with fail
      go_roundg (gk - 1)
      case measure => have := hkm.out; omega
      case rel => exact ⟨k + 1, Yy5, hdd Yy22, hdd (hBr.out.drew.trans (BZ.out.mono hBr.out.size))⟩
end Go.Proofs.YtieflhncpjjciaaGreatDoor.Dc
namespace Go.Proofs.YtieflhncpjjciaaGreatDoor.Wit
open Go
def okL (P : Program) (w : World) : List TypeId → List Value → Bool
 | [], [] => true
 | u :: us, v :: vs => Cell.okRefB P w u v && okL P w us vs
 | _, _ => false
theorem okL_len {P : Program} {w : World} : ∀ {us : List TypeId} {vs : List Value}, okL P w us vs = true → vs.length = us.length
 | [], [], _ => rfl
 | u :: us, v :: vs, h => by
  simp only [okL, Bool.and_eq_true] at h
  simp only [List.length_cons, okL_len h.2]
 | [], _ :: _, h => by simp [okL] at h
 | _ :: _, [], h => by simp [okL] at h
theorem okL_get {P : Program} {w : World} : ∀ {us : List TypeId} {vs : List Value}, okL P w us vs = true → ∀ (i : Nat) v, vs[i]? = some v → ∃ u, us[i]? = some u ∧ Cell.okRefB P w u v = true
 | [], [], _, i, v, h => Yy8
 | u :: us, x :: vs, h, 0, v, hv => by
  simp only [okL, Bool.and_eq_true] at h
  simp only [List.getElem?_cons_zero, Option.some.injEq] at hv
  subst hv
  exact ⟨u, rfl, h.1⟩
 | u :: us, x :: vs, h, i + 1, v, hv => by
  simp only [okL, Bool.and_eq_true] at h
  rw [List.getElem?_cons_succ] at hv ⊢
  exact okL_get h.2 i v hv
 | [], _ :: _, h, _, _, _ => by simp [okL] at h
 | _ :: _, [], h, _, _, _ => by simp [okL] at h
def rowL (P : Program) (w : World) (t : TypeId) (cs : List Value) : Bool :=
 match P.cellTypes P.depth t with
 | some ts => okL P w ts cs
 | none => false
theorem rowL_ok {P : Program} {w : World} {base : Nat} {t : TypeId} {cs : Array Value} (h : rowL P w t cs.toList = true) : Row.ok P w .any base t cs := by
 unfold rowL at h
 split at h
 ·
  rename_i ts hts
  have hl := okL_len h
  rw [Array.length_toList] at hl
  refine ⟨ts, hts, ⟨1, Yy0⟩, fun i v hv => ?_⟩
  have hi : i < cs.size := (Array.getElem?_eq_some_iff.1 hv).1
  rw [← Array.getElem?_toList] at hv
  obtain ⟨u, hu, hc⟩ := okL_get h i v hv
  exact ⟨u, by rw [Nat.mod_eq_of_lt Yy0]; exact hu, Cell.ok_of_okRefB hc⟩
 ·
  cases h
def sameL : List Value → List Value → Bool
 | [], [] => true
 | _ :: a, _ :: b => sameL a b
 | _, _ => false
theorem sameL_len : ∀ {a b : List Value}, sameL a b = true → a.length = b.length
 | [], [], _ => rfl
 | _ :: a, _ :: b, h => by simp only [List.length_cons, sameL_len (a := a) (b := b) h]
 | [], _ :: _, h => by simp [sameL] at h
 | _ :: _, [], h => by simp [sameL] at h
def oneL (P : Program) (w : World) (g : Nat) : Bool :=
 match ((begin P (fun _ _ => 0) default).world.heap[g]?).bind Obj.row? with
 | none => true
 | some (zero, t) =>
  match w.heap[g]? with
  | some (.cells cs t' frozen) => decide (t' = t) && decide (frozen = (0, 0)) && sameL cs.toList zero.toList && (!P.buildable t || rowL P w t cs.toList)
  | _ => false
theorem shaped {P : Program} {w : World} (hv : (List.range P.globals.size).all (oneL P w) = true)
  (hr : (w.heap.toList.drop P.globals.size).take ((begin P (fun _ _ => 0) default).world.heap.size - P.globals.size) = (begin P (fun _ _ => 0) default).world.heap.toList.drop P.globals.size) : w.Shaped P := by
 refine ⟨fun g zero t hg hz => ?_, fun k h1 h2 => ?_⟩
 case refine_2 =>
  have := congrArg (·[k - P.globals.size]?) hr
  simp only [List.getElem?_take, List.getElem?_drop, Array.getElem?_toList] at this
  rw [if_pos Yy0, Nat.add_sub_cancel' h1] at this
  exact this
 simp only [List.all_eq_true, List.mem_range] at hv
 have := hv g hg
 unfold oneL at this
 rw [hz] at this
 simp only at this
 split at this
 ·
  rename_i cs t' fr hw
  simp only [Bool.and_eq_true, decide_eq_true_eq, Bool.or_eq_true, Bool.not_eq_true'] at this
  obtain ⟨⟨⟨rfl, rfl⟩, hs⟩, hb⟩ := this
  refine ⟨cs, hw, by have := sameL_len hs; rwa [Array.length_toList, Array.length_toList] at this, fun hbuild => ?_⟩
  rcases hb with hb | hb
  ·
   rw [hbuild] at hb; cases hb
  ·
   exact rowL_ok hb
 ·
  cases this
def runB (P : Program) (w : World) (r : Nat × Nat) : Bool :=
 match w.heap[r.1]? with
 | some (.cells c _ (0, 0)) => c.toList.all fun v => match v with | .iface u x => Value.okWideB P w u x | _ => true
 | _ => false
theorem row_mem {b n : Nat} {p : MemPlace} (h : p ∈ MemPlace.row ⟨b, 0, none⟩ n) : ∃ i, p = .cell b i := by
 unfold MemPlace.row at h
 obtain ⟨i, _, rfl⟩ := List.mem_map.1 h
 exact ⟨i, Yy3⟩
theorem row_nodup (b n : Nat) : (MemPlace.row ⟨b, 0, none⟩ n).Nodup := by
 unfold MemPlace.row
 refine List.Pairwise.map _ (fun i j hij h => hij ?_) List.nodup_range
 injection h with _ h
 simpa using h
theorem runs_nodup : ∀ {rs : List (Nat × Nat)}, (rs.map (·.1)).Nodup → (rs.flatMap fun r => MemPlace.row ⟨r.1, 0, none⟩ r.2).Nodup
 | [], _ => List.nodup_nil
 | r :: rs, h => by
  rw [List.map_cons, List.nodup_cons] at h
  rw [List.flatMap_cons, List.nodup_append]
  refine ⟨row_nodup _ _, runs_nodup h.2, fun a ha b hb e => h.1 ?_⟩
  obtain ⟨i, h1⟩ := row_mem ha
  obtain ⟨s, hs, h2⟩ := List.mem_flatMap.1 hb
  obtain ⟨j, h3⟩ := row_mem h2
  rw [h1, h3] at e
  injection e with e _
  exact List.mem_map.2 ⟨s, hs, e.symm⟩
theorem laid_runs {P : Program} {w : World} {l : List (String × DataW Unit)} {rs : List (Nat × Nat)} (fuel : Nat) (h : DataW.laidRun P w fuel (l.map (·.1)) = some (l, rs.flatMap fun r => MemPlace.row ⟨r.1, 0, none⟩ r.2)) (hn : (rs.map (·.1)).Nodup) (hr : rs.all (runB P w) = true) : laidMet P l w := by
 refine ⟨_, DataW.LaidVars_of_laidRun h, runs_nodup hn, fun b off hp => ?_⟩
 obtain ⟨r, hrm, hp⟩ := List.mem_flatMap.1 hp
 obtain ⟨i, h1⟩ := row_mem hp
 injection h1 with h1 _
 have := List.all_eq_true.1 hr _ hrm
 unfold runB at this
 rw [← h1] at this
 split at this
 ·
  rename_i c t hh
  refine ⟨⟨c, t, hh⟩, fun u v hc => ?_⟩
  unfold World.cell? at hc
  rw [hh] at hc
  simp only [Option.isSome_none, Bool.false_eq_true, if_false] at hc
  have hm : Value.iface u v ∈ c.toList := by rw [← Array.getElem?_toList] at hc; exact List.mem_of_getElem? hc
  exact Value.okWide_of_okWideB (List.all_eq_true.1 this _ hm)
 ·
  cases this
def flat1 : DataW Unit → Value
 | .lit (.int k z) => .int k z
 | .lit (.float k b) => .float k b
 | .lit (.bool b) => .bool b
 | .lit (.string l) => .string ⟨l.toArray⟩
 | _ => undef
def flat2 : DataW Unit → List Value
 | .agg ds => ds.map flat1
 | d => [flat1 d]
def rowOf : DataW Unit → List Value
 | .agg ds => ds.flatMap flat2
 | .slice ds _ => ds.flatMap flat2
 | d => [flat1 d]
def lenOf : DataW Unit → Nat
 | .slice ds _ => ds.length
 | _ => 0
def errOf : DataW Unit → List Value
 | .iface _ (.ptr (.agg ds)) => ds.map flat1
 | _ => []
def blk (d : DataW Unit) (t : TypeId) : Obj := .cells (rowOf d).toArray t (0, 0)
def slc (d : DataW Unit) (b : Nat) (t : TypeId) : Obj := .cells #[.slice (some ⟨b, 0, none⟩) (lenOf d) (lenOf d)] t (0, 0)
def errv (b : Nat) : Obj := .cells #[.iface 200 (.pointer (some ⟨b, 0, none⟩))] 117 (0, 0)
open Rows in
def vars : List Obj := [blk laid_pub_tetrapla_pub_gjson_vchars 133, errv 19, errv 20, blk laid_internal_strconv_float32info 182, blk laid_internal_strconv_optimize 4, blk laid_internal_strconv_float64info 182, slc laid_internal_strconv_float32pow10 23 206, slc laid_internal_strconv_powtab 21 59, slc laid_internal_strconv_float64pow10 22 218, blk laid_internal_strconv_pow10Tab 223, slc laid_internal_strconv_leftcheats 24 234, blk laid_internal_strconv_uint64pow10 237, blk laid_math_bits_deBruijn32tab 239, blk laid_math_bits_deBruijn64tab 240]
open Rows in
def more : List Obj := [.cells (errOf laid_strconv_ErrSyntax).toArray 202 (0, 0), .cells (errOf laid_strconv_ErrRange).toArray 202 (0, 0), blk laid_internal_strconv_powtab 3, blk laid_internal_strconv_float64pow10 32, blk laid_internal_strconv_float32pow10 164, blk laid_internal_strconv_leftcheats 233]
noncomputable def ww (os : Os) : World :=
 { World.holding Tryz.prog os ⟨#[], #[], []⟩ with heap := (vars ++ ((World.holding Tryz.prog os ⟨#[], #[], []⟩).heap.toList.drop 14) ++ more).toArray }
def runs : List (Nat × Nat) := [(12, 32), (13, 64), (3, 3), (5, 3), (4, 1), (7, 1), (21, 9), (8, 1), (22, 23), (6, 1), (23, 11), (11, 20), (2, 1), (20, 1), (1, 1), (19, 1), (0, 256), (10, 1), (24, 122), (9, 1392)]
theorem ww_shaped (os : Os) (args : Array Value) : ((ww os).forCall (fun _ _ => 0) ⟨#[], args, []⟩).Shaped Tryz.prog :=
 shaped Yy1 Yy1
theorem ww_laid (os : Os) (args : Array Value) : laidMet Tryz.prog Rows.fnGjSquashItemsRow.laid ((ww os).forCall (fun _ _ => 0) ⟨#[], args, []⟩).memory :=
 laid_runs (rs := runs) 8 Yy1 Yy2 Yy1
end Go.Proofs.YtieflhncpjjciaaGreatDoor.Wit
namespace Go.Proofs.YtieflhncpjjciaaGreatDoor.fnGjKeysSeq
open Go Go.ChangeShapes Go.WideShapes Go.ChangeAt Go.RowKit
open Go.ChangeMaps (open_string shut_string)
theorem own : ownKnob Tryz.prog.godebug = none := Yy1
abbrev L : List (String × DataW Unit) := Rows.fnGjKeysSeqRow.laid
theorem laid_h {W : World} (h : laidMetH Tryz.prog L W) : laidMet Tryz.prog L W := by
 unfold laidMetH at h
 have e : (L.filter fun x => x.2.handleName?.isSome) = [] := Yy1
 rw [e] at h
 exact h
theorem h_laid {W : World} (h : laidMet Tryz.prog L W) : laidMetH Tryz.prog L W := by
 unfold laidMetH
 have e : (L.filter fun x => x.2.handleName?.isSome) = [] := Yy1
 rw [e]
 exact h
theorem ms_of {W : World} (h : laidMetH Tryz.prog L W) : Dc.MS W W.heap.size := by
 obtain ⟨ps, hl, _⟩ := laid_h h
 have lc := Dc.lc_laid hl Yy31
 obtain ⟨f0, f1, f2⟩ := Dc.fi_laid hl Yy31
 exact ⟨⟨⟨lc, f0, f1, f2, Dc.pw_laid hl Yy31⟩, Dc.op_laid hl Yy31, Dc.fp_laid hl Yy31, Dc.pt_laid hl Yy31, Dc.er_laid hl Yy31, Dc.er2_laid hl Yy31⟩, Dc.vc_laid hl Yy31⟩
theorem lifted (os : Os) (started : os.Started) (H : Type) (enc : TypeId × Value → H) :
  ReturnsInHanded {} Tryz.checked os 7 .any (fun w args => (Rows.fnGjKeysSeqSpec.pre enc Tryz.prog Tryz.f7 [] false w args ∧ laidMetH Tryz.prog L w) ∧ sizedMet enc Tryz.prog Tryz.f7 (OpenSpec.ofChange Rows.fnGjKeysSeqSpec) false w args)
   (Rows.fnGjKeysSeqSpec.post enc Tryz.prog Tryz.f7 false true false false) := by
 refine returnsInHanded_of_change_and (C := Tryz.checked) (X := fun w _ => laidMetH Tryz.prog L w) (fun _ _ _ hh h => h.of_heap hh) own started Yy1 Tryz.func7
  (ChangeSpec.witness_shaped (enc := enc) (C := Tryz.checked) (os := os) (X := fun w _ => laidMetH Tryz.prog L w) false (Wit.ww os) #[.string ByteArray.empty, .int .i64 0] 8 rfl (Wit.ww_shaped os _) Yy1 Yy1 Yy1 (h_laid (show laidMet Tryz.prog Rows.fnGjSquashItemsRow.laid _ from Wit.ww_laid os _))) ?_
 intro W base args ds gs before hval0 hW hcnd hsz0 hL _
 have hsz : (DataW.weightsEach Tryz.prog (Tryz.f7.params.toList ++ Rows.fnGjKeysSeqSpec.plain.varTypes Tryz.prog) (ds ++ gs)).all (· ≤ reachBytes) = true := hsz0
 have hval : ∀ (j : Nat) t v, Tryz.f7.params[j]? = some t → args[j]? = some v → Value.okWide Tryz.prog W .any base t v := hval0
 have hW' := hW
 obtain ⟨p, q, hA0, hV, rfl, hfz, hnd⟩ := hW
 have hA : DataW.TrodAll enc Tryz.prog W 0 (fun _ => true) true Tryz.f7.params.toList args.toList ds p := hA0
 rw [Tryz.params7] at hA hval hsz
 obtain ⟨v0, vs0, d0, ds0, p0, q0, hargs, rfl, rfl, h0, r0⟩ := trodAll_cons hA
 obtain ⟨v1, vs1, d1, ds1, p1, q1, hargs1, rfl, rfl, g1, r1⟩ := trodAll_cons r0
 obtain ⟨rfl, rfl, rfl⟩ := trodAll_nil r1
 subst hargs1
 obtain rfl : args = #[v0, v1] := by cases args; simp_all
 obtain ⟨rfl, rfl⟩ := trodVars_none hV
 obtain ⟨a0, rfl, rfl, rfl, y0⟩ := open_string Tryz.underlying9 (hval 0 9 v0 rfl rfl) h0
 obtain ⟨n1, rfl, rfl, rfl, y1⟩ := open_int Tryz.underlying3 (hval 1 3 v1 rfl rfl) g1
 have w0 : a0.size ≤ 140737488351232 := by
  have z := sized_string hsz (j := 0) (t := 9) rfl rfl
  rw [Array.length_toList] at z
  exact z
 clear hA0 hval0 hsz0 hsz
 refine (Dc.kq_any (ms_of hL) (nlr _) a0 w0 n1).mono fun e W' ⟨he, bel⟩ => ?_
 subst he
 exact ⟨_, rfl, _, _, _, [], _, [], hW', trodAll_mk1 (shut_bool Tryz.underlying4 _), (trodAll_cons_mk (shut_string Tryz.underlying9 y0) (trodAll_cons_mk (shut_int Tryz.underlying3 y1) trodAll_mk0)), rfl, bel.frame _, fun h => Yy9⟩
theorem over : Rows.fnGjKeysSeqRow.holds Tryz.pinned (OpenSpec.ofChange Rows.fnGjKeysSeqSpec) :=
 OpenClaim.holds_of_wide 7 Tryz.f7 rfl rfl rfl rfl rfl rfl rfl ⟨rfl, rfl, rfl, rfl, rfl⟩ rfl rfl rfl rfl rfl Yy1 Tryz.func7 Yy1
  (of_decide_eq_true Yy1) (by unfold Func.isWrapper; first | (rw [if_pos (by decide +kernel)]; kernel_rfl) | (rw [if_neg (by decide +kernel)]; exact ⟨rfl, rfl⟩))
  (fun os started H enc _ => lifted os started H enc)
theorem proved : Rows.FnGjKeysSeqSaid := over
end Go.Proofs.YtieflhncpjjciaaGreatDoor.fnGjKeysSeq
namespace Go.Proofs.YtieflhncpjjciaaGreatDoor
open Go
theorem fnGjKeysSeq_holds : Rows.FnGjKeysSeqCardSaid :=
 Claim7.holds_tied_plain_at .later [] [.data, .data, .widerDeep, .widerDeep, .data, .data, .data, .data, .data, .sentinel, .sentinel, .data, .pinned, .pinned] true (true, "b1dcc411c499c5894b71696f58e9455ba2b5aa11ffa77ebcc77e305c263be0e2") true
  fnGjKeysSeq.proved (fun _ h => Yy9) Yy1 (fun _ h => Yy9) fnGjKeysSeq_row_tie rfl ⟨rfl, rfl⟩ Yy1 rfl
  (fun f fn hf hfn => by
   obtain rfl : f = 7 := Option.some.inj ((show Tryz.prog.funcNamed "pub-tetrapla/laws.FnGjKeysSeq" = some 7 from Yy1).symm.trans hf) |>.symm
   obtain rfl : fn = Tryz.f7 := (Option.some.inj (Tryz.func7.symm.trans hfn)).symm
   exact ⟨Yy1, fun j t ht => by
    rw [Tryz.params7] at ht
    have h9 : t = 9 ∨ t = 3 := by
     rcases j with _ | _ | j
     ·
      exact .inl (by simpa using ht.symm)
     ·
      exact .inr (by simpa using ht.symm)
     ·
      simp at ht
    rcases h9 with rfl | rfl
    ·
     exact (show Tryz.prog.wantsStandIn 9 = false from Yy1)
    ·
     exact (show Tryz.prog.wantsStandIn 3 = false from Yy1)⟩)
  Yy1
#print axioms fnGjKeysSeq_holds
end Go.Proofs.YtieflhncpjjciaaGreatDoor
