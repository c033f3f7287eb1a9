/- Walks and plain laws of this claim. -/
import Derived.Test.YtieflhncpjjciaaGreatDoorProg
import Derived.WalkKit
import Derived.Below
import Derived.Lib.Hide
import Derived.Lib.SmallJoins
import Derived.Deep.LoopGhost
import Derived.Deep.QuietTactic
import Derived.BigQuiet
import Derived.Deep.CutBlock
import Derived.Deep.DeepCutAuto
import Derived.RowKit3
import Derived.KernelRfl
import Derived.IntWalk
import Derived.Laws.BitsLemmas
import GoSem.PinnedTables
import Derived.ScopeJumps
import Derived.WalkMore
set_option linter.unusedVariables false
set_option linter.unusedSimpArgs false
namespace Go.Proofs.YtieflhncpjjciaaGreatDoor.Dc
def dig (x : Int) : Nat := (x - 48).toNat
def IsDig (x : Int) : Prop := 48 ≤ x ∧ x ≤ 57
def val : List Int → Nat
 | [] => 0
 | x :: b => dig x * 10 ^ b.length + val b
theorem dig_lt {x : Int} (h : IsDig x) : dig x ≤ 9 := by unfold dig; unfold IsDig at h; omega
theorem val_lt : ∀ {b : List Int}, (∀ x ∈ b, IsDig x) → val b < 10 ^ b.length
 | [], _ => by simp [val]
 | x :: b, h => by
  have h1 := dig_lt (h x (by simp))
  have h2 := val_lt (b := b) (fun y hy => h y (by simp [hy]))
  rw [val, List.length_cons, Nat.pow_succ]
  have h3 : dig x * 10 ^ b.length ≤ 9 * 10 ^ b.length := Nat.mul_le_mul_right _ h1
  omega
theorem val_ge {x : Int} {b : List Int} (h : 49 ≤ x) : 10 ^ b.length ≤ val (x :: b) := by
 rw [val]
 have h1 : 1 ≤ dig x := by unfold dig; omega
 have h2 : 1 * 10 ^ b.length ≤ dig x * 10 ^ b.length := Nat.mul_le_mul_right _ h1
 omega
def carry (k : Nat) (b : List Int) : Nat := val b * 2 ^ k / 10 ^ b.length
theorem carry_nil (k : Nat) : carry k [] = 0 := by simp [carry, val]
theorem carry_cons (k : Nat) (x : Int) (b : List Int) : carry k (x :: b) = (dig x * 2 ^ k + carry k b) / 10 := by
 have hp : 0 < 10 ^ b.length := Nat.pow_pos (by decide)
 unfold carry
 rw [val, List.length_cons, Nat.pow_succ, ← Nat.div_div_eq_div_mul]
 congr 1
 rw [Nat.add_mul, show dig x * 10 ^ b.length * 2 ^ k = (dig x * 2 ^ k) * 10 ^ b.length by rw [Nat.mul_assoc, Nat.mul_comm (10 ^ b.length), ← Nat.mul_assoc]]
 rw [Nat.add_comm, Nat.add_mul_div_right _ _ hp, Nat.add_comm]
theorem carry_lt {k : Nat} {b : List Int} (h : ∀ x ∈ b, IsDig x) : carry k b < 2 ^ k := by
 have hp : 0 < 10 ^ b.length := Nat.pow_pos (by decide)
 unfold carry
 rw [Nat.div_lt_iff_lt_mul hp, Nat.mul_comm (2 ^ k)]
 exact Nat.mul_lt_mul_of_pos_right (val_lt h) (Nat.pow_pos (by decide))
def pl : List Int → List Int → Bool
 | _, [] => false
 | [], _ :: _ => true
 | x :: b, y :: s => if x = y then pl b s else decide (x < y)
def Tail : List Int → Prop
 | [] => True
 | y :: s => 0 < val (y :: s) ∧ Tail s
theorem pl_true : ∀ {b s : List Int}, (∀ x ∈ b, IsDig x) → (∀ x ∈ s, IsDig x) → Tail s → pl b s = true → val b * 10 ^ s.length < val s * 10 ^ b.length
 | b, [], _, _, _, h => by simp [pl] at h
 | [], y :: s, _, _, ht, _ => by
  rw [show val [] = 0 from rfl, Nat.zero_mul]
  exact Nat.mul_pos ht.1 (by simp)
 | x :: b, y :: s, hb, hs, ht, h => by
  have vb := val_lt (b := b) (fun z hz => hb z (by simp [hz]))
  have hx := hb x (by simp)
  have hy := hs y (by simp)
  have pb : 0 < 10 ^ b.length := Nat.pow_pos (by decide)
  have ps : 0 < 10 ^ s.length := Nat.pow_pos (by decide)
  rw [pl] at h
  rw [val, val, List.length_cons, List.length_cons, Nat.pow_succ, Nat.pow_succ]
  by_cases hxy : x = y
  ·
   rw [if_pos hxy] at h
   have ih := pl_true (fun z hz => hb z (by simp [hz])) (fun z hz => hs z (by simp [hz])) ht.2 h
   subst hxy
   have e1 : (dig x * 10 ^ b.length + val b) * (10 ^ s.length * 10) = dig x * 10 ^ b.length * 10 ^ s.length * 10 + val b * 10 ^ s.length * 10 := by rw [Nat.add_mul, Nat.mul_assoc, Nat.mul_assoc, Nat.mul_assoc, Nat.mul_assoc]
   have e2 : (dig x * 10 ^ s.length + val s) * (10 ^ b.length * 10) = dig x * 10 ^ b.length * 10 ^ s.length * 10 + val s * 10 ^ b.length * 10 := by
    rw [Nat.add_mul, ← Nat.mul_assoc, ← Nat.mul_assoc]
    congr 1
    rw [Nat.mul_assoc (dig x), Nat.mul_comm (10 ^ s.length), ← Nat.mul_assoc (dig x)]
   rw [e1, e2]
   omega
  ·
   rw [if_neg hxy, decide_eq_true_eq] at h
   have hd : dig x + 1 ≤ dig y := by unfold dig; unfold IsDig at hx hy; omega
   have h1 : dig x * 10 ^ b.length + val b < (dig x + 1) * 10 ^ b.length := by rw [Nat.add_mul, Nat.one_mul]; omega
   have h2 : (dig x * 10 ^ b.length + val b) * (10 ^ s.length * 10) < (dig x + 1) * 10 ^ b.length * (10 ^ s.length * 10) := Nat.mul_lt_mul_of_pos_right h1 (by omega)
   have h3 : (dig x + 1) * 10 ^ b.length * (10 ^ s.length * 10) ≤ dig y * 10 ^ b.length * (10 ^ s.length * 10) := Nat.mul_le_mul_right _ (Nat.mul_le_mul_right _ hd)
   have h4 : dig y * 10 ^ b.length * (10 ^ s.length * 10) = dig y * 10 ^ s.length * (10 ^ b.length * 10) := by
    rw [Nat.mul_assoc, Nat.mul_assoc]
    congr 1
    rw [← Nat.mul_assoc, ← Nat.mul_assoc, Nat.mul_comm (10 ^ b.length)]
   have h5 : dig y * 10 ^ s.length * (10 ^ b.length * 10) ≤ (dig y * 10 ^ s.length + val s) * (10 ^ b.length * 10) := Nat.mul_le_mul_right _ (by omega)
   omega
theorem pl_false : ∀ {b s : List Int}, (∀ x ∈ b, IsDig x) → (∀ x ∈ s, IsDig x) → pl b s = false → val s * 10 ^ b.length ≤ val b * 10 ^ s.length
 | b, [], _, _, _ => by
  rw [show val [] = 0 from rfl, Nat.zero_mul]
  exact Nat.zero_le _
 | [], y :: s, _, _, h => by simp [pl] at h
 | x :: b, y :: s, hb, hs, h => by
  have vs := val_lt (b := s) (fun z hz => hs z (by simp [hz]))
  have hx := hb x (by simp)
  have hy := hs y (by simp)
  have pb : 0 < 10 ^ b.length := Nat.pow_pos (by decide)
  have ps : 0 < 10 ^ s.length := Nat.pow_pos (by decide)
  rw [pl] at h
  rw [val, val, List.length_cons, List.length_cons, Nat.pow_succ, Nat.pow_succ]
  by_cases hxy : x = y
  ·
   rw [if_pos hxy] at h
   have ih := pl_false (fun z hz => hb z (by simp [hz])) (fun z hz => hs z (by simp [hz])) h
   subst hxy
   have e1 : (dig x * 10 ^ b.length + val b) * (10 ^ s.length * 10) = dig x * 10 ^ b.length * 10 ^ s.length * 10 + val b * 10 ^ s.length * 10 := by rw [Nat.add_mul, Nat.mul_assoc, Nat.mul_assoc, Nat.mul_assoc, Nat.mul_assoc]
   have e2 : (dig x * 10 ^ s.length + val s) * (10 ^ b.length * 10) = dig x * 10 ^ b.length * 10 ^ s.length * 10 + val s * 10 ^ b.length * 10 := by
    rw [Nat.add_mul, ← Nat.mul_assoc, ← Nat.mul_assoc]
    congr 1
    rw [Nat.mul_assoc (dig x), Nat.mul_comm (10 ^ s.length), ← Nat.mul_assoc (dig x)]
   rw [e1, e2]
   omega
  ·
   rw [if_neg hxy, decide_eq_false_iff_not] at h
   have hd : dig y + 1 ≤ dig x := by unfold dig; unfold IsDig at hx hy; omega
   have h1 : dig y * 10 ^ s.length + val s ≤ (dig y + 1) * 10 ^ s.length := by rw [Nat.add_mul, Nat.one_mul]; omega
   have h2 : (dig y * 10 ^ s.length + val s) * (10 ^ b.length * 10) ≤ (dig y + 1) * 10 ^ s.length * (10 ^ b.length * 10) := Nat.mul_le_mul_right _ h1
   have h3 : (dig y + 1) * 10 ^ s.length * (10 ^ b.length * 10) ≤ dig x * 10 ^ s.length * (10 ^ b.length * 10) := Nat.mul_le_mul_right _ (Nat.mul_le_mul_right _ hd)
   have h4 : dig x * 10 ^ s.length * (10 ^ b.length * 10) = dig x * 10 ^ b.length * (10 ^ s.length * 10) := by
    rw [Nat.mul_assoc, Nat.mul_assoc]
    congr 1
    rw [← Nat.mul_assoc, ← Nat.mul_assoc, Nat.mul_comm (10 ^ b.length)]
   have h5 : dig x * 10 ^ b.length * (10 ^ s.length * 10) ≤ (dig x * 10 ^ b.length + val b) * (10 ^ s.length * 10) := Nat.mul_le_mul_right _ (by omega)
   omega
structure Cheat (k : Nat) (s : List Int) (delta : Nat) : Prop where
 digs : ∀ x ∈ s, IsDig x
 tail : Tail s
 is : val s = 5 ^ k
 pos : 1 ≤ s.length
 lo : 10 ^ (s.length - 1) ≤ 5 ^ k
 le : s.length ≤ k
 de : delta = k + 1 - s.length
theorem two_five (k : Nat) : 2 ^ k * 5 ^ k = 10 ^ k := by rw [← Nat.mul_pow]
theorem fills {k delta : Nat} {s : List Int} (c : Cheat k s delta) {b : List Int} {x : Int} (hx : 49 ≤ x) (h : ∀ y ∈ x :: b, IsDig y) :
  carry k (x :: b) < 10 ^ delta ∧ (pl (x :: b) s = false → 10 ^ (delta - 1) ≤ carry k (x :: b)) ∧
  (pl (x :: b) s = true → carry k (x :: b) < 10 ^ (delta - 1) ∧ (2 ≤ delta → 10 ^ (delta - 2) ≤ carry k (x :: b))) := by
 obtain ⟨c1, c2, c3, c4, c5, c6, c7⟩ := c
 have p5 : 0 < 5 ^ k := Nat.pow_pos (by decide)
 have pn : 0 < 10 ^ (x :: b).length := Nat.pow_pos (by decide)
 have pL : 0 < 10 ^ s.length := Nat.pow_pos (by decide)
 have hv := val_lt h
 have hg := val_ge (b := b) hx
 have tf := two_five k
 have hup : 5 ^ k < 10 ^ s.length := by rw [← c3]; exact val_lt c1
 have h2k : 2 ^ k ≤ 10 ^ delta := by
  have e : 10 ^ delta * 10 ^ (s.length - 1) = 10 ^ k := by rw [← Nat.pow_add]; congr 1; omega
  apply Nat.le_of_mul_le_mul_right _ p5
  rw [tf, ← e]
  exact Nat.mul_le_mul_left _ c5
 have ek : 10 ^ k = 10 ^ (delta - 1) * 10 ^ s.length := by rw [← Nat.pow_add]; congr 1; omega
 refine ⟨Nat.lt_of_lt_of_le (carry_lt h) h2k, fun hp => ?_, fun hp => ⟨?_, fun hd => ?_⟩⟩
 ·
  have h1 := pl_false h c1 hp
  rw [c3] at h1
  unfold carry
  rw [Nat.le_div_iff_mul_le pn]
  apply Nat.le_of_mul_le_mul_right _ pL
  have h2 : 5 ^ k * 10 ^ (x :: b).length * 2 ^ k ≤ val (x :: b) * 10 ^ s.length * 2 ^ k := Nat.mul_le_mul_right _ h1
  have e1 : 5 ^ k * 10 ^ (x :: b).length * 2 ^ k = 10 ^ (delta - 1) * 10 ^ (x :: b).length * 10 ^ s.length := by
   rw [Nat.mul_right_comm, Nat.mul_comm (5 ^ k), tf, ek, Nat.mul_right_comm]
  rw [e1, Nat.mul_right_comm (val (x :: b))] at h2
  exact h2
 ·
  have h1 := pl_true h c1 c2 hp
  rw [c3] at h1
  unfold carry
  rw [Nat.div_lt_iff_lt_mul pn]
  apply Nat.lt_of_mul_lt_mul_right (a := 10 ^ s.length)
  have h2 : val (x :: b) * 10 ^ s.length * 2 ^ k < 5 ^ k * 10 ^ (x :: b).length * 2 ^ k := Nat.mul_lt_mul_of_pos_right h1 (Nat.pow_pos (by decide))
  have e1 : 5 ^ k * 10 ^ (x :: b).length * 2 ^ k = 10 ^ (delta - 1) * 10 ^ (x :: b).length * 10 ^ s.length := by
   rw [Nat.mul_right_comm, Nat.mul_comm (5 ^ k), tf, ek, Nat.mul_right_comm]
  rw [e1, Nat.mul_right_comm (val (x :: b))] at h2
  exact h2
 ·
  unfold carry
  rw [Nat.le_div_iff_mul_le pn]
  have h1 : 10 ^ (delta - 1) ≤ 2 ^ k := by
   apply Nat.le_of_mul_le_mul_right _ pL
   rw [← ek, ← tf]
   exact Nat.mul_le_mul_left _ (by omega)
  have h2 : 10 ^ (delta - 2) * 10 = 10 ^ (delta - 1) := by rw [← Nat.pow_succ]; congr 1; omega
  have h3 : 10 ^ b.length * 10 = 10 ^ (x :: b).length := by rw [← Nat.pow_succ]; rfl
  have h4 : 10 ^ b.length * 2 ^ k ≤ val (x :: b) * 2 ^ k := Nat.mul_le_mul_right _ hg
  have h5 : 10 ^ b.length * 10 ^ (delta - 1) ≤ 10 ^ b.length * 2 ^ k := Nat.mul_le_mul_left _ h1
  have h6 : 10 ^ (delta - 2) * 10 ^ (x :: b).length = 10 ^ b.length * 10 ^ (delta - 1) := by rw [← h2, ← h3, Nat.mul_comm (10 ^ (delta - 2)), Nat.mul_assoc, Nat.mul_comm 10]
  omega
end Go.Proofs.YtieflhncpjjciaaGreatDoor.Dc
namespace Go.Proofs.YtieflhncpjjciaaGreatDoor.Dc
open Go Go.RowKit
def dcells (a : List Int) (nd dp : Int) (ng tr : Bool) : Array Value := (a.map (Value.int .u8) ++ ([.int .i64 nd, .int .i64 dp, .bool ng, .bool tr] : List Value)).toArray
structure D (w : World) (b : Nat) (a : List Int) (nd dp : Int) (ng tr : Bool) : Prop where
 at_ : w.heap[b]? = some (.cells (dcells a nd dp ng tr) 191 (0, 0))
 len : a.length = 800
theorem dcells_d {a : List Int} (h : a.length = 800) (nd dp : Int) (ng tr : Bool) (i : Nat) (hi : i < 800) : (dcells a nd dp ng tr)[i]? = some (.int .u8 (a.getD i 0)) := by
 unfold dcells
 rw [List.getElem?_toArray, List.getElem?_append_left (by rw [List.length_map]; omega), List.getElem?_map, List.getD_eq_getElem?_getD, List.getElem?_eq_getElem (by omega)]
 rfl
theorem dcells_f {a : List Int} (h : a.length = 800) (nd dp : Int) (ng tr : Bool) (i : Nat) (v : Value) (hv : ([.int .i64 nd, .int .i64 dp, .bool ng, .bool tr] : List Value)[i]? = some v) : (dcells a nd dp ng tr)[800 + i]? = some v := by
 unfold dcells
 rw [List.getElem?_toArray, List.getElem?_append_right (by rw [List.length_map]; omega), List.length_map, h, Nat.add_sub_cancel_left]
 exact hv
section
variable {w : World} {b : Nat} {a : List Int} {nd dp : Int} {ng tr : Bool}
theorem D.cell (h : D w b a nd dp ng tr) (i : Nat) : w.cell? ⟨b, i, none⟩ = (dcells a nd dp ng tr)[i]? := by simp [World.cell?, h.at_]
theorem D.free (h : D w b a nd dp ng tr) (i : Nat) : w.frozen? ⟨b, i, none⟩ = false := by simp [World.frozen?, h.at_]
theorem D.d (h : D w b a nd dp ng tr) (i : Nat) (hi : i < 800) : w.cell? ⟨b, i, none⟩ = some (.int .u8 (a.getD i 0)) := (h.cell i).trans (dcells_d h.len _ _ _ _ i hi)
theorem D.nd_ (h : D w b a nd dp ng tr) : w.cell? ⟨b, 800, none⟩ = some (.int .i64 nd) := (h.cell 800).trans (dcells_f h.len _ _ _ _ 0 _ rfl)
theorem D.dp_ (h : D w b a nd dp ng tr) : w.cell? ⟨b, 801, none⟩ = some (.int .i64 dp) := (h.cell 801).trans (dcells_f h.len _ _ _ _ 1 _ rfl)
theorem D.ng_ (h : D w b a nd dp ng tr) : w.cell? ⟨b, 802, none⟩ = some (.bool ng) := (h.cell 802).trans (dcells_f h.len _ _ _ _ 2 _ rfl)
theorem D.tr_ (h : D w b a nd dp ng tr) : w.cell? ⟨b, 803, none⟩ = some (.bool tr) := (h.cell 803).trans (dcells_f h.len _ _ _ _ 3 _ rfl)
theorem D.set_d (h : D w b a nd dp ng tr) (i : Nat) (hi : i < 800) (x : Int) : D (w.setCell ⟨b, i, none⟩ (.int .u8 x)) b (a.set i x) nd dp ng tr := by
 refine ⟨(Joins.block_setCell h.at_ _).trans ?_, by rw [List.length_set]; exact h.len⟩
 congr 2
 unfold dcells
 have hl := h.len
 rw [List.setIfInBounds_toArray, List.set_append_left _ _ (by rw [List.length_map]; omega), List.map_set]
theorem D.set_f (h : D w b a nd dp ng tr) (i : Nat) (v : Value) (nd' dp' : Int) (ng' tr' : Bool) (hv : ([.int .i64 nd, .int .i64 dp, .bool ng, .bool tr] : List Value).set i v = [.int .i64 nd', .int .i64 dp', .bool ng', .bool tr']) : D (w.setCell ⟨b, 800 + i, none⟩ v) b a nd' dp' ng' tr' := by
 refine ⟨(Joins.block_setCell h.at_ _).trans ?_, h.len⟩
 congr 2
 unfold dcells
 have hl := h.len
 rw [List.setIfInBounds_toArray, List.set_append_right _ _ (by rw [List.length_map]; omega), List.length_map, hl, Nat.add_sub_cancel_left, hv]
theorem D.set_nd (h : D w b a nd dp ng tr) (x : Int) : D (w.setCell ⟨b, 800, none⟩ (.int .i64 x)) b a x dp ng tr := h.set_f 0 _ _ _ _ _ rfl
theorem D.set_dp (h : D w b a nd dp ng tr) (x : Int) : D (w.setCell ⟨b, 801, none⟩ (.int .i64 x)) b a nd x ng tr := h.set_f 1 _ _ _ _ _ rfl
theorem D.set_ng (h : D w b a nd dp ng tr) (x : Bool) : D (w.setCell ⟨b, 802, none⟩ (.bool x)) b a nd dp x tr := h.set_f 2 _ _ _ _ _ rfl
theorem D.set_tr (h : D w b a nd dp ng tr) (x : Bool) : D (w.setCell ⟨b, 803, none⟩ (.bool x)) b a nd dp ng x := h.set_f 3 _ _ _ _ _ rfl
theorem D.drewN (h : D w b a nd dp ng tr) (n : Nat) : D (w.drewN n) b a nd dp ng tr := ⟨h.at_, h.len⟩
theorem D.drew (h : D w b a nd dp ng tr) : D w.drew b a nd dp ng tr := ⟨h.at_, h.len⟩
end
structure Norm (a : List Int) (n : Nat) : Prop where
 pos : 1 ≤ n
 le : n ≤ 800
 digs : ∀ i, i < n → IsDig (a.getD i 0)
 lead : 49 ≤ a.getD 0 0
theorem Norm.less {a : List Int} {n m : Nat} (h : Norm a n) (h1 : 1 ≤ m) (h2 : m ≤ n) : Norm a m := ⟨h1, Nat.le_trans h2 h.le, fun i hi => h.digs i (by omega), h.lead⟩
end Go.Proofs.YtieflhncpjjciaaGreatDoor.Dc
namespace Go.Proofs.YtieflhncpjjciaaGreatDoor.Dc
open Go Go.RowKit
set_option maxHeartbeats 2000000 in
set_option maxRecDepth 100000 in
theorem trim_any {w : World} {b : Nat} {a : List Int} {dp : Int} {ng tr : Bool} {n : Nat} (h : D w b a (n : Int) dp ng tr) (hn : Norm a n) :
  Calls Tryz.prog 178 #[.pointer (some ⟨b, 0, none⟩)] w fun e w' => e = .returned (.tuple #[]) ∧ (∃ m : Nat, m ≤ n ∧ Norm a m ∧ D w' b a (m : Int) dp ng tr) ∧ Below b w w' := by
 have H := Lib.hid h; clear h
 have HN := Lib.hid hn; clear hn
 have hu := Tryz.underlying191
 go_enter Tryz.func178, Tryz.ntmps178
 go_wp2
 go_loopg [] n (fun m w' => 1 ≤ m ∧ m ≤ n ∧ Hid (Norm a m) ∧ Hid (D w' b a (m : Int) dp ng tr) ∧ Hid (Below b w w'))
 case atStart => exact ⟨HN.out.pos, Nat.le_refl _, HN, H, Lib.hid (Below.refl _ _)⟩
 case round =>
  obtain ⟨h1, h2, hN, hD, hB⟩ := hrel
  obtain ⟨m, rfl⟩ : ∃ m, gk = m + 1 := ⟨gk - 1, by omega⟩
  have c800 : wr.cell? ⟨b, 800, none⟩ = some (.int .i64 ((m : Int) + 1)) := hD.out.nd_
  obtain ⟨x, hx⟩ : ∃ x, x = a.getD m 0 := ⟨_, rfl⟩
  have cdig := hD.out.d m (by have := hN.out.le; omega)
  rw [← hx] at cdig
  have hX := Lib.hid hx; clear hx
  have fr := hD.out.free 800
  have i0 : 0 ≤ (m : Int) := by omega
  have i1 : (m : Int) < 800 := by have := hN.out.le; omega
  have g2 : ((m : Int) + 1 == 0) = false := beq_eq_false_iff_ne.mpr (by omega)
  have g1 : decide (0 < (m : Int) + 1) = true := decide_eq_true (by omega)
  by_cases c : x = 48
  ·
   have c0 : (x == 48) = true := beq_iff_eq.mpr c
   have hC := Lib.hid c; clear c
   go_wp2
   go_quiet (fail)
   go_wp2
   go_roundg m
   case measure => omega
   case rel =>
    have h0 : 1 ≤ m := by
     rcases Nat.eq_zero_or_pos m with e | e
     ·
      have := hN.out.lead
      rw [e] at hX
      have h3 := hX.out
      have h4 := hC.out
      omega
     ·
      exact e
    exact ⟨h0, by omega, Lib.hid (hN.out.less h0 (by omega)), Lib.hid ((hD.out.drewN nq).set_nd _), Lib.hid ((hB.out.trans (Joins.below_draws b wr nq)).setCell (Nat.le_refl _) _)⟩
  ·
   have c0 : (x == 48) = false := beq_eq_false_iff_ne.mpr c
   have hC := Lib.hid c; clear c
   go_wp2
   go_quiet (fail)
   go_wp2
   go_end0
   exact ⟨rfl, ⟨m + 1, h2, hN.out, hD.out.drewN nq⟩, hB.out.trans (Joins.below_draws b wr nq)⟩
end Go.Proofs.YtieflhncpjjciaaGreatDoor.Dc
namespace Go.Proofs.YtieflhncpjjciaaGreatDoor.Dc
open Go Go.RowKit
structure Head (a : List Int) (k n r q : Nat) : Prop where
 none_ : r = 0 → q = 0
 some_ : 1 ≤ r → 1 ≤ q
 lt : q < 10 * 2 ^ k
 one : r = 1 → q = dig (a.getD 0 0)
theorem pow60 {k : Nat} (h : k ≤ 60) : 2 ^ k ≤ 2 ^ 60 := Nat.pow_le_pow_right (by decide) h
theorem shr0 {q k : Nat} : (((q : Int) / 2 ^ k == 0) = true) ↔ q < 2 ^ k := by
 rw [beq_iff_eq, show ((2 : Int) ^ k) = ((2 ^ k : Nat) : Int) by simp, ← Int.natCast_ediv]
 have hp : 0 < 2 ^ k := Nat.pow_pos (by decide)
 constructor
 ·
  intro h
  have : q / 2 ^ k = 0 := by omega
  exact (Nat.div_eq_zero_iff_lt hp).mp this
 ·
  intro h
  rw [Nat.div_eq_of_lt h]; rfl
theorem Head.next {a : List Int} {k n r q : Nat} {x : Int} (h : Head a k n r q) (hq : q < 2 ^ k) (hx : x = a.getD r 0) (hd : IsDig x) (hl : 49 ≤ a.getD 0 0) : Head a k n (r + 1) (q * 10 + dig x) := by
 have h9 := dig_lt hd
 have hl1 : r = 0 → 1 ≤ dig x := fun e => by rw [e] at hx; unfold dig; omega
 refine ⟨fun h => by omega, fun _ => ?_, by omega, fun e => ?_⟩
 ·
  rcases Nat.eq_zero_or_pos r with e | e
  ·
   have := hl1 e; omega
  ·
   have := h.some_ e; omega
 ·
  have e0 : r = 0 := by omega
  have := h.none_ e0
  rw [this, hx, e0]; omega
theorem wraps_u64 (n : Int) (h₀ : 0 ≤ n) (h₁ : n < 2 ^ 64) : IntKind.u64.wrap n = n := IntWalk.u64_in _ (by omega)
theorem and_mask {q k : Nat} (hk : k ≤ 60) (hq : q < 2 ^ 64) : bits .and .u64 (q : Int) ((2 : Int) ^ k - 1) = ((q % 2 ^ k : Nat) : Int) := by
 have h := bits_mask .u64 64 (by decide) wraps_u64 k (by omega) (q : Int) (by omega) (by omega)
 rw [h]
 simp
theorem div_cast (q k : Nat) : (q : Int) / 2 ^ k = ((q / 2 ^ k : Nat) : Int) := by simp
theorem div_nine {q k : Nat} (h : q < 10 * 2 ^ k) : q / 2 ^ k ≤ 9 := by
 have hp := Nat.pow_pos (n := k) (show 0 < 2 by omega)
 have : q / 2 ^ k < 10 := (Nat.div_lt_iff_lt_mul hp).mpr h
 omega
theorem div_b {q k : Nat} (h : q < 10 * 2 ^ k) : 0 ≤ (q : Int) / 2 ^ k ∧ (q : Int) / 2 ^ k ≤ 9 := by
 rw [div_cast]
 exact ⟨Int.natCast_nonneg _, by exact_mod_cast div_nine h⟩
theorem getD_set (l : List Int) (x i : Nat) (v : Int) (h : x < l.length) : (l.set x v).getD i 0 = if i = x then v else l.getD i 0 := by
 simp only [List.getD_eq_getElem?_getD, List.getElem?_set]
 by_cases e : x = i
 ·
  subst e; simp [h]
 ·
  rw [if_neg e, if_neg (fun h => e h.symm)]
structure Mid (a a' : List Int) (k q x q' : Nat) : Prop where
 ql : q' < 10 * 2 ^ k
 q0 : x = 0 → q' = q
 rest : ∀ i, x ≤ i → a'.getD i 0 = a.getD i 0
 digs : ∀ i, i < x → IsDig (a'.getD i 0)
 lead : 1 ≤ x → a'.getD 0 0 = 48 + ((q / 2 ^ k : Nat) : Int)
 x8 : x ≤ 800
theorem Mid.put {a a' : List Int} {k q x q' f : Nat} (h : Mid a a' k q x q') (hl : a'.length = 800) (hx : x < 800) (hf : f < 10 * 2 ^ k) : Mid a (a'.set x ((q' : Int) / 2 ^ k + 48)) k q (x + 1) f := by
 have h9 := div_nine h.ql
 refine ⟨hf, fun e => by omega, fun i hi => ?_, fun i hi => ?_, fun _ => ?_, by omega⟩
 ·
  rw [getD_set _ _ _ _ (by omega), if_neg (by omega)]; exact h.rest i (by omega)
 ·
  rw [getD_set _ _ _ _ (by omega)]
  by_cases e : i = x
  ·
   rw [if_pos e]; have := div_b h.ql; unfold IsDig; omega
  ·
   rw [if_neg e]; exact h.digs i (by omega)
 ·
  rw [getD_set _ _ _ _ (by omega)]
  by_cases e : 0 = x
  ·
   rw [if_pos e, div_cast, h.q0 e.symm, Int.add_comm]
  ·
   rw [if_neg e]; exact h.lead (by omega)
structure Twos (k q' m : Nat) : Prop where
 is : (q' = 0 ∧ m = 0) ∨ ∃ j, j ≤ k ∧ 2 ^ j ∣ q' ∧ m = k + 1 - j
theorem Twos.next {k q' m : Nat} (h : Twos k q' m) (hq : 1 ≤ q') : ∃ m', m' < m ∧ Twos k (q' % 2 ^ k * 10) m' := by
 rcases h.is with ⟨h1, _⟩ | ⟨j, h1, h2, h3⟩
 ·
  omega
 ·
  have h4 : 2 ^ j ∣ q' % 2 ^ k := (Nat.dvd_mod_iff (Nat.pow_dvd_pow 2 h1)).mpr h2
  by_cases h0 : q' % 2 ^ k * 10 = 0
  ·
   exact ⟨0, by omega, ⟨.inl ⟨h0, rfl⟩⟩⟩
  ·
   have hj : j < k := by
    rcases Nat.lt_or_ge j k with e | e
    ·
     exact e
    ·
     have e2 : j = k := by omega
     rw [e2] at h2
     have := Nat.mod_eq_zero_of_dvd h2
     omega
   refine ⟨k - j, by omega, ⟨.inr ⟨j + 1, by omega, ?_, by omega⟩⟩⟩
   rw [Nat.pow_succ]
   exact Nat.mul_dvd_mul h4 (by decide)
def Right (w' : World) (b : Nat) (a : List Int) (dp : Int) (ng : Bool) : Prop := ∃ (a' : List Int) (m : Nat) (dp' : Int) (tr' : Bool), Norm a' m ∧ D w' b a' (m : Int) dp' ng tr' ∧ dp' ≤ dp ∧ dp - 1000 ≤ dp' ∧ (dp' = dp → a'.getD 0 0 < a.getD 0 0)
set_option maxHeartbeats 2000000 in
set_option maxRecDepth 100000 in
theorem right_any {w : World} {b : Nat} {a : List Int} {dp : Int} {ng tr : Bool} {n k : Nat} (h : D w b a (n : Int) dp ng tr) (hn : Norm a n) (k1 : 1 ≤ k) (k2 : k ≤ 60) (d1 : -1000000000 ≤ dp) (d2 : dp ≤ 1000000000) :
  Calls Tryz.prog 171 #[.pointer (some ⟨b, 0, none⟩), .int .u64 (k : Int)] w fun e w' => e = .returned (.tuple #[]) ∧ Right w' b a dp ng ∧ Below b w w' := by
 have H := Lib.hid h; clear h
 have HN := Lib.hid hn; clear hn
 have hu := Tryz.underlying191
 have kk0 : 0 ≤ (k : Int) := by omega
 have kk1 : (k : Int) ≤ 60 := by omega
 have hk := Lib.hid (pow60 k2)
 have n0 := Lib.hid HN.out.le
 go_enter Tryz.func171, Tryz.ntmps171
 go_upto_block 0 with (fail)
 go_cut [4, 6] (fun v4 v6 wc => ∃ r q : Nat, v4 = .int .i64 (r : Int) ∧ v6 = .int .u64 (q : Int) ∧ Hid (1 ≤ r) ∧ Hid (r ≤ 1000) ∧ Hid (2 ^ k ≤ q) ∧ Hid (q < 10 * 2 ^ k) ∧ Hid (r = 1 → q = dig (a.getD 0 0)) ∧ Hid (D wc b a (n : Int) dp ng tr) ∧ Hid (Below b w wc))
 case first =>
  go_wp2_with fail
  go_loopg [4, 6, 7] n (fun m v4 v6 v7 w' => ∃ r q : Nat, r + m = n ∧ v4 = .int .i64 (r : Int) ∧ v6 = .int .u64 (q : Int) ∧ Hid (Head a k n r q) ∧ Hid (D w' b a (n : Int) dp ng tr) ∧ Hid (Below b w w'))
  case atStart => exact ⟨0, 0, by omega, rfl, rfl, Lib.hid ⟨fun _ => rfl, fun h => by omega, by have := Nat.pow_pos (n := k) (show 0 < 2 by omega); omega, fun h => by omega⟩, H, Lib.hid (Below.refl _ _)⟩
  case round =>
   obtain ⟨r, q, hr, rfl, rfl, hh, hD, hB⟩ := hrel
   have c800 := hD.out.nd_
   have i0 : 0 ≤ (r : Int) := by omega
   have i1 : 0 ≤ (q : Int) := by omega
   by_cases hq : q < 2 ^ k
   ·
    have t : ((q : Int) / 2 ^ k == 0) = true := shr0.mpr hq
    have hQ := Lib.hid hq; clear hq
    by_cases hrn : r < n
    ·
     obtain ⟨x, hx⟩ : ∃ x, x = a.getD r 0 := ⟨_, rfl⟩
     have cdig := hD.out.d r (by have := n0.out; omega)
     rw [← hx] at cdig
     have hX := Lib.hid hx; clear hx
     have t1 : decide (n ≤ r) = false := decide_eq_false (by omega)
     have i2 : (r : Int) < 800 := by have := n0.out; omega
     have x0 : 48 ≤ x := by rw [hX.out]; exact (HN.out.digs r hrn).1
     have x1 : x ≤ 57 := by rw [hX.out]; exact (HN.out.digs r hrn).2
     have q1 : (q : Int) ≤ 1152921504606846976 := by have := hk.out; have := hQ.out; omega
     go_wp2_with fail
     go_roundg (gk - 1)
     case measure => omega
     case rel =>
      have hx : IsDig x := ⟨x0, x1⟩
      exact ⟨r + 1, q * 10 + dig x, by omega, rfl, congrArg _ (by unfold dig; omega), Lib.hid (hh.out.next hQ.out hX.out hx HN.out.lead), hD, hB⟩
    ·
     have hrn' : r = n := by omega
     subst hrn'
     have t1 : decide (r ≤ r) = true := decide_eq_true (Nat.le_refl _)
     have qp : 1 ≤ q := hh.out.some_ HN.out.pos
     have t2 : ((q : Int) == 0) = false := beq_eq_false_iff_ne.mpr (by omega)
     go_wp2_with fail
     go_loopg [4, 6] (10 * 2 ^ k - q) (fun m v4 v6 w' => ∃ j q' : Nat, q' + m = 10 * 2 ^ k ∧ v4 = .int .i64 ((r : Int) + (j : Int)) ∧ v6 = .int .u64 (q' : Int) ∧ Hid (10 ^ j ≤ q') ∧ Hid (j = 0 → q' = q) ∧ Hid (q' < 10 * 2 ^ k) ∧ Hid (D w' b a (r : Int) dp ng tr) ∧ Hid (Below b w w'))
     case atStart => exact ⟨0, q, by have := hh.out.lt; omega, congrArg _ (by omega), rfl, Lib.hid (by simpa using qp), Lib.hid (fun _ => rfl), Lib.hid hh.out.lt, hD, hB⟩
     case round =>
      obtain ⟨j, q', hm, rfl, rfl, hj, hj0, hlt, hD, hB⟩ := hrel
      have j20 : j < 20 := by
       have h1 := hj.out
       have h2 := hlt.out
       have h3 := hk.out
       exact (Nat.pow_lt_pow_iff_right (show 1 < 10 by omega)).mp (Nat.lt_of_le_of_lt h1 (Nat.lt_of_lt_of_le h2 (show 10 * 2 ^ k ≤ 10 ^ 20 by omega)))
      have qp : 1 ≤ q' := Nat.le_trans (Nat.pow_pos (by decide)) hj.out
      have j0 : 0 ≤ (j : Int) := by omega
      have j1 : (j : Int) < 20 := by omega
      have r1 : (r : Int) ≤ 800 := by have := n0.out; omega
      have q0 : 0 ≤ (q' : Int) := by omega
      by_cases hq' : q' < 2 ^ k
      ·
       have t3 : ((q' : Int) / 2 ^ k == 0) = true := shr0.mpr hq'
       have q1 : (q' : Int) ≤ 1152921504606846976 := by have := hk.out; omega
       have hQ' := Lib.hid hq'; clear hq'
       go_wp2_with fail
       go_roundg (10 * 2 ^ k - 10 * q')
       case measure => have := hQ'.out; omega
       case rel =>
        have h1 := hj.out
        have h2 := hQ'.out
        exact ⟨j + 1, q' * 10, by omega, congrArg _ (by omega), congrArg _ (by omega), Lib.hid (by rw [Nat.pow_succ]; omega), Lib.hid (fun h => by omega), Lib.hid (by omega), hD, hB⟩
      ·
       have t3 : ((q' : Int) / 2 ^ k == 0) = false := by rw [Bool.eq_false_iff]; exact fun h => hq' (shr0.mp h)
       have hQ' := Lib.hid (Nat.le_of_not_lt hq'); clear hq'
       go_wp2_with fail
       go_meet
       have jp : 1 ≤ j := by
        rcases Nat.eq_zero_or_pos j with e | e
        ·
         have h1 := hj0.out e
         have h2 := hQ'.out
         have h3 := hQ.out
         omega
        ·
         exact e
       have rp := HN.out.pos
       exact ⟨r + j, q', congrArg _ (by omega), rfl, Lib.hid (by omega), Lib.hid (by have := n0.out; omega), hQ', hlt, Lib.hid (fun h => by omega), hD, hB⟩
   ·
    have t : ((q : Int) / 2 ^ k == 0) = false := by rw [Bool.eq_false_iff]; exact fun h => hq (shr0.mp h)
    have hQ := Lib.hid (Nat.le_of_not_lt hq); clear hq
    go_wp2_with fail
    go_meet
    have rp : 1 ≤ r := by
     rcases Nat.eq_zero_or_pos r with e | e
     ·
      have h1 := hh.out.none_ e
      have h2 := hQ.out
      have h3 := Nat.pow_pos (n := k) (show 0 < 2 by omega)
      omega
     ·
      exact e
    exact ⟨r, q, rfl, rfl, Lib.hid rp, Lib.hid (by have := n0.out; omega), hQ, Lib.hid hh.out.lt, Lib.hid hh.out.one, hD, hB⟩
 case rest =>
  obtain ⟨r, q, rfl, rfl, hr1, hr2, hq1, hq2, hone, hD, hB⟩ := hcut
  have c801 := hD.out.dp_
  have fr := hD.out.free 801
  have r0 : 0 ≤ (r : Int) := by omega
  have r1 : (r : Int) ≤ 1000 := by have := hr2.out; omega
  have P : ∃ p : Nat, p = 2 ^ k := ⟨_, rfl⟩
  have m1 : IntKind.u64.wrap ((2 : Int) ^ k) = (2 : Int) ^ k := by
   have h1 := hk.out
   have h2 := Nat.pow_pos (n := k) (show 0 < 2 by omega)
   rw [show ((2 : Int) ^ k) = ((2 ^ k : Nat) : Int) by simp]
   exact IntWalk.u64_in _ (by omega)
  have m2 : IntKind.u64.wrap ((2 : Int) ^ k - 1) = (2 : Int) ^ k - 1 := by
   have h1 := hk.out
   have h2 := Nat.pow_pos (n := k) (show 0 < 2 by omega)
   rw [show ((2 : Int) ^ k) = ((2 ^ k : Nat) : Int) by simp]
   exact IntWalk.u64_in _ (by omega)
  go_wp2_with fail
  clear m1 m2
  go_loopg [4, 5, 6] (n - r) (fun m v4 v5 v6 w' => ∃ (r' x q' : Nat) (a' : List Int), m = n - r' ∧ v4 = .int .i64 (r' : Int) ∧ v5 = .int .i64 (x : Int) ∧ v6 = .int .u64 (q' : Int) ∧ Hid (x < r') ∧ Hid (r' ≤ 1000) ∧ Hid (Mid a a' k q x q') ∧ Hid (D w' b a' (n : Int) (dp - ((r : Int) - 1)) ng tr) ∧ Hid (Below b w w'))
  case atStart => exact ⟨r, 0, q, a, rfl, rfl, rfl, rfl, Lib.hid (by have := hr1.out; omega), hr2, Lib.hid ⟨hq2.out, fun _ => rfl, fun _ _ => rfl, fun i hi => by omega, fun h => by omega, by omega⟩, Lib.hid (hD.out.set_dp _), Lib.hid (hB.out.setCell (Nat.le_refl _) _)⟩
  case round =>
   obtain ⟨r', x, q', a', hm, rfl, rfl, rfl, hx, hr', hM, hD, hB⟩ := hrel
   have c800 := hD.out.nd_
   have s0 : 0 ≤ (r' : Int) := by omega
   have s1 : (r' : Int) ≤ 1000 := by have := hr'.out; omega
   have s2 : 0 ≤ (x : Int) := by omega
   have e0 : 0 ≤ (q' : Int) := by omega
   have dv0 := (div_b hM.out.ql).1
   have dv9 := (div_b hM.out.ql).2
   by_cases hrn : r' < n
   ·
    have t1 : decide (r' < n) = true := decide_eq_true hrn
    obtain ⟨y, hy⟩ : ∃ y, y = a'.getD r' 0 := ⟨_, rfl⟩
    have cdig := hD.out.d r' (by have := n0.out; omega)
    rw [← hy] at cdig
    have hY := Lib.hid (hy.trans (hM.out.rest r' (by have := hx.out; omega))); clear hy
    have i2 : (r' : Int) < 800 := by have := n0.out; omega
    have i3 : (x : Int) < 800 := by have := hx.out; omega
    have frx := hD.out.free x
    obtain ⟨z, hz⟩ : ∃ z, wr.cell? ⟨b, x, none⟩ = some (.int .u8 z) := ⟨_, hD.out.d x (by have := hx.out; have := n0.out; omega)⟩
    obtain ⟨f, hf⟩ : ∃ f : Nat, f = q' % 2 ^ k := ⟨_, rfl⟩
    have ba : bits .and .u64 (q' : Int) ((2 : Int) ^ k - 1) = (f : Int) := by rw [hf]; exact and_mask k2 (by have := hM.out.ql; have := hk.out; omega)
    have fk : Hid (f < 2 ^ k) := Lib.hid (by rw [hf]; exact Nat.mod_lt q' (Nat.pow_pos (n := k) (show 0 < 2 by omega)))
    clear hf
    have f0 : 0 ≤ (f : Int) := by omega
    have f1 : (f : Int) ≤ 1152921504606846976 := by have := fk.out; have := hk.out; omega
    have yd : Hid (IsDig y) := Lib.hid (by rw [hY.out]; exact HN.out.digs r' hrn)
    have y0 : 48 ≤ y := yd.out.1
    have y1 : y ≤ 57 := yd.out.2
    go_wp2_with fail
    go_roundg (n - (r' + 1))
    case measure => omega
    case rel =>
     have h1 := hx.out
     have h2 := n0.out
     have h3 := fk.out
     have h4 := dig_lt yd.out
     exact ⟨r' + 1, x + 1, f * 10 + dig y, _, rfl, rfl, rfl, congrArg _ (by unfold dig; omega), Lib.hid (by omega), Lib.hid (by omega), Lib.hid (hM.out.put hD.out.len (by omega) (by omega)), Lib.hid (hD.out.set_d x (by omega) _), Lib.hid (hB.out.setCell (Nat.le_refl _) _)⟩
   ·
    have t1 : decide (r' < n) = false := decide_eq_false hrn
    go_wp2_with fail
    go_loopg [5, 6] (k + 1) (fun m v5 v6 w' => ∃ (x q' : Nat) (a' : List Int) (tr' : Bool), v5 = .int .i64 (x : Int) ∧ v6 = .int .u64 (q' : Int) ∧ Hid (Twos k q' m) ∧ Hid (q' < 10 * 2 ^ k) ∧ Hid (x = 0 → q' = q) ∧ Hid (∀ i, i < x → IsDig (a'.getD i 0)) ∧ Hid (1 ≤ x → a'.getD 0 0 = 48 + ((q / 2 ^ k : Nat) : Int)) ∧ Hid (x ≤ 800) ∧ Hid (D w' b a' (n : Int) (dp - ((r : Int) - 1)) ng tr') ∧ Hid (Below b w w'))
    case atStart => exact ⟨x, q', a', tr, rfl, rfl, Lib.hid ⟨.inr ⟨0, by omega, by simp, by omega⟩⟩, Lib.hid hM.out.ql, Lib.hid hM.out.q0, Lib.hid hM.out.digs, Lib.hid hM.out.lead, Lib.hid hM.out.x8, hD, hB⟩
    case round =>
     obtain ⟨x, q', a', tr', rfl, rfl, hT, hql, hq0, hdg, hld, hx8, hD, hB⟩ := hrel
     have s2 : 0 ≤ (x : Int) := by omega
     have e0 : 0 ≤ (q' : Int) := by omega
     have dv0 := (div_b hql.out).1
     have dv9 := (div_b hql.out).2
     by_cases hp : 1 ≤ q'
     ·
      have t2 : decide (0 < q') = true := decide_eq_true hp
      obtain ⟨f, hf⟩ : ∃ f : Nat, f = q' % 2 ^ k := ⟨_, rfl⟩
      have ba : bits .and .u64 (q' : Int) ((2 : Int) ^ k - 1) = (f : Int) := by rw [hf]; exact and_mask k2 (by have := hql.out; have := hk.out; omega)
      have fk : Hid (f < 2 ^ k) := Lib.hid (by rw [hf]; exact Nat.mod_lt q' (Nat.pow_pos (n := k) (show 0 < 2 by omega)))
      obtain ⟨m', hm', hT'⟩ := hT.out.next hp
      rw [← hf] at hT'
      have HT' := Lib.hid hT'; clear hT'
      have hF := Lib.hid hf; clear hf
      have f0 : 0 ≤ (f : Int) := by omega
      have f1 : (f : Int) ≤ 1152921504606846976 := by have := fk.out; have := hk.out; omega
      have hm := Lib.hid hm'; clear hm'
      by_cases hx : x < 800
      ·
       have i3 : (x : Int) < 800 := by omega
       have t3 : decide (x < 800) = true := decide_eq_true hx
       have frx := hD.out.free x
       obtain ⟨z, hz⟩ : ∃ z, wr.cell? ⟨b, x, none⟩ = some (.int .u8 z) := ⟨_, hD.out.d x hx⟩
       go_wp2_with fail
       go_roundg m'
       case measure => exact hm.out
       case rel =>
        have h3 := fk.out
        have h0 := getD_set a' x 0 ((q' : Int) / 2 ^ k + 48) (by have := hD.out.len; omega)
        refine ⟨x + 1, f * 10, _, tr', rfl, congrArg _ (by omega), HT', Lib.hid (by omega), Lib.hid (fun e => by omega), Lib.hid (fun i hi => ?_), Lib.hid (fun _ => ?_), Lib.hid (by omega), Lib.hid (hD.out.set_d x hx _), Lib.hid (hB.out.setCell (Nat.le_refl _) _)⟩
        ·
         rw [getD_set _ _ _ _ (by have := hD.out.len; omega)]
         by_cases e : i = x
         ·
          rw [if_pos e]; unfold IsDig; omega
         ·
          rw [if_neg e]; exact hdg.out i (by omega)
        ·
         rw [h0]
         by_cases e : 0 = x
         ·
          rw [if_pos e, div_cast, hq0.out e.symm, Int.add_comm]
         ·
          rw [if_neg e]; exact hld.out (by omega)
      ·
       have t3 : decide (x < 800) = false := decide_eq_false hx
       have fr3 := hD.out.free 803
       have c803 := hD.out.tr_
       by_cases hz : 0 < (q' : Int) / 2 ^ k
       ·
        have t4 : decide (0 < (q' : Int) / 2 ^ k) = true := decide_eq_true hz
        have hZ := Lib.hid hz; clear hz
        go_wp2_with fail
        go_roundg m'
        case measure => exact hm.out
        case rel =>
         have h3 := fk.out
         exact ⟨x, f * 10, a', true, rfl, congrArg _ (by omega), HT', Lib.hid (by omega), Lib.hid (fun e => by omega), hdg, hld, hx8, Lib.hid (hD.out.set_tr _), Lib.hid (hB.out.setCell (Nat.le_refl _) _)⟩
       ·
        have t4 : decide (0 < (q' : Int) / 2 ^ k) = false := decide_eq_false hz
        have hZ := Lib.hid hz; clear hz
        go_wp2_with fail
        go_roundg m'
        case measure => exact hm.out
        case rel =>
         have h3 := fk.out
         exact ⟨x, f * 10, a', tr', rfl, congrArg _ (by omega), HT', Lib.hid (by omega), Lib.hid (fun e => by omega), hdg, hld, hx8, hD, hB⟩
     ·
      have q00 : q' = 0 := by omega
      subst q00
      have t2 : decide (0 < (0 : Nat)) = false := rfl
      have frn := hD.out.free 800
      have c800b := hD.out.nd_
      have x1 : 1 ≤ x := by
       rcases Nat.eq_zero_or_pos x with e | e
       ·
        have h1 := hq0.out e
        have h2 := hq1.out
        have h3 := Nat.pow_pos (n := k) (show 0 < 2 by omega)
        omega
       ·
        exact e
      have qd1 : 1 ≤ q / 2 ^ k := (Nat.le_div_iff_mul_le (Nat.pow_pos (by decide))).mpr (by have := hq1.out; omega)
      have hnorm : Hid (Norm a' x) := Lib.hid ⟨x1, hx8.out, hdg.out, by rw [hld.out x1]; omega⟩
      have X1 := Lib.hid x1; clear x1
      have QD := Lib.hid qd1; clear qd1
      have CT := Lib.hid (trim_any (n := x) (hD.out.set_nd (x : Int)) hnorm.out)
      go_wp2_with (go_at_call 178; refine CT.out.mono ?_; rintro e w' ⟨rfl, ⟨m, hm1, hm2, hm3⟩, hbt⟩; have HM1 := Lib.hid hm1; have HM2 := Lib.hid hm2; have HM3 := Lib.hid hm3; have HBT := Lib.hid hbt; clear hm1 hm2 hm3 hbt)
      go_end0
      refine ⟨rfl, ⟨a', m, _, tr', HM2.out, HM3.out, by have := hr1.out; omega, by have := hr2.out; omega, fun e => ?_⟩, (hB.out.setCell (Nat.le_refl _) _).trans HBT.out⟩
      have er : r = 1 := by have := hr1.out; omega
      rw [hld.out X1.out, hone.out er]
      have hl := HN.out.lead
      have h2 : 2 ≤ 2 ^ k := by
       have := Nat.pow_le_pow_right (n := 2) (by decide) k1
       omega
      have h3 : dig (a.getD 0 0) / 2 ^ k < dig (a.getD 0 0) := Nat.div_lt_self (by unfold dig; omega) h2
      have h4 : (dig (a.getD 0 0) : Int) = a.getD 0 0 - 48 := by unfold dig; omega
      omega
end Go.Proofs.YtieflhncpjjciaaGreatDoor.Dc
namespace Go.Proofs.YtieflhncpjjciaaGreatDoor.Dc
open Go Go.RowKit
theorem ret_bool {a b : Bool} (h : a = b) : Ending.returned (.bool a) = .returned (.bool b) := by rw [h]
def nb (s : ByteArray) : List Int := s.data.toList.map fun c => (c.toNat : Int)
theorem nb_length (s : ByteArray) : (nb s).length = s.size := by simp [nb]
theorem nb_get (s : ByteArray) (i : Nat) (h : i < s.size) : (nb s).drop i = (s[i].toNat : Int) :: (nb s).drop (i + 1) := by
 have h2 : i < (nb s).length := by rw [nb_length]; exact h
 rw [List.drop_eq_getElem_cons h2]
 congr 1
 simp [nb]
 rfl
theorem take_get (a : List Int) (n i : Nat) (h : i < n) (hl : n ≤ a.length) : (a.take n).drop i = a.getD i 0 :: (a.take n).drop (i + 1) := by
 have h2 : i < (a.take n).length := by rw [List.length_take]; omega
 rw [List.drop_eq_getElem_cons h2, List.getElem_take, List.getD_eq_getElem?_getD, List.getElem?_eq_getElem (by omega)]
 rfl
set_option maxHeartbeats 2000000 in
set_option maxRecDepth 100000 in
theorem prefix_any {w : World} {b : Nat} {a : List Int} {dp nd : Int} {ng tr : Bool} {n : Nat} {c : Nat} {s : ByteArray} (h : D w b a nd dp ng tr) (hn : n ≤ 800) (hs : s.size ≤ 1000) (hd : ∀ i, i < n → IsDig (a.getD i 0)) :
  Calls Tryz.prog 177 #[.slice (some ⟨b, 0, none⟩) n c, .string s] w fun e w' => e = .returned (.bool (pl (a.take n) (nb s))) ∧ ∃ nq, w' = w.drewN nq := by
 have H := Lib.hid h; clear h
 have HD := Lib.hid hd; clear hd
 go_enter Tryz.func177, Tryz.ntmps177
 go_wp2
 go_loopg [5] s.size (fun m v5 w' => ∃ i : Nat, i + m = s.size ∧ v5 = .int .i64 (i : Int) ∧ Hid (i ≤ n) ∧ Hid (pl (a.take n) (nb s) = pl ((a.take n).drop i) ((nb s).drop i)) ∧ Hid (∃ nq, w' = w.drewN nq))
 case atStart => exact ⟨0, by omega, rfl, Lib.hid (Nat.zero_le _), Lib.hid (by simp), Lib.hid ⟨0, rfl⟩⟩
 case round =>
  obtain ⟨i, hi, rfl, hin, hpl, hw⟩ := hrel
  obtain ⟨nq0, rfl⟩ := hw.out
  clear hw
  have HD2 := Lib.hid (H.out.drewN nq0)
  have i0 : 0 ≤ (i : Int) := by omega
  by_cases hs1 : i < s.size
  ·
   have t1 : decide (i < s.size) = true := decide_eq_true hs1
   by_cases hn1 : i < n
   ·
    have t2 : decide (n ≤ i) = false := decide_eq_false (by omega)
    have tn : decide (i < n) = true := decide_eq_true hn1
    obtain ⟨x, hx⟩ : ∃ x, x = a.getD i 0 := ⟨_, rfl⟩
    have cdig := H.out.d i (by omega)
    rw [← hx] at cdig
    have hX := Lib.hid hx; clear hx
    obtain ⟨y, hy⟩ : ∃ y : UInt8, y = s[i] := ⟨_, rfl⟩
    have ix1 : (i : Int) < (n : Int) := by omega
    have ix2 : (i : Int) < (s.size : Int) := by omega
    have ix3 : i < s.size := hs1
    have ix4 : i < n := hn1
    have st : Hid (pl (a.take n) (nb s) = if x = (s[i].toNat : Int) then pl ((a.take n).drop (i + 1)) ((nb s).drop (i + 1)) else decide (x < (s[i].toNat : Int))) := Lib.hid (by
     rw [hpl.out, take_get a n i hn1 (by have := H.out.len; omega), nb_get s i hs1, ← hX.out, pl])
    by_cases hc : x = (s[i].toNat : Int)
    ·
     have cb : (x != (s[i].toNat : Int)) = false := by rw [hc]; simp
     have hC := Lib.hid hc; clear hc
     go_wp2_with fail
     go_quiet (fail)
     go_wp2_with fail
     go_roundg (s.size - (i + 1))
     case measure => omega
     case rel => exact ⟨i + 1, by omega, rfl, Lib.hid (by omega), Lib.hid (by rw [st.out, if_pos hC.out]), Lib.hid ⟨_, rfl⟩⟩
    ·
     have cb : (x != (s[i].toNat : Int)) = true := bne_iff_ne.mpr hc
     have hC := Lib.hid hc; clear hc
     go_wp2_with fail
     go_quiet (fail)
     go_wp2_with fail
     go_quiet (fail)
     go_wp2_with fail
     go_ret
     exact ⟨ret_bool (by rw [st.out, if_neg hC.out]), _, by rw [World.drewN_drewN, World.drewN_drewN]⟩
   ·
    have t2 : decide (n ≤ i) = true := decide_eq_true (by omega)
    go_wp2_with fail
    go_ret
    refine ⟨ret_bool ?_, _, rfl⟩
    rw [hpl.out, nb_get s i hs1, show (a.take n).drop i = [] from List.drop_eq_nil_of_le (by rw [List.length_take]; omega), pl]
  ·
   have t1 : decide (i < s.size) = false := decide_eq_false hs1
   go_wp2_with fail
   go_ret
   refine ⟨ret_bool ?_, _, rfl⟩
   rw [hpl.out, show (nb s).drop i = [] from List.drop_eq_nil_of_le (by rw [nb_length]; omega), pl]
end Go.Proofs.YtieflhncpjjciaaGreatDoor.Dc
namespace Go.Proofs.YtieflhncpjjciaaGreatDoor.Dc
open Go Go.RowKit
def cheat (k : Nat) : Nat × List UInt8 := Pinned.cheatRows.getD k (0, [])
def cdig (k : Nat) : List Int := (cheat k).2.map fun c => (c.toNat : Int)
def tailB : List Int → Bool
 | [] => true
 | y :: s => decide (0 < val (y :: s)) && tailB s
theorem tail_of : ∀ {s : List Int}, tailB s = true → Tail s
 | [], _ => trivial
 | y :: s, h => by
  simp only [tailB, Bool.and_eq_true, decide_eq_true_eq] at h
  exact ⟨h.1, tail_of h.2⟩
def cheatB (k : Nat) : Bool := (cdig k).all (fun x => decide (48 ≤ x ∧ x ≤ 57)) && tailB (cdig k) && decide (val (cdig k) = 5 ^ k) && decide (1 ≤ (cdig k).length) && decide (10 ^ ((cdig k).length - 1) ≤ 5 ^ k) && decide ((cdig k).length ≤ k) && decide ((cheat k).1 = k + 1 - (cdig k).length) && decide ((cheat k).1 ≤ 20)
theorem cheats_all : (List.range 60).all (fun k => cheatB (k + 1)) = true := by kernel_rfl
theorem cheat_of {k : Nat} (h1 : 1 ≤ k) (h2 : k ≤ 60) : Cheat k (cdig k) (cheat k).1 ∧ (cheat k).1 ≤ 20 := by
 have h := List.all_eq_true.mp cheats_all (k - 1) (List.mem_range.mpr (by omega))
 rw [show k - 1 + 1 = k by omega] at h
 simp only [cheatB, Bool.and_eq_true, decide_eq_true_eq, List.all_eq_true] at h
 obtain ⟨⟨⟨⟨⟨⟨⟨a1, a2⟩, a3⟩, a4⟩, a5⟩, a6⟩, a7⟩, a8⟩ := h
 exact ⟨⟨a1, tail_of a2, a3, a4, a5, a6, a7⟩, a8⟩
structure LC (w : World) (B : Nat) : Prop where
 ten : 10 < B
 ex : ∃ lb lo c : Nat, lb < B ∧ w.cell? ⟨10, 0, none⟩ = some (.slice (some ⟨lb, lo, none⟩) 61 c) ∧ ∀ i, i < 61 → w.cell? ⟨lb, lo + i * 2, none⟩ = some (.int .i64 (((cheat i).1 : Nat) : Int)) ∧ w.cell? ⟨lb, lo + i * 2 + 1, none⟩ = some (.string ⟨(cheat i).2.toArray⟩)
theorem LC.below {w w' : World} {B : Nat} (h : LC w B) (hb : Below B w w') : LC w' B := by
 obtain ⟨h0, lb, lo, c, h1, h2, h3⟩ := h
 refine ⟨h0, lb, lo, c, h1, (hb.cell (p := ⟨10, 0, none⟩) h0).trans h2, fun i hi => ⟨(hb.cell (p := ⟨lb, lo + i * 2, none⟩) h1).trans (h3 i hi).1, (hb.cell (p := ⟨lb, lo + i * 2 + 1, none⟩) h1).trans (h3 i hi).2⟩⟩
structure LM (a a' : List Int) (n t de : Nat) : Prop where
 same : ∀ i, i < t → a'.getD i 0 = a.getD i 0
 digs : ∀ i, t + de ≤ i → i < n + de → i < 800 → IsDig (a'.getD i 0)
 lead : t = 0 → de = 0 → a.getD 0 0 < a'.getD 0 0
theorem LM.put {a a' : List Int} {n u de : Nat} (h : LM a a' n (u + 1) de) (hl : a'.length = 800) (hw : u + de < 800) {R : Nat} (hR : R ≤ 9) (h0 : u = 0 → de = 0 → a.getD 0 0 < (R : Int) + 48) : LM a (a'.set (u + de) ((R : Int) + 48)) n u de := by
 refine ⟨fun i hi => ?_, fun i h1 h2 h3 => ?_, fun e1 e2 => ?_⟩
 ·
  rw [getD_set _ _ _ _ (by omega), if_neg (by omega)]; exact h.same i (by omega)
 ·
  rw [getD_set _ _ _ _ (by omega)]
  by_cases e : i = u + de
  ·
   rw [if_pos e]; unfold IsDig; omega
  ·
   rw [if_neg e]; exact h.digs i (by omega) h2 h3
 ·
  rw [getD_set _ _ _ _ (by omega), if_pos (by omega)]; exact h0 e1 e2
theorem LM.pass {a a' : List Int} {n u de : Nat} (h : LM a a' n (u + 1) de) (hw : ¬ u + de < 800) : LM a a' n u de :=
 ⟨fun i hi => h.same i (by omega), fun i h1 h2 h3 => by omega, fun e1 e2 => by omega⟩
structure LT (a a' : List Int) (n de y c : Nat) : Prop where
 num : (c = 0 ∧ y = 0) ∨ (1 ≤ y ∧ 10 ^ (y - 1) ≤ c ∧ c < 10 ^ y)
 y20 : y ≤ 20
 digs : ∀ i, y ≤ i → i < n + de → i < 800 → IsDig (a'.getD i 0)
 lead : y = 0 → 1 ≤ de → 49 ≤ a'.getD 0 0
 lead0 : de = 0 → a.getD 0 0 < a'.getD 0 0
theorem LT.put {a a' : List Int} {n de v c : Nat} (h : LT a a' n de (v + 1) c) (hl : a'.length = 800) (hc : 1 ≤ c) (hde : v + 1 ≤ de) : LT a (a'.set v (((c % 10 : Nat) : Int) + 48)) n de v (c / 10) := by
 have h20 := h.y20
 rcases h.num with ⟨h1, _⟩ | ⟨h1, h2, h3⟩
 ·
  omega
 ·
  rw [Nat.add_sub_cancel] at h2
  rw [Nat.pow_succ] at h3
  refine ⟨?_, by omega, fun i i1 i2 i3 => ?_, fun e _ => ?_, fun e => by omega⟩
  ·
   rcases Nat.eq_zero_or_pos v with e | e
   ·
    subst e; simp at h2 h3; exact .inl ⟨by omega, rfl⟩
   ·
    refine .inr ⟨e, ?_, by omega⟩
    have e2 : 10 ^ (v - 1) * 10 = 10 ^ v := by rw [← Nat.pow_succ]; congr 1; omega
    omega
  ·
   rw [getD_set _ _ _ _ (by omega)]
   by_cases e : i = v
   ·
    rw [if_pos e]; unfold IsDig; omega
   ·
    rw [if_neg e]; exact h.digs i (by omega) i2 i3
  ·
   rw [getD_set _ _ _ _ (by omega), if_pos e.symm]
   subst e; simp at h3; omega
def Left (w' : World) (b : Nat) (a : List Int) (dp : Int) (ng : Bool) : Prop := ∃ (a' : List Int) (m : Nat) (dp' : Int) (tr' : Bool), Norm a' m ∧ D w' b a' (m : Int) dp' ng tr' ∧ dp ≤ dp' ∧ dp' ≤ dp + 20 ∧ (dp' = dp → a.getD 0 0 < a'.getD 0 0)
theorem nb_of (l : List UInt8) : nb ⟨l.toArray⟩ = l.map fun c => (c.toNat : Int) := by simp [nb]
set_option maxHeartbeats 4000000 in
set_option maxRecDepth 100000 in
theorem left_any {w : World} {b : Nat} {a : List Int} {dp : Int} {ng tr : Bool} {n k : Nat} (h : D w b a (n : Int) dp ng tr) (hn : Norm a n) (hc : LC w b) (k1 : 1 ≤ k) (k2 : k ≤ 60) (d1 : -1000000000 ≤ dp) (d2 : dp ≤ 1000000000) :
  Calls Tryz.prog 170 #[.pointer (some ⟨b, 0, none⟩), .int .u64 (k : Int)] w fun e w' => e = .returned (.tuple #[]) ∧ Left w' b a dp ng ∧ Below b w w' := by
 obtain ⟨h10, lb, lo, cc, hlb, c10, cs⟩ := hc
 obtain ⟨cd, cst⟩ := cs k (by omega)
 obtain ⟨hch, hd20⟩ := cheat_of k1 k2
 have CH := Lib.hid hch; clear hch
 obtain ⟨dl, hdl⟩ : ∃ dl, dl = (cheat k).1 := ⟨_, rfl⟩
 rw [← hdl] at cd hd20
 obtain ⟨cu, hcu⟩ : ∃ cu : ByteArray, cu = ⟨(cheat k).2.toArray⟩ := ⟨_, rfl⟩
 rw [← hcu] at cst
 have CU := Lib.hid hcu; clear hcu
 have DL := Lib.hid hdl; clear hdl
 clear cs
 have H := Lib.hid h; clear h
 have HN := Lib.hid hn; clear hn
 have hu := Tryz.underlying191
 have kk0 : 0 ≤ (k : Int) := by omega
 have kk1 : (k : Int) ≤ 60 := by omega
 have kk2 : (k : Int) < 61 := by omega
 have hk := Lib.hid (pow60 k2)
 have n0 := Lib.hid HN.out.le
 have nn0 : 0 ≤ (n : Int) := by omega
 have nn1 : (n : Int) ≤ 800 := by have := n0.out; omega
 have c800 := H.out.nd_
 have dl0 : 0 ≤ (dl : Int) := by omega
 have dl1 : (dl : Int) ≤ 20 := by omega
 obtain ⟨pb, hpb⟩ : ∃ pb, pb = pl (a.take n) (nb cu) := ⟨_, rfl⟩
 have PF := Lib.hid (fun (q : Nat) => prefix_any (w := w.drewN q) (n := n) (c := 800) (s := cu) (H.out.drewN q) n0.out (by rw [← nb_length, CU.out, nb_of]; have := CH.out.le; unfold cdig at this; omega) HN.out.digs)
 rw [← hpb] at PF
 have hdig : Hid (∀ y ∈ a.take n, IsDig y) := Lib.hid (fun y hy => by
  obtain ⟨i, hi, rfl⟩ := List.mem_iff_getElem.mp hy
  rw [List.length_take] at hi
  have := HN.out.digs i (by omega)
  rw [List.getD_eq_getElem?_getD, List.getElem?_eq_getElem (by omega)] at this
  rw [List.getElem_take]
  exact this)
 have hcons : Hid (a.take n = a.getD 0 0 :: (a.take n).drop 1) := Lib.hid (by
  have := take_get a n 0 HN.out.pos (by have := H.out.len; have := n0.out; omega)
  rwa [List.drop_zero] at this)
 have dpos : 1 ≤ dl := by rw [DL.out, CH.out.de]; have := CH.out.le; omega
 have FI : Hid (∃ de : Nat, (de : Int) = (if pb = true then (dl : Int) - 1 else dl) ∧ carry k (a.take n) < 10 ^ de ∧ (1 ≤ de → 10 ^ (de - 1) ≤ carry k (a.take n)) ∧ de ≤ 20) := Lib.hid (by
  have hf := fills CH.out (x := a.getD 0 0) (b := (a.take n).drop 1) HN.out.lead (by rw [← hcons.out]; exact hdig.out)
  rw [← hcons.out, ← DL.out] at hf
  have hcd : cdig k = nb cu := by rw [CU.out, nb_of]; rfl
  rw [hcd, ← hpb] at hf
  cases pb with
  | false => exact ⟨dl, by simp, hf.1, fun _ => hf.2.1 rfl, hd20⟩
  | true => exact ⟨dl - 1, by simp; omega, (hf.2.2 rfl).1, fun h => by have := (hf.2.2 rfl).2 (by omega); rwa [show dl - 1 - 1 = dl - 2 by omega], by omega⟩)
 have hPB := Lib.hid hpb; clear hpb
 go_enter Tryz.func170, Tryz.ntmps170
 go_wp2_with fail
 go_quiet ((go_at_call 177; exact Calls.quiet_of (PF.out _)))
 go_upto_if 30 with (fail)
 go_cut [4] (fun v4 wc => ∃ (de q : Nat), v4 = .int .i64 (de : Int) ∧ wc = w.drewN q ∧ Hid (carry k (a.take n) < 10 ^ de) ∧ Hid (1 ≤ de → 10 ^ (de - 1) ≤ carry k (a.take n)) ∧ Hid (de ≤ 20))
 case first =>
  obtain ⟨de, e0, e1, e2, e3⟩ := FI.out
  have dd1 : 1 ≤ (dl : Int) := by omega
  have E0 := Lib.hid e0; clear e0
  have E1 := Lib.hid e1; clear e1
  have E2 := Lib.hid e2; clear e2
  have E3 := Lib.hid e3; clear e3
  cases pb with
  | false =>
   go_wp2_with fail
   go_meet
   exact ⟨de, _, congrArg _ (by have := E0.out; simp at this; omega), rfl, E1, E2, E3⟩
  | true =>
   go_wp2_with fail
   go_meet
   exact ⟨de, _, congrArg _ (by have := E0.out; simp at this; omega), rfl, E1, E2, E3⟩
 case rest =>
  obtain ⟨de, q, rfl, rfl, e1, e2, e3⟩ := hcut
  have de0 : 0 ≤ (de : Int) := by omega
  have de1 : (de : Int) ≤ 20 := by have := e3.out; omega
  go_wp2_with fail
  go_loopg [5, 6, 7] n (fun m v5 v6 v7 w' => ∃ (c : Nat) (a' : List Int) (tr' : Bool), v5 = .int .i64 ((m : Int) - 1) ∧ v6 = .int .i64 ((m : Int) + (de : Int)) ∧ v7 = .int .u64 (c : Int) ∧ Hid (m ≤ n) ∧ Hid (c = carry k ((a.take n).drop m)) ∧ Hid (LM a a' n m de) ∧ Hid (D w' b a' (n : Int) dp ng tr') ∧ Hid (Below b w w'))
  case atStart => exact ⟨0, a, tr, rfl, rfl, rfl, Lib.hid (Nat.le_refl _), Lib.hid (by rw [List.drop_eq_nil_of_le (by rw [List.length_take]; omega), carry_nil]), Lib.hid ⟨fun _ _ => rfl, fun i h1 h2 => by omega, fun h => by have := HN.out.pos; omega⟩, Lib.hid (H.out.drewN q), Lib.hid (Joins.below_draws b w q)⟩
  case round =>
   obtain ⟨c, a', tr', rfl, rfl, rfl, hm, hcar, hL, hD, hB⟩ := hrel
   rcases Nat.eq_zero_or_pos gk with g0 | gp
   ·
    subst g0
    rw [List.drop_zero] at hcar
    have c0 : 0 ≤ (c : Int) := by omega
    have c1 : (c : Int) ≤ 1152921504606846976 := by
     have h1 : c < 2 ^ k := by rw [hcar.out]; exact carry_lt hdig.out
     have := hk.out; omega
    have hlt : Hid (LT a a' n de de c) := Lib.hid (by
     refine ⟨?_, e3.out, fun i h1 h2 h3 => hL.out.digs i (by omega) h2 h3, fun h h' => by omega, fun h => hL.out.lead rfl h⟩
     rcases Nat.eq_zero_or_pos de with e | e
     ·
      have := e1.out
      rw [e, Nat.pow_zero, ← hcar.out] at this
      exact .inl ⟨by omega, e⟩
     ·
      exact .inr ⟨e, by rw [hcar.out]; exact e2.out e, by rw [hcar.out]; exact e1.out⟩)
    have hL0 := Lib.hid hL.out.lead; clear hL
    go_wp2_with fail
    go_loopg [6, 7] de (fun m v6 v7 w' => ∃ (c : Nat) (a' : List Int) (tr' : Bool), v6 = .int .i64 (m : Int) ∧ v7 = .int .u64 (c : Int) ∧ Hid (m ≤ de) ∧ Hid (c ≤ 1152921504606846976) ∧ Hid (LT a a' n de m c) ∧ Hid (D w' b a' (n : Int) dp ng tr') ∧ Hid (Below b w w'))
    case atStart => exact ⟨c, a', tr', congrArg _ (by simp), rfl, Lib.hid (Nat.le_refl _), Lib.hid (by omega), hlt, hD, hB⟩
    case round =>
     obtain ⟨c, a', tr', rfl, rfl, hmd, hc9, hT, hD, hB⟩ := hrel
     have c0 : 0 ≤ (c : Int) := by omega
     have c1 : (c : Int) ≤ 1152921504606846976 := by have := hc9.out; omega
     by_cases hc : 1 ≤ c
     ·
      have t1 : decide (0 < c) = true := decide_eq_true hc
      obtain ⟨v, rfl⟩ : ∃ v, gk = v + 1 := ⟨gk - 1, by
       rcases hT.out.num with ⟨h1, _⟩ | ⟨h1, _, _⟩ <;> omega⟩
      have v0 : 0 ≤ (v : Int) := by omega
      have v1 : (v : Int) < 20 := by have := hT.out.y20; omega
      obtain ⟨Q, hQ⟩ : ∃ Q : Nat, Q = c / 10 := ⟨_, rfl⟩
      have s3 : (c : Int) / 10 = (Q : Int) := by omega
      have q00 : 0 ≤ (Q : Int) := by omega
      have q10 : (Q : Int) ≤ 1152921504606846976 := by omega
      obtain ⟨R, hR⟩ : ∃ R : Nat, R = c % 10 := ⟨_, rfl⟩
      have s4 : (c : Int) - 10 * (Q : Int) = (R : Int) := by omega
      have r00 : 0 ≤ (R : Int) := by omega
      have r10 : (R : Int) ≤ 9 := by omega
      have HQ := Lib.hid hQ; clear hQ
      have HR := Lib.hid hR; clear hR
      have HC := Lib.hid hc; clear hc
      have w2 : (v : Int) < 800 := by omega
      have w3 : decide (v < 800) = true := decide_eq_true (by omega)
      have e6 : (v : Int) + 1 - 1 = (v : Int) := by omega
      obtain ⟨z, hz⟩ : ∃ z, wr.cell? ⟨b, v, none⟩ = some (.int .u8 z) := ⟨_, hD.out.d v (by omega)⟩
      have frx := hD.out.free v
      go_wp2_with fail
      go_roundg v
      case measure => omega
      case rel => exact ⟨Q, _, tr', rfl, rfl, Lib.hid (by have := hmd.out; omega), Lib.hid (by omega), Lib.hid (by rw [HQ.out, HR.out]; exact hT.out.put hD.out.len HC.out hmd.out), Lib.hid (hD.out.set_d v (by omega) _), Lib.hid (hB.out.setCell (Nat.le_refl _) _)⟩
     ·
      have t1 : decide (0 < c) = false := decide_eq_false hc
      have c00 : c = 0 := by omega
      subst c00
      have g00 : gk = 0 := by
       rcases hT.out.num with ⟨_, h1⟩ | ⟨_, h1, _⟩
       ·
        exact h1
       ·
        have := Nat.pow_pos (n := gk - 1) (show 0 < 10 by omega); omega
      subst g00
      have c800' := hD.out.nd_
      have fr0 := hD.out.free 800
      have fr1 := hD.out.free 801
      have hD1 := Lib.hid (hD.out.set_nd ((n : Int) + (de : Int)))
      have d800 := hD1.out.nd_
      have d801 := hD1.out.dp_
      have hlead : Hid (49 ≤ a'.getD 0 0) := Lib.hid (by
       rcases Nat.eq_zero_or_pos de with e | e
       ·
        have h1 := hT.out.lead0 e
        have h2 := HN.out.lead
        omega
       ·
        exact hT.out.lead rfl e)
      by_cases hbig : 800 ≤ n + de
      ·
       have t5 : decide (800 ≤ (n : Int) + (de : Int)) = true := decide_eq_true (by omega)
       have hnorm : Norm a' 800 := ⟨by have := HN.out.pos; omega, by omega, fun i hi => hT.out.digs i (by omega) (by omega) (by omega), hlead.out⟩
       have hD3 : D (((wr.setCell ⟨b, 800, none⟩ (.int .i64 ((n : Int) + (de : Int)))).setCell ⟨b, 800, none⟩ (.int .i64 800)).setCell ⟨b, 801, none⟩ (.int .i64 (dp + (de : Int)))) b a' ((800 : Nat) : Int) (dp + (de : Int)) ng tr' := ((hD.out.set_nd _).set_nd _).set_dp _
       have CT := Lib.hid (trim_any (n := 800) hD3 hnorm)
       clear hnorm
       have HD3 := Lib.hid hD3; clear hD3
       go_wp2_with (go_at_call 178; refine CT.out.mono ?_; rintro e w' ⟨rfl, ⟨m, hm1, hm2, hm3⟩, hbt⟩; have HM1 := Lib.hid hm1; have HM2 := Lib.hid hm2; have HM3 := Lib.hid hm3; have HBT := Lib.hid hbt; clear hm1 hm2 hm3 hbt)
       go_end0
       exact ⟨rfl, ⟨a', m, _, tr', HM2.out, HM3.out, by omega, by omega, fun e => hT.out.lead0 (by omega)⟩, (((hB.out.setCell (Nat.le_refl _) _).setCell (Nat.le_refl _) _).setCell (Nat.le_refl _) _).trans HBT.out⟩
      ·
       have t5 : decide (800 ≤ (n : Int) + (de : Int)) = false := decide_eq_false (by omega)
       have hnorm : Norm a' (n + de) := ⟨by have := HN.out.pos; omega, by omega, fun i hi => hT.out.digs i (by omega) (by omega) (by omega), hlead.out⟩
       have hD3 : D ((wr.setCell ⟨b, 800, none⟩ (.int .i64 ((n : Int) + (de : Int)))).setCell ⟨b, 801, none⟩ (.int .i64 (dp + (de : Int)))) b a' ((n + de : Nat) : Int) (dp + (de : Int)) ng tr' := by
        rw [Int.natCast_add]; exact (hD.out.set_nd _).set_dp _
       have CT := Lib.hid (trim_any (n := (n + de)) hD3 hnorm)
       clear hnorm
       have HD3 := Lib.hid hD3; clear hD3
       go_wp2_with (go_at_call 178; refine CT.out.mono ?_; rintro e w' ⟨rfl, ⟨m, hm1, hm2, hm3⟩, hbt⟩; have HM1 := Lib.hid hm1; have HM2 := Lib.hid hm2; have HM3 := Lib.hid hm3; have HBT := Lib.hid hbt; clear hm1 hm2 hm3 hbt)
       go_end0
       exact ⟨rfl, ⟨a', m, _, tr', HM2.out, HM3.out, by omega, by omega, fun e => hT.out.lead0 (by omega)⟩, ((hB.out.setCell (Nat.le_refl _) _).setCell (Nat.le_refl _) _).trans HBT.out⟩
   ·
    obtain ⟨u, rfl⟩ : ∃ u, gk = u + 1 := ⟨gk - 1, by omega⟩
    have GP := Lib.hid gp; clear gp
    obtain ⟨x, hx⟩ : ∃ x, x = a'.getD u 0 := ⟨_, rfl⟩
    have cx := hD.out.d u (by have := n0.out; have := hm.out; omega)
    rw [← hx] at cx
    have hX := Lib.hid (hx.trans (hL.out.same u (by omega))); clear hx
    have u0 : 0 ≤ (u : Int) := by omega
    have u1 : (u : Int) < 800 := by have := n0.out; have := hm.out; omega
    have xd : Hid (IsDig x) := Lib.hid (by rw [hX.out]; exact HN.out.digs u (by have := hm.out; omega))
    have x0 : 48 ≤ x := xd.out.1
    have x1 : x ≤ 57 := xd.out.2
    have t1 : decide (0 ≤ (u : Int)) = true := decide_eq_true u0
    have c0 : 0 ≤ (c : Int) := by omega
    have hcl : Hid (c < 2 ^ k) := Lib.hid (by rw [hcar.out]; exact carry_lt (fun y hy => hdig.out y (List.mem_of_mem_drop hy)))
    have c1 : (c : Int) ≤ 1152921504606846976 := by have := hcl.out; have := hk.out; omega
    obtain ⟨P, hP⟩ : ∃ P : Nat, P = dig x * 2 ^ k := ⟨_, rfl⟩
    have hP9 : P ≤ 9 * 2 ^ k := by rw [hP]; exact Nat.mul_le_mul_right _ (dig_lt xd.out)
    have pk := hk.out
    have s1 : IntKind.u64.wrap ((x - 48) * 2 ^ k) = (P : Int) := by
     have e : (x - 48) * 2 ^ k = (P : Int) := by
      rw [hP, Int.natCast_mul, show ((dig x : Nat) : Int) = x - 48 by unfold dig; omega]
      simp
     rw [e]
     exact IntWalk.u64_in _ (by omega)
    obtain ⟨N, hN⟩ : ∃ N : Nat, N = c + P := ⟨_, rfl⟩
    have s2 : (c : Int) + (P : Int) = (N : Int) := by omega
    have n00 : 0 ≤ (N : Int) := by omega
    have n10 : (N : Int) ≤ 11529215046068469760 := by have := hcl.out; omega
    obtain ⟨Q, hQ⟩ : ∃ Q : Nat, Q = N / 10 := ⟨_, rfl⟩
    have s3 : (N : Int) / 10 = (Q : Int) := by omega
    have q00 : 0 ≤ (Q : Int) := by omega
    have q10 : (Q : Int) ≤ 1152921504606846976 := by omega
    obtain ⟨R, hR⟩ : ∃ R : Nat, R = N % 10 := ⟨_, rfl⟩
    have s4 : (N : Int) - 10 * (Q : Int) = (R : Int) := by omega
    have r00 : 0 ≤ (R : Int) := by omega
    have r10 : (R : Int) ≤ 9 := by omega
    have HP := Lib.hid hP; clear hP
    have HP9 := Lib.hid hP9; clear hP9
    have PK := Lib.hid pk; clear pk
    have HN' := Lib.hid hN; clear hN
    have HQ := Lib.hid hQ; clear hQ
    have HR := Lib.hid hR; clear hR
    have e6 : (u : Int) + 1 + (de : Int) - 1 = (u : Int) + (de : Int) := by omega
    have HQC : Hid (Q = carry k ((a.take n).drop u)) := Lib.hid (by
     rw [take_get a n u (by have := hm.out; omega) (by have := H.out.len; have := n0.out; omega), carry_cons, ← hX.out, ← hcar.out, ← HP.out, HQ.out, HN'.out, Nat.add_comm])
    have HLead : Hid (u = 0 → de = 0 → a.getD 0 0 < (R : Int) + 48) := Lib.hid (fun e e' => by
     have h1 := HQC.out
     rw [e, List.drop_zero] at h1
     have h2 := e1.out
     rw [e', Nat.pow_zero] at h2
     have h3 : dig x * 2 ≤ P := by
      rw [HP.out]
      exact Nat.mul_le_mul_left _ (by have := Nat.pow_le_pow_right (n := 2) (by decide) k1; omega)
     have h4 := HN.out.lead
     have h5 := hX.out
     rw [e] at h5
     have h6 : (dig x : Int) = x - 48 := by unfold dig; omega
     have h7 := HN'.out
     have h8 := HQ.out
     have h9 := HR.out
     omega)
    by_cases hw : u + de < 800
    ·
     have t2 : decide ((u : Int) + (de : Int) < 800) = true := decide_eq_true (by omega)
     have w2 : (u : Int) + (de : Int) < 800 := by omega
     obtain ⟨z, hz⟩ : ∃ z, wr.cell? ⟨b, u + de, none⟩ = some (.int .u8 z) := ⟨_, hD.out.d (u + de) hw⟩
     have frx := hD.out.free (u + de)
     go_wp2_with fail
     go_roundg u
     case measure => omega
     case rel => exact ⟨Q, _, tr', rfl, rfl, rfl, Lib.hid (by have := hm.out; omega), HQC, Lib.hid (hL.out.put hD.out.len hw (by omega) (fun e e' => by have := HLead.out e e'; omega)), Lib.hid (hD.out.set_d (u + de) hw _), Lib.hid (hB.out.setCell (Nat.le_refl _) _)⟩
    ·
     have t2 : decide ((u : Int) + (de : Int) < 800) = false := decide_eq_false (by omega)
     have w2 : ¬ (u : Int) + (de : Int) < 800 := by omega
     have fr3 := hD.out.free 803
     have c803 := hD.out.tr_
     by_cases hr0 : (R : Int) = 0
     ·
      have t3 : ((R : Int) != 0) = false := by rw [hr0]; rfl
      have HR0 := Lib.hid hr0; clear hr0
      go_wp2_with fail
      go_roundg u
      case measure => omega
      case rel => exact ⟨Q, _, tr', rfl, rfl, rfl, Lib.hid (by have := hm.out; omega), HQC, Lib.hid (hL.out.pass hw), hD, hB⟩
     ·
      have t3 : ((R : Int) != 0) = true := bne_iff_ne.mpr hr0
      have HR0 := Lib.hid hr0; clear hr0
      go_wp2_with fail
      go_roundg u
      case measure => omega
      case rel => exact ⟨Q, _, true, rfl, rfl, rfl, Lib.hid (by have := hm.out; omega), HQC, Lib.hid (hL.out.pass hw), Lib.hid (hD.out.set_tr _), Lib.hid (hB.out.setCell (Nat.le_refl _) _)⟩
end Go.Proofs.YtieflhncpjjciaaGreatDoor.Dc
namespace Go.Proofs.YtieflhncpjjciaaGreatDoor.Dc
open Go Go.RowKit
set_option maxHeartbeats 2000000 in
set_option maxRecDepth 100000 in
theorem shl_any {w : World} {b : Nat} {a : List Int} {dp : Int} {ng tr : Bool} {n k : Nat} (h : D w b a (n : Int) dp ng tr) (hn : Norm a n) (hc : LC w b) (k1 : 1 ≤ k) (k2 : k ≤ 60) (d1 : -1000000000 ≤ dp) (d2 : dp ≤ 1000000000) :
  Calls Tryz.prog 165 #[.pointer (some ⟨b, 0, none⟩), .int .i64 (k : Int)] w fun e w' => e = .returned (.tuple #[]) ∧ Left w' b a dp ng ∧ Below b w w' := by
 have CT := Lib.hid (left_any h hn hc k1 k2 d1 d2)
 have kk0 : 0 ≤ (k : Int) := by omega
 have kk1 : (k : Int) ≤ 60 := by omega
 have kk2 : (0 : Int) < (k : Int) := by omega
 have kk3 : ¬ (60 : Int) < (k : Int) := by omega
 have nn0 : ((n : Int) == 0) = false := by have := hn.pos; simp; omega
 have c800 := h.nd_
 have hu := Tryz.underlying191
 have t1 : decide ((0 : Int) < (k : Int)) = true := decide_eq_true kk2
 have t2 : decide ((60 : Int) < (k : Int)) = false := decide_eq_false kk3
 have t1' : decide (0 < k) = true := decide_eq_true (by omega)
 have H := Lib.hid h; clear h
 have HN := Lib.hid hn; clear hn
 have HC := Lib.hid hc; clear hc
 go_enter Tryz.func165, Tryz.ntmps165
 go_wp2_with fail
 go_loopg [1] 0 (fun m v1 w' => v1 = .int .i64 (k : Int) ∧ w' = w)
 case atStart => exact ⟨rfl, rfl⟩
 case round =>
  obtain ⟨rfl, rfl⟩ := hrel
  go_wp2_with (go_at_call 170; refine CT.out.mono ?_; rintro e w' ⟨rfl, hl, hbt⟩; have HL := Lib.hid hl; have HBT := Lib.hid hbt; clear hl hbt)
  go_end0
  exact ⟨rfl, HL.out, HBT.out⟩
def Rights (w' : World) (b : Nat) (a : List Int) (dp : Int) (ng : Bool) (K : Nat) : Prop := ∃ (a' : List Int) (m : Nat) (dp' : Int) (tr' : Bool), Norm a' m ∧ D w' b a' (m : Int) dp' ng tr' ∧ dp' ≤ dp ∧ dp - 1000 - 20 * (K : Int) ≤ dp' ∧ (dp' = dp → a'.getD 0 0 < a.getD 0 0)
set_option maxHeartbeats 2000000 in
set_option maxRecDepth 100000 in
theorem shr_any {w : World} {b : Nat} {a : List Int} {dp : Int} {ng tr : Bool} {n k : Nat} (h : D w b a (n : Int) dp ng tr) (hn : Norm a n) (k1 : 1 ≤ k) (k2 : k ≤ 500000) (d1 : -1000000 ≤ dp) (d2 : dp ≤ 1000000) :
  Calls Tryz.prog 165 #[.pointer (some ⟨b, 0, none⟩), .int .i64 (-(k : Int))] w fun e w' => e = .returned (.tuple #[]) ∧ Rights w' b a dp ng k ∧ Below b w w' := by
 have kk0 : 0 ≤ (k : Int) := by omega
 have kk1 : (k : Int) ≤ 500000 := by omega
 have kk2 : ¬ (0 : Int) < -(k : Int) := by omega
 have kk4 : -(k : Int) < 0 := by omega
 have nn0 : ((n : Int) == 0) = false := by have := hn.pos; simp; omega
 have c800 := h.nd_
 have hu := Tryz.underlying191
 have t1 : decide ((0 : Int) < -(k : Int)) = false := decide_eq_false kk2
 have t2 : decide (-(k : Int) < 0) = true := decide_eq_true kk4
 have t3 : decide ((0 : Int) < (k : Int)) = true := decide_eq_true (by omega)
 have t4 : decide (0 < k) = true := decide_eq_true (by omega)
 have H := Lib.hid h; clear h
 have HN := Lib.hid hn; clear hn
 go_enter Tryz.func165, Tryz.ntmps165
 go_wp2_with fail
 go_loopg [1] k (fun K v1 w' => ∃ (x : Int) (a' : List Int) (m : Nat) (dp' : Int) (tr' : Bool), v1 = .int .i64 x ∧ Hid (x = -(K : Int)) ∧ Hid (1 ≤ K) ∧ Hid (K ≤ k) ∧ Hid (Norm a' m) ∧ Hid (D w' b a' (m : Int) dp' ng tr') ∧ Hid (Below b w w') ∧ Hid (dp' ≤ dp) ∧ Hid (dp - 20 * ((k : Int) - (K : Int)) ≤ dp') ∧ Hid (dp' = dp → a'.getD 0 0 ≤ a.getD 0 0))
 case atStart => exact ⟨_, a, n, dp, tr, rfl, Lib.hid rfl, Lib.hid k1, Lib.hid (Nat.le_refl _), HN, H, Lib.hid (Below.refl b w), Lib.hid (Int.le_refl _), Lib.hid (by omega), Lib.hid (fun _ => Int.le_refl _)⟩
 case round =>
  obtain ⟨x, a', m, dp', tr', rfl, hx, hK1, hK2, hN, hD, hB, hdp, hdq, hl⟩ := hrel
  have g0 : 0 ≤ (gk : Int) := by omega
  have g1 : (gk : Int) ≤ 500000 := by have := hK2.out; omega
  by_cases hbig : 60 < gk
  ·
   have s1 : decide (x < -60) = true := decide_eq_true (by have := hx.out; omega)
   have x0 : -500000 ≤ x := by have := hx.out; omega
   have x1 : x ≤ 0 := by have := hx.out; omega
   have HB := Lib.hid hbig; clear hbig
   have CT := Lib.hid (right_any (k := 60) hD.out hN.out (by omega) (by omega) (by have := hdq.out; omega) (by have := hdp.out; omega))
   go_wp2_with (go_at_call 171; refine CT.out.mono ?_; rintro e w' ⟨rfl, ⟨a2, m2, dp2, tr2, q1, q2, q3, q4, q5⟩, hbt⟩; have Q1 := Lib.hid q1; have Q2 := Lib.hid q2; have Q3 := Lib.hid q3; have Q4 := Lib.hid q4; have Q5 := Lib.hid q5; have HBT := Lib.hid hbt; clear hbt q1 q2 q3 q4 q5)
   go_roundg (gk - 60)
   case measure => have := HB.out; omega
   case rel => exact ⟨_, a2, m2, dp2, tr2, rfl, Lib.hid (by have := HB.out; have := hx.out; omega), Lib.hid (by have := HB.out; omega), Lib.hid (by have := hK2.out; omega), Q1, Q2, Lib.hid (hB.out.trans HBT.out), Lib.hid (by have := hdp.out; have := Q3.out; omega), Lib.hid (by have := hdq.out; have := Q4.out; have := HB.out; omega), Lib.hid (fun e => by have h1 := hdp.out; have h2 := Q3.out; have h3 := Q5.out (by omega); have h4 := hl.out (by omega); omega)⟩
  ·
   have s1 : decide (-(gk : Int) < -60) = false := decide_eq_false (by omega)
   obtain rfl := hx.out
   have gg : (gk : Int) ≤ 60 := by omega
   have HB := Lib.hid hbig; clear hbig
   have CT := Lib.hid (right_any (k := gk) hD.out hN.out hK1.out (by omega) (by have := hdq.out; omega) (by have := hdp.out; omega))
   go_wp2_with (go_at_call 171; refine CT.out.mono ?_; rintro e w' ⟨rfl, ⟨a2, m2, dp2, tr2, q1, q2, q3, q4, q5⟩, hbt⟩; have Q1 := Lib.hid q1; have Q2 := Lib.hid q2; have Q3 := Lib.hid q3; have Q4 := Lib.hid q4; have Q5 := Lib.hid q5; have HBT := Lib.hid hbt; clear hbt q1 q2 q3 q4 q5)
   go_end0
   exact ⟨rfl, ⟨a2, m2, dp2, tr2, Q1.out, Q2.out, by have := hdp.out; have := Q3.out; omega, by have := hdq.out; have := Q4.out; have := hK1.out; omega, fun e => by have h1 := hdp.out; have h2 := Q3.out; have h3 := Q5.out (by omega); have h4 := hl.out (by omega); omega⟩, hB.out.trans HBT.out⟩
end Go.Proofs.YtieflhncpjjciaaGreatDoor.Dc
namespace Go.Proofs.YtieflhncpjjciaaGreatDoor.Dc
open Go Go.RowKit
inductive IsB : Ending → Prop
 | mk (r : Bool) : IsB (.returned (.bool r))
set_option maxHeartbeats 2000000 in
set_option maxRecDepth 100000 in
theorem round_any {w : World} {b : Nat} {a : List Int} {dp x : Int} {ng tr : Bool} {n : Nat} (h : D w b a (n : Int) dp ng tr) (hn : Norm a n) (d1 : -1000000000 ≤ x) (d2 : x ≤ 1000000000) :
  Calls Tryz.prog 172 #[.pointer (some ⟨b, 0, none⟩), .int .i64 x] w fun e w' => IsB e ∧ w' = w := by
 have c800 := h.nd_
 have c803 := h.tr_
 have hu := Tryz.underlying191
 have H := Lib.hid h; clear h
 have HN := Lib.hid hn; clear hn
 by_cases hx0 : x < 0
 ·
  have t1 : decide (x < 0) = true := decide_eq_true hx0
  go_enter Tryz.func172, Tryz.ntmps172
  go_wp2_with fail
  go_ret
  exact ⟨IsB.mk _, rfl⟩
 ·
  have t1 : decide (x < 0) = false := decide_eq_false hx0
  by_cases hxn : (n : Int) ≤ x
  ·
   have t2 : decide ((n : Int) ≤ x) = true := decide_eq_true hxn
   go_enter Tryz.func172, Tryz.ntmps172
   go_wp2_with fail
   go_ret
   exact ⟨IsB.mk _, rfl⟩
  ·
   have t2 : decide ((n : Int) ≤ x) = false := decide_eq_false hxn
   obtain ⟨i, rfl⟩ : ∃ i : Nat, x = (i : Int) := ⟨x.toNat, by omega⟩
   obtain ⟨y, hy⟩ : ∃ y, w.cell? ⟨b, i, none⟩ = some (.int .u8 y) := ⟨_, H.out.d i (by have := HN.out.le; omega)⟩
   have i0 : 0 ≤ (i : Int) := by omega
   have i1 : (i : Int) < 800 := by have := HN.out.le; omega
   by_cases hy5 : y = 53
   ·
    have t3 : (y == 53) = true := beq_iff_eq.mpr hy5
    have HY := Lib.hid hy5; clear hy5
    by_cases hin : (i : Int) + 1 = (n : Int)
    ·
     have t4 : ((i : Int) + 1 == (n : Int)) = true := beq_iff_eq.mpr hin
     have HIN := Lib.hid hin; clear hin
     cases tr with
     | true =>
      go_enter Tryz.func172, Tryz.ntmps172
      go_wp2_with fail
      go_ret
      exact ⟨IsB.mk _, rfl⟩
     | false =>
      rcases Nat.eq_zero_or_pos i with e | e
      ·
       subst e
       go_enter Tryz.func172, Tryz.ntmps172
       go_wp2_with fail
       go_ret
       exact ⟨IsB.mk _, rfl⟩
      ·
       obtain ⟨m, hm⟩ : ∃ m : Nat, (i : Int) - 1 = (m : Int) := ⟨i - 1, by omega⟩
       obtain ⟨z, hz⟩ : ∃ z, w.cell? ⟨b, m, none⟩ = some (.int .u8 z) := ⟨_, H.out.d m (by have := HN.out.le; omega)⟩
       have m0 : 0 ≤ (m : Int) := by omega
       have m1 : (m : Int) < 800 := by omega
       have t5 : decide ((0 : Int) < (i : Int)) = true := decide_eq_true (by omega)
       have t5' : decide (0 < i) = true := decide_eq_true e
       have E := Lib.hid e; clear e
       go_enter Tryz.func172, Tryz.ntmps172
       go_wp2_with fail
       go_ret
       exact ⟨IsB.mk _, rfl⟩
    ·
     have t4 : ((i : Int) + 1 == (n : Int)) = false := beq_eq_false_iff_ne.mpr hin
     have HIN := Lib.hid hin; clear hin
     go_enter Tryz.func172, Tryz.ntmps172
     go_wp2_with fail
     go_ret
     exact ⟨IsB.mk _, rfl⟩
   ·
    have t3 : (y == 53) = false := beq_eq_false_iff_ne.mpr hy5
    have HY := Lib.hid hy5; clear hy5
    go_enter Tryz.func172, Tryz.ntmps172
    go_wp2_with fail
    go_ret
    exact ⟨IsB.mk _, rfl⟩
end Go.Proofs.YtieflhncpjjciaaGreatDoor.Dc
namespace Go.Proofs.YtieflhncpjjciaaGreatDoor.Dc
open Go Go.RowKit
inductive IsU : Ending → Prop
 | mk (x : Int) (h0 : 0 ≤ x) (h1 : x < 18446744073709551616) : IsU (.returned (.int .u64 x))
theorem u64_range (x : Int) : 0 ≤ IntKind.u64.wrap x ∧ IntKind.u64.wrap x < 18446744073709551616 := by
 simp [IntKind.wrap, IntKind.bits, IntKind.signed]; omega
set_option maxHeartbeats 2000000 in
set_option maxRecDepth 100000 in
theorem rint_any {w : World} {b : Nat} {a : List Int} {dp : Int} {ng tr : Bool} {n : Nat} (h : D w b a (n : Int) dp ng tr) (hn : Norm a n) (d1 : -1000000000 ≤ dp) (d2 : dp ≤ 1000000000) :
  Calls Tryz.prog 166 #[.pointer (some ⟨b, 0, none⟩)] w fun e w' => IsU e ∧ w' = w := by
 have c801 := h.dp_
 have c800 := h.nd_
 have CT := Lib.hid (round_any h hn d1 d2)
 have hu := Tryz.underlying191
 have H := Lib.hid h; clear h
 have HN := Lib.hid hn; clear hn
 by_cases hb : 20 < dp
 ·
  have t1 : decide (20 < dp) = true := decide_eq_true hb
  go_enter Tryz.func166, Tryz.ntmps166
  go_wp2_with fail
  go_ret
  exact ⟨.mk _ (by omega) (by omega), rfl⟩
 ·
  have t1 : decide (20 < dp) = false := decide_eq_false hb
  have hb' : dp ≤ 20 := by omega
  go_enter Tryz.func166, Tryz.ntmps166
  go_upto_block 0 with (fail)
  go_cut [3, 4] (fun v3 v4 wc => ∃ (i : Nat) (x : Int), v3 = .int .i64 (i : Int) ∧ v4 = .int .u64 x ∧ wc = w ∧ Hid (i ≤ 20) ∧ Hid (0 ≤ x ∧ x < 18446744073709551616))
  case first =>
   go_wp2_with fail
   go_loopg [3, 4] (20) (fun m v3 v4 wc => ∃ (i : Nat) (x : Int), v3 = .int .i64 (i : Int) ∧ v4 = .int .u64 x ∧ wc = w ∧ Hid (i + m = 20) ∧ Hid (0 ≤ x ∧ x < 18446744073709551616))
   case atStart => exact ⟨0, 0, rfl, rfl, rfl, Lib.hid rfl, Lib.hid ⟨by omega, by omega⟩⟩
   case round =>
    obtain ⟨i, x, rfl, rfl, rfl, hi, hx⟩ := hrel
    have i0 : 0 ≤ (i : Int) := by omega
    have i2 : (i : Int) ≤ 20 := by have := hi.out; omega
    by_cases c1 : (i : Int) < dp
    ·
     have t2 : decide ((i : Int) < dp) = true := decide_eq_true c1
     by_cases c2 : i < n
     ·
      have t3 : decide (i < n) = true := decide_eq_true c2
      have t3' : decide ((i : Int) < (n : Int)) = true := decide_eq_true (by omega)
      obtain ⟨y, hy⟩ : ∃ y, wr.cell? ⟨b, i, none⟩ = some (.int .u8 y) := ⟨_, H.out.d i (by have := HN.out.le; omega)⟩
      have i1 : (i : Int) < 800 := by have := HN.out.le; omega
      go_wp2_with fail
      go_roundg (gk - 1)
      case measure => have := hi.out; omega
      case rel => exact ⟨i + 1, _, rfl, rfl, rfl, Lib.hid (by have := hi.out; omega), Lib.hid (u64_range _)⟩
     ·
      have t3 : decide (i < n) = false := decide_eq_false c2
      have t3' : decide ((i : Int) < (n : Int)) = false := decide_eq_false (by omega)
      go_wp2_with fail
      go_meet
      exact ⟨i, x, rfl, rfl, rfl, Lib.hid (by omega), hx⟩
    ·
     have t2 : decide ((i : Int) < dp) = false := decide_eq_false c1
     go_wp2_with fail
     go_meet
     exact ⟨i, x, rfl, rfl, rfl, Lib.hid (by omega), hx⟩
  case rest =>
   obtain ⟨i, x, rfl, rfl, rfl, hi, hx⟩ := hcut
   have i00 : 0 ≤ (i : Int) := by omega
   have i20 : (i : Int) ≤ 20 := by have := hi.out; omega
   go_wp2_with fail
   go_loopg [3, 4] (20 - i) (fun m v3 v4 wd => ∃ (j : Nat) (x : Int), v3 = .int .i64 (j : Int) ∧ v4 = .int .u64 x ∧ wd = wc ∧ Hid (j + m = 20) ∧ Hid (0 ≤ x ∧ x < 18446744073709551616))
   case atStart => exact ⟨i, x, rfl, rfl, rfl, Lib.hid (by have := hi.out; omega), hx⟩
   case round =>
    obtain ⟨j, y, rfl, rfl, rfl, hj, hy⟩ := hrel
    have j0 : 0 ≤ (j : Int) := by omega
    have j2 : (j : Int) ≤ 20 := by have := hj.out; omega
    by_cases c1 : (j : Int) < dp
    ·
     have t2 : decide ((j : Int) < dp) = true := decide_eq_true c1
     go_wp2_with fail
     go_roundg (gk - 1)
     case measure => have := hj.out; omega
     case rel => exact ⟨j + 1, _, rfl, rfl, rfl, Lib.hid (by have := hj.out; omega), Lib.hid (u64_range _)⟩
    ·
     have t2 : decide ((j : Int) < dp) = false := decide_eq_false c1
     go_wp2_with (go_at_call 172; refine CT.out.mono ?_; rintro e w' ⟨⟨r⟩, rfl⟩)
     ·
      go_ret
      exact ⟨.mk _ (u64_range _).1 (u64_range _).2, rfl⟩
     ·
      go_ret
      exact ⟨.mk _ hy.out.1 hy.out.2, rfl⟩
end Go.Proofs.YtieflhncpjjciaaGreatDoor.Dc
namespace Go.Proofs.YtieflhncpjjciaaGreatDoor.Dc
open Go Go.RowKit
def jumps (J : Nat → Act → World → Prop) (Q : Exit → Act → World → Prop) : Exit → Act → World → Prop
 | .goto l, a, w => J l a w
 | e, a, w => Q e a w
theorem scope_labels {P : Program} {a : Act} {w : World} {Q : Exit → Act → World → Prop} {c : Code} (J : Nat → Act → World → Prop)
  (first : c.wp P (jumps J Q) a w)
  (pass : ∀ l a w, J l a w → ∃ rest, findLabel c l = some rest ∧ rest.wp P (jumps (fun l' a' w' => J l' a' w' ∧ l' < l) Q) a w) : (Code.scope c).wp P Q a w := by
 intro b k cs
 have key : ∀ n l a w, l = n → J l a w → ∃ rest, findLabel c l = some rest ∧ ∃ e a' w', Q e a' w' ∧ Arrives P (lone (b.at a (.code rest :: .inScope c :: k)) cs w) b k cs e a' w' := by
  intro n
  induction n using Nat.strongRecOn with
  | _ n ih =>
   intro l a w hn hJ
   obtain ⟨rest, hf, hp⟩ := pass l a w hJ
   refine ⟨rest, hf, ?_⟩
   obtain ⟨e, a₁, w₁, hq, harr⟩ := hp b (.inScope c :: k) cs
   cases e with
   | normal => exact ⟨.normal, a₁, w₁, hq, Steps.trans harr (.one step_inScope)⟩
   | exit id => exact ⟨.exit id, a₁, w₁, hq, fun k' hk => harr k' (by simp [exitTo, hk])⟩
   | goto l' =>
    obtain ⟨hJ', hlt⟩ := hq
    obtain ⟨rest₂, hf₂, e₂, a₂, w₂, hq₂, harr₂⟩ := ih l' (by omega) l' a₁ w₁ rfl hJ'
    exact ⟨e₂, a₂, w₂, hq₂, .of_steps (harr _ (by simp [gotoIn, hf₂])) harr₂⟩
   | ret => exact ⟨_, a₁, w₁, hq, harr⟩
   | panic ch => exact ⟨_, a₁, w₁, hq, harr⟩
   | outgrown => exact ⟨_, a₁, w₁, hq, harr⟩
 obtain ⟨e, a₁, w₁, hq, harr⟩ := first b (.inScope c :: k) cs
 cases e with
 | normal => exact ⟨.normal, a₁, w₁, hq, .head step_scope (Steps.trans harr (.one step_inScope))⟩
 | exit id => exact ⟨.exit id, a₁, w₁, hq, fun k' hk => .head step_scope (harr k' (by simp [exitTo, hk]))⟩
 | goto l' =>
  obtain ⟨rest₂, hf₂, e₂, a₂, w₂, hq₂, harr₂⟩ := key _ l' a₁ w₁ rfl hq
  exact ⟨e₂, a₂, w₂, hq₂, .of_steps (.head step_scope (harr _ (by simp [gotoIn, hf₂]))) harr₂⟩
 | ret => exact ⟨_, a₁, w₁, hq, .of_steps (.one step_scope) harr⟩
 | panic ch => exact ⟨_, a₁, w₁, hq, .of_steps (.one step_scope) harr⟩
 | outgrown => exact ⟨_, a₁, w₁, hq, .of_steps (.one step_scope) harr⟩
theorem list_range (l : List Value) {n : Nat} (h : l.length = n) : l = (List.range n).map fun i => l.getD i undef := by
 apply List.ext_getElem
 ·
  simp [h]
 ·
  intro i h1 h2
  simp [h1]
theorem lit243 (v : Nat → Value) : (List.range 243).map v = [v 0, v 1, v 2, v 3, v 4, v 5, v 6, v 7, v 8, v 9, v 10, v 11, v 12, v 13, v 14, v 15, v 16, v 17, v 18, v 19, v 20, v 21, v 22, v 23, v 24, v 25, v 26, v 27, v 28, v 29, v 30, v 31, v 32, v 33, v 34, v 35, v 36, v 37, v 38, v 39, v 40, v 41, v 42, v 43, v 44, v 45, v 46, v 47, v 48, v 49, v 50, v 51, v 52, v 53, v 54, v 55, v 56, v 57, v 58, v 59, v 60, v 61, v 62, v 63, v 64, v 65, v 66, v 67, v 68, v 69, v 70, v 71, v 72, v 73, v 74, v 75, v 76, v 77, v 78, v 79, v 80, v 81, v 82, v 83, v 84, v 85, v 86, v 87, v 88, v 89, v 90, v 91, v 92, v 93, v 94, v 95, v 96, v 97, v 98, v 99, v 100, v 101, v 102, v 103, v 104, v 105, v 106, v 107, v 108, v 109, v 110, v 111, v 112, v 113, v 114, v 115, v 116, v 117, v 118, v 119, v 120, v 121, v 122, v 123, v 124, v 125, v 126, v 127, v 128, v 129, v 130, v 131, v 132, v 133, v 134, v 135, v 136, v 137, v 138, v 139, v 140, v 141, v 142, v 143, v 144, v 145, v 146, v 147, v 148, v 149, v 150, v 151, v 152, v 153, v 154, v 155, v 156, v 157, v 158, v 159, v 160, v 161, v 162, v 163, v 164, v 165, v 166, v 167, v 168, v 169, v 170, v 171, v 172, v 173, v 174, v 175, v 176, v 177, v 178, v 179, v 180, v 181, v 182, v 183, v 184, v 185, v 186, v 187, v 188, v 189, v 190, v 191, v 192, v 193, v 194, v 195, v 196, v 197, v 198, v 199, v 200, v 201, v 202, v 203, v 204, v 205, v 206, v 207, v 208, v 209, v 210, v 211, v 212, v 213, v 214, v 215, v 216, v 217, v 218, v 219, v 220, v 221, v 222, v 223, v 224, v 225, v 226, v 227, v 228, v 229, v 230, v 231, v 232, v 233, v 234, v 235, v 236, v 237, v 238, v 239, v 240, v 241, v 242] := by kernel_rfl
theorem frame243 (t : Array Value) (h : t.size = 243) : ∃ v : Nat → Value, (∀ i, v i = t.getD i undef) ∧ t = #[v 0, v 1, v 2, v 3, v 4, v 5, v 6, v 7, v 8, v 9, v 10, v 11, v 12, v 13, v 14, v 15, v 16, v 17, v 18, v 19, v 20, v 21, v 22, v 23, v 24, v 25, v 26, v 27, v 28, v 29, v 30, v 31, v 32, v 33, v 34, v 35, v 36, v 37, v 38, v 39, v 40, v 41, v 42, v 43, v 44, v 45, v 46, v 47, v 48, v 49, v 50, v 51, v 52, v 53, v 54, v 55, v 56, v 57, v 58, v 59, v 60, v 61, v 62, v 63, v 64, v 65, v 66, v 67, v 68, v 69, v 70, v 71, v 72, v 73, v 74, v 75, v 76, v 77, v 78, v 79, v 80, v 81, v 82, v 83, v 84, v 85, v 86, v 87, v 88, v 89, v 90, v 91, v 92, v 93, v 94, v 95, v 96, v 97, v 98, v 99, v 100, v 101, v 102, v 103, v 104, v 105, v 106, v 107, v 108, v 109, v 110, v 111, v 112, v 113, v 114, v 115, v 116, v 117, v 118, v 119, v 120, v 121, v 122, v 123, v 124, v 125, v 126, v 127, v 128, v 129, v 130, v 131, v 132, v 133, v 134, v 135, v 136, v 137, v 138, v 139, v 140, v 141, v 142, v 143, v 144, v 145, v 146, v 147, v 148, v 149, v 150, v 151, v 152, v 153, v 154, v 155, v 156, v 157, v 158, v 159, v 160, v 161, v 162, v 163, v 164, v 165, v 166, v 167, v 168, v 169, v 170, v 171, v 172, v 173, v 174, v 175, v 176, v 177, v 178, v 179, v 180, v 181, v 182, v 183, v 184, v 185, v 186, v 187, v 188, v 189, v 190, v 191, v 192, v 193, v 194, v 195, v 196, v 197, v 198, v 199, v 200, v 201, v 202, v 203, v 204, v 205, v 206, v 207, v 208, v 209, v 210, v 211, v 212, v 213, v 214, v 215, v 216, v 217, v 218, v 219, v 220, v 221, v 222, v 223, v 224, v 225, v 226, v 227, v 228, v 229, v 230, v 231, v 232, v 233, v 234, v 235, v 236, v 237, v 238, v 239, v 240, v 241, v 242] := by
 refine ⟨fun i => t.toList.getD i undef, fun i => by simp, ?_⟩
 apply Array.toList_inj.mp
 exact (list_range t.toList (by simpa using h)).trans (lit243 _)
end Go.Proofs.YtieflhncpjjciaaGreatDoor.Dc
