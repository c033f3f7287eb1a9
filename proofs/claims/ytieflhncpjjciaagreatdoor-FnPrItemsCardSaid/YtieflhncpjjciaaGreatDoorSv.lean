/- More words of the printed walks. -/
import Derived.Test.YtieflhncpjjciaaGreatDoorSw
set_option linter.unusedVariables false
set_option linter.unusedSimpArgs false
set_option linter.unusedVariables false
set_option linter.unusedSimpArgs false
namespace Go.Proofs.YtieflhncpjjciaaGreatDoorW.PrintWords
open Go.RowKit
theorem own_slice {w : World} {base n : Nat} {e : TypeId} {size : Nat} {v : Value} {xs : List Value} (h : w.ownsRow base e size v n xs) : ∃ A c, v = .slice A n c := by
  rcases h.2 with ⟨rfl, rfl⟩ | ⟨g, cap, cur, rfl, _⟩
  · exact ⟨none, 0, rfl⟩
  · exact ⟨_, cap, rfl⟩
def bytesOf (s : ByteArray) : List Int := s.data.toList.map fun b => (b.toNat : Int)
theorem data_length (s : ByteArray) : s.data.toList.length = s.size := by rw [Array.length_toList]; rfl
theorem bytesOf_length (s : ByteArray) : (bytesOf s).length = s.size := by rw [bytesOf, List.length_map, data_length]
theorem rd_bytesOf (s : ByteArray) (i : Int) : rd (bytesOf s) i = bt s i := by
  unfold rd bt bytesOf
  split
  · rename_i h
    have h' : i.toNat < s.data.toList.length := by rw [data_length]; exact h
    simp [List.getD_eq_getElem?_getD, List.getElem?_eq_getElem h']
    rfl
  · rename_i h
    have h' : s.data.toList.length ≤ i.toNat := by rw [data_length]; omega
    simp [List.getD_eq_getElem?_getD, List.getElem?_eq_none h']
namespace Kd
theorem reads_of_C {α : Type} {enc : α → Value} {d : α} {h1 : ∀ x, (enc x).oneCell' = true} {w : World} {A : Option Addr} {n : Nat} {xs : List α} (h : (scalar enc h1).C w A n xs) : ReadsOf enc d w A n xs := by
  refine ⟨h.1, h.2.1, fun hn => ?_⟩
  obtain ⟨ad, e, hc⟩ := h.2.2 hn
  refine ⟨ad, e, fun j hj => ?_⟩
  have hl : j < xs.length := by have := h.1; omega
  obtain ⟨c, _, hK, hcell⟩ := hc j _ (List.getElem?_eq_getElem hl)
  have hK' : c = [enc xs[j]] := hK
  subst hK'
  have := hcell 0 _ rfl
  simpa [scalar, List.getD_eq_getElem?_getD, List.getElem?_eq_getElem hl] using this
end Kd
namespace Kd
section
variable {w W : World} {A : Option Addr} {n : Nat}
theorem at_int {k : IntKind} {xs : List Int} (h : (Kd.int k).C w A n xs) (i : Int) (h0 : 0 ≤ i) (h1 : i < n) : ∃ ad, A = some ad ∧ w.cell? (ad.add i.toNat) = some (.int k (rd xs i)) :=
  ReadsOf.at_ (reads_of_C (enc := Value.int k) (d := (0 : Int)) (h1 := fun _ => rfl) h) i h0 h1
variable {α : Type} {enc : α → Value} {h1 : ∀ x, (enc x).oneCell' = true} {e base g cap : Nat} {ok : Nat → Prop} {xs : List α}
end
end Kd
theorem own_take {w : World} {base n m c size : Nat} {e : TypeId} {A : Option Addr} {xs : List Value} (h : w.ownsRow base e size (.slice A n c) n xs) (hm : m ≤ n) : w.ownsRow base e size (.slice A m c) m (xs.take (m * size)) := by
  obtain ⟨h1, h2⟩ := h
  refine ⟨by rw [List.length_take, h1]; exact Nat.min_eq_left (Nat.mul_le_mul_right _ hm), ?_⟩
  rcases h2 with ⟨he, h0⟩ | ⟨g, cap, cur, he, hb, hh, hnc, hcm, hcs, ht⟩
  · injection he with ha _ hc
    subst ha; subst hc
    exact .inl ⟨by rw [show m = 0 by omega], by omega⟩
  · injection he with ha _ hc
    subst ha; subst hc
    refine .inr ⟨g, c, cur, rfl, hb, hh, by omega, hcm, hcs, ?_⟩
    rw [← ht, List.take_take, Nat.min_eq_left (Nat.mul_le_mul_right _ hm)]
section
variable {P : Program}
theorem cut_to (t e : TypeId) (kh : IntKind) {i : TypeInfo} (ht : P.underlying t = some (.slice e)) (hi : P.info? e = some i) (A : Option Addr) (n c : Nat) (j : Int) (h0 : 0 ≤ j) (hm : j ≤ n) (hc : n ≤ c) :
    ∀ W : World, (Instr.slice t (.slice A n c) none (some (.int kh j)) none).run P W = .ok (.slice A j.toNat c) W := by
  intro W
  have hel : P.elem t = e := by simp [Program.elem, ht]
  have hu : P.underlying t = some (.slice (P.elem t)) := by rw [hel]; exact ht
  have ha : (A.map fun x => x.add 0) = A := by cases A <;> simp [Addr.add]
  rw [run_slice_h W t A n c hu kh j h0 (by omega), hel]
  simp [sizeOf, typeInfo, hi, sliced, Result.andThen, ha]
end
namespace Kd
theorem reps_take {α : Type} {R : α → List Value → Prop} {size m : Nat} {ps : List α} {cs : List Value} (h : Reps R size ps cs) (hm : m ≤ ps.length) : Reps R size (ps.take m) (cs.take (m * size)) := by
  refine ⟨by rw [List.length_take, List.length_take, h.1, Nat.min_eq_left hm, Nat.min_eq_left (Nat.mul_le_mul_right _ hm)], fun j p hj => ?_⟩
  rw [List.getElem?_take] at hj
  split at hj
  · rename_i hjm
    have := h.2 j p hj
    have hle : j * size + size ≤ m * size := by rw [← Nat.succ_mul]; exact Nat.mul_le_mul_right _ hjm
    rw [List.drop_take, List.take_take, Nat.min_eq_left (by omega)]
    exact this
  · cases hj
theorem R_take {α : Type} {d : Kd α} {e m n c : Nat} {w : World} {base : Nat} {ok : Nat → Prop} {A : Option Addr} {xs : List α} (h : d.R e w base ok (.slice A n c) xs) (hm : m ≤ xs.length) : d.R e w base ok (.slice A m c) (xs.take m) := by
  obtain ⟨h0, inner, ho, hr⟩ := h
  have hn : n = xs.length := by
    obtain ⟨A', c', he⟩ := own_slice ho
    injection he
  subst hn
  have hb : ∀ x y : Nat, (Value.slice A x c).ownBlock = (Value.slice A y c).ownBlock := by
    intro x y
    cases A <;> rfl
  refine ⟨fun k hk => h0 k (by rw [hb _ m]; exact hk), inner.take (m * d.sz), ?_, ?_⟩
  · rw [List.length_take, Nat.min_eq_left hm]
    exact own_take ho hm
  · rw [hb m xs.length]
    exact reps_take hr hm
end Kd
end Go.Proofs.YtieflhncpjjciaaGreatDoorW.PrintWords
namespace Go.Proofs.YtieflhncpjjciaaGreatDoorW.PrintWords
open Go.RowKit
namespace Kd
theorem heap_int (k : IntKind) : Heap (Kd.int k) := ⟨fun _ h => h⟩
end Kd
end Go.Proofs.YtieflhncpjjciaaGreatDoorW.PrintWords
namespace Go.Proofs.YtieflhncpjjciaaGreatDoorW.PrintWords
open Go.RowKit
namespace Kd
section
variable {α : Type} {d : Kd α} {e base n c : Nat} {ok oki S S2 : Nat → Prop} {w w0 W W1 W2 : World} {v : Value} {A : Option Addr} {xs : List α} {i : Int} {cs : List Value}
theorem C_kept_came (hd : Heap d) (h : d.C w0 A n xs) (hb : Below w0.heap.size w0 W) (hS : ∀ k, S k → w0.heap.size ≤ k) : ∀ W', Kept W W' S → d.C W' A n xs := fun W' hk =>
  hd.C (fun k hlt => (hk.2 k (Nat.lt_of_lt_of_le hlt hb.size) (fun h2 => by have := hS k h2; omega)).trans (hb.block k hlt)) h
theorem C_kept_now (h : ∀ W', Kept w W' S → d.C W' A n xs) (hk : Kept w W S) : d.C W A n xs := h W hk
end
end Kd
end Go.Proofs.YtieflhncpjjciaaGreatDoorW.PrintWords
namespace Go.Proofs.YtieflhncpjjciaaGreatDoorW.PrintWords
open Go.RowKit
namespace Foot
variable {P Q : World → Prop} {W W1 : World} {ok ok' : Nat → Prop}
theorem bound (h : Foot P W ok) : Foot P W (fun k => ok k ∧ k < W.heap.size) := fun W' hW => h W' (fun k hk hlt => hW k ⟨hk, hlt⟩ hlt)
theorem old (h : Foot P W ok) (hb : Below W.heap.size W W1) : Foot P W1 (fun k => ok k ∧ k < W.heap.size) := (h.bound).step (fun k _ hlt => hb.block k hlt)
end Foot
namespace Kd
section
variable {α β : Type} {d : Kd α} {e base n n' cc g N : Nat} {ok ok' okp S : Nat → Prop} {w w0 w1 W W1 : World} {A A' : Option Addr} {u v v1 : Value} {xs : List α} {xs' : List β} {d' : Kd β} {x : α} {c : List Value}
theorem F_now (h : F d W ok A n xs) : d.C W A n xs := Foot.now h
theorem F_mono (h : F d W ok A n xs) (hok : ∀ k, ok k → ok' k) : F d W ok' A n xs := Foot.mono h hok
theorem F_elder' (h : F d W ok A n xs) (hbase : ∀ k, v.ownBlock = some k → W.heap.size ≤ k) (hb : Below W.heap.size W W1) : F d W1 (fun k => ok k ∧ some k ≠ v.ownBlock) A n xs :=
  F_mono (Foot.old h hb) (fun k hk => ⟨hk.1, fun he => by have := hbase k he.symm; have := hk.2; omega⟩)
end
end Kd
end Go.Proofs.YtieflhncpjjciaaGreatDoorW.PrintWords
namespace Go.Proofs.YtieflhncpjjciaaGreatDoorW.PrintWords
open Go.RowKit
namespace Kd
section
variable {α β : Type} {d : Kd α} {e base base' n m c g N' lo hi : Nat} {ok ok' S : Nat → Prop} {w W w1 : World} {A : Option Addr} {ad : Addr} {u v v1 : Value} {xs : List α}
theorem V_slice (h : V d e W base ok v xs) : ∃ A c, v = .slice A xs.length c := by
  obtain ⟨A, c, hv, _⟩ := h
  exact ⟨A, c, hv⟩
theorem V_at (h : V d e W base ok (.slice A n c) xs) : n = xs.length ∧ n ≤ c ∧ F d W ok A xs.length xs := by
  obtain ⟨A', c', hv, hl, hf⟩ := h
  injection hv with ha hn hc
  subst ha; subst hc
  exact ⟨hn, by rw [hn]; exact hl, hf⟩
theorem V_reads' (h : V d e W base ok (.slice A n c) xs) : n = xs.length ∧ n ≤ c ∧ d.C W A xs.length xs := ⟨(V_at h).1, (V_at h).2.1, F_now (V_at h).2.2⟩
theorem V_lower (h : V d e W base ok v xs) (_ : base' ≤ base) : V d e W base' ok v xs := h
theorem V_elder' (h : V d e W base ok v xs) (hbase : ∀ k, u.ownBlock = some k → W.heap.size ≤ k) (hb : Below W.heap.size W w1) : V d e w1 base (fun k => ok k ∧ some k ≠ u.ownBlock) v xs := V_map h (fun _ hf => F_elder' hf hbase hb)
end
end Kd
end Go.Proofs.YtieflhncpjjciaaGreatDoorW.PrintWords
set_option linter.unusedVariables false
namespace Go.Proofs.YtieflhncpjjciaaGreatDoorW.PrintWords
open Go.RowKit
namespace Kd
section
variable {P : Program} {ops : Array Oper} {rest : List Oper} {o : Oper} {a : Act} {Q : Exit → Act → World → Prop} {Kc : Act → World → Prop}
theorem R_make0 {α : Type} (d : Kd α) {w0 W : World} (base e : Nat) (hgd : o.guard = none) {N : Tmp} (_hd : o.dst = some N) (t : TypeId) (x y : Operand) (ho : o.op = .makeSlice t x y) (n : Int) (hx : a.eval x = .int .i64 0) (hy : a.eval y = .int .i64 n)
    (ht : P.underlying t = some (.slice e)) (z : Value) (bytes : Nat) (hinfo : (P.info? e).map (fun i => (i.zero, i.size, i.bytes)) = some (some z, d.sz, bytes)) (hz : z.cells.size = d.sz) (hs0 : 0 < d.sz) (hb0 : 0 < bytes)
    {ok : Nat → Prop} (hfresh : ok W.heap.size) (h0 : 0 ≤ n) (hl : n.toNat * bytes ≤ 281474976710656) (HB : Below base w0 W) (hbase : base ≤ W.heap.size)
    (h : ∀ v1 w1, d.R e w1 base ok v1 [] → Below base w0 w1 → W.grownBy w1 none → (∃ b, v1.ownBlock = some b ∧ W.heap.size ≤ b) → wpList P ops Q rest (a.put o.dst v1) w1) : wpList P ops Q (o :: rest) a W := by
  obtain ⟨m, rfl⟩ := Int.eq_ofNat_of_zero_le h0
  simp only [Int.toNat_natCast] at hl
  obtain ⟨i0, hi, hzz⟩ := Option.map_eq_some_iff.1 hinfo
  simp only [Prod.mk.injEq] at hzz
  obtain ⟨hz0, hz1, hz2⟩ := hzz
  have hm : m ≤ 281474976710656 := Nat.le_trans (Nat.le_mul_of_pos_right _ hb0) hl
  have hr := run_make (P := P) W t e i0 z ht hi hz0 .i64 .i64 0 (m : Int) (by omega) (by omega)
    (by
      have h3 : ((i0.bytes * m : Nat) : Int) ≤ 281474976710656 := by rw [hz2, Nat.mul_comm]; omega
      rwa [Int.natCast_mul] at h3) (by omega)
  simp only [Int.toNat_natCast, Int.toNat_zero] at hr
  rw [hz1] at hr
  have hrun : (execOp a.eval o).run P W = .ok (.value (.slice (some ⟨W.heap.size, 0, none⟩) 0 m)) (W.alloc (.cells (madeCells z.cells (m * d.sz)) e)) := by simp [execOp, ho, hx, hy, hr]
  refine event_run hgd hrun (h _ _ ⟨fun k hk => ?_, [], ⟨by simp, .inr ⟨W.heap.size, m, _, rfl, hbase, heap_alloc_new W _, Nat.zero_le _, by simp only [maxLen]; omega, by simp [size_madeCells], by simp⟩⟩, ⟨by simp, fun j p hj => by simp at hj⟩⟩ (HB.alloc hbase _) (World.grownBy_alloc W _ none) ⟨W.heap.size, by simp [Value.ownBlock], Nat.le_refl _⟩)
  have : W.heap.size = k := by simpa [Value.ownBlock] using hk
  subst this
  exact hfresh
theorem V_bytes {w0 W : World} (base e : Nat) (hgd : o.guard = none) {N : Tmp} (_hd : o.dst = some N) (src t : TypeId) (x : Operand) (ho : o.op = .convert src t x) (s : ByteArray) (hx : a.eval x = .string s)
    (hs : P.underlying src = some .string) (ht : P.underlying t = some (.slice e)) (he : P.underlying e = some (.int .u8)) (hl : s.size ≤ 9223372036854775807)
    {ok : Nat → Prop} (hok : ok W.heap.size) (HB : Below base w0 W) (hbase : base ≤ W.heap.size)
    (h : ∀ v1 w1, V (Kd.int .u8) e w1 base ok v1 (bytesOf s) → Below base w0 w1 → W.grownBy w1 none → (∃ b, v1.ownBlock = some b ∧ W.heap.size ≤ b) → wpList P ops Q rest (a.put o.dst v1) w1) : wpList P ops Q (o :: rest) a W := by
  have hr := Lib.run_convert_string_bytes (P := P) W src t e s hs ht he
  have hrun : (execOp a.eval o).run P W = .ok (.value (.slice (some ⟨W.heap.size, 0, none⟩) s.size (grownCap W s.size 0 e))) (Lib.bytesWorld W e s) := by simp [execOp, ho, hx, hr]
  have hsz := Lib.bytesWorld_size W e s
  have hbl : Below W.heap.size W (Lib.bytesWorld W e s) := by
    exact ⟨rfl, rfl, rfl, by rw [hsz]; omega, fun j hj => Lib.bytesWorld_at_old W e s j hj⟩
  refine event_run hgd hrun (h _ _ ⟨some ⟨W.heap.size, 0, none⟩, grownCap W s.size 0 e, by rw [bytesOf_length], by rw [bytesOf_length]; exact grownCap_ge W s.size 0 e, ?_⟩ ?_ ?_ ⟨W.heap.size, by simp [Value.ownBlock], Nat.le_refl _⟩)
  · intro W' hW
    have hb := hW W.heap.size hok (by rw [hsz]; omega)
    refine ⟨rfl, by rw [bytesOf_length]; exact hl, fun _ => ⟨_, rfl, fun j p hp => ⟨[.int .u8 p], rfl, rfl, fun i u hu => ?_⟩⟩⟩
    obtain ⟨rfl, rfl⟩ : i = 0 ∧ Value.int .u8 p = u := by
      rcases i with _ | i
      · exact ⟨rfl, by simpa using hu⟩
      · simp at hu
    have hj : j < s.size := by have := (List.getElem?_eq_some_iff.1 hp).1; rwa [bytesOf_length] at this
    have hc := Lib.bytesWorld_cell W e s j hj
    have hp2 : p = ((s.data.toList.getD j 0).toNat : Int) := by
      have h2 : j < s.data.toList.length := by simpa using hj
      simp only [bytesOf, List.getElem?_map, List.getElem?_eq_getElem h2, Option.map_some, Option.some.injEq] at hp
      rw [← hp, List.getD_eq_getElem?_getD, List.getElem?_eq_getElem h2, Option.getD_some]
    have ha : (⟨W.heap.size, 0, none⟩ : Addr).add (j * 1 + 0) = ⟨W.heap.size, j, none⟩ := by rw [Nat.mul_one, Nat.add_zero]; exact add_plain _ _
    rw [show (Kd.int IntKind.u8).sz = 1 from rfl, ha, World.cell?_of_block (a := ⟨W.heap.size, j, none⟩) hb, hc, hp2]
  · exact HB.trans (hbl.mono hbase)
  · exact ⟨hbl.os, hbl.tape, hbl.output, hbl.size, fun k hk _ => hbl.block k hk⟩
end
end Kd
end Go.Proofs.YtieflhncpjjciaaGreatDoorW.PrintWords
