/- Walks and plain laws of this claim. -/
import Derived.Test.YtieflhncpjjciaaGreatDoorBwF
import Derived.Test.YtieflhncpjjciaaGreatDoorBwG
import Derived.Test.YtieflhncpjjciaaGreatDoorBwE
import Derived.Test.YtieflhncpjjciaaGreatDoorBwC
import Derived.Deep.MidRow
import Derived.Deep.RegionHeld3
import Derived.Test.YtieflhncpjjciaaGreatDoorRows
import Derived.LaidMore
import Derived.Lib.LaidTab
import Derived.OpenShut
import Derived.Test.YtieflhncpjjciaaGreatDoorBwA
set_option maxHeartbeats 8000000
set_option maxRecDepth 100000
set_option linter.unusedVariables false
set_option linter.unusedSimpArgs false
namespace Go.Proofs.YtieflhncpjjciaaGreatDoor.PFnGjSquashItems
open Go Go.RowKit Go.Proofs.YtieflhncpjjciaaGreatDoorW.PrintWords Go.Proofs.YtieflhncpjjciaaGreatDoor.Dc
structure Win (s u : ByteArray) (i o n : Nat) : Prop where
  b : ∀ k, k < n → bt u ((o + k : Nat) : Int) = bt s ((i + k : Nat) : Int)
  zs : i + n ≤ s.size
  zu : o + n ≤ u.size
theorem Win.sub {s u : ByteArray} {i o n : Nat} (h : Win s u i o n) (a m : Nat) (ha : a + m ≤ n) : Win s u (i + a) (o + a) m :=
  ⟨fun k hk => by have := h.b (a + k) (by omega); rwa [← Nat.add_assoc, ← Nat.add_assoc] at this, by have := h.zs; omega, by have := h.zu; omega⟩
theorem Win.at {s u : ByteArray} {i o n : Nat} (h : Win s u i o n) {x : Nat} (h1 : i ≤ x) (h2 : x < i + n) : bt u ((o + (x - i) : Nat) : Int) = bt s (x : Int) := by
  have := h.b (x - i) (by omega)
  rwa [show i + (x - i) = x by omega] at this
theorem Win.odd {s u : ByteArray} {i o n : Nat} (h : Win s u i o n) : ∀ p, p ≤ n → PFnGjSquashItems.odd u o (o + p) = PFnGjSquashItems.odd s i (i + p) := by
  have z : ∀ (s : ByteArray) (i : Nat), PFnGjSquashItems.odd s i (i + 0) = false := fun s i => by
    cases i with
    | zero => rfl
    | succ i => show PFnGjSquashItems.odd s (i + 1) (i + 1) = false; rw [PFnGjSquashItems.odd, if_neg (by omega)]
  intro p
  induction p with
  | zero => intro _; rw [z, z]
  | succ p ih =>
    intro hp
    show PFnGjSquashItems.odd u o (o + p + 1) = PFnGjSquashItems.odd s i (i + p + 1)
    rw [PFnGjSquashItems.odd, PFnGjSquashItems.odd, ih (by omega), h.b p (by omega)]
    by_cases hc : i < i + p ∧ bt s ((i + p : Nat) : Int) = 92
    · rw [if_pos hc, if_pos ⟨by omega, hc.2⟩]
    · rw [if_neg hc, if_neg (fun h2 => hc ⟨by omega, h2.2⟩)]
theorem Win.tk {s u : ByteArray} {i o n E : Nat} (h : Win s u i o n) (hE : E ≤ i + n) : ∀ x, Tk s E x → i ≤ x → Tk u (o + (E - i)) (o + (x - i)) := by
  intro x k
  induction k with
  | nil => intro _; exact .nil
  | @plain x hi c32 c34 c92 r ih =>
    intro ho
    have hb := h.at ho (by omega)
    have := ih (by omega)
    exact .plain (by omega) (by rw [hb]; exact c32) (by rw [hb]; exact c34) (by rw [hb]; exact c92) (by rw [show o + (x - i) + 1 = o + (x + 1 - i) by omega]; exact this)
  | @esc x j h92 hj hje r ih =>
    intro ho
    have hij : x + 1 < j := by rcases hj with ⟨h, _⟩ | ⟨h, _⟩ <;> omega
    have hjE : j ≤ E := hje
    have := ih (by omega)
    refine .esc (j := o + (j - i)) (by rw [h.at ho (by omega)]; exact h92) ?_ (by omega) this
    have e1 : o + (x - i) + 1 = o + (x + 1 - i) := by omega
    rcases hj with ⟨a1, a2⟩ | ⟨a1, a2, a3⟩
    · exact Or.inl ⟨by omega, by rw [e1, h.at (by omega) (by omega)]; exact a2⟩
    · refine Or.inr ⟨by omega, by rw [e1, h.at (by omega) (by omega)]; exact a2, fun q q1 q2 => ?_⟩
      have := h.at (x := i + (q - o)) (by omega) (by omega)
      rw [show o + (i + (q - o) - i) = q by omega] at this
      rw [this]
      exact a3 _ (by omega) (by omega)
theorem Win.str0 {s u : ByteArray} {i o n : Nat} (h : Win s u i o n) (k : StrTok0 s i (i + n)) : StrTok0 u o (o + n) := by
  obtain ⟨h1, h2, h3, h4, h5, h6⟩ := k
  have g0 := h.b 0 (by omega)
  have g1 := h.b (n - 1) (by omega)
  rw [Nat.add_zero, Nat.add_zero] at g0
  have e : o + n - 1 = o + (n - 1) := by omega
  have e' : i + n - 1 = i + (n - 1) := by omega
  rw [e'] at h4 h5 h6
  refine ⟨by omega, h.zu, by rw [g0]; exact h3, by rw [e, g1]; exact h4, by rw [e, h.odd _ (by omega)]; exact h5, fun q q1 q2 q3 => ?_⟩
  obtain ⟨k, rfl⟩ : ∃ k, q = o + k := ⟨q - o, by omega⟩
  rw [h.odd k (by omega)]
  exact h6 (i + k) (by omega) (by omega) (by rw [← h.b k (by omega)]; exact q3)
theorem Win.str {s u : ByteArray} {i o n : Nat} (h : Win s u i o n) (k : StrTok s i (i + n)) : StrTok u o (o + n) := by
  have h1 := k.1.1
  refine ⟨h.str0 k.1, ?_⟩
  have := h.tk (E := i + n - 1) (by omega) _ k.2 (by omega)
  rwa [show o + (i + n - 1 - i) = o + n - 1 by omega, show o + (i + 1 - i) = o + 1 by omega] at this
end Go.Proofs.YtieflhncpjjciaaGreatDoor.PFnGjSquashItems
namespace Go.Proofs.YtieflhncpjjciaaGreatDoor.Dc
open Go Go.RowKit Go.Proofs.YtieflhncpjjciaaGreatDoorW.PrintWords Go.Proofs.YtieflhncpjjciaaGreatDoor.PFnGjSquashItems
theorem rng_set {w : World} {b : Nat} {cs : List Value} (h : w.rangeAt b 0 cs) (i : Nat) (v : Value) (hi : i < cs.length) : (w.setCell ⟨b, i, none⟩ v).rangeAt b 0 (cs.set i v) := by
 intro j u hu
 have hc := h i _ (List.getElem?_eq_getElem hi)
 rw [Nat.zero_add] at hc ⊢
 rw [List.getElem?_set] at hu
 split at hu
 ·
  rename_i e
  subst e
  try rw [if_pos hi] at hu
  obtain rfl := Option.some.inj hu
  exact World.cell?_setCell_same _ _ _ hc
 ·
  rename_i e
  rw [World.cell?_setCell_other _ _ _ _ (fun h => e (by injection h))]
  have := h j u hu
  rwa [Nat.zero_add] at this
theorem rng_oth {w : World} {b : Nat} {cs : List Value} (h : w.rangeAt b 0 cs) (b' i : Nat) (v : Value) (hne : b' ≠ b) : (w.setCell ⟨b', i, none⟩ v).rangeAt b 0 cs := by
 intro j u hu
 rw [World.cell?_setCell_other _ _ _ _ (fun h => hne (by injection h))]
 exact h j u hu
theorem rng_dn {w : World} {b : Nat} {cs : List Value} (h : w.rangeAt b 0 cs) (n : Nat) : (w.drewN n).rangeAt b 0 cs := fun j u hu => h j u hu
theorem rng_d {w : World} {b : Nat} {cs : List Value} (h : w.rangeAt b 0 cs) : w.drew.rangeAt b 0 cs := fun j u hu => h j u hu
theorem rng_al {w : World} {b : Nat} {cs : List Value} (h : w.rangeAt b 0 cs) (o : Obj) : (w.alloc o).rangeAt b 0 cs := World.rangeAt_alloc h o
theorem rng_b {w w' : World} {b : Nat} {cs : List Value} (h : w.rangeAt b 0 cs) (hb : Below w.heap.size w w') : w'.rangeAt b 0 cs := fun j u hu => cellB hb (h j u hu)
theorem thr_set {w : World} {b n : Nat} (h : w.there b 0 n) (a : Addr) (v : Value) : (w.setCell a v).there b 0 n := by
 intro j hj
 obtain ⟨h1, h2⟩ := h j hj
 obtain ⟨u, hu⟩ := Option.isSome_iff_exists.1 h1
 refine ⟨?_, by rw [World.frozen?_setCell]; exact h2⟩
 by_cases e : a = ⟨b, 0 + j, none⟩
 ·
  subst e; rw [World.cell?_setCell_same _ _ _ hu]; rfl
 ·
  rw [World.cell?_setCell_other _ _ _ _ e, hu]; rfl
theorem thr_dn {w : World} {b m : Nat} (h : w.there b 0 m) (n : Nat) : (w.drewN n).there b 0 m := fun j hj => h j hj
theorem thr_d {w : World} {b m : Nat} (h : w.there b 0 m) : w.drew.there b 0 m := fun j hj => h j hj
theorem thr_b {w w' : World} {b n : Nat} (h : w.there b 0 n) (hb : Below w.heap.size w w') : w'.there b 0 n := by
 intro j hj
 obtain ⟨h1, h2⟩ := h j hj
 obtain ⟨u, hu⟩ := Option.isSome_iff_exists.1 h1
 exact ⟨by rw [cellB hb hu]; rfl, frozB hb hu h2⟩
theorem Below.drewNs {B : Nat} {a w : World} (h : Below B a w) (n : Nat) : Below B a (w.drewN n) := ⟨h.os, h.tape, h.output, h.size, h.block⟩
theorem Below.cellsN {B : Nat} {a : World} {b : Nat} (hb : B ≤ b) : ∀ (vs : List Value) (o : Nat) (w : World), Below B a w → Below B a (w.setCells b o vs)
 | [], _, _, h => h
 | v :: r, o, w, h => by
  rw [World.setCells]
  exact Below.cellsN hb r (o + 1) _ (h.setCell (p := ⟨b, o, none⟩) hb v)
theorem rng_new (w : World) (cs : List Value) (t : TypeId) : (w.alloc (Obj.cells cs.toArray t)).rangeAt w.heap.size 0 cs := by
 intro j u hu
 rw [cell_of_row _ _ _ cs.toArray t _ (heap_alloc_new w _)]
 simpa using hu
theorem thr_new (w : World) (cs : List Value) (t : TypeId) : (w.alloc (Obj.cells cs.toArray t)).there w.heap.size 0 cs.length := by
 intro j hj
 refine ⟨?_, Yy15⟩
 rw [rng_new w cs t j _ (List.getElem?_eq_getElem hj)]; rfl
theorem thr_al {w : World} {b n : Nat} (h : w.there b 0 n) (o : Obj) : (w.alloc o).there b 0 n := World.there_alloc h o
def Z6 : List Value := [.int .i64 0, .string ⟨#[]⟩, .string ⟨#[]⟩, .float .f64 0, .int .i64 0, .slice none 0 0]
theorem RV.row (r : RV) : r.val = .agg #[.int .i64 r.k, .string r.raw, .string r.str, .float .f64 r.q, .int .i64 r.ix, .slice none 0 0] := rfl
theorem take_d {P : Program} {ops : Array Oper} {Q : Exit → Act → World → Prop} {md : Region.Mode} {S : World → Prop} {i : Nat} {oi : Oper} {v : Value} {fuel : Nat} {listed : Array Bool} {a : Act} {w : World} (d : Option Tmp) (hi : ops[i]? = some oi) (hd : oi.dst = d)
  (hs : Region.noSelect ops = true) (hf : Region.free md ops listed i = true) (hr : (Region.ready md ops listed).contains i = true)
  (hQ : ∀ c a w, Q (.panic c) (a.put d v) w → Q (.panic c) a w) (hy : YieldsIf P ops S oi v a) (hS : S w)
  (h : wpAnyH P md ops Q S fuel (listed.setIfInBounds i true) (a.put d v) w) : wpAnyH P md ops Q S (fuel + 1) listed a w := by
 subst hd
 exact wpAnyH_take hi hs hf hr hQ hy hS h
theorem cons_d {P : Program} {ops : Array Oper} {Q : Exit → Act → World → Prop} {md : Region.Mode} {S : World → Prop} {fuel : Nat} {listed : Array Bool} {a : Act} {w : World} {i : Nat} {o : Oper} {rs : List Nat} (d : Option Tmp) (ho : ops[i]? = some o) (hd : o.dst = d)
  (h : ∀ K' : Act → World → Prop, Shut (∀ a w, S w → (S w → wpAnyH P md ops Q S fuel (listed.setIfInBounds i true) a w) → K' a w) → if Region.wanted o (yielded ops a.tmps) = true then Oper.wp P o a w K' Q else K' (a.put d undef) w)
  (hs : AllReadyH P md ops Q S fuel listed a w rs) : AllReadyH P md ops Q S fuel listed a w (i :: rs) := by
 subst hd
 exact AllReadyH.cons ho h hs
theorem store_d {P : Program} {op : Oper} {a : Act} {w : World} {K : Act → World → Prop} {Q : Exit → Act → World → Prop} (hd : op.dst = none) (ty : TypeId) (x y : Operand) (ho : op.op = .store ty x y)
  (b o : Nat) (cells : Array Value) (hx : a.eval x = .pointer (some ⟨b, o, none⟩)) (hy : a.eval y = .agg cells)
  (ht : w.there b o cells.size) (hi : (P.info? ty).map (·.size) = some cells.size) (h1 : cells.all (·.oneCell') = true)
  (h : K a (w.setCells b o cells.toList)) : op.wp P a w K Q :=
 wp_store_mid ty x y ho b o cells hx hy ht hi h1 (by rw [hd]; exact h)
theorem of_drawn0 {w w' : World} (h : Drawn0 w w') : ∃ n, w' = w.drewN n := h.out
theorem str_call {s : ByteArray} (hs : s.size ≤ 65536) {i j : Nat} (h : StrTok0 s i j) : ∃ ve, (ve = false → ∀ p : Nat, i + 1 ≤ p → p < j - 1 → bt s (p : Int) ≠ 92) ∧ ∀ w : World, Calls Tryz.prog 60 #[.string s, .int .i64 ((i + 1 : Nat) : Int)] w fun e w' => e = .returned (.tuple #[.int .i64 (j : Int), .string (s.extract i j), .bool ve, .bool true]) ∧ ∃ n, w' = w.drewN n := by
 obtain ⟨ve, hv, k, hk⟩ := str_ev' hs h
 exact ⟨ve, hv, fun w => (gjson_parseString.calls k _ _ _ _ _ _ w (hk k (nlr _))).mono fun _ _ ⟨a, b⟩ => ⟨a, of_drawn0 b⟩⟩
theorem num_call {s : ByteArray} (hs : s.size ≤ 65536) {i j : Nat} (hij : i < j) (hj : j ≤ s.size) (hn : ∀ q, i ≤ q → q < j → numOK (bt s (q : Int))) (he : NumEnd s j) (w : World) : Calls Tryz.prog 79 #[.string s, .int .i64 (i : Int)] w fun e w' => e = .returned (.tuple #[.int .i64 (j : Int), .string (s.extract i j)]) ∧ ∃ n, w' = w.drewN n := by
 obtain ⟨k, hk⟩ := num_ev hs hij hj hn he
 exact (gjson_parseNumber.calls k _ _ _ _ w (hk k (nlr _))).mono fun _ _ ⟨a, b⟩ => ⟨a, of_drawn0 b⟩
theorem lit_call {s : ByteArray} (hs : s.size ≤ 65536) {i j : Nat} (hij : i < j) (hj : j ≤ s.size) (hn : ∀ q, i ≤ q → q < j → 97 ≤ bt s (q : Int) ∧ bt s (q : Int) ≤ 122) (he : NumEnd s j) (w : World) : Calls Tryz.prog 78 #[.string s, .int .i64 (i : Int)] w fun e w' => e = .returned (.tuple #[.int .i64 (j : Int), .string (s.extract i j)]) ∧ ∃ n, w' = w.drewN n := by
 obtain ⟨k, hk⟩ := lit_ev hs hij hj hn he
 exact (gjson_parseLiteral.calls k _ _ _ _ w (hk k (nlr _))).mono fun _ _ ⟨a, b⟩ => ⟨a, of_drawn0 b⟩
structure MS (w : World) (b0 : Nat) : Prop where
 ts : TS w b0
 vc : VC w
theorem MS.below {w w' : World} {b0 : Nat} (h : MS w b0) (hb : Below b0 w w') : MS w' b0 := by
 have h10 := h.ts.tb.lc.ten
 exact ⟨h.ts.below hb, fun c hc => (hb.cell (p := ⟨0, c, none⟩) (by show 0 < b0; omega)).trans (h.vc c hc)⟩
def KStr (u str : ByteArray) : Prop := ∃ O, Un u 0 O ∧ str = strOfNums O
def gkd (kd : Int) : Int := if kd = 0 then 0 else if kd = 1 then 1 else if kd = 2 then 4 else if kd = 3 then 2 else if kd = 4 then 3 else 5
def AnyPost (s : ByteArray) (kd : Int) (v j : Nat) (w : World) (e : Ending) (w' : World) : Prop :=
 ∃ (q ix : Nat) (str : ByteArray), e = .returned (.tuple #[.int .i64 (j : Int), RV.val ⟨gkd kd, s.extract v j, str, q, (ix : Int)⟩, .bool true]) ∧ ix ≤ s.size ∧ (kd = 4 → KStr (s.extract (v + 1) (j - 1)) str) ∧ (kd ≠ 4 → str = ⟨#[]⟩) ∧ Below w.heap.size w w'
noncomputable abbrev trd (w : World) (fuel : Nat) (t : TypeId) (cs : List Value) := DataW.trod (H := Unit) (fun _ => ()) Tryz.prog w 0 (fun _ => true) false fuel t cs
theorem laid_get {P : Program} {W : World} {l : List (String × DataW Unit)} {ps : List MemPlace} (h : DataW.LaidVars P W l ps) {n : String} {d : DataW Unit} (hm : (n, d) ∈ l) : ∃ g t cs fuel p, P.globalNamed n = some g ∧ (P.globals[g]?).map (·.type) = some t ∧ W.var? P n = some cs ∧ DataW.trod (fun _ => ()) P W 0 (fun _ => true) false fuel t cs.toList = some (d, p) := by
 induction l generalizing ps with
 | nil => cases hm
 | cons x l ih =>
  obtain ⟨n0, d0⟩ := x
  obtain ⟨g, t, cs, fuel, p, q, h1, h2, h3, h4, h5, _⟩ := h
  rcases List.mem_cons.mp hm with e | hm
  ·
   cases e; exact ⟨g, t, cs, fuel, p, h1, h2, h3, h4⟩
  ·
   exact ih h5 hm
theorem laid_at {W : World} {l : List (String × DataW Unit)} {ps : List MemPlace} (h : DataW.LaidVars Tryz.prog W l ps) {n : String} {d : DataW Unit} (hm : (n, d) ∈ l) (g t : Nat) (hg : Tryz.prog.globalNamed n = some g) (ht : (Tryz.prog.globals[g]?).map (·.type) = some t) : ∃ cs fuel p, trd W fuel t cs = some (d, p) ∧ ∀ i : Nat, W.cell? ⟨g, i, none⟩ = cs[i]? := by
 obtain ⟨g', t', cs, fuel, p, h1, h2, h3, h4⟩ := laid_get h hm
 obtain rfl := Option.some.inj (hg.symm.trans h1)
 obtain rfl := Option.some.inj (ht.symm.trans h2)
 exact ⟨cs.toList, fuel, p, h4, fun i => by rw [World.var?_cell hg h3 i, Array.getElem?_toList]⟩
theorem trod_float {w : World} {fuel t : Nat} {k : FloatKind} {cs : List Value} {x : DataW Unit × List MemPlace} (ht : Tryz.prog.underlying t = some (.float k)) (h : trd w fuel t cs = some x) : ∃ b, cs = [.float k b] ∧ x = (.lit (.float k b), []) := by
 cases fuel with
 | zero => simp [DataW.trod] at h
 | succ n =>
  unfold DataW.trod at h
  rw [ht] at h
  split at h <;> simp_all
theorem trod_ifc {w : World} {fuel t : Nat} {m : Array (String × TypeId)} {cs : List Value} {s : String} {d : DataW Unit} {p : List MemPlace} (ht : Tryz.prog.underlying t = some (.interface m)) (h : trd w fuel t cs = some (.iface s d, p)) : ∃ u v, cs = [.iface u v] := by
 cases fuel with
 | zero => simp [DataW.trod] at h
 | succ n =>
  unfold DataW.trod at h
  rw [ht] at h
  split at h <;> simp_all
theorem spot_none {w : World} {a : Addr} {v : Value} (h : w.cell? a = some v) : a = ⟨a.block, a.off, none⟩ := by
 obtain ⟨b, o, s⟩ := a
 unfold World.cell? at h
 cases s with
 | none => rfl
 | some s =>
  split at h <;> simp at h
theorem add_plain (b o i : Nat) : (⟨b, o, none⟩ : Addr).add i = ⟨b, o + i, none⟩ := by
 unfold Addr.add
 split
 ·
  rename_i h; rw [h]; rfl
 ·
  rfl
theorem slice_cells {w : World} {fuel t e n : Nat} {cs : List Value} {ds : List (DataW Unit)} {p : List MemPlace} (ht : Tryz.prog.underlying t = some (.slice e)) (hc : Tryz.prog.cellsOf e = n) (hn : 1 ≤ n) (hd : 1 ≤ ds.length) (h : trd w fuel t cs = some (.slice ds [], p)) :
  ∃ lb lo c m, cs = [.slice (some ⟨lb, lo, none⟩) ds.length c] ∧ lb < w.heap.size ∧ ∀ (i : Nat) (d : DataW Unit), ds[i]? = some d → ∃ q vs, trd w m e vs = some (d, q) ∧ vs.length = n ∧ ∀ (j : Nat) (v : Value), vs[j]? = some v → w.cell? ⟨lb, lo + i * n + j, none⟩ = some v := by
 rcases DataW.trod_slice ht h with ⟨_, hx⟩ | ⟨a, len, cap, elems, rest, m, _, hcs, hx, _, hl, _, hlen, hel, _⟩
 ·
  simp at hx
 ·
  simp only [Prod.mk.injEq, DataW.slice.injEq] at hx
  obtain ⟨⟨rfl, _⟩, _⟩ := hx
  have el : (elems.map (·.1)).length = len := by simpa using hlen
  rw [hc] at hel
  have key : ∀ (i : Nat) (d : DataW Unit), (elems.map (·.1))[i]? = some d → ∃ q vs, trd w m e vs = some (d, q) ∧ vs.length = n ∧ ∀ (j : Nat) (v : Value), vs[j]? = some v → w.cell? ((a.add (i * n)).add j) = some v := by
   intro i d hid
   have hi : i < len := by rw [← el]; exact (List.getElem?_eq_some_iff.1 hid).1
   have hE := hel i hi
   rw [List.getElem?_map] at hid
   cases hy : elems[i]? with
   | none => simp [hy] at hid
   | some y =>
    rw [hy] at hE hid
    simp only [Option.map_some, Option.some.injEq] at hid
    simp only [Option.bind_eq_some_iff] at hE
    obtain ⟨vs, hv, hy1⟩ := hE
    unfold World.cells? at hv
    rw [if_pos (Nat.zero_le _)] at hv
    have hvl : vs.length = n := by simpa using Lib.mapM_length hv
    refine ⟨y.2, vs, by rw [← hid]; exact hy1, hvl, fun j v hj => ?_⟩
    have hjn : j < n := by rw [← hvl]; exact (List.getElem?_eq_some_iff.1 hj).1
    obtain ⟨b, hb, hf⟩ := Lib.mapM_at hv j j (by simp [hjn])
    rw [hj] at hb
    cases hb
    exact hf
  obtain ⟨d0, hd0⟩ : ∃ d0, (elems.map (·.1))[0]? = some d0 := ⟨_, List.getElem?_eq_getElem hd⟩
  obtain ⟨_, vs0, _, hv0, hc0⟩ := key 0 d0 hd0
  obtain ⟨v0, hv00⟩ : ∃ v0, vs0[0]? = some v0 := ⟨_, List.getElem?_eq_getElem Yy0⟩
  have ha := hc0 0 v0 hv00
  rw [Nat.zero_mul] at ha
  have ha' : w.cell? a = some v0 := by simpa [Addr.add] using ha
  have hap := spot_none ha'
  refine ⟨a.block, a.off, cap, m, by rw [hcs, el, ← hap], blo w _ ha', fun i d hid => ?_⟩
  obtain ⟨q, vs, h1, h2, h3⟩ := key i d hid
  refine ⟨q, vs, h1, h2, fun j v hj => ?_⟩
  have := h3 j v hj
  rw [hap, add_plain, add_plain] at this
  exact this
theorem one_cell {l : List Value} (h : l.length = 1) : ∃ v, l = [v] := by
 match l, h with
 | [v], _ => exact ⟨v, rfl⟩
theorem struct2 {w : World} {fuel t : Nat} {cs : List Value} {f0 f1 : Field} {d0 d1 : DataW Unit} {p : List MemPlace} (ht : Tryz.prog.underlying t = some (.struct #[f0, f1])) (o0 : f0.offset = 0) (o1 : f1.offset = 1) (c0 : Tryz.prog.cellsOf f0.type = 1) (c1 : Tryz.prog.cellsOf f1.type = 1) (ct : Tryz.prog.cellsOf t = 2) (h : trd w fuel t cs = some (.agg [d0, d1], p)) :
  ∃ v0 v1 m q0 q1, cs = [v0, v1] ∧ trd w m f0.type [v0] = some (d0, q0) ∧ trd w m f1.type [v1] = some (d1, q1) := by
 obtain ⟨xs, n, _, hx, hl, hxl, hf⟩ := DataW.trod_struct ht h
 have hf0 := hf 0 f0 rfl
 have hf1 := hf 1 f1 rfl
 rw [o0, c0] at hf0
 rw [o1, c1] at hf1
 rw [ct] at hl
 match cs, hl, xs, hxl with
 | [v0, v1], _, [x0, x1], _ =>
  injection hx with hx _
  injection hx with hx
  injection hx with e0 hx
  injection hx with e1 _
  exact ⟨v0, v1, n, x0.2, x1.2, rfl, by rw [e0]; exact hf0, by rw [e1]; exact hf1⟩
theorem struct3 {w : World} {fuel t : Nat} {cs : List Value} {f0 f1 f2 : Field} {d0 d1 d2 : DataW Unit} {p : List MemPlace} (ht : Tryz.prog.underlying t = some (.struct #[f0, f1, f2])) (o0 : f0.offset = 0) (o1 : f1.offset = 1) (o2 : f2.offset = 2) (c0 : Tryz.prog.cellsOf f0.type = 1) (c1 : Tryz.prog.cellsOf f1.type = 1) (c2 : Tryz.prog.cellsOf f2.type = 1) (ct : Tryz.prog.cellsOf t = 3) (h : trd w fuel t cs = some (.agg [d0, d1, d2], p)) :
  ∃ v0 v1 v2 m q0 q1 q2, cs = [v0, v1, v2] ∧ trd w m f0.type [v0] = some (d0, q0) ∧ trd w m f1.type [v1] = some (d1, q1) ∧ trd w m f2.type [v2] = some (d2, q2) := by
 obtain ⟨xs, n, _, hx, hl, hxl, hf⟩ := DataW.trod_struct ht h
 have hf0 := hf 0 f0 rfl
 have hf1 := hf 1 f1 rfl
 have hf2 := hf 2 f2 rfl
 rw [o0, c0] at hf0
 rw [o1, c1] at hf1
 rw [o2, c2] at hf2
 rw [ct] at hl
 match cs, hl, xs, hxl with
 | [v0, v1, v2], _, [x0, x1, x2], _ =>
  injection hx with hx _
  injection hx with hx
  injection hx with e0 hx
  injection hx with e1 hx
  injection hx with e2 _
  exact ⟨v0, v1, v2, n, x0.2, x1.2, x2.2, rfl, by rw [e0]; exact hf0, by rw [e1]; exact hf1, by rw [e2]; exact hf2⟩
theorem int_lit {w : World} {fuel t : Nat} {k : IntKind} {v : Value} {z : Int} {q : List MemPlace} (ht : Tryz.prog.underlying t = some (.int k)) (h : trd w fuel t [v] = some (.lit (.int k z), q)) : v = .int k z ∧ (Lit.int k z).wf = true := by
 obtain ⟨n, h1, h2, h3⟩ := DataW.trod_int ht h
 injection h1 with h1 _
 injection h2 with h2 _
 injection h2 with h2
 injection h2 with _ h2
 subst h2
 exact ⟨h1, h3⟩
theorem str_lit {w : World} {fuel t : Nat} {v : Value} {l : List UInt8} {q : List MemPlace} (ht : Tryz.prog.underlying t = some .string) (h : trd w fuel t [v] = some (.lit (.string l), q)) : v = .string ⟨l.toArray⟩ := by
 obtain ⟨s, h1, h2, _⟩ := DataW.trod_string ht h
 injection h1 with h1 _
 injection h2 with h2 _
 injection h2 with h2
 injection h2 with h2
 rw [h1, h2]
variable {W : World} {l : List (String × DataW Unit)} {ps : List MemPlace}
theorem vc_laid (h : DataW.LaidVars Tryz.prog W l ps) (hm : ("pub-tetrapla/pub/gjson.vchars", Rows.laid_pub_tetrapla_pub_gjson_vchars) ∈ l) : VC W := by
 obtain ⟨cs, fuel, p, h1, h2⟩ := laid_at h hm 0 133 Yy1 Yy1
 have e : (Rows.laid_pub_tetrapla_pub_gjson_vchars : DataW Unit) = Lib.tabData .u8 ((List.range 256).map fun c : Nat => vch (c : Int)) := Yy1
 rw [e] at h1
 have hc := Lib.cells_of_tab (n := 256) (e := 5) Tryz.underlying133 Tryz.underlying5 Yy1 Yy1 h1
 intro c hc256
 rw [h2, hc]
 simp [hc256]
theorem op_laid (h : DataW.LaidVars Tryz.prog W l ps) (hm : ("internal/strconv.optimize", Rows.laid_internal_strconv_optimize) ∈ l) : W.cell? ⟨4, 0, none⟩ = some (.bool true) := by
 obtain ⟨cs, fuel, p, h1, h2⟩ := laid_at h hm 4 4 Yy1 Yy1
 obtain ⟨b, h3, h4⟩ := DataW.trod_bool Tryz.underlying4 h1
 injection h4 with h4 _
 injection h4 with h4
 injection h4 with h4
 rw [h2, h3, ← h4]
 rfl
theorem fi_laid (h : DataW.LaidVars Tryz.prog W l ps) (hm : ("internal/strconv.float64info", Rows.laid_internal_strconv_float64info) ∈ l) : W.cell? ⟨5, 0, none⟩ = some (.int .u64 52) ∧ W.cell? ⟨5, 1, none⟩ = some (.int .u64 11) ∧ W.cell? ⟨5, 2, none⟩ = some (.int .i64 (-1023)) := by
 obtain ⟨cs, fuel, p, h1, h2⟩ := laid_at h hm 5 182 Yy1 Yy1
 obtain ⟨v0, v1, v2, m, q0, q1, q2, rfl, a0, a1, a2⟩ := struct3 Tryz.underlying182 rfl rfl rfl Yy1 Yy1 Yy1 Yy1 h1
 rw [h2, h2, h2, (int_lit Yy1 a0).1, (int_lit Yy1 a1).1, (int_lit Yy1 a2).1]
 exact ⟨rfl, rfl, rfl⟩
theorem pw_laid (h : DataW.LaidVars Tryz.prog W l ps) (hm : ("internal/strconv.powtab", Rows.laid_internal_strconv_powtab) ∈ l) : ∃ lb lo c : Nat, lb < W.heap.size ∧ W.cell? ⟨7, 0, none⟩ = some (.slice (some ⟨lb, lo, none⟩) 9 c) ∧ ∀ i, i < 9 → ∃ z : Nat, W.cell? ⟨lb, lo + i, none⟩ = some (.int .i64 (z : Int)) ∧ 1 ≤ z ∧ z ≤ 27 := by
 obtain ⟨cs, fuel, p, h1, h2⟩ := laid_at h hm 7 59 Yy1 Yy1
 have e : (Rows.laid_internal_strconv_powtab : DataW Unit) = .slice (([1, 3, 6, 9, 13, 16, 19, 23, 26] : List Nat).map fun z : Nat => .lit (.int .i64 (z : Int))) [] := Yy1
 rw [e] at h1
 obtain ⟨lb, lo, c, m, rfl, hlt, hel⟩ := slice_cells (n := 1) Tryz.underlying59 Yy1 Yy0 Yy3 h1
 refine ⟨lb, lo, c, hlt, by rw [h2]; rfl, fun i hi => ?_⟩
 obtain ⟨z, hz⟩ : ∃ z, ([1, 3, 6, 9, 13, 16, 19, 23, 26] : List Nat)[i]? = some z := ⟨_, List.getElem?_eq_getElem hi⟩
 have hb : ∀ z ∈ ([1, 3, 6, 9, 13, 16, 19, 23, 26] : List Nat), 1 ≤ z ∧ z ≤ 27 := Yy2
 have hzb := hb z (List.mem_of_getElem? hz)
 obtain ⟨q, vs, h3, h4, h5⟩ := hel i (.lit (.int .i64 (z : Int))) (by rw [List.getElem?_map, hz]; rfl)
 obtain ⟨v, rfl⟩ := one_cell h4
 refine ⟨z, ?_, hzb⟩
 have := h5 0 v rfl
 rw [Nat.mul_one, Nat.add_zero] at this
 rw [this, (int_lit Tryz.underlying3 h3).1]
theorem fp_laid (h : DataW.LaidVars Tryz.prog W l ps) (hm : ("internal/strconv.float64pow10", Rows.laid_internal_strconv_float64pow10) ∈ l) : ∃ lb lo c : Nat, lb < W.heap.size ∧ W.cell? ⟨8, 0, none⟩ = some (.slice (some ⟨lb, lo, none⟩) 23 c) ∧ ∀ i, i < 23 → ∃ f : Nat, W.cell? ⟨lb, lo + i, none⟩ = some (.float .f64 f) := by
 obtain ⟨cs, fuel, p, h1, h2⟩ := laid_at h hm 8 218 Yy1 Yy1
 obtain ⟨ds, hds, hdl⟩ : ∃ ds : List (DataW Unit), (Rows.laid_internal_strconv_float64pow10 : DataW Unit) = .slice ds [] ∧ ds.length = 23 := ⟨_, rfl, rfl⟩
 rw [hds] at h1
 obtain ⟨lb, lo, c, m, rfl, hlt, hel⟩ := slice_cells (n := 1) Tryz.underlying218 Yy1 Yy0 Yy0 h1
 refine ⟨lb, lo, c, hlt, by rw [h2, hdl]; rfl, fun i hi => ?_⟩
 obtain ⟨d, hd⟩ : ∃ d, ds[i]? = some d := ⟨_, List.getElem?_eq_getElem Yy0⟩
 obtain ⟨q, vs, h3, h4, h5⟩ := hel i d hd
 obtain ⟨b, h6, _⟩ := trod_float Tryz.underlying32 h3
 subst h6
 have := h5 0 _ rfl
 rw [Nat.mul_one, Nat.add_zero] at this
 exact ⟨b, this⟩
theorem lc_laid (h : DataW.LaidVars Tryz.prog W l ps) (hm : ("internal/strconv.leftcheats", Rows.laid_internal_strconv_leftcheats) ∈ l) : LC W W.heap.size := by
 obtain ⟨cs, fuel, p, h1, h2⟩ := laid_at h hm 10 234 Yy1 Yy1
 have e : (Rows.laid_internal_strconv_leftcheats : DataW Unit) = .slice (Pinned.cheatRows.map fun x => .agg [.lit (.int .i64 x.1), .lit (.string x.2)]) [] := Yy1
 have hl : Pinned.cheatRows.length = 61 := Yy1
 rw [e] at h1
 obtain ⟨lb, lo, c, m, rfl, hlt, hel⟩ := slice_cells (n := 2) Tryz.underlying234 Yy1 Yy0 (by simp [hl]) h1
 have h10 : W.cell? ⟨10, 0, none⟩ = some (.slice (some ⟨lb, lo, none⟩) 61 c) := by rw [h2]; simp [hl]
 refine ⟨blo W _ h10, lb, lo, c, hlt, h10, fun i hi => ?_⟩
 obtain ⟨x, hx⟩ : ∃ x, Pinned.cheatRows[i]? = some x := ⟨_, List.getElem?_eq_getElem Yy0⟩
 have hc : cheat i = x := by unfold cheat; rw [List.getD_eq_getElem?_getD, hx]; rfl
 obtain ⟨q, vs, h3, h4, h5⟩ := hel i _ (by rw [List.getElem?_map, hx]; rfl)
 obtain ⟨v0, v1, m2, q0, q1, rfl, a0, a1⟩ := struct2 Tryz.underlying233 rfl rfl Yy1 Yy1 Yy1 h3
 have g0 := h5 0 v0 rfl
 rw [Nat.add_zero] at g0
 rw [hc, g0, h5 1 v1 rfl, (int_lit Yy1 a0).1, str_lit Yy1 a1]
 exact ⟨rfl, rfl⟩
theorem er_laid (h : DataW.LaidVars Tryz.prog W l ps) (hm : ("strconv.ErrSyntax", Rows.laid_strconv_ErrSyntax) ∈ l) : ∃ t v, W.cell? ⟨1, 0, none⟩ = some (.iface t v) := by
 obtain ⟨cs, fuel, p, h1, h2⟩ := laid_at h hm 1 117 Yy1 Yy1
 obtain ⟨u, v, rfl⟩ := trod_ifc Tryz.underlying117 h1
 exact ⟨u, v, by rw [h2]; rfl⟩
theorem er2_laid (h : DataW.LaidVars Tryz.prog W l ps) (hm : ("strconv.ErrRange", Rows.laid_strconv_ErrRange) ∈ l) : ∃ t v, W.cell? ⟨2, 0, none⟩ = some (.iface t v) := by
 obtain ⟨cs, fuel, p, h1, h2⟩ := laid_at h hm 2 117 Yy1 Yy1
 obtain ⟨u, v, rfl⟩ := trod_ifc Tryz.underlying117 h1
 exact ⟨u, v, by rw [h2]; rfl⟩
theorem u64_wf {z : Int} (h : (Lit.int .u64 z).wf = true) : 0 ≤ z ∧ z < 18446744073709551616 := by
 simp [Lit.wf, IntKind.min, IntKind.max, IntKind.signed, IntKind.bits] at h
 omega
theorem pt_laid (h : DataW.LaidVars Tryz.prog W l ps) (hm : ("internal/strconv.pow10Tab", Rows.laid_internal_strconv_pow10Tab) ∈ l) : ∀ i, i < 696 → ∃ y z : Int, W.cell? ⟨9, i * 2, none⟩ = some (.int .u64 y) ∧ W.cell? ⟨9, i * 2 + 1, none⟩ = some (.int .u64 z) ∧ 0 ≤ y ∧ y < 18446744073709551616 ∧ 0 ≤ z ∧ z < 18446744073709551616 := by
 obtain ⟨cs, fuel, p, h1, h2⟩ := laid_at h hm 9 223 Yy1 Yy1
 have e : (Rows.laid_internal_strconv_pow10Tab : DataW Unit) = .agg (Pinned.pow10Rows.map fun x => .agg [.lit (.int .u64 x.1), .lit (.int .u64 x.2)]) := Yy1
 have hl : Pinned.pow10Rows.length = 696 := Yy1
 rw [e] at h1
 obtain ⟨xs, m, _, hx, hcl, hxl, hf⟩ := DataW.trod_array Tryz.underlying223 h1
 injection hx with hx _
 injection hx with hx
 intro i hi
 obtain ⟨x, hxi⟩ : ∃ x, Pinned.pow10Rows[i]? = some x := ⟨_, List.getElem?_eq_getElem Yy0⟩
 have hg := congrArg (·[i]?) hx
 simp only [List.getElem?_map, hxi, Option.map_some] at hg
 obtain ⟨y, hy⟩ : ∃ y, xs[i]? = some y := ⟨_, List.getElem?_eq_getElem Yy0⟩
 rw [hy] at hg
 have hfi := hf i hi
 rw [hy] at hfi
 injection hg with hg
 obtain ⟨y1, y2⟩ := y
 have hg' : y1 = .agg [.lit (.int .u64 x.1), .lit (.int .u64 x.2)] := hg.symm
 subst hg'
 obtain ⟨v0, v1, m2, q0, q1, hcs, a0, a1⟩ := struct2 Tryz.underlying222 rfl rfl Yy1 Yy1 Yy1 hfi
 have c2 : Tryz.prog.cellsOf 222 = 2 := Yy1
 rw [c2] at hcs
 have g0 : cs[i * 2]? = some v0 := by
  have := congrArg (·[0]?) hcs
  simpa [List.getElem?_take, List.getElem?_drop] using this
 have g1 : cs[i * 2 + 1]? = some v1 := by
  have := congrArg (·[1]?) hcs
  simpa [List.getElem?_take, List.getElem?_drop] using this
 obtain ⟨r0, s0⟩ := int_lit (k := .u64) Yy1 a0
 obtain ⟨r1, s1⟩ := int_lit (k := .u64) Yy1 a1
 refine ⟨_, _, by rw [h2, g0, r0], by rw [h2, g1, r1], (u64_wf s0).1, (u64_wf s0).2, (u64_wf s1).1, (u64_wf s1).2⟩
theorem Ev.uniq {α : Type} {g : Nat → Option α} {a b : α} (h : Ev g a) (k : Ev g b) : a = b := by
 obtain ⟨K1, h1⟩ := h
 obtain ⟨K2, h2⟩ := k
 have e1 := h1 (max K1 K2) (Nat.le_max_left _ _)
 have e2 := h2 (max K1 K2) (Nat.le_max_right _ _)
 rw [e1] at e2
 exact Option.some.inj e2
theorem enc_sur {n : Int} (h : 55296 ≤ n) (k : n ≤ 57343) : Lib.encodeRuneZ n = [239, 191, 189] := by
 unfold Lib.encodeRuneZ
 rw [if_neg Yy0, if_neg Yy0, if_neg Yy0, if_neg Yy0]
theorem enc_len (n : Int) : (Lib.encodeRuneZ n).length ≤ 4 := by
 unfold Lib.encodeRuneZ
 repeat' split
 all_goals simp
theorem high_v (n : Int) : spec_high.f n = some (decide (55296 ≤ n ∧ n ≤ 56319)) := by
 unfold spec_high.f
 by_cases h : 55296 ≤ n
 ·
  rw [if_pos h]; simp [h]
 ·
  rw [if_neg h]; simp [h]
theorem low_v (n : Int) : spec_low.f n = some (decide (56320 ≤ n ∧ n ≤ 57343)) := by
 unfold spec_low.f
 by_cases h : 56320 ≤ n
 ·
  rw [if_pos h]; simp [h]
 ·
  rw [if_neg h]; simp [h]
theorem app8_enc (l : List Int) (hl : l.length ≤ 1000000) (n : Int) (h0 : 0 ≤ n) (h1 : n ≤ 1114111) : Ev (fun k => spec_appendUTF8.f k l n) (l ++ Lib.encodeRuneZ n) := by
 have td : ∀ k : Int, Int.tdiv n k = n / k := fun k => Int.tdiv_eq_ediv_of_nonneg h0
 have tm : ∀ k : Int, Int.tmod n k = n % k := fun k => Int.tmod_eq_emod_of_nonneg h0
 by_cases a1 : n < 128
 ·
  rw [Lib.encodeRuneZ_one h0 Yy0]
  exact Ev.is (fun k => by rw [spec_appendUTF8.f, if_pos a1, if_pos Yy0, Int.emod_eq_of_lt h0 Yy0])
 by_cases a2 : n < 2048
 ·
  rw [Lib.encodeRuneZ_two Yy0 Yy0]
  have e1 : (wrap64 (192 + (wrap64 (Int.tdiv n 64)))) % 256 = 192 + n / 64 := by rw [td, w64 (x := n / 64) Yy0 Yy0, w64 Yy0 Yy0]; omega
  have e2 : (wrap64 (128 + (Int.tmod n 64))) % 256 = 128 + n % 64 := by rw [tm, w64 Yy0 Yy0]; omega
  exact Ev.is (fun k => by rw [spec_appendUTF8.f, if_neg a1, if_pos a2]; simp only [Option.bind_some]; rw [if_pos Yy16, e1, e2])
 have j0t : Ev (fun k => spec_appendUTF8.j0 k l n true) (l ++ [239, 191, 189]) := Ev.step (f := fun _ => some (l ++ [239, 191, 189])) (fun k => Yy79) (Ev.now _)
 by_cases a3 : 55296 ≤ n ∧ n ≤ 57343
 ·
  rw [enc_sur a3.1 a3.2]
  by_cases a4 : n ≤ 56319
  ·
   exact Ev.congr (fun k => by rw [spec_appendUTF8.f, if_neg a1, if_neg a2, high_v, dtt ⟨a3.1, a4⟩]; rfl) j0t
  ·
   exact Ev.congr (fun k => by rw [spec_appendUTF8.f, if_neg a1, if_neg a2, high_v, dff Yy0]; show (spec_low.f n).bind _ = _; rw [low_v, dtt ⟨Yy0, a3.2⟩]; rfl) j0t
 have go : ∀ {r}, Ev (fun k => spec_appendUTF8.j0 k l n false) r → Ev (fun k => spec_appendUTF8.f k l n) r := fun h => Ev.congr (fun k => by rw [spec_appendUTF8.f, if_neg a1, if_neg a2, high_v, dff Yy0]; show (spec_low.f n).bind _ = _; rw [low_v, dff Yy0]; rfl) h
 have e3 : (wrap64 (128 + (Int.tmod n 64))) % 256 = 128 + n % 64 := by rw [tm, w64 Yy0 Yy0]; omega
 have e2 : (wrap64 (128 + (Int.tmod (wrap64 (Int.tdiv n 64)) 64))) % 256 = 128 + n / 64 % 64 := by
  rw [td, w64 (x := n / 64) Yy0 Yy0, Int.tmod_eq_emod_of_nonneg Yy0, w64 Yy0 Yy0]; omega
 by_cases a5 : n < 65536
 ·
  rw [Lib.encodeRuneZ_three Yy0]
  have e1 : (wrap64 (224 + (wrap64 (Int.tdiv n 4096)))) % 256 = 224 + n / 4096 := by rw [td, w64 (x := n / 4096) Yy0 Yy0, w64 Yy0 Yy0]; omega
  exact go (Ev.step (f := fun _ => some _) (fun k => by rw [spec_appendUTF8.j0, if_neg Yy3, if_pos a5]; simp only [Option.bind_some]; rw [if_pos Yy16, e1, e2, e3]) (Ev.now _))
 ·
  have h4 : Lib.encodeRuneZ n = [240 + n / 262144, 128 + n / 4096 % 64, 128 + n / 64 % 64, 128 + n % 64] := by
   unfold Lib.encodeRuneZ
   rw [if_neg Yy0, if_neg Yy0, if_neg Yy0, if_pos Yy0]
  rw [h4]
  have e0 : (wrap64 (240 + (wrap64 (Int.tdiv n 262144)))) % 256 = 240 + n / 262144 := by rw [td, w64 (x := n / 262144) Yy0 Yy0, w64 Yy0 Yy0]; omega
  have e1 : (wrap64 (128 + (Int.tmod (wrap64 (Int.tdiv n 4096)) 64))) % 256 = 128 + n / 4096 % 64 := by
   rw [td, w64 (x := n / 4096) Yy0 Yy0, Int.tmod_eq_emod_of_nonneg Yy0, w64 Yy0 Yy0]; omega
  exact go (Ev.step (f := fun _ => some _) (fun k => by rw [spec_appendUTF8.j0, if_neg Yy3, if_neg a5]; simp only [Option.bind_some]; rw [if_pos Yy16, e0, e1, e2, e3]) (Ev.now _))
inductive Pdd (s : ByteArray) (e : Nat) : Nat → Prop
 | nil : Pdd s e e
 | plain {p : Nat} (h : p < e) (c : bt s (p : Int) ≠ 92) (r : Pdd s e (p + 1)) : Pdd s e p
 | short {p : Nat} (h : p + 2 ≤ e) (c : bt s (p : Int) = 92) (nu : ¬ UEsc s p) (r : Pdd s e (p + 2)) : Pdd s e p
 | uni {p : Nat} (h : p + 6 ≤ e) (u : UEsc s p) (hn : ¬ (55296 ≤ hexN s (p + 2) 4 ∧ hexN s (p + 2) 4 ≤ 57343)) (r : Pdd s e (p + 6)) : Pdd s e p
 | pair {p : Nat} (h : p + 12 ≤ e) (u : UEsc s p) (u2 : UEsc s (p + 6)) (hh : 55296 ≤ hexN s (p + 2) 4 ∧ hexN s (p + 2) 4 ≤ 56319) (hl : 56320 ≤ hexN s (p + 8) 4 ∧ hexN s (p + 8) 4 ≤ 57343) (r : Pdd s e (p + 12)) : Pdd s e p
def PdAt (s : ByteArray) (p : Nat) : Prop := Ev (fun k => spec_Paired.l0 k s (p : Int)) true
theorem PdAt.plain {s : ByteArray} (hn : s.size ≤ 65536) {p : Nat} (hp : p < s.size) (c : bt s (p : Int) ≠ 92) (h : PdAt s p) : PdAt s (p + 1) := by
 obtain ⟨b, hb⟩ := paired_l hn _ (p + 1) (nlr _) Yy0
 have e1 : wrap64 ((p : Int) + 1) = ((p + 1 : Nat) : Int) := Yy68
 have : Ev (fun k => spec_Paired.l0 k s (p : Int)) b := Ev.step (fun k => by rw [spec_Paired.l0, if_pos Yy0, if_pos Yy0, if_neg c, e1]) hb
 rw [Ev.uniq this h] at hb
 exact hb
theorem pd_run {s : ByteArray} (hn : s.size ≤ 65536) {e : Nat} (hes : e ≤ s.size) (he : bt s (e : Int) ≠ 92) : ∀ m p, e - p ≤ m → p ≤ e → Tk s e p → PdAt s p → Pdd s e p ∧ PdAt s e := by
 intro m
 induction m with
 | zero =>
  intro p hm hp _ h
  obtain rfl : p = e := Yy0
  exact ⟨.nil, h⟩
 | succ m ih =>
  intro p hm hpe ht h
  rcases eol hpe with rfl | hlt
  ·
   exact ⟨.nil, h⟩
  have hp : p < s.size := Yy0
  have e1 : wrap64 ((p : Int) + 1) = ((p + 1 : Nat) : Int) := Yy68
  have e2 : wrap64 ((p : Int) + 2) = ((p + 2 : Nat) : Int) := Yy68
  have e6 : wrap64 ((p : Int) + 6) = ((p + 6 : Nat) : Int) := Yy68
  have e12 : wrap64 ((p : Int) + 12) = ((p + 12 : Nat) : Int) := Yy68
  by_cases h92 : bt s (p : Int) = 92
  ·
   obtain ⟨j, hj, hje, hr⟩ := ht.inv92 hlt h92
   obtain ⟨n, ok, hu, hiff, hnv⟩ := unit_ev hn p Yy0
   cases ok with
   | false =>
    have nu : ¬ UEsc s p := fun hU => by have := hiff.mpr hU; cases this
    have hj2 : j = p + 2 := by
     rcases hj with ⟨rfl, _⟩ | ⟨rfl, h117, hx⟩
     ·
      rfl
     ·
      exact absurd ⟨Yy0, h92, h117, fun q hq => hx (p + 2 + q) Yy0 Yy0⟩ nu
    subst hj2
    obtain ⟨b, hb⟩ := paired_l hn _ (p + 2) (nlr _) Yy0
    have : Ev (fun k => spec_Paired.l0 k s (p : Int)) b := Ev.step (fun k => Yy70) (Ev.two hu (Ev.congr (fun k => if_neg Bool.false_ne_true) (Ev.congr (fun k => by rw [e2]) hb)))
    rw [Ev.uniq this h] at hb
    obtain ⟨a1, a2⟩ := ih (p + 2) Yy0 hje hr hb
    exact ⟨.short hje h92 nu a1, a2⟩
   | true =>
    have hU := hiff.mp rfl
    have hv := hnv rfl
    have hj6 : j = p + 6 := by
     rcases hj with ⟨rfl, hs⟩ | ⟨rfl, h117, hx⟩
     ·
      have := hU.2.2.1; omega
     ·
      rfl
    subst hj6
    by_cases hh : 55296 ≤ n ∧ n ≤ 56319
    ·
     obtain ⟨n2, ok2, hu2, hiff2, hnv2⟩ := unit_ev hn (p + 6) Yy0
     have st : ∀ {b}, Ev (fun k => if (n2, ok2).2 = true then ((spec_low.f (n2, ok2).1).bind fun t392 => (if t392 = true then (spec_Paired.l0 k s ((p + 12 : Nat) : Int)) else (some false))) else (some false)) b → Ev (fun k => spec_Paired.l0 k s (p : Int)) b := fun h =>
      Ev.step (fun k => Yy70) (Ev.two hu (Ev.congr (fun k => if_pos rfl) (Ev.two (Ev.is fun _ => (high_v n).trans (by rw [dtt hh])) (Ev.congr (fun k => if_pos rfl) (Ev.congr (fun k => by rw [e6, e12]) (Ev.two hu2 h))))))
     cases ok2 with
     | false => exact absurd (Ev.uniq h (st (Ev.congr (fun k => if_neg Bool.false_ne_true) (Ev.now _)))) Yy2
     | true =>
      have hU2 := hiff2.mp rfl
      have hv2 := hnv2 rfl
      by_cases hl : 56320 ≤ n2 ∧ n2 ≤ 57343
      ·
       obtain ⟨b, hb⟩ := paired_l hn _ (p + 12) (nlr _) (by have := hU2.1; omega)
       have := st (Ev.congr (fun k => if_pos rfl) (Ev.two (Ev.is fun _ => (low_v n2).trans (by rw [dtt hl])) (Ev.congr (fun k => if_pos rfl) hb)))
       rw [Ev.uniq this h] at hb
       have hlt6 : p + 6 < e := by
        rcases eol hje with h6 | h6
        ·
         rw [← h6] at he; exact absurd hU2.2.1 he
        ·
         exact h6
       obtain ⟨j2, hj2, hje2, hr2⟩ := hr.inv92 hlt6 hU2.2.1
       have hj12 : j2 = p + 12 := by
        rcases hj2 with ⟨rfl, hs⟩ | ⟨rfl, h117, hx⟩
        ·
         have := hU2.2.2.1; omega
        ·
         rfl
       subst hj12
       obtain ⟨a1, a2⟩ := ih (p + 12) Yy0 hje2 hr2 hb
       exact ⟨.pair hje2 hU hU2 (by rw [← hv]; exact hh) (by rw [show p + 8 = p + 6 + 2 from Yy0, ← hv2]; exact hl) a1, a2⟩
      ·
       exact absurd (Ev.uniq h (st (Ev.congr (fun k => if_pos rfl) (Ev.two (Ev.is fun _ => (low_v n2).trans (by rw [dff hl])) (Ev.congr (fun k => if_neg Bool.false_ne_true) (Ev.now _)))))) Yy2
    ·
     have st : ∀ {b2 : Bool} {b}, spec_low.f n = some b2 → Ev (fun k => if b2 = true then (some false) else (spec_Paired.l0 k s ((p + 6 : Nat) : Int))) b → Ev (fun k => spec_Paired.l0 k s (p : Int)) b := fun hb2 h =>
      Ev.step (fun k => Yy70) (Ev.two hu (Ev.congr (fun k => if_pos rfl) (Ev.two (Ev.is fun _ => (high_v n).trans (by rw [dff hh])) (Ev.congr (fun k => if_neg Bool.false_ne_true) (Ev.congr (fun k => by rw [e6]) (Ev.two (Ev.is fun _ => hb2) h))))))
     by_cases hl : 56320 ≤ n ∧ n ≤ 57343
     ·
      exact absurd (Ev.uniq h (st (b2 := true) ((low_v n).trans (by rw [dtt hl])) (Ev.congr (fun k => if_pos rfl) (Ev.now _)))) Yy2
     ·
      obtain ⟨b, hb⟩ := paired_l hn _ (p + 6) (nlr _) Yy0
      have := st (b2 := false) ((low_v n).trans (by rw [dff hl])) (Ev.congr (fun k => if_neg Bool.false_ne_true) hb)
      rw [Ev.uniq this h] at hb
      obtain ⟨a1, a2⟩ := ih (p + 6) Yy0 hje hr hb
      exact ⟨.uni hje hU (by rw [← hv]; omega) a1, a2⟩
  ·
   have hr : Tk s e (p + 1) := by
    cases ht with
    | nil => omega
    | plain _ _ _ _ r => exact r
    | esc h _ _ _ => exact absurd h h92
   obtain ⟨a1, a2⟩ := ih (p + 1) Yy0 Yy0 hr (h.plain hn hp h92)
   exact ⟨.plain hlt h92 a1, a2⟩
theorem pd_str {s : ByteArray} (hn : s.size ≤ 65536) {i j : Nat} (h : StrTok s i j) (hp : PdAt s i) : Pdd s (j - 1) (i + 1) ∧ PdAt s j := by
 have h1 := h.1.1
 have h2 := h.1.2.1
 have q0 := h.1.2.2.1
 have q1 := h.1.2.2.2.1
 have p1 := hp.plain hn Yy0 (by rw [q0]; decide)
 obtain ⟨a1, a2⟩ := pd_run hn Yy0 (by rw [q1]; decide) _ (i + 1) (nlr _) Yy0 h.2 p1
 have := a2.plain hn Yy0 (by rw [q1]; decide)
 rw [show j - 1 + 1 = j from Yy0] at this
 exact ⟨a1, this⟩
theorem hexN_win {s u : ByteArray} {a e : Nat} (hw : ∀ x, a ≤ x → x < e → bt u ((x - a : Nat) : Int) = bt s (x : Int)) {p : Nat} (ha : a ≤ p) : ∀ k, p + k ≤ e → hexN u (p - a) k = hexN s p k := by
 intro k
 induction k with
 | zero => intro _; rfl
 | succ k ih =>
  intro hk
  show hexN u (p - a) k * 16 + hexV (bt u ((p - a + k : Nat) : Int)) = hexN s p k * 16 + hexV (bt s ((p + k : Nat) : Int))
  rw [ih Yy0, ← hw (p + k) Yy0 Yy0, show p + k - a = p - a + k from Yy0]
theorem uesc_win {s u : ByteArray} {a e : Nat} (hw : ∀ x, a ≤ x → x < e → bt u ((x - a : Nat) : Int) = bt s (x : Int)) (hz : u.size = e - a) (hes : e ≤ s.size) {p : Nat} (ha : a ≤ p) (hae : a ≤ e) : UEsc u (p - a) ↔ (UEsc s p ∧ p + 6 ≤ e) := by
 constructor
 ·
  intro h
  have h6 := h.1
  have hpe : p + 6 ≤ e := Yy0
  refine ⟨⟨Yy0, by rw [← hw p ha Yy0]; exact h.2.1, ?_, fun q hq => ?_⟩, hpe⟩
  ·
   rw [← hw (p + 1) Yy0 Yy0, show p + 1 - a = p - a + 1 from Yy0]; exact h.2.2.1
  ·
   have := h.2.2.2 q hq
   rw [← hw (p + 2 + q) Yy0 Yy0, show p + 2 + q - a = p - a + 2 + q from Yy0]; exact this
 ·
  intro ⟨h, hpe⟩
  refine ⟨Yy0, by rw [hw p ha Yy0]; exact h.2.1, ?_, fun q hq => ?_⟩
  ·
   rw [show p - a + 1 = p + 1 - a from Yy0, hw (p + 1) Yy0 Yy0]; exact h.2.2.1
  ·
   have := h.2.2.2 q hq
   rw [show p - a + 2 + q = p + 2 + q - a from Yy0, hw (p + 2 + q) Yy0 Yy0]; exact this
theorem Pdd.win {s u : ByteArray} {a e : Nat} (hw : ∀ x, a ≤ x → x < e → bt u ((x - a : Nat) : Int) = bt s (x : Int)) (hz : u.size = e - a) (hes : e ≤ s.size) (hae : a ≤ e) {p : Nat} (h : Pdd s e p) : a ≤ p → Pdd u u.size (p - a) := by
 induction h with
 | nil => intro _; rw [← hz]; exact .nil
 | @plain p h c r ih =>
  intro ha
  have := ih Yy0
  rw [show p + 1 - a = p - a + 1 from Yy0] at this
  exact .plain Yy0 (by rw [hw p ha h]; exact c) this
 | @short p h c nu r ih =>
  intro ha
  have := ih Yy0
  rw [show p + 2 - a = p - a + 2 from Yy0] at this
  exact .short Yy0 (by rw [hw p ha Yy0]; exact c) (fun hU => nu ((uesc_win hw hz hes ha hae).mp hU).1) this
 | @uni p h u hn r ih =>
  intro ha
  have := ih Yy0
  rw [show p + 6 - a = p - a + 6 from Yy0] at this
  refine .uni Yy0 ((uesc_win hw hz hes ha hae).mpr ⟨u, h⟩) ?_ this
  rw [show p - a + 2 = p + 2 - a from Yy0, hexN_win hw Yy0 4 Yy0]
  exact hn
 | @pair p h u u2 hh hl r ih =>
  intro ha
  have := ih Yy0
  rw [show p + 12 - a = p - a + 12 from Yy0] at this
  refine .pair Yy0 ((uesc_win hw hz hes ha hae).mpr ⟨u, Yy0⟩) ?_ ?_ ?_ this
  ·
   rw [show p - a + 6 = p + 6 - a from Yy0]
   exact (uesc_win hw hz hes Yy0 hae).mpr ⟨u2, Yy0⟩
  ·
   rw [show p - a + 2 = p + 2 - a from Yy0, hexN_win hw Yy0 4 Yy0]
   exact hh
  ·
   rw [show p - a + 8 = p + 8 - a from Yy0, hexN_win hw Yy0 4 Yy0]
   exact hl
theorem short_v (c : Int) : spec_short.f c = some (shortB c) := by
 unfold spec_short.f shortB
 repeat' split
 all_goals first | rfl | omega
theorem sur_of {n : Int} : isSur n = true ↔ (55296 ≤ n ∧ n ≤ 57343) := by
 unfold isSur
 simp only [Bool.and_eq_true, decide_eq_true_eq]
 omega
theorem dec_run {u : ByteArray} (hn : u.size ≤ 65536) {p : Nat} (hd : Pdd u u.size p) : ∀ o, Un u p o → ∀ x : List Int, x.length + 4 * (u.size - p) ≤ 300000 → Ev (fun k => spec_Unquote.l0 k x u (p : Int)) (strOfNums (x ++ o)) := by
 induction hd with
 | nil =>
  intro o h x hx
  have ho : o = [] := by
   cases h with
   | nil => rfl
   | plain h _ _ _ => omega
   | short h _ _ _ => omega
   | uni h _ _ _ _ _ => omega
   | pair h _ _ _ _ _ _ _ _ => omega
   | lone h _ _ _ _ _ _ => omega
  subst ho
  rw [List.append_nil]
  exact Ev.step (f := fun _ => some (strOfNums x)) (fun k => by rw [spec_Unquote.l0, if_neg Yy0]) (Ev.now _)
 | @plain p hp c r ih =>
  intro o h x hx
  have e1 : wrap64 ((p : Int) + 1) = ((p + 1 : Nat) : Int) := Yy68
  cases h with
  | nil => omega
  | @plain _ o h c32 c92 r' =>
   have := ih o r' (x ++ [bt u (p : Int)]) Yy16
   rw [List.append_assoc] at this
   exact Ev.step (fun k => by rw [spec_Unquote.l0, if_pos Yy0, if_pos Yy0, if_neg c, if_pos Yy0, e1]) this
  | short _ h92 _ _ => exact absurd h92 c
  | uni _ h92 _ _ _ _ => exact absurd h92 c
  | pair _ h92 _ _ _ _ _ _ _ => exact absurd h92 c
  | lone _ h92 _ _ _ _ _ => exact absurd h92 c
 | @short p hp c nu r ih =>
  intro o h x hx
  have e1 : wrap64 ((p : Int) + 1) = ((p + 1 : Nat) : Int) := Yy68
  have e2 : wrap64 ((p : Int) + 2) = ((p + 2 : Nat) : Int) := Yy68
  cases h with
  | nil => omega
  | plain _ _ c92 _ => exact absurd c c92
  | @short _ o h h92 hs r' =>
   obtain ⟨n, ok, hu, hiff, _⟩ := unit_ev hn p Yy0
   have hok : ok = false := by
    cases ok with
    | false => rfl
    | true => exact absurd (hiff.mp rfl) nu
   subst hok
   have := ih o r' (x ++ [shortB (bt u ((p + 1 : Nat) : Int))]) Yy16
   rw [List.append_assoc] at this
   refine Ev.step (fun k => Yy72) (Ev.two hu (Ev.congr (fun k => if_neg Bool.false_ne_true) (Ev.congr (fun k => ?_) this)))
   rw [e1, if_pos Yy0, if_pos Yy0, short_v, e2]
   simp only [Option.bind_some]
   rw [if_pos Yy0]
  | uni h h92 h117 hx _ _ => exact absurd ⟨h, h92, h117, hx⟩ nu
  | pair h h92 h117 hx _ _ _ _ _ => exact absurd ⟨Yy0, h92, h117, hx⟩ nu
  | lone h h92 h117 hx _ _ _ => exact absurd ⟨h, h92, h117, hx⟩ nu
 | @uni p hp hU hns r ih =>
  intro o h x hx
  have e6 : wrap64 ((p : Int) + 6) = ((p + 6 : Nat) : Int) := Yy68
  have e12 : wrap64 (((p + 6 : Nat) : Int) + 6) = ((p + 12 : Nat) : Int) := Yy68
  have hR := hexN_range (s := u) (p := p + 2) 4 Yy0 (fun q hq => hU.2.2.2 q hq)
  cases h with
  | nil => omega
  | plain _ _ c92 _ => exact absurd hU.2.1 c92
  | short _ _ hs _ => have := hU.2.2.1; omega
  | @uni _ o h h92 h117 hx' hn' r' =>
   obtain ⟨n, ok, hu, hiff, hnv⟩ := unit_ev hn p Yy0
   have hok : ok = true := hiff.mpr hU
   subst hok
   have hv := hnv rfl
   subst hv
   obtain ⟨n2, ok2, hu2, hiff2, _⟩ := unit_ev hn (p + 6) Yy0
   have hl := enc_len (hexN u (p + 2) 4)
   have hz := app8_enc x Yy0 (hexN u (p + 2) 4) hR.1 Yy0
   have hr := ih o r' (x ++ Lib.encodeRuneZ (hexN u (p + 2) 4)) (by rw [List.length_append]; omega)
   rw [List.append_assoc] at hr
   have hh : spec_high.f (hexN u (p + 2) 4) = some false := (high_v _).trans (by rw [dff Yy0])
   refine Ev.step (fun k => Yy72) (Ev.two hu (Ev.congr (fun k => if_pos rfl) (Ev.congr (fun k => by rw [e6]) (Ev.two hu2 ?_))))
   cases ok2 with
   | false => exact Ev.congr (fun k => if_neg Bool.false_ne_true) (Ev.two hz hr)
   | true => exact Ev.congr (fun k => if_pos rfl) (Ev.two (Ev.is fun _ => hh) (Ev.congr (fun k => if_neg Bool.false_ne_true) (Ev.two hz hr)))
  | pair _ _ _ _ hn' _ _ _ _ => exact absurd (sur_of.mp hn') hns
  | lone _ _ _ _ hn' _ _ => exact absurd (sur_of.mp hn') hns
 | @pair p hp hU hU2 hh hl r ih =>
  intro o h x hx
  have e6 : wrap64 ((p : Int) + 6) = ((p + 6 : Nat) : Int) := Yy68
  have e12 : wrap64 (((p + 6 : Nat) : Int) + 6) = ((p + 12 : Nat) : Int) := Yy68
  cases h with
  | nil => omega
  | plain _ _ c92 _ => exact absurd hU.2.1 c92
  | short _ _ hs _ => have := hU.2.2.1; omega
  | uni _ _ _ _ hn' _ => have := sur_of.mpr (show 55296 ≤ hexN u (p + 2) 4 ∧ hexN u (p + 2) 4 ≤ 57343 from Yy0); rw [this] at hn'; cases hn'
  | lone _ _ _ _ _ hg _ => exact absurd ⟨hp, hU2.2.1, hU2.2.2.1⟩ hg
  | @pair _ o h h92 h117 hx' hn' g92 g117 gx r' =>
   obtain ⟨n, ok, hu, hiff, hnv⟩ := unit_ev hn p Yy0
   have hok : ok = true := hiff.mpr hU
   subst hok
   have hv := hnv rfl
   subst hv
   obtain ⟨n2, ok2, hu2, hiff2, hnv2⟩ := unit_ev hn (p + 6) Yy0
   have hok2 : ok2 = true := hiff2.mpr hU2
   subst hok2
   have hv2 := hnv2 rfl
   rw [show p + 6 + 2 = p + 8 from Yy0] at hv2
   subst hv2
   have hd : decR (hexN u (p + 2) 4) (hexN u (p + 8) 4) = (hexN u (p + 2) 4 - 55296) * 1024 + (hexN u (p + 8) 4 - 56320) + 65536 := by
    unfold decR
    rw [if_pos Yy0]
   have hw : wrap64 ((wrap64 (65536 + (wrap64 ((wrap64 (hexN u (p + 2) 4 - 55296)) * 1024)))) + (wrap64 (hexN u (p + 8) 4 - 56320))) = decR (hexN u (p + 2) 4) (hexN u (p + 8) 4) := by
    rw [hd, w64 (x := hexN u (p + 2) 4 - 55296) Yy0 Yy0, w64 (x := (hexN u (p + 2) 4 - 55296) * 1024) Yy0 Yy0, w64 (x := 65536 + (hexN u (p + 2) 4 - 55296) * 1024) Yy0 Yy0, w64 (x := hexN u (p + 8) 4 - 56320) Yy0 Yy0, w64 Yy0 Yy0]
    omega
   have hle := enc_len (decR (hexN u (p + 2) 4) (hexN u (p + 8) 4))
   have hz := app8_enc x Yy0 (decR (hexN u (p + 2) 4) (hexN u (p + 8) 4)) (by rw [hd]; omega) (by rw [hd]; omega)
   have hr := ih o r' (x ++ Lib.encodeRuneZ (decR (hexN u (p + 2) 4) (hexN u (p + 8) 4))) (by rw [List.length_append]; omega)
   rw [List.append_assoc] at hr
   refine Ev.step (fun k => Yy72) (Ev.two hu (Ev.congr (fun k => if_pos rfl) (Ev.congr (fun k => by rw [e6, e12]) (Ev.two hu2 (Ev.congr (fun k => if_pos rfl) (Ev.two (Ev.is fun _ => (high_v _).trans (by rw [dtt hh])) (Ev.congr (fun k => if_pos rfl) (Ev.two (Ev.is fun _ => (low_v _).trans (by rw [dtt hl])) (Ev.congr (fun k => if_pos rfl) (Ev.two (Ev.congr (fun k => by rw [hw]) hz) hr))))))))))
theorem uq_is {s : ByteArray} (hs : s.size ≤ 65536) {i j : Nat} (h : StrTok s i j) (hp : Pdd s (j - 1) (i + 1)) {str : ByteArray} (hk : KStr (s.extract (i + 1) (j - 1)) str) : uq s i j = str := by
 obtain ⟨O, hO, rfl⟩ := hk
 have h1 := h.1.1
 have h2 := h.1.2.1
 have hz : (s.extract (i + 1) (j - 1)).size = j - 1 - (i + 1) := Yy13
 have hw : ∀ x, i + 1 ≤ x → x < j - 1 → bt (s.extract (i + 1) (j - 1)) ((x - (i + 1) : Nat) : Int) = bt s (x : Int) := fun x q1 q2 => by
  rw [bt_extract Yy0 Yy0, show i + 1 + (x - (i + 1)) = x from Yy0]
 have hd := hp.win hw hz Yy0 Yy0 (nlr _)
 rw [Nat.sub_self] at hd
 have hr := dec_run Yy0 hd O hO [] Yy16
 rw [List.nil_append] at hr
 have hq := uq_ev hs h
 have hzq : (s.extract i j).size = j - i := Yy13
 refine Ev.uniq hq (Ev.congr (fun k => ?_) hr)
 rw [spec_Unquote.f, hzq, w64 Yy0 Yy0, if_pos Yy0, if_pos Yy0]
 have e : (s.extract i j).extract 1 ((((j - i : Nat) : Int) - 1).toNat) = s.extract (i + 1) (j - 1) := by
  rw [show (((j - i : Nat) : Int) - 1).toNat = j - i - 1 from Yy0, ByteArray.extract_extract]
  congr 1
  omega
 rw [e]
 rfl
theorem PdAt.run {s : ByteArray} (hn : s.size ≤ 65536) {i j : Nat} (hij : i ≤ j) (hj : j ≤ s.size) (h : ∀ q, i ≤ q → q < j → bt s (q : Int) ≠ 92) (hp : PdAt s i) : PdAt s j := by
 have key : ∀ m q, q - i = m → i ≤ q → q ≤ j → PdAt s q := by
  intro m
  induction m with
  | zero => intro q hm h1 h2; rw [show q = i from Yy0]; exact hp
  | succ m ih =>
   intro q hm h1 h2
   obtain ⟨p, rfl⟩ : ∃ p, q = p + 1 := ⟨q - 1, Yy0⟩
   exact (ih p Yy0 Yy0 Yy0).plain hn Yy0 (h p Yy0 Yy0)
 exact key _ j rfl hij (nlr _)
theorem PdAt.blk {s : ByteArray} (hn : s.size ≤ 65536) {i j : Nat} (h : Blk s i j) (hp : PdAt s i) : PdAt s j :=
 hp.run hn h.1 h.2.1 (fun q h1 h2 => by have := isB_le (h.2.2 q h1 h2); omega)
theorem PdAt.byte {s : ByteArray} (hn : s.size ≤ 65536) {i : Nat} {c : Int} (hc : bt s (i : Int) = c) (h0 : c ≠ 0) (h9 : c ≠ 92) (hp : PdAt s i) : PdAt s (i + 1) :=
 hp.plain hn (bt_in hc h0) (by rw [hc]; exact h9)
end Go.Proofs.YtieflhncpjjciaaGreatDoor.Dc
namespace Go.Proofs.YtieflhncpjjciaaGreatDoor.PFnGjSquashItems
open Go Go.RowKit Go.Proofs.YtieflhncpjjciaaGreatDoorW.PrintWords Go.Proofs.YtieflhncpjjciaaGreatDoor.Dc
mutual
def T.pd (s : ByteArray) : T → Prop
 | .leaf kd i j => kd = 4 → Pdd s (j - 1) (i + 1)
 | .arr _ _ es => es.pd s
 | .obj _ _ ms => ms.pd s
def Es.pd (s : ByteArray) : Es → Prop
 | .nil => True
 | .cons t r => t.pd s ∧ r.pd s
def Ms.pd (s : ByteArray) : Ms → Prop
 | .nil => True
 | .cons ni nj t r => Pdd s (nj - 1) (ni + 1) ∧ t.pd s ∧ r.pd s
end
mutual
theorem pd_t {s : ByteArray} (hn : s.size ≤ 65536) : ∀ t : T, t.wf s → PdAt s t.i → PdAt s t.j ∧ t.pd s
 | .leaf kd i j, h, hp => by
  obtain ⟨h1, h2, h3⟩ := h
  have hp' : PdAt s i := hp
  rw [T.pd]
  rcases h3 with ⟨rfl, h⟩ | ⟨rfl, hc, h⟩ | ⟨rfl, h3, h⟩ | ⟨rfl, h3, h⟩ | ⟨rfl, h3, h⟩
  ·
   obtain ⟨a, b⟩ := pd_str hn h hp'
   exact ⟨b, fun _ => a⟩
  ·
   refine ⟨hp'.run hn (Nat.le_of_lt h1) h2 (fun q q1 q2 => ?_), fun h => Yy9⟩
   have := h q q1 q2
   unfold numOK at this
   omega
  ·
   refine ⟨hp'.run hn (Nat.le_of_lt h1) h2 (fun q q1 q2 => ?_), fun h => Yy9⟩
   have := isWord_az h h3 (by intro k hk; have : k < 4 := hk; rcases k with _ | _ | _ | _ | k <;> first | decide | omega) q q1 q2
   omega
  ·
   refine ⟨hp'.run hn (Nat.le_of_lt h1) h2 (fun q q1 q2 => ?_), fun h => Yy9⟩
   have := isWord_az h h3 (by intro k hk; have : k < 5 := hk; rcases k with _ | _ | _ | _ | _ | k <;> first | decide | omega) q q1 q2
   omega
  ·
   refine ⟨hp'.run hn (Nat.le_of_lt h1) h2 (fun q q1 q2 => ?_), fun h => Yy9⟩
   have := isWord_az h h3 (by intro k hk; have : k < 4 := hk; rcases k with _ | _ | _ | _ | k <;> first | decide | omega) q q1 q2
   omega
 | .arr i j es, h, hp => by
  obtain ⟨h1, h2, p, h3, h4⟩ := h
  have hp' : PdAt s i := hp
  rw [T.pd]
  have hb := (hp'.byte hn h1 Yy2 Yy2).blk hn h3
  rcases h4 with ⟨c1, c2, c3⟩ | h4
  ·
   subst c2; subst c3
   rw [Es.pd]
   exact ⟨hb.byte hn c1 Yy2 Yy2, trivial⟩
  ·
   exact pd_es hn es p j h4 hb
 | .obj i j ms, h, hp => by
  obtain ⟨h1, h2, p, h3, h4⟩ := h
  have hp' : PdAt s i := hp
  rw [T.pd]
  have hb := (hp'.byte hn h1 Yy2 Yy2).blk hn h3
  rcases h4 with ⟨c1, c2, c3⟩ | h4
  ·
   subst c2; subst c3
   rw [Ms.pd]
   exact ⟨hb.byte hn c1 Yy2 Yy2, trivial⟩
  ·
   exact pd_ms hn ms p j h4 hb
theorem pd_es {s : ByteArray} (hn : s.size ≤ 65536) : ∀ (es : Es) (p j : Nat), es.wf s p j → PdAt s p → PdAt s j ∧ es.pd s
 | .nil, p, j, h, _ => absurd h (by simp [Es.wf])
 | .cons t r, p, j, h, hp => by
  obtain ⟨h1, h2, q, h3, h4⟩ := h
  subst h2
  rw [Es.pd]
  obtain ⟨a, b⟩ := pd_t hn t h1 hp
  have hb := a.blk hn h3
  rcases h4 with ⟨c1, c2, c3⟩ | ⟨c1, p', c2, c3⟩
  ·
   subst c2; subst c3
   rw [Es.pd]
   exact ⟨hb.byte hn c1 Yy2 Yy2, b, trivial⟩
  ·
   obtain ⟨x, y⟩ := pd_es hn r p' j c3 ((hb.byte hn c1 Yy2 Yy2).blk hn c2)
   exact ⟨x, b, y⟩
theorem pd_ms {s : ByteArray} (hn : s.size ≤ 65536) : ∀ (ms : Ms) (p j : Nat), ms.wf s p j → PdAt s p → PdAt s j ∧ ms.pd s
 | .nil, p, j, h, _ => absurd h Yy42
 | .cons ni nj t r, p, j, h, hp => by
  obtain ⟨g1, g2, c, g3, g4, v, g5, h1, h2, q, h3, h4⟩ := h
  subst g1; subst h2
  rw [Ms.pd]
  obtain ⟨n1, n2⟩ := pd_str hn g2 hp
  obtain ⟨a, b⟩ := pd_t hn t h1 (((n2.blk hn g3).byte hn g4 Yy2 Yy2).blk hn g5)
  have hb := a.blk hn h3
  rcases h4 with ⟨c1, c2, c3⟩ | ⟨c1, p', c2, c3⟩
  ·
   subst c2; subst c3
   rw [Ms.pd]
   exact ⟨hb.byte hn c1 Yy2 Yy2, n1, b, trivial⟩
  ·
   obtain ⟨x, y⟩ := pd_ms hn r p' j c3 ((hb.byte hn c1 Yy2 Yy2).blk hn c2)
   exact ⟨x, n1, b, y⟩
end
theorem pd_whole {s : ByteArray} (hn : s.size ≤ 65536) (h : Ev (fun k => spec_Paired.f k s) true) {t : T} (hw : t.wf s) (hb : Blk s 0 t.i) : t.pd s := by
 have h0 : PdAt s 0 := Ev.congr (fun k => by rw [spec_Paired.f]; rfl) h
 exact (pd_t hn t hw (h0.blk hn hb)).2
end Go.Proofs.YtieflhncpjjciaaGreatDoor.PFnGjSquashItems
namespace Go.Proofs.YtieflhncpjjciaaGreatDoor.Dc
open Go Go.RowKit Go.Proofs.YtieflhncpjjciaaGreatDoorW.PrintWords Go.Proofs.YtieflhncpjjciaaGreatDoor.PFnGjSquashItems
theorem hex4_tok {s : ByteArray} (hn : s.size ≤ 65536) : ∀ m d i, 4 - d = m → d ≤ 4 → i + m ≤ s.size → (∀ q, i ≤ q → q < i + m → isHex (bt s (q : Int)) = true) → Ev (fun k => spec_reader_escape.l0 k (d : Nat) s (i : Int)) (true, s, ((i + m : Nat) : Int)) := by
 intro m
 induction m with
 | zero =>
  intro d i hd hd4 hi _
  refine Ev.step (f := fun _ => some (true, s, (i : Int))) (fun k => ?_) (Ev.now _)
  rw [spec_reader_escape.l0, if_neg Yy0]
 | succ m ih =>
  intro d i hd hd4 hi hx
  obtain ⟨v, hv⟩ := hex_ev (bt s (i : Int))
  rw [hx i (nlr _) Yy0] at hv
  have hz := ih (d + 1) (i + 1) Yy0 Yy0 Yy0 (fun q q1 q2 => hx q Yy0 Yy0)
  rw [show i + 1 + m = i + (m + 1) from Yy0] at hz
  have e1 : wrap64 ((d : Int) + 1) = ((d + 1 : Nat) : Int) := Yy68
  have e2 : wrap64 ((i : Int) + 1) = ((i + 1 : Nat) : Int) := Yy68
  refine Ev.step (fun k => by rw [spec_reader_escape.l0, if_pos Yy0, here_f, Option.bind_some]) (Ev.two hv (Ev.congr (fun k => if_pos rfl) (Ev.congr (fun k => ?_) hz)))
  rw [e1, e2]
theorem esc_tok {s : ByteArray} (hn : s.size ≤ 65536) {i j : Nat} (h : EscAt s i j) (hj : j ≤ s.size) : Ev (fun k => spec_reader_escape.f k s (i : Int)) (true, s, (j : Int)) := by
 have e : wrap64 ((i : Int) + 1) = ((i + 1 : Nat) : Int) := w64 (by rcases h with ⟨h, _⟩ | ⟨h, _⟩ <;> omega) (by rcases h with ⟨h, _⟩ | ⟨h, _⟩ <;> omega)
 generalize hc : bt s (i : Int) = c at h
 unfold EscAt at h
 rw [hc] at h
 rcases h with ⟨rfl, hs⟩ | ⟨rfl, h117, hx⟩
 ·
  refine Ev.step (f := fun _ => some (true, s, ((i + 1 : Nat) : Int))) (fun k => ?_) (Ev.now _)
  rw [spec_reader_escape.f, here_f, Option.bind_some, hc]
  rcases hs with rfl | rfl | rfl | rfl | rfl | rfl | rfl | rfl <;> simp [spec_reader_escape.j0, e]
 ·
  subst h117
  have hz := hex4_tok hn 4 0 (i + 1) rfl Yy0 Yy0 (fun q q1 q2 => hx q Yy0 Yy0)
  rw [show i + 1 + 4 = i + 5 from Yy0] at hz
  refine Ev.step (fun k => ?_) hz
  rw [spec_reader_escape.f, here_f, Option.bind_some, hc]
  simp [spec_reader_escape.j0, e]
theorem quoted_run {s : ByteArray} (hn : s.size ≤ 65536) {e : Nat} (he : bt s (e : Int) = 34) : ∀ p, Tk s e p → Ev (fun k => spec_reader_quoted.l0 k s (p : Int)) (true, s, ((e + 1 : Nat) : Int)) := by
 have hes := bt_in he Yy2
 intro p h
 induction h with
 | nil =>
  refine Ev.step (f := fun _ => some (true, s, ((e + 1 : Nat) : Int))) (fun k => ?_) (Ev.now _)
  rw [spec_reader_quoted.l0, if_pos Yy0, if_pos Yy0, if_pos he, w64 Yy0 Yy0]
  rfl
 | @plain p hp c32 c34 c92 r ih =>
  have e1 : wrap64 ((p : Int) + 1) = ((p + 1 : Nat) : Int) := Yy68
  exact Ev.step (fun k => by rw [spec_reader_quoted.l0, if_pos Yy0, if_pos Yy0, if_neg c34, if_neg Yy0, if_neg c92, e1]) ih
 | @esc p j h92 hj hje r ih =>
  have hp : p < j := Yy61
  have e1 : wrap64 ((p : Int) + 1) = ((p + 1 : Nat) : Int) := Yy68
  have hz := esc_tok hn hj Yy0
  exact Ev.step (fun k => by rw [spec_reader_quoted.l0, if_pos Yy0, if_pos Yy0, if_neg Yy0, if_neg Yy0, if_pos h92, e1]) (Ev.two hz (Ev.congr (fun k => if_pos rfl) ih))
theorem quoted_tok {s : ByteArray} (hn : s.size ≤ 65536) {i j : Nat} (h : StrTok s i j) : Ev (fun k => spec_reader_quoted.f k s (i : Int)) (true, s, (j : Int)) := by
 have h1 := h.1.1
 have h2 := h.1.2.1
 have hz := quoted_run hn h.1.2.2.2.1 _ h.2
 rw [show j - 1 + 1 = j from Yy0] at hz
 have e1 : wrap64 ((i : Int) + 1) = ((i + 1 : Nat) : Int) := Yy68
 exact Ev.congr (fun k => by rw [spec_reader_quoted.f, e1]) hz
theorem read_str {v : ByteArray} (hn : v.size ≤ 65536) (h : StrTok v 0 v.size) : Ev (fun k => spec_Read.f k v) (4, uq v 0 v.size, [], [], true) := by
 have h1 := h.1.1
 have q0 : bt v ((0 : Nat) : Int) = 34 := h.1.2.2.1
 obtain ⟨i, hi, hi2, hie⟩ := blanks_ev hn _ 0 rfl (Nat.zero_le _)
 have i0 : i = 0 := by
  rcases Nat.eq_zero_or_pos i with h | h
  ·
   exact h
  ·
   have := isB_le (hi.2.2 0 (nlr _) h)
   omega
 subst i0
 obtain ⟨e, he, _, hee⟩ := blanks_ev hn _ v.size rfl (nlr _)
 have e0 : e = v.size := by have := he.1; have := he.2.1; omega
 subst e0
 have hq := quoted_tok hn h
 have hv : Ev (fun k => spec_reader_value.f k v ((0 : Nat) : Int)) (4, ((0 : Nat) : Int), (v.size : Int), [], [], true, v, (v.size : Int)) :=
  Ev.step (fun k => by rw [spec_reader_value.f, here_f, Option.bind_some, q0, if_neg (show ¬ ((34 : Int) = 123) from Yy2), if_neg (show ¬ ((34 : Int) = 91) from Yy2), if_pos rfl]) (Ev.bind hq (Ev.now _))
 have hp : Ev (fun k => spec_Places.f k v) (4, ((0 : Nat) : Int), (v.size : Int), [], [], true) := by
  refine Ev.congr (fun k => by rw [spec_Places.f]; rfl) (Ev.bind hie (Ev.bind hv ?_))
  simp only [if_true]
  refine Ev.bind hee ?_
  simp only [if_true]
  exact Ev.now _
 have ht : TN v ⟨4, ((0 : Nat) : Int), (v.size : Int), [], []⟩ ⟨4, textOf v 4 0 v.size, [], []⟩ := tn_f hn (Nat.zero_le _) .nil (Nat.zero_le _) .nil 4 0 v.size (Nat.zero_le _) (nlr _) (fun _ => h)
 unfold TN textOf at ht
 simp only [show ¬ ((4 : Int) = 3) from Yy2, if_false, if_true] at ht
 exact Ev.congr (fun k => by rw [spec_Read.f]) (Ev.two hp (Ev.congr (fun k => if_pos rfl) (Ev.two ht (Ev.now _))))
theorem read_tok {s : ByteArray} (hs : s.size ≤ 65536) {i j : Nat} (h : StrTok s i j) : Ev (fun k => spec_Read.f k (s.extract i j)) (4, uq s i j, [], [], true) := by
 have h1 := h.1.1
 have h2 := h.1.2.1
 have hz : (s.extract i j).size = j - i := Yy13
 have hw : Win s (s.extract i j) i 0 (j - i) := ⟨fun k hk => by rw [Nat.zero_add, bt_extract h2 Yy0], Yy0, Yy0⟩
 have ht : StrTok (s.extract i j) 0 (s.extract i j).size := by
  have := hw.str (by rw [show i + (j - i) = j from Yy0]; exact h)
  rwa [Nat.zero_add, ← hz] at this
 have hr := read_str Yy0 ht
 have e : uq (s.extract i j) 0 (s.extract i j).size = uq s i j := by
  unfold uq
  rw [show (s.extract i j).extract 0 (s.extract i j).size = s.extract i j from ByteArray.extract_zero_size]
 rwa [e] at hr
end Go.Proofs.YtieflhncpjjciaaGreatDoor.Dc
