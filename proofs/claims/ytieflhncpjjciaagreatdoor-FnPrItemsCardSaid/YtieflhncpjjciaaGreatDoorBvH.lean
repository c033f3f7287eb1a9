/- Walks and plain laws of this claim. -/
import Derived.Test.YtieflhncpjjciaaGreatDoorBuF
import Derived.Test.YtieflhncpjjciaaGreatDoorBvG
import Derived.Test.YtieflhncpjjciaaGreatDoorBuE
import Derived.Test.YtieflhncpjjciaaGreatDoorBuC
import Derived.Deep.MidRow
import Derived.Deep.RegionHeld3
import Derived.Test.YtieflhncpjjciaaGreatDoorRows
import Derived.LaidMore
import Derived.Lib.LaidTab
import Derived.OpenShut
set_option linter.unusedVariables false
set_option linter.unusedSimpArgs false
namespace Go.Proofs.YtieflhncpjjciaaGreatDoor.Dc
open Go Go.RowKit Go.Proofs.YtieflhncpjjciaaGreatDoorW.PrintWords Go.Proofs.YtieflhncpjjciaaGreatDoor.PFnGjSquashItems
set_option maxHeartbeats 8000000
set_option maxRecDepth 100000
theorem rng_set {w : World} {b : Nat} {cs : List Value} (h : w.rangeAt b 0 cs) (i : Nat) (v : Value) (hi : i < cs.length) : (w.setCell ⟨b, i, none⟩ v).rangeAt b 0 (cs.set i v) := by
 intro j u hu
 have hc := h i _ (List.getElem?_eq_getElem hi)
 rw [Nat.zero_add] at hc ⊢
 rw [List.getElem?_set] at hu
 split at hu
 ·
  rename_i e
  subst e
  try rw [if_pos hi] at hu
  obtain rfl := Option.some.inj hu
  exact World.cell?_setCell_same _ _ _ hc
 ·
  rename_i e
  rw [World.cell?_setCell_other _ _ _ _ (fun h => e (by injection h))]
  have := h j u hu
  rwa [Nat.zero_add] at this
theorem rng_oth {w : World} {b : Nat} {cs : List Value} (h : w.rangeAt b 0 cs) (b' i : Nat) (v : Value) (hne : b' ≠ b) : (w.setCell ⟨b', i, none⟩ v).rangeAt b 0 cs := by
 intro j u hu
 rw [World.cell?_setCell_other _ _ _ _ (fun h => hne (by injection h))]
 exact h j u hu
theorem rng_dn {w : World} {b : Nat} {cs : List Value} (h : w.rangeAt b 0 cs) (n : Nat) : (w.drewN n).rangeAt b 0 cs := fun j u hu => h j u hu
theorem rng_d {w : World} {b : Nat} {cs : List Value} (h : w.rangeAt b 0 cs) : w.drew.rangeAt b 0 cs := fun j u hu => h j u hu
theorem rng_al {w : World} {b : Nat} {cs : List Value} (h : w.rangeAt b 0 cs) (o : Obj) : (w.alloc o).rangeAt b 0 cs := World.rangeAt_alloc h o
theorem rng_b {w w' : World} {b : Nat} {cs : List Value} (h : w.rangeAt b 0 cs) (hb : Below w.heap.size w w') : w'.rangeAt b 0 cs := fun j u hu => cellB hb (h j u hu)
theorem thr_set {w : World} {b n : Nat} (h : w.there b 0 n) (a : Addr) (v : Value) : (w.setCell a v).there b 0 n := by
 intro j hj
 obtain ⟨h1, h2⟩ := h j hj
 obtain ⟨u, hu⟩ := Option.isSome_iff_exists.1 h1
 refine ⟨?_, by rw [World.frozen?_setCell]; exact h2⟩
 by_cases e : a = ⟨b, 0 + j, none⟩
 ·
  subst e; rw [World.cell?_setCell_same _ _ _ hu]; rfl
 ·
  rw [World.cell?_setCell_other _ _ _ _ e, hu]; rfl
theorem thr_dn {w : World} {b m : Nat} (h : w.there b 0 m) (n : Nat) : (w.drewN n).there b 0 m := fun j hj => h j hj
theorem thr_d {w : World} {b m : Nat} (h : w.there b 0 m) : w.drew.there b 0 m := fun j hj => h j hj
theorem thr_b {w w' : World} {b n : Nat} (h : w.there b 0 n) (hb : Below w.heap.size w w') : w'.there b 0 n := by
 intro j hj
 obtain ⟨h1, h2⟩ := h j hj
 obtain ⟨u, hu⟩ := Option.isSome_iff_exists.1 h1
 exact ⟨by rw [cellB hb hu]; rfl, frozB hb hu h2⟩
theorem Below.drewNs {B : Nat} {a w : World} (h : Below B a w) (n : Nat) : Below B a (w.drewN n) := ⟨h.os, h.tape, h.output, h.size, h.block⟩
theorem Below.cellsN {B : Nat} {a : World} {b : Nat} (hb : B ≤ b) : ∀ (vs : List Value) (o : Nat) (w : World), Below B a w → Below B a (w.setCells b o vs)
 | [], _, _, h => h
 | v :: r, o, w, h => by
  rw [World.setCells]
  exact Below.cellsN hb r (o + 1) _ (h.setCell (p := ⟨b, o, none⟩) hb v)
theorem rng_new (w : World) (cs : List Value) (t : TypeId) : (w.alloc (Obj.cells cs.toArray t)).rangeAt w.heap.size 0 cs := by
 intro j u hu
 rw [cell_of_row _ _ _ cs.toArray t _ (heap_alloc_new w _)]
 simpa using hu
theorem thr_new (w : World) (cs : List Value) (t : TypeId) : (w.alloc (Obj.cells cs.toArray t)).there w.heap.size 0 cs.length := by
 intro j hj
 refine ⟨?_, Y12⟩
 rw [rng_new w cs t j _ (List.getElem?_eq_getElem hj)]; rfl
theorem thr_al {w : World} {b n : Nat} (h : w.there b 0 n) (o : Obj) : (w.alloc o).there b 0 n := World.there_alloc h o
def Z6 : List Value := [.int .i64 0, .string ⟨#[]⟩, .string ⟨#[]⟩, .float .f64 0, .int .i64 0, .slice none 0 0]
theorem RV.row (r : RV) : r.val = .agg #[.int .i64 r.k, .string r.raw, .string r.str, .float .f64 r.q, .int .i64 r.ix, .slice none 0 0] := rfl
theorem take_d {P : Program} {ops : Array Oper} {Q : Exit → Act → World → Prop} {md : Region.Mode} {S : World → Prop} {i : Nat} {oi : Oper} {v : Value} {fuel : Nat} {listed : Array Bool} {a : Act} {w : World} (d : Option Tmp) (hi : ops[i]? = some oi) (hd : oi.dst = d)
  (hs : Region.noSelect ops = true) (hf : Region.free md ops listed i = true) (hr : (Region.ready md ops listed).contains i = true)
  (hQ : ∀ c a w, Q (.panic c) (a.put d v) w → Q (.panic c) a w) (hy : YieldsIf P ops S oi v a) (hS : S w)
  (h : wpAnyH P md ops Q S fuel (listed.setIfInBounds i true) (a.put d v) w) : wpAnyH P md ops Q S (fuel + 1) listed a w := by
 subst hd
 exact wpAnyH_take hi hs hf hr hQ hy hS h
theorem cons_d {P : Program} {ops : Array Oper} {Q : Exit → Act → World → Prop} {md : Region.Mode} {S : World → Prop} {fuel : Nat} {listed : Array Bool} {a : Act} {w : World} {i : Nat} {o : Oper} {rs : List Nat} (d : Option Tmp) (ho : ops[i]? = some o) (hd : o.dst = d)
  (h : ∀ K' : Act → World → Prop, Shut (∀ a w, S w → (S w → wpAnyH P md ops Q S fuel (listed.setIfInBounds i true) a w) → K' a w) → if Region.wanted o (yielded ops a.tmps) = true then Oper.wp P o a w K' Q else K' (a.put d undef) w)
  (hs : AllReadyH P md ops Q S fuel listed a w rs) : AllReadyH P md ops Q S fuel listed a w (i :: rs) := by
 subst hd
 exact AllReadyH.cons ho h hs
theorem store_d {P : Program} {op : Oper} {a : Act} {w : World} {K : Act → World → Prop} {Q : Exit → Act → World → Prop} (hd : op.dst = none) (ty : TypeId) (x y : Operand) (ho : op.op = .store ty x y)
  (b o : Nat) (cells : Array Value) (hx : a.eval x = .pointer (some ⟨b, o, none⟩)) (hy : a.eval y = .agg cells)
  (ht : w.there b o cells.size) (hi : (P.info? ty).map (·.size) = some cells.size) (h1 : cells.all (·.oneCell') = true)
  (h : K a (w.setCells b o cells.toList)) : op.wp P a w K Q :=
 wp_store_mid ty x y ho b o cells hx hy ht hi h1 (by rw [hd]; exact h)
theorem of_drawn0 {w w' : World} (h : Drawn0 w w') : ∃ n, w' = w.drewN n := h.out
theorem str_call {s : ByteArray} (hs : s.size ≤ 65536) {i j : Nat} (h : StrTok0 s i j) : ∃ ve, (ve = false → ∀ p : Nat, i + 1 ≤ p → p < j - 1 → bt s (p : Int) ≠ 92) ∧ ∀ w : World, Calls Tryz.prog 60 #[.string s, .int .i64 ((i + 1 : Nat) : Int)] w fun e w' => e = .returned (.tuple #[.int .i64 (j : Int), .string (s.extract i j), .bool ve, .bool true]) ∧ ∃ n, w' = w.drewN n := by
 obtain ⟨ve, hv, k, hk⟩ := str_ev' hs h
 exact ⟨ve, hv, fun w => (gjson_parseString.calls k _ _ _ _ _ _ w (hk k (Nat.le_refl _))).mono fun _ _ ⟨a, b⟩ => ⟨a, of_drawn0 b⟩⟩
theorem num_call {s : ByteArray} (hs : s.size ≤ 65536) {i j : Nat} (hij : i < j) (hj : j ≤ s.size) (hn : ∀ q, i ≤ q → q < j → numOK (bt s (q : Int))) (he : NumEnd s j) (w : World) : Calls Tryz.prog 79 #[.string s, .int .i64 (i : Int)] w fun e w' => e = .returned (.tuple #[.int .i64 (j : Int), .string (s.extract i j)]) ∧ ∃ n, w' = w.drewN n := by
 obtain ⟨k, hk⟩ := num_ev hs hij hj hn he
 exact (gjson_parseNumber.calls k _ _ _ _ w (hk k (Nat.le_refl _))).mono fun _ _ ⟨a, b⟩ => ⟨a, of_drawn0 b⟩
theorem lit_call {s : ByteArray} (hs : s.size ≤ 65536) {i j : Nat} (hij : i < j) (hj : j ≤ s.size) (hn : ∀ q, i ≤ q → q < j → 97 ≤ bt s (q : Int) ∧ bt s (q : Int) ≤ 122) (he : NumEnd s j) (w : World) : Calls Tryz.prog 78 #[.string s, .int .i64 (i : Int)] w fun e w' => e = .returned (.tuple #[.int .i64 (j : Int), .string (s.extract i j)]) ∧ ∃ n, w' = w.drewN n := by
 obtain ⟨k, hk⟩ := lit_ev hs hij hj hn he
 exact (gjson_parseLiteral.calls k _ _ _ _ w (hk k (Nat.le_refl _))).mono fun _ _ ⟨a, b⟩ => ⟨a, of_drawn0 b⟩
structure MS (w : World) (b0 : Nat) : Prop where
 ts : TS w b0
 vc : VC w
theorem MS.below {w w' : World} {b0 : Nat} (h : MS w b0) (hb : Below b0 w w') : MS w' b0 := by
 have h10 := h.ts.tb.lc.ten
 exact ⟨h.ts.below hb, fun c hc => (hb.cell (p := ⟨0, c, none⟩) (by show 0 < b0; omega)).trans (h.vc c hc)⟩
def KStr (u str : ByteArray) : Prop := ∃ O, Un u 0 O ∧ str = strOfNums O
def gkd (kd : Int) : Int := if kd = 0 then 0 else if kd = 1 then 1 else if kd = 2 then 4 else if kd = 3 then 2 else if kd = 4 then 3 else 5
def AnyPost (s : ByteArray) (kd : Int) (v j : Nat) (w : World) (e : Ending) (w' : World) : Prop :=
 ∃ (q ix : Nat) (str : ByteArray), e = .returned (.tuple #[.int .i64 (j : Int), RV.val ⟨gkd kd, s.extract v j, str, q, (ix : Int)⟩, .bool true]) ∧ ix ≤ s.size ∧ (kd = 4 → KStr (s.extract (v + 1) (j - 1)) str) ∧ (kd ≠ 4 → str = ⟨#[]⟩) ∧ Below w.heap.size w w'
set_option maxRecDepth 100000
noncomputable abbrev trd (w : World) (fuel : Nat) (t : TypeId) (cs : List Value) := DataW.trod (H := Unit) (fun _ => ()) Tryz.prog w 0 (fun _ => true) false fuel t cs
theorem laid_get {P : Program} {W : World} {l : List (String × DataW Unit)} {ps : List MemPlace} (h : DataW.LaidVars P W l ps) {n : String} {d : DataW Unit} (hm : (n, d) ∈ l) : ∃ g t cs fuel p, P.globalNamed n = some g ∧ (P.globals[g]?).map (·.type) = some t ∧ W.var? P n = some cs ∧ DataW.trod (fun _ => ()) P W 0 (fun _ => true) false fuel t cs.toList = some (d, p) := by
 induction l generalizing ps with
 | nil => cases hm
 | cons x l ih =>
  obtain ⟨n0, d0⟩ := x
  obtain ⟨g, t, cs, fuel, p, q, h1, h2, h3, h4, h5, _⟩ := h
  rcases List.mem_cons.mp hm with e | hm
  ·
   cases e; exact ⟨g, t, cs, fuel, p, h1, h2, h3, h4⟩
  ·
   exact ih h5 hm
theorem laid_at {W : World} {l : List (String × DataW Unit)} {ps : List MemPlace} (h : DataW.LaidVars Tryz.prog W l ps) {n : String} {d : DataW Unit} (hm : (n, d) ∈ l) (g t : Nat) (hg : Tryz.prog.globalNamed n = some g) (ht : (Tryz.prog.globals[g]?).map (·.type) = some t) : ∃ cs fuel p, trd W fuel t cs = some (d, p) ∧ ∀ i : Nat, W.cell? ⟨g, i, none⟩ = cs[i]? := by
 obtain ⟨g', t', cs, fuel, p, h1, h2, h3, h4⟩ := laid_get h hm
 obtain rfl := Option.some.inj (hg.symm.trans h1)
 obtain rfl := Option.some.inj (ht.symm.trans h2)
 exact ⟨cs.toList, fuel, p, h4, fun i => by rw [World.var?_cell hg h3 i, Array.getElem?_toList]⟩
theorem trod_float {w : World} {fuel t : Nat} {k : FloatKind} {cs : List Value} {x : DataW Unit × List MemPlace} (ht : Tryz.prog.underlying t = some (.float k)) (h : trd w fuel t cs = some x) : ∃ b, cs = [.float k b] ∧ x = (.lit (.float k b), []) := by
 cases fuel with
 | zero => simp [DataW.trod] at h
 | succ n =>
  unfold DataW.trod at h
  rw [ht] at h
  split at h <;> simp_all
theorem trod_ifc {w : World} {fuel t : Nat} {m : Array (String × TypeId)} {cs : List Value} {s : String} {d : DataW Unit} {p : List MemPlace} (ht : Tryz.prog.underlying t = some (.interface m)) (h : trd w fuel t cs = some (.iface s d, p)) : ∃ u v, cs = [.iface u v] := by
 cases fuel with
 | zero => simp [DataW.trod] at h
 | succ n =>
  unfold DataW.trod at h
  rw [ht] at h
  split at h <;> simp_all
theorem spot_none {w : World} {a : Addr} {v : Value} (h : w.cell? a = some v) : a = ⟨a.block, a.off, none⟩ := by
 obtain ⟨b, o, s⟩ := a
 unfold World.cell? at h
 cases s with
 | none => rfl
 | some s =>
  split at h <;> simp at h
theorem add_plain (b o i : Nat) : (⟨b, o, none⟩ : Addr).add i = ⟨b, o + i, none⟩ := by
 unfold Addr.add
 split
 ·
  rename_i h; rw [h]; rfl
 ·
  rfl
theorem slice_cells {w : World} {fuel t e n : Nat} {cs : List Value} {ds : List (DataW Unit)} {p : List MemPlace} (ht : Tryz.prog.underlying t = some (.slice e)) (hc : Tryz.prog.cellsOf e = n) (hn : 1 ≤ n) (hd : 1 ≤ ds.length) (h : trd w fuel t cs = some (.slice ds [], p)) :
  ∃ lb lo c m, cs = [.slice (some ⟨lb, lo, none⟩) ds.length c] ∧ lb < w.heap.size ∧ ∀ (i : Nat) (d : DataW Unit), ds[i]? = some d → ∃ q vs, trd w m e vs = some (d, q) ∧ vs.length = n ∧ ∀ (j : Nat) (v : Value), vs[j]? = some v → w.cell? ⟨lb, lo + i * n + j, none⟩ = some v := by
 rcases DataW.trod_slice ht h with ⟨_, hx⟩ | ⟨a, len, cap, elems, rest, m, _, hcs, hx, _, hl, _, hlen, hel, _⟩
 ·
  simp at hx
 ·
  simp only [Prod.mk.injEq, DataW.slice.injEq] at hx
  obtain ⟨⟨rfl, _⟩, _⟩ := hx
  have el : (elems.map (·.1)).length = len := by simpa using hlen
  rw [hc] at hel
  have key : ∀ (i : Nat) (d : DataW Unit), (elems.map (·.1))[i]? = some d → ∃ q vs, trd w m e vs = some (d, q) ∧ vs.length = n ∧ ∀ (j : Nat) (v : Value), vs[j]? = some v → w.cell? ((a.add (i * n)).add j) = some v := by
   intro i d hid
   have hi : i < len := by rw [← el]; exact (List.getElem?_eq_some_iff.1 hid).1
   have hE := hel i hi
   rw [List.getElem?_map] at hid
   cases hy : elems[i]? with
   | none => simp [hy] at hid
   | some y =>
    rw [hy] at hE hid
    simp only [Option.map_some, Option.some.injEq] at hid
    simp only [Option.bind_eq_some_iff] at hE
    obtain ⟨vs, hv, hy1⟩ := hE
    unfold World.cells? at hv
    rw [if_pos (Nat.zero_le _)] at hv
    have hvl : vs.length = n := by simpa using Lib.mapM_length hv
    refine ⟨y.2, vs, by rw [← hid]; exact hy1, hvl, fun j v hj => ?_⟩
    have hjn : j < n := by rw [← hvl]; exact (List.getElem?_eq_some_iff.1 hj).1
    obtain ⟨b, hb, hf⟩ := Lib.mapM_at hv j j (by simp [hjn])
    rw [hj] at hb
    cases hb
    exact hf
  obtain ⟨d0, hd0⟩ : ∃ d0, (elems.map (·.1))[0]? = some d0 := ⟨_, List.getElem?_eq_getElem hd⟩
  obtain ⟨_, vs0, _, hv0, hc0⟩ := key 0 d0 hd0
  obtain ⟨v0, hv00⟩ : ∃ v0, vs0[0]? = some v0 := ⟨_, List.getElem?_eq_getElem Y0⟩
  have ha := hc0 0 v0 hv00
  rw [Nat.zero_mul] at ha
  have ha' : w.cell? a = some v0 := by simpa [Addr.add] using ha
  have hap := spot_none ha'
  refine ⟨a.block, a.off, cap, m, by rw [hcs, el, ← hap], World.block_lt_of_cell? w _ ha', fun i d hid => ?_⟩
  obtain ⟨q, vs, h1, h2, h3⟩ := key i d hid
  refine ⟨q, vs, h1, h2, fun j v hj => ?_⟩
  have := h3 j v hj
  rw [hap, add_plain, add_plain] at this
  exact this
theorem one_cell {l : List Value} (h : l.length = 1) : ∃ v, l = [v] := by
 match l, h with
 | [v], _ => exact ⟨v, rfl⟩
theorem struct2 {w : World} {fuel t : Nat} {cs : List Value} {f0 f1 : Field} {d0 d1 : DataW Unit} {p : List MemPlace} (ht : Tryz.prog.underlying t = some (.struct #[f0, f1])) (o0 : f0.offset = 0) (o1 : f1.offset = 1) (c0 : Tryz.prog.cellsOf f0.type = 1) (c1 : Tryz.prog.cellsOf f1.type = 1) (ct : Tryz.prog.cellsOf t = 2) (h : trd w fuel t cs = some (.agg [d0, d1], p)) :
  ∃ v0 v1 m q0 q1, cs = [v0, v1] ∧ trd w m f0.type [v0] = some (d0, q0) ∧ trd w m f1.type [v1] = some (d1, q1) := by
 obtain ⟨xs, n, _, hx, hl, hxl, hf⟩ := DataW.trod_struct ht h
 have hf0 := hf 0 f0 rfl
 have hf1 := hf 1 f1 rfl
 rw [o0, c0] at hf0
 rw [o1, c1] at hf1
 rw [ct] at hl
 match cs, hl, xs, hxl with
 | [v0, v1], _, [x0, x1], _ =>
  injection hx with hx _
  injection hx with hx
  injection hx with e0 hx
  injection hx with e1 _
  exact ⟨v0, v1, n, x0.2, x1.2, rfl, by rw [e0]; exact hf0, by rw [e1]; exact hf1⟩
theorem struct3 {w : World} {fuel t : Nat} {cs : List Value} {f0 f1 f2 : Field} {d0 d1 d2 : DataW Unit} {p : List MemPlace} (ht : Tryz.prog.underlying t = some (.struct #[f0, f1, f2])) (o0 : f0.offset = 0) (o1 : f1.offset = 1) (o2 : f2.offset = 2) (c0 : Tryz.prog.cellsOf f0.type = 1) (c1 : Tryz.prog.cellsOf f1.type = 1) (c2 : Tryz.prog.cellsOf f2.type = 1) (ct : Tryz.prog.cellsOf t = 3) (h : trd w fuel t cs = some (.agg [d0, d1, d2], p)) :
  ∃ v0 v1 v2 m q0 q1 q2, cs = [v0, v1, v2] ∧ trd w m f0.type [v0] = some (d0, q0) ∧ trd w m f1.type [v1] = some (d1, q1) ∧ trd w m f2.type [v2] = some (d2, q2) := by
 obtain ⟨xs, n, _, hx, hl, hxl, hf⟩ := DataW.trod_struct ht h
 have hf0 := hf 0 f0 rfl
 have hf1 := hf 1 f1 rfl
 have hf2 := hf 2 f2 rfl
 rw [o0, c0] at hf0
 rw [o1, c1] at hf1
 rw [o2, c2] at hf2
 rw [ct] at hl
 match cs, hl, xs, hxl with
 | [v0, v1, v2], _, [x0, x1, x2], _ =>
  injection hx with hx _
  injection hx with hx
  injection hx with e0 hx
  injection hx with e1 hx
  injection hx with e2 _
  exact ⟨v0, v1, v2, n, x0.2, x1.2, x2.2, rfl, by rw [e0]; exact hf0, by rw [e1]; exact hf1, by rw [e2]; exact hf2⟩
theorem int_lit {w : World} {fuel t : Nat} {k : IntKind} {v : Value} {z : Int} {q : List MemPlace} (ht : Tryz.prog.underlying t = some (.int k)) (h : trd w fuel t [v] = some (.lit (.int k z), q)) : v = .int k z ∧ (Lit.int k z).wf = true := by
 obtain ⟨n, h1, h2, h3⟩ := DataW.trod_int ht h
 injection h1 with h1 _
 injection h2 with h2 _
 injection h2 with h2
 injection h2 with _ h2
 subst h2
 exact ⟨h1, h3⟩
theorem str_lit {w : World} {fuel t : Nat} {v : Value} {l : List UInt8} {q : List MemPlace} (ht : Tryz.prog.underlying t = some .string) (h : trd w fuel t [v] = some (.lit (.string l), q)) : v = .string ⟨l.toArray⟩ := by
 obtain ⟨s, h1, h2, _⟩ := DataW.trod_string ht h
 injection h1 with h1 _
 injection h2 with h2 _
 injection h2 with h2
 injection h2 with h2
 rw [h1, h2]
variable {W : World} {l : List (String × DataW Unit)} {ps : List MemPlace}
theorem vc_laid (h : DataW.LaidVars Tryz.prog W l ps) (hm : ("pub-tetrapla/pub/gjson.vchars", Rows.laid_pub_tetrapla_pub_gjson_vchars) ∈ l) : VC W := by
 obtain ⟨cs, fuel, p, h1, h2⟩ := laid_at h hm 0 133 Y1 Y1
 have e : (Rows.laid_pub_tetrapla_pub_gjson_vchars : DataW Unit) = Lib.tabData .u8 ((List.range 256).map fun c : Nat => vch (c : Int)) := Y1
 rw [e] at h1
 have hc := Lib.cells_of_tab (n := 256) (e := 5) Tryz.underlying133 Tryz.underlying5 Y1 Y1 h1
 intro c hc256
 rw [h2, hc]
 simp [hc256]
theorem op_laid (h : DataW.LaidVars Tryz.prog W l ps) (hm : ("internal/strconv.optimize", Rows.laid_internal_strconv_optimize) ∈ l) : W.cell? ⟨4, 0, none⟩ = some (.bool true) := by
 obtain ⟨cs, fuel, p, h1, h2⟩ := laid_at h hm 4 4 Y1 Y1
 obtain ⟨b, h3, h4⟩ := DataW.trod_bool Tryz.underlying4 h1
 injection h4 with h4 _
 injection h4 with h4
 injection h4 with h4
 rw [h2, h3, ← h4]
 rfl
theorem fi_laid (h : DataW.LaidVars Tryz.prog W l ps) (hm : ("internal/strconv.float64info", Rows.laid_internal_strconv_float64info) ∈ l) : W.cell? ⟨5, 0, none⟩ = some (.int .u64 52) ∧ W.cell? ⟨5, 1, none⟩ = some (.int .u64 11) ∧ W.cell? ⟨5, 2, none⟩ = some (.int .i64 (-1023)) := by
 obtain ⟨cs, fuel, p, h1, h2⟩ := laid_at h hm 5 182 Y1 Y1
 obtain ⟨v0, v1, v2, m, q0, q1, q2, rfl, a0, a1, a2⟩ := struct3 Tryz.underlying182 rfl rfl rfl Y1 Y1 Y1 Y1 h1
 rw [h2, h2, h2, (int_lit Y1 a0).1, (int_lit Y1 a1).1, (int_lit Y1 a2).1]
 exact ⟨rfl, rfl, rfl⟩
theorem pw_laid (h : DataW.LaidVars Tryz.prog W l ps) (hm : ("internal/strconv.powtab", Rows.laid_internal_strconv_powtab) ∈ l) : ∃ lb lo c : Nat, lb < W.heap.size ∧ W.cell? ⟨7, 0, none⟩ = some (.slice (some ⟨lb, lo, none⟩) 9 c) ∧ ∀ i, i < 9 → ∃ z : Nat, W.cell? ⟨lb, lo + i, none⟩ = some (.int .i64 (z : Int)) ∧ 1 ≤ z ∧ z ≤ 27 := by
 obtain ⟨cs, fuel, p, h1, h2⟩ := laid_at h hm 7 59 Y1 Y1
 have e : (Rows.laid_internal_strconv_powtab : DataW Unit) = .slice (([1, 3, 6, 9, 13, 16, 19, 23, 26] : List Nat).map fun z : Nat => .lit (.int .i64 (z : Int))) [] := Y1
 rw [e] at h1
 obtain ⟨lb, lo, c, m, rfl, hlt, hel⟩ := slice_cells (n := 1) Tryz.underlying59 Y1 Y0 Y4 h1
 refine ⟨lb, lo, c, hlt, by rw [h2]; rfl, fun i hi => ?_⟩
 obtain ⟨z, hz⟩ : ∃ z, ([1, 3, 6, 9, 13, 16, 19, 23, 26] : List Nat)[i]? = some z := ⟨_, List.getElem?_eq_getElem hi⟩
 have hb : ∀ z ∈ ([1, 3, 6, 9, 13, 16, 19, 23, 26] : List Nat), 1 ≤ z ∧ z ≤ 27 := Y5
 have hzb := hb z (List.mem_of_getElem? hz)
 obtain ⟨q, vs, h3, h4, h5⟩ := hel i (.lit (.int .i64 (z : Int))) (by rw [List.getElem?_map, hz]; rfl)
 obtain ⟨v, rfl⟩ := one_cell h4
 refine ⟨z, ?_, hzb⟩
 have := h5 0 v rfl
 rw [Nat.mul_one, Nat.add_zero] at this
 rw [this, (int_lit Tryz.underlying3 h3).1]
theorem fp_laid (h : DataW.LaidVars Tryz.prog W l ps) (hm : ("internal/strconv.float64pow10", Rows.laid_internal_strconv_float64pow10) ∈ l) : ∃ lb lo c : Nat, lb < W.heap.size ∧ W.cell? ⟨8, 0, none⟩ = some (.slice (some ⟨lb, lo, none⟩) 23 c) ∧ ∀ i, i < 23 → ∃ f : Nat, W.cell? ⟨lb, lo + i, none⟩ = some (.float .f64 f) := by
 obtain ⟨cs, fuel, p, h1, h2⟩ := laid_at h hm 8 218 Y1 Y1
 obtain ⟨ds, hds, hdl⟩ : ∃ ds : List (DataW Unit), (Rows.laid_internal_strconv_float64pow10 : DataW Unit) = .slice ds [] ∧ ds.length = 23 := ⟨_, rfl, rfl⟩
 rw [hds] at h1
 obtain ⟨lb, lo, c, m, rfl, hlt, hel⟩ := slice_cells (n := 1) Tryz.underlying218 Y1 Y0 Y0 h1
 refine ⟨lb, lo, c, hlt, by rw [h2, hdl]; rfl, fun i hi => ?_⟩
 obtain ⟨d, hd⟩ : ∃ d, ds[i]? = some d := ⟨_, List.getElem?_eq_getElem Y0⟩
 obtain ⟨q, vs, h3, h4, h5⟩ := hel i d hd
 obtain ⟨b, h6, _⟩ := trod_float Tryz.underlying32 h3
 subst h6
 have := h5 0 _ rfl
 rw [Nat.mul_one, Nat.add_zero] at this
 exact ⟨b, this⟩
theorem lc_laid (h : DataW.LaidVars Tryz.prog W l ps) (hm : ("internal/strconv.leftcheats", Rows.laid_internal_strconv_leftcheats) ∈ l) : LC W W.heap.size := by
 obtain ⟨cs, fuel, p, h1, h2⟩ := laid_at h hm 10 234 Y1 Y1
 have e : (Rows.laid_internal_strconv_leftcheats : DataW Unit) = .slice (Pinned.cheatRows.map fun x => .agg [.lit (.int .i64 x.1), .lit (.string x.2)]) [] := Y1
 have hl : Pinned.cheatRows.length = 61 := Y1
 rw [e] at h1
 obtain ⟨lb, lo, c, m, rfl, hlt, hel⟩ := slice_cells (n := 2) Tryz.underlying234 Y1 Y0 (by simp [hl]) h1
 have h10 : W.cell? ⟨10, 0, none⟩ = some (.slice (some ⟨lb, lo, none⟩) 61 c) := by rw [h2]; simp [hl]
 refine ⟨World.block_lt_of_cell? W _ h10, lb, lo, c, hlt, h10, fun i hi => ?_⟩
 obtain ⟨x, hx⟩ : ∃ x, Pinned.cheatRows[i]? = some x := ⟨_, List.getElem?_eq_getElem Y0⟩
 have hc : cheat i = x := by unfold cheat; rw [List.getD_eq_getElem?_getD, hx]; rfl
 obtain ⟨q, vs, h3, h4, h5⟩ := hel i _ (by rw [List.getElem?_map, hx]; rfl)
 obtain ⟨v0, v1, m2, q0, q1, rfl, a0, a1⟩ := struct2 Tryz.underlying233 rfl rfl Y1 Y1 Y1 h3
 have g0 := h5 0 v0 rfl
 rw [Nat.add_zero] at g0
 rw [hc, g0, h5 1 v1 rfl, (int_lit Y1 a0).1, str_lit Y1 a1]
 exact ⟨rfl, rfl⟩
theorem er_laid (h : DataW.LaidVars Tryz.prog W l ps) (hm : ("strconv.ErrSyntax", Rows.laid_strconv_ErrSyntax) ∈ l) : ∃ t v, W.cell? ⟨1, 0, none⟩ = some (.iface t v) := by
 obtain ⟨cs, fuel, p, h1, h2⟩ := laid_at h hm 1 117 Y1 Y1
 obtain ⟨u, v, rfl⟩ := trod_ifc Tryz.underlying117 h1
 exact ⟨u, v, by rw [h2]; rfl⟩
theorem er2_laid (h : DataW.LaidVars Tryz.prog W l ps) (hm : ("strconv.ErrRange", Rows.laid_strconv_ErrRange) ∈ l) : ∃ t v, W.cell? ⟨2, 0, none⟩ = some (.iface t v) := by
 obtain ⟨cs, fuel, p, h1, h2⟩ := laid_at h hm 2 117 Y1 Y1
 obtain ⟨u, v, rfl⟩ := trod_ifc Tryz.underlying117 h1
 exact ⟨u, v, by rw [h2]; rfl⟩
theorem u64_wf {z : Int} (h : (Lit.int .u64 z).wf = true) : 0 ≤ z ∧ z < 18446744073709551616 := by
 simp [Lit.wf, IntKind.min, IntKind.max, IntKind.signed, IntKind.bits] at h
 omega
theorem pt_laid (h : DataW.LaidVars Tryz.prog W l ps) (hm : ("internal/strconv.pow10Tab", Rows.laid_internal_strconv_pow10Tab) ∈ l) : ∀ i, i < 696 → ∃ y z : Int, W.cell? ⟨9, i * 2, none⟩ = some (.int .u64 y) ∧ W.cell? ⟨9, i * 2 + 1, none⟩ = some (.int .u64 z) ∧ 0 ≤ y ∧ y < 18446744073709551616 ∧ 0 ≤ z ∧ z < 18446744073709551616 := by
 obtain ⟨cs, fuel, p, h1, h2⟩ := laid_at h hm 9 223 Y1 Y1
 have e : (Rows.laid_internal_strconv_pow10Tab : DataW Unit) = .agg (Pinned.pow10Rows.map fun x => .agg [.lit (.int .u64 x.1), .lit (.int .u64 x.2)]) := Y1
 have hl : Pinned.pow10Rows.length = 696 := Y1
 rw [e] at h1
 obtain ⟨xs, m, _, hx, hcl, hxl, hf⟩ := DataW.trod_array Tryz.underlying223 h1
 injection hx with hx _
 injection hx with hx
 intro i hi
 obtain ⟨x, hxi⟩ : ∃ x, Pinned.pow10Rows[i]? = some x := ⟨_, List.getElem?_eq_getElem Y0⟩
 have hg := congrArg (·[i]?) hx
 simp only [List.getElem?_map, hxi, Option.map_some] at hg
 obtain ⟨y, hy⟩ : ∃ y, xs[i]? = some y := ⟨_, List.getElem?_eq_getElem Y0⟩
 rw [hy] at hg
 have hfi := hf i hi
 rw [hy] at hfi
 injection hg with hg
 obtain ⟨y1, y2⟩ := y
 have hg' : y1 = .agg [.lit (.int .u64 x.1), .lit (.int .u64 x.2)] := hg.symm
 subst hg'
 obtain ⟨v0, v1, m2, q0, q1, hcs, a0, a1⟩ := struct2 Tryz.underlying222 rfl rfl Y1 Y1 Y1 hfi
 have c2 : Tryz.prog.cellsOf 222 = 2 := Y1
 rw [c2] at hcs
 have g0 : cs[i * 2]? = some v0 := by
  have := congrArg (·[0]?) hcs
  simpa [List.getElem?_take, List.getElem?_drop] using this
 have g1 : cs[i * 2 + 1]? = some v1 := by
  have := congrArg (·[1]?) hcs
  simpa [List.getElem?_take, List.getElem?_drop] using this
 obtain ⟨r0, s0⟩ := int_lit (k := .u64) Y1 a0
 obtain ⟨r1, s1⟩ := int_lit (k := .u64) Y1 a1
 refine ⟨_, _, by rw [h2, g0, r0], by rw [h2, g1, r1], (u64_wf s0).1, (u64_wf s0).2, (u64_wf s1).1, (u64_wf s1).2⟩
end Go.Proofs.YtieflhncpjjciaaGreatDoor.Dc
