/- Walks and plain laws of this claim. -/
import Derived.Test.YtieflhncpjjciaaGreatDoorByP
import Derived.Test.YtieflhncpjjciaaGreatDoorByH
import Derived.Deep.RegionHeld3
import Derived.BigQuiet
import Derived.Test.YtieflhncpjjciaaGreatDoorByA
set_option maxHeartbeats 8000000
set_option maxRecDepth 100000
set_option linter.unusedVariables false
set_option linter.unusedSimpArgs false
namespace Go.Proofs.YtieflhncpjjciaaGreatDoor.Dc
open Go Go.RowKit Go.Proofs.YtieflhncpjjciaaGreatDoorW.PrintWords Go.Proofs.YtieflhncpjjciaaGreatDoor.PFnGjSquashItems
theorem results_ct {P:Program} {fn:Func} {p v:Tmp} {ty:TypeId} (h:fn.results=#[.cell p ty,.tmp v]) (tmps:Array Value) (w:World) (b:Nat) (cs:List Value) (d:TypeDesc) (hp:tmps.getD p undef = .pointer (some ⟨b,0,none⟩)) (hc:w.rangeAt b 0 cs) (hu:P.underlying ty=some d) (hd:d.isRow=true) (hi:(P.info? ty).map (·.size)=some cs.length):(results fn tmps).run P w = .ok (.tuple #[.agg cs.toArray,tmps.getD v undef]) w:=by
 have hp':tmps[p]?.getD undef = .pointer (some ⟨b,0,none⟩):=by simpa using hp
 simp [results,h,hp',asAddr,run_loadVar_mid w b 0 ty cs d hc hu hd hi]
section
variable {α:Type} {d:Kd α} {e base B:Nat} {w w':World} {v:Value} {xs:List α}
theorem r_off {ok:Nat→Prop} (h:d.R e w base ok v xs) (hb:B<base):d.R e w base (fun k=>k≠B) v xs:=Kd.R_mono (Kd.R_bound h) (fun k hk=>by have:=hk.2.1;omega)
theorem r_bel (h:d.R e w base (fun k=>k≠B) v xs) (hb:Below w.heap.size w w'):d.R e w' base (fun k=>k≠B) v xs:=Kd.R_mono (Kd.R_below (Kd.R_bound h) hb) (fun k hk=>hk.1)
theorem r_set (h:d.R e w base (fun k=>k≠B) v xs):∀ (vs:List Value) (o:Nat),d.R e (w.setCells B o vs) base (fun k=>k≠B) v xs:=by
 intro vs
 induction vs generalizing w with
 | nil=>intro o;exact h
 | cons u r ih=>
  intro o
  rw [World.setCells]
  exact ih (Kd.R_far (p:=⟨B,o,none⟩) h (fun k hk=>hk) u) (o+1)
end
def BarePost (r1:Int) (r2:ByteArray) (r3:List ByteArray) (r4:List S26) (ok:Bool) (w:World) (e:Ending) (w':World):Prop:=
 ∃ A2 c2 A3 c3,e = .returned (.tuple #[.agg #[.int .i64 r1,.string r2,.slice A2 r3.length c2,.slice A3 r4.length c3],.bool ok])∧Kd.C Kd.string w' A2 r3.length r3∧r3.length≤c2∧Kd.C k26 w' A3 r4.length r4∧r4.length≤c3∧Below w.heap.size w w'
theorem bare_no {s:ByteArray} {r1:Int} {r2:ByteArray} {r3:List ByteArray} {r4:List S26} {k0:Nat} (hk0:laws_gjText.f k0 s=some (r1,r2,r3,r4,false)) (w:World):Calls Tryz.prog 17 #[.string s] w (BarePost r1 r2 r3 r4 false w):=by
 obtain ⟨B,hB⟩:∃ B,w.heap.size=B:=⟨_,rfl⟩
 have GC2:Hid (∀ w,Calls Tryz.prog 12 #[.string s] w fun e w'=>∃ v2_ v3_:Value,e = .returned (.tuple #[.agg #[.int .i64 r1,.string r2,v2_,v3_],.bool false])∧Kd.R Kd.string 9 w' w.heap.size (fun _=>True) v2_ r3∧Kd.R k26 26 w' w.heap.size (fun k_=>some k_≠(v2_:Value).ownBlock) v3_ r4∧Below w.heap.size w w'):=hdd (fun w=>laws_gjText.calls k0 s r1 r2 r3 r4 false w hk0)
 clear hk0
 go_enter Tryz.func17,Tryz.ntmps17
 go_upto_region 1 with (fail)
 obtain ⟨w0,hw0⟩:∃ w0,w.alloc (Obj.cells #[.int .i64 0,.string ⟨#[]⟩,.slice none 0 0,.slice none 0 0] 26)=w0:=⟨_,rfl⟩
 have s0:w0.heap.size=B+1:=Yy42
 have B0:Hid (Below B w w0):=hdd Yy82
 have T0:Hid (w0.there B 0 4):=hdd Yy54
 rw [hw0]
 clear hw0
 have S0:=hdd s0
 clear s0
 go_upto_region 2 with (go_at_call 12;refine (GC2.out _).mono ?_;rintro en w1 ⟨v2,v3,rfl,hR2,hR3,hb1⟩;obtain ⟨A2,cc2,rfl,hl2,hC2⟩:=Kd.R_reads hR2;obtain ⟨A3,c3,rfl,hl3,hC3⟩:=Kd.R_reads hR3;have B1:=hdd (B0.out.trans (hb1.mono Yy16));have T1:=hdd (thr_b T0.out hb1);have Z1:Hid (B+1≤w1.heap.size):=hdd Yy55;have KC2:=hdd (r_off (B:=B) hR2 Yy16);have KC3:=hdd (r_off (B:=B) hR3 Yy16);have L2:=hdd hl2;have L3:=hdd hl3;clear hR2 hR3 hb1 hl2 hC2 hl3 hC3)
 obtain ⟨N,hN⟩:∃ N,w1.heap.size=N:=⟨_,rfl⟩
 obtain ⟨wA,hwA⟩:∃ wA,w1.alloc (Obj.cells #[.int .i64 r1,.string r2,.slice A2 r3.length cc2,.slice A3 r4.length c3] 26)=wA:=⟨_,rfl⟩
 have bA:Hid (Below w1.heap.size w1 wA):=hdd Yy56
 have RA:Hid (wA.rangeAt N 0 [.int .i64 r1,.string r2,.slice A2 r3.length cc2,.slice A3 r4.length c3]):=hdd Yy57
 have BN:B≠N:=Yy24
 rw [hwA]
 try rw [hN]
 clear hwA hN
 have TA:Hid (wA.there B 0 4):=hdd (thr_b T1.out bA.out)
 have BA:Hid (Below B w wA):=hdd (B1.out.trans (bA.out.mono Yy24))
 have CA2:=hdd (r_bel KC2.out bA.out)
 have CA3:=hdd (r_bel KC3.out bA.out)
 refine wp_region_held_drew (S:=fun w'=>w'.rangeAt N 0 [.int .i64 r1,.string r2,.slice A2 r3.length cc2,.slice A3 r4.length c3]∧w'.there B 0 4) Yy1 ⟨rng_d RA.out,thr_d TA.out⟩ (fun hHeld=>?_)
 refine take_d (i:=0) (v:=_) (some 11) rfl rfl Yy1 Yy1 Yy1 (fun _ _ _ h=>h) (yieldsIf_load_mid Yy2 _ _ rfl _ _ rfl _ _ (fun _ h=>h.1) Tryz.underlying26 rfl Yy1) hHeld ?_
 simp only [Act.put,List.setIfInBounds_toArray,List.set_cons_zero,List.set_cons_succ]
 refine take_d (i:=1) (v:=.bool false) (some 12) rfl rfl Yy1 Yy1 Yy1 (fun _ _ _ h=>h) (Or.inl ⟨Yy2,fun _ _=>rfl⟩) hHeld ?_
 simp only [Act.put,List.setIfInBounds_toArray,List.set_cons_zero,List.set_cons_succ]
 refine take_d (i:=2) (v:=.bool false) (some 13) rfl rfl Yy1 Yy1 Yy1 (fun _ _ _ h=>h) (Or.inl ⟨Yy2,fun _ _=>rfl⟩) hHeld ?_
 simp only [Act.put,List.setIfInBounds_toArray,List.set_cons_zero,List.set_cons_succ]
 refine take_d (i:=3) (v:=_) (some 14) rfl rfl Yy1 Yy1 Yy1 (fun _ _ _ h=>h) (Or.inr ⟨Yy2,rfl⟩) hHeld ?_
 simp only [Act.put,List.setIfInBounds_toArray,List.set_cons_zero,List.set_cons_succ]
 refine take_d (i:=4) (v:=_) (some 15) rfl rfl Yy1 Yy1 Yy1 (fun _ _ _ h=>h) (Or.inr ⟨Yy2,rfl⟩) hHeld ?_
 simp only [Act.put,List.setIfInBounds_toArray,List.set_cons_zero,List.set_cons_succ]
 refine take_d (i:=5) (v:=.bool false) (some 16) rfl rfl Yy1 Yy1 Yy1 (fun _ _ _ h=>h) (Or.inl ⟨Yy2,fun _ _=>rfl⟩) hHeld ?_
 simp only [Act.put,List.setIfInBounds_toArray,List.set_cons_zero,List.set_cons_succ]
 refine take_d (i:=6) (v:=.bool false) (some 17) rfl rfl Yy1 Yy1 Yy1 (fun _ _ _ h=>h) (Or.inl ⟨Yy2,fun _ _=>rfl⟩) hHeld ?_
 simp only [Act.put,List.setIfInBounds_toArray,List.set_cons_zero,List.set_cons_succ]
 refine take_d (i:=7) (v:=_) (some 18) rfl rfl Yy1 Yy1 Yy1 (fun _ _ _ h=>h) (Or.inr ⟨Yy2,rfl⟩) hHeld ?_
 simp only [Act.put,List.setIfInBounds_toArray,List.set_cons_zero,List.set_cons_succ]
 refine take_d (i:=8) (v:=_) (some 19) rfl rfl Yy1 Yy1 Yy1 (fun _ _ _ h=>h) (Or.inr ⟨Yy2,rfl⟩) hHeld ?_
 simp only [Act.put,List.setIfInBounds_toArray,List.set_cons_zero,List.set_cons_succ]
 refine take_d (i:=9) (v:=_) (some 20) rfl rfl Yy1 Yy1 Yy1 (fun _ _ _ h=>h) (Or.inr ⟨Yy2,rfl⟩) hHeld ?_
 simp only [Act.put,List.setIfInBounds_toArray,List.set_cons_zero,List.set_cons_succ]
 refine take_d (i:=10) (v:=_) (some 21) rfl rfl Yy1 Yy1 Yy1 (fun _ _ _ h=>h) (Or.inr ⟨Yy2,rfl⟩) hHeld ?_
 simp only [Act.put,List.setIfInBounds_toArray,List.set_cons_zero,List.set_cons_succ]
 refine take_d (i:=11) (v:=.bool false) (some 22) rfl rfl Yy1 Yy1 Yy1 (fun _ _ _ h=>h) (Or.inl ⟨Yy2,fun _ _=>rfl⟩) hHeld ?_
 simp only [Act.put,List.setIfInBounds_toArray,List.set_cons_zero,List.set_cons_succ]
 refine take_d (i:=12) (v:=.bool false) (some 23) rfl rfl Yy1 Yy1 Yy1 (fun _ _ _ h=>h) (Or.inl ⟨Yy2,fun _ _=>rfl⟩) hHeld ?_
 simp only [Act.put,List.setIfInBounds_toArray,List.set_cons_zero,List.set_cons_succ]
 refine take_d (i:=13) (v:=_) (some 24) rfl rfl Yy1 Yy1 Yy1 (fun _ _ _ h=>h) (Or.inr ⟨Yy2,rfl⟩) hHeld ?_
 simp only [Act.put,List.setIfInBounds_toArray,List.set_cons_zero,List.set_cons_succ]
 refine take_d (i:=14) (v:=_) (some 25) rfl rfl Yy1 Yy1 Yy1 (fun _ _ _ h=>h) (Or.inr ⟨Yy2,rfl⟩) hHeld ?_
 simp only [Act.put,List.setIfInBounds_toArray,List.set_cons_zero,List.set_cons_succ]
 refine take_d (i:=15) (v:=_) (some 26) rfl rfl Yy1 Yy1 Yy1 (fun _ _ _ h=>h) (Or.inr ⟨Yy2,rfl⟩) hHeld ?_
 simp only [Act.put,List.setIfInBounds_toArray,List.set_cons_zero,List.set_cons_succ]
 refine take_d (i:=16) (v:=_) (some 27) rfl rfl Yy1 Yy1 Yy1 (fun _ _ _ h=>h) (Or.inr ⟨Yy2,rfl⟩) hHeld ?_
 simp only [Act.put,List.setIfInBounds_toArray,List.set_cons_zero,List.set_cons_succ]
 refine take_d (i:=17) (v:=_) (some 28) rfl rfl Yy1 Yy1 Yy1 (fun _ _ _ h=>h) (Or.inr ⟨Yy2,rfl⟩) hHeld ?_
 simp only [Act.put,List.setIfInBounds_toArray,List.set_cons_zero,List.set_cons_succ]
 refine take_d (i:=18) (v:=_) (some 29) rfl rfl Yy1 Yy1 Yy1 (fun _ _ _ h=>h) (Or.inr ⟨Yy2,rfl⟩) hHeld ?_
 simp only [Act.put,List.setIfInBounds_toArray,List.set_cons_zero,List.set_cons_succ]
 refine take_d (i:=19) (v:=_) (some 30) rfl rfl Yy1 Yy1 Yy1 (fun _ _ _ h=>h) (Or.inr ⟨Yy2,rfl⟩) hHeld ?_
 simp only [Act.put,List.setIfInBounds_toArray,List.set_cons_zero,List.set_cons_succ]
 refine take_d (i:=20) (v:=.bool false) (some 31) rfl rfl Yy1 Yy1 Yy1 (fun _ _ _ h=>h) (Or.inl ⟨Yy2,fun _ _=>rfl⟩) hHeld ?_
 simp only [Act.put,List.setIfInBounds_toArray,List.set_cons_zero,List.set_cons_succ]
 refine wpAnyH_ready (rs:=[21]) Yy1 Yy4 (cons_d none rfl rfl (fun K hK=>?_) AllReadyH.nil)
 rw [if_pos Yy2]
 refine store_d rfl _ _ _ rfl _ _ (List.toArray [.int .i64 r1,.string r2,.slice A2 r3.length cc2,.slice A3 r4.length c3]) rfl rfl hHeld.2 Yy1 Yy44 ?_
 refine hK.out _ _ ⟨World.rangeAt_setCells_apart hHeld.1 _ _ _ (Or.inl (fun h=>BN h.symm)),World.there_setCells hHeld.2 _ _ _⟩ (fun hHz=>?_)
 clear hK K
 refine take_d (i:=22) (v:=.bool false) (some 3) rfl rfl Yy1 Yy1 Yy1 (fun _ _ _ h=>h) (Or.inl ⟨Yy2,fun _ _=>rfl⟩) hHz ?_
 simp only [Act.put,List.setIfInBounds_toArray,List.set_cons_zero,List.set_cons_succ]
 refine wpAnyH_done Yy1 ?_ _
 have FR:Hid (World.rangeAt (World.setCells (wA.drew) B 0 [.int .i64 r1,.string r2,.slice A2 r3.length cc2,.slice A3 r4.length c3]) B 0 [.int .i64 r1,.string r2,.slice A2 r3.length cc2,.slice A3 r4.length c3]):=hdd (World.rangeAt_setCells_same _ _ _ _ hHeld.2)
 have FB:Hid (Below B w (World.setCells (wA.drew) B 0 [.int .i64 r1,.string r2,.slice A2 r3.length cc2,.slice A3 r4.length c3])):=hdd (Below.cellsN (nlr B) _ 0 _ (BA.out.drew))
 have F2:=hdd (r_set (r_bel CA2.out ((Below.refl _ wA).drew)) [.int .i64 r1,.string r2,.slice A2 r3.length cc2,.slice A3 r4.length c3] 0)
 have F3:=hdd (r_set (r_bel CA3.out ((Below.refl _ wA).drew)) [.int .i64 r1,.string r2,.slice A2 r3.length cc2,.slice A3 r4.length c3] 0)
 go_wp2_with fail
 refine bodyPost_ret (results_ct rfl _ _ B _ _ rfl FR.out Tryz.underlying26 rfl Yy1) rfl ?_
 exact ⟨A2,cc2,A3,c3,rfl,(Kd.R_reads' F2.out).2.2,L2.out,(Kd.R_reads' F3.out).2.2,L3.out,Yy58⟩
theorem bare_nu {s:ByteArray} {r1:Int} {r2:ByteArray} {r3:List ByteArray} {r4:List S26} {k0:Nat} (hk0:laws_gjText.f k0 s=some (r1,r2,r3,r4,true)) {k1:Nat} (hk1:spec_Unique.f k1 r1 r2 r3 r4=some false) (w:World):Calls Tryz.prog 17 #[.string s] w (BarePost r1 r2 r3 r4 false w):=by
 obtain ⟨B,hB⟩:∃ B,w.heap.size=B:=⟨_,rfl⟩
 have GC2:Hid (∀ w,Calls Tryz.prog 12 #[.string s] w fun e w'=>∃ v2_ v3_:Value,e = .returned (.tuple #[.agg #[.int .i64 r1,.string r2,v2_,v3_],.bool true])∧Kd.R Kd.string 9 w' w.heap.size (fun _=>True) v2_ r3∧Kd.R k26 26 w' w.heap.size (fun k_=>some k_≠(v2_:Value).ownBlock) v3_ r4∧Below w.heap.size w w'):=hdd (fun w=>laws_gjText.calls k0 s r1 r2 r3 r4 true w hk0)
 have UC:=hdd hk1
 clear hk1
 clear hk0
 go_enter Tryz.func17,Tryz.ntmps17
 go_upto_region 1 with (fail)
 obtain ⟨w0,hw0⟩:∃ w0,w.alloc (Obj.cells #[.int .i64 0,.string ⟨#[]⟩,.slice none 0 0,.slice none 0 0] 26)=w0:=⟨_,rfl⟩
 have s0:w0.heap.size=B+1:=Yy42
 have B0:Hid (Below B w w0):=hdd Yy82
 have T0:Hid (w0.there B 0 4):=hdd Yy54
 rw [hw0]
 clear hw0
 have S0:=hdd s0
 clear s0
 go_upto_region 2 with (go_at_call 12;refine (GC2.out _).mono ?_;rintro en w1 ⟨v2,v3,rfl,hR2,hR3,hb1⟩;obtain ⟨A2,cc2,rfl,hl2,hC2⟩:=Kd.R_reads hR2;obtain ⟨A3,c3,rfl,hl3,hC3⟩:=Kd.R_reads hR3;have B1:=hdd (B0.out.trans (hb1.mono Yy16));have T1:=hdd (thr_b T0.out hb1);have Z1:Hid (B+1≤w1.heap.size):=hdd Yy55;have KC2:=hdd (r_off (B:=B) hR2 Yy16);have KC3:=hdd (r_off (B:=B) hR3 Yy16);have L2:=hdd hl2;have L3:=hdd hl3;clear hR2 hR3 hb1 hl2 hC2 hl3 hC3)
 obtain ⟨N,hN⟩:∃ N,w1.heap.size=N:=⟨_,rfl⟩
 obtain ⟨wA,hwA⟩:∃ wA,w1.alloc (Obj.cells #[.int .i64 r1,.string r2,.slice A2 r3.length cc2,.slice A3 r4.length c3] 26)=wA:=⟨_,rfl⟩
 have bA:Hid (Below w1.heap.size w1 wA):=hdd Yy56
 have RA:Hid (wA.rangeAt N 0 [.int .i64 r1,.string r2,.slice A2 r3.length cc2,.slice A3 r4.length c3]):=hdd Yy57
 have BN:B≠N:=Yy24
 rw [hwA]
 try rw [hN]
 clear hwA hN
 have TA:Hid (wA.there B 0 4):=hdd (thr_b T1.out bA.out)
 have BA:Hid (Below B w wA):=hdd (B1.out.trans (bA.out.mono Yy24))
 have CA2:=hdd (r_bel KC2.out bA.out)
 have CA3:=hdd (r_bel KC3.out bA.out)
 refine wp_region_held_drew (S:=fun w'=>w'.rangeAt N 0 [.int .i64 r1,.string r2,.slice A2 r3.length cc2,.slice A3 r4.length c3]∧w'.there B 0 4) Yy1 ⟨rng_d RA.out,thr_d TA.out⟩ (fun hHeld=>?_)
 refine take_d (i:=0) (v:=_) (some 11) rfl rfl Yy1 Yy1 Yy1 (fun _ _ _ h=>h) (yieldsIf_load_mid Yy2 _ _ rfl _ _ rfl _ _ (fun _ h=>h.1) Tryz.underlying26 rfl Yy1) hHeld ?_
 simp only [Act.put,List.setIfInBounds_toArray,List.set_cons_zero,List.set_cons_succ]
 refine take_d (i:=1) (v:=.bool true) (some 12) rfl rfl Yy1 Yy1 Yy1 (fun _ _ _ h=>h) (Or.inl ⟨Yy2,fun _ _=>rfl⟩) hHeld ?_
 simp only [Act.put,List.setIfInBounds_toArray,List.set_cons_zero,List.set_cons_succ]
 refine take_d (i:=2) (v:=.bool true) (some 13) rfl rfl Yy1 Yy1 Yy1 (fun _ _ _ h=>h) (Or.inl ⟨Yy2,fun _ _=>rfl⟩) hHeld ?_
 simp only [Act.put,List.setIfInBounds_toArray,List.set_cons_zero,List.set_cons_succ]
 refine take_d (i:=3) (v:=_) (some 14) rfl rfl Yy1 Yy1 Yy1 (fun _ _ _ h=>h) (yieldsIf_load_mid Yy2 _ _ rfl _ _ rfl _ _ (fun _ h=>h.1) Tryz.underlying26 rfl Yy1) hHeld ?_
 simp only [Act.put,List.setIfInBounds_toArray,List.set_cons_zero,List.set_cons_succ]
 refine wpAnyH_ready (rs:=[4]) Yy1 Yy4 (cons_d (some 15) rfl rfl (fun K hK=>?_) AllReadyH.nil)
 rw [if_pos Yy2]
 go_simp
 with_reducible refine (spec_Unique.calls k1 r1 r2 A2 cc2 r3 A3 c3 r4 _ _ (Kd.R_reads' (r_bel CA2.out ((Below.refl _ wA).drew))).2.2 L2.out (Kd.R_reads' (r_bel CA3.out ((Below.refl _ wA).drew))).2.2 L3.out UC.out).mono ?_
 rintro en x1 ⟨rfl,hb1x⟩
 dsimp only
 refine hK.out _ _ ⟨rng_b hHeld.1 hb1x,thr_b hHeld.2 hb1x⟩ (fun hH1=>?_)
 have BX1:Hid (Below B w x1):=hdd ((BA.out.drew).trans (hb1x.mono Yy65))
 have D21:=hdd (r_bel (r_bel CA2.out ((Below.refl _ wA).drew)) hb1x)
 have D31:=hdd (r_bel (r_bel CA3.out ((Below.refl _ wA).drew)) hb1x)
 clear hK K hHeld hb1x
 refine take_d (i:=5) (v:=.bool false) (some 16) rfl rfl Yy1 Yy1 Yy1 (fun _ _ _ h=>h) (Or.inl ⟨Yy2,fun _ _=>rfl⟩) hH1 ?_
 simp only [Act.put,List.setIfInBounds_toArray,List.set_cons_zero,List.set_cons_succ]
 refine take_d (i:=6) (v:=.bool false) (some 17) rfl rfl Yy1 Yy1 Yy1 (fun _ _ _ h=>h) (Or.inl ⟨Yy2,fun _ _=>rfl⟩) hH1 ?_
 simp only [Act.put,List.setIfInBounds_toArray,List.set_cons_zero,List.set_cons_succ]
 refine take_d (i:=7) (v:=_) (some 18) rfl rfl Yy1 Yy1 Yy1 (fun _ _ _ h=>h) (Or.inr ⟨Yy2,rfl⟩) hH1 ?_
 simp only [Act.put,List.setIfInBounds_toArray,List.set_cons_zero,List.set_cons_succ]
 refine take_d (i:=8) (v:=_) (some 19) rfl rfl Yy1 Yy1 Yy1 (fun _ _ _ h=>h) (Or.inr ⟨Yy2,rfl⟩) hH1 ?_
 simp only [Act.put,List.setIfInBounds_toArray,List.set_cons_zero,List.set_cons_succ]
 refine take_d (i:=9) (v:=_) (some 20) rfl rfl Yy1 Yy1 Yy1 (fun _ _ _ h=>h) (Or.inr ⟨Yy2,rfl⟩) hH1 ?_
 simp only [Act.put,List.setIfInBounds_toArray,List.set_cons_zero,List.set_cons_succ]
 refine take_d (i:=10) (v:=_) (some 21) rfl rfl Yy1 Yy1 Yy1 (fun _ _ _ h=>h) (Or.inr ⟨Yy2,rfl⟩) hH1 ?_
 simp only [Act.put,List.setIfInBounds_toArray,List.set_cons_zero,List.set_cons_succ]
 refine take_d (i:=11) (v:=.bool false) (some 22) rfl rfl Yy1 Yy1 Yy1 (fun _ _ _ h=>h) (Or.inl ⟨Yy2,fun _ _=>rfl⟩) hH1 ?_
 simp only [Act.put,List.setIfInBounds_toArray,List.set_cons_zero,List.set_cons_succ]
 refine take_d (i:=12) (v:=.bool false) (some 23) rfl rfl Yy1 Yy1 Yy1 (fun _ _ _ h=>h) (Or.inl ⟨Yy2,fun _ _=>rfl⟩) hH1 ?_
 simp only [Act.put,List.setIfInBounds_toArray,List.set_cons_zero,List.set_cons_succ]
 refine take_d (i:=13) (v:=_) (some 24) rfl rfl Yy1 Yy1 Yy1 (fun _ _ _ h=>h) (Or.inr ⟨Yy2,rfl⟩) hH1 ?_
 simp only [Act.put,List.setIfInBounds_toArray,List.set_cons_zero,List.set_cons_succ]
 refine take_d (i:=14) (v:=_) (some 25) rfl rfl Yy1 Yy1 Yy1 (fun _ _ _ h=>h) (Or.inr ⟨Yy2,rfl⟩) hH1 ?_
 simp only [Act.put,List.setIfInBounds_toArray,List.set_cons_zero,List.set_cons_succ]
 refine take_d (i:=15) (v:=_) (some 26) rfl rfl Yy1 Yy1 Yy1 (fun _ _ _ h=>h) (Or.inr ⟨Yy2,rfl⟩) hH1 ?_
 simp only [Act.put,List.setIfInBounds_toArray,List.set_cons_zero,List.set_cons_succ]
 refine take_d (i:=16) (v:=_) (some 27) rfl rfl Yy1 Yy1 Yy1 (fun _ _ _ h=>h) (Or.inr ⟨Yy2,rfl⟩) hH1 ?_
 simp only [Act.put,List.setIfInBounds_toArray,List.set_cons_zero,List.set_cons_succ]
 refine take_d (i:=17) (v:=_) (some 28) rfl rfl Yy1 Yy1 Yy1 (fun _ _ _ h=>h) (Or.inr ⟨Yy2,rfl⟩) hH1 ?_
 simp only [Act.put,List.setIfInBounds_toArray,List.set_cons_zero,List.set_cons_succ]
 refine take_d (i:=18) (v:=_) (some 29) rfl rfl Yy1 Yy1 Yy1 (fun _ _ _ h=>h) (Or.inr ⟨Yy2,rfl⟩) hH1 ?_
 simp only [Act.put,List.setIfInBounds_toArray,List.set_cons_zero,List.set_cons_succ]
 refine take_d (i:=19) (v:=_) (some 30) rfl rfl Yy1 Yy1 Yy1 (fun _ _ _ h=>h) (Or.inr ⟨Yy2,rfl⟩) hH1 ?_
 simp only [Act.put,List.setIfInBounds_toArray,List.set_cons_zero,List.set_cons_succ]
 refine take_d (i:=20) (v:=.bool false) (some 31) rfl rfl Yy1 Yy1 Yy1 (fun _ _ _ h=>h) (Or.inl ⟨Yy2,fun _ _=>rfl⟩) hH1 ?_
 simp only [Act.put,List.setIfInBounds_toArray,List.set_cons_zero,List.set_cons_succ]
 refine wpAnyH_ready (rs:=[21]) Yy1 Yy4 (cons_d none rfl rfl (fun K hK=>?_) AllReadyH.nil)
 rw [if_pos Yy2]
 refine store_d rfl _ _ _ rfl _ _ (List.toArray [.int .i64 r1,.string r2,.slice A2 r3.length cc2,.slice A3 r4.length c3]) rfl rfl hH1.2 Yy1 Yy44 ?_
 refine hK.out _ _ ⟨World.rangeAt_setCells_apart hH1.1 _ _ _ (Or.inl (fun h=>BN h.symm)),World.there_setCells hH1.2 _ _ _⟩ (fun hHz=>?_)
 clear hK K
 refine take_d (i:=22) (v:=.bool false) (some 3) rfl rfl Yy1 Yy1 Yy1 (fun _ _ _ h=>h) (Or.inl ⟨Yy2,fun _ _=>rfl⟩) hHz ?_
 simp only [Act.put,List.setIfInBounds_toArray,List.set_cons_zero,List.set_cons_succ]
 refine wpAnyH_done Yy1 ?_ _
 have FR:Hid (World.rangeAt (World.setCells (x1) B 0 [.int .i64 r1,.string r2,.slice A2 r3.length cc2,.slice A3 r4.length c3]) B 0 [.int .i64 r1,.string r2,.slice A2 r3.length cc2,.slice A3 r4.length c3]):=hdd (World.rangeAt_setCells_same _ _ _ _ hH1.2)
 have FB:Hid (Below B w (World.setCells (x1) B 0 [.int .i64 r1,.string r2,.slice A2 r3.length cc2,.slice A3 r4.length c3])):=hdd (Below.cellsN (nlr B) _ 0 _ (BX1.out))
 have F2:=hdd (r_set D21.out [.int .i64 r1,.string r2,.slice A2 r3.length cc2,.slice A3 r4.length c3] 0)
 have F3:=hdd (r_set D31.out [.int .i64 r1,.string r2,.slice A2 r3.length cc2,.slice A3 r4.length c3] 0)
 go_wp2_with fail
 refine bodyPost_ret (results_ct rfl _ _ B _ _ rfl FR.out Tryz.underlying26 rfl Yy1) rfl ?_
 exact ⟨A2,cc2,A3,c3,rfl,(Kd.R_reads' F2.out).2.2,L2.out,(Kd.R_reads' F3.out).2.2,L3.out,Yy58⟩
theorem bare_b0 {s:ByteArray} {r1:Int} {r2:ByteArray} {r3:List ByteArray} {r4:List S26} {k0:Nat} (hk0:laws_gjText.f k0 s=some (r1,r2,r3,r4,true)) {k1:Nat} (hk1:spec_Unique.f k1 r1 r2 r3 r4=some true) (h0:0<s.size) (hz:s.size≤65536) (hb0:spec_Blank.f (s[0].toNat:Int)=some true) (w:World):Calls Tryz.prog 17 #[.string s] w (BarePost r1 r2 r3 r4 false w):=by
 obtain ⟨B,hB⟩:∃ B,w.heap.size=B:=⟨_,rfl⟩
 have GC2:Hid (∀ w,Calls Tryz.prog 12 #[.string s] w fun e w'=>∃ v2_ v3_:Value,e = .returned (.tuple #[.agg #[.int .i64 r1,.string r2,v2_,v3_],.bool true])∧Kd.R Kd.string 9 w' w.heap.size (fun _=>True) v2_ r3∧Kd.R k26 26 w' w.heap.size (fun k_=>some k_≠(v2_:Value).ownBlock) v3_ r4∧Below w.heap.size w w'):=hdd (fun w=>laws_gjText.calls k0 s r1 r2 r3 r4 true w hk0)
 have UC:=hdd hk1
 clear hk1
 have BC0:Hid (∀ w,Calls Tryz.prog 40 #[.int .u8 (s[0].toNat:Int)] w fun e w'=>e = .returned (.bool true)∧Drawn0 w w'):=hdd (fun w=>spec_Blank.calls _ _ w hb0)
 clear hb0
 have ss:(s.size:Int)≤65536:=Yy0
 clear hk0
 go_enter Tryz.func17,Tryz.ntmps17
 go_upto_region 1 with (fail)
 obtain ⟨w0,hw0⟩:∃ w0,w.alloc (Obj.cells #[.int .i64 0,.string ⟨#[]⟩,.slice none 0 0,.slice none 0 0] 26)=w0:=⟨_,rfl⟩
 have s0:w0.heap.size=B+1:=Yy42
 have B0:Hid (Below B w w0):=hdd Yy82
 have T0:Hid (w0.there B 0 4):=hdd Yy54
 rw [hw0]
 clear hw0
 have S0:=hdd s0
 clear s0
 go_upto_region 2 with (go_at_call 12;refine (GC2.out _).mono ?_;rintro en w1 ⟨v2,v3,rfl,hR2,hR3,hb1⟩;obtain ⟨A2,cc2,rfl,hl2,hC2⟩:=Kd.R_reads hR2;obtain ⟨A3,c3,rfl,hl3,hC3⟩:=Kd.R_reads hR3;have B1:=hdd (B0.out.trans (hb1.mono Yy16));have T1:=hdd (thr_b T0.out hb1);have Z1:Hid (B+1≤w1.heap.size):=hdd Yy55;have KC2:=hdd (r_off (B:=B) hR2 Yy16);have KC3:=hdd (r_off (B:=B) hR3 Yy16);have L2:=hdd hl2;have L3:=hdd hl3;clear hR2 hR3 hb1 hl2 hC2 hl3 hC3)
 obtain ⟨N,hN⟩:∃ N,w1.heap.size=N:=⟨_,rfl⟩
 obtain ⟨wA,hwA⟩:∃ wA,w1.alloc (Obj.cells #[.int .i64 r1,.string r2,.slice A2 r3.length cc2,.slice A3 r4.length c3] 26)=wA:=⟨_,rfl⟩
 have bA:Hid (Below w1.heap.size w1 wA):=hdd Yy56
 have RA:Hid (wA.rangeAt N 0 [.int .i64 r1,.string r2,.slice A2 r3.length cc2,.slice A3 r4.length c3]):=hdd Yy57
 have BN:B≠N:=Yy24
 rw [hwA]
 try rw [hN]
 clear hwA hN
 have TA:Hid (wA.there B 0 4):=hdd (thr_b T1.out bA.out)
 have BA:Hid (Below B w wA):=hdd (B1.out.trans (bA.out.mono Yy24))
 have CA2:=hdd (r_bel KC2.out bA.out)
 have CA3:=hdd (r_bel KC3.out bA.out)
 refine wp_region_held_drew (S:=fun w'=>w'.rangeAt N 0 [.int .i64 r1,.string r2,.slice A2 r3.length cc2,.slice A3 r4.length c3]∧w'.there B 0 4) Yy1 ⟨rng_d RA.out,thr_d TA.out⟩ (fun hHeld=>?_)
 refine take_d (i:=0) (v:=_) (some 11) rfl rfl Yy1 Yy1 Yy1 (fun _ _ _ h=>h) (yieldsIf_load_mid Yy2 _ _ rfl _ _ rfl _ _ (fun _ h=>h.1) Tryz.underlying26 rfl Yy1) hHeld ?_
 simp only [Act.put,List.setIfInBounds_toArray,List.set_cons_zero,List.set_cons_succ]
 refine take_d (i:=1) (v:=.bool true) (some 12) rfl rfl Yy1 Yy1 Yy1 (fun _ _ _ h=>h) (Or.inl ⟨Yy2,fun _ _=>rfl⟩) hHeld ?_
 simp only [Act.put,List.setIfInBounds_toArray,List.set_cons_zero,List.set_cons_succ]
 refine take_d (i:=2) (v:=.bool true) (some 13) rfl rfl Yy1 Yy1 Yy1 (fun _ _ _ h=>h) (Or.inl ⟨Yy2,fun _ _=>rfl⟩) hHeld ?_
 simp only [Act.put,List.setIfInBounds_toArray,List.set_cons_zero,List.set_cons_succ]
 refine take_d (i:=3) (v:=_) (some 14) rfl rfl Yy1 Yy1 Yy1 (fun _ _ _ h=>h) (yieldsIf_load_mid Yy2 _ _ rfl _ _ rfl _ _ (fun _ h=>h.1) Tryz.underlying26 rfl Yy1) hHeld ?_
 simp only [Act.put,List.setIfInBounds_toArray,List.set_cons_zero,List.set_cons_succ]
 refine wpAnyH_ready (rs:=[4]) Yy1 Yy4 (cons_d (some 15) rfl rfl (fun K hK=>?_) AllReadyH.nil)
 rw [if_pos Yy2]
 go_simp
 with_reducible refine (spec_Unique.calls k1 r1 r2 A2 cc2 r3 A3 c3 r4 _ _ (Kd.R_reads' (r_bel CA2.out ((Below.refl _ wA).drew))).2.2 L2.out (Kd.R_reads' (r_bel CA3.out ((Below.refl _ wA).drew))).2.2 L3.out UC.out).mono ?_
 rintro en x1 ⟨rfl,hb1x⟩
 dsimp only
 refine hK.out _ _ ⟨rng_b hHeld.1 hb1x,thr_b hHeld.2 hb1x⟩ (fun hH1=>?_)
 have BX1:Hid (Below B w x1):=hdd ((BA.out.drew).trans (hb1x.mono Yy65))
 have D21:=hdd (r_bel (r_bel CA2.out ((Below.refl _ wA).drew)) hb1x)
 have D31:=hdd (r_bel (r_bel CA3.out ((Below.refl _ wA).drew)) hb1x)
 clear hK K hHeld hb1x
 refine take_d (i:=5) (v:=.bool true) (some 16) rfl rfl Yy1 Yy1 Yy1 (fun _ _ _ h=>h) (Or.inl ⟨Yy2,fun _ _=>rfl⟩) hH1 ?_
 simp only [Act.put,List.setIfInBounds_toArray,List.set_cons_zero,List.set_cons_succ]
 refine take_d (i:=6) (v:=.bool true) (some 17) rfl rfl Yy1 Yy1 Yy1 (fun _ _ _ h=>h) (Or.inl ⟨Yy2,fun _ _=>rfl⟩) hH1 ?_
 simp only [Act.put,List.setIfInBounds_toArray,List.set_cons_zero,List.set_cons_succ]
 refine take_d (i:=7) (v:=.string s) (some 18) rfl rfl Yy1 Yy1 Yy1 (fun _ _ _ h=>h) (Or.inl ⟨Yy2,fun _ _=>rfl⟩) hH1 ?_
 simp only [Act.put,List.setIfInBounds_toArray,List.set_cons_zero,List.set_cons_succ]
 refine take_d (i:=8) (v:=.int .u8 (s[0].toNat:Int)) (some 19) rfl rfl Yy1 Yy1 Yy1 (fun _ _ _ h=>h) (Or.inl ⟨Yy2,fun w _=>Yy7⟩) hH1 ?_
 simp only [Act.put,List.setIfInBounds_toArray,List.set_cons_zero,List.set_cons_succ]
 refine wpAnyH_ready (rs:=[9]) Yy1 Yy4 (cons_d (some 20) rfl rfl (fun K hK=>?_) AllReadyH.nil)
 rw [if_pos Yy2]
 go_simp
 with_reducible refine (BC0.out _).mono ?_
 rintro en x2 ⟨rfl,hd⟩
 obtain ⟨nd,hnd⟩:=of_drawn0 hd
 have hb2x:Below (x1).heap.size x1 x2:=Yy59
 clear hd hnd
 dsimp only
 refine hK.out _ _ ⟨rng_b hH1.1 hb2x,thr_b hH1.2 hb2x⟩ (fun hH2=>?_)
 have BX2:Hid (Below B w x2):=hdd ((BX1.out).trans (hb2x.mono Yy72))
 have D22:=hdd (r_bel D21.out hb2x)
 have D32:=hdd (r_bel D31.out hb2x)
 clear hK K hH1 hb2x
 refine take_d (i:=10) (v:=.bool false) (some 21) rfl rfl Yy1 Yy1 Yy1 (fun _ _ _ h=>h) (Or.inl ⟨Yy2,fun w _=>Yy7⟩) hH2 ?_
 simp only [Act.put,List.setIfInBounds_toArray,List.set_cons_zero,List.set_cons_succ]
 refine take_d (i:=11) (v:=.bool false) (some 22) rfl rfl Yy1 Yy1 Yy1 (fun _ _ _ h=>h) (Or.inl ⟨Yy2,fun _ _=>rfl⟩) hH2 ?_
 simp only [Act.put,List.setIfInBounds_toArray,List.set_cons_zero,List.set_cons_succ]
 refine take_d (i:=12) (v:=.bool false) (some 23) rfl rfl Yy1 Yy1 Yy1 (fun _ _ _ h=>h) (Or.inl ⟨Yy2,fun _ _=>rfl⟩) hH2 ?_
 simp only [Act.put,List.setIfInBounds_toArray,List.set_cons_zero,List.set_cons_succ]
 refine take_d (i:=13) (v:=_) (some 24) rfl rfl Yy1 Yy1 Yy1 (fun _ _ _ h=>h) (Or.inr ⟨Yy2,rfl⟩) hH2 ?_
 simp only [Act.put,List.setIfInBounds_toArray,List.set_cons_zero,List.set_cons_succ]
 refine take_d (i:=14) (v:=_) (some 25) rfl rfl Yy1 Yy1 Yy1 (fun _ _ _ h=>h) (Or.inr ⟨Yy2,rfl⟩) hH2 ?_
 simp only [Act.put,List.setIfInBounds_toArray,List.set_cons_zero,List.set_cons_succ]
 refine take_d (i:=15) (v:=_) (some 26) rfl rfl Yy1 Yy1 Yy1 (fun _ _ _ h=>h) (Or.inr ⟨Yy2,rfl⟩) hH2 ?_
 simp only [Act.put,List.setIfInBounds_toArray,List.set_cons_zero,List.set_cons_succ]
 refine take_d (i:=16) (v:=_) (some 27) rfl rfl Yy1 Yy1 Yy1 (fun _ _ _ h=>h) (Or.inr ⟨Yy2,rfl⟩) hH2 ?_
 simp only [Act.put,List.setIfInBounds_toArray,List.set_cons_zero,List.set_cons_succ]
 refine take_d (i:=17) (v:=_) (some 28) rfl rfl Yy1 Yy1 Yy1 (fun _ _ _ h=>h) (Or.inr ⟨Yy2,rfl⟩) hH2 ?_
 simp only [Act.put,List.setIfInBounds_toArray,List.set_cons_zero,List.set_cons_succ]
 refine take_d (i:=18) (v:=_) (some 29) rfl rfl Yy1 Yy1 Yy1 (fun _ _ _ h=>h) (Or.inr ⟨Yy2,rfl⟩) hH2 ?_
 simp only [Act.put,List.setIfInBounds_toArray,List.set_cons_zero,List.set_cons_succ]
 refine take_d (i:=19) (v:=_) (some 30) rfl rfl Yy1 Yy1 Yy1 (fun _ _ _ h=>h) (Or.inr ⟨Yy2,rfl⟩) hH2 ?_
 simp only [Act.put,List.setIfInBounds_toArray,List.set_cons_zero,List.set_cons_succ]
 refine take_d (i:=20) (v:=.bool false) (some 31) rfl rfl Yy1 Yy1 Yy1 (fun _ _ _ h=>h) (Or.inl ⟨Yy2,fun _ _=>rfl⟩) hH2 ?_
 simp only [Act.put,List.setIfInBounds_toArray,List.set_cons_zero,List.set_cons_succ]
 refine wpAnyH_ready (rs:=[21]) Yy1 Yy4 (cons_d none rfl rfl (fun K hK=>?_) AllReadyH.nil)
 rw [if_pos Yy2]
 refine store_d rfl _ _ _ rfl _ _ (List.toArray [.int .i64 r1,.string r2,.slice A2 r3.length cc2,.slice A3 r4.length c3]) rfl rfl hH2.2 Yy1 Yy44 ?_
 refine hK.out _ _ ⟨World.rangeAt_setCells_apart hH2.1 _ _ _ (Or.inl (fun h=>BN h.symm)),World.there_setCells hH2.2 _ _ _⟩ (fun hHz=>?_)
 clear hK K
 refine take_d (i:=22) (v:=.bool false) (some 3) rfl rfl Yy1 Yy1 Yy1 (fun _ _ _ h=>h) (Or.inl ⟨Yy2,fun _ _=>rfl⟩) hHz ?_
 simp only [Act.put,List.setIfInBounds_toArray,List.set_cons_zero,List.set_cons_succ]
 refine wpAnyH_done Yy1 ?_ _
 have FR:Hid (World.rangeAt (World.setCells (x2) B 0 [.int .i64 r1,.string r2,.slice A2 r3.length cc2,.slice A3 r4.length c3]) B 0 [.int .i64 r1,.string r2,.slice A2 r3.length cc2,.slice A3 r4.length c3]):=hdd (World.rangeAt_setCells_same _ _ _ _ hH2.2)
 have FB:Hid (Below B w (World.setCells (x2) B 0 [.int .i64 r1,.string r2,.slice A2 r3.length cc2,.slice A3 r4.length c3])):=hdd (Below.cellsN (nlr B) _ 0 _ (BX2.out))
 have F2:=hdd (r_set D22.out [.int .i64 r1,.string r2,.slice A2 r3.length cc2,.slice A3 r4.length c3] 0)
 have F3:=hdd (r_set D32.out [.int .i64 r1,.string r2,.slice A2 r3.length cc2,.slice A3 r4.length c3] 0)
 go_wp2_with fail
 refine bodyPost_ret (results_ct rfl _ _ B _ _ rfl FR.out Tryz.underlying26 rfl Yy1) rfl ?_
 exact ⟨A2,cc2,A3,c3,rfl,(Kd.R_reads' F2.out).2.2,L2.out,(Kd.R_reads' F3.out).2.2,L3.out,Yy58⟩
theorem bare_b1 {s:ByteArray} {r1:Int} {r2:ByteArray} {r3:List ByteArray} {r4:List S26} {k0:Nat} (hk0:laws_gjText.f k0 s=some (r1,r2,r3,r4,true)) {k1:Nat} (hk1:spec_Unique.f k1 r1 r2 r3 r4=some true) (h0:0<s.size) (hz:s.size≤65536) (hb0:spec_Blank.f (s[0].toNat:Int)=some false) (hb1:spec_Blank.f (s[s.size - 1].toNat:Int)=some true) (w:World):Calls Tryz.prog 17 #[.string s] w (BarePost r1 r2 r3 r4 false w):=by
 obtain ⟨B,hB⟩:∃ B,w.heap.size=B:=⟨_,rfl⟩
 have GC2:Hid (∀ w,Calls Tryz.prog 12 #[.string s] w fun e w'=>∃ v2_ v3_:Value,e = .returned (.tuple #[.agg #[.int .i64 r1,.string r2,v2_,v3_],.bool true])∧Kd.R Kd.string 9 w' w.heap.size (fun _=>True) v2_ r3∧Kd.R k26 26 w' w.heap.size (fun k_=>some k_≠(v2_:Value).ownBlock) v3_ r4∧Below w.heap.size w w'):=hdd (fun w=>laws_gjText.calls k0 s r1 r2 r3 r4 true w hk0)
 have UC:=hdd hk1
 clear hk1
 have BC0:Hid (∀ w,Calls Tryz.prog 40 #[.int .u8 (s[0].toNat:Int)] w fun e w'=>e = .returned (.bool false)∧Drawn0 w w'):=hdd (fun w=>spec_Blank.calls _ _ w hb0)
 clear hb0
 have ss:(s.size:Int)≤65536:=Yy0
 obtain ⟨z,hz1⟩:∃ z,s.size - 1=z:=⟨_,rfl⟩
 have hzs:z<s.size:=Yy0
 have hzi:(s.size:Int) - 1=(z:Int):=Yy0
 have hzw:IntKind.i64.wrap (z:Int)=(z:Int):=Yy52
 have BC1:Hid (∀ w,Calls Tryz.prog 40 #[.int .u8 (s[z].toNat:Int)] w fun e w'=>e = .returned (.bool true)∧Drawn0 w w'):=hdd (fun w=>spec_Blank.calls _ _ w (by subst hz1;exact hb1))
 clear hb1 hz1
 clear hk0
 go_enter Tryz.func17,Tryz.ntmps17
 go_upto_region 1 with (fail)
 obtain ⟨w0,hw0⟩:∃ w0,w.alloc (Obj.cells #[.int .i64 0,.string ⟨#[]⟩,.slice none 0 0,.slice none 0 0] 26)=w0:=⟨_,rfl⟩
 have s0:w0.heap.size=B+1:=Yy42
 have B0:Hid (Below B w w0):=hdd Yy82
 have T0:Hid (w0.there B 0 4):=hdd Yy54
 rw [hw0]
 clear hw0
 have S0:=hdd s0
 clear s0
 go_upto_region 2 with (go_at_call 12;refine (GC2.out _).mono ?_;rintro en w1 ⟨v2,v3,rfl,hR2,hR3,hb1⟩;obtain ⟨A2,cc2,rfl,hl2,hC2⟩:=Kd.R_reads hR2;obtain ⟨A3,c3,rfl,hl3,hC3⟩:=Kd.R_reads hR3;have B1:=hdd (B0.out.trans (hb1.mono Yy16));have T1:=hdd (thr_b T0.out hb1);have Z1:Hid (B+1≤w1.heap.size):=hdd Yy55;have KC2:=hdd (r_off (B:=B) hR2 Yy16);have KC3:=hdd (r_off (B:=B) hR3 Yy16);have L2:=hdd hl2;have L3:=hdd hl3;clear hR2 hR3 hb1 hl2 hC2 hl3 hC3)
 obtain ⟨N,hN⟩:∃ N,w1.heap.size=N:=⟨_,rfl⟩
 obtain ⟨wA,hwA⟩:∃ wA,w1.alloc (Obj.cells #[.int .i64 r1,.string r2,.slice A2 r3.length cc2,.slice A3 r4.length c3] 26)=wA:=⟨_,rfl⟩
 have bA:Hid (Below w1.heap.size w1 wA):=hdd Yy56
 have RA:Hid (wA.rangeAt N 0 [.int .i64 r1,.string r2,.slice A2 r3.length cc2,.slice A3 r4.length c3]):=hdd Yy57
 have BN:B≠N:=Yy24
 rw [hwA]
 try rw [hN]
 clear hwA hN
 have TA:Hid (wA.there B 0 4):=hdd (thr_b T1.out bA.out)
 have BA:Hid (Below B w wA):=hdd (B1.out.trans (bA.out.mono Yy24))
 have CA2:=hdd (r_bel KC2.out bA.out)
 have CA3:=hdd (r_bel KC3.out bA.out)
 refine wp_region_held_drew (S:=fun w'=>w'.rangeAt N 0 [.int .i64 r1,.string r2,.slice A2 r3.length cc2,.slice A3 r4.length c3]∧w'.there B 0 4) Yy1 ⟨rng_d RA.out,thr_d TA.out⟩ (fun hHeld=>?_)
 refine take_d (i:=0) (v:=_) (some 11) rfl rfl Yy1 Yy1 Yy1 (fun _ _ _ h=>h) (yieldsIf_load_mid Yy2 _ _ rfl _ _ rfl _ _ (fun _ h=>h.1) Tryz.underlying26 rfl Yy1) hHeld ?_
 simp only [Act.put,List.setIfInBounds_toArray,List.set_cons_zero,List.set_cons_succ]
 refine take_d (i:=1) (v:=.bool true) (some 12) rfl rfl Yy1 Yy1 Yy1 (fun _ _ _ h=>h) (Or.inl ⟨Yy2,fun _ _=>rfl⟩) hHeld ?_
 simp only [Act.put,List.setIfInBounds_toArray,List.set_cons_zero,List.set_cons_succ]
 refine take_d (i:=2) (v:=.bool true) (some 13) rfl rfl Yy1 Yy1 Yy1 (fun _ _ _ h=>h) (Or.inl ⟨Yy2,fun _ _=>rfl⟩) hHeld ?_
 simp only [Act.put,List.setIfInBounds_toArray,List.set_cons_zero,List.set_cons_succ]
 refine take_d (i:=3) (v:=_) (some 14) rfl rfl Yy1 Yy1 Yy1 (fun _ _ _ h=>h) (yieldsIf_load_mid Yy2 _ _ rfl _ _ rfl _ _ (fun _ h=>h.1) Tryz.underlying26 rfl Yy1) hHeld ?_
 simp only [Act.put,List.setIfInBounds_toArray,List.set_cons_zero,List.set_cons_succ]
 refine wpAnyH_ready (rs:=[4]) Yy1 Yy4 (cons_d (some 15) rfl rfl (fun K hK=>?_) AllReadyH.nil)
 rw [if_pos Yy2]
 go_simp
 with_reducible refine (spec_Unique.calls k1 r1 r2 A2 cc2 r3 A3 c3 r4 _ _ (Kd.R_reads' (r_bel CA2.out ((Below.refl _ wA).drew))).2.2 L2.out (Kd.R_reads' (r_bel CA3.out ((Below.refl _ wA).drew))).2.2 L3.out UC.out).mono ?_
 rintro en x1 ⟨rfl,hb1x⟩
 dsimp only
 refine hK.out _ _ ⟨rng_b hHeld.1 hb1x,thr_b hHeld.2 hb1x⟩ (fun hH1=>?_)
 have BX1:Hid (Below B w x1):=hdd ((BA.out.drew).trans (hb1x.mono Yy65))
 have D21:=hdd (r_bel (r_bel CA2.out ((Below.refl _ wA).drew)) hb1x)
 have D31:=hdd (r_bel (r_bel CA3.out ((Below.refl _ wA).drew)) hb1x)
 clear hK K hHeld hb1x
 refine take_d (i:=5) (v:=.bool true) (some 16) rfl rfl Yy1 Yy1 Yy1 (fun _ _ _ h=>h) (Or.inl ⟨Yy2,fun _ _=>rfl⟩) hH1 ?_
 simp only [Act.put,List.setIfInBounds_toArray,List.set_cons_zero,List.set_cons_succ]
 refine take_d (i:=6) (v:=.bool true) (some 17) rfl rfl Yy1 Yy1 Yy1 (fun _ _ _ h=>h) (Or.inl ⟨Yy2,fun _ _=>rfl⟩) hH1 ?_
 simp only [Act.put,List.setIfInBounds_toArray,List.set_cons_zero,List.set_cons_succ]
 refine take_d (i:=7) (v:=.string s) (some 18) rfl rfl Yy1 Yy1 Yy1 (fun _ _ _ h=>h) (Or.inl ⟨Yy2,fun _ _=>rfl⟩) hH1 ?_
 simp only [Act.put,List.setIfInBounds_toArray,List.set_cons_zero,List.set_cons_succ]
 refine take_d (i:=8) (v:=.int .u8 (s[0].toNat:Int)) (some 19) rfl rfl Yy1 Yy1 Yy1 (fun _ _ _ h=>h) (Or.inl ⟨Yy2,fun w _=>Yy7⟩) hH1 ?_
 simp only [Act.put,List.setIfInBounds_toArray,List.set_cons_zero,List.set_cons_succ]
 refine wpAnyH_ready (rs:=[9]) Yy1 Yy4 (cons_d (some 20) rfl rfl (fun K hK=>?_) AllReadyH.nil)
 rw [if_pos Yy2]
 go_simp
 with_reducible refine (BC0.out _).mono ?_
 rintro en x2 ⟨rfl,hd⟩
 obtain ⟨nd,hnd⟩:=of_drawn0 hd
 have hb2x:Below (x1).heap.size x1 x2:=Yy59
 clear hd hnd
 dsimp only
 refine hK.out _ _ ⟨rng_b hH1.1 hb2x,thr_b hH1.2 hb2x⟩ (fun hH2=>?_)
 have BX2:Hid (Below B w x2):=hdd ((BX1.out).trans (hb2x.mono Yy72))
 have D22:=hdd (r_bel D21.out hb2x)
 have D32:=hdd (r_bel D31.out hb2x)
 clear hK K hH1 hb2x
 refine take_d (i:=10) (v:=.bool true) (some 21) rfl rfl Yy1 Yy1 Yy1 (fun _ _ _ h=>h) (Or.inl ⟨Yy2,fun w _=>Yy7⟩) hH2 ?_
 simp only [Act.put,List.setIfInBounds_toArray,List.set_cons_zero,List.set_cons_succ]
 refine take_d (i:=11) (v:=.bool true) (some 22) rfl rfl Yy1 Yy1 Yy1 (fun _ _ _ h=>h) (Or.inl ⟨Yy2,fun _ _=>rfl⟩) hH2 ?_
 simp only [Act.put,List.setIfInBounds_toArray,List.set_cons_zero,List.set_cons_succ]
 refine take_d (i:=12) (v:=.bool true) (some 23) rfl rfl Yy1 Yy1 Yy1 (fun _ _ _ h=>h) (Or.inl ⟨Yy2,fun _ _=>rfl⟩) hH2 ?_
 simp only [Act.put,List.setIfInBounds_toArray,List.set_cons_zero,List.set_cons_succ]
 refine take_d (i:=13) (v:=.string s) (some 24) rfl rfl Yy1 Yy1 Yy1 (fun _ _ _ h=>h) (Or.inl ⟨Yy2,fun _ _=>rfl⟩) hH2 ?_
 simp only [Act.put,List.setIfInBounds_toArray,List.set_cons_zero,List.set_cons_succ]
 refine take_d (i:=14) (v:=.string s) (some 25) rfl rfl Yy1 Yy1 Yy1 (fun _ _ _ h=>h) (Or.inl ⟨Yy2,fun _ _=>rfl⟩) hH2 ?_
 simp only [Act.put,List.setIfInBounds_toArray,List.set_cons_zero,List.set_cons_succ]
 refine take_d (i:=15) (v:=.int .i64 (s.size:Int)) (some 26) rfl rfl Yy1 Yy1 Yy1 (fun _ _ _ h=>h) (Or.inl ⟨Yy2,fun w _=>Yy7⟩) hH2 ?_
 simp only [Act.put,List.setIfInBounds_toArray,List.set_cons_zero,List.set_cons_succ]
 refine take_d (i:=16) (v:=.int .i64 (z:Int)) (some 27) rfl rfl Yy1 Yy1 Yy1 (fun _ _ _ h=>h) (Or.inl ⟨Yy2,fun w _=>Yy7⟩) hH2 ?_
 simp only [Act.put,List.setIfInBounds_toArray,List.set_cons_zero,List.set_cons_succ]
 refine take_d (i:=17) (v:=.int .u8 (s[z].toNat:Int)) (some 28) rfl rfl Yy1 Yy1 Yy1 (fun _ _ _ h=>h) (Or.inl ⟨Yy2,fun w _=>Yy7⟩) hH2 ?_
 simp only [Act.put,List.setIfInBounds_toArray,List.set_cons_zero,List.set_cons_succ]
 refine wpAnyH_ready (rs:=[18]) Yy1 Yy4 (cons_d (some 29) rfl rfl (fun K hK=>?_) AllReadyH.nil)
 rw [if_pos Yy2]
 go_simp
 with_reducible refine (BC1.out _).mono ?_
 rintro en x3 ⟨rfl,hd⟩
 obtain ⟨nd,hnd⟩:=of_drawn0 hd
 have hb3x:Below (x2).heap.size x2 x3:=Yy59
 clear hd hnd
 dsimp only
 refine hK.out _ _ ⟨rng_b hH2.1 hb3x,thr_b hH2.2 hb3x⟩ (fun hH3=>?_)
 have BX3:Hid (Below B w x3):=hdd ((BX2.out).trans (hb3x.mono (by have:=((BX2.out):Below B w _).size;omega)))
 have D23:=hdd (r_bel D22.out hb3x)
 have D33:=hdd (r_bel D32.out hb3x)
 clear hK K hH2 hb3x
 refine take_d (i:=19) (v:=.bool false) (some 30) rfl rfl Yy1 Yy1 Yy1 (fun _ _ _ h=>h) (Or.inl ⟨Yy2,fun w _=>Yy7⟩) hH3 ?_
 simp only [Act.put,List.setIfInBounds_toArray,List.set_cons_zero,List.set_cons_succ]
 refine take_d (i:=20) (v:=.bool false) (some 31) rfl rfl Yy1 Yy1 Yy1 (fun _ _ _ h=>h) (Or.inl ⟨Yy2,fun _ _=>rfl⟩) hH3 ?_
 simp only [Act.put,List.setIfInBounds_toArray,List.set_cons_zero,List.set_cons_succ]
 refine wpAnyH_ready (rs:=[21]) Yy1 Yy4 (cons_d none rfl rfl (fun K hK=>?_) AllReadyH.nil)
 rw [if_pos Yy2]
 refine store_d rfl _ _ _ rfl _ _ (List.toArray [.int .i64 r1,.string r2,.slice A2 r3.length cc2,.slice A3 r4.length c3]) rfl rfl hH3.2 Yy1 Yy44 ?_
 refine hK.out _ _ ⟨World.rangeAt_setCells_apart hH3.1 _ _ _ (Or.inl (fun h=>BN h.symm)),World.there_setCells hH3.2 _ _ _⟩ (fun hHz=>?_)
 clear hK K
 refine take_d (i:=22) (v:=.bool false) (some 3) rfl rfl Yy1 Yy1 Yy1 (fun _ _ _ h=>h) (Or.inl ⟨Yy2,fun _ _=>rfl⟩) hHz ?_
 simp only [Act.put,List.setIfInBounds_toArray,List.set_cons_zero,List.set_cons_succ]
 refine wpAnyH_done Yy1 ?_ _
 have FR:Hid (World.rangeAt (World.setCells (x3) B 0 [.int .i64 r1,.string r2,.slice A2 r3.length cc2,.slice A3 r4.length c3]) B 0 [.int .i64 r1,.string r2,.slice A2 r3.length cc2,.slice A3 r4.length c3]):=hdd (World.rangeAt_setCells_same _ _ _ _ hH3.2)
 have FB:Hid (Below B w (World.setCells (x3) B 0 [.int .i64 r1,.string r2,.slice A2 r3.length cc2,.slice A3 r4.length c3])):=hdd (Below.cellsN (nlr B) _ 0 _ (BX3.out))
 have F2:=hdd (r_set D23.out [.int .i64 r1,.string r2,.slice A2 r3.length cc2,.slice A3 r4.length c3] 0)
 have F3:=hdd (r_set D33.out [.int .i64 r1,.string r2,.slice A2 r3.length cc2,.slice A3 r4.length c3] 0)
 go_wp2_with fail
 refine bodyPost_ret (results_ct rfl _ _ B _ _ rfl FR.out Tryz.underlying26 rfl Yy1) rfl ?_
 exact ⟨A2,cc2,A3,c3,rfl,(Kd.R_reads' F2.out).2.2,L2.out,(Kd.R_reads' F3.out).2.2,L3.out,Yy58⟩
theorem bare_yes {s:ByteArray} {r1:Int} {r2:ByteArray} {r3:List ByteArray} {r4:List S26} {k0:Nat} (hk0:laws_gjText.f k0 s=some (r1,r2,r3,r4,true)) {k1:Nat} (hk1:spec_Unique.f k1 r1 r2 r3 r4=some true) (h0:0<s.size) (hz:s.size≤65536) (hb0:spec_Blank.f (s[0].toNat:Int)=some false) (hb1:spec_Blank.f (s[s.size - 1].toNat:Int)=some false) (w:World):Calls Tryz.prog 17 #[.string s] w (BarePost r1 r2 r3 r4 true w):=by
 obtain ⟨B,hB⟩:∃ B,w.heap.size=B:=⟨_,rfl⟩
 have GC2:Hid (∀ w,Calls Tryz.prog 12 #[.string s] w fun e w'=>∃ v2_ v3_:Value,e = .returned (.tuple #[.agg #[.int .i64 r1,.string r2,v2_,v3_],.bool true])∧Kd.R Kd.string 9 w' w.heap.size (fun _=>True) v2_ r3∧Kd.R k26 26 w' w.heap.size (fun k_=>some k_≠(v2_:Value).ownBlock) v3_ r4∧Below w.heap.size w w'):=hdd (fun w=>laws_gjText.calls k0 s r1 r2 r3 r4 true w hk0)
 have UC:=hdd hk1
 clear hk1
 have BC0:Hid (∀ w,Calls Tryz.prog 40 #[.int .u8 (s[0].toNat:Int)] w fun e w'=>e = .returned (.bool false)∧Drawn0 w w'):=hdd (fun w=>spec_Blank.calls _ _ w hb0)
 clear hb0
 have ss:(s.size:Int)≤65536:=Yy0
 obtain ⟨z,hz1⟩:∃ z,s.size - 1=z:=⟨_,rfl⟩
 have hzs:z<s.size:=Yy0
 have hzi:(s.size:Int) - 1=(z:Int):=Yy0
 have hzw:IntKind.i64.wrap (z:Int)=(z:Int):=Yy52
 have BC1:Hid (∀ w,Calls Tryz.prog 40 #[.int .u8 (s[z].toNat:Int)] w fun e w'=>e = .returned (.bool false)∧Drawn0 w w'):=hdd (fun w=>spec_Blank.calls _ _ w (by subst hz1;exact hb1))
 clear hb1 hz1
 clear hk0
 go_enter Tryz.func17,Tryz.ntmps17
 go_upto_region 1 with (fail)
 obtain ⟨w0,hw0⟩:∃ w0,w.alloc (Obj.cells #[.int .i64 0,.string ⟨#[]⟩,.slice none 0 0,.slice none 0 0] 26)=w0:=⟨_,rfl⟩
 have s0:w0.heap.size=B+1:=Yy42
 have B0:Hid (Below B w w0):=hdd Yy82
 have T0:Hid (w0.there B 0 4):=hdd Yy54
 rw [hw0]
 clear hw0
 have S0:=hdd s0
 clear s0
 go_upto_region 2 with (go_at_call 12;refine (GC2.out _).mono ?_;rintro en w1 ⟨v2,v3,rfl,hR2,hR3,hb1⟩;obtain ⟨A2,cc2,rfl,hl2,hC2⟩:=Kd.R_reads hR2;obtain ⟨A3,c3,rfl,hl3,hC3⟩:=Kd.R_reads hR3;have B1:=hdd (B0.out.trans (hb1.mono Yy16));have T1:=hdd (thr_b T0.out hb1);have Z1:Hid (B+1≤w1.heap.size):=hdd Yy55;have KC2:=hdd (r_off (B:=B) hR2 Yy16);have KC3:=hdd (r_off (B:=B) hR3 Yy16);have L2:=hdd hl2;have L3:=hdd hl3;clear hR2 hR3 hb1 hl2 hC2 hl3 hC3)
 obtain ⟨N,hN⟩:∃ N,w1.heap.size=N:=⟨_,rfl⟩
 obtain ⟨wA,hwA⟩:∃ wA,w1.alloc (Obj.cells #[.int .i64 r1,.string r2,.slice A2 r3.length cc2,.slice A3 r4.length c3] 26)=wA:=⟨_,rfl⟩
 have bA:Hid (Below w1.heap.size w1 wA):=hdd Yy56
 have RA:Hid (wA.rangeAt N 0 [.int .i64 r1,.string r2,.slice A2 r3.length cc2,.slice A3 r4.length c3]):=hdd Yy57
 have BN:B≠N:=Yy24
 rw [hwA]
 try rw [hN]
 clear hwA hN
 have TA:Hid (wA.there B 0 4):=hdd (thr_b T1.out bA.out)
 have BA:Hid (Below B w wA):=hdd (B1.out.trans (bA.out.mono Yy24))
 have CA2:=hdd (r_bel KC2.out bA.out)
 have CA3:=hdd (r_bel KC3.out bA.out)
 refine wp_region_held_drew (S:=fun w'=>w'.rangeAt N 0 [.int .i64 r1,.string r2,.slice A2 r3.length cc2,.slice A3 r4.length c3]∧w'.there B 0 4) Yy1 ⟨rng_d RA.out,thr_d TA.out⟩ (fun hHeld=>?_)
 refine take_d (i:=0) (v:=_) (some 11) rfl rfl Yy1 Yy1 Yy1 (fun _ _ _ h=>h) (yieldsIf_load_mid Yy2 _ _ rfl _ _ rfl _ _ (fun _ h=>h.1) Tryz.underlying26 rfl Yy1) hHeld ?_
 simp only [Act.put,List.setIfInBounds_toArray,List.set_cons_zero,List.set_cons_succ]
 refine take_d (i:=1) (v:=.bool true) (some 12) rfl rfl Yy1 Yy1 Yy1 (fun _ _ _ h=>h) (Or.inl ⟨Yy2,fun _ _=>rfl⟩) hHeld ?_
 simp only [Act.put,List.setIfInBounds_toArray,List.set_cons_zero,List.set_cons_succ]
 refine take_d (i:=2) (v:=.bool true) (some 13) rfl rfl Yy1 Yy1 Yy1 (fun _ _ _ h=>h) (Or.inl ⟨Yy2,fun _ _=>rfl⟩) hHeld ?_
 simp only [Act.put,List.setIfInBounds_toArray,List.set_cons_zero,List.set_cons_succ]
 refine take_d (i:=3) (v:=_) (some 14) rfl rfl Yy1 Yy1 Yy1 (fun _ _ _ h=>h) (yieldsIf_load_mid Yy2 _ _ rfl _ _ rfl _ _ (fun _ h=>h.1) Tryz.underlying26 rfl Yy1) hHeld ?_
 simp only [Act.put,List.setIfInBounds_toArray,List.set_cons_zero,List.set_cons_succ]
 refine wpAnyH_ready (rs:=[4]) Yy1 Yy4 (cons_d (some 15) rfl rfl (fun K hK=>?_) AllReadyH.nil)
 rw [if_pos Yy2]
 go_simp
 with_reducible refine (spec_Unique.calls k1 r1 r2 A2 cc2 r3 A3 c3 r4 _ _ (Kd.R_reads' (r_bel CA2.out ((Below.refl _ wA).drew))).2.2 L2.out (Kd.R_reads' (r_bel CA3.out ((Below.refl _ wA).drew))).2.2 L3.out UC.out).mono ?_
 rintro en x1 ⟨rfl,hb1x⟩
 dsimp only
 refine hK.out _ _ ⟨rng_b hHeld.1 hb1x,thr_b hHeld.2 hb1x⟩ (fun hH1=>?_)
 have BX1:Hid (Below B w x1):=hdd ((BA.out.drew).trans (hb1x.mono Yy65))
 have D21:=hdd (r_bel (r_bel CA2.out ((Below.refl _ wA).drew)) hb1x)
 have D31:=hdd (r_bel (r_bel CA3.out ((Below.refl _ wA).drew)) hb1x)
 clear hK K hHeld hb1x
 refine take_d (i:=5) (v:=.bool true) (some 16) rfl rfl Yy1 Yy1 Yy1 (fun _ _ _ h=>h) (Or.inl ⟨Yy2,fun _ _=>rfl⟩) hH1 ?_
 simp only [Act.put,List.setIfInBounds_toArray,List.set_cons_zero,List.set_cons_succ]
 refine take_d (i:=6) (v:=.bool true) (some 17) rfl rfl Yy1 Yy1 Yy1 (fun _ _ _ h=>h) (Or.inl ⟨Yy2,fun _ _=>rfl⟩) hH1 ?_
 simp only [Act.put,List.setIfInBounds_toArray,List.set_cons_zero,List.set_cons_succ]
 refine take_d (i:=7) (v:=.string s) (some 18) rfl rfl Yy1 Yy1 Yy1 (fun _ _ _ h=>h) (Or.inl ⟨Yy2,fun _ _=>rfl⟩) hH1 ?_
 simp only [Act.put,List.setIfInBounds_toArray,List.set_cons_zero,List.set_cons_succ]
 refine take_d (i:=8) (v:=.int .u8 (s[0].toNat:Int)) (some 19) rfl rfl Yy1 Yy1 Yy1 (fun _ _ _ h=>h) (Or.inl ⟨Yy2,fun w _=>Yy7⟩) hH1 ?_
 simp only [Act.put,List.setIfInBounds_toArray,List.set_cons_zero,List.set_cons_succ]
 refine wpAnyH_ready (rs:=[9]) Yy1 Yy4 (cons_d (some 20) rfl rfl (fun K hK=>?_) AllReadyH.nil)
 rw [if_pos Yy2]
 go_simp
 with_reducible refine (BC0.out _).mono ?_
 rintro en x2 ⟨rfl,hd⟩
 obtain ⟨nd,hnd⟩:=of_drawn0 hd
 have hb2x:Below (x1).heap.size x1 x2:=Yy59
 clear hd hnd
 dsimp only
 refine hK.out _ _ ⟨rng_b hH1.1 hb2x,thr_b hH1.2 hb2x⟩ (fun hH2=>?_)
 have BX2:Hid (Below B w x2):=hdd ((BX1.out).trans (hb2x.mono Yy72))
 have D22:=hdd (r_bel D21.out hb2x)
 have D32:=hdd (r_bel D31.out hb2x)
 clear hK K hH1 hb2x
 refine take_d (i:=10) (v:=.bool true) (some 21) rfl rfl Yy1 Yy1 Yy1 (fun _ _ _ h=>h) (Or.inl ⟨Yy2,fun w _=>Yy7⟩) hH2 ?_
 simp only [Act.put,List.setIfInBounds_toArray,List.set_cons_zero,List.set_cons_succ]
 refine take_d (i:=11) (v:=.bool true) (some 22) rfl rfl Yy1 Yy1 Yy1 (fun _ _ _ h=>h) (Or.inl ⟨Yy2,fun _ _=>rfl⟩) hH2 ?_
 simp only [Act.put,List.setIfInBounds_toArray,List.set_cons_zero,List.set_cons_succ]
 refine take_d (i:=12) (v:=.bool true) (some 23) rfl rfl Yy1 Yy1 Yy1 (fun _ _ _ h=>h) (Or.inl ⟨Yy2,fun _ _=>rfl⟩) hH2 ?_
 simp only [Act.put,List.setIfInBounds_toArray,List.set_cons_zero,List.set_cons_succ]
 refine take_d (i:=13) (v:=.string s) (some 24) rfl rfl Yy1 Yy1 Yy1 (fun _ _ _ h=>h) (Or.inl ⟨Yy2,fun _ _=>rfl⟩) hH2 ?_
 simp only [Act.put,List.setIfInBounds_toArray,List.set_cons_zero,List.set_cons_succ]
 refine take_d (i:=14) (v:=.string s) (some 25) rfl rfl Yy1 Yy1 Yy1 (fun _ _ _ h=>h) (Or.inl ⟨Yy2,fun _ _=>rfl⟩) hH2 ?_
 simp only [Act.put,List.setIfInBounds_toArray,List.set_cons_zero,List.set_cons_succ]
 refine take_d (i:=15) (v:=.int .i64 (s.size:Int)) (some 26) rfl rfl Yy1 Yy1 Yy1 (fun _ _ _ h=>h) (Or.inl ⟨Yy2,fun w _=>Yy7⟩) hH2 ?_
 simp only [Act.put,List.setIfInBounds_toArray,List.set_cons_zero,List.set_cons_succ]
 refine take_d (i:=16) (v:=.int .i64 (z:Int)) (some 27) rfl rfl Yy1 Yy1 Yy1 (fun _ _ _ h=>h) (Or.inl ⟨Yy2,fun w _=>Yy7⟩) hH2 ?_
 simp only [Act.put,List.setIfInBounds_toArray,List.set_cons_zero,List.set_cons_succ]
 refine take_d (i:=17) (v:=.int .u8 (s[z].toNat:Int)) (some 28) rfl rfl Yy1 Yy1 Yy1 (fun _ _ _ h=>h) (Or.inl ⟨Yy2,fun w _=>Yy7⟩) hH2 ?_
 simp only [Act.put,List.setIfInBounds_toArray,List.set_cons_zero,List.set_cons_succ]
 refine wpAnyH_ready (rs:=[18]) Yy1 Yy4 (cons_d (some 29) rfl rfl (fun K hK=>?_) AllReadyH.nil)
 rw [if_pos Yy2]
 go_simp
 with_reducible refine (BC1.out _).mono ?_
 rintro en x3 ⟨rfl,hd⟩
 obtain ⟨nd,hnd⟩:=of_drawn0 hd
 have hb3x:Below (x2).heap.size x2 x3:=Yy59
 clear hd hnd
 dsimp only
 refine hK.out _ _ ⟨rng_b hH2.1 hb3x,thr_b hH2.2 hb3x⟩ (fun hH3=>?_)
 have BX3:Hid (Below B w x3):=hdd ((BX2.out).trans (hb3x.mono (by have:=((BX2.out):Below B w _).size;omega)))
 have D23:=hdd (r_bel D22.out hb3x)
 have D33:=hdd (r_bel D32.out hb3x)
 clear hK K hH2 hb3x
 refine take_d (i:=19) (v:=.bool true) (some 30) rfl rfl Yy1 Yy1 Yy1 (fun _ _ _ h=>h) (Or.inl ⟨Yy2,fun w _=>Yy7⟩) hH3 ?_
 simp only [Act.put,List.setIfInBounds_toArray,List.set_cons_zero,List.set_cons_succ]
 refine take_d (i:=20) (v:=.bool true) (some 31) rfl rfl Yy1 Yy1 Yy1 (fun _ _ _ h=>h) (Or.inl ⟨Yy2,fun _ _=>rfl⟩) hH3 ?_
 simp only [Act.put,List.setIfInBounds_toArray,List.set_cons_zero,List.set_cons_succ]
 refine wpAnyH_ready (rs:=[21]) Yy1 Yy4 (cons_d none rfl rfl (fun K hK=>?_) AllReadyH.nil)
 rw [if_pos Yy2]
 refine store_d rfl _ _ _ rfl _ _ (List.toArray [.int .i64 r1,.string r2,.slice A2 r3.length cc2,.slice A3 r4.length c3]) rfl rfl hH3.2 Yy1 Yy44 ?_
 refine hK.out _ _ ⟨World.rangeAt_setCells_apart hH3.1 _ _ _ (Or.inl (fun h=>BN h.symm)),World.there_setCells hH3.2 _ _ _⟩ (fun hHz=>?_)
 clear hK K
 refine take_d (i:=22) (v:=.bool true) (some 3) rfl rfl Yy1 Yy1 Yy1 (fun _ _ _ h=>h) (Or.inl ⟨Yy2,fun _ _=>rfl⟩) hHz ?_
 simp only [Act.put,List.setIfInBounds_toArray,List.set_cons_zero,List.set_cons_succ]
 refine wpAnyH_done Yy1 ?_ _
 have FR:Hid (World.rangeAt (World.setCells (x3) B 0 [.int .i64 r1,.string r2,.slice A2 r3.length cc2,.slice A3 r4.length c3]) B 0 [.int .i64 r1,.string r2,.slice A2 r3.length cc2,.slice A3 r4.length c3]):=hdd (World.rangeAt_setCells_same _ _ _ _ hH3.2)
 have FB:Hid (Below B w (World.setCells (x3) B 0 [.int .i64 r1,.string r2,.slice A2 r3.length cc2,.slice A3 r4.length c3])):=hdd (Below.cellsN (nlr B) _ 0 _ (BX3.out))
 have F2:=hdd (r_set D23.out [.int .i64 r1,.string r2,.slice A2 r3.length cc2,.slice A3 r4.length c3] 0)
 have F3:=hdd (r_set D33.out [.int .i64 r1,.string r2,.slice A2 r3.length cc2,.slice A3 r4.length c3] 0)
 go_wp2_with fail
 refine bodyPost_ret (results_ct rfl _ _ B _ _ rfl FR.out Tryz.underlying26 rfl Yy1) rfl ?_
 exact ⟨A2,cc2,A3,c3,rfl,(Kd.R_reads' F2.out).2.2,L2.out,(Kd.R_reads' F3.out).2.2,L3.out,Yy58⟩
end Go.Proofs.YtieflhncpjjciaaGreatDoor.Dc
