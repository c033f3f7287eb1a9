/- Walks and plain laws of this claim. -/
import Derived.Test.YtieflhncpjjciaaGreatDoorBxN
import Derived.Test.YtieflhncpjjciaaGreatDoorBxE
import Derived.Deep.RegionHeld3
import Derived.Test.YtieflhncpjjciaaGreatDoorBxA
set_option maxHeartbeats 8000000
set_option maxRecDepth 100000
set_option linter.unusedVariables false
set_option linter.unusedSimpArgs false
namespace Go.Proofs.YtieflhncpjjciaaGreatDoor.Dc
open Go Go.RowKit Go.Proofs.YtieflhncpjjciaaGreatDoorW.PrintWords Go.Proofs.YtieflhncpjjciaaGreatDoor.PFnGjSquashItems
attribute [local go_sem] run_store_flt
theorem slice_in {s:ByteArray} {q j n:Nat} (h1:q<j) (h2:j≤s.size) (h3:j - q=n∧2≤n) (W:World):(Instr.slice 9 (.string (s.extract q j)) (some (.int .i64 1)) (some (.int .i64 ((n:Int) - 1))) none).run Tryz.prog W = .ok (.string (s.extract (q+1) (j - 1))) W:=by
 have h:=slice_run (s.extract q j) 1 (n - 1) Yy0 Yy12 W
 rw [show ((1:Nat):Int)=1 from rfl,show ((n - 1:Nat):Int)=(n:Int) - 1 from Yy0] at h
 rw [h,ByteArray.extract_extract,show min (q+(n - 1)) j=j - 1 from Yy0]
theorem un_plain {u:ByteArray}:∀ m p,u.size - p=m→p≤u.size→Tk u u.size p→(∀ q:Nat,p≤q→q<u.size→bt u (q:Int)≠92)→Un u p ((u.data.toList.drop p).map fun c=>(c.toNat:Int)):=by
 intro m
 induction m with
 | zero=>
  intro p hm hp _ _
  obtain rfl:p=u.size:=Yy0
  rw [List.drop_of_length_le Yy3]
  exact .nil
 | succ m ih=>
  intro p hm hp ht hn
  have hlt:p<u.size:=Yy0
  cases ht with
  | nil=>omega
  | plain h c32 c34 c92 r=>
   have hr:=ih (p+1) Yy0 Yy0 r (fun q h1 h2=>hn q Yy0 h2)
   have e:(u.data.toList.drop p).map (fun c=>(c.toNat:Int))=bt u (p:Int) :: ((u.data.toList.drop (p+1)).map fun c=>(c.toNat:Int)):=by
    rw [List.drop_eq_getElem_cons (by simpa using hlt),List.map_cons,PFnGjSquashItems.bt_at hlt]
    rfl
   rw [e]
   exact .plain hlt c32 c92 hr
  | esc h92 _ _ _=>exact absurd h92 (hn p (nlr _) hlt)
theorem str_self (u:ByteArray):strOfNums (u.data.toList.map fun c=>(c.toNat:Int))=u:=by
 refine ByteArray.ext (Array.toList_inj.mp ?_)
 show (strOfNums _).data.toList=u.data.toList
 rw [strOfNums_data,List.map_map]
 conv=>rhs;rw [← List.map_id u.data.toList]
 refine List.map_congr_left fun c _=>?_
 simp
theorem kstr_plain {s:ByteArray} {i j:Nat} (h:StrTok s i j) (hn:∀ p:Nat,i+1≤p→p<j - 1→bt s (p:Int)≠92):KStr (s.extract (i+1) (j - 1)) (s.extract (i+1) (j - 1)):=by
 have h1:=h.1.1
 have h2:=h.1.2.1
 have hz:(s.extract (i+1) (j - 1)).size=j - 1 - (i+1):=Yy12
 have ht:=tk_shift (a:=i+1) Yy0 _ h.2 (nlr _)
 rw [← hz,Nat.sub_self] at ht
 have hu:=un_plain _ 0 rfl (Nat.zero_le _) ht (fun q _ hq=>by
  rw [PFnGjSquashItems.bt_at hq,bt_ext Yy0 hq]
  exact hn _ Yy0 Yy0)
 rw [List.drop_zero] at hu
 exact ⟨_,hu,(str_self _).symm⟩
theorem any_any {w:World} {b0:Nat} (h:MS w b0) (hBB:b0≤w.heap.size) (s:ByteArray) (hs:s.size≤65536) (p v j:Nat) (kd:Int) (hpv:p≤v) (hsk:∀ q,p≤q→q<v→bt s (q:Int)≤32) (hk:VK s kd v j) (he:NumEnd s j)  :
  Calls Tryz.prog 50 #[.string s,.int .i64 p,.bool true] w (AnyPost s kd v j w):=by
 obtain ⟨B,hB⟩:∃ B,w.heap.size=B:=⟨_,rfl⟩
 have ss:(s.size:Int)≤65536:=Yy0
 have hvs:v<s.size:=by have:=hk.1;have:=hk.2.1;omega
 have hv:=h.vc
 have HM:=hdd h
 have HBB:=hdd hBB
 clear h hBB
 go_enter Tryz.func50,Tryz.ntmps50
 go_upto_block 0 with (fail)
 obtain ⟨w1,hw1⟩:∃ w1,(w.alloc (Obj.cells #[.int .i64 0,.string ⟨#[]⟩,.string ⟨#[]⟩,.float .f64 0,.int .i64 0,.slice none 0 0] 61)).alloc (Obj.cells #[.int .i64 0,.string ⟨#[]⟩,.string ⟨#[]⟩,.float .f64 0,.int .i64 0,.slice none 0 0] 61)=w1:=⟨_,rfl⟩
 have hs1:w1.heap.size=B+2:=Yy9
 have b1:Below B w w1:=Yy72
 have R1:Hid (w1.rangeAt (B+1) 0 [.int .i64 0,.string ⟨#[]⟩,.string ⟨#[]⟩,.float .f64 0,.int .i64 0,.slice none 0 0]):=hdd Yy81
 have T1:Hid (w1.there B 0 6):=hdd Yy65
 have T2:Hid (w1.there (B+1) 0 6):=hdd (by rw [← hw1,← hB];have hn:=thr_new (w.alloc (Obj.cells #[.int .i64 0,.string ⟨#[]⟩,.string ⟨#[]⟩,.float .f64 0,.int .i64 0,.slice none 0 0] 61)) [.int .i64 0,.string ⟨#[]⟩,.string ⟨#[]⟩,.float .f64 0,.int .i64 0,.slice none 0 0] 61;rwa [show (w.alloc (Obj.cells #[.int .i64 0,.string ⟨#[]⟩,.string ⟨#[]⟩,.float .f64 0,.int .i64 0,.slice none 0 0] 61)).heap.size=w.heap.size+1 from Yy34] at hn)
 have M1:Hid (MS w1 b0):=hdd (HM.out.below (b1.mono (by rw [← hB];exact HBB.out)))
 have V1:Hid (VC w1):=hdd M1.out.vc
 rw [hw1]
 clear hw1 hv
 have HB1:=hdd b1;have HS1:=hdd hs1
 clear b1 hs1
 go_wp2_with fail
 go_loopg [1] (v - p) (fun m v1 wr=>∃ q:Nat,v1 = .int .i64 (q:Int)∧Hid (q+m=v)∧Hid (p≤q)∧Hid (wr=w1))
 case atStart=>exact ⟨p,rfl,hdd Yy0,hdd (nlr _),hdd rfl⟩
 case round=>
  obtain ⟨q,rfl,hq,hpq,hwr⟩:=hrel
  have hqv:q≤v:=Yy51
  have t0:decide (q<s.size)=true:=dtt Yy0
  obtain rfl:=hwr.out
  rcases eol hqv with h | h
  ·
   subst h
   obtain ⟨hvj,hjs,hk3⟩:=hk
   have qi:(q:Int)≤65536:=Yy0
   rcases hk3 with ⟨h4,hst⟩ | ⟨h3,hb,hno⟩ | ⟨⟨hkd,hb,hb1⟩ | ⟨hkd,hb⟩ | ⟨hkd,hb⟩,haz⟩ | ⟨hj,hsq⟩
   ·
    have hb:bt s (q:Int)=34:=hst.1.2.2.1
    have hj2:q+2≤j:=hst.1.1
    rw [PFnGjSquashItems.bt_at (show q<s.size from Yy0)] at hb
    obtain ⟨ve,hve,sc⟩:=str_call hs hst.1
    have SC:Hid (∀ w:World,Calls Tryz.prog 60 #[.string s,.int .i64 ((q:Int)+1)] w fun e w'=>e = .returned (.tuple #[.int .i64 (j:Int),.string (s.extract q j),.bool ve,.bool true])∧∃ n,w'=w.drewN n):=hdd sc
    obtain ⟨O,hO⟩:=tok_un hst
    have HO:=hdd hO
    have KS:Hid (ve=false→KStr (s.extract (q+1) (j - 1)) (s.extract (q+1) (j - 1))):=hdd (fun h=>kstr_plain hst (hve h))
    have HU:Hid ((s.extract (q+1) (j - 1)).size≤65536):=hdd Yy12
    obtain ⟨n9,hn9⟩:∃ n9,j - q=n9:=⟨_,rfl⟩
    have n2:2≤(n9:Int):=Yy0
    have n3:(n9:Int)≤65536:=Yy0
    have xz:(s.extract q j).size=n9:=Yy12
    have hsl:∀ W:World,(Instr.slice 9 (.string (s.extract q j)) (some (.int .i64 1)) (some (.int .i64 ((n9:Int) - 1))) none).run Tryz.prog W = .ok (.string (s.extract (q+1) (j - 1))) W:=fun W=>slice_in hvj hjs Yy0 W
    clear hn9 sc hve hO hst
    cases ve with
    | false=>
     have d0:wr.cell? ⟨B+1,0,none⟩=some (.int .i64 0):=R1.out 0 _ rfl
     have df0:wr.frozen? ⟨B+1,0,none⟩=false:=(T2.out 0 Yy0).2
     have d1:wr.cell? ⟨B+1,1,none⟩=some (.string ⟨#[]⟩):=R1.out 1 _ rfl
     have df1:wr.frozen? ⟨B+1,1,none⟩=false:=(T2.out 1 Yy0).2
     have d2:wr.cell? ⟨B+1,2,none⟩=some (.string ⟨#[]⟩):=R1.out 2 _ rfl
     have df2:wr.frozen? ⟨B+1,2,none⟩=false:=(T2.out 2 Yy0).2
     go_upto_region 47 with (go_at_call 60;refine (SC.out _).mono ?_;rintro en w4 ⟨rfl,k4,rfl⟩)
     clear d0 df0 d1 df1 d2 df2
     have RG:Hid (World.rangeAt ((((wr.drewN k4).setCell ⟨B+1,0,none⟩ (.int .i64 3)).setCell ⟨B+1,1,none⟩ (.string (s.extract q j))).setCell ⟨B+1,2,none⟩ (.string (s.extract (q+1) (j - 1)))) (B+1) 0 [.int .i64 3,.string (s.extract q j),.string (s.extract (q+1) (j - 1)),.float .f64 0,.int .i64 0,.slice none 0 0]):=hdd (rng_set (rng_set (rng_set (rng_dn R1.out k4) 0 (.int .i64 3) Yy3) 1 (.string (s.extract q j)) Yy3) 2 (.string (s.extract (q+1) (j - 1))) Yy3)
     have RT:Hid (World.there ((((wr.drewN k4).setCell ⟨B+1,0,none⟩ (.int .i64 3)).setCell ⟨B+1,1,none⟩ (.string (s.extract q j))).setCell ⟨B+1,2,none⟩ (.string (s.extract (q+1) (j - 1)))) B 0 6):=hdd (thr_set (thr_set (thr_set (thr_dn T1.out k4) ⟨B+1,0,none⟩ (.int .i64 3)) ⟨B+1,1,none⟩ (.string (s.extract q j))) ⟨B+1,2,none⟩ (.string (s.extract (q+1) (j - 1))))
     have RB:Hid (Below B w ((((wr.drewN k4).setCell ⟨B+1,0,none⟩ (.int .i64 3)).setCell ⟨B+1,1,none⟩ (.string (s.extract q j))).setCell ⟨B+1,2,none⟩ (.string (s.extract (q+1) (j - 1))))):=hdd (Below.setCell (p:=⟨B+1,2,none⟩) (Below.setCell (p:=⟨B+1,1,none⟩) (Below.setCell (p:=⟨B+1,0,none⟩) (Below.drewNs HB1.out k4) (Nat.le_succ B) (.int .i64 3)) (Nat.le_succ B) (.string (s.extract q j))) (Nat.le_succ B) (.string (s.extract (q+1) (j - 1))))
     obtain ⟨w9,hw9⟩:∃ w9,(((wr.drewN k4).setCell ⟨B+1,0,none⟩ (.int .i64 3)).setCell ⟨B+1,1,none⟩ (.string (s.extract q j))).setCell ⟨B+1,2,none⟩ (.string (s.extract (q+1) (j - 1)))=w9:=⟨_,rfl⟩
     rw [hw9] at RG RT RB
     rw [hw9]
     clear hw9
     refine wp_region_held_drew (S:=fun w'=>w'.rangeAt (B+1) 0 [.int .i64 3,.string (s.extract q j),.string (s.extract (q+1) (j - 1)),.float .f64 0,.int .i64 0,.slice none 0 0]∧w'.there B 0 6) Yy1 ⟨rng_d RG.out,thr_d RT.out⟩ (fun hHeld=>?_)
     refine take_d (i:=0) (v:=_) (some 114) rfl rfl Yy1 Yy1 Yy1 (fun _ _ _ h=>h) (Or.inl ⟨Yy6,fun _ _=>rfl⟩) hHeld ?_
     simp only [Act.put,List.setIfInBounds_toArray,List.set_cons_zero,List.set_cons_succ]
     refine take_d (i:=1) (some 115) rfl rfl Yy1 Yy1 Yy1 (fun _ _ _ h=>h) (yieldsIf_load_mid Yy6 _ _ rfl _ _ rfl _ _ (fun _ h=>h.1) Tryz.underlying61 rfl Yy1) hHeld ?_
     simp only [Act.put,List.setIfInBounds_toArray,List.set_cons_zero,List.set_cons_succ]
     refine take_d (i:=2) (v:=_) (some 6) rfl rfl Yy1 Yy1 Yy1 (fun _ _ _ h=>h) (Or.inl ⟨Yy6,fun _ _=>rfl⟩) hHeld ?_
     simp only [Act.put,List.setIfInBounds_toArray,List.set_cons_zero,List.set_cons_succ]
     refine wpAnyH_ready (rs:=[3]) Yy1 Yy3 (cons_d none rfl rfl (fun K hK=>?_) AllReadyH.nil)
     rw [if_pos Yy6]
     refine store_d rfl _ _ _ rfl _ _ (List.toArray [.int .i64 3,.string (s.extract q j),.string (s.extract (q+1) (j - 1)),.float .f64 0,.int .i64 0,.slice none 0 0]) rfl rfl hHeld.2 Yy1 Yy24 ?_
     refine hK.out _ _ ⟨World.rangeAt_setCells_apart hHeld.1 _ _ _ (Or.inl Yy0),World.there_setCells hHeld.2 _ _ _⟩ (fun hH2=>?_)
     clear hK K
     refine take_d (i:=4) (v:=_) (some 8) rfl rfl Yy1 Yy1 Yy1 (fun _ _ _ h=>h) (Or.inl ⟨Yy6,fun _ _=>rfl⟩) hH2 ?_
     simp only [Act.put,List.setIfInBounds_toArray,List.set_cons_zero,List.set_cons_succ]
     refine wpAnyH_done Yy1 ?_ _
     have HRG:Hid (World.rangeAt (World.setCells w9.drew B 0 [.int .i64 3,.string (s.extract q j),.string (s.extract (q+1) (j - 1)),.float .f64 0,.int .i64 0,.slice none 0 0]) B 0 [.int .i64 3,.string (s.extract q j),.string (s.extract (q+1) (j - 1)),.float .f64 0,.int .i64 0,.slice none 0 0]):=hdd (World.rangeAt_setCells_same _ _ _ _ hHeld.2)
     have HBE:Hid (Below B w (World.setCells w9.drew B 0 [.int .i64 3,.string (s.extract q j),.string (s.extract (q+1) (j - 1)),.float .f64 0,.int .i64 0,.slice none 0 0])):=hdd (Below.cellsN (nlr B) _ 0 _ RB.out.drew)
     clear hHeld hH2
     obtain ⟨w8,hw8⟩:∃ w8,World.setCells w9.drew B 0 [.int .i64 3,.string (s.extract q j),.string (s.extract (q+1) (j - 1)),.float .f64 0,.int .i64 0,.slice none 0 0]=w8:=⟨_,rfl⟩
     rw [hw8] at HRG HBE
     try simp only [List.toList_toArray]
     rw [hw8]
     clear hw8
     go_wp2_with fail
     refine bodyPost_ret (results_tct rfl _ _ B _ _ rfl HRG.out Tryz.underlying61 rfl Yy1) rfl ?_
     exact ⟨0,0,_,by rw [h4];rfl,Nat.zero_le _,fun _=>KS.out trivial,fun h=>absurd h4 h,Yy36⟩
    | true=>
     have d0:wr.cell? ⟨B+1,0,none⟩=some (.int .i64 0):=R1.out 0 _ rfl
     have df0:wr.frozen? ⟨B+1,0,none⟩=false:=(T2.out 0 Yy0).2
     have d1:wr.cell? ⟨B+1,1,none⟩=some (.string ⟨#[]⟩):=R1.out 1 _ rfl
     have df1:wr.frozen? ⟨B+1,1,none⟩=false:=(T2.out 1 Yy0).2
     go_upto_region 45 with (go_at_call 60;refine (SC.out _).mono ?_;rintro en w4 ⟨rfl,k4,rfl⟩)
     clear d0 df0 d1 df1
     have R5:Hid (World.rangeAt (((wr.drewN k4).setCell ⟨B+1,0,none⟩ (.int .i64 3)).setCell ⟨B+1,1,none⟩ (.string (s.extract q j))) (B+1) 0 [.int .i64 3,.string (s.extract q j),.string ⟨#[]⟩,.float .f64 0,.int .i64 0,.slice none 0 0]):=hdd (rng_set (rng_set (rng_dn R1.out k4) 0 (.int .i64 3) Yy3) 1 (.string (s.extract q j)) Yy3)
     have T5:Hid (World.there (((wr.drewN k4).setCell ⟨B+1,0,none⟩ (.int .i64 3)).setCell ⟨B+1,1,none⟩ (.string (s.extract q j))) B 0 6):=hdd (thr_set (thr_set (thr_dn T1.out k4) _ _) _ _)
     have U5:Hid (World.there (((wr.drewN k4).setCell ⟨B+1,0,none⟩ (.int .i64 3)).setCell ⟨B+1,1,none⟩ (.string (s.extract q j))) (B+1) 0 6):=hdd (thr_set (thr_set (thr_dn T2.out k4) _ _) _ _)
     have B5:Hid (Below B w (((wr.drewN k4).setCell ⟨B+1,0,none⟩ (.int .i64 3)).setCell ⟨B+1,1,none⟩ (.string (s.extract q j)))):=hdd (Below.setCell (p:=⟨B+1,1,none⟩) (Below.setCell (p:=⟨B+1,0,none⟩) (Below.drewNs HB1.out k4) (Nat.le_succ B) _) (Nat.le_succ B) _)
     obtain ⟨w5,hw5⟩:∃ w5,((wr.drewN k4).setCell ⟨B+1,0,none⟩ (.int .i64 3)).setCell ⟨B+1,1,none⟩ (.string (s.extract q j))=w5:=⟨_,rfl⟩
     rw [hw5] at R5 T5 U5 B5
     rw [hw5]
     clear hw5
     have e2:w5.cell? ⟨B+1,2,none⟩=some (.string ⟨#[]⟩):=R5.out 2 _ rfl
     have ef2:w5.frozen? ⟨B+1,2,none⟩=false:=(U5.out 2 Yy0).2
     go_upto_region 47 with (go_at_call 61;refine (unesc_any _ HU.out O HO.out).mono ?_;rintro en w6 ⟨rfl,hb6⟩;have e6:=cellB hb6 e2;have f6:=frozB hb6 e2 ef2;have HB6:=hdd hb6;clear hb6)
     have R1:=hdd (rng_b R5.out HB6.out)
     have T1:=hdd (thr_b T5.out HB6.out)
     have HB1:Hid (Below B w w6):=hdd (B5.out.trans (HB6.out.mono (by have:=B5.out.size;omega)))
     clear e2 ef2 e6 f6
     have RG:Hid (World.rangeAt (w6.setCell ⟨B+1,2,none⟩ (.string (strOfNums O))) (B+1) 0 [.int .i64 3,.string (s.extract q j),.string (strOfNums O),.float .f64 0,.int .i64 0,.slice none 0 0]):=hdd (rng_set R1.out 2 (.string (strOfNums O)) Yy3)
     have RT:Hid (World.there (w6.setCell ⟨B+1,2,none⟩ (.string (strOfNums O))) B 0 6):=hdd (thr_set T1.out ⟨B+1,2,none⟩ (.string (strOfNums O)))
     have RB:Hid (Below B w (w6.setCell ⟨B+1,2,none⟩ (.string (strOfNums O)))):=hdd (Below.setCell (p:=⟨B+1,2,none⟩) HB1.out (Nat.le_succ B) (.string (strOfNums O)))
     obtain ⟨w9,hw9⟩:∃ w9,w6.setCell ⟨B+1,2,none⟩ (.string (strOfNums O))=w9:=⟨_,rfl⟩
     rw [hw9] at RG RT RB
     rw [hw9]
     clear hw9
     refine wp_region_held_drew (S:=fun w'=>w'.rangeAt (B+1) 0 [.int .i64 3,.string (s.extract q j),.string (strOfNums O),.float .f64 0,.int .i64 0,.slice none 0 0]∧w'.there B 0 6) Yy1 ⟨rng_d RG.out,thr_d RT.out⟩ (fun hHeld=>?_)
     refine take_d (i:=0) (v:=_) (some 114) rfl rfl Yy1 Yy1 Yy1 (fun _ _ _ h=>h) (Or.inl ⟨Yy6,fun _ _=>rfl⟩) hHeld ?_
     simp only [Act.put,List.setIfInBounds_toArray,List.set_cons_zero,List.set_cons_succ]
     refine take_d (i:=1) (some 115) rfl rfl Yy1 Yy1 Yy1 (fun _ _ _ h=>h) (yieldsIf_load_mid Yy6 _ _ rfl _ _ rfl _ _ (fun _ h=>h.1) Tryz.underlying61 rfl Yy1) hHeld ?_
     simp only [Act.put,List.setIfInBounds_toArray,List.set_cons_zero,List.set_cons_succ]
     refine take_d (i:=2) (v:=_) (some 6) rfl rfl Yy1 Yy1 Yy1 (fun _ _ _ h=>h) (Or.inl ⟨Yy6,fun _ _=>rfl⟩) hHeld ?_
     simp only [Act.put,List.setIfInBounds_toArray,List.set_cons_zero,List.set_cons_succ]
     refine wpAnyH_ready (rs:=[3]) Yy1 Yy3 (cons_d none rfl rfl (fun K hK=>?_) AllReadyH.nil)
     rw [if_pos Yy6]
     refine store_d rfl _ _ _ rfl _ _ (List.toArray [.int .i64 3,.string (s.extract q j),.string (strOfNums O),.float .f64 0,.int .i64 0,.slice none 0 0]) rfl rfl hHeld.2 Yy1 Yy24 ?_
     refine hK.out _ _ ⟨World.rangeAt_setCells_apart hHeld.1 _ _ _ (Or.inl Yy0),World.there_setCells hHeld.2 _ _ _⟩ (fun hH2=>?_)
     clear hK K
     refine take_d (i:=4) (v:=_) (some 8) rfl rfl Yy1 Yy1 Yy1 (fun _ _ _ h=>h) (Or.inl ⟨Yy6,fun _ _=>rfl⟩) hH2 ?_
     simp only [Act.put,List.setIfInBounds_toArray,List.set_cons_zero,List.set_cons_succ]
     refine wpAnyH_done Yy1 ?_ _
     have HRG:Hid (World.rangeAt (World.setCells w9.drew B 0 [.int .i64 3,.string (s.extract q j),.string (strOfNums O),.float .f64 0,.int .i64 0,.slice none 0 0]) B 0 [.int .i64 3,.string (s.extract q j),.string (strOfNums O),.float .f64 0,.int .i64 0,.slice none 0 0]):=hdd (World.rangeAt_setCells_same _ _ _ _ hHeld.2)
     have HBE:Hid (Below B w (World.setCells w9.drew B 0 [.int .i64 3,.string (s.extract q j),.string (strOfNums O),.float .f64 0,.int .i64 0,.slice none 0 0])):=hdd (Below.cellsN (nlr B) _ 0 _ RB.out.drew)
     clear hHeld hH2
     obtain ⟨w8,hw8⟩:∃ w8,World.setCells w9.drew B 0 [.int .i64 3,.string (s.extract q j),.string (strOfNums O),.float .f64 0,.int .i64 0,.slice none 0 0]=w8:=⟨_,rfl⟩
     rw [hw8] at HRG HBE
     try simp only [List.toList_toArray]
     rw [hw8]
     clear hw8
     go_wp2_with fail
     refine bodyPost_ret (results_tct rfl _ _ B _ _ rfl HRG.out Tryz.underlying61 rfl Yy1) rfl ?_
     exact ⟨0,0,_,by rw [h4];rfl,Nat.zero_le _,fun _=>⟨O,HO.out,rfl⟩,fun h=>absurd h4 h,Yy36⟩
   ·
    have NC:Hid (∀ w:World,Calls Tryz.prog 79 #[.string s,.int .i64 (q:Int)] w fun e w'=>e = .returned (.tuple #[.int .i64 (j:Int),.string (s.extract q j)])∧∃ n,w'=w.drewN n):=hdd (num_call hs hvj hjs hno he)
    have NS:Hid (NumStr (s.extract q j)):=hdd (num_str hjs hno)
    have NZ:Hid ((s.extract q j).size≤65536):=hdd Yy12
    clear hno
    rw [PFnGjSquashItems.bt_at (show q<s.size from Yy0)] at hb
    obtain ⟨c,hc⟩:∃ c,(s[q].toNat:Int)=c:=⟨_,rfl⟩
    rw [hc] at hb
    have q0:(c == 123)=false:=bfo Yy0
    have q1:(c == 91)=false:=bfo Yy0
    have q9:decide (c≤32)=false:=dff Yy0
    go_upto_block 2 with (fail)
    go_cut [1,11] (fun v1 v11 wc=>v1 = .int .i64 (q:Int)∧v11 = .bool true∧Hid (wc=wr))
    case first=>
     clear q0 q1 q9
     have hx:c=45∨c=48∨c=49∨c=50∨c=51∨c=52∨c=53∨c=54∨c=55∨c=56∨c=57:=Yy0
     clear hb
     rcases hx with rfl | rfl | rfl | rfl | rfl | rfl | rfl | rfl | rfl | rfl | rfl
     all_goals
      go_wp2_with fail
      go_meet
      exact ⟨rfl,rfl,hdd rfl⟩
    case rest=>
     obtain ⟨rfl,rfl,hwc⟩:=hcut
     obtain rfl:=hwc.out
     have d0:wc.cell? ⟨B+1,0,none⟩=some (.int .i64 0):=R1.out 0 _ rfl
     have df0:wc.frozen? ⟨B+1,0,none⟩=false:=(T2.out 0 Yy0).2
     have d1:wc.cell? ⟨B+1,1,none⟩=some (.string ⟨#[]⟩):=R1.out 1 _ rfl
     have df1:wc.frozen? ⟨B+1,1,none⟩=false:=(T2.out 1 Yy0).2
     go_upto_region 66 with (go_at_call 79;(with_reducible refine (NC.out _).mono ?_);rintro en w4 ⟨rfl,k4,rfl⟩)
     clear d0 df0 d1 df1
     have R5:Hid (World.rangeAt (((wc.drewN k4).setCell ⟨B+1,1,none⟩ (.string (s.extract q j))).setCell ⟨B+1,0,none⟩ (.int .i64 2)) (B+1) 0 [.int .i64 2,.string (s.extract q j),.string ⟨#[]⟩,.float .f64 0,.int .i64 0,.slice none 0 0]):=hdd (rng_set (rng_set (rng_dn R1.out k4) 1 (.string (s.extract q j)) Yy3) 0 (.int .i64 2) Yy3)
     have T5:Hid (World.there (((wc.drewN k4).setCell ⟨B+1,1,none⟩ (.string (s.extract q j))).setCell ⟨B+1,0,none⟩ (.int .i64 2)) B 0 6):=hdd (thr_set (thr_set (thr_dn T1.out k4) _ _) _ _)
     have U5:Hid (World.there (((wc.drewN k4).setCell ⟨B+1,1,none⟩ (.string (s.extract q j))).setCell ⟨B+1,0,none⟩ (.int .i64 2)) (B+1) 0 6):=hdd (thr_set (thr_set (thr_dn T2.out k4) _ _) _ _)
     have B5:Hid (Below B w (((wc.drewN k4).setCell ⟨B+1,1,none⟩ (.string (s.extract q j))).setCell ⟨B+1,0,none⟩ (.int .i64 2))):=hdd (Below.setCell (p:=⟨B+1,0,none⟩) (Below.setCell (p:=⟨B+1,1,none⟩) (Below.drewNs HB1.out k4) (Nat.le_succ B) _) (Nat.le_succ B) _)
     obtain ⟨w5,hw5⟩:∃ w5,((wc.drewN k4).setCell ⟨B+1,1,none⟩ (.string (s.extract q j))).setCell ⟨B+1,0,none⟩ (.int .i64 2)=w5:=⟨_,rfl⟩
     rw [hw5] at R5 T5 U5 B5
     rw [hw5]
     clear hw5
     have M5:Hid (MS w5 b0):=hdd (HM.out.below (B5.out.mono (by rw [← hB];exact HBB.out)))
     have HB5:Hid (b0≤w5.heap.size):=hdd (by have:=B5.out.size;have:=HBB.out;omega)
     have e2:w5.cell? ⟨B+1,3,none⟩=some (.float .f64 0):=R5.out 3 _ rfl
     have ef2:w5.frozen? ⟨B+1,3,none⟩=false:=(U5.out 3 Yy0).2
     go_upto_region 67 with (go_at_call 80;refine (parsefloat_any M5.out.ts HB5.out _ NZ.out NS.out).mono ?_;rintro en w6 ⟨⟨fl,er⟩,hb6⟩;have e6:=cellB hb6 e2;have f6:=frozB hb6 e2 ef2;have HB6:=hdd hb6;clear hb6)
     have R1:=hdd (rng_b R5.out HB6.out)
     have T1:=hdd (thr_b T5.out HB6.out)
     have HB1:Hid (Below B w w6):=hdd (B5.out.trans (HB6.out.mono (by have:=B5.out.size;omega)))
     clear e2 ef2 e6 f6
     have RG:Hid (World.rangeAt (w6.setCell ⟨B+1,3,none⟩ (.float .f64 fl)) (B+1) 0 [.int .i64 2,.string (s.extract q j),.string ⟨#[]⟩,.float .f64 fl,.int .i64 0,.slice none 0 0]):=hdd (rng_set R1.out 3 (.float .f64 fl) Yy3)
     have RT:Hid (World.there (w6.setCell ⟨B+1,3,none⟩ (.float .f64 fl)) B 0 6):=hdd (thr_set T1.out ⟨B+1,3,none⟩ (.float .f64 fl))
     have RB:Hid (Below B w (w6.setCell ⟨B+1,3,none⟩ (.float .f64 fl))):=hdd (Below.setCell (p:=⟨B+1,3,none⟩) HB1.out (Nat.le_succ B) (.float .f64 fl))
     obtain ⟨w9,hw9⟩:∃ w9,w6.setCell ⟨B+1,3,none⟩ (.float .f64 fl)=w9:=⟨_,rfl⟩
     rw [hw9] at RG RT RB
     rw [hw9]
     clear hw9
     refine wp_region_held_drew (S:=fun w'=>w'.rangeAt (B+1) 0 [.int .i64 2,.string (s.extract q j),.string ⟨#[]⟩,.float .f64 fl,.int .i64 0,.slice none 0 0]∧w'.there B 0 6) Yy1 ⟨rng_d RG.out,thr_d RT.out⟩ (fun hHeld=>?_)
     refine take_d (i:=0) (v:=_) (some 166) rfl rfl Yy1 Yy1 Yy1 (fun _ _ _ h=>h) (Or.inl ⟨Yy6,fun _ _=>rfl⟩) hHeld ?_
     simp only [Act.put,List.setIfInBounds_toArray,List.set_cons_zero,List.set_cons_succ]
     refine take_d (i:=1) (some 167) rfl rfl Yy1 Yy1 Yy1 (fun _ _ _ h=>h) (yieldsIf_load_mid Yy6 _ _ rfl _ _ rfl _ _ (fun _ h=>h.1) Tryz.underlying61 rfl Yy1) hHeld ?_
     simp only [Act.put,List.setIfInBounds_toArray,List.set_cons_zero,List.set_cons_succ]
     refine take_d (i:=2) (v:=_) (some 6) rfl rfl Yy1 Yy1 Yy1 (fun _ _ _ h=>h) (Or.inl ⟨Yy6,fun _ _=>rfl⟩) hHeld ?_
     simp only [Act.put,List.setIfInBounds_toArray,List.set_cons_zero,List.set_cons_succ]
     refine wpAnyH_ready (rs:=[3]) Yy1 Yy3 (cons_d none rfl rfl (fun K hK=>?_) AllReadyH.nil)
     rw [if_pos Yy6]
     refine store_d rfl _ _ _ rfl _ _ (List.toArray [.int .i64 2,.string (s.extract q j),.string ⟨#[]⟩,.float .f64 fl,.int .i64 0,.slice none 0 0]) rfl rfl hHeld.2 Yy1 Yy24 ?_
     refine hK.out _ _ ⟨World.rangeAt_setCells_apart hHeld.1 _ _ _ (Or.inl Yy0),World.there_setCells hHeld.2 _ _ _⟩ (fun hH2=>?_)
     clear hK K
     refine take_d (i:=4) (v:=_) (some 8) rfl rfl Yy1 Yy1 Yy1 (fun _ _ _ h=>h) (Or.inl ⟨Yy6,fun _ _=>rfl⟩) hH2 ?_
     simp only [Act.put,List.setIfInBounds_toArray,List.set_cons_zero,List.set_cons_succ]
     refine wpAnyH_done Yy1 ?_ _
     have HRG:Hid (World.rangeAt (World.setCells w9.drew B 0 [.int .i64 2,.string (s.extract q j),.string ⟨#[]⟩,.float .f64 fl,.int .i64 0,.slice none 0 0]) B 0 [.int .i64 2,.string (s.extract q j),.string ⟨#[]⟩,.float .f64 fl,.int .i64 0,.slice none 0 0]):=hdd (World.rangeAt_setCells_same _ _ _ _ hHeld.2)
     have HBE:Hid (Below B w (World.setCells w9.drew B 0 [.int .i64 2,.string (s.extract q j),.string ⟨#[]⟩,.float .f64 fl,.int .i64 0,.slice none 0 0])):=hdd (Below.cellsN (nlr B) _ 0 _ RB.out.drew)
     clear hHeld hH2
     obtain ⟨w8,hw8⟩:∃ w8,World.setCells w9.drew B 0 [.int .i64 2,.string (s.extract q j),.string ⟨#[]⟩,.float .f64 fl,.int .i64 0,.slice none 0 0]=w8:=⟨_,rfl⟩
     rw [hw8] at HRG HBE
     try simp only [List.toList_toArray]
     rw [hw8]
     clear hw8
     go_wp2_with fail
     refine bodyPost_ret (results_tct rfl _ _ B _ _ rfl HRG.out Tryz.underlying61 rfl Yy1) rfl ?_
     exact ⟨fl,0,⟨#[]⟩,by rw [h3];rfl,Nat.zero_le _,fun h=>absurd h Yy0,fun _=>rfl,Yy36⟩
   ·
    have LC:Hid (∀ w:World,Calls Tryz.prog 78 #[.string s,.int .i64 (q:Int)] w fun e w'=>e = .returned (.tuple #[.int .i64 (j:Int),.string (s.extract q j)])∧∃ n,w'=w.drewN n):=hdd (lit_call hs hvj hjs haz he)
    clear haz
    have hq1:q+1<s.size:=bt_in hb1 Yy0
    rw [PFnGjSquashItems.bt_at hq1] at hb1
    have t1:decide ((q:Int)+1<(s.size:Int))=true:=dtt Yy0
    have t2:decide (q+1<s.size)=true:=dtt hq1
    rw [PFnGjSquashItems.bt_at (show q<s.size from Yy0)] at hb
    have d0:wr.cell? ⟨B+1,0,none⟩=some (.int .i64 0):=R1.out 0 _ rfl
    have df0:wr.frozen? ⟨B+1,0,none⟩=false:=(T2.out 0 Yy0).2
    have d1:wr.cell? ⟨B+1,1,none⟩=some (.string ⟨#[]⟩):=R1.out 1 _ rfl
    have df1:wr.frozen? ⟨B+1,1,none⟩=false:=(T2.out 1 Yy0).2
    go_upto_region 59 with (go_at_call 78;refine (LC.out _).mono ?_;rintro en w4 ⟨rfl,k4,rfl⟩)
    clear d0 df0 d1 df1
    have RG:Hid (World.rangeAt ((wr.drewN k4).setCell ⟨B+1,1,none⟩ (.string (s.extract q j))) (B+1) 0 [.int .i64 0,.string (s.extract q j),.string ⟨#[]⟩,.float .f64 0,.int .i64 0,.slice none 0 0]):=hdd (rng_set (rng_dn R1.out k4) 1 (.string (s.extract q j)) Yy3)
    have RT:Hid (World.there ((wr.drewN k4).setCell ⟨B+1,1,none⟩ (.string (s.extract q j))) B 0 6):=hdd (thr_set (thr_dn T1.out k4) ⟨B+1,1,none⟩ (.string (s.extract q j)))
    have RB:Hid (Below B w ((wr.drewN k4).setCell ⟨B+1,1,none⟩ (.string (s.extract q j)))):=hdd (Below.setCell (p:=⟨B+1,1,none⟩) (Below.drewNs HB1.out k4) (Nat.le_succ B) (.string (s.extract q j)))
    obtain ⟨w9,hw9⟩:∃ w9,(wr.drewN k4).setCell ⟨B+1,1,none⟩ (.string (s.extract q j))=w9:=⟨_,rfl⟩
    rw [hw9] at RG RT RB
    rw [hw9]
    clear hw9
    refine wp_region_held_drew (S:=fun w'=>w'.rangeAt (B+1) 0 [.int .i64 0,.string (s.extract q j),.string ⟨#[]⟩,.float .f64 0,.int .i64 0,.slice none 0 0]∧w'.there B 0 6) Yy1 ⟨rng_d RG.out,thr_d RT.out⟩ (fun hHeld=>?_)
    refine take_d (i:=0) (v:=_) (some 147) rfl rfl Yy1 Yy1 Yy1 (fun _ _ _ h=>h) (Or.inl ⟨Yy6,fun _ _=>rfl⟩) hHeld ?_
    simp only [Act.put,List.setIfInBounds_toArray,List.set_cons_zero,List.set_cons_succ]
    refine take_d (i:=1) (some 148) rfl rfl Yy1 Yy1 Yy1 (fun _ _ _ h=>h) (yieldsIf_load_mid Yy6 _ _ rfl _ _ rfl _ _ (fun _ h=>h.1) Tryz.underlying61 rfl Yy1) hHeld ?_
    simp only [Act.put,List.setIfInBounds_toArray,List.set_cons_zero,List.set_cons_succ]
    refine take_d (i:=2) (v:=_) (some 6) rfl rfl Yy1 Yy1 Yy1 (fun _ _ _ h=>h) (Or.inl ⟨Yy6,fun _ _=>rfl⟩) hHeld ?_
    simp only [Act.put,List.setIfInBounds_toArray,List.set_cons_zero,List.set_cons_succ]
    refine wpAnyH_ready (rs:=[3]) Yy1 Yy3 (cons_d none rfl rfl (fun K hK=>?_) AllReadyH.nil)
    rw [if_pos Yy6]
    refine store_d rfl _ _ _ rfl _ _ (List.toArray [.int .i64 0,.string (s.extract q j),.string ⟨#[]⟩,.float .f64 0,.int .i64 0,.slice none 0 0]) rfl rfl hHeld.2 Yy1 Yy24 ?_
    refine hK.out _ _ ⟨World.rangeAt_setCells_apart hHeld.1 _ _ _ (Or.inl Yy0),World.there_setCells hHeld.2 _ _ _⟩ (fun hH2=>?_)
    clear hK K
    refine take_d (i:=4) (v:=_) (some 8) rfl rfl Yy1 Yy1 Yy1 (fun _ _ _ h=>h) (Or.inl ⟨Yy6,fun _ _=>rfl⟩) hH2 ?_
    simp only [Act.put,List.setIfInBounds_toArray,List.set_cons_zero,List.set_cons_succ]
    refine wpAnyH_done Yy1 ?_ _
    have HRG:Hid (World.rangeAt (World.setCells w9.drew B 0 [.int .i64 0,.string (s.extract q j),.string ⟨#[]⟩,.float .f64 0,.int .i64 0,.slice none 0 0]) B 0 [.int .i64 0,.string (s.extract q j),.string ⟨#[]⟩,.float .f64 0,.int .i64 0,.slice none 0 0]):=hdd (World.rangeAt_setCells_same _ _ _ _ hHeld.2)
    have HBE:Hid (Below B w (World.setCells w9.drew B 0 [.int .i64 0,.string (s.extract q j),.string ⟨#[]⟩,.float .f64 0,.int .i64 0,.slice none 0 0])):=hdd (Below.cellsN (nlr B) _ 0 _ RB.out.drew)
    clear hHeld hH2
    obtain ⟨w8,hw8⟩:∃ w8,World.setCells w9.drew B 0 [.int .i64 0,.string (s.extract q j),.string ⟨#[]⟩,.float .f64 0,.int .i64 0,.slice none 0 0]=w8:=⟨_,rfl⟩
    rw [hw8] at HRG HBE
    try simp only [List.toList_toArray]
    rw [hw8]
    clear hw8
    go_wp2_with fail
    refine bodyPost_ret (results_tct rfl _ _ B _ _ rfl HRG.out Tryz.underlying61 rfl Yy1) rfl ?_
    exact ⟨0,0,⟨#[]⟩,by rw [hkd];rfl,Nat.zero_le _,fun h=>absurd h Yy0,fun _=>rfl,Yy36⟩
   ·
    have LC:Hid (∀ w:World,Calls Tryz.prog 78 #[.string s,.int .i64 (q:Int)] w fun e w'=>e = .returned (.tuple #[.int .i64 (j:Int),.string (s.extract q j)])∧∃ n,w'=w.drewN n):=hdd (lit_call hs hvj hjs haz he)
    clear haz
    rw [PFnGjSquashItems.bt_at (show q<s.size from Yy0)] at hb
    have d0:wr.cell? ⟨B+1,0,none⟩=some (.int .i64 0):=R1.out 0 _ rfl
    have df0:wr.frozen? ⟨B+1,0,none⟩=false:=(T2.out 0 Yy0).2
    have d1:wr.cell? ⟨B+1,1,none⟩=some (.string ⟨#[]⟩):=R1.out 1 _ rfl
    have df1:wr.frozen? ⟨B+1,1,none⟩=false:=(T2.out 1 Yy0).2
    go_upto_region 59 with (go_at_call 78;refine (LC.out _).mono ?_;rintro en w4 ⟨rfl,k4,rfl⟩)
    clear d0 df0 d1 df1
    have RG:Hid (World.rangeAt (((wr.drewN k4).setCell ⟨B+1,1,none⟩ (.string (s.extract q j))).setCell ⟨B+1,0,none⟩ (.int .i64 1)) (B+1) 0 [.int .i64 1,.string (s.extract q j),.string ⟨#[]⟩,.float .f64 0,.int .i64 0,.slice none 0 0]):=hdd (rng_set (rng_set (rng_dn R1.out k4) 1 (.string (s.extract q j)) Yy3) 0 (.int .i64 1) Yy3)
    have RT:Hid (World.there (((wr.drewN k4).setCell ⟨B+1,1,none⟩ (.string (s.extract q j))).setCell ⟨B+1,0,none⟩ (.int .i64 1)) B 0 6):=hdd (thr_set (thr_set (thr_dn T1.out k4) ⟨B+1,1,none⟩ (.string (s.extract q j))) ⟨B+1,0,none⟩ (.int .i64 1))
    have RB:Hid (Below B w (((wr.drewN k4).setCell ⟨B+1,1,none⟩ (.string (s.extract q j))).setCell ⟨B+1,0,none⟩ (.int .i64 1))):=hdd (Below.setCell (p:=⟨B+1,0,none⟩) (Below.setCell (p:=⟨B+1,1,none⟩) (Below.drewNs HB1.out k4) (Nat.le_succ B) (.string (s.extract q j))) (Nat.le_succ B) (.int .i64 1))
    obtain ⟨w9,hw9⟩:∃ w9,((wr.drewN k4).setCell ⟨B+1,1,none⟩ (.string (s.extract q j))).setCell ⟨B+1,0,none⟩ (.int .i64 1)=w9:=⟨_,rfl⟩
    rw [hw9] at RG RT RB
    rw [hw9]
    clear hw9
    refine wp_region_held_drew (S:=fun w'=>w'.rangeAt (B+1) 0 [.int .i64 1,.string (s.extract q j),.string ⟨#[]⟩,.float .f64 0,.int .i64 0,.slice none 0 0]∧w'.there B 0 6) Yy1 ⟨rng_d RG.out,thr_d RT.out⟩ (fun hHeld=>?_)
    refine take_d (i:=0) (v:=_) (some 147) rfl rfl Yy1 Yy1 Yy1 (fun _ _ _ h=>h) (Or.inl ⟨Yy6,fun _ _=>rfl⟩) hHeld ?_
    simp only [Act.put,List.setIfInBounds_toArray,List.set_cons_zero,List.set_cons_succ]
    refine take_d (i:=1) (some 148) rfl rfl Yy1 Yy1 Yy1 (fun _ _ _ h=>h) (yieldsIf_load_mid Yy6 _ _ rfl _ _ rfl _ _ (fun _ h=>h.1) Tryz.underlying61 rfl Yy1) hHeld ?_
    simp only [Act.put,List.setIfInBounds_toArray,List.set_cons_zero,List.set_cons_succ]
    refine take_d (i:=2) (v:=_) (some 6) rfl rfl Yy1 Yy1 Yy1 (fun _ _ _ h=>h) (Or.inl ⟨Yy6,fun _ _=>rfl⟩) hHeld ?_
    simp only [Act.put,List.setIfInBounds_toArray,List.set_cons_zero,List.set_cons_succ]
    refine wpAnyH_ready (rs:=[3]) Yy1 Yy3 (cons_d none rfl rfl (fun K hK=>?_) AllReadyH.nil)
    rw [if_pos Yy6]
    refine store_d rfl _ _ _ rfl _ _ (List.toArray [.int .i64 1,.string (s.extract q j),.string ⟨#[]⟩,.float .f64 0,.int .i64 0,.slice none 0 0]) rfl rfl hHeld.2 Yy1 Yy24 ?_
    refine hK.out _ _ ⟨World.rangeAt_setCells_apart hHeld.1 _ _ _ (Or.inl Yy0),World.there_setCells hHeld.2 _ _ _⟩ (fun hH2=>?_)
    clear hK K
    refine take_d (i:=4) (v:=_) (some 8) rfl rfl Yy1 Yy1 Yy1 (fun _ _ _ h=>h) (Or.inl ⟨Yy6,fun _ _=>rfl⟩) hH2 ?_
    simp only [Act.put,List.setIfInBounds_toArray,List.set_cons_zero,List.set_cons_succ]
    refine wpAnyH_done Yy1 ?_ _
    have HRG:Hid (World.rangeAt (World.setCells w9.drew B 0 [.int .i64 1,.string (s.extract q j),.string ⟨#[]⟩,.float .f64 0,.int .i64 0,.slice none 0 0]) B 0 [.int .i64 1,.string (s.extract q j),.string ⟨#[]⟩,.float .f64 0,.int .i64 0,.slice none 0 0]):=hdd (World.rangeAt_setCells_same _ _ _ _ hHeld.2)
    have HBE:Hid (Below B w (World.setCells w9.drew B 0 [.int .i64 1,.string (s.extract q j),.string ⟨#[]⟩,.float .f64 0,.int .i64 0,.slice none 0 0])):=hdd (Below.cellsN (nlr B) _ 0 _ RB.out.drew)
    clear hHeld hH2
    obtain ⟨w8,hw8⟩:∃ w8,World.setCells w9.drew B 0 [.int .i64 1,.string (s.extract q j),.string ⟨#[]⟩,.float .f64 0,.int .i64 0,.slice none 0 0]=w8:=⟨_,rfl⟩
    rw [hw8] at HRG HBE
    try simp only [List.toList_toArray]
    rw [hw8]
    clear hw8
    go_wp2_with fail
    refine bodyPost_ret (results_tct rfl _ _ B _ _ rfl HRG.out Tryz.underlying61 rfl Yy1) rfl ?_
    exact ⟨0,0,⟨#[]⟩,by rw [hkd];rfl,Nat.zero_le _,fun h=>absurd h Yy0,fun _=>rfl,Yy36⟩
   ·
    have LC:Hid (∀ w:World,Calls Tryz.prog 78 #[.string s,.int .i64 (q:Int)] w fun e w'=>e = .returned (.tuple #[.int .i64 (j:Int),.string (s.extract q j)])∧∃ n,w'=w.drewN n):=hdd (lit_call hs hvj hjs haz he)
    clear haz
    rw [PFnGjSquashItems.bt_at (show q<s.size from Yy0)] at hb
    have d0:wr.cell? ⟨B+1,0,none⟩=some (.int .i64 0):=R1.out 0 _ rfl
    have df0:wr.frozen? ⟨B+1,0,none⟩=false:=(T2.out 0 Yy0).2
    have d1:wr.cell? ⟨B+1,1,none⟩=some (.string ⟨#[]⟩):=R1.out 1 _ rfl
    have df1:wr.frozen? ⟨B+1,1,none⟩=false:=(T2.out 1 Yy0).2
    go_upto_region 59 with (go_at_call 78;refine (LC.out _).mono ?_;rintro en w4 ⟨rfl,k4,rfl⟩)
    clear d0 df0 d1 df1
    have RG:Hid (World.rangeAt (((wr.drewN k4).setCell ⟨B+1,1,none⟩ (.string (s.extract q j))).setCell ⟨B+1,0,none⟩ (.int .i64 4)) (B+1) 0 [.int .i64 4,.string (s.extract q j),.string ⟨#[]⟩,.float .f64 0,.int .i64 0,.slice none 0 0]):=hdd (rng_set (rng_set (rng_dn R1.out k4) 1 (.string (s.extract q j)) Yy3) 0 (.int .i64 4) Yy3)
    have RT:Hid (World.there (((wr.drewN k4).setCell ⟨B+1,1,none⟩ (.string (s.extract q j))).setCell ⟨B+1,0,none⟩ (.int .i64 4)) B 0 6):=hdd (thr_set (thr_set (thr_dn T1.out k4) ⟨B+1,1,none⟩ (.string (s.extract q j))) ⟨B+1,0,none⟩ (.int .i64 4))
    have RB:Hid (Below B w (((wr.drewN k4).setCell ⟨B+1,1,none⟩ (.string (s.extract q j))).setCell ⟨B+1,0,none⟩ (.int .i64 4))):=hdd (Below.setCell (p:=⟨B+1,0,none⟩) (Below.setCell (p:=⟨B+1,1,none⟩) (Below.drewNs HB1.out k4) (Nat.le_succ B) (.string (s.extract q j))) (Nat.le_succ B) (.int .i64 4))
    obtain ⟨w9,hw9⟩:∃ w9,((wr.drewN k4).setCell ⟨B+1,1,none⟩ (.string (s.extract q j))).setCell ⟨B+1,0,none⟩ (.int .i64 4)=w9:=⟨_,rfl⟩
    rw [hw9] at RG RT RB
    rw [hw9]
    clear hw9
    refine wp_region_held_drew (S:=fun w'=>w'.rangeAt (B+1) 0 [.int .i64 4,.string (s.extract q j),.string ⟨#[]⟩,.float .f64 0,.int .i64 0,.slice none 0 0]∧w'.there B 0 6) Yy1 ⟨rng_d RG.out,thr_d RT.out⟩ (fun hHeld=>?_)
    refine take_d (i:=0) (v:=_) (some 147) rfl rfl Yy1 Yy1 Yy1 (fun _ _ _ h=>h) (Or.inl ⟨Yy6,fun _ _=>rfl⟩) hHeld ?_
    simp only [Act.put,List.setIfInBounds_toArray,List.set_cons_zero,List.set_cons_succ]
    refine take_d (i:=1) (some 148) rfl rfl Yy1 Yy1 Yy1 (fun _ _ _ h=>h) (yieldsIf_load_mid Yy6 _ _ rfl _ _ rfl _ _ (fun _ h=>h.1) Tryz.underlying61 rfl Yy1) hHeld ?_
    simp only [Act.put,List.setIfInBounds_toArray,List.set_cons_zero,List.set_cons_succ]
    refine take_d (i:=2) (v:=_) (some 6) rfl rfl Yy1 Yy1 Yy1 (fun _ _ _ h=>h) (Or.inl ⟨Yy6,fun _ _=>rfl⟩) hHeld ?_
    simp only [Act.put,List.setIfInBounds_toArray,List.set_cons_zero,List.set_cons_succ]
    refine wpAnyH_ready (rs:=[3]) Yy1 Yy3 (cons_d none rfl rfl (fun K hK=>?_) AllReadyH.nil)
    rw [if_pos Yy6]
    refine store_d rfl _ _ _ rfl _ _ (List.toArray [.int .i64 4,.string (s.extract q j),.string ⟨#[]⟩,.float .f64 0,.int .i64 0,.slice none 0 0]) rfl rfl hHeld.2 Yy1 Yy24 ?_
    refine hK.out _ _ ⟨World.rangeAt_setCells_apart hHeld.1 _ _ _ (Or.inl Yy0),World.there_setCells hHeld.2 _ _ _⟩ (fun hH2=>?_)
    clear hK K
    refine take_d (i:=4) (v:=_) (some 8) rfl rfl Yy1 Yy1 Yy1 (fun _ _ _ h=>h) (Or.inl ⟨Yy6,fun _ _=>rfl⟩) hH2 ?_
    simp only [Act.put,List.setIfInBounds_toArray,List.set_cons_zero,List.set_cons_succ]
    refine wpAnyH_done Yy1 ?_ _
    have HRG:Hid (World.rangeAt (World.setCells w9.drew B 0 [.int .i64 4,.string (s.extract q j),.string ⟨#[]⟩,.float .f64 0,.int .i64 0,.slice none 0 0]) B 0 [.int .i64 4,.string (s.extract q j),.string ⟨#[]⟩,.float .f64 0,.int .i64 0,.slice none 0 0]):=hdd (World.rangeAt_setCells_same _ _ _ _ hHeld.2)
    have HBE:Hid (Below B w (World.setCells w9.drew B 0 [.int .i64 4,.string (s.extract q j),.string ⟨#[]⟩,.float .f64 0,.int .i64 0,.slice none 0 0])):=hdd (Below.cellsN (nlr B) _ 0 _ RB.out.drew)
    clear hHeld hH2
    obtain ⟨w8,hw8⟩:∃ w8,World.setCells w9.drew B 0 [.int .i64 4,.string (s.extract q j),.string ⟨#[]⟩,.float .f64 0,.int .i64 0,.slice none 0 0]=w8:=⟨_,rfl⟩
    rw [hw8] at HRG HBE
    try simp only [List.toList_toArray]
    rw [hw8]
    clear hw8
    go_wp2_with fail
    refine bodyPost_ret (results_tct rfl _ _ B _ _ rfl HRG.out Tryz.underlying61 rfl Yy1) rfl ?_
    exact ⟨0,0,⟨#[]⟩,by rw [hkd];rfl,Nat.zero_le _,fun h=>absurd h Yy0,fun _=>rfl,Yy36⟩
   ·
    have HSQ:=hdd hsq
    have hb:bt s (q:Int)=91∨bt s (q:Int)=123:=by rcases hj with ⟨_,a⟩ | ⟨_,a⟩;exact .inl a;exact .inr a
    have h5:5≤kd:=by rcases hj with ⟨a,_⟩ | ⟨a,_⟩ <;> omega
    have hgk:gkd kd=5:=by unfold gkd;repeat (rw [if_neg Yy0])
    rw [PFnGjSquashItems.bt_at (show q<s.size from Yy0)] at hb
    obtain ⟨n9,hn9⟩:∃ n9,j - q=n9:=⟨_,rfl⟩
    have jn:(j:Int) - (n9:Int)=(q:Int):=Yy0
    have mj:min (j:Int) (s.size:Int)=(j:Int):=Yy0
    have hj1:j - 1+1=j:=Yy0
    have jb:(j:Int)≤65536:=Yy0
    have xz:(s.extract q j).size=n9:=Yy12
    clear hn9 hsq hj
    have HGK:=hdd hgk
    clear hgk
    rcases hb with hb | hb
    all_goals
     have d0:wr.cell? ⟨B+1,0,none⟩=some (.int .i64 0):=R1.out 0 _ rfl
     have df0:wr.frozen? ⟨B+1,0,none⟩=false:=(T2.out 0 Yy0).2
     have d1:wr.cell? ⟨B+1,1,none⟩=some (.string ⟨#[]⟩):=R1.out 1 _ rfl
     have df1:wr.frozen? ⟨B+1,1,none⟩=false:=(T2.out 1 Yy0).2
     have d4:wr.cell? ⟨B+1,4,none⟩=some (.int .i64 0):=R1.out 4 _ rfl
     have df4:wr.frozen? ⟨B+1,4,none⟩=false:=(T2.out 4 Yy0).2
     go_upto_region 12 with (go_at_call 77;refine (squash_any V1.out s hs q (j - 1) HSQ.out).mono ?_;rintro en w4 ⟨rfl,k4,rfl⟩;rw [hj1])
     clear d0 df0 d1 df1 d4 df4
     have RG:Hid (World.rangeAt ((((wr.drewN k4).setCell ⟨B+1,1,none⟩ (.string (s.extract q j))).setCell ⟨B+1,0,none⟩ (.int .i64 5)).setCell ⟨B+1,4,none⟩ (.int .i64 (q:Int))) (B+1) 0 [.int .i64 5,.string (s.extract q j),.string ⟨#[]⟩,.float .f64 0,.int .i64 (q:Int),.slice none 0 0]):=hdd (rng_set (rng_set (rng_set (rng_dn R1.out k4) 1 (.string (s.extract q j)) Yy3) 0 (.int .i64 5) Yy3) 4 (.int .i64 (q:Int)) Yy3)
     have RT:Hid (World.there ((((wr.drewN k4).setCell ⟨B+1,1,none⟩ (.string (s.extract q j))).setCell ⟨B+1,0,none⟩ (.int .i64 5)).setCell ⟨B+1,4,none⟩ (.int .i64 (q:Int))) B 0 6):=hdd (thr_set (thr_set (thr_set (thr_dn T1.out k4) ⟨B+1,1,none⟩ (.string (s.extract q j))) ⟨B+1,0,none⟩ (.int .i64 5)) ⟨B+1,4,none⟩ (.int .i64 (q:Int)))
     have RB:Hid (Below B w ((((wr.drewN k4).setCell ⟨B+1,1,none⟩ (.string (s.extract q j))).setCell ⟨B+1,0,none⟩ (.int .i64 5)).setCell ⟨B+1,4,none⟩ (.int .i64 (q:Int)))):=hdd (Below.setCell (p:=⟨B+1,4,none⟩) (Below.setCell (p:=⟨B+1,0,none⟩) (Below.setCell (p:=⟨B+1,1,none⟩) (Below.drewNs HB1.out k4) (Nat.le_succ B) (.string (s.extract q j))) (Nat.le_succ B) (.int .i64 5)) (Nat.le_succ B) (.int .i64 (q:Int)))
     obtain ⟨w9,hw9⟩:∃ w9,(((wr.drewN k4).setCell ⟨B+1,1,none⟩ (.string (s.extract q j))).setCell ⟨B+1,0,none⟩ (.int .i64 5)).setCell ⟨B+1,4,none⟩ (.int .i64 (q:Int))=w9:=⟨_,rfl⟩
     rw [hw9] at RG RT RB
     rw [hw9]
     clear hw9
     refine wp_region_held_drew (S:=fun w'=>w'.rangeAt (B+1) 0 [.int .i64 5,.string (s.extract q j),.string ⟨#[]⟩,.float .f64 0,.int .i64 (q:Int),.slice none 0 0]∧w'.there B 0 6) Yy1 ⟨rng_d RG.out,thr_d RT.out⟩ (fun hHeld=>?_)
     refine take_d (i:=0) (v:=_) (some 50) rfl rfl Yy1 Yy1 Yy1 (fun _ _ _ h=>h) (Or.inl ⟨Yy6,fun _ _=>rfl⟩) hHeld ?_
     simp only [Act.put,List.setIfInBounds_toArray,List.set_cons_zero,List.set_cons_succ]
     refine take_d (i:=1) (some 51) rfl rfl Yy1 Yy1 Yy1 (fun _ _ _ h=>h) (yieldsIf_load_mid Yy6 _ _ rfl _ _ rfl _ _ (fun _ h=>h.1) Tryz.underlying61 rfl Yy1) hHeld ?_
     simp only [Act.put,List.setIfInBounds_toArray,List.set_cons_zero,List.set_cons_succ]
     refine take_d (i:=2) (v:=_) (some 6) rfl rfl Yy1 Yy1 Yy1 (fun _ _ _ h=>h) (Or.inl ⟨Yy6,fun _ _=>rfl⟩) hHeld ?_
     simp only [Act.put,List.setIfInBounds_toArray,List.set_cons_zero,List.set_cons_succ]
     refine wpAnyH_ready (rs:=[3]) Yy1 Yy3 (cons_d none rfl rfl (fun K hK=>?_) AllReadyH.nil)
     rw [if_pos Yy6]
     refine store_d rfl _ _ _ rfl _ _ (List.toArray [.int .i64 5,.string (s.extract q j),.string ⟨#[]⟩,.float .f64 0,.int .i64 (q:Int),.slice none 0 0]) rfl rfl hHeld.2 Yy1 Yy24 ?_
     refine hK.out _ _ ⟨World.rangeAt_setCells_apart hHeld.1 _ _ _ (Or.inl Yy0),World.there_setCells hHeld.2 _ _ _⟩ (fun hH2=>?_)
     clear hK K
     refine take_d (i:=4) (v:=_) (some 8) rfl rfl Yy1 Yy1 Yy1 (fun _ _ _ h=>h) (Or.inl ⟨Yy6,fun _ _=>rfl⟩) hH2 ?_
     simp only [Act.put,List.setIfInBounds_toArray,List.set_cons_zero,List.set_cons_succ]
     refine wpAnyH_done Yy1 ?_ _
     have HRG:Hid (World.rangeAt (World.setCells w9.drew B 0 [.int .i64 5,.string (s.extract q j),.string ⟨#[]⟩,.float .f64 0,.int .i64 (q:Int),.slice none 0 0]) B 0 [.int .i64 5,.string (s.extract q j),.string ⟨#[]⟩,.float .f64 0,.int .i64 (q:Int),.slice none 0 0]):=hdd (World.rangeAt_setCells_same _ _ _ _ hHeld.2)
     have HBE:Hid (Below B w (World.setCells w9.drew B 0 [.int .i64 5,.string (s.extract q j),.string ⟨#[]⟩,.float .f64 0,.int .i64 (q:Int),.slice none 0 0])):=hdd (Below.cellsN (nlr B) _ 0 _ RB.out.drew)
     clear hHeld hH2
     obtain ⟨w8,hw8⟩:∃ w8,World.setCells w9.drew B 0 [.int .i64 5,.string (s.extract q j),.string ⟨#[]⟩,.float .f64 0,.int .i64 (q:Int),.slice none 0 0]=w8:=⟨_,rfl⟩
     rw [hw8] at HRG HBE
     try simp only [List.toList_toArray]
     rw [hw8]
     clear hw8
     go_wp2_with fail
     refine bodyPost_ret (results_tct rfl _ _ B _ _ rfl HRG.out Tryz.underlying61 rfl Yy1) rfl ?_
     exact ⟨0,q,⟨#[]⟩,by rw [HGK.out];rfl,Nat.le_of_lt hvs,fun h=>absurd h Yy0,fun _=>rfl,Yy36⟩
  ·
   have hb:=hsk q hpq.out h
   rw [PFnGjSquashItems.bt_at (show q<s.size from Yy0)] at hb
   have q1:((s[q].toNat:Int) == 123)=false:=bfo Yy0
   have q2:((s[q].toNat:Int) == 91)=false:=bfo Yy0
   have q3:decide ((s[q].toNat:Int)≤32)=true:=dtt hb
   go_wp2_with fail
   go_roundg (gk - 1)
   case measure=>have:=hq.out;omega
   case rel=>exact ⟨q+1,Yy5,hdd Yy51,hdd (by have:=hpq.out;omega),hdd rfl⟩
structure KeepC (C:Nat→Prop) (base:Nat) (w w':World):Prop where
 os:w'.os=w.os
 tape:w'.tape=w.tape
 output:w'.output=w.output
 size:w.heap.size≤w'.heap.size
 block:∀ g,g<base→¬ C g→w'.heap[g]? = w.heap[g]?
structure OffC (C:Nat→Prop) (base:Nat) (w w':World):Prop where
 size:w.heap.size≤w'.heap.size
 block:∀ g,g<w.heap.size→C g∨base≤g→w'.heap[g]? = w.heap[g]?
theorem KeepC.refl (C:Nat→Prop) (base:Nat) (w:World):KeepC C base w w:=⟨rfl,rfl,rfl,nlr _,fun _ _ _=>rfl⟩
theorem KeepC.trans {C:Nat→Prop} {base:Nat} {a b c:World} (h:KeepC C base a b) (k:KeepC C base b c):KeepC C base a c:=⟨k.os.trans h.os,k.tape.trans h.tape,k.output.trans h.output,Nat.le_trans h.size k.size,fun g h1 h2=>(k.block g h1 h2).trans (h.block g h1 h2)⟩
theorem KeepC.mono {C:Nat→Prop} {base base':Nat} {a b:World} (h:KeepC C base' a b) (hb:base≤base'):KeepC C base a b:=⟨h.os,h.tape,h.output,h.size,fun g h1 h2=>h.block g (Nat.lt_of_lt_of_le h1 hb) h2⟩
theorem KeepC.of {C:Nat→Prop} {base B:Nat} {a b:World} (h:Below B a b) (hb:base≤B):KeepC C base a b:=⟨h.os,h.tape,h.output,h.size,fun g h1 _=>h.block g (Nat.lt_of_lt_of_le h1 hb)⟩
theorem KeepC.toBelow {C:Nat→Prop} {base b0:Nat} {a b:World} (h:KeepC C base a b) (hb:b0≤base) (hC:∀ g,C g→b0≤g):Below b0 a b:=⟨h.os,h.tape,h.output,h.size,fun g h1=>h.block g Yy0 (fun hc=>by have:=hC g hc;omega)⟩
theorem OffC.of {C:Nat→Prop} {base:Nat} {a b:World} (h:Below a.heap.size a b):OffC C base a b:=⟨h.size,fun g h1 _=>h.block g h1⟩
theorem OffC.set {C:Nat→Prop} {base:Nat} (w:World) (a:Addr) (v:Value) (h1:¬ C a.block) (h2:a.block<base):OffC C base w (w.setCell a v):=by
 have hb:Below 0 w (w.setCell a v):=(Below.refl 0 w).setCell (Nat.zero_le _) v
 exact ⟨hb.size,fun g _ hg=>Below.heap_setCell w a v g (fun e=>by subst e;rcases hg with hg | hg;exact h1 hg;omega)⟩
structure IterOK (f:Nat) (caps:Array Value) (C:Nat→Prop) (Inv:Nat→List (RV×RV)→World→Prop) (cont:List (RV×RV)→Bool):Prop where
 enter:∀ (args:Array Value) (w:World),(callFunc f args).run Tryz.prog w = .ok (.enter f args) w
 step:∀ (base:Nat) (L:List (RV×RV)) (a b:RV) (w:World),Inv base L w→base≤w.heap.size→L.length≤65536→Calls Tryz.prog f (#[a.val,b.val] ++ caps) w fun e w'=>e = .returned (.bool (cont (L ++ [(a,b)])))∧Inv base (L ++ [(a,b)]) w'∧KeepC C base w w'
 off:∀ (base:Nat) (L:List (RV×RV)) (w w':World),Inv base L w→OffC C base w w'→Inv base L w'
def RV.cl (r:RV):List Value:=[.int .i64 r.k,.string r.raw,.string r.str,.float .f64 r.q,.int .i64 r.ix,.slice none 0 0]
theorem RV.cl_len (r:RV):r.cl.length=6:=rfl
def RV.z:RV:=⟨0,⟨#[]⟩,⟨#[]⟩,0,0⟩
structure FS (C:Nat→Prop) (Inv:Nat→List (RV×RV)→World→Prop) (A K:Nat) (t:RV) (L:List (RV×RV)) (w wr:World) (key val:RV):Prop where
 tr:wr.rangeAt A 0 t.cl
 kr:wr.rangeAt K 0 key.cl
 kt:wr.there K 0 6
 vr:wr.rangeAt (K+1) 0 val.cl
 vt:wr.there (K+1) 0 6
 inv:Inv (K+2) L wr
 keep:KeepC C A w wr
 sz:K+2≤wr.heap.size
 ak:A<K
section
variable {f:Nat} {caps:Array Value} {C:Nat→Prop} {Inv:Nat→List (RV×RV)→World→Prop} {cont:List (RV×RV)→Bool} {A K:Nat} {t key val:RV} {L:List (RV×RV)} {w wr w':World}
theorem FS.below (h:FS C Inv A K t L w wr key val) (hi:IterOK f caps C Inv cont) (hb:Below wr.heap.size wr w'):FS C Inv A K t L w w' key val:=
 ⟨rng_b h.tr hb,rng_b h.kr hb,thr_b h.kt hb,rng_b h.vr hb,thr_b h.vt hb,hi.off _ _ _ _ h.inv (OffC.of hb),h.keep.trans (KeepC.of hb (by have:=h.sz;have:=h.ak;omega)),Nat.le_trans h.sz hb.size,h.ak⟩
theorem FS.dn (h:FS C Inv A K t L w wr key val) (hi:IterOK f caps C Inv cont) (n:Nat):FS C Inv A K t L w (wr.drewN n) key val:=h.below hi (Below.drewNs (Below.refl _ _) n)
theorem below_set {B:Nat} (w:World) (a:Addr) (v:Value) (h:B≤a.block):Below B w (w.setCell a v):=(Below.refl B w).setCell h v
theorem FS.valSet (h:FS C Inv A K t L w wr key val) (hi:IterOK f caps C Inv cont) (hC:∀ g,C g→g<A) (i:Nat) (hl:i<6) (v:Value) (val':RV) (hk:val.cl.set i v=val'.cl):FS C Inv A K t L w (wr.setCell ⟨K+1,i,none⟩ v) key val':=by
 have ak:=h.ak
 have hb:=below_set (B:=A) wr ⟨K+1,i,none⟩ v (by show A≤K+1;omega)
 exact ⟨rng_oth h.tr (K+1) i v Yy0,rng_oth h.kr (K+1) i v Yy0,thr_set h.kt _ v,by rw [← hk];exact rng_set h.vr i v (by simpa [RV.cl_len] using hl),thr_set h.vt _ v,hi.off _ _ _ _ h.inv (OffC.set wr _ v (fun hc=>by have h9:K+1<A:=hC _ hc;omega) (by show K+1<K+2;omega)),h.keep.trans (KeepC.of hb (nlr _)),Nat.le_trans h.sz hb.size,h.ak⟩
theorem FS.valAll (h:FS C Inv A K t L w wr key val) (hi:IterOK f caps C Inv cont) (hC:∀ g,C g→g<A) (val':RV):FS C Inv A K t L w ((((((wr.setCell ⟨K+1,0,none⟩ (.int .i64 val'.k)).setCell ⟨K+1,1,none⟩ (.string val'.raw)).setCell ⟨K+1,2,none⟩ (.string val'.str)).setCell ⟨K+1,3,none⟩ (.float .f64 val'.q)).setCell ⟨K+1,4,none⟩ (.int .i64 val'.ix)).setCell ⟨K+1,5,none⟩ (.slice none 0 0)) key val':=
 (((((h.valSet hi hC 0 Yy0 _ ⟨val'.k,val.raw,val.str,val.q,val.ix⟩ rfl).valSet hi hC 1 Yy0 _ ⟨val'.k,val'.raw,val.str,val.q,val.ix⟩ rfl).valSet hi hC 2 Yy0 _ ⟨val'.k,val'.raw,val'.str,val.q,val.ix⟩ rfl).valSet hi hC 3 Yy0 _ ⟨val'.k,val'.raw,val'.str,val'.q,val.ix⟩ rfl).valSet hi hC 4 Yy0 _ ⟨val'.k,val'.raw,val'.str,val'.q,val'.ix⟩ rfl).valSet hi hC 5 Yy0 _ val' rfl
theorem FS.iter (h:FS C Inv A K t L w wr key val) (hC:∀ g,C g→g<A) {L':List (RV×RV)} (hi:Inv (K+2) L' w') (hk:KeepC C (K+2) wr w'):FS C Inv A K t L' w w' key val:=by
 have ak:=h.ak
 have blk:∀ b,A≤b→b<K+2→w'.heap[b]? = wr.heap[b]?:=fun b h1 h2=>hk.block b h2 (fun hc=>by have:=hC b hc;omega)
 have cl:∀ b o,A≤b→b<K+2→w'.cell? ⟨b,o,none⟩=wr.cell? ⟨b,o,none⟩:=fun b o h1 h2=>World.cell?_of_block (blk b h1 h2)
 have fz:∀ b o,A≤b→b<K+2→w'.frozen? ⟨b,o,none⟩=wr.frozen? ⟨b,o,none⟩:=fun b o h1 h2=>by
  show (match w'.heap[b]? with | _=>_)=_
  unfold World.frozen?
  simp only [blk b h1 h2]
 have rg:∀ b cs,A≤b→b<K+2→wr.rangeAt b 0 cs→w'.rangeAt b 0 cs:=fun b cs h1 h2 hr j v hv=>by rw [cl b _ h1 h2];exact hr j v hv
 have th:∀ b n,A≤b→b<K+2→wr.there b 0 n→w'.there b 0 n:=fun b n h1 h2 hr j hj=>by rw [cl b _ h1 h2,fz b _ h1 h2];exact hr j hj
 exact ⟨rg _ _ Yy0 Yy0 h.tr,rg _ _ Yy0 Yy0 h.kr,th _ _ Yy0 Yy0 h.kt,rg _ _ Yy0 Yy0 h.vr,th _ _ Yy0 Yy0 h.vt,hi,h.keep.trans (hk.mono Yy0),Nat.le_trans h.sz hk.size,ak⟩
theorem FS.ms {b0:Nat} (h:FS C Inv A K t L w wr key val) (hm:MS w b0) (hb:b0≤A) (hC:∀ g,C g→b0≤g):MS wr b0∧b0≤wr.heap.size:=
 ⟨hm.below (h.keep.toBelow hb hC),by have:=h.sz;have:=h.ak;omega⟩
end
attribute [local go_sem] run_store_flt
def AnyNone (w:World) (e:Ending) (w':World):Prop:=∃ i:Int,e = .returned (.tuple #[.int .i64 i,RV.z.val,.bool false])∧Below w.heap.size w w'
theorem any_none {w:World} (s:ByteArray) (hs:s.size≤65536) (p:Nat) (hp:p≤s.size) (hsk:∀ q,p≤q→q<s.size→bt s (q:Int)≤32∨bt s (q:Int)=44∨bt s (q:Int)=58∨bt s (q:Int)=93) :
  Calls Tryz.prog 50 #[.string s,.int .i64 p,.bool true] w (AnyNone w):=by
 obtain ⟨B,hB⟩:∃ B,w.heap.size=B:=⟨_,rfl⟩
 have ss:(s.size:Int)≤65536:=Yy0
 have HSK:=hdd hsk
 clear hsk
 go_enter Tryz.func50,Tryz.ntmps50
 go_upto_block 0 with (fail)
 obtain ⟨w1,hw1⟩:∃ w1,(w.alloc (Obj.cells #[.int .i64 0,.string ⟨#[]⟩,.string ⟨#[]⟩,.float .f64 0,.int .i64 0,.slice none 0 0] 61)).alloc (Obj.cells #[.int .i64 0,.string ⟨#[]⟩,.string ⟨#[]⟩,.float .f64 0,.int .i64 0,.slice none 0 0] 61)=w1:=⟨_,rfl⟩
 have hs1:w1.heap.size=B+2:=Yy9
 have b1:Below B w w1:=Yy72
 have R1:Hid (w1.rangeAt (B+1) 0 [.int .i64 0,.string ⟨#[]⟩,.string ⟨#[]⟩,.float .f64 0,.int .i64 0,.slice none 0 0]):=hdd Yy81
 have T1:Hid (w1.there B 0 6):=hdd Yy65
 rw [hw1]
 clear hw1
 have HB1:=hdd b1;have HS1:=hdd hs1
 clear b1 hs1
 go_wp2_with fail
 go_loopg [1] (s.size - p) (fun m v1 wr=>∃ q:Nat,v1 = .int .i64 (q:Int)∧Hid (q+m=s.size)∧Hid (p≤q)∧Hid (wr=w1))
 case atStart=>exact ⟨p,rfl,hdd Yy0,hdd (nlr _),hdd rfl⟩
 case round=>
  obtain ⟨q,rfl,hq,hpq,hwr⟩:=hrel
  have hqv:q≤s.size:=Yy51
  obtain rfl:=hwr.out
  rcases eol hqv with h | h
  ·
   have t0:decide (q<s.size)=false:=dff Yy0
   clear h hqv
   go_upto_region 68 with (fail)
   have RG:Hid (World.rangeAt (wr) (B+1) 0 [.int .i64 0,.string ⟨#[]⟩,.string ⟨#[]⟩,.float .f64 0,.int .i64 0,.slice none 0 0]):=hdd R1.out
   have RT:Hid (World.there (wr) B 0 6):=hdd T1.out
   have RB:Hid (Below B w (wr)):=hdd HB1.out
   obtain ⟨w9,hw9⟩:∃ w9,wr=w9:=⟨_,rfl⟩
   rw [hw9] at RG RT RB
   rw [hw9]
   clear hw9
   refine wp_region_held_drew (S:=fun w'=>w'.rangeAt (B+1) 0 [.int .i64 0,.string ⟨#[]⟩,.string ⟨#[]⟩,.float .f64 0,.int .i64 0,.slice none 0 0]∧w'.there B 0 6) Yy1 ⟨rng_d RG.out,thr_d RT.out⟩ (fun hHeld=>?_)
   refine take_d (i:=0) (v:=_) (some 168) rfl rfl Yy1 Yy1 Yy1 (fun _ _ _ h=>h) (Or.inl ⟨Yy6,fun _ _=>rfl⟩) hHeld ?_
   simp only [Act.put,List.setIfInBounds_toArray,List.set_cons_zero,List.set_cons_succ]
   refine take_d (i:=1) (some 169) rfl rfl Yy1 Yy1 Yy1 (fun _ _ _ h=>h) (yieldsIf_load_mid Yy6 _ _ rfl _ _ rfl _ _ (fun _ h=>h.1) Tryz.underlying61 rfl Yy1) hHeld ?_
   simp only [Act.put,List.setIfInBounds_toArray,List.set_cons_zero,List.set_cons_succ]
   refine take_d (i:=2) (v:=_) (some 6) rfl rfl Yy1 Yy1 Yy1 (fun _ _ _ h=>h) (Or.inl ⟨Yy6,fun _ _=>rfl⟩) hHeld ?_
   simp only [Act.put,List.setIfInBounds_toArray,List.set_cons_zero,List.set_cons_succ]
   refine wpAnyH_ready (rs:=[3]) Yy1 Yy3 (cons_d none rfl rfl (fun K hK=>?_) AllReadyH.nil)
   rw [if_pos Yy6]
   refine store_d rfl _ _ _ rfl _ _ (List.toArray [.int .i64 0,.string ⟨#[]⟩,.string ⟨#[]⟩,.float .f64 0,.int .i64 0,.slice none 0 0]) rfl rfl hHeld.2 Yy1 Yy24 ?_
   refine hK.out _ _ ⟨World.rangeAt_setCells_apart hHeld.1 _ _ _ (Or.inl Yy0),World.there_setCells hHeld.2 _ _ _⟩ (fun hH2=>?_)
   clear hK K
   refine take_d (i:=4) (v:=_) (some 8) rfl rfl Yy1 Yy1 Yy1 (fun _ _ _ h=>h) (Or.inl ⟨Yy6,fun _ _=>rfl⟩) hH2 ?_
   simp only [Act.put,List.setIfInBounds_toArray,List.set_cons_zero,List.set_cons_succ]
   refine wpAnyH_done Yy1 ?_ _
   have HRG:Hid (World.rangeAt (World.setCells w9.drew B 0 [.int .i64 0,.string ⟨#[]⟩,.string ⟨#[]⟩,.float .f64 0,.int .i64 0,.slice none 0 0]) B 0 [.int .i64 0,.string ⟨#[]⟩,.string ⟨#[]⟩,.float .f64 0,.int .i64 0,.slice none 0 0]):=hdd (World.rangeAt_setCells_same _ _ _ _ hHeld.2)
   have HBE:Hid (Below B w (World.setCells w9.drew B 0 [.int .i64 0,.string ⟨#[]⟩,.string ⟨#[]⟩,.float .f64 0,.int .i64 0,.slice none 0 0])):=hdd (Below.cellsN (nlr B) _ 0 _ RB.out.drew)
   clear hHeld hH2
   obtain ⟨w8,hw8⟩:∃ w8,World.setCells w9.drew B 0 [.int .i64 0,.string ⟨#[]⟩,.string ⟨#[]⟩,.float .f64 0,.int .i64 0,.slice none 0 0]=w8:=⟨_,rfl⟩
   rw [hw8] at HRG HBE
   try simp only [List.toList_toArray]
   rw [hw8]
   clear hw8
   go_wp2_with fail
   refine bodyPost_ret (results_tct rfl _ _ B _ _ rfl HRG.out Tryz.underlying61 rfl Yy1) rfl ?_
   exact ⟨_,rfl,Yy36⟩
  ·
   have t0:decide (q<s.size)=true:=dtt h
   have hb:=HSK.out q hpq.out h
   rw [PFnGjSquashItems.bt_at h] at hb
   have e123:((s[q].toNat:Int) == 123)=false:=bfo Yy0
   have e91:((s[q].toNat:Int) == 91)=false:=bfo Yy0
   have e34:((s[q].toNat:Int) == 34)=false:=bfo Yy0
   have e110:((s[q].toNat:Int) == 110)=false:=bfo Yy0
   have e116:((s[q].toNat:Int) == 116)=false:=bfo Yy0
   have e102:((s[q].toNat:Int) == 102)=false:=bfo Yy0
   have e43:((s[q].toNat:Int) == 43)=false:=bfo Yy0
   have e45:((s[q].toNat:Int) == 45)=false:=bfo Yy0
   have e48:((s[q].toNat:Int) == 48)=false:=bfo Yy0
   have e49:((s[q].toNat:Int) == 49)=false:=bfo Yy0
   have e50:((s[q].toNat:Int) == 50)=false:=bfo Yy0
   have e51:((s[q].toNat:Int) == 51)=false:=bfo Yy0
   have e52:((s[q].toNat:Int) == 52)=false:=bfo Yy0
   have e53:((s[q].toNat:Int) == 53)=false:=bfo Yy0
   have e54:((s[q].toNat:Int) == 54)=false:=bfo Yy0
   have e55:((s[q].toNat:Int) == 55)=false:=bfo Yy0
   have e56:((s[q].toNat:Int) == 56)=false:=bfo Yy0
   have e57:((s[q].toNat:Int) == 57)=false:=bfo Yy0
   have e105:((s[q].toNat:Int) == 105)=false:=bfo Yy0
   have e73:((s[q].toNat:Int) == 73)=false:=bfo Yy0
   have e78:((s[q].toNat:Int) == 78)=false:=bfo Yy0
   have qi:(q:Int)≤65536:=Yy0
   by_cases hx:(s[q].toNat:Int)≤32
   ·
    have e0:decide ((s[q].toNat:Int)≤32)=true:=dtt hx
    clear hb hx
    go_wp2_with fail
    go_roundg (gk - 1)
    case measure=>have:=hq.out;omega
    case rel=>exact ⟨q+1,Yy5,hdd Yy51,hdd (by have:=hpq.out;omega),hdd rfl⟩
   ·
    have e0:decide ((s[q].toNat:Int)≤32)=false:=dff hx
    clear hb hx
    go_wp2_with fail
    go_roundg (gk - 1)
    case measure=>have:=hq.out;omega
    case rel=>exact ⟨q+1,Yy5,hdd Yy51,hdd (by have:=hpq.out;omega),hdd rfl⟩
end Go.Proofs.YtieflhncpjjciaaGreatDoor.Dc
