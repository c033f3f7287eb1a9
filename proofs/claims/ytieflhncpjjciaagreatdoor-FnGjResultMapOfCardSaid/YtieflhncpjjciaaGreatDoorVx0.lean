import Derived.Test.YtieflhncpjjciaaGreatDoorVq
namespace Go.Proofs.YtieflhncpjjciaaGreatDoor.PFnGjSquashItems
open Go.RowKit Go.Proofs.YtieflhncpjjciaaGreatDoorW.PrintWords Go.Proofs.YtieflhncpjjciaaGreatDoorW.PrintLast Go.Proofs.YtieflhncpjjciaaGreatDoorW.PrintMore
attribute [local go_sem] max2_int min2_int max_two min_two max_three min_three max_four min_four
set_option linter.unusedVariables false
set_option linter.unusedSimpArgs false
def errW:Option Int→Value
 | none=>.nilIface
 | some c=>.iface 0 (.int .i64 c)
theorem errW_none:errW none = .nilIface:=rfl
theorem errW_some (c:Int):errW (some c) = .iface 0 (.int .i64 c):=rfl
theorem info5:(Tryz.prog.info? 5).map (fun i=>(i.zero,i.size,i.bytes))=some (some (.int .u8 0),1,1):=Z1
theorem info9:(Tryz.prog.info? 9).map (fun i=>(i.zero,i.size,i.bytes))=some (some (.string ⟨#[]⟩),1,16):=Z1
theorem info26:(Tryz.prog.info? 26).map (fun i=>(i.zero,i.size,i.bytes))=some (some (.agg #[(.int .i64 0),(.string ⟨#[]⟩),(.slice none 0 0),(.slice none 0 0)]),4,72):=Z1
theorem info47:(Tryz.prog.info? 47).map (fun i=>(i.zero,i.size,i.bytes))=some (some (.agg #[(.int .i64 0),(.int .i64 0),(.int .i64 0),(.slice none 0 0),(.slice none 0 0)]),5,72):=Z1
theorem info121:(Tryz.prog.info? 121).map (fun i=>(i.zero,i.size,i.bytes))=some (some (.agg #[(.int .i64 0),(.int .i64 0)]),2,16):=Z1
structure S121 where
 f0:Int
 f1:Int
def z121:S121:=⟨(0:Int),(0:Int)⟩
def k121:Kd S121:=Kd.iso (Kd.pair (Kd.int .i64) (Kd.int .i64)) (fun x:S121=>(x.f0,x.f1))
theorem k121_open {w:World} {x:S121} {cs:List Value} (h:k121.K w x cs):cs = [.int .i64 x.f0,.int .i64 x.f1]:=by
 obtain ⟨_,_,rfl,rfl,rfl⟩:=h
 exact rfl
theorem k121_mkM (w:World) (base:Nat) (ok:Nat→Prop) (x:S121) :k121.M w base ok x [.int .i64 x.f0,.int .i64 x.f1]:=⟨[.int .i64 x.f0],[.int .i64 x.f1],rfl,rfl,rfl⟩
def rd_T121 (xs:List S121) (i:Int):S121:=xs.getD i.toNat z121
theorem at_T121 {w:World} {A:Option Addr} {n:Nat} {xs:List S121} (h:Kd.C k121 w A n xs) (i:Int) (h0:0≤i) (h1:i<n):∃ ad ,A=some ad∧w.cell? (ad.add (i.toNat * 2))=some (.int .i64 (rd_T121 xs i).f0)∧w.cell? ⟨(ad.add (i.toNat * 2)).block,(ad.add (i.toNat * 2)).off+1,none⟩=some (.int .i64 (rd_T121 xs i).f1):=by
 obtain ⟨ad,c,e,_,hK,hc0⟩:=Kd.C_get h z121 i h0 h1
 have hc:∀ j u,c[j]? = some u→w.cell? (ad.add (i.toNat * 2+j))=some u:=hc0
 obtain rfl:=k121_open hK
 exact ⟨ad,e,hc 0 _ rfl,Z78⟩
structure S47 where
 f0:Int
 f1:Int
 f2:Int
 f3:(List S121)
 f4:(List S47)
def z47:S47:=⟨(0:Int),(0:Int),(0:Int),([]:List S121),([]:List S47)⟩
def F47 (d:Kd S47):Kd S47:=Kd.iso (Kd.pair (Kd.int .i64) (Kd.pair (Kd.int .i64) (Kd.pair (Kd.int .i64) (Kd.pair (Kd.slice 121 k121) (Kd.slice 47 d))))) (fun x:S47=>(x.f0,x.f1,x.f2,x.f3,x.f4))
theorem mono47:Kd.Mono F47:=Kd.mono_iso _ (Kd.mono_pair (Kd.mono_const _) (Kd.mono_pair (Kd.mono_const _) (Kd.mono_pair (Kd.mono_const _) (Kd.mono_pair (Kd.mono_const _) (Kd.mono_slice 47 Kd.mono_id)))))
theorem sub47:Kd.Sub F47 [47,121]:=Kd.sub_iso _ (Kd.sub_pair (Kd.sub_const _ Z2) (Kd.sub_pair (Kd.sub_const _ Z2) (Kd.sub_pair (Kd.sub_const _ Z2) (Kd.sub_pair (Kd.sub_const _ Z2) (Kd.sub_slice 47 Z2 Kd.sub_id)))))
theorem sz47:∀ n,(Kd.upto F47 5 [47,121] n).sz=5:=Kd.upto_sz (fun _=>rfl)
def k47:Kd S47:=Kd.fix F47 5 [47,121] sz47 (Kd.upto_E sub47)
theorem k47_open {w:World} {x:S47} {cs:List Value} (h:k47.K w x cs):∃ A3 c3 A4 c4,cs = [.int .i64 x.f0,.int .i64 x.f1,.int .i64 x.f2,.slice A3 x.f3.length c3,.slice A4 x.f4.length c4]∧x.f3.length≤c3∧k121.C w A3 x.f3.length x.f3∧x.f4.length≤c4∧k47.C w A4 x.f4.length x.f4:=by
 obtain ⟨n,h⟩:=h
 cases n with
 | zero=>exact h.elim
 | succ n=>
 obtain ⟨_,_,rfl,rfl,⟨_,_,rfl,rfl,⟨_,_,rfl,rfl,⟨_,_,rfl,⟨A3,c3,rfl,l3,g3⟩,⟨A4,c4,rfl,l4,g4⟩⟩⟩⟩⟩:=h
 exact ⟨A3,c3,A4,c4,rfl,l3,g3,l4,Kd.fix_C g4⟩
theorem k47_mkM (w:World) (base:Nat) (ok:Nat→Prop) (x:S47) {v3:Value} (g3:k121.R 121 w base ok v3 x.f3) {v4:Value} (g4:k47.R 47 w base ok v4 x.f4):k47.M w base ok x [.int .i64 x.f0,.int .i64 x.f1,.int .i64 x.f2,v3,v4]:=by
 obtain ⟨n4,q4⟩:=Kd.fix_R_back mono47 g4
 have r4:=Kd.upto_R_le mono47 sz47 (show n4≤n4 from Z14) q4
 exact ⟨n4+1,⟨[.int .i64 x.f0],[.int .i64 x.f1,.int .i64 x.f2,v3,v4],rfl,rfl,⟨[.int .i64 x.f1],[.int .i64 x.f2,v3,v4],rfl,rfl,⟨[.int .i64 x.f2],[v3,v4],rfl,rfl,⟨[v3],[v4],rfl,⟨v3,rfl,g3⟩,⟨v4,rfl,r4⟩⟩⟩⟩⟩⟩
def rd_T47 (xs:List S47) (i:Int):S47:=xs.getD i.toNat z47
theorem at_T47 {w:World} {A:Option Addr} {n:Nat} {xs:List S47} (h:Kd.C k47 w A n xs) (i:Int) (h0:0≤i) (h1:i<n):∃ ad A3 c3 A4 c4,A=some ad∧w.cell? (ad.add (i.toNat * 5))=some (.int .i64 (rd_T47 xs i).f0)∧w.cell? ⟨(ad.add (i.toNat * 5)).block,(ad.add (i.toNat * 5)).off+1,none⟩=some (.int .i64 (rd_T47 xs i).f1)∧w.cell? ⟨(ad.add (i.toNat * 5)).block,(ad.add (i.toNat * 5)).off+2,none⟩=some (.int .i64 (rd_T47 xs i).f2)∧w.cell? ⟨(ad.add (i.toNat * 5)).block,(ad.add (i.toNat * 5)).off+3,none⟩=some (.slice A3 (rd_T47 xs i).f3.length c3)∧w.cell? ⟨(ad.add (i.toNat * 5)).block,(ad.add (i.toNat * 5)).off+4,none⟩=some (.slice A4 (rd_T47 xs i).f4.length c4)∧(rd_T47 xs i).f3.length≤c3∧k121.C w A3 (rd_T47 xs i).f3.length (rd_T47 xs i).f3∧(rd_T47 xs i).f4.length≤c4∧k47.C w A4 (rd_T47 xs i).f4.length (rd_T47 xs i).f4:=by
 obtain ⟨ad,c,e,_,hK,hc0⟩:=Kd.C_get h z47 i h0 h1
 have hc:∀ j u,c[j]? = some u→w.cell? (ad.add (i.toNat * 5+j))=some u:=hc0
 obtain ⟨A3,c3,A4,c4,rfl,l3,g3,l4,g4⟩:=k47_open hK
 exact ⟨ad,A3,c3,A4,c4,e,hc 0 _ rfl,Z78,by rw [← add_field _ _ 2 Z14];exact hc 2 _ rfl,by rw [← add_field _ _ 3 Z14];exact hc 3 _ rfl,by rw [← add_field _ _ 4 Z14];exact hc 4 _ rfl,l3,g3,l4,g4⟩
structure S26 where
 f0:Int
 f1:ByteArray
 f2:(List ByteArray)
 f3:(List S26)
def z26:S26:=⟨(0:Int),(⟨#[]⟩:ByteArray),([]:List ByteArray),([]:List S26)⟩
def F26 (d:Kd S26):Kd S26:=Kd.iso (Kd.pair (Kd.int .i64) (Kd.pair Kd.string (Kd.pair (Kd.slice 9 Kd.string) (Kd.slice 26 d)))) (fun x:S26=>(x.f0,x.f1,x.f2,x.f3))
theorem mono26:Kd.Mono F26:=Kd.mono_iso _ (Kd.mono_pair (Kd.mono_const _) (Kd.mono_pair (Kd.mono_const _) (Kd.mono_pair (Kd.mono_const _) (Kd.mono_slice 26 Kd.mono_id))))
theorem sub26:Kd.Sub F26 [9,26]:=Kd.sub_iso _ (Kd.sub_pair (Kd.sub_const _ Z2) (Kd.sub_pair (Kd.sub_const _ Z2) (Kd.sub_pair (Kd.sub_const _ Z2) (Kd.sub_slice 26 Z2 Kd.sub_id))))
theorem sz26:∀ n,(Kd.upto F26 4 [9,26] n).sz=4:=Kd.upto_sz (fun _=>rfl)
def k26:Kd S26:=Kd.fix F26 4 [9,26] sz26 (Kd.upto_E sub26)
theorem k26_open {w:World} {x:S26} {cs:List Value} (h:k26.K w x cs):∃ A2 c2 A3 c3,cs = [.int .i64 x.f0,.string x.f1,.slice A2 x.f2.length c2,.slice A3 x.f3.length c3]∧x.f2.length≤c2∧Kd.string.C w A2 x.f2.length x.f2∧x.f3.length≤c3∧k26.C w A3 x.f3.length x.f3:=by
 obtain ⟨n,h⟩:=h
 cases n with
 | zero=>exact h.elim
 | succ n=>
 obtain ⟨_,_,rfl,rfl,⟨_,_,rfl,rfl,⟨_,_,rfl,⟨A2,c2,rfl,l2,g2⟩,⟨A3,c3,rfl,l3,g3⟩⟩⟩⟩:=h
 exact ⟨A2,c2,A3,c3,rfl,l2,g2,l3,Kd.fix_C g3⟩
theorem k26_mkM (w:World) (base:Nat) (ok:Nat→Prop) (x:S26) {v2:Value} (g2:Kd.string.R 9 w base ok v2 x.f2) {v3:Value} (g3:k26.R 26 w base ok v3 x.f3):k26.M w base ok x [.int .i64 x.f0,.string x.f1,v2,v3]:=by
 obtain ⟨n3,q3⟩:=Kd.fix_R_back mono26 g3
 have r3:=Kd.upto_R_le mono26 sz26 (show n3≤n3 from Z14) q3
 exact ⟨n3+1,⟨[.int .i64 x.f0],[.string x.f1,v2,v3],rfl,rfl,⟨[.string x.f1],[v2,v3],rfl,rfl,⟨[v2],[v3],rfl,⟨v2,rfl,g2⟩,⟨v3,rfl,r3⟩⟩⟩⟩⟩
def rd_T26 (xs:List S26) (i:Int):S26:=xs.getD i.toNat z26
theorem at_T26 {w:World} {A:Option Addr} {n:Nat} {xs:List S26} (h:Kd.C k26 w A n xs) (i:Int) (h0:0≤i) (h1:i<n):∃ ad A2 c2 A3 c3,A=some ad∧w.cell? (ad.add (i.toNat * 4))=some (.int .i64 (rd_T26 xs i).f0)∧w.cell? ⟨(ad.add (i.toNat * 4)).block,(ad.add (i.toNat * 4)).off+1,none⟩=some (.string (rd_T26 xs i).f1)∧w.cell? ⟨(ad.add (i.toNat * 4)).block,(ad.add (i.toNat * 4)).off+2,none⟩=some (.slice A2 (rd_T26 xs i).f2.length c2)∧w.cell? ⟨(ad.add (i.toNat * 4)).block,(ad.add (i.toNat * 4)).off+3,none⟩=some (.slice A3 (rd_T26 xs i).f3.length c3)∧(rd_T26 xs i).f2.length≤c2∧Kd.string.C w A2 (rd_T26 xs i).f2.length (rd_T26 xs i).f2∧(rd_T26 xs i).f3.length≤c3∧k26.C w A3 (rd_T26 xs i).f3.length (rd_T26 xs i).f3:=by
 obtain ⟨ad,c,e,_,hK,hc0⟩:=Kd.C_get h z26 i h0 h1
 have hc:∀ j u,c[j]? = some u→w.cell? (ad.add (i.toNat * 4+j))=some u:=hc0
 obtain ⟨A2,c2,A3,c3,rfl,l2,g2,l3,g3⟩:=k26_open hK
 exact ⟨ad,A2,c2,A3,c3,e,hc 0 _ rfl,Z78,by rw [← add_field _ _ 2 Z14];exact hc 2 _ rfl,by rw [← add_field _ _ 3 Z14];exact hc 3 _ rfl,l2,g2,l3,g3⟩
end Go.Proofs.YtieflhncpjjciaaGreatDoor.PFnGjSquashItems
