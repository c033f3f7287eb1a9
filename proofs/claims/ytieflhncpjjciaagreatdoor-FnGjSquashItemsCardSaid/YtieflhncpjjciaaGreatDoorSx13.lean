import Derived.Test.YtieflhncpjjciaaGreatDoorSq
import Derived.Test.YtieflhncpjjciaaGreatDoorSx0
import Derived.Test.YtieflhncpjjciaaGreatDoorSx4
import Derived.Test.YtieflhncpjjciaaGreatDoorSx9
import Derived.Test.YtieflhncpjjciaaGreatDoorSx12
namespace Go.Proofs.YtieflhncpjjciaaGreatDoor.PFnGjSquashItems
open Go.RowKit Go.Proofs.YtieflhncpjjciaaGreatDoorW.PrintWords Go.Proofs.YtieflhncpjjciaaGreatDoorW.PrintLast Go.Proofs.YtieflhncpjjciaaGreatDoorW.PrintMore
attribute [local go_sem] max2_int min2_int max_two min_two max_three min_three max_four min_four  
set_option linter.unusedVariables false
set_option linter.unusedSimpArgs false
def gjson_DoorSquash.f (k : Nat) (a0 : ByteArray) : Option (ByteArray) := (gjson_squash.f k a0).bind fun t433 => (some t433)
set_option maxHeartbeats 8000000 in
set_option maxRecDepth 100000 in
theorem gjson_DoorSquash.calls (k : Nat) (a0 : ByteArray) (r : ByteArray) (w : World) (h : gjson_DoorSquash.f k a0 = some r) :
  Calls Tryz.prog 39 #[.string a0] w fun e w' => e = .returned (.string r) ∧ Drawn0 w w' := by
 have H : ((gjson_squash.f k a0).bind fun t433 => (some t433)) = some r := h
 clear h
 replace H := Option.bind_eq_some_iff.mp H
 obtain ⟨t433, A20, H⟩ := H
 have A2 := Aside0.mk A20
 clear A20
 obtain rfl := Option.some.inj H
 go_enter Tryz.func39, Tryz.ntmps39
 go_wp2_with (first | ((with_reducible refine gate_callee (f := 69) rfl ?_); refine goesL_ (some 4) rfl rfl Tryz.func69 Z4 rfl #[.string a0] rfl Z10 ?_; (with_reducible refine (gjson_squash.calls k a0 t433 _ A2.out).mono ?_); rintro e w' ⟨rfl, ⟨nd, rfl⟩⟩; refine ⟨_, rfl, ?_⟩))
 go_ret
 exact ⟨Z0, Z5⟩
def impl_GjSquash.f (k : Nat) (a0 : ByteArray) : Option (ByteArray) := (gjson_DoorSquash.f k a0).bind fun t434 => (some t434)
set_option maxHeartbeats 8000000 in
set_option maxRecDepth 100000 in
theorem impl_GjSquash.calls (k : Nat) (a0 : ByteArray) (r : ByteArray) (w : World) (h : impl_GjSquash.f k a0 = some r) :
  Calls Tryz.prog 16 #[.string a0] w fun e w' => e = .returned (.string r) ∧ Drawn0 w w' := by
 have H : ((gjson_DoorSquash.f k a0).bind fun t434 => (some t434)) = some r := h
 clear h
 replace H := Option.bind_eq_some_iff.mp H
 obtain ⟨t434, A20, H⟩ := H
 have A2 := Aside0.mk A20
 clear A20
 obtain rfl := Option.some.inj H
 go_enter Tryz.func16, Tryz.ntmps16
 go_wp2_with (first | ((with_reducible refine gate_callee (f := 39) rfl ?_); refine goesL_ (some 4) rfl rfl Tryz.func39 Z4 rfl #[.string a0] rfl Z10 ?_; (with_reducible refine (gjson_DoorSquash.calls k a0 t434 _ A2.out).mono ?_); rintro e w' ⟨rfl, ⟨nd, rfl⟩⟩; refine ⟨_, rfl, ?_⟩))
 go_ret
 exact ⟨Z0, Z5⟩
end Go.Proofs.YtieflhncpjjciaaGreatDoor.PFnGjSquashItems
