import Derived.Test.YtieflhncpjjciaaGreatDoorVq
import Derived.Test.YtieflhncpjjciaaGreatDoorVx0
set_option maxHeartbeats 8000000
set_option maxRecDepth 100000
namespace Go.Proofs.YtieflhncpjjciaaGreatDoor.PFnGjSquashItems
open Go.RowKit Go.Proofs.YtieflhncpjjciaaGreatDoorW.PrintWords Go.Proofs.YtieflhncpjjciaaGreatDoorW.PrintLast Go.Proofs.YtieflhncpjjciaaGreatDoorW.PrintMore
attribute [local go_sem] max2_int min2_int max_two min_two max_three min_three max_four min_four
set_option linter.unusedVariables false
set_option linter.unusedSimpArgs false
def laws_gjKind.f (a0:Int):Option (Int):=if a0=1 then (some 1) else (if a0=3 then (some 2) else (if a0=4 then (some 3) else (if a0=2 then (some 4) else (if a0=5 then (some 5) else (if a0=6 then (some 5) else (some 0))))))
theorem laws_gjKind.calls (a0:Int) (r:Int) (w:World) (h:laws_gjKind.f a0=some r) :
  Calls Tryz.prog 29 #[.int .i64 a0] w fun e w'=>e = .returned (.int .i64 r)∧Drawn0 w w':=by
 have H:(if a0=1 then (some 1) else (if a0=3 then (some 2) else (if a0=4 then (some 3) else (if a0=2 then (some 4) else (if a0=5 then (some 5) else (if a0=6 then (some 5) else (some 0)))))))=some r:=h
 clear h
 by_cases c2:a0=1
 ·
  rw [if_pos c2] at H
  have c2b0:=beq_iff_eq.mpr c2
  have c2b1:=bnf c2
  clear c2
  obtain rfl:=Option.some.inj H
  go_enter Tryz.func29,Tryz.ntmps29
  go_wp2
  go_ret
  exact ⟨Z0,Z5⟩
 rw [if_neg c2] at H
 have c2b0:=bfe c2
 have c2b1:=bne_iff_ne.mpr c2
 by_cases c3:a0=3
 ·
  rw [if_pos c3] at H
  have c3b0:=beq_iff_eq.mpr c3
  have c3b1:=bnf c3
  clear c3
  obtain rfl:=Option.some.inj H
  go_enter Tryz.func29,Tryz.ntmps29
  go_wp2
  go_ret
  exact ⟨Z0,Z5⟩
 rw [if_neg c3] at H
 have c3b0:=bfe c3
 have c3b1:=bne_iff_ne.mpr c3
 by_cases c4:a0=4
 ·
  rw [if_pos c4] at H
  have c4b0:=beq_iff_eq.mpr c4
  have c4b1:=bnf c4
  clear c4
  obtain rfl:=Option.some.inj H
  go_enter Tryz.func29,Tryz.ntmps29
  go_wp2
  go_ret
  exact ⟨Z0,Z5⟩
 rw [if_neg c4] at H
 have c4b0:=bfe c4
 have c4b1:=bne_iff_ne.mpr c4
 by_cases c5:a0=2
 ·
  rw [if_pos c5] at H
  have c5b0:=beq_iff_eq.mpr c5
  have c5b1:=bnf c5
  clear c5
  obtain rfl:=Option.some.inj H
  go_enter Tryz.func29,Tryz.ntmps29
  go_wp2
  go_ret
  exact ⟨Z0,Z5⟩
 rw [if_neg c5] at H
 have c5b0:=bfe c5
 have c5b1:=bne_iff_ne.mpr c5
 by_cases c6:a0=5
 ·
  rw [if_pos c6] at H
  have c6b0:=beq_iff_eq.mpr c6
  have c6b1:=bnf c6
  clear c6
  obtain rfl:=Option.some.inj H
  go_enter Tryz.func29,Tryz.ntmps29
  go_wp2
  go_ret
  exact ⟨Z0,Z5⟩
 rw [if_neg c6] at H
 have c6b0:=bfe c6
 have c6b1:=bne_iff_ne.mpr c6
 by_cases c7:a0=6
 rotate_left
 ·
  rw [if_neg c7] at H
  have c7b0:=bfe c7
  have c7b1:=bne_iff_ne.mpr c7
  obtain rfl:=Option.some.inj H
  go_enter Tryz.func29,Tryz.ntmps29
  go_wp2
  go_ret
  exact ⟨Z0,Z5⟩
 rw [if_pos c7] at H
 have c7b0:=beq_iff_eq.mpr c7
 have c7b1:=bnf c7
 clear c7
 obtain rfl:=Option.some.inj H
 go_enter Tryz.func29,Tryz.ntmps29
 go_wp2
 go_ret
 exact ⟨Z0,Z5⟩
end Go.Proofs.YtieflhncpjjciaaGreatDoor.PFnGjSquashItems
