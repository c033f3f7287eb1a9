/- Walks and plain laws of this claim. -/
import Derived.Test.YtieflhncpjjciaaGreatDoorByB
import Derived.Test.YtieflhncpjjciaaGreatDoorByD
import Derived.WalkSpells
import Derived.Test.YtieflhncpjjciaaGreatDoorByA
set_option linter.unusedVariables false
set_option linter.unusedSimpArgs false
namespace Go.Proofs.YtieflhncpjjciaaGreatDoor.Dc
open Go Go.RowKit
def VC (w:World):Prop:=∀ c:Nat,c<256→w.cell? ⟨0,c,none⟩=some (.int .u8 (PFnGjSquashItems.vch (c:Int)))
open Go Go.RowKit Go.Proofs.YtieflhncpjjciaaGreatDoorW.PrintWords Go.Proofs.YtieflhncpjjciaaGreatDoor.PFnGjSquashItems
theorem bt_ext {s:ByteArray} {i j k:Nat} (h:j≤s.size) (hk:k<(s.extract i j).size):((s.extract i j)[k].toNat:Int)=bt s ((i+k:Nat):Int):=by
 have h1:k<min j s.size - i:=by rw [ByteArray.size_extract] at hk;exact hk
 rw [PFnGjSquashItems.bt_at Yy0,ByteArray.getElem_extract]
end Go.Proofs.YtieflhncpjjciaaGreatDoor.Dc
