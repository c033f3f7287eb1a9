-- Written by a program of the session (wip/tools) out of the translation. Not trusted: Lean checks it.
import Derived.Test.YtffdebhaclkhjaaSq
import Derived.Test.YtffdebhaclkhjaaSx0
import Derived.Test.YtffdebhaclkhjaaSx5
import Derived.Test.YtffdebhaclkhjaaSx6
import Derived.Test.YtffdebhaclkhjaaSx7
namespace Go.Proofs.Ytffdebhaclkhjaa.PFnPrWholeDefault
open Go.RowKit Go.Proofs.YtffdebhaclkhjaaW.PrintWords Go.Proofs.YtffdebhaclkhjaaW.PrintLast Go.Proofs.YtffdebhaclkhjaaW.PrintMore
attribute [local go_sem] max2_int min2_int max_two min_two max_three min_three max_four min_four   -- for this text's walks alone
set_option linter.unusedVariables false
set_option linter.unusedSimpArgs false

/-! ### the ring of pretty_appendPrettyObject, pretty_appendPrettyAny -/
mutual
def pretty_appendPrettyObject.j1 : Nat → List Int → List Int → Int → Int → Int → Bool → Int → ByteArray → ByteArray → Bool → Int → Int → Int → Option (List Int × Int × Int × Bool)
 | 0, _, _, _, _, _, _, _, _, _, _, _, _, _ => none
 | k + 1, x0, x1, x2, x3, x4, x5, x6, x7, x8, x9, x10, x11, x12 => if x9 = true then (none) else (if x0.length < 140737488355328 then ((some (x0 ++ [x3] : List Int)).bind fun y398 => (if x3 = 123 then (pretty_appendPrettyObject.j2 k y398 x1 (wrap64 (x2 + 1)) x3 x4 x5 x6 x7 x8 false x10 x11 x12 false) else (pretty_appendPrettyObject.j2 k y398 x1 (wrap64 (x2 + 1)) x3 x4 x5 x6 x7 x8 false x10 x11 x12 false))) else (none))
def pretty_appendPrettyObject.j2 : Nat → List Int → List Int → Int → Int → Int → Bool → Int → ByteArray → ByteArray → Bool → Int → Int → Int → Bool → Option (List Int × Int × Int × Bool)
 | 0, _, _, _, _, _, _, _, _, _, _, _, _, _, _ => none
 | k + 1, x0, x1, x2, x3, x4, x5, x6, x7, x8, x9, x10, x11, x12, x107 => if x9 = true then (none) else (if x107 = true then (none) else (pretty_appendPrettyObject.l0 k x0 x1 x2 x3 x4 x5 x6 x7 x8 false x10 x11 x12 0 false))
def pretty_appendPrettyObject.l0 : Nat → List Int → List Int → Int → Int → Int → Bool → Int → ByteArray → ByteArray → Bool → Int → Int → Int → Int → Bool → Option (List Int × Int × Int × Bool)
 | 0, _, _, _, _, _, _, _, _, _, _, _, _, _, _, _ => none
 | k + 1, x0, x1, x2, x3, x4, x5, x6, x7, x8, x9, x10, x11, x12, x35, x107 => if x9 = true then (none) else (if x107 = true then (none) else (if x2 < (x1.length : Int) then (if 0 ≤ x2 then (if (rd x1 x2) ≤ 32 then (pretty_appendPrettyObject.l0 k x0 x1 (wrap64 (x2 + 1)) x3 x4 x5 x6 x7 x8 false x10 x11 x12 x35 false) else (if (rd x1 x2) = x4 then (if x5 = true then (if x3 = 123 then (pretty_appendPrettyObject.j4 k x0 x2 x3 x4 x7 x8 false x10 x11 x35 false false) else (pretty_appendPrettyObject.j4 k x0 x2 x3 x4 x7 x8 false x10 x11 x35 false false)) else (if x0.length < 140737488355328 then (some ((x0 ++ [x4]), wrap64 (x2 + 1), x11, (x3 != 123))) else (none))) else (if x3 = 91 then (pretty_appendPrettyObject.j5 k x0 x1 x2 x3 x4 x5 x6 x7 x8 false x10 x11 x12 x35 false true) else (pretty_appendPrettyObject.j5 k x0 x1 x2 x3 x4 x5 x6 x7 x8 false x10 x11 x12 x35 false ((rd x1 x2) == 34))))) else (none)) else (some (x0, x2, x11, (x3 != 123)))))
def pretty_appendPrettyObject.j4 : Nat → List Int → Int → Int → Int → ByteArray → ByteArray → Bool → Int → Int → Int → Bool → Bool → Option (List Int × Int × Int × Bool)
 | 0, _, _, _, _, _, _, _, _, _, _, _, _ => none
 | k + 1, x0, x2, x3, x4, x7, x8, x9, x10, x11, x35, x107, x131 => if x9 = true then (none) else (if x107 = true then (none) else (if x131 = true then (none) else (if x35 > 0 then (if 0 ≤ (wrap64 ((x0.length : Int) - 1)) then (if (wrap64 ((x0.length : Int) - 1)) < (x0.length : Int) then (if (rd x0 (wrap64 ((x0.length : Int) - 1))) = 32 then ((some (x0.set ((wrap64 ((x0.length : Int) - 1)) : Int).toNat 10 : List Int)).bind fun y404 => (if (rd y404 (wrap64 ((x0.length : Int) - 1))) = x3 then (if y404.length < 140737488355328 then (some ((y404 ++ [x4]), wrap64 (x2 + 1), (x0.length : Int), (x3 != 123))) else (none)) else ((pretty_appendTabs.f k y404 x7 x8 x10).bind fun t409 => (if t409.length < 140737488355328 then (some ((t409 ++ [x4]), wrap64 (x2 + 1), (x0.length : Int), (x3 != 123))) else (none))))) else (if x0.length < 140737488355328 then ((some (x0 ++ [10] : List Int)).bind fun y415 => (if 0 ≤ (wrap64 ((y415.length : Int) - 1)) then (if (wrap64 ((y415.length : Int) - 1)) < (y415.length : Int) then (if (rd y415 (wrap64 ((y415.length : Int) - 1))) = x3 then (if y415.length < 140737488355328 then (some ((y415 ++ [x4]), wrap64 (x2 + 1), (x0.length : Int), (x3 != 123))) else (none)) else ((pretty_appendTabs.f k y415 x7 x8 x10).bind fun t422 => (if t422.length < 140737488355328 then (some ((t422 ++ [x4]), wrap64 (x2 + 1), (x0.length : Int), (x3 != 123))) else (none)))) else (none)) else (none))) else (none))) else (none)) else (none)) else (if 0 ≤ (wrap64 ((x0.length : Int) - 1)) then (if (wrap64 ((x0.length : Int) - 1)) < (x0.length : Int) then (if (rd x0 (wrap64 ((x0.length : Int) - 1))) = x3 then (if x0.length < 140737488355328 then (some ((x0 ++ [x4]), wrap64 (x2 + 1), x11, (x3 != 123))) else (none)) else ((pretty_appendTabs.f k x0 x7 x8 x10).bind fun t432 => (if t432.length < 140737488355328 then (some ((t432 ++ [x4]), wrap64 (x2 + 1), x11, (x3 != 123))) else (none)))) else (none)) else (none)))))
def pretty_appendPrettyObject.j5 : Nat → List Int → List Int → Int → Int → Int → Bool → Int → ByteArray → ByteArray → Bool → Int → Int → Int → Int → Bool → Bool → Option (List Int × Int × Int × Bool)
 | 0, _, _, _, _, _, _, _, _, _, _, _, _, _, _, _, _ => none
 | k + 1, x0, x1, x2, x3, x4, x5, x6, x7, x8, x9, x10, x11, x12, x35, x107, x184 => if x9 = true then (none) else (if x107 = true then (none) else (if x184 = true then (if x35 > 0 then (if x0.length < 140737488355328 then ((some (x0 ++ [44] : List Int)).bind fun y442 => (if x6 = (-1) then (pretty_appendPrettyObject.j6 k y442 x1 x2 x3 x4 x5 x6 x7 x8 false x10 x11 x12 x35 false) else (if x3 = 91 then (if y442.length < 140737488355328 then (pretty_appendPrettyObject.j6 k (y442 ++ [32]) x1 x2 x3 x4 x5 x6 x7 x8 false x10 x11 x12 x35 false) else (none)) else (pretty_appendPrettyObject.j6 k y442 x1 x2 x3 x4 x5 x6 x7 x8 false x10 x11 x12 x35 false)))) else (none)) else (pretty_appendPrettyObject.j6 k x0 x1 x2 x3 x4 x5 x6 x7 x8 false x10 x11 x12 x35 false)) else (pretty_appendPrettyObject.l0 k x0 x1 (wrap64 (x2 + 1)) x3 x4 x5 x6 x7 x8 false x10 x11 x12 x35 false)))
def pretty_appendPrettyObject.j6 : Nat → List Int → List Int → Int → Int → Int → Bool → Int → ByteArray → ByteArray → Bool → Int → Int → Int → Int → Bool → Option (List Int × Int × Int × Bool)
 | 0, _, _, _, _, _, _, _, _, _, _, _, _, _, _, _ => none
 | k + 1, x0, x1, x2, x3, x4, x5, x6, x7, x8, x9, x10, x11, x12, x35, x107 => if x9 = true then (none) else (if x107 = true then (none) else (if x5 = true then (if 0 ≤ (wrap64 ((x0.length : Int) - 1)) then (if (wrap64 ((x0.length : Int) - 1)) < (x0.length : Int) then (if (rd x0 (wrap64 ((x0.length : Int) - 1))) = 32 then ((some (x0.set ((wrap64 ((x0.length : Int) - 1)) : Int).toNat 10 : List Int)).bind fun y450 => (if x3 = 123 then ((pretty_appendTabs.f k y450 x7 x8 (wrap64 (x10 + 1))).bind fun t451 => (pretty_appendPrettyObject.j7 k t451 x1 x2 x3 x4 x5 x6 x7 x8 false x10 (x0.length : Int) x12 x35 false)) else ((pretty_appendTabs.f k y450 x7 x8 (wrap64 (x10 + 1))).bind fun t454 => (pretty_appendPrettyObject.j7 k t454 x1 x2 x3 x4 x5 x6 x7 x8 false x10 (x0.length : Int) x12 x35 false)))) else (if x0.length < 140737488355328 then ((some (x0 ++ [10] : List Int)).bind fun y457 => (if x3 = 123 then ((pretty_appendTabs.f k y457 x7 x8 (wrap64 (x10 + 1))).bind fun t460 => (pretty_appendPrettyObject.j7 k t460 x1 x2 x3 x4 x5 x6 x7 x8 false x10 (x0.length : Int) x12 x35 false)) else ((pretty_appendTabs.f k y457 x7 x8 (wrap64 (x10 + 1))).bind fun t463 => (pretty_appendPrettyObject.j7 k t463 x1 x2 x3 x4 x5 x6 x7 x8 false x10 (x0.length : Int) x12 x35 false)))) else (none))) else (none)) else (none)) else (pretty_appendPrettyObject.j7 k x0 x1 x2 x3 x4 x5 x6 x7 x8 false x10 x11 x12 x35 false)))
def pretty_appendPrettyObject.j7 : Nat → List Int → List Int → Int → Int → Int → Bool → Int → ByteArray → ByteArray → Bool → Int → Int → Int → Int → Bool → Option (List Int × Int × Int × Bool)
 | 0, _, _, _, _, _, _, _, _, _, _, _, _, _, _, _ => none
 | k + 1, x0, x1, x2, x3, x4, x5, x6, x7, x8, x9, x10, x11, x12, x35, x107 => if x9 = true then (none) else (if x107 = true then (none) else (if x3 = 123 then ((pretty_appendPrettyString.f k x0 x1 x2 x11).bind fun bt466 => (if bt466.1.length < 140737488355328 then ((some (bt466.1 ++ [58] : List Int)).bind fun y472 => (if x5 = true then (if y472.length < 140737488355328 then (pretty_appendPrettyObject.j8 k (y472 ++ [32]) x1 bt466.2.1 x3 x4 x5 x6 x7 x8 false x10 bt466.2.2.1 x12 x35 false) else (none)) else (pretty_appendPrettyObject.j8 k y472 x1 bt466.2.1 x3 x4 x5 x6 x7 x8 false x10 bt466.2.2.1 x12 x35 false))) else (none))) else (pretty_appendPrettyObject.j8 k x0 x1 x2 x3 x4 x5 x6 x7 x8 false x10 x11 x12 x35 false)))
def pretty_appendPrettyObject.j8 : Nat → List Int → List Int → Int → Int → Int → Bool → Int → ByteArray → ByteArray → Bool → Int → Int → Int → Int → Bool → Option (List Int × Int × Int × Bool)
 | 0, _, _, _, _, _, _, _, _, _, _, _, _, _, _, _ => none
 | k + 1, x0, x1, x2, x3, x4, x5, x6, x7, x8, x9, x10, x11, x12, x35, x107 => if x9 = true then (none) else (if x107 = true then (none) else ((pretty_appendPrettyAny.f k x0 x1 x2 x5 x6 x7 x8 (wrap64 (x10 + 1)) x11 x12).bind fun bt478 => (if x12 = (-1) then (pretty_appendPrettyObject.j9 k bt478.1 x1 bt478.2.1 x3 x4 x5 x6 x7 x8 false x10 bt478.2.2.1 x12 x35 false false) else (pretty_appendPrettyObject.j9 k bt478.1 x1 bt478.2.1 x3 x4 x5 x6 x7 x8 false x10 bt478.2.2.1 x12 x35 false (!bt478.2.2.2)))))
def pretty_appendPrettyObject.j9 : Nat → List Int → List Int → Int → Int → Int → Bool → Int → ByteArray → ByteArray → Bool → Int → Int → Int → Int → Bool → Bool → Option (List Int × Int × Int × Bool)
 | 0, _, _, _, _, _, _, _, _, _, _, _, _, _, _, _, _ => none
 | k + 1, x0, x1, x2, x3, x4, x5, x6, x7, x8, x9, x10, x11, x12, x35, x107, x276 => if x9 = true then (none) else (if x107 = true then (none) else (if x276 = true then (some (x0, x2, x11, false)) else (if x5 = true then (if x3 = 123 then (pretty_appendPrettyObject.j10 k x0 x1 x2 x3 x4 x5 x6 x7 x8 false x10 x11 x12 x35 false false) else (pretty_appendPrettyObject.j10 k x0 x1 x2 x3 x4 x5 x6 x7 x8 false x10 x11 x12 x35 false false)) else (pretty_appendPrettyObject.j10 k x0 x1 x2 x3 x4 x5 x6 x7 x8 false x10 x11 x12 x35 false false))))
def pretty_appendPrettyObject.j10 : Nat → List Int → List Int → Int → Int → Int → Bool → Int → ByteArray → ByteArray → Bool → Int → Int → Int → Int → Bool → Bool → Option (List Int × Int × Int × Bool)
 | 0, _, _, _, _, _, _, _, _, _, _, _, _, _, _, _, _ => none
 | k + 1, x0, x1, x2, x3, x4, x5, x6, x7, x8, x9, x10, x11, x12, x35, x107, x287 => if x9 = true then (none) else (if x107 = true then (none) else (if x287 = true then (none) else (pretty_appendPrettyObject.l0 k x0 x1 (wrap64 ((wrap64 (x2 - 1)) + 1)) x3 x4 x5 x6 x7 x8 false x10 x11 x12 (wrap64 (x35 + 1)) false)))
def pretty_appendPrettyObject.j0 : Nat → List Int → List Int → Int → Int → Int → Bool → Int → ByteArray → ByteArray → Bool → Int → Int → Int → Bool → Option (List Int × Int × Int × Bool)
 | 0, _, _, _, _, _, _, _, _, _, _, _, _, _, _ => none
 | k + 1, x0, x1, x2, x3, x4, x5, x6, x7, x8, x9, x10, x11, x12, x47 => if x9 = true then (none) else (if x47 = true then (if (wrap64 (x6 - (wrap64 ((x0.length : Int) - x11)))) > 3 then ((pretty_appendPrettyObject.f k x0 x1 x2 91 93 false x6 x7 (⟨#[]⟩ : ByteArray) 0 0 (wrap64 (x6 - (wrap64 ((x0.length : Int) - x11))))).bind fun bt386 => (if bt386.2.2.2 = true then (if (wrap64 ((bt386.1.length : Int) - (x0.length : Int))) ≤ (wrap64 (x6 - (wrap64 ((x0.length : Int) - x11)))) then (some (bt386.1, bt386.2.1, x11, true)) else (if 0 ≤ (x0.length : Int) then (if (x0.length : Int) ≤ (bt386.1.length : Int) then (pretty_appendPrettyObject.j1 k (bt386.1.take ((x0.length : Int) : Int).toNat) x1 x2 x3 x4 x5 x6 x7 x8 false x10 x11 x12) else (none)) else (none))) else (if 0 ≤ (x0.length : Int) then (if (x0.length : Int) ≤ (bt386.1.length : Int) then (pretty_appendPrettyObject.j1 k (bt386.1.take ((x0.length : Int) : Int).toNat) x1 x2 x3 x4 x5 x6 x7 x8 false x10 x11 x12) else (none)) else (none)))) else (pretty_appendPrettyObject.j1 k x0 x1 x2 x3 x4 x5 x6 x7 x8 false x10 x11 x12)) else (if x12 = (-1) then (pretty_appendPrettyObject.j1 k x0 x1 x2 x3 x4 x5 x6 x7 x8 false x10 x11 x12) else (if x3 = 123 then (some (x0, x2, x11, false)) else (pretty_appendPrettyObject.j1 k x0 x1 x2 x3 x4 x5 x6 x7 x8 false x10 x11 x12))))
def pretty_appendPrettyObject.f : Nat → List Int → List Int → Int → Int → Int → Bool → Int → ByteArray → ByteArray → Int → Int → Int → Option (List Int × Int × Int × Bool)
 | 0, _, _, _, _, _, _, _, _, _, _, _, _ => none
 | k + 1, l0, l1, a2, a3, a4, a5, a6, a7, a8, a10, a11, a12 => if a6 > 0 then (if a5 = true then (if a3 = 91 then (pretty_appendPrettyObject.j0 k l0 l1 a2 a3 a4 a5 a6 a7 a8 false a10 a11 a12 (a12 == (-1))) else (pretty_appendPrettyObject.j0 k l0 l1 a2 a3 a4 a5 a6 a7 a8 false a10 a11 a12 false)) else (pretty_appendPrettyObject.j0 k l0 l1 a2 a3 a4 a5 a6 a7 a8 false a10 a11 a12 false)) else (pretty_appendPrettyObject.j1 k l0 l1 a2 a3 a4 a5 a6 a7 a8 false a10 a11 a12)
def pretty_appendPrettyAny.l0 : Nat → List Int → List Int → Int → Bool → Int → ByteArray → ByteArray → Bool → Int → Int → Int → Option (List Int × Int × Int × Bool)
 | 0, _, _, _, _, _, _, _, _, _, _, _ => none
 | k + 1, x0, x1, x2, x3, x4, x5, x6, x7, x8, x9, x10 => if x7 = true then (none) else (if x2 < (x1.length : Int) then (if 0 ≤ x2 then (if (rd x1 x2) ≤ 32 then (pretty_appendPrettyAny.l0 k x0 x1 (wrap64 (x2 + 1)) x3 x4 x5 x6 false x8 x9 x10) else (if (rd x1 x2) = 34 then ((pretty_appendPrettyString.f k x0 x1 x2 x9).bind fun bt486 => (some (bt486.1, bt486.2.1, bt486.2.2.1, bt486.2.2.2))) else (if (rd x1 x2) ≥ 48 then (if (rd x1 x2) ≤ 57 then (pretty_appendPrettyAny.j1 k x0 x1 x2 x3 x4 x5 x6 false x8 x9 x10 true) else (if (rd x1 x2) = 45 then (pretty_appendPrettyAny.j1 k x0 x1 x2 x3 x4 x5 x6 false x8 x9 x10 true) else (if x2 ≤ (x1.length : Int) then ((pretty_isNaNOrInf.f (x1.drop (x2 : Int).toNat)).bind fun t500 => (pretty_appendPrettyAny.j1 k x0 x1 x2 x3 x4 x5 x6 false x8 x9 x10 t500)) else (none)))) else (if (rd x1 x2) = 45 then (pretty_appendPrettyAny.j1 k x0 x1 x2 x3 x4 x5 x6 false x8 x9 x10 true) else (if x2 ≤ (x1.length : Int) then ((pretty_isNaNOrInf.f (x1.drop (x2 : Int).toNat)).bind fun t507 => (pretty_appendPrettyAny.j1 k x0 x1 x2 x3 x4 x5 x6 false x8 x9 x10 t507)) else (none)))))) else (none)) else (some (x0, x2, x9, true)))
def pretty_appendPrettyAny.j1 : Nat → List Int → List Int → Int → Bool → Int → ByteArray → ByteArray → Bool → Int → Int → Int → Bool → Option (List Int × Int × Int × Bool)
 | 0, _, _, _, _, _, _, _, _, _, _, _, _ => none
 | k + 1, x0, x1, x2, x3, x4, x5, x6, x7, x8, x9, x10, x75 => if x7 = true then (none) else (if x75 = true then ((pretty_appendPrettyNumber.f k x0 x1 x2 x9).bind fun bt508 => (some (bt508.1, bt508.2.1, bt508.2.2.1, bt508.2.2.2))) else (if 0 ≤ x2 then (if x2 < (x1.length : Int) then (if (rd x1 x2) = 123 then ((pretty_appendPrettyObject.f k x0 x1 x2 123 125 x3 x4 x5 x6 x8 x9 x10).bind fun bt515 => (some (bt515.1, bt515.2.1, bt515.2.2.1, bt515.2.2.2))) else (if (rd x1 x2) = 91 then ((pretty_appendPrettyObject.f k x0 x1 x2 91 93 x3 x4 x5 x6 x8 x9 x10).bind fun bt522 => (some (bt522.1, bt522.2.1, bt522.2.2.1, bt522.2.2.2))) else (if (rd x1 x2) = 116 then ((some (([116, 114, 117, 101] : List Int) : List Int)).bind fun y529 => (if x0.length + y529.length < 140737488355328 then (some ((x0 ++ y529), wrap64 (x2 + 4), x9, true)) else (none))) else (if (rd x1 x2) = 102 then ((some (([102, 97, 108, 115, 101] : List Int) : List Int)).bind fun y535 => (if x0.length + y535.length < 140737488355328 then (some ((x0 ++ y535), wrap64 (x2 + 5), x9, true)) else (none))) else (if (rd x1 x2) = 110 then ((some (([110, 117, 108, 108] : List Int) : List Int)).bind fun y541 => (if x0.length + y541.length < 140737488355328 then (some ((x0 ++ y541), wrap64 (x2 + 4), x9, true)) else (none))) else (pretty_appendPrettyAny.l0 k x0 x1 (wrap64 (x2 + 1)) x3 x4 x5 x6 false x8 x9 x10)))))) else (none)) else (none)))
def pretty_appendPrettyAny.f : Nat → List Int → List Int → Int → Bool → Int → ByteArray → ByteArray → Int → Int → Int → Option (List Int × Int × Int × Bool)
 | 0, _, _, _, _, _, _, _, _, _, _ => none
 | k + 1, l0, l1, a2, a3, a4, a5, a6, a8, a9, a10 => pretty_appendPrettyAny.l0 k l0 l1 a2 a3 a4 a5 a6 false a8 a9 a10
end
theorem pretty_appendPrettyAny.mono_r : ∀ k, (∀ y0 y1 y2 y3 y4 y5 y6 y7 y8 y9 y10 y11, LeO (pretty_appendPrettyObject.f k y0 y1 y2 y3 y4 y5 y6 y7 y8 y9 y10 y11) (pretty_appendPrettyObject.f (k + 1) y0 y1 y2 y3 y4 y5 y6 y7 y8 y9 y10 y11)) ∧ (∀ y0 y1 y2 y3 y4 y5 y6 y7 y8 y9 y10 y11 y12, LeO (pretty_appendPrettyObject.j1 k y0 y1 y2 y3 y4 y5 y6 y7 y8 y9 y10 y11 y12) (pretty_appendPrettyObject.j1 (k + 1) y0 y1 y2 y3 y4 y5 y6 y7 y8 y9 y10 y11 y12)) ∧ (∀ y0 y1 y2 y3 y4 y5 y6 y7 y8 y9 y10 y11 y12 y13, LeO (pretty_appendPrettyObject.j2 k y0 y1 y2 y3 y4 y5 y6 y7 y8 y9 y10 y11 y12 y13) (pretty_appendPrettyObject.j2 (k + 1) y0 y1 y2 y3 y4 y5 y6 y7 y8 y9 y10 y11 y12 y13)) ∧ (∀ y0 y1 y2 y3 y4 y5 y6 y7 y8 y9 y10 y11 y12 y13 y14, LeO (pretty_appendPrettyObject.l0 k y0 y1 y2 y3 y4 y5 y6 y7 y8 y9 y10 y11 y12 y13 y14) (pretty_appendPrettyObject.l0 (k + 1) y0 y1 y2 y3 y4 y5 y6 y7 y8 y9 y10 y11 y12 y13 y14)) ∧ (∀ y0 y1 y2 y3 y4 y5 y6 y7 y8 y9 y10 y11, LeO (pretty_appendPrettyObject.j4 k y0 y1 y2 y3 y4 y5 y6 y7 y8 y9 y10 y11) (pretty_appendPrettyObject.j4 (k + 1) y0 y1 y2 y3 y4 y5 y6 y7 y8 y9 y10 y11)) ∧ (∀ y0 y1 y2 y3 y4 y5 y6 y7 y8 y9 y10 y11 y12 y13 y14 y15, LeO (pretty_appendPrettyObject.j5 k y0 y1 y2 y3 y4 y5 y6 y7 y8 y9 y10 y11 y12 y13 y14 y15) (pretty_appendPrettyObject.j5 (k + 1) y0 y1 y2 y3 y4 y5 y6 y7 y8 y9 y10 y11 y12 y13 y14 y15)) ∧ (∀ y0 y1 y2 y3 y4 y5 y6 y7 y8 y9 y10 y11 y12 y13 y14, LeO (pretty_appendPrettyObject.j6 k y0 y1 y2 y3 y4 y5 y6 y7 y8 y9 y10 y11 y12 y13 y14) (pretty_appendPrettyObject.j6 (k + 1) y0 y1 y2 y3 y4 y5 y6 y7 y8 y9 y10 y11 y12 y13 y14)) ∧ (∀ y0 y1 y2 y3 y4 y5 y6 y7 y8 y9 y10 y11 y12 y13 y14, LeO (pretty_appendPrettyObject.j7 k y0 y1 y2 y3 y4 y5 y6 y7 y8 y9 y10 y11 y12 y13 y14) (pretty_appendPrettyObject.j7 (k + 1) y0 y1 y2 y3 y4 y5 y6 y7 y8 y9 y10 y11 y12 y13 y14)) ∧ (∀ y0 y1 y2 y3 y4 y5 y6 y7 y8 y9 y10 y11 y12 y13 y14, LeO (pretty_appendPrettyObject.j8 k y0 y1 y2 y3 y4 y5 y6 y7 y8 y9 y10 y11 y12 y13 y14) (pretty_appendPrettyObject.j8 (k + 1) y0 y1 y2 y3 y4 y5 y6 y7 y8 y9 y10 y11 y12 y13 y14)) ∧ (∀ y0 y1 y2 y3 y4 y5 y6 y7 y8 y9 y10 y11 y12 y13 y14 y15, LeO (pretty_appendPrettyObject.j9 k y0 y1 y2 y3 y4 y5 y6 y7 y8 y9 y10 y11 y12 y13 y14 y15) (pretty_appendPrettyObject.j9 (k + 1) y0 y1 y2 y3 y4 y5 y6 y7 y8 y9 y10 y11 y12 y13 y14 y15)) ∧ (∀ y0 y1 y2 y3 y4 y5 y6 y7 y8 y9 y10 y11 y12 y13 y14 y15, LeO (pretty_appendPrettyObject.j10 k y0 y1 y2 y3 y4 y5 y6 y7 y8 y9 y10 y11 y12 y13 y14 y15) (pretty_appendPrettyObject.j10 (k + 1) y0 y1 y2 y3 y4 y5 y6 y7 y8 y9 y10 y11 y12 y13 y14 y15)) ∧ (∀ y0 y1 y2 y3 y4 y5 y6 y7 y8 y9 y10 y11 y12 y13, LeO (pretty_appendPrettyObject.j0 k y0 y1 y2 y3 y4 y5 y6 y7 y8 y9 y10 y11 y12 y13) (pretty_appendPrettyObject.j0 (k + 1) y0 y1 y2 y3 y4 y5 y6 y7 y8 y9 y10 y11 y12 y13)) ∧ (∀ y0 y1 y2 y3 y4 y5 y6 y7 y8 y9, LeO (pretty_appendPrettyAny.f k y0 y1 y2 y3 y4 y5 y6 y7 y8 y9) (pretty_appendPrettyAny.f (k + 1) y0 y1 y2 y3 y4 y5 y6 y7 y8 y9)) ∧ (∀ y0 y1 y2 y3 y4 y5 y6 y7 y8 y9 y10, LeO (pretty_appendPrettyAny.l0 k y0 y1 y2 y3 y4 y5 y6 y7 y8 y9 y10) (pretty_appendPrettyAny.l0 (k + 1) y0 y1 y2 y3 y4 y5 y6 y7 y8 y9 y10)) ∧ (∀ y0 y1 y2 y3 y4 y5 y6 y7 y8 y9 y10 y11, LeO (pretty_appendPrettyAny.j1 k y0 y1 y2 y3 y4 y5 y6 y7 y8 y9 y10 y11) (pretty_appendPrettyAny.j1 (k + 1) y0 y1 y2 y3 y4 y5 y6 y7 y8 y9 y10 y11))
 | 0 => ⟨fun _ _ _ _ _ _ _ _ _ _ _ _ r h => by simp [pretty_appendPrettyObject.f] at h, fun _ _ _ _ _ _ _ _ _ _ _ _ _ r h => by simp [pretty_appendPrettyObject.j1] at h, fun _ _ _ _ _ _ _ _ _ _ _ _ _ _ r h => by simp [pretty_appendPrettyObject.j2] at h, fun _ _ _ _ _ _ _ _ _ _ _ _ _ _ _ r h => by simp [pretty_appendPrettyObject.l0] at h, fun _ _ _ _ _ _ _ _ _ _ _ _ r h => by simp [pretty_appendPrettyObject.j4] at h, fun _ _ _ _ _ _ _ _ _ _ _ _ _ _ _ _ r h => by simp [pretty_appendPrettyObject.j5] at h, fun _ _ _ _ _ _ _ _ _ _ _ _ _ _ _ r h => by simp [pretty_appendPrettyObject.j6] at h, fun _ _ _ _ _ _ _ _ _ _ _ _ _ _ _ r h => by simp [pretty_appendPrettyObject.j7] at h, fun _ _ _ _ _ _ _ _ _ _ _ _ _ _ _ r h => by simp [pretty_appendPrettyObject.j8] at h, fun _ _ _ _ _ _ _ _ _ _ _ _ _ _ _ _ r h => by simp [pretty_appendPrettyObject.j9] at h, fun _ _ _ _ _ _ _ _ _ _ _ _ _ _ _ _ r h => by simp [pretty_appendPrettyObject.j10] at h, fun _ _ _ _ _ _ _ _ _ _ _ _ _ _ r h => by simp [pretty_appendPrettyObject.j0] at h, fun _ _ _ _ _ _ _ _ _ _ r h => by simp [pretty_appendPrettyAny.f] at h, fun _ _ _ _ _ _ _ _ _ _ _ r h => by simp [pretty_appendPrettyAny.l0] at h, fun _ _ _ _ _ _ _ _ _ _ _ _ r h => by simp [pretty_appendPrettyAny.j1] at h⟩
 | k + 1 => by
  obtain ⟨ih0, ih1, ih2, ih3, ih4, ih5, ih6, ih7, ih8, ih9, ih10, ih11, ih12, ih13, ih14⟩ := pretty_appendPrettyAny.mono_r k
  refine ⟨?_, ?_, ?_, ?_, ?_, ?_, ?_, ?_, ?_, ?_, ?_, ?_, ?_, ?_, ?_⟩
  ·
   intro y0 y1 y2 y3 y4 y5 y6 y7 y8 y9 y10 y11
   unfold pretty_appendPrettyObject.f
   exact Z34
  ·
   intro y0 y1 y2 y3 y4 y5 y6 y7 y8 y9 y10 y11 y12
   unfold pretty_appendPrettyObject.j1
   exact Z34
  ·
   intro y0 y1 y2 y3 y4 y5 y6 y7 y8 y9 y10 y11 y12 y13
   unfold pretty_appendPrettyObject.j2
   exact Z34
  ·
   intro y0 y1 y2 y3 y4 y5 y6 y7 y8 y9 y10 y11 y12 y13 y14
   unfold pretty_appendPrettyObject.l0
   exact Z34
  ·
   intro y0 y1 y2 y3 y4 y5 y6 y7 y8 y9 y10 y11
   unfold pretty_appendPrettyObject.j4
   exact Z34
  ·
   intro y0 y1 y2 y3 y4 y5 y6 y7 y8 y9 y10 y11 y12 y13 y14 y15
   unfold pretty_appendPrettyObject.j5
   exact Z34
  ·
   intro y0 y1 y2 y3 y4 y5 y6 y7 y8 y9 y10 y11 y12 y13 y14
   unfold pretty_appendPrettyObject.j6
   exact Z34
  ·
   intro y0 y1 y2 y3 y4 y5 y6 y7 y8 y9 y10 y11 y12 y13 y14
   unfold pretty_appendPrettyObject.j7
   exact Z34
  ·
   intro y0 y1 y2 y3 y4 y5 y6 y7 y8 y9 y10 y11 y12 y13 y14
   unfold pretty_appendPrettyObject.j8
   exact Z34
  ·
   intro y0 y1 y2 y3 y4 y5 y6 y7 y8 y9 y10 y11 y12 y13 y14 y15
   unfold pretty_appendPrettyObject.j9
   exact Z34
  ·
   intro y0 y1 y2 y3 y4 y5 y6 y7 y8 y9 y10 y11 y12 y13 y14 y15
   unfold pretty_appendPrettyObject.j10
   exact Z34
  ·
   intro y0 y1 y2 y3 y4 y5 y6 y7 y8 y9 y10 y11 y12 y13
   unfold pretty_appendPrettyObject.j0
   exact Z34
  ·
   intro y0 y1 y2 y3 y4 y5 y6 y7 y8 y9
   unfold pretty_appendPrettyAny.f
   exact Z34
  ·
   intro y0 y1 y2 y3 y4 y5 y6 y7 y8 y9 y10
   unfold pretty_appendPrettyAny.l0
   exact Z34
  intro y0 y1 y2 y3 y4 y5 y6 y7 y8 y9 y10 y11
  unfold pretty_appendPrettyAny.j1
  exact Z34
theorem pretty_appendPrettyObject.mono : ∀ a0 a1 a2 a3 a4 a5 a6 a7 a8 a9 a10 a11 k, LeO (pretty_appendPrettyObject.f k a0 a1 a2 a3 a4 a5 a6 a7 a8 a9 a10 a11) (pretty_appendPrettyObject.f (k + 1) a0 a1 a2 a3 a4 a5 a6 a7 a8 a9 a10 a11) := fun a0 a1 a2 a3 a4 a5 a6 a7 a8 a9 a10 a11 k => (pretty_appendPrettyAny.mono_r k).1 a0 a1 a2 a3 a4 a5 a6 a7 a8 a9 a10 a11
theorem pretty_appendPrettyAny.mono : ∀ a0 a1 a2 a3 a4 a5 a6 a7 a8 a9 k, LeO (pretty_appendPrettyAny.f k a0 a1 a2 a3 a4 a5 a6 a7 a8 a9) (pretty_appendPrettyAny.f (k + 1) a0 a1 a2 a3 a4 a5 a6 a7 a8 a9) := fun a0 a1 a2 a3 a4 a5 a6 a7 a8 a9 k => (pretty_appendPrettyAny.mono_r k).2.2.2.2.2.2.2.2.2.2.2.2.1 a0 a1 a2 a3 a4 a5 a6 a7 a8 a9

end Go.Proofs.Ytffdebhaclkhjaa.PFnPrWholeDefault
