/- SHA-512 in plain words: blocks. -/
import Derived.Test.YtloibefkijfdlaaGreatDoorSa2
namespace Go.Proofs.YtloibefkijfdlaaGreatDoor
open Go
theorem s3_eq {a b c d e f g h : Int} : g3.step C0B [[a], [b], [c], [d], [e], [f], [g], [h]] = some ([[a], [b], [c], [d], [e], [f], [g], [h]], [[a], [b], [c], [d], [e], [f], [g], [h]]) := by kernel_rfl
theorem sA_eq {x y : Int} : ((List.range 8).map fun k => (gA k).step C0B [[x], [y]]) = (List.range 8).map fun _ => some ([[o64 .add x y], [y]], []) := by kernel_rfl
def SgI.stepT (g : SgI) (T : Tb) (C : Cx) (ins : List (List Int)) : Option (List (List Int) × List (List Int)) :=
 match evX T (g.i.tree C) (insE ins) with
 | some (ρ, e, st) => (match g.leaf e st with
  | some (al, al2) => some (al.map (·.den ρ), al2.map (·.den ρ))
  | none => none)
 | none => none
theorem stepT_eq (g : SgI) (C : Cx) (ins : List (List Int)) : g.step C ins = g.stepT C.T C ins := rfl
theorem s4_T {T : Tb} {a b c d e f g h : Int} {ws bl : List Int} : (g4.stepT T C4B [[a], [b], [c], [d], [e], [f], [g], [h], ws, bl]).map (fun r => r.1.take 9) = (let A := [[a], [b], [c], [d], [e], [f], [g], [h], [0], ws, bl]
  some ((List.range 8).map (fun k => [(gv T (1000000 + 154) (k + 1) A).getD 0 0]) ++ [gv T (1000000 + 154) 0 A])) := by kernel_rfl
end Go.Proofs.YtloibefkijfdlaaGreatDoor
