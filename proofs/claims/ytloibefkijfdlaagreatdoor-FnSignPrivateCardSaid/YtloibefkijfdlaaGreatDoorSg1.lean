/- signWithDom: the pieces that the executor walks. -/
import Derived.Test.YtloibefkijfdlaaGreatDoorDx
import Derived.Test.YtloibefkijfdlaaGreatDoorHb1
import Derived.Test.YtloibefkijfdlaaGreatDoorKy1
import Derived.Test.YtloibefkijfdlaaGreatDoorSa3
namespace Go.Proofs.YtloibefkijfdlaaGreatDoor
open Go
noncomputable def rS (k : Nat) : Code := regIn k (bodyOf Tryz.f91)
noncomputable def pcS (c : Code) (ps : List PSh) (sl : List Nat) (outs : List (Nat × List IntKind × PF)) : LpI := ⟨6000, c, Tryz.f91.ntmps, 99, [], ⟨ps, true, fun _ => True, outs, [], []⟩, sl, (dstsIn c).filter (fun t => notIn t sl), fun _ => 1⟩
def kPK : List IntKind := List.replicate 64 .u8 ++ List.replicate 4 .u64 ++ List.replicate 32 .u8
def U4 : List IntKind := List.replicate 4 .u64
noncomputable def g27 : SgI := ⟨pcS (rS 27) [.mem U4 0 false, .mem kPK 0 false, .mem U4 0 false] [18, 1, 13] [], [19], [.mem U4 1 true]⟩
noncomputable def g28 : SgI := ⟨pcS (rS 28) [.sl (List.replicate 64 .u8) 1 true, .mem (List.replicate 20 .u64) 0 false] [0, 15] [(0, List.replicate 64 .u8, z1)], [], []⟩
noncomputable def g29 : SgI := ⟨pcS (rS 29) [.sl (List.replicate 64 .u8) 1 true, .mem U4 0 false] [0, 19] [(0, List.replicate 64 .u8, z1)], [], []⟩
noncomputable def C27 : Cx := mkC [(98, .one s_edwards25519_NewScalar), (106, .one s_edwards25519_Scalar_MultiplyAdd)] []
noncomputable def C28 : Cx := mkC [(104, .one s_edwards25519_Point_Bytes)] []
noncomputable def C29 : Cx := mkC [(107, .one s_edwards25519_Scalar_Bytes)] []
theorem chk_g27 : (g27.chk C27 && cleanT (g27.i.tree C27)) = true := by kernel_rfl
theorem chk_g28 : g28.chk C28 = true := by kernel_rfl
theorem chk_g29 : g29.chk C29 = true := by kernel_rfl
def cp (l : List Int) (o n : Nat) : List Int := (List.range n).map fun i => l.getD (o + i) 0
theorem v_27 {T : Tb} {k pk r : List Int} : (g27.stepT T C27 [k, pk, r]).map (fun x => x.2) = some [gv T 106 0 [gv T 98 0 [], k, cp pk 64 4, r]] := by kernel_rfl
theorem v_28 {T : Tb} {s p : List Int} : (g28.stepT T C28 [s, p]).map (fun x => x.1.getD 0 []) = some (cp (gv T 104 0 [p]) 0 32 ++ cp s 32 32) := by kernel_rfl
theorem v_29 {T : Tb} {s p : List Int} : (g29.stepT T C29 [s, p]).map (fun x => x.1.getD 0 []) = some (cp s 0 32 ++ cp (gv T 107 0 [p]) 0 32) := by kernel_rfl
end Go.Proofs.YtloibefkijfdlaaGreatDoor
