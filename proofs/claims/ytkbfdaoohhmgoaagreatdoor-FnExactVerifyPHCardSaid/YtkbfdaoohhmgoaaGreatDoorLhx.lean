/- Signing with a context that is too long, or what is no digest. -/
import Derived.Test.YtkbfdaoohhmgoaaGreatDoorLy
namespace Go.Proofs.YtkbfdaoohhmgoaaGreatDoor
open Go Ma Go.RowKit Go.Lib Go.ChangeShapes Go.WideShapes
section
variable{ρ:Operand->Value}{d:Option Tmp}{x y z:Operand}{ty:TypeId}{pos:String}{af:Array Edge}{w:World}
theorem bS{t:TypeId}{v:Value}(h:ρ x= .iface t v)(hy:ρ (.const .nilIface)= .nilIface):(execOp ρ ⟨d,.binOp .neq 33 x (.const .nilIface) 33,ty,pos,af,none⟩).run Tryz.prog w= .ok (.value (.bool true)) w:=by
 simp[execOp,go_sem,h,hy]
end
section
variable{GB:Nat}{GC:Nat->Nat->Option Value}{ad:Nat->Nat×Nat}(hG:GI GB GC ad){w:World}(ε:GW GC w)(δ:GB<=w.heap.size)
include hG ε δ
end
end Go.Proofs.YtkbfdaoohhmgoaaGreatDoor
