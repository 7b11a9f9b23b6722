/- Signing with a context that is too long, or what is no digest. -/
import Derived.Test.YtloibefkijfdlaaGreatDoorLy
namespace Go.Proofs.YtloibefkijfdlaaGreatDoor
open Go Ma Go.RowKit Go.Lib Go.ChangeShapes Go.WideShapes
section
variable{ρ:Operand->Value}{d:Option Tmp}{x y z:Operand}{ty:TypeId}{pos:String}{af:Array Edge}{w:World}
theorem YA{t:TypeId}{v:Value}(h:ρ x= .iface t v)(hy:ρ (.const .nilIface)= .nilIface):(execOp ρ ⟨d,.binOp .neq 45 x (.const .nilIface) 45,ty,pos,af,none⟩).run Tryz.prog w= .ok (.value (.bool true)) w:=by
 simp[execOp,go_sem,h,hy]
end
section
variable{GB:Nat}{GC:Nat->Nat->Option Value}{ad:Nat->Nat×Nat}(hG:Gw GB GC ad){w:World}(ε:GW GC w)(δ:GB<=w.heap.size)
include hG ε δ
end
end Go.Proofs.YtloibefkijfdlaaGreatDoor
