/- The hash's block function by its contract is cpr. -/
import Derived.Test.YtloibefkijfdlaaGreatDoorHc
import Derived.Test.YtloibefkijfdlaaGreatDoorNd
namespace Go.Proofs.YtloibefkijfdlaaGreatDoor
section
open Go
theorem xz{a b c d e f g h i:Int}{ws bl:List Int}:AU.pL AL [true,true] [[a],[b],[c],[d],[e],[f],[g],[h],[i],ws,bl]=some ((true,xW bl ws i (wd bl (Ah .mul .i64 i 8)) a b c d e f g h),[(Ah .lss .i64 i 80,true),(Ah .lss .i64 i 16,true)]):=by kernel_rfl
theorem xU{a b c d e f g h i:Int}{ws bl:List Int}:AU.pL AL [true,false] [[a],[b],[c],[d],[e],[f],[g],[h],[i],ws,bl]=some ((true,xW bl ws i (nw ws i) a b c d e f g h),[(Ah .lss .i64 i 80,true),(Ah .lss .i64 i 16,false)]):=by kernel_rfl
theorem pR{a b c d e f g h i:Int}{ws bl:List Int}:AU.pL AL [false] [[a],[b],[c],[d],[e],[f],[g],[h],[i],ws,bl]=some ((false,[[a],[b],[c],[d],[e],[f],[g],[h],[i],ws,bl]),[(Ah .lss .i64 i 80,false)]):=by kernel_rfl
theorem zF{T:Tb}{h bl:List Int}:Bp.sd T A9 0 [h,bl]=(List.range 8).map λk=>KN .add (h.getD k 0) ((gv T (1000000+154) (k+1) ((V8.of h).ls ++ [[0],List.replicate 80 0,bl])).getD 0 0):=by kernel_rfl
end
section
open Go
section
variable{GB:Nat}{GC:Nat->Nat->Option Value}{ad:Nat->Nat×Nat}(hG:Gw GB GC ad)
include hG
end
end
section
open Go
section
variable{v k w:List Int}{n:Nat}
end
section
variable{w:List Int}{n:Nat}
end
end
section
open Go
section
variable{GB:Nat}{GC:Nat->Nat->Option Value}{ad:Nat->Nat×Nat}(hG:Gw GB GC ad)
include hG
end
end
end Go.Proofs.YtloibefkijfdlaaGreatDoor
