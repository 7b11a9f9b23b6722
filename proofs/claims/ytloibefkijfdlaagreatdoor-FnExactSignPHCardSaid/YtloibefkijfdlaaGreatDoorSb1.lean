/- The hash's block function by its contract is cpr. -/
import Derived.Test.YtloibefkijfdlaaGreatDoorHc
import Derived.Test.YtloibefkijfdlaaGreatDoorNd
namespace Go.Proofs.YtloibefkijfdlaaGreatDoor
open Go
theorem AA3{a b c d e f g h i:Int}{ws bl:List Int}:AP.stepP AA [true,true] [[a],[b],[c],[d],[e],[f],[g],[h],[i],ws,bl]=some ((true,ABg bl ws i (wd bl (Ao .mul .i64 i 8)) a b c d e f g h),[(Ao .lss .i64 i 80,true),(Ao .lss .i64 i 16,true)]):=by kernel_rfl
theorem ABY{a b c d e f g h i:Int}{ws bl:List Int}:AP.stepP AA [true,false] [[a],[b],[c],[d],[e],[f],[g],[h],[i],ws,bl]=some ((true,ABg bl ws i (nw ws i) a b c d e f g h),[(Ao .lss .i64 i 80,true),(Ao .lss .i64 i 16,false)]):=by kernel_rfl
theorem vX{a b c d e f g h i:Int}{ws bl:List Int}:AP.stepP AA [false] [[a],[b],[c],[d],[e],[f],[g],[h],[i],ws,bl]=some ((false,[[a],[b],[c],[d],[e],[f],[g],[h],[i],ws,bl]),[(Ao .lss .i64 i 80,false)]):=by kernel_rfl
theorem AD0{T:Tb}{h bl:List Int}:Bq.valT T BC 0 [h,bl]=(List.range 8).map fun k=>Di .add (h.getD k 0) ((gv T (1000000+154) (k+1) ((V8.of h).ls ++ [[0],List.replicate 80 0,bl])).getD 0 0):=by kernel_rfl
end Go.Proofs.YtloibefkijfdlaaGreatDoor
