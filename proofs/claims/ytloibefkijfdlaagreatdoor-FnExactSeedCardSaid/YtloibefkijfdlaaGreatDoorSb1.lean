/- The hash's block function by its contract is cpr. -/
import Derived.Test.YtloibefkijfdlaaGreatDoorNd
import Derived.Test.YtloibefkijfdlaaGreatDoorSax
import Derived.Test.YtloibefkijfdlaaGreatDoorShx
namespace Go.Proofs.YtloibefkijfdlaaGreatDoor
open Go
theorem step_lo_b{a b c d e f g h i:Int}{ws bl:List Int}:l_sha512_blockGeneric.stepP Cb_sha512_blockGeneric [true,true] [[a],[b],[c],[d],[e],[f],[g],[h],[i],ws,bl]=some ((true,rOut bl ws i (wd bl (binD .mul .i64 i 8)) a b c d e f g h),[(binD .lss .i64 i 80,true),(binD .lss .i64 i 16,true)]):=by kernel_rfl
theorem step_hi_b{a b c d e f g h i:Int}{ws bl:List Int}:l_sha512_blockGeneric.stepP Cb_sha512_blockGeneric [true,false] [[a],[b],[c],[d],[e],[f],[g],[h],[i],ws,bl]=some ((true,rOut bl ws i (nw ws i) a b c d e f g h),[(binD .lss .i64 i 80,true),(binD .lss .i64 i 16,false)]):=by kernel_rfl
theorem step_end_b{a b c d e f g h i:Int}{ws bl:List Int}:l_sha512_blockGeneric.stepP Cb_sha512_blockGeneric [false] [[a],[b],[c],[d],[e],[f],[g],[h],[i],ws,bl]=some ((false,[[a],[b],[c],[d],[e],[f],[g],[h],[i],ws,bl]),[(binD .lss .i64 i 80,false)]):=by kernel_rfl
theorem raw_blkT{T:Tb}{h bl:List Int}:i_sha512_blockGeneric.valT T C_sha512_blockGeneric 0 [h,bl]=(List.range 8).map fun k=>o64 .add (h.getD k 0) ((gv T (1000000+154) (k+1) ((V8.of h).ls ++ [[0],List.replicate 80 0,bl])).getD 0 0):=by kernel_rfl
end Go.Proofs.YtloibefkijfdlaaGreatDoor
