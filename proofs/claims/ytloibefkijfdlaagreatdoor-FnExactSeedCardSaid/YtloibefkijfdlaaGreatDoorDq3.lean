/- Contracts of the reference: products. -/
import Derived.Test.YtloibefkijfdlaaGreatDoorNb
namespace Go.Proofs.YtloibefkijfdlaaGreatDoor
open Go
noncomputable def i_spec_times:FnI:=⟨6000,bodyOf Tryz.f66,Tryz.f66.ntmps,Tryz.f66.results.toList,[],⟨[.agg (List.replicate 8 .u64),.agg (List.replicate 8 .u64)],false,fun _=>True,[],[],[.agg (List.replicate 8 .u64) z1]⟩⟩
noncomputable def C_spec_times:Cx:=mkC [(87,.one s_spec_folded2)] []
noncomputable def s_spec_times:FSum:=i_spec_times.sumF C_spec_times
theorem chk_spec_times:i_spec_times.chkt C_spec_times=true:=by kernel_rfl
noncomputable def i_spec_element:FnI:=⟨6000,bodyOf Tryz.f77,Tryz.f77.ntmps,Tryz.f77.results.toList,[],⟨[.agg (List.replicate 32 .u8)],false,fun _=>True,[],[],[.agg (List.replicate 8 .u64) z1]⟩⟩
noncomputable def C_spec_element:Cx:=mkC [(53,.one s_spec_whole),(87,.one s_spec_folded2)] []
noncomputable def s_spec_element:FSum:=i_spec_element.sumF C_spec_element
theorem chk_spec_element:i_spec_element.chkt C_spec_element=true:=by kernel_rfl
def rowO:Int→List Int→Int→List Int→List Int
 |c,o::os,a,b::bs=>u64o .rem (u64o .add (u64o .add c o) (u64o .mul a b)) 4294967296::rowO (u64o .quo (u64o .add (u64o .add c o) (u64o .mul a b)) 4294967296) os a bs
 |c,_,_,_=> [c]
def tmO:List Int→List Int→List Int→List Int
 | [],acc,_=>acc
 |a::r,acc,b=>(rowO 0 acc a b).getD 0 0::tmO r ((rowO 0 acc a b).drop 1) b
def lowO:Int→List Int→List Int→List Int
 |c,x::xs,y::ys=>u64o .rem (u64o .add (u64o .add c x) (u64o .mul 38 y)) 4294967296::lowO (u64o .quo (u64o .add (u64o .add c x) (u64o .mul 38 y)) 4294967296) xs ys
 |_,_,_=> []
def lowC:Int→List Int→List Int→Int
 |c,x::xs,y::ys=>lowC (u64o .quo (u64o .add (u64o .add c x) (u64o .mul 38 y)) 4294967296) xs ys
 |c,_,_=>c
def tm16(a b:List Int):List Int:=tmO a [0,0,0,0,0,0,0,0] b
theorem raw_times{a0 a1 a2 a3 a4 a5 a6 a7 b0 b1 b2 b3 b4 b5 b6 b7:Int}:i_spec_times.rawt C_spec_times 0 [[a0,a1,a2,a3,a4,a5,a6,a7],[b0,b1,b2,b3,b4,b5,b6,b7]]=
  l8 (fold8 C_spec_folded2 (lowO 0 ((tm16 [a0,a1,a2,a3,a4,a5,a6,a7] [b0,b1,b2,b3,b4,b5,b6,b7]).take 8) ((tm16 [a0,a1,a2,a3,a4,a5,a6,a7] [b0,b1,b2,b3,b4,b5,b6,b7]).drop 8)) (lowC 0 ((tm16 [a0,a1,a2,a3,a4,a5,a6,a7] [b0,b1,b2,b3,b4,b5,b6,b7]).take 8) ((tm16 [a0,a1,a2,a3,a4,a5,a6,a7] [b0,b1,b2,b3,b4,b5,b6,b7]).drop 8))):=by kernel_rfl
theorem ob_times{a0 a1 a2 a3 a4 a5 a6 a7 b0 b1 b2 b3 b4 b5 b6 b7:Int}:evObX C_spec_times.T (i_spec_times.treet C_spec_times) (insE [[a0,a1,a2,a3,a4,a5,a6,a7],[b0,b1,b2,b3,b4,b5,b6,b7]])=
  (fo2 [lowO 0 ((tm16 [a0,a1,a2,a3,a4,a5,a6,a7] [b0,b1,b2,b3,b4,b5,b6,b7]).take 8) ((tm16 [a0,a1,a2,a3,a4,a5,a6,a7] [b0,b1,b2,b3,b4,b5,b6,b7]).drop 8),[lowC 0 ((tm16 [a0,a1,a2,a3,a4,a5,a6,a7] [b0,b1,b2,b3,b4,b5,b6,b7]).take 8) ((tm16 [a0,a1,a2,a3,a4,a5,a6,a7] [b0,b1,b2,b3,b4,b5,b6,b7]).drop 8)]]∧True):=by kernel_rfl
end Go.Proofs.YtloibefkijfdlaaGreatDoor
