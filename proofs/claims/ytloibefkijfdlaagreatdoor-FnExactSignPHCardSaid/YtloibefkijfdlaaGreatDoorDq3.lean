/- Contracts of the reference: products. -/
import Derived.Test.YtloibefkijfdlaaGreatDoorNb
namespace Go.Proofs.YtloibefkijfdlaaGreatDoor
open Go
noncomputable def Ic:AQ:=⟨6000,Ab Tryz.f66,Tryz.f66.ntmps,Tryz.f66.results.toList,[],⟨[.agg (List.replicate 8 .u64),.agg (List.replicate 8 .u64)],false,fun _=>True,[],[],[.agg (List.replicate 8 .u64) z1]⟩⟩
noncomputable def Hd:Cx:=GJ [(87,.one Qh)] []
noncomputable def C8:Az:=Ic.sumF Hd
theorem dU:Ic.chkt Hd=true:=by kernel_rfl
noncomputable def H9:AQ:=⟨6000,Ab Tryz.f77,Tryz.f77.ntmps,Tryz.f77.results.toList,[],⟨[.agg (List.replicate 32 .u8)],false,fun _=>True,[],[],[.agg (List.replicate 8 .u64) z1]⟩⟩
noncomputable def GN:Cx:=GJ [(53,.one TA),(87,.one Qh)] []
noncomputable def LZ:Az:=H9.sumF GN
theorem Xt:H9.chkt GN=true:=by kernel_rfl
def aP:Int→List Int→Int→List Int→List Int
 |c,o::os,a,b::bs=>CZ .rem (CZ .add (CZ .add c o) (CZ .mul a b)) 4294967296::aP (CZ .quo (CZ .add (CZ .add c o) (CZ .mul a b)) 4294967296) os a bs
 |c,_,_,_=>[c]
def tmO:List Int→List Int→List Int→List Int
 | [],acc,_=>acc
 |a::r,acc,b=>(aP 0 acc a b).getD 0 0::tmO r ((aP 0 acc a b).drop 1) b
def Td:Int→List Int→List Int→List Int
 |c,x::xs,y::ys=>CZ .rem (CZ .add (CZ .add c x) (CZ .mul 38 y)) 4294967296::Td (CZ .quo (CZ .add (CZ .add c x) (CZ .mul 38 y)) 4294967296) xs ys
 |_,_,_=>[]
def V3:Int→List Int→List Int→Int
 |c,x::xs,y::ys=>V3 (CZ .quo (CZ .add (CZ .add c x) (CZ .mul 38 y)) 4294967296) xs ys
 |c,_,_=>c
def PV(a b:List Int):List Int:=tmO a [0,0,0,0,0,0,0,0] b
theorem ABb{a0 a1 a2 a3 a4 a5 a6 a7 b0 b1 b2 b3 b4 b5 b6 b7:Int}:Ic.rawt Hd 0 [[a0,a1,a2,a3,a4,a5,a6,a7],[b0,b1,b2,b3,b4,b5,b6,b7]]=
  l8 (Ym Dt (Td 0 ((PV [a0,a1,a2,a3,a4,a5,a6,a7] [b0,b1,b2,b3,b4,b5,b6,b7]).take 8) ((PV [a0,a1,a2,a3,a4,a5,a6,a7] [b0,b1,b2,b3,b4,b5,b6,b7]).drop 8)) (V3 0 ((PV [a0,a1,a2,a3,a4,a5,a6,a7] [b0,b1,b2,b3,b4,b5,b6,b7]).take 8) ((PV [a0,a1,a2,a3,a4,a5,a6,a7] [b0,b1,b2,b3,b4,b5,b6,b7]).drop 8))):=by kernel_rfl
theorem AFB{a0 a1 a2 a3 a4 a5 a6 a7 b0 b1 b2 b3 b4 b5 b6 b7:Int}:J9 Hd.T (Ic.treet Hd) (A8 [[a0,a1,a2,a3,a4,a5,a6,a7],[b0,b1,b2,b3,b4,b5,b6,b7]])=
  (fo2 [Td 0 ((PV [a0,a1,a2,a3,a4,a5,a6,a7] [b0,b1,b2,b3,b4,b5,b6,b7]).take 8) ((PV [a0,a1,a2,a3,a4,a5,a6,a7] [b0,b1,b2,b3,b4,b5,b6,b7]).drop 8),[V3 0 ((PV [a0,a1,a2,a3,a4,a5,a6,a7] [b0,b1,b2,b3,b4,b5,b6,b7]).take 8) ((PV [a0,a1,a2,a3,a4,a5,a6,a7] [b0,b1,b2,b3,b4,b5,b6,b7]).drop 8)]]∧True):=by kernel_rfl
end Go.Proofs.YtloibefkijfdlaaGreatDoor
