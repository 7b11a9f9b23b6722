/- Contracts that the trees give: SHA-512. -/
import Derived.Test.YtloibefkijfdlaaGreatDoorDz
namespace Go.Proofs.YtloibefkijfdlaaGreatDoor
noncomputable section
open Go
section
variable{GB:Nat}{GC:Nat→Nat→Option Value}{ad:Nat→Nat×Nat}(hG:Jk GB GC ad)
include hG
def VL:AQ:=⟨6000,Ab Tryz.f191,Tryz.f191.ntmps,Tryz.f191.results.toList,[],⟨[.int .u64,.int .i64],false,fun _=>True,[],[],[.int .u64 z0]⟩⟩
def VM:Cx:=GJ [] []
def Ej:Az:=VL.sum VM
theorem LQ:Bp Tryz.prog GB GC 191 (.one Ej):=AQ.fin hG .nil .nil Tryz.func191 rfl rfl rfl (.inl rfl) (by kernel_rfl)
def IA:AQ:=⟨6000,Ab Tryz.f155,Tryz.f155.ntmps,Tryz.f155.results.toList,[],⟨[.sl (List.replicate 64 .u8) 1 true,.int .u64],false,fun _=>True,[(0,List.replicate 64 .u8,z1)],[],[]⟩⟩
def H7:Cx:=GJ [] []
def Hw:Az:=IA.sum H7
theorem OV:Bp Tryz.prog GB GC 155 (.one Hw):=AQ.fin hG .nil .nil Tryz.func155 rfl rfl rfl (.inl rfl) (by kernel_rfl)
def FY:AQ:=⟨6000,Ab Tryz.f155,Tryz.f155.ntmps,Tryz.f155.results.toList,[],⟨[.sl (List.replicate 56 .u8) 1 true,.int .u64],false,fun _=>True,[(0,List.replicate 56 .u8,z1)],[],[]⟩⟩
def F3:Cx:=GJ [] []
def Fb:Az:=FY.sum F3
theorem MV:Bp Tryz.prog GB GC 155 (.one Fb):=AQ.fin hG .nil .nil Tryz.func155 rfl rfl rfl (.inl rfl) (by kernel_rfl)
def FZ:AQ:=⟨6000,Ab Tryz.f155,Tryz.f155.ntmps,Tryz.f155.results.toList,[],⟨[.sl (List.replicate 48 .u8) 1 true,.int .u64],false,fun _=>True,[(0,List.replicate 48 .u8,z1)],[],[]⟩⟩
def F7:Cx:=GJ [] []
def Fq:Az:=FZ.sum F7
theorem Md:Bp Tryz.prog GB GC 155 (.one Fq):=AQ.fin hG .nil .nil Tryz.func155 rfl rfl rfl (.inl rfl) (by kernel_rfl)
def GD:AQ:=⟨6000,Ab Tryz.f155,Tryz.f155.ntmps,Tryz.f155.results.toList,[],⟨[.sl (List.replicate 40 .u8) 1 true,.int .u64],false,fun _=>True,[(0,List.replicate 40 .u8,z1)],[],[]⟩⟩
def Fs:Cx:=GJ [] []
def FT:Az:=GD.sum Fs
theorem Mk:Bp Tryz.prog GB GC 155 (.one FT):=AQ.fin hG .nil .nil Tryz.func155 rfl rfl rfl (.inl rfl) (by kernel_rfl)
def Fg:AQ:=⟨6000,Ab Tryz.f155,Tryz.f155.ntmps,Tryz.f155.results.toList,[],⟨[.sl (List.replicate 32 .u8) 1 true,.int .u64],false,fun _=>True,[(0,List.replicate 32 .u8,z1)],[],[]⟩⟩
def Fa:Cx:=GJ [] []
def Fj:Az:=Fg.sum Fa
theorem MZ:Bp Tryz.prog GB GC 155 (.one Fj):=AQ.fin hG .nil .nil Tryz.func155 rfl rfl rfl (.inl rfl) (by kernel_rfl)
def Fw:AQ:=⟨6000,Ab Tryz.f155,Tryz.f155.ntmps,Tryz.f155.results.toList,[],⟨[.sl (List.replicate 24 .u8) 1 true,.int .u64],false,fun _=>True,[(0,List.replicate 24 .u8,z1)],[],[]⟩⟩
def Fv:Cx:=GJ [] []
def FU:Az:=Fw.sum Fv
theorem Mh:Bp Tryz.prog GB GC 155 (.one FU):=AQ.fin hG .nil .nil Tryz.func155 rfl rfl rfl (.inl rfl) (by kernel_rfl)
def Fz:AQ:=⟨6000,Ab Tryz.f155,Tryz.f155.ntmps,Tryz.f155.results.toList,[],⟨[.sl (List.replicate 16 .u8) 1 true,.int .u64],false,fun _=>True,[(0,List.replicate 16 .u8,z1)],[],[]⟩⟩
def Fu:Cx:=GJ [] []
def Ff:Az:=Fz.sum Fu
theorem Mf:Bp Tryz.prog GB GC 155 (.one Ff):=AQ.fin hG .nil .nil Tryz.func155 rfl rfl rfl (.inl rfl) (by kernel_rfl)
def FW:AQ:=⟨6000,Ab Tryz.f155,Tryz.f155.ntmps,Tryz.f155.results.toList,[],⟨[.sl (List.replicate 8 .u8) 1 true,.int .u64],false,fun _=>True,[(0,List.replicate 8 .u8,z1)],[],[]⟩⟩
def GA:Cx:=GJ [] []
def Fh:Az:=FW.sum GA
theorem Mi:Bp Tryz.prog GB GC 155 (.one Fh):=AQ.fin hG .nil .nil Tryz.func155 rfl rfl rfl (.inl rfl) (by kernel_rfl)
def Bq:AQ:=⟨6000,Ab Tryz.f154,Tryz.f154.ntmps,Tryz.f154.results.toList,UG,⟨[.mem (List.replicate 8 .u64) 1 true,.sl (List.replicate 128 .u8) 0 false],false,fun _=>True,[(0,List.replicate 8 .u64,z1)],[],[]⟩⟩
def AP:I7:=⟨6000,Sj 2 (Ab Tryz.f154),Tryz.f154.ntmps,2,UG,⟨[.int .u64,.int .u64,.int .u64,.int .u64,.int .u64,.int .u64,.int .u64,.int .u64,.int .i64,.mem (List.replicate 80 .u64) 1 true,.sl (List.replicate 128 .u8) 0 false],true,fun _=>True,[(9,List.replicate 80 .u64,z1)],[],[]⟩,[13,14,15,16,17,18,19,20,80,4,1],[21,22,23,24,25,26,27,28,81,82,83,84,85,86,87,88,89,90,91,92,93,94,95,96,97,98,99,100,101,102,103,104,105,106,107,108,109,110,111,112,113,114,115,116,117,118,119,120,121,122,123,124,125,126,127,128,129,130,131,132,133,134,135,136,137,138,139,140,141,142,143,144,145,146,147,148,149,150,151,152,153,154,155,156,157,158,159,160,161,162,163,164,165,166,167,168,169,170,171,172,173,174,175,176,177,178,179,180,181,182,183,184,185,186,187,188,189,190,191,192,193,194,195,196,197,198,199,200,201,202,203,204,205,206,207,208,209,210,211,212,213,214,215,216,217,218,219,220,221,222,223,224,225,226,227,228,229,230,231,232,233,234,235,236,237,238,239,240,241,242,243,244,245,246,247,248],(fun _=>81)⟩
def AA:Cx:=GJ [(191,.one Ej)] []
def BC:Cx:=aL ((1000154,.one (AP.sum AA (AP.pre AA))) :: [(191,.one Ej)]) [] [(AP.id,⟨1000154,AP.ps,AP.ss,AP.cl,AP.nt⟩)]
def Er:Az:=Bq.sumH BC (fun ins=>Cn BC.T (Bq.tree BC) (A8 ins))
omit hG in
theorem Rh:AP.chk AA=true:=by kernel_rfl
end
end
section
open Go
section
variable{GB:Nat}{GC:Nat→Nat→Option Value}{ad:Nat→Nat×Nat}(hG:Jk GB GC ad)
include hG
theorem TC:Bp Tryz.prog GB GC 154 (.one Er):=AQ.finL hG (i:=Bq) (l:=AP) (T:=[(191,.one Ej)]) (T':=[(191,.one Ej)]) (L:=[]) (L':=[]) (lid:=1000154) (Cb:=AA) (C1:=BC) (pl:=(AP.pre AA)) (pre:=(fun ins=>Cn BC.T (Bq.tree BC) (A8 ins))) (by decide) rfl rfl (.cons (k:=191) rfl (LQ hG) Tryz.call191 (AQ.len _ _) .nil) .nil .nil Tryz.func154 rfl rfl rfl (.inr rfl) (.inr rfl) (fun _ _ h=>h) (.cons (k:=191) rfl (LQ hG) Tryz.call191 (AQ.len _ _) .nil) Rh (by kernel_rfl) (by kernel_rfl) (by kernel_rfl) (fun _ _ h=>h)
end
end
end Go.Proofs.YtloibefkijfdlaaGreatDoor
