/- Contracts that the trees give: SHA-512. -/
import Derived.Test.YtloibefkijfdlaaGreatDoorDz
namespace Go.Proofs.YtloibefkijfdlaaGreatDoor
noncomputable section
open Go
section
variable{GB:Nat}{GC:Nat->Nat->Option Value}{ad:Nat->Nat×Nat}(hG:Gw GB GC ad)
include hG
def Tq:Ad:=⟨6000,Ak Tryz.f191,Tryz.f191.ntmps,Tryz.f191.results.toList,[],⟨[.int .u64,.int .i64],false,λ_=>True,[],[],[.int .u64 z0]⟩⟩
def Tu:Cx:=Ht [] []
def Eg:BH:=Tq.sum Tu
theorem K3:Ck Tryz.prog GB GC 191 (.one Eg):=Ad.fin hG .nil .nil Tryz.func191 rfl rfl rfl (.inl rfl) (by kernel_rfl)
def HY:Ad:=⟨6000,Ak Tryz.f155,Tryz.f155.ntmps,Tryz.f155.results.toList,[],⟨[.sl (List.replicate 64 .u8) 1 true,.int .u64],false,λ_=>True,[(0,List.replicate 64 .u8,z1)],[],[]⟩⟩
def HV:Cx:=Ht [] []
def He:BH:=HY.sum HV
theorem Nf:Ck Tryz.prog GB GC 155 (.one He):=Ad.fin hG .nil .nil Tryz.func155 rfl rfl rfl (.inl rfl) (by kernel_rfl)
def FP:Ad:=⟨6000,Ak Tryz.f155,Tryz.f155.ntmps,Tryz.f155.results.toList,[],⟨[.sl (List.replicate 56 .u8) 1 true,.int .u64],false,λ_=>True,[(0,List.replicate 56 .u8,z1)],[],[]⟩⟩
def Fe:Cx:=Ht [] []
def Ff:BH:=FP.sum Fe
theorem MH:Ck Tryz.prog GB GC 155 (.one Ff):=Ad.fin hG .nil .nil Tryz.func155 rfl rfl rfl (.inl rfl) (by kernel_rfl)
def Fs:Ad:=⟨6000,Ak Tryz.f155,Tryz.f155.ntmps,Tryz.f155.results.toList,[],⟨[.sl (List.replicate 48 .u8) 1 true,.int .u64],false,λ_=>True,[(0,List.replicate 48 .u8,z1)],[],[]⟩⟩
def GA:Cx:=Ht [] []
def FY:BH:=Fs.sum GA
theorem Lp:Ck Tryz.prog GB GC 155 (.one FY):=Ad.fin hG .nil .nil Tryz.func155 rfl rfl rfl (.inl rfl) (by kernel_rfl)
def F9:Ad:=⟨6000,Ak Tryz.f155,Tryz.f155.ntmps,Tryz.f155.results.toList,[],⟨[.sl (List.replicate 40 .u8) 1 true,.int .u64],false,λ_=>True,[(0,List.replicate 40 .u8,z1)],[],[]⟩⟩
def Fg:Cx:=Ht [] []
def Fa:BH:=F9.sum Fg
theorem Lj:Ck Tryz.prog GB GC 155 (.one Fa):=Ad.fin hG .nil .nil Tryz.func155 rfl rfl rfl (.inl rfl) (by kernel_rfl)
def F8:Ad:=⟨6000,Ak Tryz.f155,Tryz.f155.ntmps,Tryz.f155.results.toList,[],⟨[.sl (List.replicate 32 .u8) 1 true,.int .u64],false,λ_=>True,[(0,List.replicate 32 .u8,z1)],[],[]⟩⟩
def Fq:Cx:=Ht [] []
def FT:BH:=F8.sum Fq
theorem Lm:Ck Tryz.prog GB GC 155 (.one FT):=Ad.fin hG .nil .nil Tryz.func155 rfl rfl rfl (.inl rfl) (by kernel_rfl)
def Fb:Ad:=⟨6000,Ak Tryz.f155,Tryz.f155.ntmps,Tryz.f155.results.toList,[],⟨[.sl (List.replicate 24 .u8) 1 true,.int .u64],false,λ_=>True,[(0,List.replicate 24 .u8,z1)],[],[]⟩⟩
def Fy:Cx:=Ht [] []
def Fh:BH:=Fb.sum Fy
theorem Li:Ck Tryz.prog GB GC 155 (.one Fh):=Ad.fin hG .nil .nil Tryz.func155 rfl rfl rfl (.inl rfl) (by kernel_rfl)
def FQ:Ad:=⟨6000,Ak Tryz.f155,Tryz.f155.ntmps,Tryz.f155.results.toList,[],⟨[.sl (List.replicate 16 .u8) 1 true,.int .u64],false,λ_=>True,[(0,List.replicate 16 .u8,z1)],[],[]⟩⟩
def FW:Cx:=Ht [] []
def FZ:BH:=FQ.sum FW
theorem L9:Ck Tryz.prog GB GC 155 (.one FZ):=Ad.fin hG .nil .nil Tryz.func155 rfl rfl rfl (.inl rfl) (by kernel_rfl)
def Fz:Ad:=⟨6000,Ak Tryz.f155,Tryz.f155.ntmps,Tryz.f155.results.toList,[],⟨[.sl (List.replicate 8 .u8) 1 true,.int .u64],false,λ_=>True,[(0,List.replicate 8 .u8,z1)],[],[]⟩⟩
def F3:Cx:=Ht [] []
def Fw:BH:=Fz.sum F3
theorem Lx:Ck Tryz.prog GB GC 155 (.one Fw):=Ad.fin hG .nil .nil Tryz.func155 rfl rfl rfl (.inl rfl) (by kernel_rfl)
def Bp:Ad:=⟨6000,Ak Tryz.f154,Tryz.f154.ntmps,Tryz.f154.results.toList,SA,⟨[.mem (List.replicate 8 .u64) 1 true,.sl (List.replicate 128 .u8) 0 false],false,λ_=>True,[(0,List.replicate 8 .u64,z1)],[],[]⟩⟩
def AU:JJ:=⟨6000,WK 2 (Ak Tryz.f154),Tryz.f154.ntmps,2,SA,⟨[.int .u64,.int .u64,.int .u64,.int .u64,.int .u64,.int .u64,.int .u64,.int .u64,.int .i64,.mem (List.replicate 80 .u64) 1 true,.sl (List.replicate 128 .u8) 0 false],true,λ_=>True,[(9,List.replicate 80 .u64,z1)],[],[]⟩,[13,14,15,16,17,18,19,20,80,4,1],[21,22,23,24,25,26,27,28,81,82,83,84,85,86,87,88,89,90,91,92,93,94,95,96,97,98,99,100,101,102,103,104,105,106,107,108,109,110,111,112,113,114,115,116,117,118,119,120,121,122,123,124,125,126,127,128,129,130,131,132,133,134,135,136,137,138,139,140,141,142,143,144,145,146,147,148,149,150,151,152,153,154,155,156,157,158,159,160,161,162,163,164,165,166,167,168,169,170,171,172,173,174,175,176,177,178,179,180,181,182,183,184,185,186,187,188,189,190,191,192,193,194,195,196,197,198,199,200,201,202,203,204,205,206,207,208,209,210,211,212,213,214,215,216,217,218,219,220,221,222,223,224,225,226,227,228,229,230,231,232,233,234,235,236,237,238,239,240,241,242,243,244,245,246,247,248],(λ_=>81)⟩
def AL:Cx:=Ht [(191,.one Eg)] []
def A9:Cx:=xC ((1000154,.one (AU.sum AL (AU.pre AL))) :: [(191,.one Eg)]) [] [(AU.id,⟨1000154,AU.ps,AU.ss,AU.cl,AU.nt⟩)]
def Em:BH:=Bp.Hh A9 (λins=>EY A9.T (Bp.tree A9) (Ce ins))
omit hG in
theorem QV:AU.dc AL=true:=by kernel_rfl
end
end
section
open Go
section
variable{GB:Nat}{GC:Nat->Nat->Option Value}{ad:Nat->Nat×Nat}(hG:Gw GB GC ad)
include hG
theorem RQ:Ck Tryz.prog GB GC 154 (.one Em):=Ad.ad1 hG (i:=Bp) (l:=AU) (T:=[(191,.one Eg)]) (T':=[(191,.one Eg)]) (L:=[]) (L':=[]) (xT:=1000154) (Cb:=AL) (C1:=A9) (pl:=(AU.pre AL)) (pre:=(λins=>EY A9.T (Bp.tree A9) (Ce ins))) (by decide) rfl rfl (.cons (k:=191) rfl (K3 hG) Tryz.call191 (Ad.len _ _) .nil) .nil .nil Tryz.func154 rfl rfl rfl (.inr rfl) (.inr rfl) (λ_ _ h=>h) (.cons (k:=191) rfl (K3 hG) Tryz.call191 (Ad.len _ _) .nil) QV (by kernel_rfl) (by kernel_rfl) (by kernel_rfl) (λ_ _ h=>h)
end
end
end Go.Proofs.YtloibefkijfdlaaGreatDoor
