/- Contracts that the trees give: SHA-512. Contracts that the trees give: SHA-512. (further) -/
import Derived.Test.YtloibefkijfdlaaGreatDoorDz
namespace Go.Proofs.YtloibefkijfdlaaGreatDoor
open Go
section
variable{GB:Nat}{GC:Nat→Nat→Option Value}{ad:Nat→Nat×Nat}(hG:GOk GB GC ad)
include hG
noncomputable def i_bits_RotateLeft64:FnI:=⟨6000,bodyOf Tryz.f191,Tryz.f191.ntmps,Tryz.f191.results.toList,[],⟨[.int .u64,.int .i64],false,fun _=>True,[],[],[.int .u64 z0]⟩⟩
noncomputable def C_bits_RotateLeft64:Cx:=mkC [] []
noncomputable def s_bits_RotateLeft64:FSum:=i_bits_RotateLeft64.sum C_bits_RotateLeft64
theorem ok_bits_RotateLeft64:FEOk Tryz.prog GB GC 191 (.one s_bits_RotateLeft64):=FnI.fin hG .nil .nil Tryz.func191 rfl rfl rfl (.inl rfl) (by kernel_rfl)
noncomputable def i_sha512_bePutUint64:FnI:=⟨6000,bodyOf Tryz.f155,Tryz.f155.ntmps,Tryz.f155.results.toList,[],⟨[.sl (List.replicate 64 .u8) 1 true,.int .u64],false,fun _=>True,[(0,List.replicate 64 .u8,z1)],[],[]⟩⟩
noncomputable def C_sha512_bePutUint64:Cx:=mkC [] []
noncomputable def s_sha512_bePutUint64:FSum:=i_sha512_bePutUint64.sum C_sha512_bePutUint64
theorem ok_sha512_bePutUint64:FEOk Tryz.prog GB GC 155 (.one s_sha512_bePutUint64):=FnI.fin hG .nil .nil Tryz.func155 rfl rfl rfl (.inl rfl) (by kernel_rfl)
noncomputable def i_sha512_bePutUint64_v1:FnI:=⟨6000,bodyOf Tryz.f155,Tryz.f155.ntmps,Tryz.f155.results.toList,[],⟨[.sl (List.replicate 56 .u8) 1 true,.int .u64],false,fun _=>True,[(0,List.replicate 56 .u8,z1)],[],[]⟩⟩
noncomputable def C_sha512_bePutUint64_v1:Cx:=mkC [] []
noncomputable def s_sha512_bePutUint64_v1:FSum:=i_sha512_bePutUint64_v1.sum C_sha512_bePutUint64_v1
theorem ok_sha512_bePutUint64_v1:FEOk Tryz.prog GB GC 155 (.one s_sha512_bePutUint64_v1):=FnI.fin hG .nil .nil Tryz.func155 rfl rfl rfl (.inl rfl) (by kernel_rfl)
noncomputable def i_sha512_bePutUint64_v2:FnI:=⟨6000,bodyOf Tryz.f155,Tryz.f155.ntmps,Tryz.f155.results.toList,[],⟨[.sl (List.replicate 48 .u8) 1 true,.int .u64],false,fun _=>True,[(0,List.replicate 48 .u8,z1)],[],[]⟩⟩
noncomputable def C_sha512_bePutUint64_v2:Cx:=mkC [] []
noncomputable def s_sha512_bePutUint64_v2:FSum:=i_sha512_bePutUint64_v2.sum C_sha512_bePutUint64_v2
theorem ok_sha512_bePutUint64_v2:FEOk Tryz.prog GB GC 155 (.one s_sha512_bePutUint64_v2):=FnI.fin hG .nil .nil Tryz.func155 rfl rfl rfl (.inl rfl) (by kernel_rfl)
noncomputable def i_sha512_bePutUint64_v3:FnI:=⟨6000,bodyOf Tryz.f155,Tryz.f155.ntmps,Tryz.f155.results.toList,[],⟨[.sl (List.replicate 40 .u8) 1 true,.int .u64],false,fun _=>True,[(0,List.replicate 40 .u8,z1)],[],[]⟩⟩
noncomputable def C_sha512_bePutUint64_v3:Cx:=mkC [] []
noncomputable def s_sha512_bePutUint64_v3:FSum:=i_sha512_bePutUint64_v3.sum C_sha512_bePutUint64_v3
theorem ok_sha512_bePutUint64_v3:FEOk Tryz.prog GB GC 155 (.one s_sha512_bePutUint64_v3):=FnI.fin hG .nil .nil Tryz.func155 rfl rfl rfl (.inl rfl) (by kernel_rfl)
noncomputable def i_sha512_bePutUint64_v4:FnI:=⟨6000,bodyOf Tryz.f155,Tryz.f155.ntmps,Tryz.f155.results.toList,[],⟨[.sl (List.replicate 32 .u8) 1 true,.int .u64],false,fun _=>True,[(0,List.replicate 32 .u8,z1)],[],[]⟩⟩
noncomputable def C_sha512_bePutUint64_v4:Cx:=mkC [] []
noncomputable def s_sha512_bePutUint64_v4:FSum:=i_sha512_bePutUint64_v4.sum C_sha512_bePutUint64_v4
theorem ok_sha512_bePutUint64_v4:FEOk Tryz.prog GB GC 155 (.one s_sha512_bePutUint64_v4):=FnI.fin hG .nil .nil Tryz.func155 rfl rfl rfl (.inl rfl) (by kernel_rfl)
noncomputable def i_sha512_bePutUint64_v5:FnI:=⟨6000,bodyOf Tryz.f155,Tryz.f155.ntmps,Tryz.f155.results.toList,[],⟨[.sl (List.replicate 24 .u8) 1 true,.int .u64],false,fun _=>True,[(0,List.replicate 24 .u8,z1)],[],[]⟩⟩
noncomputable def C_sha512_bePutUint64_v5:Cx:=mkC [] []
noncomputable def s_sha512_bePutUint64_v5:FSum:=i_sha512_bePutUint64_v5.sum C_sha512_bePutUint64_v5
theorem ok_sha512_bePutUint64_v5:FEOk Tryz.prog GB GC 155 (.one s_sha512_bePutUint64_v5):=FnI.fin hG .nil .nil Tryz.func155 rfl rfl rfl (.inl rfl) (by kernel_rfl)
noncomputable def i_sha512_bePutUint64_v6:FnI:=⟨6000,bodyOf Tryz.f155,Tryz.f155.ntmps,Tryz.f155.results.toList,[],⟨[.sl (List.replicate 16 .u8) 1 true,.int .u64],false,fun _=>True,[(0,List.replicate 16 .u8,z1)],[],[]⟩⟩
noncomputable def C_sha512_bePutUint64_v6:Cx:=mkC [] []
noncomputable def s_sha512_bePutUint64_v6:FSum:=i_sha512_bePutUint64_v6.sum C_sha512_bePutUint64_v6
theorem ok_sha512_bePutUint64_v6:FEOk Tryz.prog GB GC 155 (.one s_sha512_bePutUint64_v6):=FnI.fin hG .nil .nil Tryz.func155 rfl rfl rfl (.inl rfl) (by kernel_rfl)
noncomputable def i_sha512_bePutUint64_v7:FnI:=⟨6000,bodyOf Tryz.f155,Tryz.f155.ntmps,Tryz.f155.results.toList,[],⟨[.sl (List.replicate 8 .u8) 1 true,.int .u64],false,fun _=>True,[(0,List.replicate 8 .u8,z1)],[],[]⟩⟩
noncomputable def C_sha512_bePutUint64_v7:Cx:=mkC [] []
noncomputable def s_sha512_bePutUint64_v7:FSum:=i_sha512_bePutUint64_v7.sum C_sha512_bePutUint64_v7
theorem ok_sha512_bePutUint64_v7:FEOk Tryz.prog GB GC 155 (.one s_sha512_bePutUint64_v7):=FnI.fin hG .nil .nil Tryz.func155 rfl rfl rfl (.inl rfl) (by kernel_rfl)
noncomputable def i_sha512_blockGeneric:FnI:=⟨6000,bodyOf Tryz.f154,Tryz.f154.ntmps,Tryz.f154.results.toList,allG,⟨[.mem (List.replicate 8 .u64) 1 true,.sl (List.replicate 128 .u8) 0 false],false,fun _=>True,[(0,List.replicate 8 .u64,z1)],[],[]⟩⟩
noncomputable def l_sha512_blockGeneric:LpI:=⟨6000,loopIn 2 (bodyOf Tryz.f154),Tryz.f154.ntmps,2,allG,⟨[.int .u64,.int .u64,.int .u64,.int .u64,.int .u64,.int .u64,.int .u64,.int .u64,.int .i64,.mem (List.replicate 80 .u64) 1 true,.sl (List.replicate 128 .u8) 0 false],true,fun _=>True,[(9,List.replicate 80 .u64,z1)],[],[]⟩,[13,14,15,16,17,18,19,20,80,4,1],[21,22,23,24,25,26,27,28,81,82,83,84,85,86,87,88,89,90,91,92,93,94,95,96,97,98,99,100,101,102,103,104,105,106,107,108,109,110,111,112,113,114,115,116,117,118,119,120,121,122,123,124,125,126,127,128,129,130,131,132,133,134,135,136,137,138,139,140,141,142,143,144,145,146,147,148,149,150,151,152,153,154,155,156,157,158,159,160,161,162,163,164,165,166,167,168,169,170,171,172,173,174,175,176,177,178,179,180,181,182,183,184,185,186,187,188,189,190,191,192,193,194,195,196,197,198,199,200,201,202,203,204,205,206,207,208,209,210,211,212,213,214,215,216,217,218,219,220,221,222,223,224,225,226,227,228,229,230,231,232,233,234,235,236,237,238,239,240,241,242,243,244,245,246,247,248],(fun _=>81)⟩
noncomputable def Cb_sha512_blockGeneric:Cx:=mkC [(191,.one s_bits_RotateLeft64)] []
noncomputable def C_sha512_blockGeneric:Cx:=mkCL ((1000154,.one (l_sha512_blockGeneric.sum Cb_sha512_blockGeneric (l_sha512_blockGeneric.pre Cb_sha512_blockGeneric))) :: [(191,.one s_bits_RotateLeft64)]) [] [(l_sha512_blockGeneric.id,⟨1000154,l_sha512_blockGeneric.ps,l_sha512_blockGeneric.ss,l_sha512_blockGeneric.cl,l_sha512_blockGeneric.nt⟩)]
noncomputable def s_sha512_blockGeneric:FSum:=i_sha512_blockGeneric.sumH C_sha512_blockGeneric (fun ins=>evOb C_sha512_blockGeneric.T (i_sha512_blockGeneric.tree C_sha512_blockGeneric) (insE ins))
omit hG in
theorem chkl_sha512_blockGeneric:l_sha512_blockGeneric.chk Cb_sha512_blockGeneric=true:=by kernel_rfl
end
end Go.Proofs.YtloibefkijfdlaaGreatDoor

namespace Go.Proofs.YtloibefkijfdlaaGreatDoor
open Go
section
variable{GB:Nat}{GC:Nat→Nat→Option Value}{ad:Nat→Nat×Nat}(hG:GOk GB GC ad)
include hG
theorem ok_sha512_blockGeneric:FEOk Tryz.prog GB GC 154 (.one s_sha512_blockGeneric):=FnI.finL hG (i:=i_sha512_blockGeneric) (l:=l_sha512_blockGeneric) (T:= [(191,.one s_bits_RotateLeft64)]) (T':= [(191,.one s_bits_RotateLeft64)]) (L:= []) (L':= []) (lid:=1000154) (Cb:=Cb_sha512_blockGeneric) (C1:=C_sha512_blockGeneric) (pl:=(l_sha512_blockGeneric.pre Cb_sha512_blockGeneric)) (pre:=(fun ins=>evOb C_sha512_blockGeneric.T (i_sha512_blockGeneric.tree C_sha512_blockGeneric) (insE ins))) (by decide) rfl rfl (.cons (k:=191) rfl (ok_bits_RotateLeft64 hG) Tryz.call191 (FnI.len _ _) .nil) .nil .nil Tryz.func154 rfl rfl rfl (.inr rfl) (.inr rfl) (fun _ _ h=>h) (.cons (k:=191) rfl (ok_bits_RotateLeft64 hG) Tryz.call191 (FnI.len _ _) .nil) chkl_sha512_blockGeneric (by kernel_rfl) (by kernel_rfl) (by kernel_rfl) (fun _ _ h=>h)
end
end Go.Proofs.YtloibefkijfdlaaGreatDoor
