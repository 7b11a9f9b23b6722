/- Contracts that the trees give: the field. Contracts that the trees give: points. Contracts that the trees give: scalars. -/
import Derived.Test.YtloibefkijfdlaaGreatDoorDa
namespace Go.Proofs.YtloibefkijfdlaaGreatDoor
open Go
section
variable{GB:Nat}{GC:Nat→Nat→Option Value}{ad:Nat→Nat×Nat}(hG:GOk GB GC ad)
include hG
noncomputable def i_bits_Mul64:FnI:=⟨6000,bodyOf Tryz.f172,Tryz.f172.ntmps,Tryz.f172.results.toList,[],⟨[.int .u64,.int .u64],false,fun _=>True,[],[],[.int .u64 z0,.int .u64 z0]⟩⟩
noncomputable def C_bits_Mul64:Cx:=mkC [] []
noncomputable def s_bits_Mul64:FSum:=i_bits_Mul64.sum C_bits_Mul64
theorem ok_bits_Mul64:FEOk Tryz.prog GB GC 172 (.one s_bits_Mul64):=FnI.fin hG .nil .nil Tryz.func172 rfl rfl rfl (.inl rfl) (by kernel_rfl)
noncomputable def i_field_mul19:FnI:=⟨6000,bodyOf Tryz.f197,Tryz.f197.ntmps,Tryz.f197.results.toList,[],⟨[.int .u64],false,fun _=>True,[],[],[.int .u64 z0]⟩⟩
noncomputable def C_field_mul19:Cx:=mkC [] []
noncomputable def s_field_mul19:FSum:=i_field_mul19.sum C_field_mul19
theorem ok_field_mul19:FEOk Tryz.prog GB GC 197 (.one s_field_mul19):=FnI.fin hG .nil .nil Tryz.func197 rfl rfl rfl (.inl rfl) (by kernel_rfl)
noncomputable def i_field_Element_Set:FnI:=⟨6000,bodyOf Tryz.f121,Tryz.f121.ntmps,Tryz.f121.results.toList,[],⟨[.mem (List.replicate 5 .u64) 96 true,.mem (List.replicate 5 .u64) 96 false],false,fun _=>True,[(0,(List.replicate 5 .u64),z1)],[],[.ptrP 0]⟩⟩
noncomputable def C_field_Element_Set:Cx:=mkC [] []
noncomputable def s_field_Element_Set:FSum:=i_field_Element_Set.sum C_field_Element_Set
theorem ok_field_Element_Set:FEOk Tryz.prog GB GC 121 (.one s_field_Element_Set):=FnI.fin hG .nil .nil Tryz.func121 rfl rfl rfl (.inl rfl) (by kernel_rfl)
noncomputable def i_field_Element_Zero:FnI:=⟨6000,bodyOf Tryz.f179,Tryz.f179.ntmps,Tryz.f179.results.toList,allG,⟨[.mem (List.replicate 5 .u64) 96 true],false,fun _=>True,[(0,(List.replicate 5 .u64),z1)],[],[.ptrP 0]⟩⟩
noncomputable def C_field_Element_Zero:Cx:=mkC [] []
noncomputable def s_field_Element_Zero:FSum:=i_field_Element_Zero.sum C_field_Element_Zero
theorem ok_field_Element_Zero:FEOk Tryz.prog GB GC 179 (.one s_field_Element_Zero):=FnI.fin hG .nil .nil Tryz.func179 rfl rfl rfl (.inr rfl) (by kernel_rfl)
noncomputable def i_field_Element_One:FnI:=⟨6000,bodyOf Tryz.f122,Tryz.f122.ntmps,Tryz.f122.results.toList,allG,⟨[.mem (List.replicate 5 .u64) 96 true],false,fun _=>True,[(0,(List.replicate 5 .u64),z1)],[],[.ptrP 0]⟩⟩
noncomputable def C_field_Element_One:Cx:=mkC [] []
noncomputable def s_field_Element_One:FSum:=i_field_Element_One.sum C_field_Element_One
theorem ok_field_Element_One:FEOk Tryz.prog GB GC 122 (.one s_field_Element_One):=FnI.fin hG .nil .nil Tryz.func122 rfl rfl rfl (.inr rfl) (by kernel_rfl)
noncomputable def i_field_Element_Add:FnI:=⟨6000,bodyOf Tryz.f117,Tryz.f117.ntmps,Tryz.f117.results.toList,[],⟨[.mem (List.replicate 5 .u64) 96 true,.mem (List.replicate 5 .u64) 96 false,.mem (List.replicate 5 .u64) 96 false],false,fun _=>True,[(0,(List.replicate 5 .u64),z1)],[],[.ptrP 0]⟩⟩
noncomputable def C_field_Element_Add:Cx:=mkC [(197,.one s_field_mul19)] [(158,ilF Tryz.f158)]
noncomputable def s_field_Element_Add:FSum:=i_field_Element_Add.sum C_field_Element_Add
theorem ok_field_Element_Add:FEOk Tryz.prog GB GC 117 (.one s_field_Element_Add):=FnI.fin hG (.cons (k:=197) rfl (ok_field_mul19 hG) Tryz.call197 (FnI.len _ _) .nil) (.cons Tryz.func158 rfl Tryz.call158 .nil) Tryz.func117 rfl rfl rfl (.inl rfl) (by kernel_rfl)
noncomputable def i_field_Element_Subtract:FnI:=⟨6000,bodyOf Tryz.f113,Tryz.f113.ntmps,Tryz.f113.results.toList,[],⟨[.mem (List.replicate 5 .u64) 96 true,.mem (List.replicate 5 .u64) 96 false,.mem (List.replicate 5 .u64) 96 false],false,fun _=>True,[(0,(List.replicate 5 .u64),z1)],[],[.ptrP 0]⟩⟩
noncomputable def C_field_Element_Subtract:Cx:=mkC [(197,.one s_field_mul19)] [(158,ilF Tryz.f158)]
noncomputable def s_field_Element_Subtract:FSum:=i_field_Element_Subtract.sum C_field_Element_Subtract
theorem ok_field_Element_Subtract:FEOk Tryz.prog GB GC 113 (.one s_field_Element_Subtract):=FnI.fin hG (.cons (k:=197) rfl (ok_field_mul19 hG) Tryz.call197 (FnI.len _ _) .nil) (.cons Tryz.func158 rfl Tryz.call158 .nil) Tryz.func113 rfl rfl rfl (.inl rfl) (by kernel_rfl)
noncomputable def i_field_Element_Negate:FnI:=⟨6000,bodyOf Tryz.f119,Tryz.f119.ntmps,Tryz.f119.results.toList,allG,⟨[.mem (List.replicate 5 .u64) 96 true,.mem (List.replicate 5 .u64) 96 false],false,fun _=>True,[(0,(List.replicate 5 .u64),z1)],[],[.ptrP 0]⟩⟩
noncomputable def C_field_Element_Negate:Cx:=mkC [(113,.one s_field_Element_Subtract)] []
noncomputable def s_field_Element_Negate:FSum:=i_field_Element_Negate.sum C_field_Element_Negate
theorem ok_field_Element_Negate:FEOk Tryz.prog GB GC 119 (.one s_field_Element_Negate):=FnI.fin hG (.cons (k:=113) rfl (ok_field_Element_Subtract hG) Tryz.call113 (FnI.len _ _) .nil) .nil Tryz.func119 rfl rfl rfl (.inr rfl) (by kernel_rfl)
noncomputable def i_field_Element_Multiply:FnI:=⟨6000,bodyOf Tryz.f115,Tryz.f115.ntmps,Tryz.f115.results.toList,[],⟨[.mem (List.replicate 5 .u64) 96 true,.mem (List.replicate 5 .u64) 96 false,.mem (List.replicate 5 .u64) 96 false],false,fun _=>True,[(0,(List.replicate 5 .u64),z1)],[],[.ptrP 0]⟩⟩
noncomputable def C_field_Element_Multiply:Cx:=mkC [(172,.one s_bits_Mul64),(197,.one s_field_mul19)] [(159,ilF Tryz.f159),(198,ilF Tryz.f198),(192,ilF Tryz.f192),(194,ilF Tryz.f194),(195,ilF Tryz.f195),(196,ilF Tryz.f196)]
noncomputable def s_field_Element_Multiply:FSum:=i_field_Element_Multiply.sum C_field_Element_Multiply
theorem ok_field_Element_Multiply:FEOk Tryz.prog GB GC 115 (.one s_field_Element_Multiply):=FnI.fin hG (.cons (k:=172) rfl (ok_bits_Mul64 hG) Tryz.call172 (FnI.len _ _) (.cons (k:=197) rfl (ok_field_mul19 hG) Tryz.call197 (FnI.len _ _) .nil)) (.cons Tryz.func159 rfl Tryz.call159 (.cons Tryz.func198 rfl Tryz.call198 (.cons Tryz.func192 rfl Tryz.call192 (.cons Tryz.func194 rfl Tryz.call194 (.cons Tryz.func195 rfl Tryz.call195 (.cons Tryz.func196 rfl Tryz.call196 .nil)))))) Tryz.func115 rfl rfl rfl (.inl rfl) (by kernel_rfl)
noncomputable def i_field_Element_Square:FnI:=⟨6000,bodyOf Tryz.f112,Tryz.f112.ntmps,Tryz.f112.results.toList,[],⟨[.mem (List.replicate 5 .u64) 96 true,.mem (List.replicate 5 .u64) 96 false],false,fun _=>True,[(0,(List.replicate 5 .u64),z1)],[],[.ptrP 0]⟩⟩
noncomputable def C_field_Element_Square:Cx:=mkC [(172,.one s_bits_Mul64),(197,.one s_field_mul19)] [(157,ilF Tryz.f157),(192,ilF Tryz.f192),(193,ilF Tryz.f193),(194,ilF Tryz.f194),(195,ilF Tryz.f195),(196,ilF Tryz.f196)]
noncomputable def s_field_Element_Square:FSum:=i_field_Element_Square.sum C_field_Element_Square
theorem ok_field_Element_Square:FEOk Tryz.prog GB GC 112 (.one s_field_Element_Square):=FnI.fin hG (.cons (k:=172) rfl (ok_bits_Mul64 hG) Tryz.call172 (FnI.len _ _) (.cons (k:=197) rfl (ok_field_mul19 hG) Tryz.call197 (FnI.len _ _) .nil)) (.cons Tryz.func157 rfl Tryz.call157 (.cons Tryz.func192 rfl Tryz.call192 (.cons Tryz.func193 rfl Tryz.call193 (.cons Tryz.func194 rfl Tryz.call194 (.cons Tryz.func195 rfl Tryz.call195 (.cons Tryz.func196 rfl Tryz.call196 .nil)))))) Tryz.func112 rfl rfl rfl (.inl rfl) (by kernel_rfl)
noncomputable def i_field_Element_Select:FnI:=⟨6000,bodyOf Tryz.f120,Tryz.f120.ntmps,Tryz.f120.results.toList,[],⟨[.mem (List.replicate 5 .u64) 96 true,.mem (List.replicate 5 .u64) 96 false,.mem (List.replicate 5 .u64) 96 false,.int .i64],false,fun _=>True,[(0,(List.replicate 5 .u64),z1)],[],[.ptrP 0]⟩⟩
noncomputable def C_field_Element_Select:Cx:=mkC [] [(163,ilF Tryz.f163)]
noncomputable def s_field_Element_Select:FSum:=i_field_Element_Select.sum C_field_Element_Select
theorem ok_field_Element_Select:FEOk Tryz.prog GB GC 120 (.one s_field_Element_Select):=FnI.fin hG .nil (.cons Tryz.func163 rfl Tryz.call163 .nil) Tryz.func120 rfl rfl rfl (.inl rfl) (by kernel_rfl)
noncomputable def i_field_Element_Swap:FnI:=⟨6000,bodyOf Tryz.f210,Tryz.f210.ntmps,Tryz.f210.results.toList,[],⟨[.mem (List.replicate 5 .u64) 0 true,.mem (List.replicate 5 .u64) 0 true,.int .i64],false,fun _=>True,[(0,List.replicate 5 .u64,z1),(1,List.replicate 5 .u64,z1)],[],[]⟩⟩
noncomputable def C_field_Element_Swap:Cx:=mkC [] [(163,ilF Tryz.f163)]
noncomputable def s_field_Element_Swap:FSum:=i_field_Element_Swap.sum C_field_Element_Swap
theorem ok_field_Element_Swap:FEOk Tryz.prog GB GC 210 (.one s_field_Element_Swap):=FnI.fin hG .nil (.cons Tryz.func163 rfl Tryz.call163 .nil) Tryz.func210 rfl rfl rfl (.inl rfl) (by kernel_rfl)
noncomputable def i_field_Element_Bytes:FnI:=⟨6000,bodyOf Tryz.f200,Tryz.f200.ntmps,Tryz.f200.results.toList,[],⟨[.mem (List.replicate 5 .u64) 1 false],false,fun _=>True,[],[(List.replicate 32 .u8,z1)],[.slF 0 32 32]⟩⟩
noncomputable def C_field_Element_Bytes:Cx:=mkC [(197,.one s_field_mul19)] [(212,ilF Tryz.f212),(215,ilF Tryz.f215),(158,ilF Tryz.f158),(216,ilF Tryz.f216)]
noncomputable def s_field_Element_Bytes:FSum:=i_field_Element_Bytes.sum C_field_Element_Bytes
theorem ok_field_Element_Bytes:FEOk Tryz.prog GB GC 200 (.one s_field_Element_Bytes):=FnI.fin hG (.cons (k:=197) rfl (ok_field_mul19 hG) Tryz.call197 (FnI.len _ _) .nil) (.cons Tryz.func212 rfl Tryz.call212 (.cons Tryz.func215 rfl Tryz.call215 (.cons Tryz.func158 rfl Tryz.call158 (.cons Tryz.func216 rfl Tryz.call216 .nil)))) Tryz.func200 rfl rfl rfl (.inl rfl) (by kernel_rfl)
noncomputable def i_field_Element_SetBytes:FnI:=⟨6000,bodyOf Tryz.f111,Tryz.f111.ntmps,Tryz.f111.results.toList,[],⟨[.mem (List.replicate 5 .u64) 1 true,.sl (List.replicate 32 .u8) 0 false],false,fun _=>True,[(0,List.replicate 5 .u64,z1)],[],[.ptrP 0,.nilI]⟩⟩
noncomputable def C_field_Element_SetBytes:Cx:=mkC [] [(156,ilF Tryz.f156)]
noncomputable def s_field_Element_SetBytes:FSum:=i_field_Element_SetBytes.sum C_field_Element_SetBytes
theorem ok_field_Element_SetBytes:FEOk Tryz.prog GB GC 111 (.one s_field_Element_SetBytes):=FnI.fin hG .nil (.cons Tryz.func156 rfl Tryz.call156 .nil) Tryz.func111 rfl rfl rfl (.inl rfl) (by kernel_rfl)
noncomputable def i_field_feSquareN:FnI:=⟨6000,bodyOf Tryz.f211,Tryz.f211.ntmps,Tryz.f211.results.toList,[],⟨[.mem (List.replicate 5 .u64) 3 true,.mem (List.replicate 5 .u64) 3 false,.int .i64],false,fun _=>True,[(0,List.replicate 5 .u64,z1)],[],[]⟩⟩
noncomputable def l_field_feSquareN:LpI:=⟨6000,loopIn 0 (bodyOf Tryz.f211),Tryz.f211.ntmps,0,[],⟨[.int .u64,.int .u64,.int .u64,.int .u64,.int .u64,.int .i64,.int .i64],true,fun _=>True,[],[],[]⟩,[6,7,8,9,10,46,47],[11,12,13,14,15,16,17,18,19,20,21,22,23,24,25,48,49,50,51,52,53,54,55,56,57,58,59,60,61,62,63,64,65,66,67,68,69,70,71,72,73,74,75,76,77,78,79,80,81,82,83,84,85,86,87,88,89,90,91,92,93,94,95,96,97,98,99,100,101,102,103,104,105,106,107,108,109,110,111,112,113,114,115,116,117,118,119,120,121,122,123,124,125,126,127,128,129,130,131,132,133,134,135,136,137,138,139,140,141,142,143,144,145,146,147,148,149,150,151,152,153,154,155,156,157,158,159,160,161,162,163,164,165,166,167,168,169,170,171,172],(fun a=>((a.getD 5 []).getD 0 0-(a.getD 6 []).getD 0 0).toNat+1)⟩
noncomputable def Cb_field_feSquareN:Cx:=mkC [(172,.one s_bits_Mul64),(197,.one s_field_mul19)] [(192,ilF Tryz.f192),(193,ilF Tryz.f193),(194,ilF Tryz.f194),(195,ilF Tryz.f195),(196,ilF Tryz.f196)]
noncomputable def C_field_feSquareN:Cx:=mkCL ((1000211,.one (l_field_feSquareN.sum Cb_field_feSquareN (l_field_feSquareN.pre Cb_field_feSquareN))) :: [(172,.one s_bits_Mul64),(197,.one s_field_mul19)]) [(192,ilF Tryz.f192),(193,ilF Tryz.f193),(194,ilF Tryz.f194),(195,ilF Tryz.f195),(196,ilF Tryz.f196)] [(l_field_feSquareN.id,⟨1000211,l_field_feSquareN.ps,l_field_feSquareN.ss,l_field_feSquareN.cl,l_field_feSquareN.nt⟩)]
noncomputable def s_field_feSquareN:FSum:=i_field_feSquareN.sumH C_field_feSquareN (fun ins=>evOb C_field_feSquareN.T (i_field_feSquareN.tree C_field_feSquareN) (insE ins))
omit hG in
theorem chkl_field_feSquareN:l_field_feSquareN.chk Cb_field_feSquareN=true:=by kernel_rfl
theorem ok_field_feSquareN:FEOk Tryz.prog GB GC 211 (.one s_field_feSquareN):=FnI.finL hG (i:=i_field_feSquareN) (l:=l_field_feSquareN) (T:= [(172,.one s_bits_Mul64),(197,.one s_field_mul19)]) (T':= [(172,.one s_bits_Mul64),(197,.one s_field_mul19)]) (L:= [(192,ilF Tryz.f192),(193,ilF Tryz.f193),(194,ilF Tryz.f194),(195,ilF Tryz.f195),(196,ilF Tryz.f196)]) (L':= [(192,ilF Tryz.f192),(193,ilF Tryz.f193),(194,ilF Tryz.f194),(195,ilF Tryz.f195),(196,ilF Tryz.f196)]) (lid:=1000211) (Cb:=Cb_field_feSquareN) (C1:=C_field_feSquareN) (pl:=(l_field_feSquareN.pre Cb_field_feSquareN)) (pre:=(fun ins=>evOb C_field_feSquareN.T (i_field_feSquareN.tree C_field_feSquareN) (insE ins))) (by decide) rfl rfl (.cons (k:=172) rfl (ok_bits_Mul64 hG) Tryz.call172 (FnI.len _ _) (.cons (k:=197) rfl (ok_field_mul19 hG) Tryz.call197 (FnI.len _ _) .nil)) (.cons Tryz.func192 rfl Tryz.call192 (.cons Tryz.func193 rfl Tryz.call193 (.cons Tryz.func194 rfl Tryz.call194 (.cons Tryz.func195 rfl Tryz.call195 (.cons Tryz.func196 rfl Tryz.call196 .nil))))) (.cons Tryz.func192 rfl Tryz.call192 (.cons Tryz.func193 rfl Tryz.call193 (.cons Tryz.func194 rfl Tryz.call194 (.cons Tryz.func195 rfl Tryz.call195 (.cons Tryz.func196 rfl Tryz.call196 .nil))))) Tryz.func211 rfl rfl rfl (.inl rfl) (.inl rfl) (fun _ _ h=>h) (.cons (k:=172) rfl (ok_bits_Mul64 hG) Tryz.call172 (FnI.len _ _) (.cons (k:=197) rfl (ok_field_mul19 hG) Tryz.call197 (FnI.len _ _) .nil)) chkl_field_feSquareN (by kernel_rfl) (by kernel_rfl) (by kernel_rfl) (fun _ _ h=>h)
noncomputable def i_field_Element_IsNegative:FnI:=⟨6000,bodyOf Tryz.f182,Tryz.f182.ntmps,Tryz.f182.results.toList,[],⟨[.mem (List.replicate 5 .u64) 96 false],false,fun _=>True,[],[],[.int .i64 z0]⟩⟩
noncomputable def C_field_Element_IsNegative:Cx:=mkC [(200,.one s_field_Element_Bytes)] []
noncomputable def s_field_Element_IsNegative:FSum:=i_field_Element_IsNegative.sum C_field_Element_IsNegative
theorem ok_field_Element_IsNegative:FEOk Tryz.prog GB GC 182 (.one s_field_Element_IsNegative):=FnI.fin hG (.cons (k:=200) rfl (ok_field_Element_Bytes hG) Tryz.call200 (FnI.len _ _) .nil) .nil Tryz.func182 rfl rfl rfl (.inl rfl) (by kernel_rfl)
noncomputable def i_field_Element_Equal:FnI:=⟨6000,bodyOf Tryz.f161,Tryz.f161.ntmps,Tryz.f161.results.toList,[],⟨[.mem (List.replicate 5 .u64) 96 false,.mem (List.replicate 5 .u64) 96 false],false,fun _=>True,[],[],[.int .i64 z0]⟩⟩
noncomputable def C_field_Element_Equal:Cx:=mkC [(200,.one s_field_Element_Bytes)] [(201,ilF Tryz.f201)]
noncomputable def s_field_Element_Equal:FSum:=i_field_Element_Equal.sum C_field_Element_Equal
theorem ok_field_Element_Equal:FEOk Tryz.prog GB GC 161 (.one s_field_Element_Equal):=FnI.fin hG (.cons (k:=200) rfl (ok_field_Element_Bytes hG) Tryz.call200 (FnI.len _ _) .nil) (.cons Tryz.func201 rfl Tryz.call201 .nil) Tryz.func161 rfl rfl rfl (.inl rfl) (by kernel_rfl)
noncomputable def i_field_Element_Absolute:FnI:=⟨6000,bodyOf Tryz.f162,Tryz.f162.ntmps,Tryz.f162.results.toList,[],⟨[.mem (List.replicate 5 .u64) 96 true,.mem (List.replicate 5 .u64) 96 false],false,fun _=>True,[(0,(List.replicate 5 .u64),z1)],[],[.ptrP 0]⟩⟩
noncomputable def C_field_Element_Absolute:Cx:=mkC [(119,.one s_field_Element_Negate),(120,.one s_field_Element_Select),(182,.one s_field_Element_IsNegative)] []
noncomputable def s_field_Element_Absolute:FSum:=i_field_Element_Absolute.sum C_field_Element_Absolute
theorem ok_field_Element_Absolute:FEOk Tryz.prog GB GC 162 (.one s_field_Element_Absolute):=FnI.fin hG (.cons (k:=119) rfl (ok_field_Element_Negate hG) Tryz.call119 (FnI.len _ _) (.cons (k:=120) rfl (ok_field_Element_Select hG) Tryz.call120 (FnI.len _ _) (.cons (k:=182) rfl (ok_field_Element_IsNegative hG) Tryz.call182 (FnI.len _ _) .nil))) .nil Tryz.func162 rfl rfl rfl (.inl rfl) (by kernel_rfl)
noncomputable def i_field_Element_Invert:FnI:=⟨6000,bodyOf Tryz.f180,Tryz.f180.ntmps,Tryz.f180.results.toList,[],⟨[.mem (List.replicate 5 .u64) 96 true,.mem (List.replicate 5 .u64) 96 false],false,fun _=>True,[(0,(List.replicate 5 .u64),z1)],[],[.ptrP 0]⟩⟩
noncomputable def C_field_Element_Invert:Cx:=mkC [(112,.one s_field_Element_Square),(115,.one s_field_Element_Multiply),(211,.one s_field_feSquareN)] [(199,ilF Tryz.f199)]
noncomputable def s_field_Element_Invert:FSum:=i_field_Element_Invert.sumP C_field_Element_Invert
theorem ok_field_Element_Invert:FEOk Tryz.prog GB GC 180 (.one s_field_Element_Invert):=FnI.finP hG (.cons (k:=112) rfl (ok_field_Element_Square hG) Tryz.call112 (FnI.len _ _) (.cons (k:=115) rfl (ok_field_Element_Multiply hG) Tryz.call115 (FnI.len _ _) (.cons (k:=211) rfl (ok_field_feSquareN hG) Tryz.call211 (FnI.lenH _ _ _) .nil))) (.cons Tryz.func199 rfl Tryz.call199 .nil) Tryz.func180 rfl rfl rfl (.inl rfl) (by kernel_rfl)
noncomputable def i_field_Element_Pow22523:FnI:=⟨6000,bodyOf Tryz.f160,Tryz.f160.ntmps,Tryz.f160.results.toList,[],⟨[.mem (List.replicate 5 .u64) 96 true,.mem (List.replicate 5 .u64) 96 false],false,fun _=>True,[(0,(List.replicate 5 .u64),z1)],[],[.ptrP 0]⟩⟩
noncomputable def C_field_Element_Pow22523:Cx:=mkC [(112,.one s_field_Element_Square),(115,.one s_field_Element_Multiply),(211,.one s_field_feSquareN)] [(199,ilF Tryz.f199)]
noncomputable def s_field_Element_Pow22523:FSum:=i_field_Element_Pow22523.sumP C_field_Element_Pow22523
theorem ok_field_Element_Pow22523:FEOk Tryz.prog GB GC 160 (.one s_field_Element_Pow22523):=FnI.finP hG (.cons (k:=112) rfl (ok_field_Element_Square hG) Tryz.call112 (FnI.len _ _) (.cons (k:=115) rfl (ok_field_Element_Multiply hG) Tryz.call115 (FnI.len _ _) (.cons (k:=211) rfl (ok_field_feSquareN hG) Tryz.call211 (FnI.lenH _ _ _) .nil))) (.cons Tryz.func199 rfl Tryz.call199 .nil) Tryz.func160 rfl rfl rfl (.inl rfl) (by kernel_rfl)
noncomputable def i_field_Element_SqrtRatio:FnI:=⟨6000,bodyOf Tryz.f118,Tryz.f118.ntmps,Tryz.f118.results.toList,allG,⟨[.mem (List.replicate 5 .u64) 96 true,.mem (List.replicate 5 .u64) 96 false,.mem (List.replicate 5 .u64) 96 false],false,fun _=>True,[(0,(List.replicate 5 .u64),z1)],[],[.ptrP 0,.int .i64 z0]⟩⟩
noncomputable def C_field_Element_SqrtRatio:Cx:=mkC [(112,.one s_field_Element_Square),(115,.one s_field_Element_Multiply),(119,.one s_field_Element_Negate),(120,.one s_field_Element_Select),(160,.one s_field_Element_Pow22523),(161,.one s_field_Element_Equal),(162,.one s_field_Element_Absolute)] []
noncomputable def s_field_Element_SqrtRatio:FSum:=i_field_Element_SqrtRatio.sumP C_field_Element_SqrtRatio
theorem ok_field_Element_SqrtRatio:FEOk Tryz.prog GB GC 118 (.one s_field_Element_SqrtRatio):=FnI.finP hG (.cons (k:=112) rfl (ok_field_Element_Square hG) Tryz.call112 (FnI.len _ _) (.cons (k:=115) rfl (ok_field_Element_Multiply hG) Tryz.call115 (FnI.len _ _) (.cons (k:=119) rfl (ok_field_Element_Negate hG) Tryz.call119 (FnI.len _ _) (.cons (k:=120) rfl (ok_field_Element_Select hG) Tryz.call120 (FnI.len _ _) (.cons (k:=160) rfl (ok_field_Element_Pow22523 hG) Tryz.call160 (FnI.lenP _ _) (.cons (k:=161) rfl (ok_field_Element_Equal hG) Tryz.call161 (FnI.len _ _) (.cons (k:=162) rfl (ok_field_Element_Absolute hG) Tryz.call162 (FnI.len _ _) .nil))))))) .nil Tryz.func118 rfl rfl rfl (.inr rfl) (by kernel_rfl)
noncomputable def i_edwards25519_feOne:FnI:=⟨6000,bodyOf Tryz.f114,Tryz.f114.ntmps,Tryz.f114.results.toList,[],⟨[],false,fun _=>True,[],[((List.replicate 5 .u64),z1)],[.ptrF 0]⟩⟩
noncomputable def C_edwards25519_feOne:Cx:=mkC [(122,.one s_field_Element_One)] []
noncomputable def s_edwards25519_feOne:FSum:=i_edwards25519_feOne.sum C_edwards25519_feOne
theorem ok_edwards25519_feOne:FEOk Tryz.prog GB GC 114 (.one s_edwards25519_feOne):=FnI.fin hG (.cons (k:=122) rfl (ok_field_Element_One hG) Tryz.call122 (FnI.len _ _) .nil) .nil Tryz.func114 rfl rfl rfl (.inl rfl) (by kernel_rfl)
noncomputable def i_edwards25519_dOf:FnI:=⟨6000,bodyOf Tryz.f116,Tryz.f116.ntmps,Tryz.f116.results.toList,[],⟨[],false,fun _=>True,[],[((List.replicate 5 .u64),z1)],[.ptrF 0]⟩⟩
noncomputable def C_edwards25519_dOf:Cx:=mkC [(111,.one s_field_Element_SetBytes)] []
noncomputable def s_edwards25519_dOf:FSum:=i_edwards25519_dOf.sum C_edwards25519_dOf
theorem ok_edwards25519_dOf:FEOk Tryz.prog GB GC 116 (.one s_edwards25519_dOf):=FnI.fin hG (.cons (k:=111) rfl (ok_field_Element_SetBytes hG) Tryz.call111 (FnI.len _ _) .nil) .nil Tryz.func116 rfl rfl rfl (.inl rfl) (by kernel_rfl)
noncomputable def i_edwards25519_d2:FnI:=⟨6000,bodyOf Tryz.f209,Tryz.f209.ntmps,Tryz.f209.results.toList,[],⟨[],false,fun _=>True,[],[((List.replicate 5 .u64),z1)],[.ptrF 0]⟩⟩
noncomputable def C_edwards25519_d2:Cx:=mkC [(116,.one s_edwards25519_dOf),(117,.one s_field_Element_Add)] []
noncomputable def s_edwards25519_d2:FSum:=i_edwards25519_d2.sum C_edwards25519_d2
theorem ok_edwards25519_d2:FEOk Tryz.prog GB GC 209 (.one s_edwards25519_d2):=FnI.fin hG (.cons (k:=116) rfl (ok_edwards25519_dOf hG) Tryz.call116 (FnI.len _ _) (.cons (k:=117) rfl (ok_field_Element_Add hG) Tryz.call117 (FnI.len _ _) .nil)) .nil Tryz.func209 rfl rfl rfl (.inl rfl) (by kernel_rfl)
end
end Go.Proofs.YtloibefkijfdlaaGreatDoor

namespace Go.Proofs.YtloibefkijfdlaaGreatDoor
open Go
section
variable{GB:Nat}{GC:Nat→Nat→Option Value}{ad:Nat→Nat×Nat}(hG:GOk GB GC ad)
include hG
noncomputable def i_edwards25519_affineCached_Zero:FnI:=⟨6000,bodyOf Tryz.f185,Tryz.f185.ntmps,Tryz.f185.results.toList,[],⟨[.mem (List.replicate 15 .u64) 173 true],false,fun _=>True,[(0,(List.replicate 15 .u64),z1)],[],[.ptrP 0]⟩⟩
noncomputable def C_edwards25519_affineCached_Zero:Cx:=mkC [(122,.one s_field_Element_One),(179,.one s_field_Element_Zero)] []
noncomputable def s_edwards25519_affineCached_Zero:FSum:=i_edwards25519_affineCached_Zero.sumP C_edwards25519_affineCached_Zero
theorem ok_edwards25519_affineCached_Zero:FEOk Tryz.prog GB GC 185 (.one s_edwards25519_affineCached_Zero):=FnI.finP hG (.cons (k:=122) rfl (ok_field_Element_One hG) Tryz.call122 (FnI.len _ _) (.cons (k:=179) rfl (ok_field_Element_Zero hG) Tryz.call179 (FnI.len _ _) .nil)) .nil Tryz.func185 rfl rfl rfl (.inl rfl) (by kernel_rfl)
noncomputable def i_edwards25519_affineCached_Select:FnI:=⟨6000,bodyOf Tryz.f187,Tryz.f187.ntmps,Tryz.f187.results.toList,[],⟨[.mem (List.replicate 15 .u64) 173 true,.mem (List.replicate 15 .u64) 173 false,.mem (List.replicate 15 .u64) 173 false,.int .i64],false,fun _=>True,[(0,(List.replicate 15 .u64),z1)],[],[.ptrP 0]⟩⟩
noncomputable def C_edwards25519_affineCached_Select:Cx:=mkC [(120,.one s_field_Element_Select)] []
noncomputable def s_edwards25519_affineCached_Select:FSum:=i_edwards25519_affineCached_Select.sumP C_edwards25519_affineCached_Select
theorem ok_edwards25519_affineCached_Select:FEOk Tryz.prog GB GC 187 (.one s_edwards25519_affineCached_Select):=FnI.finP hG (.cons (k:=120) rfl (ok_field_Element_Select hG) Tryz.call120 (FnI.len _ _) .nil) .nil Tryz.func187 rfl rfl rfl (.inl rfl) (by kernel_rfl)
noncomputable def i_edwards25519_affineCached_CondNeg:FnI:=⟨6000,bodyOf Tryz.f188,Tryz.f188.ntmps,Tryz.f188.results.toList,[],⟨[.mem (List.replicate 15 .u64) 173 true,.int .i64],false,fun _=>True,[(0,(List.replicate 15 .u64),z1)],[],[.ptrP 0]⟩⟩
noncomputable def C_edwards25519_affineCached_CondNeg:Cx:=mkC [(119,.one s_field_Element_Negate),(120,.one s_field_Element_Select),(210,.one s_field_Element_Swap)] []
noncomputable def s_edwards25519_affineCached_CondNeg:FSum:=i_edwards25519_affineCached_CondNeg.sumP C_edwards25519_affineCached_CondNeg
theorem ok_edwards25519_affineCached_CondNeg:FEOk Tryz.prog GB GC 188 (.one s_edwards25519_affineCached_CondNeg):=FnI.finP hG (.cons (k:=119) rfl (ok_field_Element_Negate hG) Tryz.call119 (FnI.len _ _) (.cons (k:=120) rfl (ok_field_Element_Select hG) Tryz.call120 (FnI.len _ _) (.cons (k:=210) rfl (ok_field_Element_Swap hG) Tryz.call210 (FnI.len _ _) .nil))) .nil Tryz.func188 rfl rfl rfl (.inl rfl) (by kernel_rfl)
noncomputable def i_edwards25519_projCached_FromP3:FnI:=⟨6000,bodyOf Tryz.f177,Tryz.f177.ntmps,Tryz.f177.results.toList,[],⟨[.mem (List.replicate 20 .u64) 162 true,.mem (List.replicate 20 .u64) 98 false],false,fun _=>True,[(0,(List.replicate 20 .u64),z1)],[],[.ptrP 0]⟩⟩
noncomputable def C_edwards25519_projCached_FromP3:Cx:=mkC [(113,.one s_field_Element_Subtract),(115,.one s_field_Element_Multiply),(117,.one s_field_Element_Add),(121,.one s_field_Element_Set),(209,.one s_edwards25519_d2)] []
noncomputable def s_edwards25519_projCached_FromP3:FSum:=i_edwards25519_projCached_FromP3.sumP C_edwards25519_projCached_FromP3
theorem ok_edwards25519_projCached_FromP3:FEOk Tryz.prog GB GC 177 (.one s_edwards25519_projCached_FromP3):=FnI.finP hG (.cons (k:=113) rfl (ok_field_Element_Subtract hG) Tryz.call113 (FnI.len _ _) (.cons (k:=115) rfl (ok_field_Element_Multiply hG) Tryz.call115 (FnI.len _ _) (.cons (k:=117) rfl (ok_field_Element_Add hG) Tryz.call117 (FnI.len _ _) (.cons (k:=121) rfl (ok_field_Element_Set hG) Tryz.call121 (FnI.len _ _) (.cons (k:=209) rfl (ok_edwards25519_d2 hG) Tryz.call209 (FnI.len _ _) .nil))))) .nil Tryz.func177 rfl rfl rfl (.inl rfl) (by kernel_rfl)
noncomputable def i_edwards25519_affineCached_FromP3:FnI:=⟨6000,bodyOf Tryz.f207,Tryz.f207.ntmps,Tryz.f207.results.toList,[],⟨[.mem (List.replicate 15 .u64) 173 true,.mem (List.replicate 20 .u64) 98 false],false,fun _=>True,[(0,(List.replicate 15 .u64),z1)],[],[.ptrP 0]⟩⟩
noncomputable def C_edwards25519_affineCached_FromP3:Cx:=mkC [(113,.one s_field_Element_Subtract),(115,.one s_field_Element_Multiply),(117,.one s_field_Element_Add),(180,.one s_field_Element_Invert),(209,.one s_edwards25519_d2)] []
noncomputable def s_edwards25519_affineCached_FromP3:FSum:=i_edwards25519_affineCached_FromP3.sumP C_edwards25519_affineCached_FromP3
theorem ok_edwards25519_affineCached_FromP3:FEOk Tryz.prog GB GC 207 (.one s_edwards25519_affineCached_FromP3):=FnI.finP hG (.cons (k:=113) rfl (ok_field_Element_Subtract hG) Tryz.call113 (FnI.len _ _) (.cons (k:=115) rfl (ok_field_Element_Multiply hG) Tryz.call115 (FnI.len _ _) (.cons (k:=117) rfl (ok_field_Element_Add hG) Tryz.call117 (FnI.len _ _) (.cons (k:=180) rfl (ok_field_Element_Invert hG) Tryz.call180 (FnI.lenP _ _) (.cons (k:=209) rfl (ok_edwards25519_d2 hG) Tryz.call209 (FnI.len _ _) .nil))))) .nil Tryz.func207 rfl rfl rfl (.inl rfl) (by kernel_rfl)
noncomputable def i_edwards25519_projP1xP1_Add:FnI:=⟨6000,bodyOf Tryz.f138,Tryz.f138.ntmps,Tryz.f138.results.toList,[],⟨[.mem (List.replicate 20 .u64) 176 true,.mem (List.replicate 20 .u64) 98 false,.mem (List.replicate 20 .u64) 162 false],false,fun _=>True,[(0,(List.replicate 20 .u64),z1)],[],[.ptrP 0]⟩⟩
noncomputable def C_edwards25519_projP1xP1_Add:Cx:=mkC [(113,.one s_field_Element_Subtract),(115,.one s_field_Element_Multiply),(117,.one s_field_Element_Add)] []
noncomputable def s_edwards25519_projP1xP1_Add:FSum:=i_edwards25519_projP1xP1_Add.sumP C_edwards25519_projP1xP1_Add
theorem ok_edwards25519_projP1xP1_Add:FEOk Tryz.prog GB GC 138 (.one s_edwards25519_projP1xP1_Add):=FnI.finP hG (.cons (k:=113) rfl (ok_field_Element_Subtract hG) Tryz.call113 (FnI.len _ _) (.cons (k:=115) rfl (ok_field_Element_Multiply hG) Tryz.call115 (FnI.len _ _) (.cons (k:=117) rfl (ok_field_Element_Add hG) Tryz.call117 (FnI.len _ _) .nil))) .nil Tryz.func138 rfl rfl rfl (.inl rfl) (by kernel_rfl)
noncomputable def i_edwards25519_projP1xP1_AddAffine:FnI:=⟨6000,bodyOf Tryz.f141,Tryz.f141.ntmps,Tryz.f141.results.toList,[],⟨[.mem (List.replicate 20 .u64) 176 true,.mem (List.replicate 20 .u64) 98 false,.mem (List.replicate 15 .u64) 173 false],false,fun _=>True,[(0,(List.replicate 20 .u64),z1)],[],[.ptrP 0]⟩⟩
noncomputable def C_edwards25519_projP1xP1_AddAffine:Cx:=mkC [(113,.one s_field_Element_Subtract),(115,.one s_field_Element_Multiply),(117,.one s_field_Element_Add)] []
noncomputable def s_edwards25519_projP1xP1_AddAffine:FSum:=i_edwards25519_projP1xP1_AddAffine.sumP C_edwards25519_projP1xP1_AddAffine
theorem ok_edwards25519_projP1xP1_AddAffine:FEOk Tryz.prog GB GC 141 (.one s_edwards25519_projP1xP1_AddAffine):=FnI.finP hG (.cons (k:=113) rfl (ok_field_Element_Subtract hG) Tryz.call113 (FnI.len _ _) (.cons (k:=115) rfl (ok_field_Element_Multiply hG) Tryz.call115 (FnI.len _ _) (.cons (k:=117) rfl (ok_field_Element_Add hG) Tryz.call117 (FnI.len _ _) .nil))) .nil Tryz.func141 rfl rfl rfl (.inl rfl) (by kernel_rfl)
noncomputable def i_edwards25519_projP1xP1_Double:FnI:=⟨6000,bodyOf Tryz.f135,Tryz.f135.ntmps,Tryz.f135.results.toList,[],⟨[.mem (List.replicate 20 .u64) 176 true,.mem (List.replicate 15 .u64) 179 false],false,fun _=>True,[(0,(List.replicate 20 .u64),z1)],[],[.ptrP 0]⟩⟩
noncomputable def C_edwards25519_projP1xP1_Double:Cx:=mkC [(112,.one s_field_Element_Square),(113,.one s_field_Element_Subtract),(117,.one s_field_Element_Add)] []
noncomputable def s_edwards25519_projP1xP1_Double:FSum:=i_edwards25519_projP1xP1_Double.sumP C_edwards25519_projP1xP1_Double
theorem ok_edwards25519_projP1xP1_Double:FEOk Tryz.prog GB GC 135 (.one s_edwards25519_projP1xP1_Double):=FnI.finP hG (.cons (k:=112) rfl (ok_field_Element_Square hG) Tryz.call112 (FnI.len _ _) (.cons (k:=113) rfl (ok_field_Element_Subtract hG) Tryz.call113 (FnI.len _ _) (.cons (k:=117) rfl (ok_field_Element_Add hG) Tryz.call117 (FnI.len _ _) .nil))) .nil Tryz.func135 rfl rfl rfl (.inl rfl) (by kernel_rfl)
noncomputable def i_edwards25519_Point_fromP1xP1:FnI:=⟨6000,bodyOf Tryz.f136,Tryz.f136.ntmps,Tryz.f136.results.toList,[],⟨[.mem (List.replicate 20 .u64) 98 true,.mem (List.replicate 20 .u64) 176 false],false,fun _=>True,[(0,(List.replicate 20 .u64),z1)],[],[.ptrP 0]⟩⟩
noncomputable def C_edwards25519_Point_fromP1xP1:Cx:=mkC [(115,.one s_field_Element_Multiply)] []
noncomputable def s_edwards25519_Point_fromP1xP1:FSum:=i_edwards25519_Point_fromP1xP1.sumP C_edwards25519_Point_fromP1xP1
theorem ok_edwards25519_Point_fromP1xP1:FEOk Tryz.prog GB GC 136 (.one s_edwards25519_Point_fromP1xP1):=FnI.finP hG (.cons (k:=115) rfl (ok_field_Element_Multiply hG) Tryz.call115 (FnI.len _ _) .nil) .nil Tryz.func136 rfl rfl rfl (.inl rfl) (by kernel_rfl)
noncomputable def i_edwards25519_projP2_FromP3:FnI:=⟨6000,bodyOf Tryz.f151,Tryz.f151.ntmps,Tryz.f151.results.toList,[],⟨[.mem (List.replicate 15 .u64) 179 true,.mem (List.replicate 20 .u64) 98 false],false,fun _=>True,[(0,(List.replicate 15 .u64),z1)],[],[.ptrP 0]⟩⟩
noncomputable def C_edwards25519_projP2_FromP3:Cx:=mkC [(121,.one s_field_Element_Set)] []
noncomputable def s_edwards25519_projP2_FromP3:FSum:=i_edwards25519_projP2_FromP3.sumP C_edwards25519_projP2_FromP3
theorem ok_edwards25519_projP2_FromP3:FEOk Tryz.prog GB GC 151 (.one s_edwards25519_projP2_FromP3):=FnI.finP hG (.cons (k:=121) rfl (ok_field_Element_Set hG) Tryz.call121 (FnI.len _ _) .nil) .nil Tryz.func151 rfl rfl rfl (.inl rfl) (by kernel_rfl)
noncomputable def i_edwards25519_projP2_FromP1xP1:FnI:=⟨6000,bodyOf Tryz.f143,Tryz.f143.ntmps,Tryz.f143.results.toList,[],⟨[.mem (List.replicate 15 .u64) 179 true,.mem (List.replicate 20 .u64) 176 false],false,fun _=>True,[(0,(List.replicate 15 .u64),z1)],[],[.ptrP 0]⟩⟩
noncomputable def C_edwards25519_projP2_FromP1xP1:Cx:=mkC [(115,.one s_field_Element_Multiply)] []
noncomputable def s_edwards25519_projP2_FromP1xP1:FSum:=i_edwards25519_projP2_FromP1xP1.sumP C_edwards25519_projP2_FromP1xP1
theorem ok_edwards25519_projP2_FromP1xP1:FEOk Tryz.prog GB GC 143 (.one s_edwards25519_projP2_FromP1xP1):=FnI.finP hG (.cons (k:=115) rfl (ok_field_Element_Multiply hG) Tryz.call115 (FnI.len _ _) .nil) .nil Tryz.func143 rfl rfl rfl (.inl rfl) (by kernel_rfl)
noncomputable def i_edwards25519_Point_Set:FnI:=⟨6000,bodyOf Tryz.f148,Tryz.f148.ntmps,Tryz.f148.results.toList,[],⟨[.mem (List.replicate 20 .u64) 98 true,.mem (List.replicate 20 .u64) 98 false],false,fun _=>True,[(0,(List.replicate 20 .u64),z1)],[],[.ptrP 0]⟩⟩
noncomputable def C_edwards25519_Point_Set:Cx:=mkC [] []
noncomputable def s_edwards25519_Point_Set:FSum:=i_edwards25519_Point_Set.sumP C_edwards25519_Point_Set
theorem ok_edwards25519_Point_Set:FEOk Tryz.prog GB GC 148 (.one s_edwards25519_Point_Set):=FnI.finP hG .nil .nil Tryz.func148 rfl rfl rfl (.inl rfl) (by kernel_rfl)
noncomputable def i_edwards25519_affineLookupTable_FromP3:FnI:=⟨6000,bodyOf Tryz.f183,Tryz.f183.ntmps,Tryz.f183.results.toList,[],⟨[.mem (List.replicate 120 .u64) 4 true,.mem (List.replicate 20 .u64) 5 false],false,fun _=>True,[(0,List.replicate 120 .u64,z1)],[],[]⟩⟩
noncomputable def C_edwards25519_affineLookupTable_FromP3:Cx:=mkC [(136,.one s_edwards25519_Point_fromP1xP1),(141,.one s_edwards25519_projP1xP1_AddAffine),(207,.one s_edwards25519_affineCached_FromP3)] []
noncomputable def s_edwards25519_affineLookupTable_FromP3:FSum:=i_edwards25519_affineLookupTable_FromP3.sumP C_edwards25519_affineLookupTable_FromP3
theorem ok_edwards25519_affineLookupTable_FromP3:FEOk Tryz.prog GB GC 183 (.one s_edwards25519_affineLookupTable_FromP3):=FnI.finP hG (.cons (k:=136) rfl (ok_edwards25519_Point_fromP1xP1 hG) Tryz.call136 (FnI.lenP _ _) (.cons (k:=141) rfl (ok_edwards25519_projP1xP1_AddAffine hG) Tryz.call141 (FnI.lenP _ _) (.cons (k:=207) rfl (ok_edwards25519_affineCached_FromP3 hG) Tryz.call207 (FnI.lenP _ _) .nil))) .nil Tryz.func183 rfl rfl rfl (.inl rfl) (by kernel_rfl)
noncomputable def i_edwards25519_affineLookupTable_SelectInto:FnI:=⟨6000,bodyOf Tryz.f150,Tryz.f150.ntmps,Tryz.f150.results.toList,[],⟨[.mem (List.replicate 120 .u64) 4 false,.mem (List.replicate 15 .u64) 5 true,.int .i8],false,fun _=>True,[(1,List.replicate 15 .u64,z1)],[],[]⟩⟩
noncomputable def C_edwards25519_affineLookupTable_SelectInto:Cx:=mkC [(185,.one s_edwards25519_affineCached_Zero),(187,.one s_edwards25519_affineCached_Select),(188,.one s_edwards25519_affineCached_CondNeg)] [(186,ilF Tryz.f186)]
noncomputable def s_edwards25519_affineLookupTable_SelectInto:FSum:=i_edwards25519_affineLookupTable_SelectInto.sumP C_edwards25519_affineLookupTable_SelectInto
theorem ok_edwards25519_affineLookupTable_SelectInto:FEOk Tryz.prog GB GC 150 (.one s_edwards25519_affineLookupTable_SelectInto):=FnI.finP hG (.cons (k:=185) rfl (ok_edwards25519_affineCached_Zero hG) Tryz.call185 (FnI.lenP _ _) (.cons (k:=187) rfl (ok_edwards25519_affineCached_Select hG) Tryz.call187 (FnI.lenP _ _) (.cons (k:=188) rfl (ok_edwards25519_affineCached_CondNeg hG) Tryz.call188 (FnI.lenP _ _) .nil))) (.cons Tryz.func186 rfl Tryz.call186 .nil) Tryz.func150 rfl rfl rfl (.inl rfl) (by kernel_rfl)
noncomputable def i_edwards25519_Point_Add:FnI:=⟨6000,bodyOf Tryz.f178,Tryz.f178.ntmps,Tryz.f178.results.toList,[],⟨[.mem (List.replicate 20 .u64) 98 true,.mem (List.replicate 20 .u64) 98 false,.mem (List.replicate 20 .u64) 98 false],false,fun _=>True,[(0,(List.replicate 20 .u64),z1)],[],[.ptrP 0]⟩⟩
noncomputable def C_edwards25519_Point_Add:Cx:=mkC [(136,.one s_edwards25519_Point_fromP1xP1),(138,.one s_edwards25519_projP1xP1_Add),(177,.one s_edwards25519_projCached_FromP3)] [(130,ilF Tryz.f130)]
noncomputable def s_edwards25519_Point_Add:FSum:=i_edwards25519_Point_Add.sumP C_edwards25519_Point_Add
theorem ok_edwards25519_Point_Add:FEOk Tryz.prog GB GC 178 (.one s_edwards25519_Point_Add):=FnI.finP hG (.cons (k:=136) rfl (ok_edwards25519_Point_fromP1xP1 hG) Tryz.call136 (FnI.lenP _ _) (.cons (k:=138) rfl (ok_edwards25519_projP1xP1_Add hG) Tryz.call138 (FnI.lenP _ _) (.cons (k:=177) rfl (ok_edwards25519_projCached_FromP3 hG) Tryz.call177 (FnI.lenP _ _) .nil))) (.cons Tryz.func130 rfl Tryz.call130 .nil) Tryz.func178 rfl rfl rfl (.inl rfl) (by kernel_rfl)
noncomputable def i_edwards25519_Point_Bytes:FnI:=⟨6000,bodyOf Tryz.f104,Tryz.f104.ntmps,Tryz.f104.results.toList,[],⟨[.mem (List.replicate 20 .u64) 1 false],false,fun _=>True,[],[(List.replicate 32 .u8,z1)],[.slF 0 32 32]⟩⟩
noncomputable def C_edwards25519_Point_Bytes:Cx:=mkC [(115,.one s_field_Element_Multiply),(180,.one s_field_Element_Invert),(200,.one s_field_Element_Bytes),(182,.one s_field_Element_IsNegative)] [(145,ilF Tryz.f145),(130,ilF Tryz.f130),(181,ilF Tryz.f181)]
noncomputable def s_edwards25519_Point_Bytes:FSum:=i_edwards25519_Point_Bytes.sumP C_edwards25519_Point_Bytes
theorem ok_edwards25519_Point_Bytes:FEOk Tryz.prog GB GC 104 (.one s_edwards25519_Point_Bytes):=FnI.finP hG (.cons (k:=115) rfl (ok_field_Element_Multiply hG) Tryz.call115 (FnI.len _ _) (.cons (k:=180) rfl (ok_field_Element_Invert hG) Tryz.call180 (FnI.lenP _ _) (.cons (k:=200) rfl (ok_field_Element_Bytes hG) Tryz.call200 (FnI.len _ _) (.cons (k:=182) rfl (ok_field_Element_IsNegative hG) Tryz.call182 (FnI.len _ _) .nil)))) (.cons Tryz.func145 rfl Tryz.call145 (.cons Tryz.func130 rfl Tryz.call130 (.cons Tryz.func181 rfl Tryz.call181 .nil))) Tryz.func104 rfl rfl rfl (.inl rfl) (by kernel_rfl)
end
end Go.Proofs.YtloibefkijfdlaaGreatDoor

namespace Go.Proofs.YtloibefkijfdlaaGreatDoor
open Go
section
variable{GB:Nat}{GC:Nat→Nat→Option Value}{ad:Nat→Nat×Nat}(hG:GOk GB GC ad)
include hG
noncomputable def i_edwards25519_fiatScalarCmovznzU64:FnI:=⟨6000,bodyOf Tryz.f174,Tryz.f174.ntmps,Tryz.f174.results.toList,[],⟨[.mem ([.u64]) 51 true,.int .u64,.int .u64,.int .u64],false,fun _=>True,[(0,([.u64]),z1)],[],[]⟩⟩
noncomputable def C_edwards25519_fiatScalarCmovznzU64:Cx:=mkC [] []
noncomputable def s_edwards25519_fiatScalarCmovznzU64:FSum:=i_edwards25519_fiatScalarCmovznzU64.sum C_edwards25519_fiatScalarCmovznzU64
theorem ok_edwards25519_fiatScalarCmovznzU64:FEOk Tryz.prog GB GC 174 (.one s_edwards25519_fiatScalarCmovznzU64):=FnI.fin hG .nil .nil Tryz.func174 rfl rfl rfl (.inl rfl) (by kernel_rfl)
noncomputable def i_edwards25519_fiatScalarToMontgomery:FnI:=⟨6000,bodyOf Tryz.f129,Tryz.f129.ntmps,Tryz.f129.results.toList,[],⟨[.mem (List.replicate 4 .u64) 1 true,.mem (List.replicate 4 .u64) 1 false],false,fun _=>True,[(0,List.replicate 4 .u64,z1)],[],[]⟩⟩
noncomputable def C_edwards25519_fiatScalarToMontgomery:Cx:=mkC [(172,.one s_bits_Mul64),(174,.one s_edwards25519_fiatScalarCmovznzU64)] []
noncomputable def s_edwards25519_fiatScalarToMontgomery:FSum:=i_edwards25519_fiatScalarToMontgomery.sum C_edwards25519_fiatScalarToMontgomery
theorem ok_edwards25519_fiatScalarToMontgomery:FEOk Tryz.prog GB GC 129 (.one s_edwards25519_fiatScalarToMontgomery):=FnI.fin hG (.cons (k:=172) rfl (ok_bits_Mul64 hG) Tryz.call172 (FnI.len _ _) (.cons (k:=174) rfl (ok_edwards25519_fiatScalarCmovznzU64 hG) Tryz.call174 (FnI.len _ _) .nil)) .nil Tryz.func129 rfl rfl rfl (.inl rfl) (by kernel_rfl)
noncomputable def i_edwards25519_fiatScalarFromBytes:FnI:=⟨6000,bodyOf Tryz.f128,Tryz.f128.ntmps,Tryz.f128.results.toList,[],⟨[.mem (List.replicate 4 .u64) 80 true,.mem (List.replicate 32 .u8) 49 false],false,fun _=>True,[(0,(List.replicate 4 .u64),z1)],[],[]⟩⟩
noncomputable def C_edwards25519_fiatScalarFromBytes:Cx:=mkC [] []
noncomputable def s_edwards25519_fiatScalarFromBytes:FSum:=i_edwards25519_fiatScalarFromBytes.sum C_edwards25519_fiatScalarFromBytes
theorem ok_edwards25519_fiatScalarFromBytes:FEOk Tryz.prog GB GC 128 (.one s_edwards25519_fiatScalarFromBytes):=FnI.fin hG .nil .nil Tryz.func128 rfl rfl rfl (.inl rfl) (by kernel_rfl)
noncomputable def i_edwards25519_fiatScalarAdd:FnI:=⟨6000,bodyOf Tryz.f168,Tryz.f168.ntmps,Tryz.f168.results.toList,[],⟨[.mem (List.replicate 4 .u64) 81 true,.mem (List.replicate 4 .u64) 81 false,.mem (List.replicate 4 .u64) 81 false],false,fun _=>True,[(0,(List.replicate 4 .u64),z1)],[],[]⟩⟩
noncomputable def C_edwards25519_fiatScalarAdd:Cx:=mkC [(174,.one s_edwards25519_fiatScalarCmovznzU64)] []
noncomputable def s_edwards25519_fiatScalarAdd:FSum:=i_edwards25519_fiatScalarAdd.sum C_edwards25519_fiatScalarAdd
theorem ok_edwards25519_fiatScalarAdd:FEOk Tryz.prog GB GC 168 (.one s_edwards25519_fiatScalarAdd):=FnI.fin hG (.cons (k:=174) rfl (ok_edwards25519_fiatScalarCmovznzU64 hG) Tryz.call174 (FnI.len _ _) .nil) .nil Tryz.func168 rfl rfl rfl (.inl rfl) (by kernel_rfl)
noncomputable def i_edwards25519_fiatScalarMul:FnI:=⟨6000,bodyOf Tryz.f169,Tryz.f169.ntmps,Tryz.f169.results.toList,[],⟨[.mem (List.replicate 4 .u64) 81 true,.mem (List.replicate 4 .u64) 81 false,.mem (List.replicate 4 .u64) 81 false],false,fun _=>True,[(0,(List.replicate 4 .u64),z1)],[],[]⟩⟩
noncomputable def C_edwards25519_fiatScalarMul:Cx:=mkC [(172,.one s_bits_Mul64),(174,.one s_edwards25519_fiatScalarCmovznzU64)] []
noncomputable def s_edwards25519_fiatScalarMul:FSum:=i_edwards25519_fiatScalarMul.sum C_edwards25519_fiatScalarMul
theorem ok_edwards25519_fiatScalarMul:FEOk Tryz.prog GB GC 169 (.one s_edwards25519_fiatScalarMul):=FnI.fin hG (.cons (k:=172) rfl (ok_bits_Mul64 hG) Tryz.call172 (FnI.len _ _) (.cons (k:=174) rfl (ok_edwards25519_fiatScalarCmovznzU64 hG) Tryz.call174 (FnI.len _ _) .nil)) .nil Tryz.func169 rfl rfl rfl (.inl rfl) (by kernel_rfl)
noncomputable def i_edwards25519_fiatScalarFromMontgomery:FnI:=⟨6000,bodyOf Tryz.f189,Tryz.f189.ntmps,Tryz.f189.results.toList,[],⟨[.mem (List.replicate 4 .u64) 234 true,.mem (List.replicate 4 .u64) 81 false],false,fun _=>True,[(0,(List.replicate 4 .u64),z1)],[],[]⟩⟩
noncomputable def C_edwards25519_fiatScalarFromMontgomery:Cx:=mkC [(172,.one s_bits_Mul64),(174,.one s_edwards25519_fiatScalarCmovznzU64)] []
noncomputable def s_edwards25519_fiatScalarFromMontgomery:FSum:=i_edwards25519_fiatScalarFromMontgomery.sum C_edwards25519_fiatScalarFromMontgomery
theorem ok_edwards25519_fiatScalarFromMontgomery:FEOk Tryz.prog GB GC 189 (.one s_edwards25519_fiatScalarFromMontgomery):=FnI.fin hG (.cons (k:=172) rfl (ok_bits_Mul64 hG) Tryz.call172 (FnI.len _ _) (.cons (k:=174) rfl (ok_edwards25519_fiatScalarCmovznzU64 hG) Tryz.call174 (FnI.len _ _) .nil)) .nil Tryz.func189 rfl rfl rfl (.inl rfl) (by kernel_rfl)
noncomputable def i_edwards25519_fiatScalarToBytes:FnI:=⟨6000,bodyOf Tryz.f190,Tryz.f190.ntmps,Tryz.f190.results.toList,[],⟨[.mem (List.replicate 32 .u8) 49 true,.mem (List.replicate 4 .u64) 80 false],false,fun _=>True,[(0,(List.replicate 32 .u8),z1)],[],[]⟩⟩
noncomputable def C_edwards25519_fiatScalarToBytes:Cx:=mkC [] []
noncomputable def s_edwards25519_fiatScalarToBytes:FSum:=i_edwards25519_fiatScalarToBytes.sum C_edwards25519_fiatScalarToBytes
theorem ok_edwards25519_fiatScalarToBytes:FEOk Tryz.prog GB GC 190 (.one s_edwards25519_fiatScalarToBytes):=FnI.fin hG .nil .nil Tryz.func190 rfl rfl rfl (.inl rfl) (by kernel_rfl)
noncomputable def i_edwards25519_Scalar_Add:FnI:=⟨6000,bodyOf Tryz.f125,Tryz.f125.ntmps,Tryz.f125.results.toList,[],⟨[.mem (List.replicate 4 .u64) 83 true,.mem (List.replicate 4 .u64) 83 false,.mem (List.replicate 4 .u64) 83 false],false,fun _=>True,[(0,(List.replicate 4 .u64),z1)],[],[.ptrP 0]⟩⟩
noncomputable def C_edwards25519_Scalar_Add:Cx:=mkC [(168,.one s_edwards25519_fiatScalarAdd)] []
noncomputable def s_edwards25519_Scalar_Add:FSum:=i_edwards25519_Scalar_Add.sum C_edwards25519_Scalar_Add
theorem ok_edwards25519_Scalar_Add:FEOk Tryz.prog GB GC 125 (.one s_edwards25519_Scalar_Add):=FnI.fin hG (.cons (k:=168) rfl (ok_edwards25519_fiatScalarAdd hG) Tryz.call168 (FnI.len _ _) .nil) .nil Tryz.func125 rfl rfl rfl (.inl rfl) (by kernel_rfl)
noncomputable def i_edwards25519_Scalar_Multiply:FnI:=⟨6000,bodyOf Tryz.f126,Tryz.f126.ntmps,Tryz.f126.results.toList,[],⟨[.mem (List.replicate 4 .u64) 83 true,.mem (List.replicate 4 .u64) 83 false,.mem (List.replicate 4 .u64) 83 false],false,fun _=>True,[(0,(List.replicate 4 .u64),z1)],[],[.ptrP 0]⟩⟩
noncomputable def C_edwards25519_Scalar_Multiply:Cx:=mkC [(169,.one s_edwards25519_fiatScalarMul)] []
noncomputable def s_edwards25519_Scalar_Multiply:FSum:=i_edwards25519_Scalar_Multiply.sum C_edwards25519_Scalar_Multiply
theorem ok_edwards25519_Scalar_Multiply:FEOk Tryz.prog GB GC 126 (.one s_edwards25519_Scalar_Multiply):=FnI.fin hG (.cons (k:=169) rfl (ok_edwards25519_fiatScalarMul hG) Tryz.call169 (FnI.len _ _) .nil) .nil Tryz.func126 rfl rfl rfl (.inl rfl) (by kernel_rfl)
noncomputable def i_edwards25519_Scalar_setShortBytes:FnI:=⟨6000,bodyOf Tryz.f124,Tryz.f124.ntmps,Tryz.f124.results.toList,[],⟨[.mem (List.replicate 4 .u64) 1 true,.sl (List.replicate 21 .u8) 0 false],false,fun _=>True,[(0,List.replicate 4 .u64,z1)],[],[.ptrP 0]⟩⟩
noncomputable def C_edwards25519_Scalar_setShortBytes:Cx:=mkC [(128,.one s_edwards25519_fiatScalarFromBytes),(129,.one s_edwards25519_fiatScalarToMontgomery)] []
noncomputable def s_edwards25519_Scalar_setShortBytes:FSum:=i_edwards25519_Scalar_setShortBytes.sumP C_edwards25519_Scalar_setShortBytes
theorem ok_edwards25519_Scalar_setShortBytes:FEOk Tryz.prog GB GC 124 (.one s_edwards25519_Scalar_setShortBytes):=FnI.finP hG (.cons (k:=128) rfl (ok_edwards25519_fiatScalarFromBytes hG) Tryz.call128 (FnI.len _ _) (.cons (k:=129) rfl (ok_edwards25519_fiatScalarToMontgomery hG) Tryz.call129 (FnI.len _ _) .nil)) .nil Tryz.func124 rfl rfl rfl (.inl rfl) (by kernel_rfl)
noncomputable def i_edwards25519_Scalar_setShortBytes_v1:FnI:=⟨6000,bodyOf Tryz.f124,Tryz.f124.ntmps,Tryz.f124.results.toList,[],⟨[.mem (List.replicate 4 .u64) 1 true,.sl (List.replicate 22 .u8) 0 false],false,fun _=>True,[(0,List.replicate 4 .u64,z1)],[],[.ptrP 0]⟩⟩
noncomputable def C_edwards25519_Scalar_setShortBytes_v1:Cx:=mkC [(128,.one s_edwards25519_fiatScalarFromBytes),(129,.one s_edwards25519_fiatScalarToMontgomery)] []
noncomputable def s_edwards25519_Scalar_setShortBytes_v1:FSum:=i_edwards25519_Scalar_setShortBytes_v1.sumP C_edwards25519_Scalar_setShortBytes_v1
theorem ok_edwards25519_Scalar_setShortBytes_v1:FEOk Tryz.prog GB GC 124 (.one s_edwards25519_Scalar_setShortBytes_v1):=FnI.finP hG (.cons (k:=128) rfl (ok_edwards25519_fiatScalarFromBytes hG) Tryz.call128 (FnI.len _ _) (.cons (k:=129) rfl (ok_edwards25519_fiatScalarToMontgomery hG) Tryz.call129 (FnI.len _ _) .nil)) .nil Tryz.func124 rfl rfl rfl (.inl rfl) (by kernel_rfl)
noncomputable def i_edwards25519_Scalar_SetUniformBytes:FnI:=⟨6000,bodyOf Tryz.f99,Tryz.f99.ntmps,Tryz.f99.results.toList,allG,⟨[.mem (List.replicate 4 .u64) 1 true,.sl (List.replicate 64 .u8) 0 false],false,fun _=>True,[(0,List.replicate 4 .u64,z1)],[],[.ptrP 0,.nilI]⟩⟩
noncomputable def C_edwards25519_Scalar_SetUniformBytes:Cx:=mkC [(124,.one s_edwards25519_Scalar_setShortBytes),(10124,.one s_edwards25519_Scalar_setShortBytes_v1),(125,.one s_edwards25519_Scalar_Add),(126,.one s_edwards25519_Scalar_Multiply)] []
noncomputable def s_edwards25519_Scalar_SetUniformBytes:FSum:=i_edwards25519_Scalar_SetUniformBytes.sumP C_edwards25519_Scalar_SetUniformBytes
theorem ok_edwards25519_Scalar_SetUniformBytes:FEOk Tryz.prog GB GC 99 (.one s_edwards25519_Scalar_SetUniformBytes):=FnI.finP hG (.cons (k:=124) rfl (ok_edwards25519_Scalar_setShortBytes hG) Tryz.call124 (FnI.lenP _ _) (.cons (k:=10124) rfl (ok_edwards25519_Scalar_setShortBytes_v1 hG) Tryz.call124 (FnI.lenP _ _) (.cons (k:=125) rfl (ok_edwards25519_Scalar_Add hG) Tryz.call125 (FnI.len _ _) (.cons (k:=126) rfl (ok_edwards25519_Scalar_Multiply hG) Tryz.call126 (FnI.len _ _) .nil)))) .nil Tryz.func99 rfl rfl rfl (.inr rfl) (by kernel_rfl)
noncomputable def i_edwards25519_Scalar_SetBytesWithClamping:FnI:=⟨6000,bodyOf Tryz.f95,Tryz.f95.ntmps,Tryz.f95.results.toList,[],⟨[.mem (List.replicate 4 .u64) 1 true,.sl (List.replicate 32 .u8) 0 false],false,fun _=>True,[(0,List.replicate 4 .u64,z1)],[],[.ptrP 0,.nilI]⟩⟩
noncomputable def C_edwards25519_Scalar_SetBytesWithClamping:Cx:=mkC [(99,.one s_edwards25519_Scalar_SetUniformBytes)] []
noncomputable def s_edwards25519_Scalar_SetBytesWithClamping:FSum:=i_edwards25519_Scalar_SetBytesWithClamping.sumP C_edwards25519_Scalar_SetBytesWithClamping
theorem ok_edwards25519_Scalar_SetBytesWithClamping:FEOk Tryz.prog GB GC 95 (.one s_edwards25519_Scalar_SetBytesWithClamping):=FnI.finP hG (.cons (k:=99) rfl (ok_edwards25519_Scalar_SetUniformBytes hG) Tryz.call99 (FnI.lenP _ _) .nil) .nil Tryz.func95 rfl rfl rfl (.inl rfl) (by kernel_rfl)
noncomputable def i_edwards25519_Scalar_Bytes:FnI:=⟨6000,bodyOf Tryz.f107,Tryz.f107.ntmps,Tryz.f107.results.toList,[],⟨[.mem (List.replicate 4 .u64) 1 false],false,fun _=>True,[],[(List.replicate 32 .u8,z1)],[.slF 0 32 32]⟩⟩
noncomputable def C_edwards25519_Scalar_Bytes:Cx:=mkC [(189,.one s_edwards25519_fiatScalarFromMontgomery),(190,.one s_edwards25519_fiatScalarToBytes)] [(153,ilF Tryz.f153)]
noncomputable def s_edwards25519_Scalar_Bytes:FSum:=i_edwards25519_Scalar_Bytes.sumP C_edwards25519_Scalar_Bytes
theorem ok_edwards25519_Scalar_Bytes:FEOk Tryz.prog GB GC 107 (.one s_edwards25519_Scalar_Bytes):=FnI.finP hG (.cons (k:=189) rfl (ok_edwards25519_fiatScalarFromMontgomery hG) Tryz.call189 (FnI.len _ _) (.cons (k:=190) rfl (ok_edwards25519_fiatScalarToBytes hG) Tryz.call190 (FnI.len _ _) .nil)) (.cons Tryz.func153 rfl Tryz.call153 .nil) Tryz.func107 rfl rfl rfl (.inl rfl) (by kernel_rfl)
noncomputable def i_edwards25519_Scalar_signedRadix16:FnI:=⟨6000,bodyOf Tryz.f147,Tryz.f147.ntmps,Tryz.f147.results.toList,[],⟨[.mem (List.replicate 4 .u64) 83 false],false,fun _=>True,[],[],[.agg (List.replicate 64 .i8) z1]⟩⟩
noncomputable def C_edwards25519_Scalar_signedRadix16:Cx:=mkC [(107,.one s_edwards25519_Scalar_Bytes)] []
noncomputable def s_edwards25519_Scalar_signedRadix16:FSum:=i_edwards25519_Scalar_signedRadix16.sumP C_edwards25519_Scalar_signedRadix16
theorem ok_edwards25519_Scalar_signedRadix16:FEOk Tryz.prog GB GC 147 (.one s_edwards25519_Scalar_signedRadix16):=FnI.finP hG (.cons (k:=107) rfl (ok_edwards25519_Scalar_Bytes hG) Tryz.call107 (FnI.lenP _ _) .nil) .nil Tryz.func147 rfl rfl rfl (.inl rfl) (by kernel_rfl)
end
end Go.Proofs.YtloibefkijfdlaaGreatDoor
