/- Contracts that the trees give: the field. -/
import Derived.Test.YtloibefkijfdlaaGreatDoorDa
namespace Go.Proofs.YtloibefkijfdlaaGreatDoor
noncomputable section
open Go
section
variable{GB:Nat}{GC:Nat->Nat->Option Value}{ad:Nat->Nat×Nat}(hG:Gw GB GC ad)
include hG
def NR:Ad:=⟨6000,Ak Tryz.f172,Tryz.f172.ntmps,Tryz.f172.results.toList,[],⟨[.int .u64,.int .u64],false,λ_=>True,[],[],[.int .u64 z0,.int .u64 z0]⟩⟩
def NM:Cx:=Ht [] []
def Ef:BH:=NR.sum NM
theorem JI:Ck Tryz.prog GB GC 172 (.one Ef):=Ad.fin hG .nil .nil Tryz.func172 rfl rfl rfl (.inl rfl) (by kernel_rfl)
def Qa:Ad:=⟨6000,Ak Tryz.f197,Tryz.f197.ntmps,Tryz.f197.results.toList,[],⟨[.int .u64],false,λ_=>True,[],[],[.int .u64 z0]⟩⟩
def QX:Cx:=Ht [] []
def EG:BH:=Qa.sum QX
theorem Ib:Ck Tryz.prog GB GC 197 (.one EG):=Ad.fin hG .nil .nil Tryz.func197 rfl rfl rfl (.inl rfl) (by kernel_rfl)
def Ld:Ad:=⟨6000,Ak Tryz.f121,Tryz.f121.ntmps,Tryz.f121.results.toList,[],⟨[.mem (List.replicate 5 .u64) 96 true,.mem (List.replicate 5 .u64) 96 false],false,λ_=>True,[(0,(List.replicate 5 .u64),z1)],[],[.cy 0]⟩⟩
def Lb:Cx:=Ht [] []
def GR:BH:=Ld.sum Lb
theorem G9:Ck Tryz.prog GB GC 121 (.one GR):=Ad.fin hG .nil .nil Tryz.func121 rfl rfl rfl (.inl rfl) (by kernel_rfl)
def K4:Ad:=⟨6000,Ak Tryz.f179,Tryz.f179.ntmps,Tryz.f179.results.toList,SA,⟨[.mem (List.replicate 5 .u64) 96 true],false,λ_=>True,[(0,(List.replicate 5 .u64),z1)],[],[.cy 0]⟩⟩
def Ko:Cx:=Ht [] []
def I7:BH:=K4.sum Ko
theorem Nh:Ck Tryz.prog GB GC 179 (.one I7):=Ad.fin hG .nil .nil Tryz.func179 rfl rfl rfl (.inr rfl) (by kernel_rfl)
def LW:Ad:=⟨6000,Ak Tryz.f122,Tryz.f122.ntmps,Tryz.f122.results.toList,SA,⟨[.mem (List.replicate 5 .u64) 96 true],false,λ_=>True,[(0,(List.replicate 5 .u64),z1)],[],[.cy 0]⟩⟩
def LX:Cx:=Ht [] []
def Eh:BH:=LW.sum LX
theorem FR:Ck Tryz.prog GB GC 122 (.one Eh):=Ad.fin hG .nil .nil Tryz.func122 rfl rfl rfl (.inr rfl) (by kernel_rfl)
def LY:Ad:=⟨6000,Ak Tryz.f117,Tryz.f117.ntmps,Tryz.f117.results.toList,[],⟨[.mem (List.replicate 5 .u64) 96 true,.mem (List.replicate 5 .u64) 96 false,.mem (List.replicate 5 .u64) 96 false],false,λ_=>True,[(0,(List.replicate 5 .u64),z1)],[],[.cy 0]⟩⟩
def Lf:Cx:=Ht [(197,.one EG)] [(158,MU Tryz.f158)]
def Cn:BH:=LY.sum Lf
theorem Cs:Ck Tryz.prog GB GC 117 (.one Cn):=Ad.fin hG (.cons (k:=197) rfl (Ib hG) Tryz.call197 (Ad.len _ _) .nil) (.cons Tryz.func158 rfl Tryz.call158 .nil) Tryz.func117 rfl rfl rfl (.inl rfl) (by kernel_rfl)
def EF:Ad:=⟨6000,Ak Tryz.f113,Tryz.f113.ntmps,Tryz.f113.results.toList,[],⟨[.mem (List.replicate 5 .u64) 96 true,.mem (List.replicate 5 .u64) 96 false,.mem (List.replicate 5 .u64) 96 false],false,λ_=>True,[(0,(List.replicate 5 .u64),z1)],[],[.cy 0]⟩⟩
def EE:Cx:=Ht [(197,.one EG)] [(158,MU Tryz.f158)]
def BD:BH:=EF.sum EE
theorem Bg:Ck Tryz.prog GB GC 113 (.one BD):=Ad.fin hG (.cons (k:=197) rfl (Ib hG) Tryz.call197 (Ad.len _ _) .nil) (.cons Tryz.func158 rfl Tryz.call158 .nil) Tryz.func113 rfl rfl rfl (.inl rfl) (by kernel_rfl)
def Jv:Ad:=⟨6000,Ak Tryz.f119,Tryz.f119.ntmps,Tryz.f119.results.toList,SA,⟨[.mem (List.replicate 5 .u64) 96 true,.mem (List.replicate 5 .u64) 96 false],false,λ_=>True,[(0,(List.replicate 5 .u64),z1)],[],[.cy 0]⟩⟩
def Jt:Cx:=Ht [(113,.one BD)] []
def EB:BH:=Jv.sum Jt
theorem EP:Ck Tryz.prog GB GC 119 (.one EB):=Ad.fin hG (.cons (k:=113) rfl (Bg hG) Tryz.call113 (Ad.len _ _) .nil) .nil Tryz.func119 rfl rfl rfl (.inr rfl) (by kernel_rfl)
def JG:Ad:=⟨6000,Ak Tryz.f115,Tryz.f115.ntmps,Tryz.f115.results.toList,[],⟨[.mem (List.replicate 5 .u64) 96 true,.mem (List.replicate 5 .u64) 96 false,.mem (List.replicate 5 .u64) 96 false],false,λ_=>True,[(0,(List.replicate 5 .u64),z1)],[],[.cy 0]⟩⟩
def JN:Cx:=Ht [(172,.one Ef),(197,.one EG)] [(159,MU Tryz.f159),(198,MU Tryz.f198),(192,MU Tryz.f192),(194,MU Tryz.f194),(195,MU Tryz.f195),(196,MU Tryz.f196)]
def Ao:BH:=JG.sum JN
theorem Ap:Ck Tryz.prog GB GC 115 (.one Ao):=Ad.fin hG (.cons (k:=172) rfl (JI hG) Tryz.call172 (Ad.len _ _) (.cons (k:=197) rfl (Ib hG) Tryz.call197 (Ad.len _ _) .nil)) (.cons Tryz.func159 rfl Tryz.call159 (.cons Tryz.func198 rfl Tryz.call198 (.cons Tryz.func192 rfl Tryz.call192 (.cons Tryz.func194 rfl Tryz.call194 (.cons Tryz.func195 rfl Tryz.call195 (.cons Tryz.func196 rfl Tryz.call196 .nil)))))) Tryz.func115 rfl rfl rfl (.inl rfl) (by kernel_rfl)
def Jp:Ad:=⟨6000,Ak Tryz.f112,Tryz.f112.ntmps,Tryz.f112.results.toList,[],⟨[.mem (List.replicate 5 .u64) 96 true,.mem (List.replicate 5 .u64) 96 false],false,λ_=>True,[(0,(List.replicate 5 .u64),z1)],[],[.cy 0]⟩⟩
def Ju:Cx:=Ht [(172,.one Ef),(197,.one EG)] [(157,MU Tryz.f157),(192,MU Tryz.f192),(193,MU Tryz.f193),(194,MU Tryz.f194),(195,MU Tryz.f195),(196,MU Tryz.f196)]
def DD:BH:=Jp.sum Ju
theorem DV:Ck Tryz.prog GB GC 112 (.one DD):=Ad.fin hG (.cons (k:=172) rfl (JI hG) Tryz.call172 (Ad.len _ _) (.cons (k:=197) rfl (Ib hG) Tryz.call197 (Ad.len _ _) .nil)) (.cons Tryz.func157 rfl Tryz.call157 (.cons Tryz.func192 rfl Tryz.call192 (.cons Tryz.func193 rfl Tryz.call193 (.cons Tryz.func194 rfl Tryz.call194 (.cons Tryz.func195 rfl Tryz.call195 (.cons Tryz.func196 rfl Tryz.call196 .nil)))))) Tryz.func112 rfl rfl rfl (.inl rfl) (by kernel_rfl)
def Jo:Ad:=⟨6000,Ak Tryz.f120,Tryz.f120.ntmps,Tryz.f120.results.toList,[],⟨[.mem (List.replicate 5 .u64) 96 true,.mem (List.replicate 5 .u64) 96 false,.mem (List.replicate 5 .u64) 96 false,.int .i64],false,λ_=>True,[(0,(List.replicate 5 .u64),z1)],[],[.cy 0]⟩⟩
def J8:Cx:=Ht [] [(163,MU Tryz.f163)]
def Df:BH:=Jo.sum J8
theorem Dq:Ck Tryz.prog GB GC 120 (.one Df):=Ad.fin hG .nil (.cons Tryz.func163 rfl Tryz.call163 .nil) Tryz.func120 rfl rfl rfl (.inl rfl) (by kernel_rfl)
def Hd:Ad:=⟨6000,Ak Tryz.f210,Tryz.f210.ntmps,Tryz.f210.results.toList,[],⟨[.mem (List.replicate 5 .u64) 0 true,.mem (List.replicate 5 .u64) 0 true,.int .i64],false,λ_=>True,[(0,List.replicate 5 .u64,z1),(1,List.replicate 5 .u64,z1)],[],[]⟩⟩
def G7:Cx:=Ht [] [(163,MU Tryz.f163)]
def Kr:BH:=Hd.sum G7
theorem Rx:Ck Tryz.prog GB GC 210 (.one Kr):=Ad.fin hG .nil (.cons Tryz.func163 rfl Tryz.call163 .nil) Tryz.func210 rfl rfl rfl (.inl rfl) (by kernel_rfl)
def DU:Ad:=⟨6000,Ak Tryz.f200,Tryz.f200.ntmps,Tryz.f200.results.toList,[],⟨[.mem (List.replicate 5 .u64) 1 false],false,λ_=>True,[],[(List.replicate 32 .u8,z1)],[.ya 0 32 32]⟩⟩
def DT:Cx:=Ht [(197,.one EG)] [(212,MU Tryz.f212),(215,MU Tryz.f215),(158,MU Tryz.f158),(216,MU Tryz.f216)]
def CE:BH:=DU.sum DT
theorem J3:Ck Tryz.prog GB GC 200 (.one CE):=Ad.fin hG (.cons (k:=197) rfl (Ib hG) Tryz.call197 (Ad.len _ _) .nil) (.cons Tryz.func212 rfl Tryz.call212 (.cons Tryz.func215 rfl Tryz.call215 (.cons Tryz.func158 rfl Tryz.call158 (.cons Tryz.func216 rfl Tryz.call216 .nil)))) Tryz.func200 rfl rfl rfl (.inl rfl) (by kernel_rfl)
def DL:Ad:=⟨6000,Ak Tryz.f111,Tryz.f111.ntmps,Tryz.f111.results.toList,[],⟨[.mem (List.replicate 5 .u64) 1 true,.sl (List.replicate 32 .u8) 0 false],false,λ_=>True,[(0,List.replicate 5 .u64,z1)],[],[.cy 0,.eg]⟩⟩
def DK:Cx:=Ht [] [(156,MU Tryz.f156)]
def DJ:BH:=DL.sum DK
theorem Gn:Ck Tryz.prog GB GC 111 (.one DJ):=Ad.fin hG .nil (.cons Tryz.func156 rfl Tryz.call156 .nil) Tryz.func111 rfl rfl rfl (.inl rfl) (by kernel_rfl)
def Dy:Ad:=⟨6000,Ak Tryz.f211,Tryz.f211.ntmps,Tryz.f211.results.toList,[],⟨[.mem (List.replicate 5 .u64) 3 true,.mem (List.replicate 5 .u64) 3 false,.int .i64],false,λ_=>True,[(0,List.replicate 5 .u64,z1)],[],[]⟩⟩
def Aw:JJ:=⟨6000,WK 0 (Ak Tryz.f211),Tryz.f211.ntmps,0,[],⟨[.int .u64,.int .u64,.int .u64,.int .u64,.int .u64,.int .i64,.int .i64],true,λ_=>True,[],[],[]⟩,[6,7,8,9,10,46,47],[11,12,13,14,15,16,17,18,19,20,21,22,23,24,25,48,49,50,51,52,53,54,55,56,57,58,59,60,61,62,63,64,65,66,67,68,69,70,71,72,73,74,75,76,77,78,79,80,81,82,83,84,85,86,87,88,89,90,91,92,93,94,95,96,97,98,99,100,101,102,103,104,105,106,107,108,109,110,111,112,113,114,115,116,117,118,119,120,121,122,123,124,125,126,127,128,129,130,131,132,133,134,135,136,137,138,139,140,141,142,143,144,145,146,147,148,149,150,151,152,153,154,155,156,157,158,159,160,161,162,163,164,165,166,167,168,169,170,171,172],(λa=>((a.getD 5 []).getD 0 0-(a.getD 6 []).getD 0 0).toNat+1)⟩
def BA:Cx:=Ht [(172,.one Ef),(197,.one EG)] [(192,MU Tryz.f192),(193,MU Tryz.f193),(194,MU Tryz.f194),(195,MU Tryz.f195),(196,MU Tryz.f196)]
def BZ:Cx:=xC ((1000211,.one (Aw.sum BA (Aw.pre BA))) :: [(172,.one Ef),(197,.one EG)]) [(192,MU Tryz.f192),(193,MU Tryz.f193),(194,MU Tryz.f194),(195,MU Tryz.f195),(196,MU Tryz.f196)] [(Aw.id,⟨1000211,Aw.ps,Aw.ss,Aw.cl,Aw.nt⟩)]
def Ki:BH:=Dy.Hh BZ (λins=>EY BZ.T (Dy.tree BZ) (Ce ins))
omit hG in
theorem SB:Aw.dc BA=true:=by kernel_rfl
theorem Pn:Ck Tryz.prog GB GC 211 (.one Ki):=Ad.ad1 hG (i:=Dy) (l:=Aw) (T:=[(172,.one Ef),(197,.one EG)]) (T':=[(172,.one Ef),(197,.one EG)]) (L:=[(192,MU Tryz.f192),(193,MU Tryz.f193),(194,MU Tryz.f194),(195,MU Tryz.f195),(196,MU Tryz.f196)]) (L':=[(192,MU Tryz.f192),(193,MU Tryz.f193),(194,MU Tryz.f194),(195,MU Tryz.f195),(196,MU Tryz.f196)]) (xT:=1000211) (Cb:=BA) (C1:=BZ) (pl:=(Aw.pre BA)) (pre:=(λins=>EY BZ.T (Dy.tree BZ) (Ce ins))) (by decide) rfl rfl (.cons (k:=172) rfl (JI hG) Tryz.call172 (Ad.len _ _) (.cons (k:=197) rfl (Ib hG) Tryz.call197 (Ad.len _ _) .nil)) (.cons Tryz.func192 rfl Tryz.call192 (.cons Tryz.func193 rfl Tryz.call193 (.cons Tryz.func194 rfl Tryz.call194 (.cons Tryz.func195 rfl Tryz.call195 (.cons Tryz.func196 rfl Tryz.call196 .nil))))) (.cons Tryz.func192 rfl Tryz.call192 (.cons Tryz.func193 rfl Tryz.call193 (.cons Tryz.func194 rfl Tryz.call194 (.cons Tryz.func195 rfl Tryz.call195 (.cons Tryz.func196 rfl Tryz.call196 .nil))))) Tryz.func211 rfl rfl rfl (.inl rfl) (.inl rfl) (λ_ _ h=>h) (.cons (k:=172) rfl (JI hG) Tryz.call172 (Ad.len _ _) (.cons (k:=197) rfl (Ib hG) Tryz.call197 (Ad.len _ _) .nil)) SB (by kernel_rfl) (by kernel_rfl) (by kernel_rfl) (λ_ _ h=>h)
def EU:Ad:=⟨6000,Ak Tryz.f182,Tryz.f182.ntmps,Tryz.f182.results.toList,[],⟨[.mem (List.replicate 5 .u64) 96 false],false,λ_=>True,[],[],[.int .i64 z0]⟩⟩
def Dn:Cx:=Ht [(200,.one CE)] []
def EW:BH:=EU.sum Dn
theorem Kg:Ck Tryz.prog GB GC 182 (.one EW):=Ad.fin hG (.cons (k:=200) rfl (J3 hG) Tryz.call200 (Ad.len _ _) .nil) .nil Tryz.func182 rfl rfl rfl (.inl rfl) (by kernel_rfl)
def Ii:Ad:=⟨6000,Ak Tryz.f161,Tryz.f161.ntmps,Tryz.f161.results.toList,[],⟨[.mem (List.replicate 5 .u64) 96 false,.mem (List.replicate 5 .u64) 96 false],false,λ_=>True,[],[],[.int .i64 z0]⟩⟩
def Gq:Cx:=Ht [(200,.one CE)] [(201,MU Tryz.f201)]
def Ih:BH:=Ii.sum Gq
theorem RY:Ck Tryz.prog GB GC 161 (.one Ih):=Ad.fin hG (.cons (k:=200) rfl (J3 hG) Tryz.call200 (Ad.len _ _) .nil) (.cons Tryz.func201 rfl Tryz.call201 .nil) Tryz.func161 rfl rfl rfl (.inl rfl) (by kernel_rfl)
def JK:Ad:=⟨6000,Ak Tryz.f162,Tryz.f162.ntmps,Tryz.f162.results.toList,[],⟨[.mem (List.replicate 5 .u64) 96 true,.mem (List.replicate 5 .u64) 96 false],false,λ_=>True,[(0,(List.replicate 5 .u64),z1)],[],[.cy 0]⟩⟩
def JL:Cx:=Ht [(119,.one EB),(120,.one Df),(182,.one EW)] []
def JP:BH:=JK.sum JL
theorem Py:Ck Tryz.prog GB GC 162 (.one JP):=Ad.fin hG (.cons (k:=119) rfl (EP hG) Tryz.call119 (Ad.len _ _) (.cons (k:=120) rfl (Dq hG) Tryz.call120 (Ad.len _ _) (.cons (k:=182) rfl (Kg hG) Tryz.call182 (Ad.len _ _) .nil))) .nil Tryz.func162 rfl rfl rfl (.inl rfl) (by kernel_rfl)
def J4:Ad:=⟨6000,Ak Tryz.f180,Tryz.f180.ntmps,Tryz.f180.results.toList,[],⟨[.mem (List.replicate 5 .u64) 96 true,.mem (List.replicate 5 .u64) 96 false],false,λ_=>True,[(0,(List.replicate 5 .u64),z1)],[],[.cy 0]⟩⟩
def Jw:Cx:=Ht [(112,.one DD),(115,.one Ao),(211,.one Ki)] [(199,MU Tryz.f199)]
def IP:BH:=J4.cC Jw
theorem Mw:Ck Tryz.prog GB GC 180 (.one IP):=Ad.cU hG (.cons (k:=112) rfl (DV hG) Tryz.call112 (Ad.len _ _) (.cons (k:=115) rfl (Ap hG) Tryz.call115 (Ad.len _ _) (.cons (k:=211) rfl (Pn hG) Tryz.call211 (Ad.aa3 _ _ _) .nil))) (.cons Tryz.func199 rfl Tryz.call199 .nil) Tryz.func180 rfl rfl rfl (.inl rfl) (by kernel_rfl)
def JF:Ad:=⟨6000,Ak Tryz.f160,Tryz.f160.ntmps,Tryz.f160.results.toList,[],⟨[.mem (List.replicate 5 .u64) 96 true,.mem (List.replicate 5 .u64) 96 false],false,λ_=>True,[(0,(List.replicate 5 .u64),z1)],[],[.cy 0]⟩⟩
def JM:Cx:=Ht [(112,.one DD),(115,.one Ao),(211,.one Ki)] [(199,MU Tryz.f199)]
def JH:BH:=JF.cC JM
theorem P6:Ck Tryz.prog GB GC 160 (.one JH):=Ad.cU hG (.cons (k:=112) rfl (DV hG) Tryz.call112 (Ad.len _ _) (.cons (k:=115) rfl (Ap hG) Tryz.call115 (Ad.len _ _) (.cons (k:=211) rfl (Pn hG) Tryz.call211 (Ad.aa3 _ _ _) .nil))) (.cons Tryz.func199 rfl Tryz.call199 .nil) Tryz.func160 rfl rfl rfl (.inl rfl) (by kernel_rfl)
def Cz:Ad:=⟨6000,Ak Tryz.f118,Tryz.f118.ntmps,Tryz.f118.results.toList,SA,⟨[.mem (List.replicate 5 .u64) 96 true,.mem (List.replicate 5 .u64) 96 false,.mem (List.replicate 5 .u64) 96 false],false,λ_=>True,[(0,(List.replicate 5 .u64),z1)],[],[.cy 0,.int .i64 z0]⟩⟩
def Cc:Cx:=Ht [(112,.one DD),(115,.one Ao),(119,.one EB),(120,.one Df),(160,.one JH),(161,.one Ih),(162,.one JP)] []
def D9:BH:=Cz.cC Cc
theorem Ic:Ck Tryz.prog GB GC 118 (.one D9):=Ad.cU hG (.cons (k:=112) rfl (DV hG) Tryz.call112 (Ad.len _ _) (.cons (k:=115) rfl (Ap hG) Tryz.call115 (Ad.len _ _) (.cons (k:=119) rfl (EP hG) Tryz.call119 (Ad.len _ _) (.cons (k:=120) rfl (Dq hG) Tryz.call120 (Ad.len _ _) (.cons (k:=160) rfl (P6 hG) Tryz.call160 (Ad.cJ _ _) (.cons (k:=161) rfl (RY hG) Tryz.call161 (Ad.len _ _) (.cons (k:=162) rfl (Py hG) Tryz.call162 (Ad.len _ _) .nil))))))) .nil Tryz.func118 rfl rfl rfl (.inr rfl) (by kernel_rfl)
def Ky:Ad:=⟨6000,Ak Tryz.f114,Tryz.f114.ntmps,Tryz.f114.results.toList,[],⟨[],false,λ_=>True,[],[((List.replicate 5 .u64),z1)],[.i7 0]⟩⟩
def Kn:Cx:=Ht [(122,.one Eh)] []
def I4:BH:=Ky.sum Kn
theorem KR:Ck Tryz.prog GB GC 114 (.one I4):=Ad.fin hG (.cons (k:=122) rfl (FR hG) Tryz.call122 (Ad.len _ _) .nil) .nil Tryz.func114 rfl rfl rfl (.inl rfl) (by kernel_rfl)
def Mc:Ad:=⟨6000,Ak Tryz.f116,Tryz.f116.ntmps,Tryz.f116.results.toList,[],⟨[],false,λ_=>True,[],[((List.replicate 5 .u64),z1)],[.i7 0]⟩⟩
def MS:Cx:=Ht [(111,.one DJ)] []
def Ie:BH:=Mc.sum MS
theorem JY:Ck Tryz.prog GB GC 116 (.one Ie):=Ad.fin hG (.cons (k:=111) rfl (Gn hG) Tryz.call111 (Ad.len _ _) .nil) .nil Tryz.func116 rfl rfl rfl (.inl rfl) (by kernel_rfl)
def NT:Ad:=⟨6000,Ak Tryz.f209,Tryz.f209.ntmps,Tryz.f209.results.toList,[],⟨[],false,λ_=>True,[],[((List.replicate 5 .u64),z1)],[.i7 0]⟩⟩
def NS:Cx:=Ht [(116,.one Ie),(117,.one Cn)] []
def Kb:BH:=NT.sum NS
theorem PS:Ck Tryz.prog GB GC 209 (.one Kb):=Ad.fin hG (.cons (k:=116) rfl (JY hG) Tryz.call116 (Ad.len _ _) (.cons (k:=117) rfl (Cs hG) Tryz.call117 (Ad.len _ _) .nil)) .nil Tryz.func209 rfl rfl rfl (.inl rfl) (by kernel_rfl)
end
end
noncomputable section
open Go
section
variable{GB:Nat}{GC:Nat->Nat->Option Value}{ad:Nat->Nat×Nat}(hG:Gw GB GC ad)
include hG
def Dc:Ad:=⟨6000,Ak Tryz.f185,Tryz.f185.ntmps,Tryz.f185.results.toList,[],⟨[.mem (List.replicate 15 .u64) 173 true],false,λ_=>True,[(0,(List.replicate 15 .u64),z1)],[],[.cy 0]⟩⟩
def Db:Cx:=Ht [(122,.one Eh),(179,.one I7)] []
def GM:BH:=Dc.cC Db
theorem M0:Ck Tryz.prog GB GC 185 (.one GM):=Ad.cU hG (.cons (k:=122) rfl (FR hG) Tryz.call122 (Ad.len _ _) (.cons (k:=179) rfl (Nh hG) Tryz.call179 (Ad.len _ _) .nil)) .nil Tryz.func185 rfl rfl rfl (.inl rfl) (by kernel_rfl)
def FL:Ad:=⟨6000,Ak Tryz.f187,Tryz.f187.ntmps,Tryz.f187.results.toList,[],⟨[.mem (List.replicate 15 .u64) 173 true,.mem (List.replicate 15 .u64) 173 false,.mem (List.replicate 15 .u64) 173 false,.int .i64],false,λ_=>True,[(0,(List.replicate 15 .u64),z1)],[],[.cy 0]⟩⟩
def FO:Cx:=Ht [(120,.one Df)] []
def FJ:BH:=FL.cC FO
theorem L8:Ck Tryz.prog GB GC 187 (.one FJ):=Ad.cU hG (.cons (k:=120) rfl (Dq hG) Tryz.call120 (Ad.len _ _) .nil) .nil Tryz.func187 rfl rfl rfl (.inl rfl) (by kernel_rfl)
def Dt:Ad:=⟨6000,Ak Tryz.f188,Tryz.f188.ntmps,Tryz.f188.results.toList,[],⟨[.mem (List.replicate 15 .u64) 173 true,.int .i64],false,λ_=>True,[(0,(List.replicate 15 .u64),z1)],[],[.cy 0]⟩⟩
def Dx:Cx:=Ht [(119,.one EB),(120,.one Df),(210,.one Kr)] []
def Er:BH:=Dt.cC Dx
theorem Lg:Ck Tryz.prog GB GC 188 (.one Er):=Ad.cU hG (.cons (k:=119) rfl (EP hG) Tryz.call119 (Ad.len _ _) (.cons (k:=120) rfl (Dq hG) Tryz.call120 (Ad.len _ _) (.cons (k:=210) rfl (Rx hG) Tryz.call210 (Ad.len _ _) .nil))) .nil Tryz.func188 rfl rfl rfl (.inl rfl) (by kernel_rfl)
def GJ:Ad:=⟨6000,Ak Tryz.f177,Tryz.f177.ntmps,Tryz.f177.results.toList,[],⟨[.mem (List.replicate 20 .u64) 162 true,.mem (List.replicate 20 .u64) 98 false],false,λ_=>True,[(0,(List.replicate 20 .u64),z1)],[],[.cy 0]⟩⟩
def GK:Cx:=Ht [(113,.one BD),(115,.one Ao),(117,.one Cn),(121,.one GR),(209,.one Kb)] []
def EJ:BH:=GJ.cC GK
theorem Il:Ck Tryz.prog GB GC 177 (.one EJ):=Ad.cU hG (.cons (k:=113) rfl (Bg hG) Tryz.call113 (Ad.len _ _) (.cons (k:=115) rfl (Ap hG) Tryz.call115 (Ad.len _ _) (.cons (k:=117) rfl (Cs hG) Tryz.call117 (Ad.len _ _) (.cons (k:=121) rfl (G9 hG) Tryz.call121 (Ad.len _ _) (.cons (k:=209) rfl (PS hG) Tryz.call209 (Ad.len _ _) .nil))))) .nil Tryz.func177 rfl rfl rfl (.inl rfl) (by kernel_rfl)
def FH:Ad:=⟨6000,Ak Tryz.f207,Tryz.f207.ntmps,Tryz.f207.results.toList,[],⟨[.mem (List.replicate 15 .u64) 173 true,.mem (List.replicate 20 .u64) 98 false],false,λ_=>True,[(0,(List.replicate 15 .u64),z1)],[],[.cy 0]⟩⟩
def FD:Cx:=Ht [(113,.one BD),(115,.one Ao),(117,.one Cn),(180,.one IP),(209,.one Kb)] []
def EA:BH:=FH.cC FD
theorem IW:Ck Tryz.prog GB GC 207 (.one EA):=Ad.cU hG (.cons (k:=113) rfl (Bg hG) Tryz.call113 (Ad.len _ _) (.cons (k:=115) rfl (Ap hG) Tryz.call115 (Ad.len _ _) (.cons (k:=117) rfl (Cs hG) Tryz.call117 (Ad.len _ _) (.cons (k:=180) rfl (Mw hG) Tryz.call180 (Ad.cJ _ _) (.cons (k:=209) rfl (PS hG) Tryz.call209 (Ad.len _ _) .nil))))) .nil Tryz.func207 rfl rfl rfl (.inl rfl) (by kernel_rfl)
def H5:Ad:=⟨6000,Ak Tryz.f138,Tryz.f138.ntmps,Tryz.f138.results.toList,[],⟨[.mem (List.replicate 20 .u64) 176 true,.mem (List.replicate 20 .u64) 98 false,.mem (List.replicate 20 .u64) 162 false],false,λ_=>True,[(0,(List.replicate 20 .u64),z1)],[],[.cy 0]⟩⟩
def H7:Cx:=Ht [(113,.one BD),(115,.one Ao),(117,.one Cn)] []
def E9:BH:=H5.cC H7
theorem Hf:Ck Tryz.prog GB GC 138 (.one E9):=Ad.cU hG (.cons (k:=113) rfl (Bg hG) Tryz.call113 (Ad.len _ _) (.cons (k:=115) rfl (Ap hG) Tryz.call115 (Ad.len _ _) (.cons (k:=117) rfl (Cs hG) Tryz.call117 (Ad.len _ _) .nil))) .nil Tryz.func138 rfl rfl rfl (.inl rfl) (by kernel_rfl)
def FN:Ad:=⟨6000,Ak Tryz.f141,Tryz.f141.ntmps,Tryz.f141.results.toList,[],⟨[.mem (List.replicate 20 .u64) 176 true,.mem (List.replicate 20 .u64) 98 false,.mem (List.replicate 15 .u64) 173 false],false,λ_=>True,[(0,(List.replicate 20 .u64),z1)],[],[.cy 0]⟩⟩
def FM:Cx:=Ht [(113,.one BD),(115,.one Ao),(117,.one Cn)] []
def DR:BH:=FN.cC FM
theorem Dr:Ck Tryz.prog GB GC 141 (.one DR):=Ad.cU hG (.cons (k:=113) rfl (Bg hG) Tryz.call113 (Ad.len _ _) (.cons (k:=115) rfl (Ap hG) Tryz.call115 (Ad.len _ _) (.cons (k:=117) rfl (Cs hG) Tryz.call117 (Ad.len _ _) .nil))) .nil Tryz.func141 rfl rfl rfl (.inl rfl) (by kernel_rfl)
def Ga:Ad:=⟨6000,Ak Tryz.f135,Tryz.f135.ntmps,Tryz.f135.results.toList,[],⟨[.mem (List.replicate 20 .u64) 176 true,.mem (List.replicate 15 .u64) 179 false],false,λ_=>True,[(0,(List.replicate 20 .u64),z1)],[],[.cy 0]⟩⟩
def Gg:Cx:=Ht [(112,.one DD),(113,.one BD),(117,.one Cn)] []
def Gd:BH:=Ga.cC Gg
theorem I9:Ck Tryz.prog GB GC 135 (.one Gd):=Ad.cU hG (.cons (k:=112) rfl (DV hG) Tryz.call112 (Ad.len _ _) (.cons (k:=113) rfl (Bg hG) Tryz.call113 (Ad.len _ _) (.cons (k:=117) rfl (Cs hG) Tryz.call117 (Ad.len _ _) .nil))) .nil Tryz.func135 rfl rfl rfl (.inl rfl) (by kernel_rfl)
def Gs:Ad:=⟨6000,Ak Tryz.f136,Tryz.f136.ntmps,Tryz.f136.results.toList,[],⟨[.mem (List.replicate 20 .u64) 98 true,.mem (List.replicate 20 .u64) 176 false],false,λ_=>True,[(0,(List.replicate 20 .u64),z1)],[],[.cy 0]⟩⟩
def Gt:Cx:=Ht [(115,.one Ao)] []
def Cj:BH:=Gs.cC Gt
theorem C9:Ck Tryz.prog GB GC 136 (.one Cj):=Ad.cU hG (.cons (k:=115) rfl (Ap hG) Tryz.call115 (Ad.len _ _) .nil) .nil Tryz.func136 rfl rfl rfl (.inl rfl) (by kernel_rfl)
def Hz:Ad:=⟨6000,Ak Tryz.f151,Tryz.f151.ntmps,Tryz.f151.results.toList,[],⟨[.mem (List.replicate 15 .u64) 179 true,.mem (List.replicate 20 .u64) 98 false],false,λ_=>True,[(0,(List.replicate 15 .u64),z1)],[],[.cy 0]⟩⟩
def H6:Cx:=Ht [(121,.one GR)] []
def H8:BH:=Hz.cC H6
theorem OH:Ck Tryz.prog GB GC 151 (.one H8):=Ad.cU hG (.cons (k:=121) rfl (G9 hG) Tryz.call121 (Ad.len _ _) .nil) .nil Tryz.func151 rfl rfl rfl (.inl rfl) (by kernel_rfl)
def Gc:Ad:=⟨6000,Ak Tryz.f143,Tryz.f143.ntmps,Tryz.f143.results.toList,[],⟨[.mem (List.replicate 15 .u64) 179 true,.mem (List.replicate 20 .u64) 176 false],false,λ_=>True,[(0,(List.replicate 15 .u64),z1)],[],[.cy 0]⟩⟩
def Gf:Cx:=Ht [(115,.one Ao)] []
def Gh:BH:=Gc.cC Gf
theorem Iz:Ck Tryz.prog GB GC 143 (.one Gh):=Ad.cU hG (.cons (k:=115) rfl (Ap hG) Tryz.call115 (Ad.len _ _) .nil) .nil Tryz.func143 rfl rfl rfl (.inl rfl) (by kernel_rfl)
def Co:Ad:=⟨6000,Ak Tryz.f148,Tryz.f148.ntmps,Tryz.f148.results.toList,[],⟨[.mem (List.replicate 20 .u64) 98 true,.mem (List.replicate 20 .u64) 98 false],false,λ_=>True,[(0,(List.replicate 20 .u64),z1)],[],[.cy 0]⟩⟩
def CO:Cx:=Ht [] []
def Dj:BH:=Co.cC CO
theorem Iu:Ck Tryz.prog GB GC 148 (.one Dj):=Ad.cU hG .nil .nil Tryz.func148 rfl rfl rfl (.inl rfl) (by kernel_rfl)
def Cm:Ad:=⟨6000,Ak Tryz.f183,Tryz.f183.ntmps,Tryz.f183.results.toList,[],⟨[.mem (List.replicate 120 .u64) 4 true,.mem (List.replicate 20 .u64) 5 false],false,λ_=>True,[(0,List.replicate 120 .u64,z1)],[],[]⟩⟩
def DZ:Cx:=Ht [(136,.one Cj),(141,.one DR),(207,.one EA)] []
def EO:BH:=Cm.cC DZ
theorem KM:Ck Tryz.prog GB GC 183 (.one EO):=Ad.cU hG (.cons (k:=136) rfl (C9 hG) Tryz.call136 (Ad.cJ _ _) (.cons (k:=141) rfl (Dr hG) Tryz.call141 (Ad.cJ _ _) (.cons (k:=207) rfl (IW hG) Tryz.call207 (Ad.cJ _ _) .nil))) .nil Tryz.func183 rfl rfl rfl (.inl rfl) (by kernel_rfl)
def Av:Ad:=⟨6000,Ak Tryz.f150,Tryz.f150.ntmps,Tryz.f150.results.toList,[],⟨[.mem (List.replicate 120 .u64) 4 false,.mem (List.replicate 15 .u64) 5 true,.int .i8],false,λ_=>True,[(1,List.replicate 15 .u64,z1)],[],[]⟩⟩
def BU:Cx:=Ht [(185,.one GM),(187,.one FJ),(188,.one Er)] [(186,MU Tryz.f186)]
def D8:BH:=Av.cC BU
theorem Ji:Ck Tryz.prog GB GC 150 (.one D8):=Ad.cU hG (.cons (k:=185) rfl (M0 hG) Tryz.call185 (Ad.cJ _ _) (.cons (k:=187) rfl (L8 hG) Tryz.call187 (Ad.cJ _ _) (.cons (k:=188) rfl (Lg hG) Tryz.call188 (Ad.cJ _ _) .nil))) (.cons Tryz.func186 rfl Tryz.call186 .nil) Tryz.func150 rfl rfl rfl (.inl rfl) (by kernel_rfl)
def JE:Ad:=⟨6000,Ak Tryz.f178,Tryz.f178.ntmps,Tryz.f178.results.toList,[],⟨[.mem (List.replicate 20 .u64) 98 true,.mem (List.replicate 20 .u64) 98 false,.mem (List.replicate 20 .u64) 98 false],false,λ_=>True,[(0,(List.replicate 20 .u64),z1)],[],[.cy 0]⟩⟩
def JO:Cx:=Ht [(136,.one Cj),(138,.one E9),(177,.one EJ)] [(130,MU Tryz.f130)]
def Ep:BH:=JE.cC JO
theorem Ir:Ck Tryz.prog GB GC 178 (.one Ep):=Ad.cU hG (.cons (k:=136) rfl (C9 hG) Tryz.call136 (Ad.cJ _ _) (.cons (k:=138) rfl (Hf hG) Tryz.call138 (Ad.cJ _ _) (.cons (k:=177) rfl (Il hG) Tryz.call177 (Ad.cJ _ _) .nil))) (.cons Tryz.func130 rfl Tryz.call130 .nil) Tryz.func178 rfl rfl rfl (.inl rfl) (by kernel_rfl)
def Aq:Ad:=⟨6000,Ak Tryz.f104,Tryz.f104.ntmps,Tryz.f104.results.toList,[],⟨[.mem (List.replicate 20 .u64) 1 false],false,λ_=>True,[],[(List.replicate 32 .u8,z1)],[.ya 0 32 32]⟩⟩
def AY:Cx:=Ht [(115,.one Ao),(180,.one IP),(200,.one CE),(182,.one EW)] [(145,MU Tryz.f145),(130,MU Tryz.f130),(181,MU Tryz.f181)]
def BL:BH:=Aq.cC AY
theorem IK:Ck Tryz.prog GB GC 104 (.one BL):=Ad.cU hG (.cons (k:=115) rfl (Ap hG) Tryz.call115 (Ad.len _ _) (.cons (k:=180) rfl (Mw hG) Tryz.call180 (Ad.cJ _ _) (.cons (k:=200) rfl (J3 hG) Tryz.call200 (Ad.len _ _) (.cons (k:=182) rfl (Kg hG) Tryz.call182 (Ad.len _ _) .nil)))) (.cons Tryz.func145 rfl Tryz.call145 (.cons Tryz.func130 rfl Tryz.call130 (.cons Tryz.func181 rfl Tryz.call181 .nil))) Tryz.func104 rfl rfl rfl (.inl rfl) (by kernel_rfl)
end
end
noncomputable section
open Go
section
variable{GB:Nat}{GC:Nat->Nat->Option Value}{ad:Nat->Nat×Nat}(hG:Gw GB GC ad)
include hG
def Dw:Ad:=⟨6000,Ak Tryz.f174,Tryz.f174.ntmps,Tryz.f174.results.toList,[],⟨[.mem ([.u64]) 51 true,.int .u64,.int .u64,.int .u64],false,λ_=>True,[(0,([.u64]),z1)],[],[]⟩⟩
def Dz:Cx:=Ht [] []
def BF:BH:=Dw.sum Dz
theorem Dm:Ck Tryz.prog GB GC 174 (.one BF):=Ad.fin hG .nil .nil Tryz.func174 rfl rfl rfl (.inl rfl) (by kernel_rfl)
def Ay:Ad:=⟨6000,Ak Tryz.f129,Tryz.f129.ntmps,Tryz.f129.results.toList,[],⟨[.mem (List.replicate 4 .u64) 1 true,.mem (List.replicate 4 .u64) 1 false],false,λ_=>True,[(0,List.replicate 4 .u64,z1)],[],[]⟩⟩
def A7:Cx:=Ht [(172,.one Ef),(174,.one BF)] []
def CF:BH:=Ay.sum A7
theorem ET:Ck Tryz.prog GB GC 129 (.one CF):=Ad.fin hG (.cons (k:=172) rfl (JI hG) Tryz.call172 (Ad.len _ _) (.cons (k:=174) rfl (Dm hG) Tryz.call174 (Ad.len _ _) .nil)) .nil Tryz.func129 rfl rfl rfl (.inl rfl) (by kernel_rfl)
def BP:Ad:=⟨6000,Ak Tryz.f128,Tryz.f128.ntmps,Tryz.f128.results.toList,[],⟨[.mem (List.replicate 4 .u64) 80 true,.mem (List.replicate 32 .u8) 49 false],false,λ_=>True,[(0,(List.replicate 4 .u64),z1)],[],[]⟩⟩
def BO:Cx:=Ht [] []
def BN:BH:=BP.sum BO
theorem Es:Ck Tryz.prog GB GC 128 (.one BN):=Ad.fin hG .nil .nil Tryz.func128 rfl rfl rfl (.inl rfl) (by kernel_rfl)
def BV:Ad:=⟨6000,Ak Tryz.f168,Tryz.f168.ntmps,Tryz.f168.results.toList,[],⟨[.mem (List.replicate 4 .u64) 81 true,.mem (List.replicate 4 .u64) 81 false,.mem (List.replicate 4 .u64) 81 false],false,λ_=>True,[(0,(List.replicate 4 .u64),z1)],[],[]⟩⟩
def BX:Cx:=Ht [(174,.one BF)] []
def Ew:BH:=BV.sum BX
theorem OI:Ck Tryz.prog GB GC 168 (.one Ew):=Ad.fin hG (.cons (k:=174) rfl (Dm hG) Tryz.call174 (Ad.len _ _) .nil) .nil Tryz.func168 rfl rfl rfl (.inl rfl) (by kernel_rfl)
def Bw:Ad:=⟨6000,Ak Tryz.f169,Tryz.f169.ntmps,Tryz.f169.results.toList,[],⟨[.mem (List.replicate 4 .u64) 81 true,.mem (List.replicate 4 .u64) 81 false,.mem (List.replicate 4 .u64) 81 false],false,λ_=>True,[(0,(List.replicate 4 .u64),z1)],[],[]⟩⟩
def Bv:Cx:=Ht [(172,.one Ef),(174,.one BF)] []
def Ez:BH:=Bw.sum Bv
theorem OD:Ck Tryz.prog GB GC 169 (.one Ez):=Ad.fin hG (.cons (k:=172) rfl (JI hG) Tryz.call172 (Ad.len _ _) (.cons (k:=174) rfl (Dm hG) Tryz.call174 (Ad.len _ _) .nil)) .nil Tryz.func169 rfl rfl rfl (.inl rfl) (by kernel_rfl)
def BB:Ad:=⟨6000,Ak Tryz.f189,Tryz.f189.ntmps,Tryz.f189.results.toList,[],⟨[.mem (List.replicate 4 .u64) 234 true,.mem (List.replicate 4 .u64) 81 false],false,λ_=>True,[(0,(List.replicate 4 .u64),z1)],[],[]⟩⟩
def BC:Cx:=Ht [(172,.one Ef),(174,.one BF)] []
def DY:BH:=BB.sum BC
theorem KL:Ck Tryz.prog GB GC 189 (.one DY):=Ad.fin hG (.cons (k:=172) rfl (JI hG) Tryz.call172 (Ad.len _ _) (.cons (k:=174) rfl (Dm hG) Tryz.call174 (Ad.len _ _) .nil)) .nil Tryz.func189 rfl rfl rfl (.inl rfl) (by kernel_rfl)
def CV:Ad:=⟨6000,Ak Tryz.f190,Tryz.f190.ntmps,Tryz.f190.results.toList,[],⟨[.mem (List.replicate 32 .u8) 49 true,.mem (List.replicate 4 .u64) 80 false],false,λ_=>True,[(0,(List.replicate 32 .u8),z1)],[],[]⟩⟩
def CQ:Cx:=Ht [] []
def EI:BH:=CV.sum CQ
theorem NA:Ck Tryz.prog GB GC 190 (.one EI):=Ad.fin hG .nil .nil Tryz.func190 rfl rfl rfl (.inl rfl) (by kernel_rfl)
def Ip:Ad:=⟨6000,Ak Tryz.f152,Tryz.f152.ntmps,Tryz.f152.results.toList,[],⟨[.mem (List.replicate 4 .u64) 83 true,.mem (List.replicate 4 .u64) 83 false],false,λ_=>True,[(0,(List.replicate 4 .u64),z1)],[],[.cy 0]⟩⟩
def Iq:Cx:=Ht [] []
def Gl:BH:=Ip.sum Iq
theorem Pp:Ck Tryz.prog GB GC 152 (.one Gl):=Ad.fin hG .nil .nil Tryz.func152 rfl rfl rfl (.inl rfl) (by kernel_rfl)
def Gj:Ad:=⟨6000,Ak Tryz.f125,Tryz.f125.ntmps,Tryz.f125.results.toList,[],⟨[.mem (List.replicate 4 .u64) 83 true,.mem (List.replicate 4 .u64) 83 false,.mem (List.replicate 4 .u64) 83 false],false,λ_=>True,[(0,(List.replicate 4 .u64),z1)],[],[.cy 0]⟩⟩
def Gm:Cx:=Ht [(168,.one Ew)] []
def Da:BH:=Gj.sum Gm
theorem Kv:Ck Tryz.prog GB GC 125 (.one Da):=Ad.fin hG (.cons (k:=168) rfl (OI hG) Tryz.call168 (Ad.len _ _) .nil) .nil Tryz.func125 rfl rfl rfl (.inl rfl) (by kernel_rfl)
def Ec:Ad:=⟨6000,Ak Tryz.f126,Tryz.f126.ntmps,Tryz.f126.results.toList,[],⟨[.mem (List.replicate 4 .u64) 83 true,.mem (List.replicate 4 .u64) 83 false,.mem (List.replicate 4 .u64) 83 false],false,λ_=>True,[(0,(List.replicate 4 .u64),z1)],[],[.cy 0]⟩⟩
def Eb:Cx:=Ht [(169,.one Ez)] []
def Ci:BH:=Ec.sum Eb
theorem JR:Ck Tryz.prog GB GC 126 (.one Ci):=Ad.fin hG (.cons (k:=169) rfl (OD hG) Tryz.call169 (Ad.len _ _) .nil) .nil Tryz.func126 rfl rfl rfl (.inl rfl) (by kernel_rfl)
def GH:Ad:=⟨6000,Ak Tryz.f106,Tryz.f106.ntmps,Tryz.f106.results.toList,[],⟨[.mem (List.replicate 4 .u64) 83 true,.mem (List.replicate 4 .u64) 83 false,.mem (List.replicate 4 .u64) 83 false,.mem (List.replicate 4 .u64) 83 false],false,λ_=>True,[(0,(List.replicate 4 .u64),z1)],[],[.cy 0]⟩⟩
def GI:Cx:=Ht [(125,.one Da),(126,.one Ci),(152,.one Gl)] []
def DX:BH:=GH.sum GI
theorem MV:Ck Tryz.prog GB GC 106 (.one DX):=Ad.fin hG (.cons (k:=125) rfl (Kv hG) Tryz.call125 (Ad.len _ _) (.cons (k:=126) rfl (JR hG) Tryz.call126 (Ad.len _ _) (.cons (k:=152) rfl (Pp hG) Tryz.call152 (Ad.len _ _) .nil))) .nil Tryz.func106 rfl rfl rfl (.inl rfl) (by kernel_rfl)
def Du:Ad:=⟨6000,Ak Tryz.f124,Tryz.f124.ntmps,Tryz.f124.results.toList,[],⟨[.mem (List.replicate 4 .u64) 1 true,.sl (List.replicate 21 .u8) 0 false],false,λ_=>True,[(0,List.replicate 4 .u64,z1)],[],[.cy 0]⟩⟩
def DN:Cx:=Ht [(128,.one BN),(129,.one CF)] []
def Ca:BH:=Du.cC DN
theorem LZ:Ck Tryz.prog GB GC 124 (.one Ca):=Ad.cU hG (.cons (k:=128) rfl (Es hG) Tryz.call128 (Ad.len _ _) (.cons (k:=129) rfl (ET hG) Tryz.call129 (Ad.len _ _) .nil)) .nil Tryz.func124 rfl rfl rfl (.inl rfl) (by kernel_rfl)
def De:Ad:=⟨6000,Ak Tryz.f124,Tryz.f124.ntmps,Tryz.f124.results.toList,[],⟨[.mem (List.replicate 4 .u64) 1 true,.sl (List.replicate 22 .u8) 0 false],false,λ_=>True,[(0,List.replicate 4 .u64,z1)],[],[.cy 0]⟩⟩
def Cq:Cx:=Ht [(128,.one BN),(129,.one CF)] []
def CB:BH:=De.cC Cq
theorem Kk:Ck Tryz.prog GB GC 124 (.one CB):=Ad.cU hG (.cons (k:=128) rfl (Es hG) Tryz.call128 (Ad.len _ _) (.cons (k:=129) rfl (ET hG) Tryz.call129 (Ad.len _ _) .nil)) .nil Tryz.func124 rfl rfl rfl (.inl rfl) (by kernel_rfl)
def Bf:Ad:=⟨6000,Ak Tryz.f99,Tryz.f99.ntmps,Tryz.f99.results.toList,SA,⟨[.mem (List.replicate 4 .u64) 1 true,.sl (List.replicate 64 .u8) 0 false],false,λ_=>True,[(0,List.replicate 4 .u64,z1)],[],[.cy 0,.eg]⟩⟩
def Ac:Cx:=Ht [(124,.one Ca),(10124,.one CB),(125,.one Da),(126,.one Ci)] []
def BJ:BH:=Bf.cC Ac
theorem Ha:Ck Tryz.prog GB GC 99 (.one BJ):=Ad.cU hG (.cons (k:=124) rfl (LZ hG) Tryz.call124 (Ad.cJ _ _) (.cons (k:=10124) rfl (Kk hG) Tryz.call124 (Ad.cJ _ _) (.cons (k:=125) rfl (Kv hG) Tryz.call125 (Ad.len _ _) (.cons (k:=126) rfl (JR hG) Tryz.call126 (Ad.len _ _) .nil)))) .nil Tryz.func99 rfl rfl rfl (.inr rfl) (by kernel_rfl)
def DF:Ad:=⟨6000,Ak Tryz.f95,Tryz.f95.ntmps,Tryz.f95.results.toList,[],⟨[.mem (List.replicate 4 .u64) 1 true,.sl (List.replicate 32 .u8) 0 false],false,λ_=>True,[(0,List.replicate 4 .u64,z1)],[],[.cy 0,.eg]⟩⟩
def CP:Cx:=Ht [(99,.one BJ)] []
def Bb:BH:=DF.cC CP
theorem Jj:Ck Tryz.prog GB GC 95 (.one Bb):=Ad.cU hG (.cons (k:=99) rfl (Ha hG) Tryz.call99 (Ad.cJ _ _) .nil) .nil Tryz.func95 rfl rfl rfl (.inl rfl) (by kernel_rfl)
def Az:Ad:=⟨6000,Ak Tryz.f107,Tryz.f107.ntmps,Tryz.f107.results.toList,[],⟨[.mem (List.replicate 4 .u64) 1 false],false,λ_=>True,[],[(List.replicate 32 .u8,z1)],[.ya 0 32 32]⟩⟩
def Am:Cx:=Ht [(189,.one DY),(190,.one EI)] [(153,MU Tryz.f153)]
def BG:BH:=Az.cC Am
theorem H9:Ck Tryz.prog GB GC 107 (.one BG):=Ad.cU hG (.cons (k:=189) rfl (KL hG) Tryz.call189 (Ad.len _ _) (.cons (k:=190) rfl (NA hG) Tryz.call190 (Ad.len _ _) .nil)) (.cons Tryz.func153 rfl Tryz.call153 .nil) Tryz.func107 rfl rfl rfl (.inl rfl) (by kernel_rfl)
def Ab:Ad:=⟨6000,Ak Tryz.f147,Tryz.f147.ntmps,Tryz.f147.results.toList,[],⟨[.mem (List.replicate 4 .u64) 83 false],false,λ_=>True,[],[],[.agg (List.replicate 64 .i8) z1]⟩⟩
def AR:Cx:=Ht [(107,.one BG)] []
def Dv:BH:=Ab.cC AR
theorem Lc:Ck Tryz.prog GB GC 147 (.one Dv):=Ad.cU hG (.cons (k:=107) rfl (H9 hG) Tryz.call107 (Ad.cJ _ _) .nil) .nil Tryz.func147 rfl rfl rfl (.inl rfl) (by kernel_rfl)
end
end
end Go.Proofs.YtloibefkijfdlaaGreatDoor
