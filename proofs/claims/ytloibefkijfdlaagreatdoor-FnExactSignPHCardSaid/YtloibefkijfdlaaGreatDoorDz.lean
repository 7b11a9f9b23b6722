/- Contracts that the trees give: the field. -/
import Derived.Test.YtloibefkijfdlaaGreatDoorDa
namespace Go.Proofs.YtloibefkijfdlaaGreatDoor
noncomputable section
open Go
section
variable{GB:Nat}{GC:Nat→Nat→Option Value}{ad:Nat→Nat×Nat}(hG:Jk GB GC ad)
include hG
def Ns:AQ:=⟨6000,Ab Tryz.f172,Tryz.f172.ntmps,Tryz.f172.results.toList,[],⟨[.int .u64,.int .u64],false,fun _=>True,[],[],[.int .u64 z0,.int .u64 z0]⟩⟩
def OH:Cx:=GJ [] []
def Ef:Az:=Ns.sum OH
theorem Jc:Bp Tryz.prog GB GC 172 (.one Ef):=AQ.fin hG .nil .nil Tryz.func172 rfl rfl rfl (.inl rfl) (by kernel_rfl)
def Rm:AQ:=⟨6000,Ab Tryz.f197,Tryz.f197.ntmps,Tryz.f197.results.toList,[],⟨[.int .u64],false,fun _=>True,[],[],[.int .u64 z0]⟩⟩
def RU:Cx:=GJ [] []
def EM:Az:=Rm.sum RU
theorem I6:Bp Tryz.prog GB GC 197 (.one EM):=AQ.fin hG .nil .nil Tryz.func197 rfl rfl rfl (.inl rfl) (by kernel_rfl)
def Lv:AQ:=⟨6000,Ab Tryz.f121,Tryz.f121.ntmps,Tryz.f121.results.toList,[],⟨[.mem (List.replicate 5 .u64) 96 true,.mem (List.replicate 5 .u64) 96 false],false,fun _=>True,[(0,(List.replicate 5 .u64),z1)],[],[.ptrP 0]⟩⟩
def MC:Cx:=GJ [] []
def Gb:Az:=Lv.sum MC
theorem JO:Bp Tryz.prog GB GC 121 (.one Gb):=AQ.fin hG .nil .nil Tryz.func121 rfl rfl rfl (.inl rfl) (by kernel_rfl)
def LB:AQ:=⟨6000,Ab Tryz.f179,Tryz.f179.ntmps,Tryz.f179.results.toList,UG,⟨[.mem (List.replicate 5 .u64) 96 true],false,fun _=>True,[(0,(List.replicate 5 .u64),z1)],[],[.ptrP 0]⟩⟩
def LK:Cx:=GJ [] []
def LJ:Az:=LB.sum LK
theorem Tc:Bp Tryz.prog GB GC 179 (.one LJ):=AQ.fin hG .nil .nil Tryz.func179 rfl rfl rfl (.inr rfl) (by kernel_rfl)
def L8:AQ:=⟨6000,Ab Tryz.f122,Tryz.f122.ntmps,Tryz.f122.results.toList,UG,⟨[.mem (List.replicate 5 .u64) 96 true],false,fun _=>True,[(0,(List.replicate 5 .u64),z1)],[],[.ptrP 0]⟩⟩
def ME:Cx:=GJ [] []
def Gc:Az:=L8.sum ME
theorem JU:Bp Tryz.prog GB GC 122 (.one Gc):=AQ.fin hG .nil .nil Tryz.func122 rfl rfl rfl (.inr rfl) (by kernel_rfl)
def MI:AQ:=⟨6000,Ab Tryz.f117,Tryz.f117.ntmps,Tryz.f117.results.toList,[],⟨[.mem (List.replicate 5 .u64) 96 true,.mem (List.replicate 5 .u64) 96 false,.mem (List.replicate 5 .u64) 96 false],false,fun _=>True,[(0,(List.replicate 5 .u64),z1)],[],[.ptrP 0]⟩⟩
def Lx:Cx:=GJ [(197,.one EM)] [(158,Mc Tryz.f158)]
def DF:Az:=MI.sum Lx
theorem EA:Bp Tryz.prog GB GC 117 (.one DF):=AQ.fin hG (.cons (k:=197) rfl (I6 hG) Tryz.call197 (AQ.len _ _) .nil) (.cons Tryz.func158 rfl Tryz.call158 .nil) Tryz.func117 rfl rfl rfl (.inl rfl) (by kernel_rfl)
def EL:AQ:=⟨6000,Ab Tryz.f113,Tryz.f113.ntmps,Tryz.f113.results.toList,[],⟨[.mem (List.replicate 5 .u64) 96 true,.mem (List.replicate 5 .u64) 96 false,.mem (List.replicate 5 .u64) 96 false],false,fun _=>True,[(0,(List.replicate 5 .u64),z1)],[],[.ptrP 0]⟩⟩
def EJ:Cx:=GJ [(197,.one EM)] [(158,Mc Tryz.f158)]
def BV:Az:=EL.sum EJ
theorem Ct:Bp Tryz.prog GB GC 113 (.one BV):=AQ.fin hG (.cons (k:=197) rfl (I6 hG) Tryz.call197 (AQ.len _ _) .nil) (.cons Tryz.func158 rfl Tryz.call158 .nil) Tryz.func113 rfl rfl rfl (.inl rfl) (by kernel_rfl)
def KH:AQ:=⟨6000,Ab Tryz.f119,Tryz.f119.ntmps,Tryz.f119.results.toList,UG,⟨[.mem (List.replicate 5 .u64) 96 true,.mem (List.replicate 5 .u64) 96 false],false,fun _=>True,[(0,(List.replicate 5 .u64),z1)],[],[.ptrP 0]⟩⟩
def KU:Cx:=GJ [(113,.one BV)] []
def ED:Az:=KH.sum KU
theorem Fy:Bp Tryz.prog GB GC 119 (.one ED):=AQ.fin hG (.cons (k:=113) rfl (Ct hG) Tryz.call113 (AQ.len _ _) .nil) .nil Tryz.func119 rfl rfl rfl (.inr rfl) (by kernel_rfl)
def Jm:AQ:=⟨6000,Ab Tryz.f115,Tryz.f115.ntmps,Tryz.f115.results.toList,[],⟨[.mem (List.replicate 5 .u64) 96 true,.mem (List.replicate 5 .u64) 96 false,.mem (List.replicate 5 .u64) 96 false],false,fun _=>True,[(0,(List.replicate 5 .u64),z1)],[],[.ptrP 0]⟩⟩
def JZ:Cx:=GJ [(172,.one Ef),(197,.one EM)] [(159,Mc Tryz.f159),(198,Mc Tryz.f198),(192,Mc Tryz.f192),(194,Mc Tryz.f194),(195,Mc Tryz.f195),(196,Mc Tryz.f196)]
def BJ:Az:=Jm.sum JZ
theorem BP:Bp Tryz.prog GB GC 115 (.one BJ):=AQ.fin hG (.cons (k:=172) rfl (Jc hG) Tryz.call172 (AQ.len _ _) (.cons (k:=197) rfl (I6 hG) Tryz.call197 (AQ.len _ _) .nil)) (.cons Tryz.func159 rfl Tryz.call159 (.cons Tryz.func198 rfl Tryz.call198 (.cons Tryz.func192 rfl Tryz.call192 (.cons Tryz.func194 rfl Tryz.call194 (.cons Tryz.func195 rfl Tryz.call195 (.cons Tryz.func196 rfl Tryz.call196 .nil)))))) Tryz.func115 rfl rfl rfl (.inl rfl) (by kernel_rfl)
def KJ:AQ:=⟨6000,Ab Tryz.f112,Tryz.f112.ntmps,Tryz.f112.results.toList,[],⟨[.mem (List.replicate 5 .u64) 96 true,.mem (List.replicate 5 .u64) 96 false],false,fun _=>True,[(0,(List.replicate 5 .u64),z1)],[],[.ptrP 0]⟩⟩
def KM:Cx:=GJ [(172,.one Ef),(197,.one EM)] [(157,Mc Tryz.f157),(192,Mc Tryz.f192),(193,Mc Tryz.f193),(194,Mc Tryz.f194),(195,Mc Tryz.f195),(196,Mc Tryz.f196)]
def DX:Az:=KJ.sum KM
theorem EU:Bp Tryz.prog GB GC 112 (.one DX):=AQ.fin hG (.cons (k:=172) rfl (Jc hG) Tryz.call172 (AQ.len _ _) (.cons (k:=197) rfl (I6 hG) Tryz.call197 (AQ.len _ _) .nil)) (.cons Tryz.func157 rfl Tryz.call157 (.cons Tryz.func192 rfl Tryz.call192 (.cons Tryz.func193 rfl Tryz.call193 (.cons Tryz.func194 rfl Tryz.call194 (.cons Tryz.func195 rfl Tryz.call195 (.cons Tryz.func196 rfl Tryz.call196 .nil)))))) Tryz.func112 rfl rfl rfl (.inl rfl) (by kernel_rfl)
def KI:AQ:=⟨6000,Ab Tryz.f120,Tryz.f120.ntmps,Tryz.f120.results.toList,[],⟨[.mem (List.replicate 5 .u64) 96 true,.mem (List.replicate 5 .u64) 96 false,.mem (List.replicate 5 .u64) 96 false,.int .i64],false,fun _=>True,[(0,(List.replicate 5 .u64),z1)],[],[.ptrP 0]⟩⟩
def KY:Cx:=GJ [] [(163,Mc Tryz.f163)]
def DV:Az:=KI.sum KY
theorem EW:Bp Tryz.prog GB GC 120 (.one DV):=AQ.fin hG .nil (.cons Tryz.func163 rfl Tryz.call163 .nil) Tryz.func120 rfl rfl rfl (.inl rfl) (by kernel_rfl)
def Hr:AQ:=⟨6000,Ab Tryz.f210,Tryz.f210.ntmps,Tryz.f210.results.toList,[],⟨[.mem (List.replicate 5 .u64) 0 true,.mem (List.replicate 5 .u64) 0 true,.int .i64],false,fun _=>True,[(0,List.replicate 5 .u64,z1),(1,List.replicate 5 .u64,z1)],[],[]⟩⟩
def Ht:Cx:=GJ [] [(163,Mc Tryz.f163)]
def Ld:Az:=Hr.sum Ht
theorem Tg:Bp Tryz.prog GB GC 210 (.one Ld):=AQ.fin hG .nil (.cons Tryz.func163 rfl Tryz.call163 .nil) Tryz.func210 rfl rfl rfl (.inl rfl) (by kernel_rfl)
def DC:AQ:=⟨6000,Ab Tryz.f200,Tryz.f200.ntmps,Tryz.f200.results.toList,[],⟨[.mem (List.replicate 5 .u64) 1 false],false,fun _=>True,[],[(List.replicate 32 .u8,z1)],[.slF 0 32 32]⟩⟩
def C9:Cx:=GJ [(197,.one EM)] [(212,Mc Tryz.f212),(215,Mc Tryz.f215),(158,Mc Tryz.f158),(216,Mc Tryz.f216)]
def CG:Az:=DC.sum C9
theorem KX:Bp Tryz.prog GB GC 200 (.one CG):=AQ.fin hG (.cons (k:=197) rfl (I6 hG) Tryz.call197 (AQ.len _ _) .nil) (.cons Tryz.func212 rfl Tryz.call212 (.cons Tryz.func215 rfl Tryz.call215 (.cons Tryz.func158 rfl Tryz.call158 (.cons Tryz.func216 rfl Tryz.call216 .nil)))) Tryz.func200 rfl rfl rfl (.inl rfl) (by kernel_rfl)
def EO:AQ:=⟨6000,Ab Tryz.f111,Tryz.f111.ntmps,Tryz.f111.results.toList,[],⟨[.mem (List.replicate 5 .u64) 1 true,.sl (List.replicate 32 .u8) 0 false],false,fun _=>True,[(0,List.replicate 5 .u64,z1)],[],[.ptrP 0,.nilI]⟩⟩
def EI:Cx:=GJ [] [(156,Mc Tryz.f156)]
def Df:Az:=EO.sum EI
theorem JF:Bp Tryz.prog GB GC 111 (.one Df):=AQ.fin hG .nil (.cons Tryz.func156 rfl Tryz.call156 .nil) Tryz.func111 rfl rfl rfl (.inl rfl) (by kernel_rfl)
def Dz:AQ:=⟨6000,Ab Tryz.f211,Tryz.f211.ntmps,Tryz.f211.results.toList,[],⟨[.mem (List.replicate 5 .u64) 3 true,.mem (List.replicate 5 .u64) 3 false,.int .i64],false,fun _=>True,[(0,List.replicate 5 .u64,z1)],[],[]⟩⟩
def Ay:I7:=⟨6000,Sj 0 (Ab Tryz.f211),Tryz.f211.ntmps,0,[],⟨[.int .u64,.int .u64,.int .u64,.int .u64,.int .u64,.int .i64,.int .i64],true,fun _=>True,[],[],[]⟩,[6,7,8,9,10,46,47],[11,12,13,14,15,16,17,18,19,20,21,22,23,24,25,48,49,50,51,52,53,54,55,56,57,58,59,60,61,62,63,64,65,66,67,68,69,70,71,72,73,74,75,76,77,78,79,80,81,82,83,84,85,86,87,88,89,90,91,92,93,94,95,96,97,98,99,100,101,102,103,104,105,106,107,108,109,110,111,112,113,114,115,116,117,118,119,120,121,122,123,124,125,126,127,128,129,130,131,132,133,134,135,136,137,138,139,140,141,142,143,144,145,146,147,148,149,150,151,152,153,154,155,156,157,158,159,160,161,162,163,164,165,166,167,168,169,170,171,172],(fun a=>((a.getD 5 []).getD 0 0-(a.getD 6 []).getD 0 0).toNat+1)⟩
def BD:Cx:=GJ [(172,.one Ef),(197,.one EM)] [(192,Mc Tryz.f192),(193,Mc Tryz.f193),(194,Mc Tryz.f194),(195,Mc Tryz.f195),(196,Mc Tryz.f196)]
def Bb:Cx:=aL ((1000211,.one (Ay.sum BD (Ay.pre BD))) :: [(172,.one Ef),(197,.one EM)]) [(192,Mc Tryz.f192),(193,Mc Tryz.f193),(194,Mc Tryz.f194),(195,Mc Tryz.f195),(196,Mc Tryz.f196)] [(Ay.id,⟨1000211,Ay.ps,Ay.ss,Ay.cl,Ay.nt⟩)]
def Kw:Az:=Dz.sumH Bb (fun ins=>Cn Bb.T (Dz.tree Bb) (A8 ins))
omit hG in
theorem Ue:Ay.chk BD=true:=by kernel_rfl
theorem Qf:Bp Tryz.prog GB GC 211 (.one Kw):=AQ.finL hG (i:=Dz) (l:=Ay) (T:=[(172,.one Ef),(197,.one EM)]) (T':=[(172,.one Ef),(197,.one EM)]) (L:=[(192,Mc Tryz.f192),(193,Mc Tryz.f193),(194,Mc Tryz.f194),(195,Mc Tryz.f195),(196,Mc Tryz.f196)]) (L':=[(192,Mc Tryz.f192),(193,Mc Tryz.f193),(194,Mc Tryz.f194),(195,Mc Tryz.f195),(196,Mc Tryz.f196)]) (lid:=1000211) (Cb:=BD) (C1:=Bb) (pl:=(Ay.pre BD)) (pre:=(fun ins=>Cn Bb.T (Dz.tree Bb) (A8 ins))) (by decide) rfl rfl (.cons (k:=172) rfl (Jc hG) Tryz.call172 (AQ.len _ _) (.cons (k:=197) rfl (I6 hG) Tryz.call197 (AQ.len _ _) .nil)) (.cons Tryz.func192 rfl Tryz.call192 (.cons Tryz.func193 rfl Tryz.call193 (.cons Tryz.func194 rfl Tryz.call194 (.cons Tryz.func195 rfl Tryz.call195 (.cons Tryz.func196 rfl Tryz.call196 .nil))))) (.cons Tryz.func192 rfl Tryz.call192 (.cons Tryz.func193 rfl Tryz.call193 (.cons Tryz.func194 rfl Tryz.call194 (.cons Tryz.func195 rfl Tryz.call195 (.cons Tryz.func196 rfl Tryz.call196 .nil))))) Tryz.func211 rfl rfl rfl (.inl rfl) (.inl rfl) (fun _ _ h=>h) (.cons (k:=172) rfl (Jc hG) Tryz.call172 (AQ.len _ _) (.cons (k:=197) rfl (I6 hG) Tryz.call197 (AQ.len _ _) .nil)) Ue (by kernel_rfl) (by kernel_rfl) (by kernel_rfl) (fun _ _ h=>h)
def Ea:AQ:=⟨6000,Ab Tryz.f182,Tryz.f182.ntmps,Tryz.f182.results.toList,[],⟨[.mem (List.replicate 5 .u64) 96 false],false,fun _=>True,[],[],[.int .i64 z0]⟩⟩
def Dr:Cx:=GJ [(200,.one CG)] []
def EZ:Az:=Ea.sum Dr
theorem K5:Bp Tryz.prog GB GC 182 (.one EZ):=AQ.fin hG (.cons (k:=200) rfl (KX hG) Tryz.call200 (AQ.len _ _) .nil) .nil Tryz.func182 rfl rfl rfl (.inl rfl) (by kernel_rfl)
def I9:AQ:=⟨6000,Ab Tryz.f161,Tryz.f161.ntmps,Tryz.f161.results.toList,[],⟨[.mem (List.replicate 5 .u64) 96 false,.mem (List.replicate 5 .u64) 96 false],false,fun _=>True,[],[],[.int .i64 z0]⟩⟩
def Gy:Cx:=GJ [(200,.one CG)] [(201,Mc Tryz.f201)]
def JA:Az:=I9.sum Gy
theorem S9:Bp Tryz.prog GB GC 161 (.one JA):=AQ.fin hG (.cons (k:=200) rfl (KX hG) Tryz.call200 (AQ.len _ _) .nil) (.cons Tryz.func201 rfl Tryz.call201 .nil) Tryz.func161 rfl rfl rfl (.inl rfl) (by kernel_rfl)
def Jn:AQ:=⟨6000,Ab Tryz.f162,Tryz.f162.ntmps,Tryz.f162.results.toList,[],⟨[.mem (List.replicate 5 .u64) 96 true,.mem (List.replicate 5 .u64) 96 false],false,fun _=>True,[(0,(List.replicate 5 .u64),z1)],[],[.ptrP 0]⟩⟩
def Jl:Cx:=GJ [(119,.one ED),(120,.one DV),(182,.one EZ)] []
def Jj:Az:=Jn.sum Jl
theorem Qv:Bp Tryz.prog GB GC 162 (.one Jj):=AQ.fin hG (.cons (k:=119) rfl (Fy hG) Tryz.call119 (AQ.len _ _) (.cons (k:=120) rfl (EW hG) Tryz.call120 (AQ.len _ _) (.cons (k:=182) rfl (K5 hG) Tryz.call182 (AQ.len _ _) .nil))) .nil Tryz.func162 rfl rfl rfl (.inl rfl) (by kernel_rfl)
def KQ:AQ:=⟨6000,Ab Tryz.f180,Tryz.f180.ntmps,Tryz.f180.results.toList,[],⟨[.mem (List.replicate 5 .u64) 96 true,.mem (List.replicate 5 .u64) 96 false],false,fun _=>True,[(0,(List.replicate 5 .u64),z1)],[],[.ptrP 0]⟩⟩
def KG:Cx:=GJ [(112,.one DX),(115,.one BJ),(211,.one Kw)] [(199,Mc Tryz.f199)]
def IY:Az:=KQ.sumP KG
theorem NH:Bp Tryz.prog GB GC 180 (.one IY):=AQ.finP hG (.cons (k:=112) rfl (EU hG) Tryz.call112 (AQ.len _ _) (.cons (k:=115) rfl (BP hG) Tryz.call115 (AQ.len _ _) (.cons (k:=211) rfl (Qf hG) Tryz.call211 (AQ.lenH _ _ _) .nil))) (.cons Tryz.func199 rfl Tryz.call199 .nil) Tryz.func180 rfl rfl rfl (.inl rfl) (by kernel_rfl)
def Jf:AQ:=⟨6000,Ab Tryz.f160,Tryz.f160.ntmps,Tryz.f160.results.toList,[],⟨[.mem (List.replicate 5 .u64) 96 true,.mem (List.replicate 5 .u64) 96 false],false,fun _=>True,[(0,(List.replicate 5 .u64),z1)],[],[.ptrP 0]⟩⟩
def Jb:Cx:=GJ [(112,.one DX),(115,.one BJ),(211,.one Kw)] [(199,Mc Tryz.f199)]
def Je:Az:=Jf.sumP Jb
theorem Qq:Bp Tryz.prog GB GC 160 (.one Je):=AQ.finP hG (.cons (k:=112) rfl (EU hG) Tryz.call112 (AQ.len _ _) (.cons (k:=115) rfl (BP hG) Tryz.call115 (AQ.len _ _) (.cons (k:=211) rfl (Qf hG) Tryz.call211 (AQ.lenH _ _ _) .nil))) (.cons Tryz.func199 rfl Tryz.call199 .nil) Tryz.func160 rfl rfl rfl (.inl rfl) (by kernel_rfl)
def DL:AQ:=⟨6000,Ab Tryz.f118,Tryz.f118.ntmps,Tryz.f118.results.toList,UG,⟨[.mem (List.replicate 5 .u64) 96 true,.mem (List.replicate 5 .u64) 96 false,.mem (List.replicate 5 .u64) 96 false],false,fun _=>True,[(0,(List.replicate 5 .u64),z1)],[],[.ptrP 0,.int .i64 z0]⟩⟩
def Cu:Cx:=GJ [(112,.one DX),(115,.one BJ),(119,.one ED),(120,.one DV),(160,.one Je),(161,.one JA),(162,.one Jj)] []
def EB:Az:=DL.sumP Cu
theorem LG:Bp Tryz.prog GB GC 118 (.one EB):=AQ.finP hG (.cons (k:=112) rfl (EU hG) Tryz.call112 (AQ.len _ _) (.cons (k:=115) rfl (BP hG) Tryz.call115 (AQ.len _ _) (.cons (k:=119) rfl (Fy hG) Tryz.call119 (AQ.len _ _) (.cons (k:=120) rfl (EW hG) Tryz.call120 (AQ.len _ _) (.cons (k:=160) rfl (Qq hG) Tryz.call160 (AQ.lenP _ _) (.cons (k:=161) rfl (S9 hG) Tryz.call161 (AQ.len _ _) (.cons (k:=162) rfl (Qv hG) Tryz.call162 (AQ.len _ _) .nil))))))) .nil Tryz.func118 rfl rfl rfl (.inr rfl) (by kernel_rfl)
def LU:AQ:=⟨6000,Ab Tryz.f114,Tryz.f114.ntmps,Tryz.f114.results.toList,[],⟨[],false,fun _=>True,[],[((List.replicate 5 .u64),z1)],[.ptrF 0]⟩⟩
def LX:Cx:=GJ [(122,.one Gc)] []
def JN:Az:=LU.sum LX
theorem Oa:Bp Tryz.prog GB GC 114 (.one JN):=AQ.fin hG (.cons (k:=122) rfl (JU hG) Tryz.call122 (AQ.len _ _) .nil) .nil Tryz.func114 rfl rfl rfl (.inl rfl) (by kernel_rfl)
def Mx:AQ:=⟨6000,Ab Tryz.f116,Tryz.f116.ntmps,Tryz.f116.results.toList,[],⟨[],false,fun _=>True,[],[((List.replicate 5 .u64),z1)],[.ptrF 0]⟩⟩
def NB:Cx:=GJ [(111,.one Df)] []
def Iz:Az:=Mx.sum NB
theorem MO:Bp Tryz.prog GB GC 116 (.one Iz):=AQ.fin hG (.cons (k:=111) rfl (JF hG) Tryz.call111 (AQ.len _ _) .nil) .nil Tryz.func116 rfl rfl rfl (.inl rfl) (by kernel_rfl)
def Np:AQ:=⟨6000,Ab Tryz.f209,Tryz.f209.ntmps,Tryz.f209.results.toList,[],⟨[],false,fun _=>True,[],[((List.replicate 5 .u64),z1)],[.ptrF 0]⟩⟩
def Ng:Cx:=GJ [(116,.one Iz),(117,.one DF)] []
def K4:Az:=Np.sum Ng
theorem QY:Bp Tryz.prog GB GC 209 (.one K4):=AQ.fin hG (.cons (k:=116) rfl (MO hG) Tryz.call116 (AQ.len _ _) (.cons (k:=117) rfl (EA hG) Tryz.call117 (AQ.len _ _) .nil)) .nil Tryz.func209 rfl rfl rfl (.inl rfl) (by kernel_rfl)
end
end
noncomputable section
open Go
section
variable{GB:Nat}{GC:Nat→Nat→Option Value}{ad:Nat→Nat×Nat}(hG:Jk GB GC ad)
include hG
def DT:AQ:=⟨6000,Ab Tryz.f185,Tryz.f185.ntmps,Tryz.f185.results.toList,[],⟨[.mem (List.replicate 15 .u64) 173 true],false,fun _=>True,[(0,(List.replicate 15 .u64),z1)],[],[.ptrP 0]⟩⟩
def Da:Cx:=GJ [(122,.one Gc),(179,.one LJ)] []
def Ga:Az:=DT.sumP Da
theorem NY:Bp Tryz.prog GB GC 185 (.one Ga):=AQ.finP hG (.cons (k:=122) rfl (JU hG) Tryz.call122 (AQ.len _ _) (.cons (k:=179) rfl (Tc hG) Tryz.call179 (AQ.len _ _) .nil)) .nil Tryz.func185 rfl rfl rfl (.inl rfl) (by kernel_rfl)
def FH:AQ:=⟨6000,Ab Tryz.f187,Tryz.f187.ntmps,Tryz.f187.results.toList,[],⟨[.mem (List.replicate 15 .u64) 173 true,.mem (List.replicate 15 .u64) 173 false,.mem (List.replicate 15 .u64) 173 false,.int .i64],false,fun _=>True,[(0,(List.replicate 15 .u64),z1)],[],[.ptrP 0]⟩⟩
def FI:Cx:=GJ [(120,.one DV)] []
def FQ:Az:=FH.sumP FI
theorem MU:Bp Tryz.prog GB GC 187 (.one FQ):=AQ.finP hG (.cons (k:=120) rfl (EW hG) Tryz.call120 (AQ.len _ _) .nil) .nil Tryz.func187 rfl rfl rfl (.inl rfl) (by kernel_rfl)
def Dw:AQ:=⟨6000,Ab Tryz.f188,Tryz.f188.ntmps,Tryz.f188.results.toList,[],⟨[.mem (List.replicate 15 .u64) 173 true,.int .i64],false,fun _=>True,[(0,(List.replicate 15 .u64),z1)],[],[.ptrP 0]⟩⟩
def Dy:Cx:=GJ [(119,.one ED),(120,.one DV),(210,.one Ld)] []
def Ey:Az:=Dw.sumP Dy
theorem MH:Bp Tryz.prog GB GC 188 (.one Ey):=AQ.finP hG (.cons (k:=119) rfl (Fy hG) Tryz.call119 (AQ.len _ _) (.cons (k:=120) rfl (EW hG) Tryz.call120 (AQ.len _ _) (.cons (k:=210) rfl (Tg hG) Tryz.call210 (AQ.len _ _) .nil))) .nil Tryz.func188 rfl rfl rfl (.inl rfl) (by kernel_rfl)
def GQ:AQ:=⟨6000,Ab Tryz.f177,Tryz.f177.ntmps,Tryz.f177.results.toList,[],⟨[.mem (List.replicate 20 .u64) 162 true,.mem (List.replicate 20 .u64) 98 false],false,fun _=>True,[(0,(List.replicate 20 .u64),z1)],[],[.ptrP 0]⟩⟩
def GK:Cx:=GJ [(113,.one BV),(115,.one BJ),(117,.one DF),(121,.one Gb),(209,.one K4)] []
def GY:Az:=GQ.sumP GK
theorem NZ:Bp Tryz.prog GB GC 177 (.one GY):=AQ.finP hG (.cons (k:=113) rfl (Ct hG) Tryz.call113 (AQ.len _ _) (.cons (k:=115) rfl (BP hG) Tryz.call115 (AQ.len _ _) (.cons (k:=117) rfl (EA hG) Tryz.call117 (AQ.len _ _) (.cons (k:=121) rfl (JO hG) Tryz.call121 (AQ.len _ _) (.cons (k:=209) rfl (QY hG) Tryz.call209 (AQ.len _ _) .nil))))) .nil Tryz.func177 rfl rfl rfl (.inl rfl) (by kernel_rfl)
def FN:AQ:=⟨6000,Ab Tryz.f207,Tryz.f207.ntmps,Tryz.f207.results.toList,[],⟨[.mem (List.replicate 15 .u64) 173 true,.mem (List.replicate 20 .u64) 98 false],false,fun _=>True,[(0,(List.replicate 15 .u64),z1)],[],[.ptrP 0]⟩⟩
def FL:Cx:=GJ [(113,.one BV),(115,.one BJ),(117,.one DF),(180,.one IY),(209,.one K4)] []
def FP:Az:=FN.sumP FL
theorem MS:Bp Tryz.prog GB GC 207 (.one FP):=AQ.finP hG (.cons (k:=113) rfl (Ct hG) Tryz.call113 (AQ.len _ _) (.cons (k:=115) rfl (BP hG) Tryz.call115 (AQ.len _ _) (.cons (k:=117) rfl (EA hG) Tryz.call117 (AQ.len _ _) (.cons (k:=180) rfl (NH hG) Tryz.call180 (AQ.lenP _ _) (.cons (k:=209) rfl (QY hG) Tryz.call209 (AQ.len _ _) .nil))))) .nil Tryz.func207 rfl rfl rfl (.inl rfl) (by kernel_rfl)
def IR:AQ:=⟨6000,Ab Tryz.f138,Tryz.f138.ntmps,Tryz.f138.results.toList,[],⟨[.mem (List.replicate 20 .u64) 176 true,.mem (List.replicate 20 .u64) 98 false,.mem (List.replicate 20 .u64) 162 false],false,fun _=>True,[(0,(List.replicate 20 .u64),z1)],[],[.ptrP 0]⟩⟩
def IL:Cx:=GJ [(113,.one BV),(115,.one BJ),(117,.one DF)] []
def IQ:Az:=IR.sumP IL
theorem PS:Bp Tryz.prog GB GC 138 (.one IQ):=AQ.finP hG (.cons (k:=113) rfl (Ct hG) Tryz.call113 (AQ.len _ _) (.cons (k:=115) rfl (BP hG) Tryz.call115 (AQ.len _ _) (.cons (k:=117) rfl (EA hG) Tryz.call117 (AQ.len _ _) .nil))) .nil Tryz.func138 rfl rfl rfl (.inl rfl) (by kernel_rfl)
def FM:AQ:=⟨6000,Ab Tryz.f141,Tryz.f141.ntmps,Tryz.f141.results.toList,[],⟨[.mem (List.replicate 20 .u64) 176 true,.mem (List.replicate 20 .u64) 98 false,.mem (List.replicate 15 .u64) 173 false],false,fun _=>True,[(0,(List.replicate 20 .u64),z1)],[],[.ptrP 0]⟩⟩
def FJ:Cx:=GJ [(113,.one BV),(115,.one BJ),(117,.one DF)] []
def EC:Az:=FM.sumP FJ
theorem Io:Bp Tryz.prog GB GC 141 (.one EC):=AQ.finP hG (.cons (k:=113) rfl (Ct hG) Tryz.call113 (AQ.len _ _) (.cons (k:=115) rfl (BP hG) Tryz.call115 (AQ.len _ _) (.cons (k:=117) rfl (EA hG) Tryz.call117 (AQ.len _ _) .nil))) .nil Tryz.func141 rfl rfl rfl (.inl rfl) (by kernel_rfl)
def Gj:AQ:=⟨6000,Ab Tryz.f135,Tryz.f135.ntmps,Tryz.f135.results.toList,[],⟨[.mem (List.replicate 20 .u64) 176 true,.mem (List.replicate 15 .u64) 179 false],false,fun _=>True,[(0,(List.replicate 20 .u64),z1)],[],[.ptrP 0]⟩⟩
def Gm:Cx:=GJ [(112,.one DX),(113,.one BV),(117,.one DF)] []
def Gq:Az:=Gj.sumP Gm
theorem Nw:Bp Tryz.prog GB GC 135 (.one Gq):=AQ.finP hG (.cons (k:=112) rfl (EU hG) Tryz.call112 (AQ.len _ _) (.cons (k:=113) rfl (Ct hG) Tryz.call113 (AQ.len _ _) (.cons (k:=117) rfl (EA hG) Tryz.call117 (AQ.len _ _) .nil))) .nil Tryz.func135 rfl rfl rfl (.inl rfl) (by kernel_rfl)
def G7:AQ:=⟨6000,Ab Tryz.f136,Tryz.f136.ntmps,Tryz.f136.results.toList,[],⟨[.mem (List.replicate 20 .u64) 98 true,.mem (List.replicate 20 .u64) 176 false],false,fun _=>True,[(0,(List.replicate 20 .u64),z1)],[],[.ptrP 0]⟩⟩
def G6:Cx:=GJ [(115,.one BJ)] []
def Dp:Az:=G7.sumP G6
theorem Gp:Bp Tryz.prog GB GC 136 (.one Dp):=AQ.finP hG (.cons (k:=115) rfl (BP hG) Tryz.call115 (AQ.len _ _) .nil) .nil Tryz.func136 rfl rfl rfl (.inl rfl) (by kernel_rfl)
def IM:AQ:=⟨6000,Ab Tryz.f151,Tryz.f151.ntmps,Tryz.f151.results.toList,[],⟨[.mem (List.replicate 15 .u64) 179 true,.mem (List.replicate 20 .u64) 98 false],false,fun _=>True,[(0,(List.replicate 15 .u64),z1)],[],[.ptrP 0]⟩⟩
def IU:Cx:=GJ [(121,.one Gb)] []
def IK:Az:=IM.sumP IU
theorem Pe:Bp Tryz.prog GB GC 151 (.one IK):=AQ.finP hG (.cons (k:=121) rfl (JO hG) Tryz.call121 (AQ.len _ _) .nil) .nil Tryz.func151 rfl rfl rfl (.inl rfl) (by kernel_rfl)
def Gi:AQ:=⟨6000,Ab Tryz.f143,Tryz.f143.ntmps,Tryz.f143.results.toList,[],⟨[.mem (List.replicate 15 .u64) 179 true,.mem (List.replicate 20 .u64) 176 false],false,fun _=>True,[(0,(List.replicate 15 .u64),z1)],[],[.ptrP 0]⟩⟩
def Gl:Cx:=GJ [(115,.one BJ)] []
def Gn:Az:=Gi.sumP Gl
theorem OG:Bp Tryz.prog GB GC 143 (.one Gn):=AQ.finP hG (.cons (k:=115) rfl (BP hG) Tryz.call115 (AQ.len _ _) .nil) .nil Tryz.func143 rfl rfl rfl (.inl rfl) (by kernel_rfl)
def Cj:AQ:=⟨6000,Ab Tryz.f148,Tryz.f148.ntmps,Tryz.f148.results.toList,[],⟨[.mem (List.replicate 20 .u64) 98 true,.mem (List.replicate 20 .u64) 98 false],false,fun _=>True,[(0,(List.replicate 20 .u64),z1)],[],[.ptrP 0]⟩⟩
def CK:Cx:=GJ [] []
def Dh:Az:=Cj.sumP CK
theorem JE:Bp Tryz.prog GB GC 148 (.one Dh):=AQ.finP hG .nil .nil Tryz.func148 rfl rfl rfl (.inl rfl) (by kernel_rfl)
def Cg:AQ:=⟨6000,Ab Tryz.f183,Tryz.f183.ntmps,Tryz.f183.results.toList,[],⟨[.mem (List.replicate 120 .u64) 4 true,.mem (List.replicate 20 .u64) 5 false],false,fun _=>True,[(0,List.replicate 120 .u64,z1)],[],[]⟩⟩
def DK:Cx:=GJ [(136,.one Dp),(141,.one EC),(207,.one FP)] []
def ET:Az:=Cg.sumP DK
theorem Ko:Bp Tryz.prog GB GC 183 (.one ET):=AQ.finP hG (.cons (k:=136) rfl (Gp hG) Tryz.call136 (AQ.lenP _ _) (.cons (k:=141) rfl (Io hG) Tryz.call141 (AQ.lenP _ _) (.cons (k:=207) rfl (MS hG) Tryz.call207 (AQ.lenP _ _) .nil))) .nil Tryz.func183 rfl rfl rfl (.inl rfl) (by kernel_rfl)
def Av:AQ:=⟨6000,Ab Tryz.f150,Tryz.f150.ntmps,Tryz.f150.results.toList,[],⟨[.mem (List.replicate 120 .u64) 4 false,.mem (List.replicate 15 .u64) 5 true,.int .i8],false,fun _=>True,[(1,List.replicate 15 .u64,z1)],[],[]⟩⟩
def BU:Cx:=GJ [(185,.one Ga),(187,.one FQ),(188,.one Ey)] [(186,Mc Tryz.f186)]
def D9:Az:=Av.sumP BU
theorem Jw:Bp Tryz.prog GB GC 150 (.one D9):=AQ.finP hG (.cons (k:=185) rfl (NY hG) Tryz.call185 (AQ.lenP _ _) (.cons (k:=187) rfl (MU hG) Tryz.call187 (AQ.lenP _ _) (.cons (k:=188) rfl (MH hG) Tryz.call188 (AQ.lenP _ _) .nil))) (.cons Tryz.func186 rfl Tryz.call186 .nil) Tryz.func150 rfl rfl rfl (.inl rfl) (by kernel_rfl)
def Jd:AQ:=⟨6000,Ab Tryz.f178,Tryz.f178.ntmps,Tryz.f178.results.toList,[],⟨[.mem (List.replicate 20 .u64) 98 true,.mem (List.replicate 20 .u64) 98 false,.mem (List.replicate 20 .u64) 98 false],false,fun _=>True,[(0,(List.replicate 20 .u64),z1)],[],[.ptrP 0]⟩⟩
def JX:Cx:=GJ [(136,.one Dp),(138,.one IQ),(177,.one GY)] [(130,Mc Tryz.f130)]
def Ja:Az:=Jd.sumP JX
theorem Qt:Bp Tryz.prog GB GC 178 (.one Ja):=AQ.finP hG (.cons (k:=136) rfl (Gp hG) Tryz.call136 (AQ.lenP _ _) (.cons (k:=138) rfl (PS hG) Tryz.call138 (AQ.lenP _ _) (.cons (k:=177) rfl (NZ hG) Tryz.call177 (AQ.lenP _ _) .nil))) (.cons Tryz.func130 rfl Tryz.call130 .nil) Tryz.func178 rfl rfl rfl (.inl rfl) (by kernel_rfl)
def Aq:AQ:=⟨6000,Ab Tryz.f104,Tryz.f104.ntmps,Tryz.f104.results.toList,[],⟨[.mem (List.replicate 20 .u64) 1 false],false,fun _=>True,[],[(List.replicate 32 .u8,z1)],[.slF 0 32 32]⟩⟩
def AU:Cx:=GJ [(115,.one BJ),(180,.one IY),(200,.one CG),(182,.one EZ)] [(145,Mc Tryz.f145),(130,Mc Tryz.f130),(181,Mc Tryz.f181)]
def BL:Az:=Aq.sumP AU
theorem Ib:Bp Tryz.prog GB GC 104 (.one BL):=AQ.finP hG (.cons (k:=115) rfl (BP hG) Tryz.call115 (AQ.len _ _) (.cons (k:=180) rfl (NH hG) Tryz.call180 (AQ.lenP _ _) (.cons (k:=200) rfl (KX hG) Tryz.call200 (AQ.len _ _) (.cons (k:=182) rfl (K5 hG) Tryz.call182 (AQ.len _ _) .nil)))) (.cons Tryz.func145 rfl Tryz.call145 (.cons Tryz.func130 rfl Tryz.call130 (.cons Tryz.func181 rfl Tryz.call181 .nil))) Tryz.func104 rfl rfl rfl (.inl rfl) (by kernel_rfl)
end
end
noncomputable section
open Go
section
variable{GB:Nat}{GC:Nat→Nat→Option Value}{ad:Nat→Nat×Nat}(hG:Jk GB GC ad)
include hG
def D7:AQ:=⟨6000,Ab Tryz.f174,Tryz.f174.ntmps,Tryz.f174.results.toList,[],⟨[.mem ([.u64]) 51 true,.int .u64,.int .u64,.int .u64],false,fun _=>True,[(0,([.u64]),z1)],[],[]⟩⟩
def Dv:Cx:=GJ [] []
def BI:Az:=D7.sum Dv
theorem Dm:Bp Tryz.prog GB GC 174 (.one BI):=AQ.fin hG .nil .nil Tryz.func174 rfl rfl rfl (.inl rfl) (by kernel_rfl)
def A7:AQ:=⟨6000,Ab Tryz.f129,Tryz.f129.ntmps,Tryz.f129.results.toList,[],⟨[.mem (List.replicate 4 .u64) 1 true,.mem (List.replicate 4 .u64) 1 false],false,fun _=>True,[(0,List.replicate 4 .u64,z1)],[],[]⟩⟩
def A9:Cx:=GJ [(172,.one Ef),(174,.one BI)] []
def Cr:Az:=A7.sum A9
theorem Hz:Bp Tryz.prog GB GC 129 (.one Cr):=AQ.fin hG (.cons (k:=172) rfl (Jc hG) Tryz.call172 (AQ.len _ _) (.cons (k:=174) rfl (Dm hG) Tryz.call174 (AQ.len _ _) .nil)) .nil Tryz.func129 rfl rfl rfl (.inl rfl) (by kernel_rfl)
def CB:AQ:=⟨6000,Ab Tryz.f128,Tryz.f128.ntmps,Tryz.f128.results.toList,[],⟨[.mem (List.replicate 4 .u64) 80 true,.mem (List.replicate 32 .u8) 49 false],false,fun _=>True,[(0,(List.replicate 4 .u64),z1)],[],[]⟩⟩
def CE:Cx:=GJ [] []
def Ce:Az:=CB.sum CE
theorem Il:Bp Tryz.prog GB GC 128 (.one Ce):=AQ.fin hG .nil .nil Tryz.func128 rfl rfl rfl (.inl rfl) (by kernel_rfl)
def Ba:AQ:=⟨6000,Ab Tryz.f168,Tryz.f168.ntmps,Tryz.f168.results.toList,[],⟨[.mem (List.replicate 4 .u64) 81 true,.mem (List.replicate 4 .u64) 81 false,.mem (List.replicate 4 .u64) 81 false],false,fun _=>True,[(0,(List.replicate 4 .u64),z1)],[],[]⟩⟩
def BX:Cx:=GJ [(174,.one BI)] []
def FD:Az:=Ba.sum BX
theorem PL:Bp Tryz.prog GB GC 168 (.one FD):=AQ.fin hG (.cons (k:=174) rfl (Dm hG) Tryz.call174 (AQ.len _ _) .nil) .nil Tryz.func168 rfl rfl rfl (.inl rfl) (by kernel_rfl)
def Bz:AQ:=⟨6000,Ab Tryz.f169,Tryz.f169.ntmps,Tryz.f169.results.toList,[],⟨[.mem (List.replicate 4 .u64) 81 true,.mem (List.replicate 4 .u64) 81 false,.mem (List.replicate 4 .u64) 81 false],false,fun _=>True,[(0,(List.replicate 4 .u64),z1)],[],[]⟩⟩
def Bw:Cx:=GJ [(172,.one Ef),(174,.one BI)] []
def FC:Az:=Bz.sum Bw
theorem PW:Bp Tryz.prog GB GC 169 (.one FC):=AQ.fin hG (.cons (k:=172) rfl (Jc hG) Tryz.call172 (AQ.len _ _) (.cons (k:=174) rfl (Dm hG) Tryz.call174 (AQ.len _ _) .nil)) .nil Tryz.func169 rfl rfl rfl (.inl rfl) (by kernel_rfl)
def BG:AQ:=⟨6000,Ab Tryz.f189,Tryz.f189.ntmps,Tryz.f189.results.toList,[],⟨[.mem (List.replicate 4 .u64) 234 true,.mem (List.replicate 4 .u64) 81 false],false,fun _=>True,[(0,(List.replicate 4 .u64),z1)],[],[]⟩⟩
def BF:Cx:=GJ [(172,.one Ef),(174,.one BI)] []
def DJ:Az:=BG.sum BF
theorem Km:Bp Tryz.prog GB GC 189 (.one DJ):=AQ.fin hG (.cons (k:=172) rfl (Jc hG) Tryz.call172 (AQ.len _ _) (.cons (k:=174) rfl (Dm hG) Tryz.call174 (AQ.len _ _) .nil)) .nil Tryz.func189 rfl rfl rfl (.inl rfl) (by kernel_rfl)
def CQ:AQ:=⟨6000,Ab Tryz.f190,Tryz.f190.ntmps,Tryz.f190.results.toList,[],⟨[.mem (List.replicate 32 .u8) 49 true,.mem (List.replicate 4 .u64) 80 false],false,fun _=>True,[(0,(List.replicate 32 .u8),z1)],[],[]⟩⟩
def CO:Cx:=GJ [] []
def ER:Az:=CQ.sum CO
theorem NV:Bp Tryz.prog GB GC 190 (.one ER):=AQ.fin hG .nil .nil Tryz.func190 rfl rfl rfl (.inl rfl) (by kernel_rfl)
def JG:AQ:=⟨6000,Ab Tryz.f152,Tryz.f152.ntmps,Tryz.f152.results.toList,[],⟨[.mem (List.replicate 4 .u64) 83 true,.mem (List.replicate 4 .u64) 83 false],false,fun _=>True,[(0,(List.replicate 4 .u64),z1)],[],[.ptrP 0]⟩⟩
def JH:Cx:=GJ [] []
def Gr:Az:=JG.sum JH
theorem Qc:Bp Tryz.prog GB GC 152 (.one Gr):=AQ.fin hG .nil .nil Tryz.func152 rfl rfl rfl (.inl rfl) (by kernel_rfl)
def Gs:AQ:=⟨6000,Ab Tryz.f125,Tryz.f125.ntmps,Tryz.f125.results.toList,[],⟨[.mem (List.replicate 4 .u64) 83 true,.mem (List.replicate 4 .u64) 83 false,.mem (List.replicate 4 .u64) 83 false],false,fun _=>True,[(0,(List.replicate 4 .u64),z1)],[],[.ptrP 0]⟩⟩
def Gt:Cx:=GJ [(168,.one FD)] []
def DN:Az:=Gs.sum Gt
theorem LF:Bp Tryz.prog GB GC 125 (.one DN):=AQ.fin hG (.cons (k:=168) rfl (PL hG) Tryz.call168 (AQ.len _ _) .nil) .nil Tryz.func125 rfl rfl rfl (.inl rfl) (by kernel_rfl)
def Ee:AQ:=⟨6000,Ab Tryz.f126,Tryz.f126.ntmps,Tryz.f126.results.toList,[],⟨[.mem (List.replicate 4 .u64) 83 true,.mem (List.replicate 4 .u64) 83 false,.mem (List.replicate 4 .u64) 83 false],false,fun _=>True,[(0,(List.replicate 4 .u64),z1)],[],[.ptrP 0]⟩⟩
def Eg:Cx:=GJ [(169,.one FC)] []
def Cf:Az:=Ee.sum Eg
theorem Jp:Bp Tryz.prog GB GC 126 (.one Cf):=AQ.fin hG (.cons (k:=169) rfl (PW hG) Tryz.call169 (AQ.len _ _) .nil) .nil Tryz.func126 rfl rfl rfl (.inl rfl) (by kernel_rfl)
def GH:AQ:=⟨6000,Ab Tryz.f106,Tryz.f106.ntmps,Tryz.f106.results.toList,[],⟨[.mem (List.replicate 4 .u64) 83 true,.mem (List.replicate 4 .u64) 83 false,.mem (List.replicate 4 .u64) 83 false,.mem (List.replicate 4 .u64) 83 false],false,fun _=>True,[(0,(List.replicate 4 .u64),z1)],[],[.ptrP 0]⟩⟩
def GI:Cx:=GJ [(125,.one DN),(126,.one Cf),(152,.one Gr)] []
def DI:Az:=GH.sum GI
theorem Mv:Bp Tryz.prog GB GC 106 (.one DI):=AQ.fin hG (.cons (k:=125) rfl (LF hG) Tryz.call125 (AQ.len _ _) (.cons (k:=126) rfl (Jp hG) Tryz.call126 (AQ.len _ _) (.cons (k:=152) rfl (Qc hG) Tryz.call152 (AQ.len _ _) .nil))) .nil Tryz.func106 rfl rfl rfl (.inl rfl) (by kernel_rfl)
def Dx:AQ:=⟨6000,Ab Tryz.f124,Tryz.f124.ntmps,Tryz.f124.results.toList,[],⟨[.mem (List.replicate 4 .u64) 1 true,.sl (List.replicate 21 .u8) 0 false],false,fun _=>True,[(0,List.replicate 4 .u64,z1)],[],[.ptrP 0]⟩⟩
def Cy:Cx:=GJ [(128,.one Ce),(129,.one Cr)] []
def CY:Az:=Dx.sumP Cy
theorem ML:Bp Tryz.prog GB GC 124 (.one CY):=AQ.finP hG (.cons (k:=128) rfl (Il hG) Tryz.call128 (AQ.len _ _) (.cons (k:=129) rfl (Hz hG) Tryz.call129 (AQ.len _ _) .nil)) .nil Tryz.func124 rfl rfl rfl (.inl rfl) (by kernel_rfl)
def DY:AQ:=⟨6000,Ab Tryz.f124,Tryz.f124.ntmps,Tryz.f124.results.toList,[],⟨[.mem (List.replicate 4 .u64) 1 true,.sl (List.replicate 22 .u8) 0 false],false,fun _=>True,[(0,List.replicate 4 .u64,z1)],[],[.ptrP 0]⟩⟩
def Co:Cx:=GJ [(128,.one Ce),(129,.one Cr)] []
def CF:Az:=DY.sumP Co
theorem K8:Bp Tryz.prog GB GC 124 (.one CF):=AQ.finP hG (.cons (k:=128) rfl (Il hG) Tryz.call128 (AQ.len _ _) (.cons (k:=129) rfl (Hz hG) Tryz.call129 (AQ.len _ _) .nil)) .nil Tryz.func124 rfl rfl rfl (.inl rfl) (by kernel_rfl)
def Be:AQ:=⟨6000,Ab Tryz.f99,Tryz.f99.ntmps,Tryz.f99.results.toList,UG,⟨[.mem (List.replicate 4 .u64) 1 true,.sl (List.replicate 64 .u8) 0 false],false,fun _=>True,[(0,List.replicate 4 .u64,z1)],[],[.ptrP 0,.nilI]⟩⟩
def Ah:Cx:=GJ [(124,.one CY),(10124,.one CF),(125,.one DN),(126,.one Cf)] []
def Bh:Az:=Be.sumP Ah
theorem Hu:Bp Tryz.prog GB GC 99 (.one Bh):=AQ.finP hG (.cons (k:=124) rfl (ML hG) Tryz.call124 (AQ.lenP _ _) (.cons (k:=10124) rfl (K8 hG) Tryz.call124 (AQ.lenP _ _) (.cons (k:=125) rfl (LF hG) Tryz.call125 (AQ.len _ _) (.cons (k:=126) rfl (Jp hG) Tryz.call126 (AQ.len _ _) .nil)))) .nil Tryz.func99 rfl rfl rfl (.inr rfl) (by kernel_rfl)
def Cv:AQ:=⟨6000,Ab Tryz.f95,Tryz.f95.ntmps,Tryz.f95.results.toList,[],⟨[.mem (List.replicate 4 .u64) 1 true,.sl (List.replicate 32 .u8) 0 false],false,fun _=>True,[(0,List.replicate 4 .u64,z1)],[],[.ptrP 0,.nilI]⟩⟩
def CP:Cx:=GJ [(99,.one Bh)] []
def Bf:Az:=Cv.sumP CP
theorem J5:Bp Tryz.prog GB GC 95 (.one Bf):=AQ.finP hG (.cons (k:=99) rfl (Hu hG) Tryz.call99 (AQ.lenP _ _) .nil) .nil Tryz.func95 rfl rfl rfl (.inl rfl) (by kernel_rfl)
def BN:AQ:=⟨6000,Ab Tryz.f107,Tryz.f107.ntmps,Tryz.f107.results.toList,[],⟨[.mem (List.replicate 4 .u64) 1 false],false,fun _=>True,[],[(List.replicate 32 .u8,z1)],[.slF 0 32 32]⟩⟩
def BA:Cx:=GJ [(189,.one DJ),(190,.one ER)] [(153,Mc Tryz.f153)]
def BM:Az:=BN.sumP BA
theorem KZ:Bp Tryz.prog GB GC 107 (.one BM):=AQ.finP hG (.cons (k:=189) rfl (Km hG) Tryz.call189 (AQ.len _ _) (.cons (k:=190) rfl (NV hG) Tryz.call190 (AQ.len _ _) .nil)) (.cons Tryz.func153 rfl Tryz.call153 .nil) Tryz.func107 rfl rfl rfl (.inl rfl) (by kernel_rfl)
def Af:AQ:=⟨6000,Ab Tryz.f147,Tryz.f147.ntmps,Tryz.f147.results.toList,[],⟨[.mem (List.replicate 4 .u64) 83 false],false,fun _=>True,[],[],[.agg (List.replicate 64 .i8) z1]⟩⟩
def AL:Cx:=GJ [(107,.one BM)] []
def D8:Az:=Af.sumP AL
theorem MJ:Bp Tryz.prog GB GC 147 (.one D8):=AQ.finP hG (.cons (k:=107) rfl (KZ hG) Tryz.call107 (AQ.lenP _ _) .nil) .nil Tryz.func147 rfl rfl rfl (.inl rfl) (by kernel_rfl)
end
end
end Go.Proofs.YtloibefkijfdlaaGreatDoor
