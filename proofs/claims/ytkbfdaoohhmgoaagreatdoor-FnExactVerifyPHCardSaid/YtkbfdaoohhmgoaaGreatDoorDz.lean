/- Contracts that the trees give: the field. -/
import Derived.Test.YtkbfdaoohhmgoaaGreatDoorDa
namespace Go.Proofs.YtkbfdaoohhmgoaaGreatDoor
noncomputable section
open Go
section
variable{GB:Nat}{GC:Nat->Nat->Option Value}{ad:Nat->Nat×Nat}(hG:GI GB GC ad)
include hG
def Mf:Ac:=⟨6000,Ab Tryz.f122,Tryz.f122.ntmps,Tryz.f122.results.toList,[],⟨[.int .u64,.int .u64],false,λ_=>True,[],[],[.int .u64 z0,.int .u64 z0]⟩⟩
def MV:Cx:=F7 [] []
def EK:Az:=Mf.sum MV
theorem IK:Bv Tryz.prog GB GC 122 (.one EK):=Ac.fin hG .nil .nil Tryz.func122 rfl rfl rfl (.inl rfl) (by kernel_rfl)
def Qs:Ac:=⟨6000,Ab Tryz.f139,Tryz.f139.ntmps,Tryz.f139.results.toList,[],⟨[.int .u64],false,λ_=>True,[],[],[.int .u64 z0]⟩⟩
def Qq:Cx:=F7 [] []
def Dt:Az:=Qs.sum Qq
theorem Hd:Bv Tryz.prog GB GC 139 (.one Dt):=Ac.fin hG .nil .nil Tryz.func139 rfl rfl rfl (.inl rfl) (by kernel_rfl)
def Kg:Ac:=⟨6000,Ab Tryz.f73,Tryz.f73.ntmps,Tryz.f73.results.toList,[],⟨[.mem (List.replicate 5 .u64) 96 true,.mem (List.replicate 5 .u64) 96 false],false,λ_=>True,[(0,(List.replicate 5 .u64),z1)],[],[.cF 0]⟩⟩
def Km:Cx:=F7 [] []
def Il:Az:=Kg.sum Km
theorem KD:Bv Tryz.prog GB GC 73 (.one Il):=Ac.fin hG .nil .nil Tryz.func73 rfl rfl rfl (.inl rfl) (by kernel_rfl)
def Jw:Ac:=⟨6000,Ab Tryz.f130,Tryz.f130.ntmps,Tryz.f130.results.toList,Uc,⟨[.mem (List.replicate 5 .u64) 96 true],false,λ_=>True,[(0,(List.replicate 5 .u64),z1)],[],[.cF 0]⟩⟩
def KL:Cx:=F7 [] []
def J2:Az:=Jw.sum KL
theorem Sb:Bv Tryz.prog GB GC 130 (.one J2):=Ac.fin hG .nil .nil Tryz.func130 rfl rfl rfl (.inr rfl) (by kernel_rfl)
def Ko:Ac:=⟨6000,Ab Tryz.f74,Tryz.f74.ntmps,Tryz.f74.results.toList,Uc,⟨[.mem (List.replicate 5 .u64) 96 true],false,λ_=>True,[(0,(List.replicate 5 .u64),z1)],[],[.cF 0]⟩⟩
def Kj:Cx:=F7 [] []
def Gp:Az:=Ko.sum Kj
theorem II:Bv Tryz.prog GB GC 74 (.one Gp):=Ac.fin hG .nil .nil Tryz.func74 rfl rfl rfl (.inr rfl) (by kernel_rfl)
def Kl:Ac:=⟨6000,Ab Tryz.f69,Tryz.f69.ntmps,Tryz.f69.results.toList,[],⟨[.mem (List.replicate 5 .u64) 96 true,.mem (List.replicate 5 .u64) 96 false,.mem (List.replicate 5 .u64) 96 false],false,λ_=>True,[(0,(List.replicate 5 .u64),z1)],[],[.cF 0]⟩⟩
def Kt:Cx:=F7 [(139,.one Dt)] [(106,Nk Tryz.f106)]
def Co:Az:=Kl.sum Kt
theorem Cr:Bv Tryz.prog GB GC 69 (.one Co):=Ac.fin hG (.cons (k:=139) rfl (Hd hG) Tryz.call139 (Ac.len _ _) .nil) (.cons Tryz.func106 rfl Tryz.call106 .nil) Tryz.func69 rfl rfl rfl (.inl rfl) (by kernel_rfl)
def Dq:Ac:=⟨6000,Ab Tryz.f65,Tryz.f65.ntmps,Tryz.f65.results.toList,[],⟨[.mem (List.replicate 5 .u64) 96 true,.mem (List.replicate 5 .u64) 96 false,.mem (List.replicate 5 .u64) 96 false],false,λ_=>True,[(0,(List.replicate 5 .u64),z1)],[],[.cF 0]⟩⟩
def Du:Cx:=F7 [(139,.one Dt)] [(106,Nk Tryz.f106)]
def BI:Az:=Dq.sum Du
theorem Bw:Bv Tryz.prog GB GC 65 (.one BI):=Ac.fin hG (.cons (k:=139) rfl (Hd hG) Tryz.call139 (Ac.len _ _) .nil) (.cons Tryz.func106 rfl Tryz.call106 .nil) Tryz.func65 rfl rfl rfl (.inl rfl) (by kernel_rfl)
def JP:Ac:=⟨6000,Ab Tryz.f71,Tryz.f71.ntmps,Tryz.f71.results.toList,Uc,⟨[.mem (List.replicate 5 .u64) 96 true,.mem (List.replicate 5 .u64) 96 false],false,λ_=>True,[(0,(List.replicate 5 .u64),z1)],[],[.cF 0]⟩⟩
def JL:Cx:=F7 [(65,.one BI)] []
def FH:Az:=JP.sum JL
theorem GY:Bv Tryz.prog GB GC 71 (.one FH):=Ac.fin hG (.cons (k:=65) rfl (Bw hG) Tryz.call65 (Ac.len _ _) .nil) .nil Tryz.func71 rfl rfl rfl (.inr rfl) (by kernel_rfl)
def IQ:Ac:=⟨6000,Ab Tryz.f67,Tryz.f67.ntmps,Tryz.f67.results.toList,[],⟨[.mem (List.replicate 5 .u64) 96 true,.mem (List.replicate 5 .u64) 96 false,.mem (List.replicate 5 .u64) 96 false],false,λ_=>True,[(0,(List.replicate 5 .u64),z1)],[],[.cF 0]⟩⟩
def IX:Cx:=F7 [(122,.one EK),(139,.one Dt)] [(107,Nk Tryz.f107),(140,Nk Tryz.f140),(134,Nk Tryz.f134),(136,Nk Tryz.f136),(137,Nk Tryz.f137),(138,Nk Tryz.f138)]
def Ao:Az:=IQ.sum IX
theorem Ap:Bv Tryz.prog GB GC 67 (.one Ao):=Ac.fin hG (.cons (k:=122) rfl (IK hG) Tryz.call122 (Ac.len _ _) (.cons (k:=139) rfl (Hd hG) Tryz.call139 (Ac.len _ _) .nil)) (.cons Tryz.func107 rfl Tryz.call107 (.cons Tryz.func140 rfl Tryz.call140 (.cons Tryz.func134 rfl Tryz.call134 (.cons Tryz.func136 rfl Tryz.call136 (.cons Tryz.func137 rfl Tryz.call137 (.cons Tryz.func138 rfl Tryz.call138 .nil)))))) Tryz.func67 rfl rfl rfl (.inl rfl) (by kernel_rfl)
def JK:Ac:=⟨6000,Ab Tryz.f64,Tryz.f64.ntmps,Tryz.f64.results.toList,[],⟨[.mem (List.replicate 5 .u64) 96 true,.mem (List.replicate 5 .u64) 96 false],false,λ_=>True,[(0,(List.replicate 5 .u64),z1)],[],[.cF 0]⟩⟩
def JO:Cx:=F7 [(122,.one EK),(139,.one Dt)] [(105,Nk Tryz.f105),(134,Nk Tryz.f134),(135,Nk Tryz.f135),(136,Nk Tryz.f136),(137,Nk Tryz.f137),(138,Nk Tryz.f138)]
def DJ:Az:=JK.sum JO
theorem DY:Bv Tryz.prog GB GC 64 (.one DJ):=Ac.fin hG (.cons (k:=122) rfl (IK hG) Tryz.call122 (Ac.len _ _) (.cons (k:=139) rfl (Hd hG) Tryz.call139 (Ac.len _ _) .nil)) (.cons Tryz.func105 rfl Tryz.call105 (.cons Tryz.func134 rfl Tryz.call134 (.cons Tryz.func135 rfl Tryz.call135 (.cons Tryz.func136 rfl Tryz.call136 (.cons Tryz.func137 rfl Tryz.call137 (.cons Tryz.func138 rfl Tryz.call138 .nil)))))) Tryz.func64 rfl rfl rfl (.inl rfl) (by kernel_rfl)
def JF:Ac:=⟨6000,Ab Tryz.f72,Tryz.f72.ntmps,Tryz.f72.results.toList,[],⟨[.mem (List.replicate 5 .u64) 96 true,.mem (List.replicate 5 .u64) 96 false,.mem (List.replicate 5 .u64) 96 false,.int .i64],false,λ_=>True,[(0,(List.replicate 5 .u64),z1)],[],[.cF 0]⟩⟩
def JE:Cx:=F7 [] [(111,Nk Tryz.f111)]
def E9:Az:=JF.sum JE
theorem GZ:Bv Tryz.prog GB GC 72 (.one E9):=Ac.fin hG .nil (.cons Tryz.func111 rfl Tryz.call111 .nil) Tryz.func72 rfl rfl rfl (.inl rfl) (by kernel_rfl)
def Cy:Ac:=⟨6000,Ab Tryz.f142,Tryz.f142.ntmps,Tryz.f142.results.toList,[],⟨[.mem (List.replicate 5 .u64) 1 false],false,λ_=>True,[],[(List.replicate 32 .u8,z1)],[.Hp 0 32 32]⟩⟩
def Cz:Cx:=F7 [(139,.one Dt)] [(156,Nk Tryz.f156),(161,Nk Tryz.f161),(106,Nk Tryz.f106),(162,Nk Tryz.f162)]
def CB:Az:=Cy.sum Cz
theorem JQ:Bv Tryz.prog GB GC 142 (.one CB):=Ac.fin hG (.cons (k:=139) rfl (Hd hG) Tryz.call139 (Ac.len _ _) .nil) (.cons Tryz.func156 rfl Tryz.call156 (.cons Tryz.func161 rfl Tryz.call161 (.cons Tryz.func106 rfl Tryz.call106 (.cons Tryz.func162 rfl Tryz.call162 .nil)))) Tryz.func142 rfl rfl rfl (.inl rfl) (by kernel_rfl)
def Dn:Ac:=⟨6000,Ab Tryz.f63,Tryz.f63.ntmps,Tryz.f63.results.toList,[],⟨[.mem (List.replicate 5 .u64) 1 true,.sl (List.replicate 32 .u8) 0 false],false,λ_=>True,[(0,List.replicate 5 .u64,z1)],[],[.cF 0,.ej]⟩⟩
def Dp:Cx:=F7 [] [(104,Nk Tryz.f104)]
def Dv:Az:=Dn.sum Dp
theorem H6:Bv Tryz.prog GB GC 63 (.one Dv):=Ac.fin hG .nil (.cons Tryz.func104 rfl Tryz.call104 .nil) Tryz.func63 rfl rfl rfl (.inl rfl) (by kernel_rfl)
def De:Ac:=⟨6000,Ab Tryz.f155,Tryz.f155.ntmps,Tryz.f155.results.toList,[],⟨[.mem (List.replicate 5 .u64) 3 true,.mem (List.replicate 5 .u64) 3 false,.int .i64],false,λ_=>True,[(0,List.replicate 5 .u64,z1)],[],[]⟩⟩
def Aq:Ih:=⟨6000,PU 0 (Ab Tryz.f155),Tryz.f155.ntmps,0,[],⟨[.int .u64,.int .u64,.int .u64,.int .u64,.int .u64,.int .i64,.int .i64],true,λ_=>True,[],[],[]⟩,[6,7,8,9,10,46,47],[11,12,13,14,15,16,17,18,19,20,21,22,23,24,25,48,49,50,51,52,53,54,55,56,57,58,59,60,61,62,63,64,65,66,67,68,69,70,71,72,73,74,75,76,77,78,79,80,81,82,83,84,85,86,87,88,89,90,91,92,93,94,95,96,97,98,99,100,101,102,103,104,105,106,107,108,109,110,111,112,113,114,115,116,117,118,119,120,121,122,123,124,125,126,127,128,129,130,131,132,133,134,135,136,137,138,139,140,141,142,143,144,145,146,147,148,149,150,151,152,153,154,155,156,157,158,159,160,161,162,163,164,165,166,167,168,169,170,171,172],(λa=>((a.getD 5 []).getD 0 0-(a.getD 6 []).getD 0 0).toNat+1)⟩
def A7:Cx:=F7 [(122,.one EK),(139,.one Dt)] [(134,Nk Tryz.f134),(135,Nk Tryz.f135),(136,Nk Tryz.f136),(137,Nk Tryz.f137),(138,Nk Tryz.f138)]
def BU:Cx:=kM ((1000155,.one (Aq.sum A7 (Aq.pre A7))) :: [(122,.one EK),(139,.one Dt)]) [(134,Nk Tryz.f134),(135,Nk Tryz.f135),(136,Nk Tryz.f136),(137,Nk Tryz.f137),(138,Nk Tryz.f138)] [(Aq.id,⟨1000155,Aq.ps,Aq.ss,Aq.cl,Aq.nt⟩)]
def Jh:Az:=De.vu BU (λins=>Cv BU.T (De.tree BU) (BK ins))
omit hG in
theorem Ti:Aq.cN A7=true:=by kernel_rfl
theorem Pf:Bv Tryz.prog GB GC 155 (.one Jh):=Ac.Fm hG (i:=De) (l:=Aq) (T:=[(122,.one EK),(139,.one Dt)]) (T':=[(122,.one EK),(139,.one Dt)]) (L:=[(134,Nk Tryz.f134),(135,Nk Tryz.f135),(136,Nk Tryz.f136),(137,Nk Tryz.f137),(138,Nk Tryz.f138)]) (L':=[(134,Nk Tryz.f134),(135,Nk Tryz.f135),(136,Nk Tryz.f136),(137,Nk Tryz.f137),(138,Nk Tryz.f138)]) (tg:=1000155) (Cb:=A7) (C1:=BU) (pl:=(Aq.pre A7)) (pre:=(λins=>Cv BU.T (De.tree BU) (BK ins))) (by decide) rfl rfl (.cons (k:=122) rfl (IK hG) Tryz.call122 (Ac.len _ _) (.cons (k:=139) rfl (Hd hG) Tryz.call139 (Ac.len _ _) .nil)) (.cons Tryz.func134 rfl Tryz.call134 (.cons Tryz.func135 rfl Tryz.call135 (.cons Tryz.func136 rfl Tryz.call136 (.cons Tryz.func137 rfl Tryz.call137 (.cons Tryz.func138 rfl Tryz.call138 .nil))))) (.cons Tryz.func134 rfl Tryz.call134 (.cons Tryz.func135 rfl Tryz.call135 (.cons Tryz.func136 rfl Tryz.call136 (.cons Tryz.func137 rfl Tryz.call137 (.cons Tryz.func138 rfl Tryz.call138 .nil))))) Tryz.func155 rfl rfl rfl (.inl rfl) (.inl rfl) (λ_ _ h=>h) (.cons (k:=122) rfl (IK hG) Tryz.call122 (Ac.len _ _) (.cons (k:=139) rfl (Hd hG) Tryz.call139 (Ac.len _ _) .nil)) Ti (by kernel_rfl) (by kernel_rfl) (by kernel_rfl) (λ_ _ h=>h)
def ED:Ac:=⟨6000,Ab Tryz.f133,Tryz.f133.ntmps,Tryz.f133.results.toList,[],⟨[.mem (List.replicate 5 .u64) 96 false],false,λ_=>True,[],[],[.int .i64 z0]⟩⟩
def DV:Cx:=F7 [(142,.one CB)] []
def EB:Az:=ED.sum DV
theorem Jl:Bv Tryz.prog GB GC 133 (.one EB):=Ac.fin hG (.cons (k:=142) rfl (JQ hG) Tryz.call142 (Ac.len _ _) .nil) .nil Tryz.func133 rfl rfl rfl (.inl rfl) (by kernel_rfl)
def Hq:Ac:=⟨6000,Ab Tryz.f109,Tryz.f109.ntmps,Tryz.f109.results.toList,[],⟨[.mem (List.replicate 5 .u64) 96 false,.mem (List.replicate 5 .u64) 96 false],false,λ_=>True,[],[],[.int .i64 z0]⟩⟩
def Fg:Cx:=F7 [(142,.one CB)] [(143,Nk Tryz.f143)]
def Hl:Az:=Hq.sum Fg
theorem Ry:Bv Tryz.prog GB GC 109 (.one Hl):=Ac.fin hG (.cons (k:=142) rfl (JQ hG) Tryz.call142 (Ac.len _ _) .nil) (.cons Tryz.func143 rfl Tryz.call143 .nil) Tryz.func109 rfl rfl rfl (.inl rfl) (by kernel_rfl)
def Ic:Ac:=⟨6000,Ab Tryz.f110,Tryz.f110.ntmps,Tryz.f110.results.toList,[],⟨[.mem (List.replicate 5 .u64) 96 true,.mem (List.replicate 5 .u64) 96 false],false,λ_=>True,[(0,(List.replicate 5 .u64),z1)],[],[.cF 0]⟩⟩
def IR:Cx:=F7 [(71,.one FH),(72,.one E9),(133,.one EB)] []
def IL:Az:=Ic.sum IR
theorem Pz:Bv Tryz.prog GB GC 110 (.one IL):=Ac.fin hG (.cons (k:=71) rfl (GY hG) Tryz.call71 (Ac.len _ _) (.cons (k:=72) rfl (GZ hG) Tryz.call72 (Ac.len _ _) (.cons (k:=133) rfl (Jl hG) Tryz.call133 (Ac.len _ _) .nil))) .nil Tryz.func110 rfl rfl rfl (.inl rfl) (by kernel_rfl)
def JB:Ac:=⟨6000,Ab Tryz.f131,Tryz.f131.ntmps,Tryz.f131.results.toList,[],⟨[.mem (List.replicate 5 .u64) 96 true,.mem (List.replicate 5 .u64) 96 false],false,λ_=>True,[(0,(List.replicate 5 .u64),z1)],[],[.cF 0]⟩⟩
def JC:Cx:=F7 [(64,.one DJ),(67,.one Ao),(155,.one Jh)] [(141,Nk Tryz.f141)]
def Gx:Az:=JB.cQ JC
theorem Ld:Bv Tryz.prog GB GC 131 (.one Gx):=Ac.fg hG (.cons (k:=64) rfl (DY hG) Tryz.call64 (Ac.len _ _) (.cons (k:=67) rfl (Ap hG) Tryz.call67 (Ac.len _ _) (.cons (k:=155) rfl (Pf hG) Tryz.call155 (Ac.FG _ _ _) .nil))) (.cons Tryz.func141 rfl Tryz.call141 .nil) Tryz.func131 rfl rfl rfl (.inl rfl) (by kernel_rfl)
def IZ:Ac:=⟨6000,Ab Tryz.f108,Tryz.f108.ntmps,Tryz.f108.results.toList,[],⟨[.mem (List.replicate 5 .u64) 96 true,.mem (List.replicate 5 .u64) 96 false],false,λ_=>True,[(0,(List.replicate 5 .u64),z1)],[],[.cF 0]⟩⟩
def IM:Cx:=F7 [(64,.one DJ),(67,.one Ao),(155,.one Jh)] [(141,Nk Tryz.f141)]
def IP:Az:=IZ.cQ IM
theorem Py:Bv Tryz.prog GB GC 108 (.one IP):=Ac.fg hG (.cons (k:=64) rfl (DY hG) Tryz.call64 (Ac.len _ _) (.cons (k:=67) rfl (Ap hG) Tryz.call67 (Ac.len _ _) (.cons (k:=155) rfl (Pf hG) Tryz.call155 (Ac.FG _ _ _) .nil))) (.cons Tryz.func141 rfl Tryz.call141 .nil) Tryz.func108 rfl rfl rfl (.inl rfl) (by kernel_rfl)
def Ck:Ac:=⟨6000,Ab Tryz.f70,Tryz.f70.ntmps,Tryz.f70.results.toList,Uc,⟨[.mem (List.replicate 5 .u64) 96 true,.mem (List.replicate 5 .u64) 96 false,.mem (List.replicate 5 .u64) 96 false],false,λ_=>True,[(0,(List.replicate 5 .u64),z1)],[],[.cF 0,.int .i64 z0]⟩⟩
def CR:Cx:=F7 [(64,.one DJ),(67,.one Ao),(71,.one FH),(72,.one E9),(108,.one IP),(109,.one Hl),(110,.one IL)] []
def EM:Az:=Ck.cQ CR
theorem J5:Bv Tryz.prog GB GC 70 (.one EM):=Ac.fg hG (.cons (k:=64) rfl (DY hG) Tryz.call64 (Ac.len _ _) (.cons (k:=67) rfl (Ap hG) Tryz.call67 (Ac.len _ _) (.cons (k:=71) rfl (GY hG) Tryz.call71 (Ac.len _ _) (.cons (k:=72) rfl (GZ hG) Tryz.call72 (Ac.len _ _) (.cons (k:=108) rfl (Py hG) Tryz.call108 (Ac.fX _ _) (.cons (k:=109) rfl (Ry hG) Tryz.call109 (Ac.len _ _) (.cons (k:=110) rfl (Pz hG) Tryz.call110 (Ac.len _ _) .nil))))))) .nil Tryz.func70 rfl rfl rfl (.inr rfl) (by kernel_rfl)
def KG:Ac:=⟨6000,Ab Tryz.f66,Tryz.f66.ntmps,Tryz.f66.results.toList,[],⟨[],false,λ_=>True,[],[((List.replicate 5 .u64),z1)],[.kA 0]⟩⟩
def Jy:Cx:=F7 [(74,.one Gp)] []
def KM:Az:=KG.sum Jy
theorem NH:Bv Tryz.prog GB GC 66 (.one KM):=Ac.fin hG (.cons (k:=74) rfl (II hG) Tryz.call74 (Ac.len _ _) .nil) .nil Tryz.func66 rfl rfl rfl (.inl rfl) (by kernel_rfl)
def LK:Ac:=⟨6000,Ab Tryz.f68,Tryz.f68.ntmps,Tryz.f68.results.toList,[],⟨[],false,λ_=>True,[],[((List.replicate 5 .u64),z1)],[.kA 0]⟩⟩
def LZ:Cx:=F7 [(63,.one Dv)] []
def JJ:Az:=LK.sum LZ
theorem Kn:Bv Tryz.prog GB GC 68 (.one JJ):=Ac.fin hG (.cons (k:=63) rfl (H6 hG) Tryz.call63 (Ac.len _ _) .nil) .nil Tryz.func68 rfl rfl rfl (.inl rfl) (by kernel_rfl)
def Ms:Ac:=⟨6000,Ab Tryz.f153,Tryz.f153.ntmps,Tryz.f153.results.toList,[],⟨[],false,λ_=>True,[],[((List.replicate 5 .u64),z1)],[.kA 0]⟩⟩
def MS:Cx:=F7 [(68,.one JJ),(69,.one Co)] []
def Jm:Az:=Ms.sum MS
theorem Pd:Bv Tryz.prog GB GC 153 (.one Jm):=Ac.fin hG (.cons (k:=68) rfl (Kn hG) Tryz.call68 (Ac.len _ _) (.cons (k:=69) rfl (Cr hG) Tryz.call69 (Ac.len _ _) .nil)) .nil Tryz.func153 rfl rfl rfl (.inl rfl) (by kernel_rfl)
end
end
noncomputable section
open Go
section
variable{GB:Nat}{GC:Nat->Nat->Option Value}{ad:Nat->Nat×Nat}(hG:GI GB GC ad)
include hG
def FD:Ac:=⟨6000,Ab Tryz.f127,Tryz.f127.ntmps,Tryz.f127.results.toList,[],⟨[.mem (List.replicate 20 .u64) 162 true,.mem (List.replicate 20 .u64) 98 false],false,λ_=>True,[(0,(List.replicate 20 .u64),z1)],[],[.cF 0]⟩⟩
def Ey:Cx:=F7 [(65,.one BI),(67,.one Ao),(69,.one Co),(73,.one Il),(153,.one Jm)] []
def Dw:Az:=FD.cQ Ey
theorem Hz:Bv Tryz.prog GB GC 127 (.one Dw):=Ac.fg hG (.cons (k:=65) rfl (Bw hG) Tryz.call65 (Ac.len _ _) (.cons (k:=67) rfl (Ap hG) Tryz.call67 (Ac.len _ _) (.cons (k:=69) rfl (Cr hG) Tryz.call69 (Ac.len _ _) (.cons (k:=73) rfl (KD hG) Tryz.call73 (Ac.len _ _) (.cons (k:=153) rfl (Pd hG) Tryz.call153 (Ac.len _ _) .nil))))) .nil Tryz.func127 rfl rfl rfl (.inl rfl) (by kernel_rfl)
def Eo:Ac:=⟨6000,Ab Tryz.f150,Tryz.f150.ntmps,Tryz.f150.results.toList,[],⟨[.mem (List.replicate 15 .u64) 173 true,.mem (List.replicate 20 .u64) 98 false],false,λ_=>True,[(0,(List.replicate 15 .u64),z1)],[],[.cF 0]⟩⟩
def Ej:Cx:=F7 [(65,.one BI),(67,.one Ao),(69,.one Co),(131,.one Gx),(153,.one Jm)] []
def Ei:Az:=Eo.cQ Ej
theorem Kw:Bv Tryz.prog GB GC 150 (.one Ei):=Ac.fg hG (.cons (k:=65) rfl (Bw hG) Tryz.call65 (Ac.len _ _) (.cons (k:=67) rfl (Ap hG) Tryz.call67 (Ac.len _ _) (.cons (k:=69) rfl (Cr hG) Tryz.call69 (Ac.len _ _) (.cons (k:=131) rfl (Ld hG) Tryz.call131 (Ac.fX _ _) (.cons (k:=153) rfl (Pd hG) Tryz.call153 (Ac.len _ _) .nil))))) .nil Tryz.func150 rfl rfl rfl (.inl rfl) (by kernel_rfl)
def Gf:Ac:=⟨6000,Ab Tryz.f96,Tryz.f96.ntmps,Tryz.f96.results.toList,[],⟨[.mem (List.replicate 20 .u64) 176 true,.mem (List.replicate 20 .u64) 98 false,.mem (List.replicate 20 .u64) 162 false],false,λ_=>True,[(0,(List.replicate 20 .u64),z1)],[],[.cF 0]⟩⟩
def Gh:Cx:=F7 [(65,.one BI),(67,.one Ao),(69,.one Co)] []
def Eb:Az:=Gf.cQ Gh
theorem GJ:Bv Tryz.prog GB GC 96 (.one Eb):=Ac.fg hG (.cons (k:=65) rfl (Bw hG) Tryz.call65 (Ac.len _ _) (.cons (k:=67) rfl (Ap hG) Tryz.call67 (Ac.len _ _) (.cons (k:=69) rfl (Cr hG) Tryz.call69 (Ac.len _ _) .nil))) .nil Tryz.func96 rfl rfl rfl (.inl rfl) (by kernel_rfl)
def Ee:Ac:=⟨6000,Ab Tryz.f99,Tryz.f99.ntmps,Tryz.f99.results.toList,[],⟨[.mem (List.replicate 20 .u64) 176 true,.mem (List.replicate 20 .u64) 98 false,.mem (List.replicate 15 .u64) 173 false],false,λ_=>True,[(0,(List.replicate 20 .u64),z1)],[],[.cF 0]⟩⟩
def El:Cx:=F7 [(65,.one BI),(67,.one Ao),(69,.one Co)] []
def Eg:Az:=Ee.cQ El
theorem G8:Bv Tryz.prog GB GC 99 (.one Eg):=Ac.fg hG (.cons (k:=65) rfl (Bw hG) Tryz.call65 (Ac.len _ _) (.cons (k:=67) rfl (Ap hG) Tryz.call67 (Ac.len _ _) (.cons (k:=69) rfl (Cr hG) Tryz.call69 (Ac.len _ _) .nil))) .nil Tryz.func99 rfl rfl rfl (.inl rfl) (by kernel_rfl)
def FU:Ac:=⟨6000,Ab Tryz.f93,Tryz.f93.ntmps,Tryz.f93.results.toList,[],⟨[.mem (List.replicate 20 .u64) 176 true,.mem (List.replicate 15 .u64) 179 false],false,λ_=>True,[(0,(List.replicate 20 .u64),z1)],[],[.cF 0]⟩⟩
def FR:Cx:=F7 [(64,.one DJ),(65,.one BI),(69,.one Co)] []
def Ij:Az:=FU.cQ FR
theorem Mk:Bv Tryz.prog GB GC 93 (.one Ij):=Ac.fg hG (.cons (k:=64) rfl (DY hG) Tryz.call64 (Ac.len _ _) (.cons (k:=65) rfl (Bw hG) Tryz.call65 (Ac.len _ _) (.cons (k:=69) rfl (Cr hG) Tryz.call69 (Ac.len _ _) .nil))) .nil Tryz.func93 rfl rfl rfl (.inl rfl) (by kernel_rfl)
def Fs:Ac:=⟨6000,Ab Tryz.f94,Tryz.f94.ntmps,Tryz.f94.results.toList,[],⟨[.mem (List.replicate 20 .u64) 98 true,.mem (List.replicate 20 .u64) 176 false],false,λ_=>True,[(0,(List.replicate 20 .u64),z1)],[],[.cF 0]⟩⟩
def Fv:Cx:=F7 [(67,.one Ao)] []
def DX:Az:=Fs.cQ Fv
theorem D8:Bv Tryz.prog GB GC 94 (.one DX):=Ac.fg hG (.cons (k:=67) rfl (Ap hG) Tryz.call67 (Ac.len _ _) .nil) .nil Tryz.func94 rfl rfl rfl (.inl rfl) (by kernel_rfl)
def FW:Ac:=⟨6000,Ab Tryz.f101,Tryz.f101.ntmps,Tryz.f101.results.toList,[],⟨[.mem (List.replicate 15 .u64) 179 true,.mem (List.replicate 20 .u64) 176 false],false,λ_=>True,[(0,(List.replicate 15 .u64),z1)],[],[.cF 0]⟩⟩
def Fa:Cx:=F7 [(67,.one Ao)] []
def Ii:Az:=FW.cQ Fa
theorem Mg:Bv Tryz.prog GB GC 101 (.one Ii):=Ac.fg hG (.cons (k:=67) rfl (Ap hG) Tryz.call67 (Ac.len _ _) .nil) .nil Tryz.func101 rfl rfl rfl (.inl rfl) (by kernel_rfl)
def DN:Ac:=⟨6000,Ab Tryz.f151,Tryz.f151.ntmps,Tryz.f151.results.toList,[],⟨[.mem (List.replicate 20 .u64) 98 true,.mem (List.replicate 20 .u64) 98 false],false,λ_=>True,[(0,(List.replicate 20 .u64),z1)],[],[.cF 0]⟩⟩
def Cs:Cx:=F7 [] []
def F3:Az:=DN.cQ Cs
theorem Pw:Bv Tryz.prog GB GC 151 (.one F3):=Ac.fg hG .nil .nil Tryz.func151 rfl rfl rfl (.inl rfl) (by kernel_rfl)
def IY:Ac:=⟨6000,Ab Tryz.f128,Tryz.f128.ntmps,Tryz.f128.results.toList,[],⟨[.mem (List.replicate 20 .u64) 98 true,.mem (List.replicate 20 .u64) 98 false,.mem (List.replicate 20 .u64) 98 false],false,λ_=>True,[(0,(List.replicate 20 .u64),z1)],[],[.cF 0]⟩⟩
def Ig:Cx:=F7 [(94,.one DX),(96,.one Eb),(127,.one Dw)] [(88,Nk Tryz.f88)]
def F9:Az:=IY.cQ Ig
theorem Ke:Bv Tryz.prog GB GC 128 (.one F9):=Ac.fg hG (.cons (k:=94) rfl (D8 hG) Tryz.call94 (Ac.fX _ _) (.cons (k:=96) rfl (GJ hG) Tryz.call96 (Ac.fX _ _) (.cons (k:=127) rfl (Hz hG) Tryz.call127 (Ac.fX _ _) .nil))) (.cons Tryz.func88 rfl Tryz.call88 .nil) Tryz.func128 rfl rfl rfl (.inl rfl) (by kernel_rfl)
def Ar:Ac:=⟨6000,Ab Tryz.f62,Tryz.f62.ntmps,Tryz.f62.results.toList,[],⟨[.mem (List.replicate 20 .u64) 1 false],false,λ_=>True,[],[(List.replicate 32 .u8,z1)],[.Hp 0 32 32]⟩⟩
def AX:Cx:=F7 [(67,.one Ao),(131,.one Gx),(142,.one CB),(133,.one EB)] [(103,Nk Tryz.f103),(88,Nk Tryz.f88),(132,Nk Tryz.f132)]
def CO:Az:=Ar.cQ AX
theorem Ov:Bv Tryz.prog GB GC 62 (.one CO):=Ac.fg hG (.cons (k:=67) rfl (Ap hG) Tryz.call67 (Ac.len _ _) (.cons (k:=131) rfl (Ld hG) Tryz.call131 (Ac.fX _ _) (.cons (k:=142) rfl (JQ hG) Tryz.call142 (Ac.len _ _) (.cons (k:=133) rfl (Jl hG) Tryz.call133 (Ac.len _ _) .nil)))) (.cons Tryz.func103 rfl Tryz.call103 (.cons Tryz.func88 rfl Tryz.call88 (.cons Tryz.func132 rfl Tryz.call132 .nil))) Tryz.func62 rfl rfl rfl (.inl rfl) (by kernel_rfl)
end
end
noncomputable section
open Go
section
variable{GB:Nat}{GC:Nat->Nat->Option Value}{ad:Nat->Nat×Nat}(hG:GI GB GC ad)
include hG
def Dc:Ac:=⟨6000,Ab Tryz.f124,Tryz.f124.ntmps,Tryz.f124.results.toList,[],⟨[.mem ([.u64]) 51 true,.int .u64,.int .u64,.int .u64],false,λ_=>True,[(0,([.u64]),z1)],[],[]⟩⟩
def Da:Cx:=F7 [] []
def BB:Az:=Dc.sum Da
theorem DU:Bv Tryz.prog GB GC 124 (.one BB):=Ac.fin hG .nil .nil Tryz.func124 rfl rfl rfl (.inl rfl) (by kernel_rfl)
def Au:Ac:=⟨6000,Ab Tryz.f87,Tryz.f87.ntmps,Tryz.f87.results.toList,[],⟨[.mem (List.replicate 4 .u64) 1 true,.mem (List.replicate 4 .u64) 1 false],false,λ_=>True,[(0,List.replicate 4 .u64,z1)],[],[]⟩⟩
def Av:Cx:=F7 [(122,.one EK),(124,.one BB)] []
def CF:Az:=Au.sum Av
theorem D9:Bv Tryz.prog GB GC 87 (.one CF):=Ac.fin hG (.cons (k:=122) rfl (IK hG) Tryz.call122 (Ac.len _ _) (.cons (k:=124) rfl (DU hG) Tryz.call124 (Ac.len _ _) .nil)) .nil Tryz.func87 rfl rfl rfl (.inl rfl) (by kernel_rfl)
def BM:Ac:=⟨6000,Ab Tryz.f86,Tryz.f86.ntmps,Tryz.f86.results.toList,[],⟨[.mem (List.replicate 4 .u64) 80 true,.mem (List.replicate 32 .u8) 49 false],false,λ_=>True,[(0,(List.replicate 4 .u64),z1)],[],[]⟩⟩
def BO:Cx:=F7 [] []
def BN:Az:=BM.sum BO
theorem ET:Bv Tryz.prog GB GC 86 (.one BN):=Ac.fin hG .nil .nil Tryz.func86 rfl rfl rfl (.inl rfl) (by kernel_rfl)
def BP:Ac:=⟨6000,Ab Tryz.f118,Tryz.f118.ntmps,Tryz.f118.results.toList,[],⟨[.mem (List.replicate 4 .u64) 81 true,.mem (List.replicate 4 .u64) 81 false,.mem (List.replicate 4 .u64) 81 false],false,λ_=>True,[(0,(List.replicate 4 .u64),z1)],[],[]⟩⟩
def BQ:Cx:=F7 [(124,.one BB)] []
def EZ:Az:=BP.sum BQ
theorem OP:Bv Tryz.prog GB GC 118 (.one EZ):=Ac.fin hG (.cons (k:=124) rfl (DU hG) Tryz.call124 (Ac.len _ _) .nil) .nil Tryz.func118 rfl rfl rfl (.inl rfl) (by kernel_rfl)
def Br:Ac:=⟨6000,Ab Tryz.f119,Tryz.f119.ntmps,Tryz.f119.results.toList,[],⟨[.mem (List.replicate 4 .u64) 81 true,.mem (List.replicate 4 .u64) 81 false,.mem (List.replicate 4 .u64) 81 false],false,λ_=>True,[(0,(List.replicate 4 .u64),z1)],[],[]⟩⟩
def Bq:Cx:=F7 [(122,.one EK),(124,.one BB)] []
def EY:Az:=Br.sum Bq
theorem Nt:Bv Tryz.prog GB GC 119 (.one EY):=Ac.fin hG (.cons (k:=122) rfl (IK hG) Tryz.call122 (Ac.len _ _) (.cons (k:=124) rfl (DU hG) Tryz.call124 (Ac.len _ _) .nil)) .nil Tryz.func119 rfl rfl rfl (.inl rfl) (by kernel_rfl)
def A9:Ac:=⟨6000,Ab Tryz.f159,Tryz.f159.ntmps,Tryz.f159.results.toList,[],⟨[.mem (List.replicate 4 .u64) 234 true,.mem (List.replicate 4 .u64) 81 false],false,λ_=>True,[(0,(List.replicate 4 .u64),z1)],[],[]⟩⟩
def BA:Cx:=F7 [(122,.one EK),(124,.one BB)] []
def C9:Az:=A9.sum BA
theorem Jf:Bv Tryz.prog GB GC 159 (.one C9):=Ac.fin hG (.cons (k:=122) rfl (IK hG) Tryz.call122 (Ac.len _ _) (.cons (k:=124) rfl (DU hG) Tryz.call124 (Ac.len _ _) .nil)) .nil Tryz.func159 rfl rfl rfl (.inl rfl) (by kernel_rfl)
def CJ:Ac:=⟨6000,Ab Tryz.f160,Tryz.f160.ntmps,Tryz.f160.results.toList,[],⟨[.mem (List.replicate 32 .u8) 49 true,.mem (List.replicate 4 .u64) 80 false],false,λ_=>True,[(0,(List.replicate 32 .u8),z1)],[],[]⟩⟩
def CK:Cx:=F7 [] []
def Dx:Az:=CJ.sum CK
theorem ML:Bv Tryz.prog GB GC 160 (.one Dx):=Ac.fin hG .nil .nil Tryz.func160 rfl rfl rfl (.inl rfl) (by kernel_rfl)
def Fe:Ac:=⟨6000,Ab Tryz.f83,Tryz.f83.ntmps,Tryz.f83.results.toList,[],⟨[.mem (List.replicate 4 .u64) 83 true,.mem (List.replicate 4 .u64) 83 false,.mem (List.replicate 4 .u64) 83 false],false,λ_=>True,[(0,(List.replicate 4 .u64),z1)],[],[.cF 0]⟩⟩
def Ff:Cx:=F7 [(118,.one EZ)] []
def Di:Az:=Fe.sum Ff
theorem Pb:Bv Tryz.prog GB GC 83 (.one Di):=Ac.fin hG (.cons (k:=118) rfl (OP hG) Tryz.call118 (Ac.len _ _) .nil) .nil Tryz.func83 rfl rfl rfl (.inl rfl) (by kernel_rfl)
def EH:Ac:=⟨6000,Ab Tryz.f84,Tryz.f84.ntmps,Tryz.f84.results.toList,[],⟨[.mem (List.replicate 4 .u64) 83 true,.mem (List.replicate 4 .u64) 83 false,.mem (List.replicate 4 .u64) 83 false],false,λ_=>True,[(0,(List.replicate 4 .u64),z1)],[],[.cF 0]⟩⟩
def EI:Cx:=F7 [(119,.one EY)] []
def Cu:Az:=EH.sum EI
theorem NG:Bv Tryz.prog GB GC 84 (.one Cu):=Ac.fin hG (.cons (k:=119) rfl (Nt hG) Tryz.call119 (Ac.len _ _) .nil) .nil Tryz.func84 rfl rfl rfl (.inl rfl) (by kernel_rfl)
def Db:Ac:=⟨6000,Ab Tryz.f82,Tryz.f82.ntmps,Tryz.f82.results.toList,[],⟨[.mem (List.replicate 4 .u64) 1 true,.sl (List.replicate 21 .u8) 0 false],false,λ_=>True,[(0,List.replicate 4 .u64,z1)],[],[.cF 0]⟩⟩
def Ct:Cx:=F7 [(86,.one BN),(87,.one CF)] []
def CQ:Az:=Db.cQ Ct
theorem Ki:Bv Tryz.prog GB GC 82 (.one CQ):=Ac.fg hG (.cons (k:=86) rfl (ET hG) Tryz.call86 (Ac.len _ _) (.cons (k:=87) rfl (D9 hG) Tryz.call87 (Ac.len _ _) .nil)) .nil Tryz.func82 rfl rfl rfl (.inl rfl) (by kernel_rfl)
def DI:Ac:=⟨6000,Ab Tryz.f82,Tryz.f82.ntmps,Tryz.f82.results.toList,[],⟨[.mem (List.replicate 4 .u64) 1 true,.sl (List.replicate 22 .u8) 0 false],false,λ_=>True,[(0,List.replicate 4 .u64,z1)],[],[.cF 0]⟩⟩
def Cc:Cx:=F7 [(86,.one BN),(87,.one CF)] []
def Bz:Az:=DI.cQ Cc
theorem Jq:Bv Tryz.prog GB GC 82 (.one Bz):=Ac.fg hG (.cons (k:=86) rfl (ET hG) Tryz.call86 (Ac.len _ _) (.cons (k:=87) rfl (D9 hG) Tryz.call87 (Ac.len _ _) .nil)) .nil Tryz.func82 rfl rfl rfl (.inl rfl) (by kernel_rfl)
def BV:Ac:=⟨6000,Ab Tryz.f57,Tryz.f57.ntmps,Tryz.f57.results.toList,Uc,⟨[.mem (List.replicate 4 .u64) 1 true,.sl (List.replicate 64 .u8) 0 false],false,λ_=>True,[(0,List.replicate 4 .u64,z1)],[],[.cF 0,.ej]⟩⟩
def Ad:Cx:=F7 [(82,.one CQ),(10082,.one Bz),(83,.one Di),(84,.one Cu)] []
def Ba:Az:=BV.cQ Ad
theorem Jt:Bv Tryz.prog GB GC 57 (.one Ba):=Ac.fg hG (.cons (k:=82) rfl (Ki hG) Tryz.call82 (Ac.fX _ _) (.cons (k:=10082) rfl (Jq hG) Tryz.call82 (Ac.fX _ _) (.cons (k:=83) rfl (Pb hG) Tryz.call83 (Ac.len _ _) (.cons (k:=84) rfl (NG hG) Tryz.call84 (Ac.len _ _) .nil)))) .nil Tryz.func57 rfl rfl rfl (.inr rfl) (by kernel_rfl)
def Aw:Ac:=⟨6000,Ab Tryz.f129,Tryz.f129.ntmps,Tryz.f129.results.toList,[],⟨[.mem (List.replicate 4 .u64) 1 false],false,λ_=>True,[],[(List.replicate 32 .u8,z1)],[.Hp 0 32 32]⟩⟩
def Al:Cx:=F7 [(159,.one C9),(160,.one Dx)] [(154,Nk Tryz.f154)]
def CW:Az:=Aw.cQ Al
theorem Ob:Bv Tryz.prog GB GC 129 (.one CW):=Ac.fg hG (.cons (k:=159) rfl (Jf hG) Tryz.call159 (Ac.len _ _) (.cons (k:=160) rfl (ML hG) Tryz.call160 (Ac.len _ _) .nil)) (.cons Tryz.func154 rfl Tryz.call154 .nil) Tryz.func129 rfl rfl rfl (.inl rfl) (by kernel_rfl)
end
end
end Go.Proofs.YtkbfdaoohhmgoaaGreatDoor
