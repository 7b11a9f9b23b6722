/- Contracts that the trees give: the base point. -/
import Derived.Test.YtloibefkijfdlaaGreatDoorDy
namespace Go.Proofs.YtloibefkijfdlaaGreatDoor
noncomputable section
open Go
section
variable{GB:Nat}{GC:Nat->Nat->Option Value}{ad:Nat->Nat×Nat}(hG:Gw GB GC ad)
include hG
def Cy:Ad:=⟨6000,Ak Tryz.f176,Tryz.f176.ntmps,Tryz.f176.results.toList,[],⟨[],false,λ_=>True,[],[(List.replicate 20 .u64,z1)],[.i7 0]⟩⟩
def CU:Cx:=Ht [(148,.one Dj),(111,.one DJ),(112,.one DD),(113,.one BD),(114,.one I4),(115,.one Ao),(116,.one Ie),(117,.one Cn),(118,.one D9),(119,.one EB),(120,.one Df),(121,.one GR),(122,.one Eh)] [(208,MU Tryz.f208),(96,MU Tryz.f96)]
def Cv:BH:=Cy.cC CU
theorem Im:Ck Tryz.prog GB GC 176 (.one Cv):=Ad.cU hG (.cons (k:=148) rfl (Iu hG) Tryz.call148 (Ad.cJ _ _) (.cons (k:=111) rfl (Gn hG) Tryz.call111 (Ad.len _ _) (.cons (k:=112) rfl (DV hG) Tryz.call112 (Ad.len _ _) (.cons (k:=113) rfl (Bg hG) Tryz.call113 (Ad.len _ _) (.cons (k:=114) rfl (KR hG) Tryz.call114 (Ad.len _ _) (.cons (k:=115) rfl (Ap hG) Tryz.call115 (Ad.len _ _) (.cons (k:=116) rfl (JY hG) Tryz.call116 (Ad.len _ _) (.cons (k:=117) rfl (Cs hG) Tryz.call117 (Ad.len _ _) (.cons (k:=118) rfl (Ic hG) Tryz.call118 (Ad.cJ _ _) (.cons (k:=119) rfl (EP hG) Tryz.call119 (Ad.len _ _) (.cons (k:=120) rfl (Dq hG) Tryz.call120 (Ad.len _ _) (.cons (k:=121) rfl (G9 hG) Tryz.call121 (Ad.len _ _) (.cons (k:=122) rfl (FR hG) Tryz.call122 (Ad.len _ _) .nil))))))))))))) (.cons Tryz.func208 rfl Tryz.call208 (.cons Tryz.func96 rfl Tryz.call96 .nil)) Tryz.func176 rfl rfl rfl (.inl rfl) (by kernel_rfl)
def ER:Ad:=⟨6000,Ak Tryz.f149,Tryz.f149.ntmps,Tryz.f149.results.toList,[],⟨[],false,λ_=>True,[],[(List.replicate 20 .u64,z1)],[.i7 0]⟩⟩
def Dk:Cx:=Ht [(148,.one Dj),(111,.one DJ),(112,.one DD),(113,.one BD),(114,.one I4),(115,.one Ao),(116,.one Ie),(117,.one Cn),(118,.one D9),(119,.one EB),(120,.one Df),(121,.one GR),(122,.one Eh)] [(184,MU Tryz.f184),(96,MU Tryz.f96)]
def EQ:BH:=ER.cC Dk
theorem NI:Ck Tryz.prog GB GC 149 (.one EQ):=Ad.cU hG (.cons (k:=148) rfl (Iu hG) Tryz.call148 (Ad.cJ _ _) (.cons (k:=111) rfl (Gn hG) Tryz.call111 (Ad.len _ _) (.cons (k:=112) rfl (DV hG) Tryz.call112 (Ad.len _ _) (.cons (k:=113) rfl (Bg hG) Tryz.call113 (Ad.len _ _) (.cons (k:=114) rfl (KR hG) Tryz.call114 (Ad.len _ _) (.cons (k:=115) rfl (Ap hG) Tryz.call115 (Ad.len _ _) (.cons (k:=116) rfl (JY hG) Tryz.call116 (Ad.len _ _) (.cons (k:=117) rfl (Cs hG) Tryz.call117 (Ad.len _ _) (.cons (k:=118) rfl (Ic hG) Tryz.call118 (Ad.cJ _ _) (.cons (k:=119) rfl (EP hG) Tryz.call119 (Ad.len _ _) (.cons (k:=120) rfl (Dq hG) Tryz.call120 (Ad.len _ _) (.cons (k:=121) rfl (G9 hG) Tryz.call121 (Ad.len _ _) (.cons (k:=122) rfl (FR hG) Tryz.call122 (Ad.len _ _) .nil))))))))))))) (.cons Tryz.func184 rfl Tryz.call184 (.cons Tryz.func96 rfl Tryz.call96 .nil)) Tryz.func149 rfl rfl rfl (.inl rfl) (by kernel_rfl)
def Bj:Ad:=⟨6000,Ak Tryz.f146,Tryz.f146.ntmps,Tryz.f146.results.toList,[],⟨[],false,λ_=>True,[],[(List.replicate 3840 .u64,z1)],[.i7 0]⟩⟩
def CL:Cx:=Ht [(176,.one Cv),(178,.one Ep),(183,.one EO)] []
def Hg:BH:=Bj.cC CL
theorem Nj:Ck Tryz.prog GB GC 146 (.one Hg):=Ad.cU hG (.cons (k:=176) rfl (Im hG) Tryz.call176 (Ad.cJ _ _) (.cons (k:=178) rfl (Ir hG) Tryz.call178 (Ad.cJ _ _) (.cons (k:=183) rfl (KM hG) Tryz.call183 (Ad.cJ _ _) .nil))) .nil Tryz.func146 rfl rfl rfl (.inl rfl) (by kernel_rfl)
end
end
noncomputable section
open Go
section
variable{GB:Nat}{GC:Nat->Nat->Option Value}{ad:Nat->Nat×Nat}(hG:Gw GB GC ad)
include hG
def Ae:Ad:=⟨6000,Ak Tryz.f105,Tryz.f105.ntmps,Tryz.f105.results.toList,[],⟨[.mem (List.replicate 20 .u64) 98 true,.mem (List.replicate 4 .u64) 83 false],false,λ_=>True,[(0,(List.replicate 20 .u64),z1)],[],[.cy 0]⟩⟩
def Af:Cx:=Ht [(135,.one Gd),(136,.one Cj),(141,.one DR),(143,.one Gh),(146,.one Hg),(147,.one Dv),(148,.one Dj),(149,.one EQ),(150,.one D8),(151,.one H8)] []
def Aa:BH:=Ae.cC Af
theorem IA:Ck Tryz.prog GB GC 105 (.one Aa):=Ad.cU hG (.cons (k:=135) rfl (I9 hG) Tryz.call135 (Ad.cJ _ _) (.cons (k:=136) rfl (C9 hG) Tryz.call136 (Ad.cJ _ _) (.cons (k:=141) rfl (Dr hG) Tryz.call141 (Ad.cJ _ _) (.cons (k:=143) rfl (Iz hG) Tryz.call143 (Ad.cJ _ _) (.cons (k:=146) rfl (Nj hG) Tryz.call146 (Ad.cJ _ _) (.cons (k:=147) rfl (Lc hG) Tryz.call147 (Ad.cJ _ _) (.cons (k:=148) rfl (Iu hG) Tryz.call148 (Ad.cJ _ _) (.cons (k:=149) rfl (NI hG) Tryz.call149 (Ad.cJ _ _) (.cons (k:=150) rfl (Ji hG) Tryz.call150 (Ad.cJ _ _) (.cons (k:=151) rfl (OH hG) Tryz.call151 (Ad.cJ _ _) .nil)))))))))) .nil Tryz.func105 rfl rfl rfl (.inl rfl) (by kernel_rfl)
end
end
noncomputable section
open Go
section
variable{GB:Nat}{GC:Nat->Nat->Option Value}{ad:Nat->Nat×Nat}(hG:Gw GB GC ad)
include hG
def Bu:Ad:=⟨6000,Ak Tryz.f64,Tryz.f64.ntmps,Tryz.f64.results.toList,[],⟨[.mem (List.replicate 64 .u8++List.replicate 4 .u64++List.replicate 32 .u8) 40 true,.sl (List.replicate 32 .u8) 0 false],false,λ_=>True,[(0,(List.replicate 64 .u8++List.replicate 4 .u64++List.replicate 32 .u8),z1)],[],[.cy 0,.eg]⟩⟩
def AP:Cx:=Ht [(104,.one BL),(105,.one Aa),(154,.one Em),(155,.one He),(10155,.one Ff),(20155,.one FY),(30155,.one Fa),(40155,.one FT),(50155,.one Fh),(60155,.one FZ),(70155,.one Fw),(95,.one Bb)] [(84,MU Tryz.f84),(92,MU Tryz.f92),(108,MU Tryz.f108),(93,MU Tryz.f93),(109,MU Tryz.f109),(94,MU Tryz.f94),(110,MU Tryz.f110)]
def Bq:BH:=Bu.cC AP
theorem NQ:Ck Tryz.prog GB GC 64 (.one Bq):=Ad.cU hG (.cons (k:=104) rfl (IK hG) Tryz.call104 (Ad.cJ _ _) (.cons (k:=105) rfl (IA hG) Tryz.call105 (Ad.cJ _ _) (.cons (k:=154) rfl (RQ hG) Tryz.call154 (Ad.aa3 _ _ _) (.cons (k:=155) rfl (Nf hG) Tryz.call155 (Ad.len _ _) (.cons (k:=10155) rfl (MH hG) Tryz.call155 (Ad.len _ _) (.cons (k:=20155) rfl (Lp hG) Tryz.call155 (Ad.len _ _) (.cons (k:=30155) rfl (Lj hG) Tryz.call155 (Ad.len _ _) (.cons (k:=40155) rfl (Lm hG) Tryz.call155 (Ad.len _ _) (.cons (k:=50155) rfl (Li hG) Tryz.call155 (Ad.len _ _) (.cons (k:=60155) rfl (L9 hG) Tryz.call155 (Ad.len _ _) (.cons (k:=70155) rfl (Lx hG) Tryz.call155 (Ad.len _ _) (.cons (k:=95) rfl (Jj hG) Tryz.call95 (Ad.cJ _ _) .nil)))))))))))) (.cons Tryz.func84 rfl Tryz.call84 (.cons Tryz.func92 rfl Tryz.call92 (.cons Tryz.func108 rfl Tryz.call108 (.cons Tryz.func93 rfl Tryz.call93 (.cons Tryz.func109 rfl Tryz.call109 (.cons Tryz.func94 rfl Tryz.call94 (.cons Tryz.func110 rfl Tryz.call110 .nil))))))) Tryz.func64 rfl rfl rfl (.inl rfl) (by kernel_rfl)
def LA:Ad:=⟨6000,Ak Tryz.f61,Tryz.f61.ntmps,Tryz.f61.results.toList,[],⟨[.mem (List.replicate 64 .u8++List.replicate 4 .u64++List.replicate 32 .u8) 40 false],false,λ_=>True,[],[(List.replicate 64 .u8,z1)],[.ya 0 64 64]⟩⟩
def K8:Cx:=Ht [] []
def Pe:BH:=LA.sum K8
theorem Ox:Ck Tryz.prog GB GC 61 (.one Pe):=Ad.fin hG .nil .nil Tryz.func61 rfl rfl rfl (.inl rfl) (by kernel_rfl)
def LQ:Ad:=⟨6000,Ak Tryz.f62,Tryz.f62.ntmps,Tryz.f62.results.toList,[],⟨[.mem (List.replicate 64 .u8++List.replicate 4 .u64++List.replicate 32 .u8) 40 false],false,λ_=>True,[],[(List.replicate 32 .u8,z1)],[.ya 0 32 32]⟩⟩
def LP:Cx:=Ht [] []
def Pz:BH:=LQ.sum LP
theorem Pg:Ck Tryz.prog GB GC 62 (.one Pz):=Ad.fin hG .nil .nil Tryz.func62 rfl rfl rfl (.inl rfl) (by kernel_rfl)
def Jc:Ad:=⟨6000,Ak Tryz.f63,Tryz.f63.ntmps,Tryz.f63.results.toList,[],⟨[.mem (List.replicate 64 .u8++List.replicate 4 .u64++List.replicate 32 .u8) 40 false],false,λ_=>True,[],[(List.replicate 32 .u8,z1)],[.ya 0 32 32]⟩⟩
def Ja:Cx:=Ht [] []
def Nr:BH:=Jc.sum Ja
theorem NZ:Ck Tryz.prog GB GC 63 (.one Nr):=Ad.fin hG .nil .nil Tryz.func63 rfl rfl rfl (.inl rfl) (by kernel_rfl)
end
end
end Go.Proofs.YtloibefkijfdlaaGreatDoor
