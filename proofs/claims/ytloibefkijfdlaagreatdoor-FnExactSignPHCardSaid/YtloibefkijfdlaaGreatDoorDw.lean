/- Contracts that the trees give: the base point. -/
import Derived.Test.YtloibefkijfdlaaGreatDoorDy
namespace Go.Proofs.YtloibefkijfdlaaGreatDoor
noncomputable section
open Go
section
variable{GB:Nat}{GC:Nat→Nat→Option Value}{ad:Nat→Nat×Nat}(hG:Jk GB GC ad)
include hG
def EP:AQ:=⟨6000,Ab Tryz.f176,Tryz.f176.ntmps,Tryz.f176.results.toList,[],⟨[],false,fun _=>True,[],[(List.replicate 20 .u64,z1)],[.ptrF 0]⟩⟩
def DW:Cx:=GJ [(148,.one Dh),(111,.one Df),(112,.one DX),(113,.one BV),(114,.one JN),(115,.one BJ),(116,.one Iz),(117,.one DF),(118,.one EB),(119,.one ED),(120,.one DV),(121,.one Gb),(122,.one Gc)] [(208,Mc Tryz.f208),(96,Mc Tryz.f96)]
def ES:Az:=EP.sumP DW
theorem NW:Bp Tryz.prog GB GC 176 (.one ES):=AQ.finP hG (.cons (k:=148) rfl (JE hG) Tryz.call148 (AQ.lenP _ _) (.cons (k:=111) rfl (JF hG) Tryz.call111 (AQ.len _ _) (.cons (k:=112) rfl (EU hG) Tryz.call112 (AQ.len _ _) (.cons (k:=113) rfl (Ct hG) Tryz.call113 (AQ.len _ _) (.cons (k:=114) rfl (Oa hG) Tryz.call114 (AQ.len _ _) (.cons (k:=115) rfl (BP hG) Tryz.call115 (AQ.len _ _) (.cons (k:=116) rfl (MO hG) Tryz.call116 (AQ.len _ _) (.cons (k:=117) rfl (EA hG) Tryz.call117 (AQ.len _ _) (.cons (k:=118) rfl (LG hG) Tryz.call118 (AQ.lenP _ _) (.cons (k:=119) rfl (Fy hG) Tryz.call119 (AQ.len _ _) (.cons (k:=120) rfl (EW hG) Tryz.call120 (AQ.len _ _) (.cons (k:=121) rfl (JO hG) Tryz.call121 (AQ.len _ _) (.cons (k:=122) rfl (JU hG) Tryz.call122 (AQ.len _ _) .nil))))))))))))) (.cons Tryz.func208 rfl Tryz.call208 (.cons Tryz.func96 rfl Tryz.call96 .nil)) Tryz.func176 rfl rfl rfl (.inl rfl) (by kernel_rfl)
def EX:AQ:=⟨6000,Ab Tryz.f149,Tryz.f149.ntmps,Tryz.f149.results.toList,[],⟨[],false,fun _=>True,[],[(List.replicate 20 .u64,z1)],[.ptrF 0]⟩⟩
def Dj:Cx:=GJ [(148,.one Dh),(111,.one Df),(112,.one DX),(113,.one BV),(114,.one JN),(115,.one BJ),(116,.one Iz),(117,.one DF),(118,.one EB),(119,.one ED),(120,.one DV),(121,.one Gb),(122,.one Gc)] [(184,Mc Tryz.f184),(96,Mc Tryz.f96)]
def EY:Az:=EX.sumP Dj
theorem Nv:Bp Tryz.prog GB GC 149 (.one EY):=AQ.finP hG (.cons (k:=148) rfl (JE hG) Tryz.call148 (AQ.lenP _ _) (.cons (k:=111) rfl (JF hG) Tryz.call111 (AQ.len _ _) (.cons (k:=112) rfl (EU hG) Tryz.call112 (AQ.len _ _) (.cons (k:=113) rfl (Ct hG) Tryz.call113 (AQ.len _ _) (.cons (k:=114) rfl (Oa hG) Tryz.call114 (AQ.len _ _) (.cons (k:=115) rfl (BP hG) Tryz.call115 (AQ.len _ _) (.cons (k:=116) rfl (MO hG) Tryz.call116 (AQ.len _ _) (.cons (k:=117) rfl (EA hG) Tryz.call117 (AQ.len _ _) (.cons (k:=118) rfl (LG hG) Tryz.call118 (AQ.lenP _ _) (.cons (k:=119) rfl (Fy hG) Tryz.call119 (AQ.len _ _) (.cons (k:=120) rfl (EW hG) Tryz.call120 (AQ.len _ _) (.cons (k:=121) rfl (JO hG) Tryz.call121 (AQ.len _ _) (.cons (k:=122) rfl (JU hG) Tryz.call122 (AQ.len _ _) .nil))))))))))))) (.cons Tryz.func184 rfl Tryz.call184 (.cons Tryz.func96 rfl Tryz.call96 .nil)) Tryz.func149 rfl rfl rfl (.inl rfl) (by kernel_rfl)
def Bn:AQ:=⟨6000,Ab Tryz.f146,Tryz.f146.ntmps,Tryz.f146.results.toList,[],⟨[],false,fun _=>True,[],[(List.replicate 3840 .u64,z1)],[.ptrF 0]⟩⟩
def CJ:Cx:=GJ [(176,.one ES),(178,.one Ja),(183,.one ET)] []
def Hy:Az:=Bn.sumP CJ
theorem Ol:Bp Tryz.prog GB GC 146 (.one Hy):=AQ.finP hG (.cons (k:=176) rfl (NW hG) Tryz.call176 (AQ.lenP _ _) (.cons (k:=178) rfl (Qt hG) Tryz.call178 (AQ.lenP _ _) (.cons (k:=183) rfl (Ko hG) Tryz.call183 (AQ.lenP _ _) .nil))) .nil Tryz.func146 rfl rfl rfl (.inl rfl) (by kernel_rfl)
end
end
noncomputable section
open Go
section
variable{GB:Nat}{GC:Nat→Nat→Option Value}{ad:Nat→Nat×Nat}(hG:Jk GB GC ad)
include hG
def Al:AQ:=⟨6000,Ab Tryz.f105,Tryz.f105.ntmps,Tryz.f105.results.toList,[],⟨[.mem (List.replicate 20 .u64) 98 true,.mem (List.replicate 4 .u64) 83 false],false,fun _=>True,[(0,(List.replicate 20 .u64),z1)],[],[.ptrP 0]⟩⟩
def Ak:Cx:=GJ [(135,.one Gq),(136,.one Dp),(141,.one EC),(143,.one Gn),(146,.one Hy),(147,.one D8),(148,.one Dh),(149,.one EY),(150,.one D9),(151,.one IK)] []
def AY:Az:=Al.sumP Ak
theorem IW:Bp Tryz.prog GB GC 105 (.one AY):=AQ.finP hG (.cons (k:=135) rfl (Nw hG) Tryz.call135 (AQ.lenP _ _) (.cons (k:=136) rfl (Gp hG) Tryz.call136 (AQ.lenP _ _) (.cons (k:=141) rfl (Io hG) Tryz.call141 (AQ.lenP _ _) (.cons (k:=143) rfl (OG hG) Tryz.call143 (AQ.lenP _ _) (.cons (k:=146) rfl (Ol hG) Tryz.call146 (AQ.lenP _ _) (.cons (k:=147) rfl (MJ hG) Tryz.call147 (AQ.lenP _ _) (.cons (k:=148) rfl (JE hG) Tryz.call148 (AQ.lenP _ _) (.cons (k:=149) rfl (Nv hG) Tryz.call149 (AQ.lenP _ _) (.cons (k:=150) rfl (Jw hG) Tryz.call150 (AQ.lenP _ _) (.cons (k:=151) rfl (Pe hG) Tryz.call151 (AQ.lenP _ _) .nil)))))))))) .nil Tryz.func105 rfl rfl rfl (.inl rfl) (by kernel_rfl)
end
end
noncomputable section
open Go
section
variable{GB:Nat}{GC:Nat→Nat→Option Value}{ad:Nat→Nat×Nat}(hG:Jk GB GC ad)
include hG
def Bu:AQ:=⟨6000,Ab Tryz.f64,Tryz.f64.ntmps,Tryz.f64.results.toList,[],⟨[.mem (List.replicate 64 .u8++List.replicate 4 .u64++List.replicate 32 .u8) 40 true,.sl (List.replicate 32 .u8) 0 false],false,fun _=>True,[(0,(List.replicate 64 .u8++List.replicate 4 .u64++List.replicate 32 .u8),z1)],[],[.ptrP 0,.nilI]⟩⟩
def AJ:Cx:=GJ [(104,.one BL),(105,.one AY),(154,.one Er),(155,.one Hw),(10155,.one Fb),(20155,.one Fq),(30155,.one FT),(40155,.one Fj),(50155,.one FU),(60155,.one Ff),(70155,.one Fh),(95,.one Bf)] [(84,Mc Tryz.f84),(92,Mc Tryz.f92),(108,Mc Tryz.f108),(93,Mc Tryz.f93),(109,Mc Tryz.f109),(94,Mc Tryz.f94),(110,Mc Tryz.f110)]
def Br:Az:=Bu.sumP AJ
theorem Nt:Bp Tryz.prog GB GC 64 (.one Br):=AQ.finP hG (.cons (k:=104) rfl (Ib hG) Tryz.call104 (AQ.lenP _ _) (.cons (k:=105) rfl (IW hG) Tryz.call105 (AQ.lenP _ _) (.cons (k:=154) rfl (TC hG) Tryz.call154 (AQ.lenH _ _ _) (.cons (k:=155) rfl (OV hG) Tryz.call155 (AQ.len _ _) (.cons (k:=10155) rfl (MV hG) Tryz.call155 (AQ.len _ _) (.cons (k:=20155) rfl (Md hG) Tryz.call155 (AQ.len _ _) (.cons (k:=30155) rfl (Mk hG) Tryz.call155 (AQ.len _ _) (.cons (k:=40155) rfl (MZ hG) Tryz.call155 (AQ.len _ _) (.cons (k:=50155) rfl (Mh hG) Tryz.call155 (AQ.len _ _) (.cons (k:=60155) rfl (Mf hG) Tryz.call155 (AQ.len _ _) (.cons (k:=70155) rfl (Mi hG) Tryz.call155 (AQ.len _ _) (.cons (k:=95) rfl (J5 hG) Tryz.call95 (AQ.lenP _ _) .nil)))))))))))) (.cons Tryz.func84 rfl Tryz.call84 (.cons Tryz.func92 rfl Tryz.call92 (.cons Tryz.func108 rfl Tryz.call108 (.cons Tryz.func93 rfl Tryz.call93 (.cons Tryz.func109 rfl Tryz.call109 (.cons Tryz.func94 rfl Tryz.call94 (.cons Tryz.func110 rfl Tryz.call110 .nil))))))) Tryz.func64 rfl rfl rfl (.inl rfl) (by kernel_rfl)
end
end
end Go.Proofs.YtloibefkijfdlaaGreatDoor
