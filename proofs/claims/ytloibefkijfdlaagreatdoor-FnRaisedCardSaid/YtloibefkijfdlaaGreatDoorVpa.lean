/- Contracts that the trees give: points and tables of verifying. -/
import Derived.Test.YtloibefkijfdlaaGreatDoorDw
import Derived.Test.YtloibefkijfdlaaGreatDoorPa
namespace Go.Proofs.YtloibefkijfdlaaGreatDoor
noncomputable section
open Go
section
variable{GB:Nat}{GC:Nat->Nat->Option Value}{ad:Nat->Nat×Nat}(hG:Gw GB GC ad)
include hG
def Hu:Ad:=⟨6000,Ak Tryz.f139,Tryz.f139.ntmps,Tryz.f139.results.toList,[],⟨[.mem (List.replicate 20 .u64) 176 true,.mem (List.replicate 20 .u64) 98 false,.mem (List.replicate 20 .u64) 162 false],false,λ_=>True,[(0,(List.replicate 20 .u64),z1)],[],[.cy 0]⟩⟩
def Hy:Cx:=Ht [(113,.one BD),(115,.one Ao),(117,.one Cn)] []
def KG:BH:=Hu.cC Hy
theorem OP:Ck Tryz.prog GB GC 139 (.one KG):=Ad.cU hG (.cons (k:=113) rfl (Bg hG) Tryz.call113 (Ad.len _ _) (.cons (k:=115) rfl (Ap hG) Tryz.call115 (Ad.len _ _) (.cons (k:=117) rfl (Cs hG) Tryz.call117 (Ad.len _ _) .nil))) .nil Tryz.func139 rfl rfl rfl (.inl rfl) (by kernel_rfl)
def FC:Ad:=⟨6000,Ak Tryz.f142,Tryz.f142.ntmps,Tryz.f142.results.toList,[],⟨[.mem (List.replicate 20 .u64) 176 true,.mem (List.replicate 20 .u64) 98 false,.mem (List.replicate 15 .u64) 173 false],false,λ_=>True,[(0,(List.replicate 20 .u64),z1)],[],[.cy 0]⟩⟩
def FB:Cx:=Ht [(113,.one BD),(115,.one Ao),(117,.one Cn)] []
def Ia:BH:=FC.cC FB
theorem MB:Ck Tryz.prog GB GC 142 (.one Ia):=Ad.cU hG (.cons (k:=113) rfl (Bg hG) Tryz.call113 (Ad.len _ _) (.cons (k:=115) rfl (Ap hG) Tryz.call115 (Ad.len _ _) (.cons (k:=117) rfl (Cs hG) Tryz.call117 (Ad.len _ _) .nil))) .nil Tryz.func142 rfl rfl rfl (.inl rfl) (by kernel_rfl)
def EX:Ad:=⟨6000,Ak Tryz.f134,Tryz.f134.ntmps,Tryz.f134.results.toList,[],⟨[.mem (List.replicate 15 .u64) 179 true],false,λ_=>True,[(0,(List.replicate 15 .u64),z1)],[],[.cy 0]⟩⟩
def ES:Cx:=Ht [(122,.one Eh),(179,.one I7)] []
def Kt:BH:=EX.cC ES
theorem Oz:Ck Tryz.prog GB GC 134 (.one Kt):=Ad.cU hG (.cons (k:=122) rfl (FR hG) Tryz.call122 (Ad.len _ _) (.cons (k:=179) rfl (Nh hG) Tryz.call179 (Ad.len _ _) .nil)) .nil Tryz.func134 rfl rfl rfl (.inl rfl) (by kernel_rfl)
def IC:Ad:=⟨6000,Ak Tryz.f144,Tryz.f144.ntmps,Tryz.f144.results.toList,[],⟨[.mem (List.replicate 20 .u64) 98 true,.mem (List.replicate 15 .u64) 179 false],false,λ_=>True,[(0,(List.replicate 20 .u64),z1)],[],[.cy 0]⟩⟩
def IM:Cx:=Ht [(112,.one DD),(115,.one Ao)] []
def Ke:BH:=IC.cC IM
theorem OW:Ck Tryz.prog GB GC 144 (.one Ke):=Ad.cU hG (.cons (k:=112) rfl (DV hG) Tryz.call112 (Ad.len _ _) (.cons (k:=115) rfl (Ap hG) Tryz.call115 (Ad.len _ _) .nil)) .nil Tryz.func144 rfl rfl rfl (.inl rfl) (by kernel_rfl)
def Be:Ad:=⟨6000,Ak Tryz.f132,Tryz.f132.ntmps,Tryz.f132.results.toList,[],⟨[.mem (List.replicate 160 .u64) 4 true,.mem (List.replicate 20 .u64) 5 false],false,λ_=>True,[(0,List.replicate 160 .u64,z1)],[],[]⟩⟩
def Bc:Cx:=Ht [(136,.one Cj),(138,.one E9),(177,.one EJ),(178,.one Ep)] []
def CJ:BH:=Be.cC Bc
theorem Kw:Ck Tryz.prog GB GC 132 (.one CJ):=Ad.cU hG (.cons (k:=136) rfl (C9 hG) Tryz.call136 (Ad.cJ _ _) (.cons (k:=138) rfl (Hf hG) Tryz.call138 (Ad.cJ _ _) (.cons (k:=177) rfl (Il hG) Tryz.call177 (Ad.cJ _ _) (.cons (k:=178) rfl (Ir hG) Tryz.call178 (Ad.cJ _ _) .nil)))) .nil Tryz.func132 rfl rfl rfl (.inl rfl) (by kernel_rfl)
def Bd:Ad:=⟨6000,Ak Tryz.f175,Tryz.f175.ntmps,Tryz.f175.results.toList,[],⟨[.mem (List.replicate 960 .u64) 4 true,.mem (List.replicate 20 .u64) 5 false],false,λ_=>True,[(0,List.replicate 960 .u64,z1)],[],[]⟩⟩
def Ba:Cx:=Ht [(136,.one Cj),(141,.one DR),(178,.one Ep),(207,.one EA)] []
def CG:BH:=Bd.cC Ba
theorem K5:Ck Tryz.prog GB GC 175 (.one CG):=Ad.cU hG (.cons (k:=136) rfl (C9 hG) Tryz.call136 (Ad.cJ _ _) (.cons (k:=141) rfl (Dr hG) Tryz.call141 (Ad.cJ _ _) (.cons (k:=178) rfl (Ir hG) Tryz.call178 (Ad.cJ _ _) (.cons (k:=207) rfl (IW hG) Tryz.call207 (Ad.cJ _ _) .nil)))) .nil Tryz.func175 rfl rfl rfl (.inl rfl) (by kernel_rfl)
end
end
section
open Go Ma
theorem AEZ{T:Tb}(h:lk 139 T=some (.one KG)):∀(v a b:List Int) (P Q:Pt),R3 P a->RC Q b->LM T 139 [v,a,b]/\sQ (P.add Q.neg) (gv T 139 0 [v,a,b]):=λv a b P Q ⟨x0,x1,x2,x3,h0,g0⟩ ⟨x4,x5,x6,x7,h1,g1⟩=>by
 obtain⟨h8,h9⟩:=Tt (M:=[(115,.mul),(117,.add),(113,.sub)]) (i:=Hu) (C:=Hy) (bin:=[none,some (fb [.v 0,.v 1,.v 2,.v 3]),some (fb [.v 4,.v 5,.v 6,.v 7])]) (es:=[(.sub (.mul (.add (.v 1) (.v 0)) (.v 5)) (.mul (.sub (.v 1) (.v 0)) (.v 4))),(.add (.mul (.add (.v 1) (.v 0)) (.v 5)) (.mul (.sub (.v 1) (.v 0)) (.v 4))),(.sub (.add (.mul (.v 2) (.v 6)) (.mul (.v 2) (.v 6))) (.mul (.v 3) (.v 7))),(.add (.add (.mul (.v 2) (.v 6)) (.mul (.v 2) (.v 6))) (.mul (.v 3) (.v 7)))]) (.cons (KO rfl) (.cons (Qb rfl) (.cons (Qh rfl) .nil))) (by kernel_rfl) rfl ⟨λn=>[x0,x1,x2,x3,x4,x5,x6,x7].getD n 0,λ_=>false⟩ (ins:=[v,a,b]) (.no (.yes (Kl.bl rfl h0) (.yes (Kl.bl rfl h1) .nil)));refine⟨Cf h h8,?_⟩;rw[BQ h];show sQ _ (BK 20 (Hu.raw Hy 0 [v,a,b]));rw[Kl.fix (n:=20) h9 rfl];exact⟨_,_,_,_,h9,AQQ g0 g1⟩
theorem AD4{T:Tb}(h:lk 142 T=some (.one Ia)):∀(v a b:List Int) (P Q:Pt),R3 P a->RA Q b->LM T 142 [v,a,b]/\sQ (P.add Q.neg) (gv T 142 0 [v,a,b]):=λv a b P Q ⟨x0,x1,x2,x3,h0,g0⟩ ⟨x4,x5,x6,h1,g1⟩=>by
 obtain⟨h8,h9⟩:=Tt (M:=[(115,.mul),(117,.add),(113,.sub)]) (i:=FC) (C:=FB) (bin:=[none,some (fb [.v 0,.v 1,.v 2,.v 3]),some (fb [.v 4,.v 5,.v 6])]) (es:=[(.sub (.mul (.add (.v 1) (.v 0)) (.v 5)) (.mul (.sub (.v 1) (.v 0)) (.v 4))),(.add (.mul (.add (.v 1) (.v 0)) (.v 5)) (.mul (.sub (.v 1) (.v 0)) (.v 4))),(.sub (.add (.v 2) (.v 2)) (.mul (.v 3) (.v 6))),(.add (.add (.v 2) (.v 2)) (.mul (.v 3) (.v 6)))]) (.cons (KO rfl) (.cons (Qb rfl) (.cons (Qh rfl) .nil))) (by kernel_rfl) rfl ⟨λn=>[x0,x1,x2,x3,x4,x5,x6].getD n 0,λ_=>false⟩ (ins:=[v,a,b]) (.no (.yes (Kl.bl rfl h0) (.yes (Kl.bl rfl h1) .nil)));refine⟨Cf h h8,?_⟩;rw[BQ h];show sQ _ (BK 20 (FC.raw FB 0 [v,a,b]));rw[Kl.fix (n:=20) h9 rfl];exact⟨_,_,_,_,h9,AJA g0 g1⟩
theorem AKD{X Y Z:Fp}{P:Pt}(h:P2 X Y Z P):P3 (X*Z) (Y*Z) (Z*Z) (X*Y) P:=by
 obtain⟨hz,hx,hy⟩:=h;subst hx;subst hy;exact⟨Gb hz hz,by grind,by grind,by grind⟩
theorem AGy{T:Tb}(h:lk 144 T=some (.one Ke)):∀(v a:List Int) (P:Pt),R2 P a->LM T 144 [v,a]/\R3 (P) (gv T 144 0 [v,a]):=λv a P ⟨x0,x1,x2,h0,g0⟩=>by
 obtain⟨h8,h9⟩:=Tt (M:=[(115,.mul),(112,.sq)]) (i:=IC) (C:=IM) (bin:=[none,some (fb [.v 0,.v 1,.v 2])]) (es:=[(.mul (.v 0) (.v 2)),(.mul (.v 1) (.v 2)),(.mul (.v 2) (.v 2)),(.mul (.v 0) (.v 1))]) (.cons (KO rfl) (.cons (XC rfl) .nil)) (by kernel_rfl) rfl ⟨λn=>[x0,x1,x2].getD n 0,λ_=>false⟩ (ins:=[v,a]) (.no (.yes (Kl.bl rfl h0) .nil));refine⟨Cf h h8,?_⟩;rw[BQ h];show R3 _ (BK 20 (IC.raw IM 0 [v,a]));rw[Kl.fix (n:=20) h9 rfl];exact⟨_,_,_,_,h9,AKD g0⟩
theorem ABv{T:Tb}(h:lk 134 T=some (.one Kt))(args:List (List Int)):LM T 134 args/\R2 Pt.zero (gv T 134 0 args):=by
 obtain⟨h8,h9⟩:=AIN (M:=[(122,.k 1),(179,.k 0)]) (i:=EX) (C:=ES) (n:=1) (es:=[.k 0,.k 1,.k 1]) (.cons (Yw rfl) (.cons (wL rfl) .nil)) (by kernel_rfl) rfl ⟨λ_=>0,λ_=>false⟩ args;refine⟨Cf h h8,?_⟩;rw[BQ h];show R2 _ (BK 15 (EX.raw ES 0 args));rw[Kl.fix (n:=15) h9 rfl];have e:Kl [0,1,1] (EX.raw ES 0 args):=by
  have Nd:Kl [Lh 0,Lh 1,Lh 1] (EX.raw ES 0 args):=h9;rw[Rb,Kz] at Nd;exact Nd
 exact⟨0,1,1,e,⟨by decide +kernel,by decide +kernel,by decide +kernel⟩⟩
def wM:List (Nat×KP):=[(177,.tR .p3 .pc),(178,.C0 .p3 .p3 .p3),(138,.C0 .p3 .pc .lA),(136,.tR .lA .p3)]
def vV:List (Bk GX):=(List.range 8).map λk=>.a 20 (.pt .pc (.c (2*k+1:Nat)))
theorem AFf:Pi (tY wM) yT (Be.tree Bc) Bc Be.s0 Be.cF [none,none] [none,some B_1] []=some [vV]:=by kernel_rfl
theorem yV{ρ:GV}{ρe:Br}{l:List Int}(h:GZ (γG ρ) ρe vV l):L6 .pc ((List.range 8).map λj=>ρ.P.zm ((2*j+1:Nat):Int)) l:=gpT (r:=.pc) (f:=λk=>.c (2*k+1:Nat)) (λ_k=>(Z2.ud _ _).symm) h
def wR:List (Nat×KP):=[(207,.tR .p3 .pa),(178,.C0 .p3 .p3 .p3),(141,.C0 .p3 .pa .lA),(136,.tR .lA .p3)]
def vk:List (Bk GX):=(List.range 64).map λk=>.a 15 (.pt .pa (.c (2*k+1:Nat)))
theorem ADv:Pi (tY wR) yT (Bd.tree Ba) Ba Bd.s0 Bd.cF [none,none] [none,some B_1] []=some [vk]:=by kernel_rfl
theorem yS{ρ:GV}{ρe:Br}{l:List Int}(h:GZ (γG ρ) ρe vk l):L6 .pa ((List.range 64).map λj=>ρ.P.zm ((2*j+1:Nat):Int)) l:=gpT (r:=.pa) (f:=λk=>.c (2*k+1:Nat)) (λ_k=>(Z2.ud _ _).symm) h
end
section
open Go Ma
theorem ib:CJ.pr 0= .l λa=>BK 160 (Be.raw Bc 0 a):=by kernel_rfl
theorem lH:CG.pr 0= .l λa=>BK 960 (Bd.raw Ba 0 a):=by kernel_rfl
theorem om{ρ:GV}:MG Bc.T ρ wM:=.cons (vW rfl) (.cons (dH rfl) (.cons (dI rfl) (.cons (Po rfl) .nil)))
theorem qK{ρ:GV}:MG Ba.T ρ wR:=.cons (su rfl) (.cons (dH rfl) (.cons (VE rfl) (.cons (Po rfl) .nil)))
theorem AA7{T:Tb}{f n:Nat}{M:List (Nat×KP)}{i:Ad}{C:Cx}{r:Rp}{R:List (Bk GX)}{Ps:Pt->List Pt}(h:lk f T=some (.one (i.cC C)))(DB:(i.cC C).pr 0= .l λa=>BK n (i.raw C 0 a))(hM:∀ ρ,MG C.T ρ M)(ht:Pi (tY M) yT (i.tree C) C i.s0 i.cF [none,none] [none,some B_1] []=some [R])(hR:∀(ρ:GV) (ρe:Br) (l:List Int),GZ (γG ρ) ρe R l->L6 r (Ps ρ.P) l)(hn:∀P,r.n*(Ps P).length=n)(v a:List Int)(P:Pt)(ha:R3 P a):LM T f [v,a]/\L6 r (Ps P) (gv T f 0 [v,a]):=by
 obtain⟨h1,ρe,h2⟩:=yH (i:=i) (C:=C) (ρ:=⟨P,P,λ_=>0,[]⟩) (n:=n) (M:=M) h DB (hM _) ht (ins:=[v,a]) (.no (.no .nil)) (.no (.yes (GX.p1 (r:=.p3) (AKK _) ha) .nil)) (λp hp=>by cases hp) (fun ρe l h=>by rw[(hR _ _ _ h).len];exact hn _);exact⟨h1,hR _ _ _ h2⟩
theorem AAr{T:Tb}(h:lk 132 T=some (.one CJ))(v a:List Int)(P:Pt)(ha:R3 P a):LM T 132 [v,a]/\L6 .pc ((List.range 8).map λj=>P.zm ((2*j+1:Nat):Int)) (gv T 132 0 [v,a]):=
 AA7 (Ps:=λP=>(List.range 8).map λj=>P.zm ((2*j+1:Nat):Int)) h ib (λ_=>om) AFf (λ_ _ _ h=>yV h) (λP=>by rw[Tg,List.length_range];rfl) v a P ha
theorem zV{T:Tb}(h:lk 175 T=some (.one CG))(v a:List Int)(P:Pt)(ha:R3 P a):LM T 175 [v,a]/\L6 .pa ((List.range 64).map λj=>P.zm ((2*j+1:Nat):Int)) (gv T 175 0 [v,a]):=
 AA7 (Ps:=λP=>(List.range 64).map λj=>P.zm ((2*j+1:Nat):Int)) h lH (λ_=>qK) ADv (λ_ _ _ h=>yS h) (λP=>by rw[Tg,List.length_range];rfl) v a P ha
end
end Go.Proofs.YtloibefkijfdlaaGreatDoor
