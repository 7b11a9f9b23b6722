/- Contracts that the trees give: points and tables of verifying. -/
import Derived.Test.YtkbfdaoohhmgoaaGreatDoorDw
import Derived.Test.YtkbfdaoohhmgoaaGreatDoorPa
namespace Go.Proofs.YtkbfdaoohhmgoaaGreatDoor
noncomputable section
open Go
section
variable{GB:Nat}{GC:Nat->Nat->Option Value}{ad:Nat->Nat×Nat}(hG:GI GB GC ad)
include hG
def Gd:Ac:=⟨6000,Ab Tryz.f97,Tryz.f97.ntmps,Tryz.f97.results.toList,[],⟨[.mem (List.replicate 20 .u64) 176 true,.mem (List.replicate 20 .u64) 98 false,.mem (List.replicate 20 .u64) 162 false],false,λ_=>True,[(0,(List.replicate 20 .u64),z1)],[],[.cF 0]⟩⟩
def Gg:Cx:=F7 [(65,.one BI),(67,.one Ao),(69,.one Co)] []
def JX:Az:=Gd.cQ Gg
theorem OH:Bv Tryz.prog GB GC 97 (.one JX):=Ac.fg hG (.cons (k:=65) rfl (Bw hG) Tryz.call65 (Ac.len _ _) (.cons (k:=67) rfl (Ap hG) Tryz.call67 (Ac.len _ _) (.cons (k:=69) rfl (Cr hG) Tryz.call69 (Ac.len _ _) .nil))) .nil Tryz.func97 rfl rfl rfl (.inl rfl) (by kernel_rfl)
def Ef:Ac:=⟨6000,Ab Tryz.f100,Tryz.f100.ntmps,Tryz.f100.results.toList,[],⟨[.mem (List.replicate 20 .u64) 176 true,.mem (List.replicate 20 .u64) 98 false,.mem (List.replicate 15 .u64) 173 false],false,λ_=>True,[(0,(List.replicate 20 .u64),z1)],[],[.cF 0]⟩⟩
def Em:Cx:=F7 [(65,.one BI),(67,.one Ao),(69,.one Co)] []
def HZ:Az:=Ef.cQ Em
theorem K8:Bv Tryz.prog GB GC 100 (.one HZ):=Ac.fg hG (.cons (k:=65) rfl (Bw hG) Tryz.call65 (Ac.len _ _) (.cons (k:=67) rfl (Ap hG) Tryz.call67 (Ac.len _ _) (.cons (k:=69) rfl (Cr hG) Tryz.call69 (Ac.len _ _) .nil))) .nil Tryz.func100 rfl rfl rfl (.inl rfl) (by kernel_rfl)
def EE:Ac:=⟨6000,Ab Tryz.f92,Tryz.f92.ntmps,Tryz.f92.results.toList,[],⟨[.mem (List.replicate 15 .u64) 179 true],false,λ_=>True,[(0,(List.replicate 15 .u64),z1)],[],[.cF 0]⟩⟩
def EA:Cx:=F7 [(74,.one Gp),(130,.one J2)] []
def KO:Az:=EE.cQ EA
theorem O1:Bv Tryz.prog GB GC 92 (.one KO):=Ac.fg hG (.cons (k:=74) rfl (II hG) Tryz.call74 (Ac.len _ _) (.cons (k:=130) rfl (Sb hG) Tryz.call130 (Ac.len _ _) .nil)) .nil Tryz.func92 rfl rfl rfl (.inl rfl) (by kernel_rfl)
def Gs:Ac:=⟨6000,Ab Tryz.f102,Tryz.f102.ntmps,Tryz.f102.results.toList,[],⟨[.mem (List.replicate 20 .u64) 98 true,.mem (List.replicate 15 .u64) 179 false],false,λ_=>True,[(0,(List.replicate 20 .u64),z1)],[],[.cF 0]⟩⟩
def Gv:Cx:=F7 [(64,.one DJ),(67,.one Ao)] []
def Jo:Az:=Gs.cQ Gv
theorem OX:Bv Tryz.prog GB GC 102 (.one Jo):=Ac.fg hG (.cons (k:=64) rfl (DY hG) Tryz.call64 (Ac.len _ _) (.cons (k:=67) rfl (Ap hG) Tryz.call67 (Ac.len _ _) .nil)) .nil Tryz.func102 rfl rfl rfl (.inl rfl) (by kernel_rfl)
def BX:Ac:=⟨6000,Ab Tryz.f90,Tryz.f90.ntmps,Tryz.f90.results.toList,[],⟨[.mem (List.replicate 160 .u64) 4 true,.mem (List.replicate 20 .u64) 5 false],false,λ_=>True,[(0,List.replicate 160 .u64,z1)],[],[]⟩⟩
def Bd:Cx:=F7 [(94,.one DX),(96,.one Eb),(127,.one Dw),(128,.one F9)] []
def CG:Az:=BX.cQ Bd
theorem KI:Bv Tryz.prog GB GC 90 (.one CG):=Ac.fg hG (.cons (k:=94) rfl (D8 hG) Tryz.call94 (Ac.fX _ _) (.cons (k:=96) rfl (GJ hG) Tryz.call96 (Ac.fX _ _) (.cons (k:=127) rfl (Hz hG) Tryz.call127 (Ac.fX _ _) (.cons (k:=128) rfl (Ke hG) Tryz.call128 (Ac.fX _ _) .nil)))) .nil Tryz.func90 rfl rfl rfl (.inl rfl) (by kernel_rfl)
def Bb:Ac:=⟨6000,Ab Tryz.f125,Tryz.f125.ntmps,Tryz.f125.results.toList,[],⟨[.mem (List.replicate 960 .u64) 4 true,.mem (List.replicate 20 .u64) 5 false],false,λ_=>True,[(0,List.replicate 960 .u64,z1)],[],[]⟩⟩
def Bc:Cx:=F7 [(94,.one DX),(99,.one Eg),(128,.one F9),(150,.one Ei)] []
def CE:Az:=Bb.cQ Bc
theorem KJ:Bv Tryz.prog GB GC 125 (.one CE):=Ac.fg hG (.cons (k:=94) rfl (D8 hG) Tryz.call94 (Ac.fX _ _) (.cons (k:=99) rfl (G8 hG) Tryz.call99 (Ac.fX _ _) (.cons (k:=128) rfl (Ke hG) Tryz.call128 (Ac.fX _ _) (.cons (k:=150) rfl (Kw hG) Tryz.call150 (Ac.fX _ _) .nil)))) .nil Tryz.func125 rfl rfl rfl (.inl rfl) (by kernel_rfl)
end
end
section
open Go Ma
theorem AJN{T:Tb}(h:lk 97 T=some (.one JX)):∀(v a b:List Int) (P Q:Pt),R3 P a->RC Q b->NB T 97 [v,a,b]/\zx (P.add Q.neg) (gv T 97 0 [v,a,b]):=λv a b P Q ⟨x0,x1,x2,x3,h0,g0⟩ ⟨x4,x5,x6,x7,h1,g1⟩=>by
 obtain⟨h8,h9⟩:=YI (M:=[(67,.mul),(69,.add),(65,.sub)]) (i:=Gd) (C:=Gg) (bin:=[none,some (fb [.v 0,.v 1,.v 2,.v 3]),some (fb [.v 4,.v 5,.v 6,.v 7])]) (es:=[(.sub (.mul (.add (.v 1) (.v 0)) (.v 5)) (.mul (.sub (.v 1) (.v 0)) (.v 4))),(.add (.mul (.add (.v 1) (.v 0)) (.v 5)) (.mul (.sub (.v 1) (.v 0)) (.v 4))),(.sub (.add (.mul (.v 2) (.v 6)) (.mul (.v 2) (.v 6))) (.mul (.v 3) (.v 7))),(.add (.add (.mul (.v 2) (.v 6)) (.mul (.v 2) (.v 6))) (.mul (.v 3) (.v 7)))]) (.cons (KH rfl) (.cons (Rv rfl) (.cons (Rn rfl) .nil))) (by kernel_rfl) rfl ⟨λn=>[x0,x1,x2,x3,x4,x5,x6,x7].getD n 0,λ_=>false⟩ (ins:=[v,a,b]) (.no (.yes (MM.bl rfl h0) (.yes (MM.bl rfl h1) .nil)));refine⟨C8 h h8,?_⟩;rw[Bf h];show zx _ (BF 20 (Gd.raw Gg 0 [v,a,b]));rw[MM.fix (n:=20) h9 rfl];exact⟨_,_,_,_,h9,AQB g0 g1⟩
theorem AGs{T:Tb}(h:lk 100 T=some (.one HZ)):∀(v a b:List Int) (P Q:Pt),R3 P a->RA Q b->NB T 100 [v,a,b]/\zx (P.add Q.neg) (gv T 100 0 [v,a,b]):=λv a b P Q ⟨x0,x1,x2,x3,h0,g0⟩ ⟨x4,x5,x6,h1,g1⟩=>by
 obtain⟨h8,h9⟩:=YI (M:=[(67,.mul),(69,.add),(65,.sub)]) (i:=Ef) (C:=Em) (bin:=[none,some (fb [.v 0,.v 1,.v 2,.v 3]),some (fb [.v 4,.v 5,.v 6])]) (es:=[(.sub (.mul (.add (.v 1) (.v 0)) (.v 5)) (.mul (.sub (.v 1) (.v 0)) (.v 4))),(.add (.mul (.add (.v 1) (.v 0)) (.v 5)) (.mul (.sub (.v 1) (.v 0)) (.v 4))),(.sub (.add (.v 2) (.v 2)) (.mul (.v 3) (.v 6))),(.add (.add (.v 2) (.v 2)) (.mul (.v 3) (.v 6)))]) (.cons (KH rfl) (.cons (Rv rfl) (.cons (Rn rfl) .nil))) (by kernel_rfl) rfl ⟨λn=>[x0,x1,x2,x3,x4,x5,x6].getD n 0,λ_=>false⟩ (ins:=[v,a,b]) (.no (.yes (MM.bl rfl h0) (.yes (MM.bl rfl h1) .nil)));refine⟨C8 h h8,?_⟩;rw[Bf h];show zx _ (BF 20 (Ef.raw Em 0 [v,a,b]));rw[MM.fix (n:=20) h9 rfl];exact⟨_,_,_,_,h9,ALx g0 g1⟩
theorem ALd{X Y Z:Fp}{P:Pt}(h:P2 X Y Z P):P3 (X*Z) (Y*Z) (Z*Z) (X*Y) P:=by
 obtain⟨hz,hx,hy⟩:=h;subst hx;subst hy;exact⟨EJ hz hz,by grind,by grind,by grind⟩
theorem AIi{T:Tb}(h:lk 102 T=some (.one Jo)):∀(v a:List Int) (P:Pt),R2 P a->NB T 102 [v,a]/\R3 (P) (gv T 102 0 [v,a]):=λv a P ⟨x0,x1,x2,h0,g0⟩=>by
 obtain⟨h8,h9⟩:=YI (M:=[(67,.mul),(64,.sq)]) (i:=Gs) (C:=Gv) (bin:=[none,some (fb [.v 0,.v 1,.v 2])]) (es:=[(.mul (.v 0) (.v 2)),(.mul (.v 1) (.v 2)),(.mul (.v 2) (.v 2)),(.mul (.v 0) (.v 1))]) (.cons (KH rfl) (.cons (Zd rfl) .nil)) (by kernel_rfl) rfl ⟨λn=>[x0,x1,x2].getD n 0,λ_=>false⟩ (ins:=[v,a]) (.no (.yes (MM.bl rfl h0) .nil));refine⟨C8 h h8,?_⟩;rw[Bf h];show R3 _ (BF 20 (Gs.raw Gv 0 [v,a]));rw[MM.fix (n:=20) h9 rfl];exact⟨_,_,_,_,h9,ALd g0⟩
theorem AEs{T:Tb}(h:lk 92 T=some (.one KO))(args:List (List Int)):NB T 92 args/\R2 Pt.zero (gv T 92 0 args):=by
 obtain⟨h8,h9⟩:=AQV (M:=[(74,.k 1),(130,.k 0)]) (i:=EE) (C:=EA) (n:=1) (es:=[.k 0,.k 1,.k 1]) (.cons (sQ rfl) (.cons (AJE rfl) .nil)) (by kernel_rfl) rfl ⟨λ_=>0,λ_=>false⟩ args;refine⟨C8 h h8,?_⟩;rw[Bf h];show R2 _ (BF 15 (EE.raw EA 0 args));rw[MM.fix (n:=15) h9 rfl];have e:MM [0,1,1] (EE.raw EA 0 args):=by
  have h9':MM [Jn 0,Jn 1,Jn 1] (EE.raw EA 0 args):=h9;rw[P8,Kz] at h9';exact h9'
 exact⟨0,1,1,e,⟨by decide +kernel,by decide +kernel,by decide +kernel⟩⟩
def wL:List (Nat×KP):=[(127,.DO .p3 .pc),(128,.HC .p3 .p3 .p3),(96,.HC .p3 .pc .oe),(94,.DO .oe .p3)]
def yQ:List (Bk GX):=(List.range 8).map λk=>.a 20 (.pt .pc (.c (2*k+1:Nat)))
theorem AIm:Wl (SR wL) nmG (BX.tree Bd) Bd BX.s0 BX.cA [none,none] [none,some B_1] []=some [yQ]:=by kernel_rfl
theorem AA7{ρ:GV}{ρe:Bu}{l:List Int}(h:GK (γG ρ) ρe yQ l):NE .pc ((List.range 8).map λj=>ρ.P.zm ((2*j+1:Nat):Int)) l:=gpT (r:=.pc) (f:=λk=>.c (2*k+1:Nat)) (λ_k=>(Z2.G4 _ _).symm) h
def zg:List (Nat×KP):=[(150,.DO .p3 .pa),(128,.HC .p3 .p3 .p3),(99,.HC .p3 .pa .oe),(94,.DO .oe .p3)]
def xH:List (Bk GX):=(List.range 64).map λk=>.a 15 (.pt .pa (.c (2*k+1:Nat)))
theorem AJL:Wl (SR zg) nmG (Bb.tree Bc) Bc Bb.s0 Bb.cA [none,none] [none,some B_1] []=some [xH]:=by kernel_rfl
theorem AAr{ρ:GV}{ρe:Bu}{l:List Int}(h:GK (γG ρ) ρe xH l):NE .pa ((List.range 64).map λj=>ρ.P.zm ((2*j+1:Nat):Int)) l:=gpT (r:=.pa) (f:=λk=>.c (2*k+1:Nat)) (λ_k=>(Z2.G4 _ _).symm) h
end
section
open Go Ma
theorem mG:CG.pr 0= .l λa=>BF 160 (BX.raw Bd 0 a):=by kernel_rfl
theorem lN:CE.pr 0= .l λa=>BF 960 (Bb.raw Bc 0 a):=by kernel_rfl
theorem rU{ρ:GV}:MG Bd.T ρ wL:=.cons (yS rfl) (.cons (xk rfl) (.cons (kH rfl) (.cons (Vd rfl) .nil)))
theorem uW{ρ:GV}:MG Bc.T ρ zg:=.cons (AGX rfl) (.cons (xk rfl) (.cons (yw rfl) (.cons (Vd rfl) .nil)))
theorem ACb{T:Tb}{f n:Nat}{M:List (Nat×KP)}{i:Ac}{C:Cx}{r:SI}{R:List (Bk GX)}{Ps:Pt->List Pt}(h:lk f T=some (.one (i.cQ C)))(CN:(i.cQ C).pr 0= .l λa=>BF n (i.raw C 0 a))(hM:∀ ρ,MG C.T ρ M)(ht:Wl (SR M) nmG (i.tree C) C i.s0 i.cA [none,none] [none,some B_1] []=some [R])(hR:∀(ρ:GV) (ρe:Bu) (l:List Int),GK (γG ρ) ρe R l->NE r (Ps ρ.P) l)(hn:∀P,r.n*(Ps P).length=n)(v a:List Int)(P:Pt)(ha:R3 P a):NB T f [v,a]/\NE r (Ps P) (gv T f 0 [v,a]):=by
 obtain⟨h1,ρe,h2⟩:=AUB (i:=i) (C:=C) (ρ:=⟨P,P,λ_=>0,[]⟩) (n:=n) (M:=M) h CN (hM _) ht (ins:=[v,a]) (.no (.no .nil)) (.no (.yes (GX.p1 (r:=.p3) (AR0 _) ha) .nil)) (λp hp=>by cases hp) (fun ρe l h=>by rw[(hR _ _ _ h).len];exact hn _);exact⟨h1,hR _ _ _ h2⟩
theorem ADZ{T:Tb}(h:lk 90 T=some (.one CG))(v a:List Int)(P:Pt)(ha:R3 P a):NB T 90 [v,a]/\NE .pc ((List.range 8).map λj=>P.zm ((2*j+1:Nat):Int)) (gv T 90 0 [v,a]):=
 ACb (Ps:=λP=>(List.range 8).map λj=>P.zm ((2*j+1:Nat):Int)) h mG (λ_=>rU) AIm (λ_ _ _ h=>AA7 h) (λP=>by rw[UC,List.length_range];rfl) v a P ha
theorem ADT{T:Tb}(h:lk 125 T=some (.one CE))(v a:List Int)(P:Pt)(ha:R3 P a):NB T 125 [v,a]/\NE .pa ((List.range 64).map λj=>P.zm ((2*j+1:Nat):Int)) (gv T 125 0 [v,a]):=
 ACb (Ps:=λP=>(List.range 64).map λj=>P.zm ((2*j+1:Nat):Int)) h lN (λ_=>uW) AJL (λ_ _ _ h=>AAr h) (λP=>by rw[UC,List.length_range];rfl) v a P ha
end
end Go.Proofs.YtkbfdaoohhmgoaaGreatDoor
