/- Contracts of the reference: products. -/
import Derived.Test.YtkbfdaoohhmgoaaGreatDoorNb
import Derived.Test.YtkbfdaoohhmgoaaGreatDoorPt3
namespace Go.Proofs.YtkbfdaoohhmgoaaGreatDoor
noncomputable section
open Go
def Gy:Ac:=⟨6000,Ab Tryz.f32,Tryz.f32.ntmps,Tryz.f32.results.toList,[],⟨[.agg (List.replicate 8 .u64),.agg (List.replicate 8 .u64)],false,λ_=>True,[],[],[.agg (List.replicate 8 .u64) z1]⟩⟩
def GA:Cx:=F7 [(47,.one PZ)] []
def Cw:Az:=Gy.aaE GA
theorem Z6:Gy.vi GA=true:=by kernel_rfl
def GQ:Ac:=⟨6000,Ab Tryz.f31,Tryz.f31.ntmps,Tryz.f31.results.toList,[],⟨[.agg (List.replicate 32 .u8)],false,λ_=>True,[],[],[.agg (List.replicate 8 .u64) z1]⟩⟩
def Ew:Cx:=F7 [(17,.one Ve),(47,.one PZ)] []
def KC:Az:=GQ.aaE Ew
theorem XM:GQ.vi Ew=true:=by kernel_rfl
def Zl:Int->List Int->Int->List Int->List Int
 |c,o::os,a,b::bs=>CU .rem (CU .add (CU .add c o) (CU .mul a b)) 4294967296::Zl (CU .quo (CU .add (CU .add c o) (CU .mul a b)) 4294967296) os a bs
 |c,_,_,_=>[c]
def Fk:List Int->List Int->List Int->List Int
 | [],acc,_=>acc
 |a::r,acc,b=>(Zl 0 acc a b).getD 0 0::Fk r ((Zl 0 acc a b).drop 1) b
def Si:Int->List Int->List Int->List Int
 |c,x::xs,y::ys=>CU .rem (CU .add (CU .add c x) (CU .mul 38 y)) 4294967296::Si (CU .quo (CU .add (CU .add c x) (CU .mul 38 y)) 4294967296) xs ys
 |_,_,_=>[]
def VB:Int->List Int->List Int->Int
 |c,x::xs,y::ys=>VB (CU .quo (CU .add (CU .add c x) (CU .mul 38 y)) 4294967296) xs ys
 |c,_,_=>c
def N9(a b:List Int):List Int:=Fk a [0,0,0,0,0,0,0,0] b
theorem AAU{a0 a1 a2 a3 a4 a5 a6 a7 b0 b1 b2 b3 b4 b5 b6 b7:Int}:Gy.fW GA 0 [[a0,a1,a2,a3,a4,a5,a6,a7],[b0,b1,b2,b3,b4,b5,b6,b7]]=
  l8 (X3 DW (Si 0 ((N9 [a0,a1,a2,a3,a4,a5,a6,a7] [b0,b1,b2,b3,b4,b5,b6,b7]).take 8) ((N9 [a0,a1,a2,a3,a4,a5,a6,a7] [b0,b1,b2,b3,b4,b5,b6,b7]).drop 8)) (VB 0 ((N9 [a0,a1,a2,a3,a4,a5,a6,a7] [b0,b1,b2,b3,b4,b5,b6,b7]).take 8) ((N9 [a0,a1,a2,a3,a4,a5,a6,a7] [b0,b1,b2,b3,b4,b5,b6,b7]).drop 8))):=by kernel_rfl
theorem AFY{a0 a1 a2 a3 a4 a5 a6 a7 b0 b1 b2 b3 b4 b5 b6 b7:Int}:Ji GA.T (Gy.fx GA) (BK [[a0,a1,a2,a3,a4,a5,a6,a7],[b0,b1,b2,b3,b4,b5,b6,b7]])=
  (fo2 [Si 0 ((N9 [a0,a1,a2,a3,a4,a5,a6,a7] [b0,b1,b2,b3,b4,b5,b6,b7]).take 8) ((N9 [a0,a1,a2,a3,a4,a5,a6,a7] [b0,b1,b2,b3,b4,b5,b6,b7]).drop 8),[VB 0 ((N9 [a0,a1,a2,a3,a4,a5,a6,a7] [b0,b1,b2,b3,b4,b5,b6,b7]).take 8) ((N9 [a0,a1,a2,a3,a4,a5,a6,a7] [b0,b1,b2,b3,b4,b5,b6,b7]).drop 8)]]/\True):=by kernel_rfl
end
section
open Go
theorem ANp:((mf (Aw.tree Al)).map λp=>p.2.1.length)=some 0:=by kernel_rfl
theorem AMj:OO 1 (Aw.tree Al)=true:=by kernel_rfl
theorem ALt{i:Ac}{C:Cx}(h:((mf (i.tree C)).map λp=>p.2.1.length)=some 0){np:Nat}(hk:OO np (i.tree C)=true)(ρ:Bu):Cv C.T (i.tree C) ρ:=by
 match hl:mf (i.tree C),h with
 |some (ds,ob,e,st),h=>
  simp only[UT,Ai,List.length_eq_zero_iff] at h;subst h;obtain⟨k1,k2,k3,k4,k5⟩:=Rc (T:=C.T) (ρ:=ρ) hk hl;exact k5 λq hq=>by cases hq
theorem AJS(args:List (List Int)):CW.pre args:=ALt (i:=Aw) (C:=Al) ANp AMj (BK args)
theorem ALs{T:Tb}(h:lk 129 T=some (.one CW)){x:List Int}(hx:u4 x):∃m,ScV x m/\(gv T 129 0 [x]).length=32/\cI (gv T 129 0 [x])/\Cm (gv T 129 0 [x])=m:=by
 obtain⟨m,h1,h2,h3,h4⟩:=AGR hx;have e:gv T 129 0 [x]=Aw.raw Al 0 [x]:=by
  rw[Bf h,AC4];exact Ay h2
 rw[e];exact⟨m,h1,h2,h3,h4⟩
end
section
open Go Ma
end
section
open Go Ma
end
section
open Go Ma
def AKO:List (Nat×KF):=[(131,.pw eI),(67,.mul),(133,.isn)]
theorem ARx:(Wl (xu AKO) nmF (Ar.tree AX) AX Ar.s0 Ar.cA [none] [some (fb [.v 0,.v 1,.v 2,.v 3])] [(0,0)]).isSome=true:=by kernel_rfl
theorem AQn{T:Tb}{f:Nat}{M:List (Nat×KF)}{i:Ac}{C:Cx}{ρ:FV}{jn:List (Option (List Int))}{bin:List (Option (List (Nat×FX)))}{pts:List PN}(hs:lk f T=some (.one (i.cQ C)))(hM:MF C.T M)(h:(Wl (xu M) nmF (i.tree C) C i.s0 i.cA jn bin pts).isSome=true){ins:List (List Int)}(hk:GF jn ins)(eE:qp (γF ρ) bin ins)(hp:∀p∈pts,¬(Mv (ins.getD p.1 []) p.2/\Mv (ins.getD p.1 []) (p.2+5))):NB T f ins:=by
 obtain⟨r,hr⟩:=Option.isSome_iff_exists.1 h;have:=nL (γ:=γF ρ) AMG (bR hM ρ) hr hk eE hp;exact⟨⟨_,hs,this.1⟩⟩
theorem AH5{T:Tb}(h:lk 62 T=some (.one CO)){P:Pt}{l:List Int}(hP:R3 P l):NB T 62 [l]:=by
 have hz:=qg hP;obtain⟨X,Y,Z,U,hl,_⟩:=hP;exact AQn (M:=AKO) (i:=Ar) (C:=AX) (ρ:=⟨λn=>[X,Y,Z,U].getD n 0,λ_=>false⟩) h (.cons (qx rfl) (.cons (KH rfl) (.cons (tK rfl) .nil))) ARx (ins:=[l]) (.no .nil) (.yes (MM.bl rfl hl) .nil) (λp hp=>by
  rw[NU] at hp;subst hp;exact hz)
end
end Go.Proofs.YtkbfdaoohhmgoaaGreatDoor
