/- The base point and the identity, as the code makes them. -/
import Derived.Test.YtkbfdaoohhmgoaaGreatDoorDw
import Derived.Test.YtkbfdaoohhmgoaaGreatDoorPa
namespace Go.Proofs.YtkbfdaoohhmgoaaGreatDoor
open Go Ma
theorem ALB(v:List Int)(a0 a1 a2 a3 a4 b0 b1 b2 b3 b4 c0 c1 c2 c3 c4 d0 d1 d2 d3 d4:Int):DN.raw Cs 0 [v,[a0,a1,a2,a3,a4,b0,b1,b2,b3,b4,c0,c1,c2,c3,c4,d0,d1,d2,d3,d4]]= [a0,a1,a2,a3,a4,b0,b1,b2,b3,b4,c0,c1,c2,c3,c4,d0,d1,d2,d3,d4]:=by kernel_rfl
theorem AMB{α:Type}{l:List α}(h:l.length=20):∃a0 a1 a2 a3 a4 b0 b1 b2 b3 b4 c0 c1 c2 c3 c4 d0 d1 d2 d3 d4,l= [a0,a1,a2,a3,a4,b0,b1,b2,b3,b4,c0,c1,c2,c3,c4,d0,d1,d2,d3,d4]:=by
 match l,h with
 | [a0,a1,a2,a3,a4,b0,b1,b2,b3,b4,c0,c1,c2,c3,c4,d0,d1,d2,d3,d4],_=>exact⟨a0,a1,a2,a3,a4,b0,b1,b2,b3,b4,c0,c1,c2,c3,c4,d0,d1,d2,d3,d4,rfl⟩
theorem AQo:((mf (DN.tree Cs)).map λp=>p.2.1.length)=some 0:=by kernel_rfl
theorem AQK:OO 2 (DN.tree Cs)=true:=by kernel_rfl
theorem AR4:F3.pr 0= .l λa=>BF 20 (DN.raw Cs 0 a):=rfl
theorem APu{T:Tb}(h:lk 151 T=some (.one F3)):KF.Ok T 151 (.cpy 4):=λv l hl=>by
 obtain⟨a0,a1,a2,a3,a4,b0,b1,b2,b3,b4,c0,c1,c2,c3,c4,d0,d1,d2,d3,d4,rfl⟩:=AMB hl;refine⟨C8 h ?_,?_⟩
 ·have ho:=AQo
  match DM:mf (DN.tree Cs),ho with
  |some (ds,ob,e,st),ho=>
   simp only[UT,Ai,List.length_eq_zero_iff] at ho;subst ho;obtain⟨k1,k2,k3,k4,k5⟩:=Rc (T:=Cs.T) (ρ:=BK [v,[a0,a1,a2,a3,a4,b0,b1,b2,b3,b4,c0,c1,c2,c3,c4,d0,d1,d2,d3,d4]]) AQK DM;exact k5 λq hq=>by cases hq
 ·rw[Bf h,AR4];show BF 20 (DN.raw Cs 0 _)=_;rw[ALB];rfl
def byG:List Int:=[88,102,102,102,102,102,102,102,102,102,102,102,102,102,102,102,102,102,102,102,102,102,102,102,102,102,102,102,102,102,102,102]
def Sh:List Int:=[1801439850948184,1351079888211148,450359962737049,900719925474099,1801439850948198]
theorem AJg(v:List Int):Dn.raw Dp 0 [v,byG]=Sh:=by kernel_rfl
theorem AKJ:Dv.pr 0= .l λa=>BF 5 (Dn.raw Dp 0 a):=rfl
theorem AK6{T:Tb}(h:lk 63 T=some (.one Dv)):KF.Ok T 63 (.at byG (Oe Sh)):=λv=>by
 refine⟨C8 h trivial,?_⟩;rw[Bf h,AKJ];show Gl _ (BF 5 (Dn.raw Dp 0 [v,byG]));rw[AJg];exact⟨QB rfl,rfl⟩
def tq(y:FX):FX:=.sub (.mul y y) (.k 1)
def rz(y:FX):FX:=.add (.mul (.mul y y) (.k (Oe dL))) (.k 1)
def AJY(y:FX):FX:=TL (tX (tq y) (rz y))
def zQ(bs:List Int)(c:Int):List (Nat×KF):=[(63,.at bs c),(64,.sq),(66,.k 1),(65,.sub),(68,.k (Oe dL)),(67,.mul),(69,.add),(70,.sqr),(71,.neg),(72,.cf),(73,.set),(74,.k 1),(151,.cpy 4)]
def ANB(y:FX)(r:Option (List (List (Bk FX)))):Bool:=match r with
 |some [[.a 5 a,.a 5 b,.a 5 c,.a 5 d]]=>(match a,d with
  | .ite (.t false) _ a',.mul (.ite (.t false) _ d') e=>a'.beq (AJY y)&&b.beq y&&c.beq (.k 1)&&d'.beq (AJY y)&&e.beq y
  |_,_=>false)
 |_=>false
theorem APM:ANB (.k (Oe Sh)) (WG (xu (zQ byG (Oe Sh))) (AJD [.not (gH (tq (.k (Oe Sh))) (rz (.k (Oe Sh))))]) Cj CL [])=true:=by kernel_rfl
theorem AGl(a b:FX)(ρ:FV):(gH a b).bv ρ=(gH (.v 0) (.v 1)).bv (FX.v2 (a.ev ρ) (b.ev ρ)):=by
 simp only[FX.bv,FX.ev,gH,pX,pW,uo,FX.eb,FX.v2,Qx,aa]
theorem AGt(a b:FX)(ρ:FV):(TL (tX a b)).ev ρ=(TL (tX (.v 0) (.v 1))).ev (FX.v2 (a.ev ρ) (b.ev ρ)):=by
 simp only[FX.ev,TL,tX,pX,pW,uo,FX.eb,FX.v2,Qx,aa]
def uY(y:Fp):Fp:=y*y-1
def vY(y:Fp):Fp:=y*y*dE+1
def xY(y:Fp):Fp:=(TL (tX (.v 0) (.v 1))).ev (FX.v2 (uY y) (vY y))
theorem xh(y:FX)(ρ:FV):(tq y).ev ρ=uY (y.ev ρ):=by
 show y.ev ρ*y.ev ρ-Jn 1=_;rw[P8];rfl
theorem zt(y:FX)(ρ:FV):(rz y).ev ρ=vY (y.ev ρ):=by
 show y.ev ρ*y.ev ρ*Jn (Oe dL)+Jn 1=_;rw[P8,AQz];rfl
theorem wW(y:FX)(ρ:FV):(AJY y).ev ρ=xY (y.ev ρ):=by
 unfold AJY xY;rw[AGt,xh,zt]
theorem AGm(y:FX)(ρ:FV):(gH (tq y) (rz y)).bv ρ=(gH (.v 0) (.v 1)).bv (FX.v2 (uY (y.ev ρ)) (vY (y.ev ρ))):=by
 rw[AGl,xh,zt]
theorem Qb{x y:Fp}:vY y*(x*x)=uY y↔Md dE x y:=by
 unfold vY uY Md;constructor<;>intro h<;>grind
theorem WY{y:Fp}(h:∃x,Md dE x y):Md dE (xY y) y:=by
 obtain⟨h1,h2,_⟩:=YR (uY y) (vY y);obtain⟨x,hx⟩:=h;exact Qb.1 (h2 (h1.2 ⟨x,Qb.2 hx⟩))
theorem AAb{y:Fp}(h:∃x,Md dE x y):(gH (.v 0) (.v 1)).bv (FX.v2 (uY y) (vY y))=true:=by
 obtain⟨x,hx⟩:=h;exact(YR (uY y) (vY y)).1.2 ⟨x,Qb.2 hx⟩
theorem AEM{x y z t:Fp}(h:Md dE x y)(hz:z=1)(ht:t=x*y){l:List Int}(hl:MM [x,y,z,t] l):R3 ⟨x,y,h⟩ l:=by
 subst hz;subst ht;exact⟨x,y,1,x*y,hl,⟨by decide +kernel,by grind,by grind,by grind⟩⟩
theorem fs4{a b c d:Fp}{l u1 w1 u2 w2 u3 w3 u4 w4:List Int}(k1:l=u1++w1)(q1:Gl a u1)(k3:w1=u2++w2)(q2:Gl b u2)(k5:w2=u3++w3)(q3:Gl c u3)(k7:w3=u4++w4)(q4:Gl d u4)(k9:w4= []):MM [a,b,c,d] l:=⟨u1,w1,k1,q1,u2,w2,k3,q2,u3,w3,k5,q3,u4,w4,k7,q4,k9⟩
theorem ANx{i:Ac}{C:Cx}{bs:List Int}{c:Int}(hM:MF C.T (zQ bs c))(ht:ANB (.k c) (WG (xu (zQ bs c)) (AJD [.not (gH (tq (.k c)) (rz (.k c)))]) i C [])=true)(hx:∃x,Md dE x (Jn c))(ins:List (List Int)):
  Cv C.T (i.tree C) (BK ins)/\R3 ⟨xY (Jn c),Jn c,WY hx⟩ (i.raw C 0 ins):=by
 let ρ:FV:=⟨λ_=>0,λ_=>false⟩
 have hy:(FX.k c).ev ρ=Jn c:=rfl;have hH:∀x ∈ [FX.not (gH (tq (.k c)) (rz (.k c)))],x.bv ρ=false:=λx eg=>by
  rw[NU] at eg;subst eg;show(!(gH (tq (.k c)) (rz (.k c))).bv ρ)=false;rw[AGm,hy,AAb hx];rfl
 unfold ANB at ht;split at ht
 ·rename_i a b e d hr;obtain⟨h1,ρe,h2,h3⟩:=V5 (ins:=ins) (γF ρ) (bR hM ρ) (λds=>AJc hH ds) hr (λj b hj=>by simp at hj);refine⟨h1,?_⟩;have h4:=h3 0 _ rfl;split at ht
  ·rename_i z a' w d' f;simp only[Bj] at ht;obtain⟨⟨⟨⟨t1,t2⟩,t3⟩,t4⟩,t5⟩:=ht;have e1:a'.ev ρ=xY (Jn c):=by
    have:=CV Prod.fst (FX.ef ρ t1);exact this.trans (wW (.k c) ρ)
   have e2:b.ev ρ=Jn c:=CV Prod.fst (FX.ef ρ t2);have e3:e.ev ρ=1:=(CV Prod.fst (FX.ef ρ t3)).trans P8;have e4:d'.ev ρ=xY (Jn c):=by
    have:=CV Prod.fst (FX.ef ρ t4);exact this.trans (wW (.k c) ρ)
   have e5:f.ev ρ=Jn c:=CV Prod.fst (FX.ef ρ t5);obtain⟨u1,w1,k1,k2,u2,w2,k3,k4,u3,w3,k5,k6,u4,w4,k7,k8,k9⟩:=h4;have hb:b.vr=false/\e.vr=false:=by
    constructor
    ·cases b<;>first|rfl|cases t2
    ·cases e<;>first|rfl|cases t3
   have q1:Gl (a'.ev ρ) u1:=γF_fe (e:=.ite (.t false) z a') k2.2 rfl;have q2:Gl (b.ev ρ) u2:=γF_fe k4.2 hb.1;have q3:Gl (e.ev ρ) u3:=γF_fe k6.2 hb.2;have q4:Gl (d'.ev ρ*f.ev ρ) u4:=γF_fe (e:=.mul (.ite (.t false) w d') f) k8.2 rfl;rw[e1] at q1;rw[e2] at q2;rw[e3] at q3;rw[e4,e5] at q4;exact AEM (WY hx) rfl rfl (fs4 k1 q1 k3 q2 k5 q3 k7 q4 k9)
  ·cases ht
 ·cases ht
def yG:Fp:=Jn (Oe Sh)
theorem ACp:∃x,Md dE x yG:=⟨15112221349535400772501151409588531511454012693041857206046113283949847762202,by unfold Md;decide +kernel⟩
def Um:Pt:=⟨xY yG,yG,WY ACp⟩
theorem ANl:DK.pr 0= .l λa=>BF 20 (Cj.raw CL 0 a):=rfl
theorem AOf{T:Tb}{d:Nat->Int}{s:List Int}(h:lk 126 T=some (.one DK)):KP.Ok T 126 ⟨Um,Um,d,s⟩ (.cst .p3 1):=λargs=>by
 have hM:MF CL.T (zQ byG (Oe Sh)):=.cons (AK6 rfl) (.cons (Zd rfl) (.cons (oh rfl) (.cons (Rn rfl) (.cons (ASC rfl) (.cons (KH rfl) (.cons (Rv rfl) (.cons (AEm rfl) (.cons (jC rfl) (.cons (jT rfl) (.cons (uq rfl) (.cons (sQ rfl) (.cons (APu rfl) .nil))))))))))));have h2:=ANx hM APM ACp args;refine⟨C8 h h2.1,?_⟩;rw[Bf h,ANl,Pt.ke];show R3 Um (BF 20 (Cj.raw CL 0 args));rw[Ay (show _=20 from RR.len (r:=.p3) h2.2)];exact h2.2
end Go.Proofs.YtkbfdaoohhmgoaaGreatDoor
