/- The base point and the identity, as the code makes them. -/
import Derived.Test.YtloibefkijfdlaaGreatDoorDw
import Derived.Test.YtloibefkijfdlaaGreatDoorFc
import Derived.Test.YtloibefkijfdlaaGreatDoorPa
namespace Go.Proofs.YtloibefkijfdlaaGreatDoor
open Go Ma
theorem AKL(v:List Int)(a0 a1 a2 a3 a4 b0 b1 b2 b3 b4 c0 c1 c2 c3 c4 d0 d1 d2 d3 d4:Int):Co.raw CO 0 [v,[a0,a1,a2,a3,a4,b0,b1,b2,b3,b4,c0,c1,c2,c3,c4,d0,d1,d2,d3,d4]]= [a0,a1,a2,a3,a4,b0,b1,b2,b3,b4,c0,c1,c2,c3,c4,d0,d1,d2,d3,d4]:=by kernel_rfl
theorem AMG{α:Type}{l:List α}(h:l.length=20):∃a0 a1 a2 a3 a4 b0 b1 b2 b3 b4 c0 c1 c2 c3 c4 d0 d1 d2 d3 d4,l= [a0,a1,a2,a3,a4,b0,b1,b2,b3,b4,c0,c1,c2,c3,c4,d0,d1,d2,d3,d4]:=by
 match l,h with
 | [a0,a1,a2,a3,a4,b0,b1,b2,b3,b4,c0,c1,c2,c3,c4,d0,d1,d2,d3,d4],_=>exact⟨a0,a1,a2,a3,a4,b0,b1,b2,b3,b4,c0,c1,c2,c3,c4,d0,d1,d2,d3,d4,rfl⟩
theorem AN0:((Zk (Co.tree CO)).map λp=>p.2.1.length)=some 0:=by kernel_rfl
theorem AQY:LU 2 (Co.tree CO)=true:=by kernel_rfl
theorem AOw:Dj.pr 0= .l λa=>BK 20 (Co.raw CO 0 a):=rfl
theorem AIU{T:Tb}(h:lk 148 T=some (.one Dj)):KF.Ok T 148 (.cpy 4):=λv l hl=>by
 obtain⟨a0,a1,a2,a3,a4,b0,b1,b2,b3,b4,c0,c1,c2,c3,c4,d0,d1,d2,d3,d4,rfl⟩:=AMG hl;refine⟨Cf h ?_,?_⟩
 ·have ho:=AN0
  match Of:Zk (Co.tree CO),ho with
  |some (ds,ob,e,st),ho=>
   simp only[UA,Ai,List.length_eq_zero_iff] at ho;subst ho;obtain⟨k1,k2,k3,k4,k5⟩:=OY (T:=CO.T) (ρ:=Ce [v,[a0,a1,a2,a3,a4,b0,b1,b2,b3,b4,c0,c1,c2,c3,c4,d0,d1,d2,d3,d4]]) AQY Of;exact k5 λq hq=>by cases hq
 ·rw[BQ h,AOw];show BK 20 (Co.raw CO 0 _)=_;rw[AKL];rfl
def byG:List Int:=[88,102,102,102,102,102,102,102,102,102,102,102,102,102,102,102,102,102,102,102,102,102,102,102,102,102,102,102,102,102,102,102]
def S6:List Int:=[1,0,0,0,0,0,0,0,0,0,0,0,0,0,0,0,0,0,0,0,0,0,0,0,0,0,0,0,0,0,0,0]
def SR:List Int:=[1801439850948184,1351079888211148,450359962737049,900719925474099,1801439850948198]
def zT:List Int:=[1,0,0,0,0]
theorem AD2(v:List Int):DL.raw DK 0 [v,byG]=SR:=by kernel_rfl
theorem AFj(v:List Int):DL.raw DK 0 [v,S6]=zT:=by kernel_rfl
theorem ACC:DJ.pr 0= .l λa=>BK 5 (DL.raw DK 0 a):=rfl
theorem AM2{T:Tb}(h:lk 111 T=some (.one DJ)):KF.Ok T 111 (.at byG (NG SR)):=λv=>by
 refine⟨Cf h trivial,?_⟩;rw[BQ h,ACC];show Ho _ (BK 5 (DL.raw DK 0 [v,byG]));rw[AD2];exact⟨Ow rfl,rfl⟩
theorem AKa{T:Tb}(h:lk 111 T=some (.one DJ)):KF.Ok T 111 (.at S6 (NG zT)):=λv=>by
 refine⟨Cf h trivial,?_⟩;rw[BQ h,ACC];show Ho _ (BK 5 (DL.raw DK 0 [v,S6]));rw[AFj];exact⟨Ow rfl,rfl⟩
def kZ(y:FX):FX:=.sub (.mul y y) (.k 1)
def kP(y:FX):FX:=.add (.mul (.mul y y) (.k (NG dL))) (.k 1)
def AFB(y:FX):FX:=SI (nK (kZ y) (kP y))
def Z6(bs:List Int)(c:Int):List (Nat×KF):=[(111,.at bs c),(112,.sq),(114,.k 1),(113,.sub),(116,.k (NG dL)),(115,.mul),(117,.add),(118,.sqr),(119,.neg),(120,.ca),(121,.set),(122,.k 1),(148,.cpy 4)]
def ADy(y:FX)(r:Option (List (List (Bk FX)))):Bool:=match r with
 |some [[.a 5 a,.a 5 b,.a 5 c,.a 5 d]]=>(match a,d with
  | .ite (.t false) _ a',.mul (.ite (.t false) _ d') e=>a'.beq (AFB y)&&b.beq y&&c.beq (.k 1)&&d'.beq (AFB y)&&e.beq y
  |_,_=>false)
 |_=>false
theorem AOi:ADy (.k (NG SR)) (Nu (nP (Z6 byG (NG SR))) (ABh [.not (Zj (kZ (.k (NG SR))) (kP (.k (NG SR))))]) Cy CU [])=true:=by kernel_rfl
theorem AOe:ADy (.k (NG zT)) (Nu (nP (Z6 S6 (NG zT))) (ABh [.not (Zj (kZ (.k (NG zT))) (kP (.k (NG zT))))]) ER Dk [])=true:=by kernel_rfl
theorem AHO(a b:FX)(ρ:FV):(Zj a b).bv ρ=(Zj (.v 0) (.v 1)).bv (FX.v2 (a.ev ρ) (b.ev ρ)):=by
 simp only[FX.bv,FX.ev,Zj,j3,lV,pY,FX.eb,FX.v2,Ru,X7]
theorem AEy(a b:FX)(ρ:FV):(SI (nK a b)).ev ρ=(SI (nK (.v 0) (.v 1))).ev (FX.v2 (a.ev ρ) (b.ev ρ)):=by
 simp only[FX.ev,SI,nK,j3,lV,pY,FX.eb,FX.v2,Ru,X7]
def uY(y:Fp):Fp:=y*y-1
def vY(y:Fp):Fp:=y*y*dE+1
def xY(y:Fp):Fp:=(SI (nK (.v 0) (.v 1))).ev (FX.v2 (uY y) (vY y))
theorem uQ(y:FX)(ρ:FV):(kZ y).ev ρ=uY (y.ev ρ):=by
 show y.ev ρ*y.ev ρ-Lh 1=_;rw[Rb];rfl
theorem vE(y:FX)(ρ:FV):(kP y).ev ρ=vY (y.ev ρ):=by
 show y.ev ρ*y.ev ρ*Lh (NG dL)+Lh 1=_;rw[Rb,APN];rfl
theorem sw(y:FX)(ρ:FV):(AFB y).ev ρ=xY (y.ev ρ):=by
 unfold AFB xY;rw[AEy,uQ,vE]
theorem AFx(y:FX)(ρ:FV):(Zj (kZ y) (kP y)).bv ρ=(Zj (.v 0) (.v 1)).bv (FX.v2 (uY (y.ev ρ)) (vY (y.ev ρ))):=by
 rw[AHO,uQ,vE]
theorem OX{x y:Fp}:vY y*(x*x)=uY y↔LB dE x y:=by
 unfold vY uY LB;constructor<;>intro h<;>grind
theorem Q7{y:Fp}(h:∃x,LB dE x y):LB dE (xY y) y:=by
 obtain⟨h1,h2,_⟩:=VL (uY y) (vY y);obtain⟨x,hx⟩:=h;exact OX.1 (h2 (h1.2 ⟨x,OX.2 hx⟩))
theorem xk{y:Fp}(h:∃x,LB dE x y):(Zj (.v 0) (.v 1)).bv (FX.v2 (uY y) (vY y))=true:=by
 obtain⟨x,hx⟩:=h;exact(VL (uY y) (vY y)).1.2 ⟨x,OX.2 hx⟩
theorem ADA{x y z t:Fp}(h:LB dE x y)(hz:z=1)(ht:t=x*y){l:List Int}(hl:Kl [x,y,z,t] l):R3 ⟨x,y,h⟩ l:=by
 subst hz;subst ht;exact⟨x,y,1,x*y,hl,⟨by decide +kernel,by grind,by grind,by grind⟩⟩
theorem fs4{a b c d:Fp}{l u1 w1 u2 w2 u3 w3 u4 w4:List Int}(k1:l=u1++w1)(q1:Ho a u1)(k3:w1=u2++w2)(q2:Ho b u2)(k5:w2=u3++w3)(q3:Ho c u3)(k7:w3=u4++w4)(q4:Ho d u4)(k9:w4= []):Kl [a,b,c,d] l:=⟨u1,w1,k1,q1,u2,w2,k3,q2,u3,w3,k5,q3,u4,w4,k7,q4,k9⟩
theorem ABR{i:Ad}{C:Cx}{bs:List Int}{c:Int}(hM:MF C.T (Z6 bs c))(ht:ADy (.k c) (Nu (nP (Z6 bs c)) (ABh [.not (Zj (kZ (.k c)) (kP (.k c)))]) i C [])=true)(hx:∃x,LB dE x (Lh c))(ins:List (List Int)):
  EY C.T (i.tree C) (Ce ins)/\R3 ⟨xY (Lh c),Lh c,Q7 hx⟩ (i.raw C 0 ins):=by
 let ρ:FV:=⟨λ_=>0,λ_=>false⟩
 have hy:(FX.k c).ev ρ=Lh c:=rfl;have hH:∀x ∈ [FX.not (Zj (kZ (.k c)) (kP (.k c)))],x.bv ρ=false:=λx eV=>by
  rw[NB] at eV;subst eV;show(!(Zj (kZ (.k c)) (kP (.k c))).bv ρ)=false;rw[AFx,hy,xk hx];rfl
 unfold ADy at ht;split at ht
 ·rename_i a b e d hr;obtain⟨h1,ρe,h2,h3⟩:=Rm (ins:=ins) (γF ρ) (YJ hM ρ) (λds=>AGl hH ds) hr (λj b hj=>by simp at hj);refine⟨h1,?_⟩;have h4:=h3 0 _ rfl;split at ht
  ·rename_i z a' w d' f;simp only[Bl] at ht;obtain⟨⟨⟨⟨t1,t2⟩,t3⟩,t4⟩,t5⟩:=ht;have e1:a'.ev ρ=xY (Lh c):=by
    have:=EH Prod.fst (FX.ej ρ t1);exact this.trans (sw (.k c) ρ)
   have e2:b.ev ρ=Lh c:=EH Prod.fst (FX.ej ρ t2);have e3:e.ev ρ=1:=(EH Prod.fst (FX.ej ρ t3)).trans Rb;have e4:d'.ev ρ=xY (Lh c):=by
    have:=EH Prod.fst (FX.ej ρ t4);exact this.trans (sw (.k c) ρ)
   have e5:f.ev ρ=Lh c:=EH Prod.fst (FX.ej ρ t5);obtain⟨u1,w1,k1,k2,u2,w2,k3,k4,u3,w3,k5,k6,u4,w4,k7,k8,k9⟩:=h4;have hb:b.wc=false/\e.wc=false:=by
    constructor
    ·cases b<;>first|rfl|cases t2
    ·cases e<;>first|rfl|cases t3
   have q1:Ho (a'.ev ρ) u1:=γF_fe (e:=.ite (.t false) z a') k2.2 rfl;have q2:Ho (b.ev ρ) u2:=γF_fe k4.2 hb.1;have q3:Ho (e.ev ρ) u3:=γF_fe k6.2 hb.2;have q4:Ho (d'.ev ρ*f.ev ρ) u4:=γF_fe (e:=.mul (.ite (.t false) w d') f) k8.2 rfl;rw[e1] at q1;rw[e2] at q2;rw[e3] at q3;rw[e4,e5] at q4;exact ADA (Q7 hx) rfl rfl (fs4 k1 q1 k3 q2 k5 q3 k7 q4 k9)
  ·cases ht
 ·cases ht
def yG:Fp:=Lh (NG SR)
theorem iO:∃x,LB dE x yG:=⟨15112221349535400772501151409588531511454012693041857206046113283949847762202,by unfold LB;decide +kernel⟩
theorem AH4:∃x,LB dE x (Lh (NG zT)):=⟨0,by unfold LB;decide +kernel⟩
def JS:Pt:=⟨xY yG,yG,Q7 iO⟩
theorem AI0:Cv.pr 0= .l λa=>BK 20 (Cy.raw CU 0 a):=rfl
theorem AAv{T:Tb}{d:Nat->Int}{s:List Int}(h:lk 176 T=some (.one Cv)):KP.Ok T 176 ⟨JS,JS,d,s⟩ (.J0 .p3 1):=λargs=>by
 have hM:MF CU.T (Z6 byG (NG SR)):=.cons (AM2 rfl) (.cons (XC rfl) (.cons (Yq rfl) (.cons (Qh rfl) (.cons (AI8 rfl) (.cons (KO rfl) (.cons (Qb rfl) (.cons (nO rfl) (.cons (WR rfl) (.cons (UD rfl) (.cons (Ym rfl) (.cons (Yw rfl) (.cons (AIU rfl) .nil))))))))))));have h2:=ABR hM AOi iO args;refine⟨Cf h h2.1,?_⟩;rw[BQ h,AI0,Pt.ie];show R3 JS (BK 20 (Cy.raw CU 0 args));rw[Bn (show _=20 from RR.len (r:=.p3) h2.2)];exact h2.2
theorem ALK:EQ.pr 0= .l λa=>BK 20 (ER.raw Dk 0 a):=rfl
theorem AH7{P:Pt}(h:P.y=1):P=Pt.zero:=by
 have hc:=P.h;unfold LB at hc;rw[h] at hc;have hx:P.x*P.x*(1+dE)=0:=by grind
 have hd:(1+dE:Fp)≠0:=by decide +kernel
 have h0:P.x=0:=by
  rcases QJ hx with h1|h1
  ·rcases QJ h1 with h2|h2<;>exact h2
  ·exact absurd h1 hd
 exact Pt.ext' h0 h
theorem ACZ{T:Tb}{ρ:GV}(h:lk 149 T=some (.one EQ)):KP.Ok T 149 ρ (.J0 .p3 0):=λargs=>by
 have hM:MF Dk.T (Z6 S6 (NG zT)):=.cons (AKa rfl) (.cons (XC rfl) (.cons (Yq rfl) (.cons (Qh rfl) (.cons (AI8 rfl) (.cons (KO rfl) (.cons (Qb rfl) (.cons (nO rfl) (.cons (WR rfl) (.cons (UD rfl) (.cons (Ym rfl) (.cons (Yw rfl) (.cons (AIU rfl) .nil))))))))))));have h2:=ABR hM AOe AH4 args;refine⟨Cf h h2.1,?_⟩;rw[BQ h,ALK,Pt.de];show R3 Pt.zero (BK 20 (ER.raw Dk 0 args));rw[Bn (show _=20 from RR.len (r:=.p3) h2.2)];have e:(⟨xY (Lh (NG zT)),Lh (NG zT),Q7 AH4⟩:Pt)=Pt.zero:=AH7 (by show Lh (NG zT)=1;decide +kernel);rw[<- e];exact h2.2
end Go.Proofs.YtloibefkijfdlaaGreatDoor
