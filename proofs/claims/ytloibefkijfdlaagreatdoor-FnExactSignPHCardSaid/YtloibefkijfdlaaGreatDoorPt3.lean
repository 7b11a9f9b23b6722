/- The base point and the identity, as the code makes them. -/
import Derived.Test.YtloibefkijfdlaaGreatDoorDw
import Derived.Test.YtloibefkijfdlaaGreatDoorFc
import Derived.Test.YtloibefkijfdlaaGreatDoorPa
namespace Go.Proofs.YtloibefkijfdlaaGreatDoor
open Go Ma
theorem APv(v:List Int)(a0 a1 a2 a3 a4 b0 b1 b2 b3 b4 c0 c1 c2 c3 c4 d0 d1 d2 d3 d4:Int):Cj.raw CK 0 [v,[a0,a1,a2,a3,a4,b0,b1,b2,b3,b4,c0,c1,c2,c3,c4,d0,d1,d2,d3,d4]]= [a0,a1,a2,a3,a4,b0,b1,b2,b3,b4,c0,c1,c2,c3,c4,d0,d1,d2,d3,d4]:=by kernel_rfl
theorem AMU{α:Type}{l:List α}(h:l.length=20):∃ a0 a1 a2 a3 a4 b0 b1 b2 b3 b4 c0 c1 c2 c3 c4 d0 d1 d2 d3 d4,l= [a0,a1,a2,a3,a4,b0,b1,b2,b3,b4,c0,c1,c2,c3,c4,d0,d1,d2,d3,d4]:=by
 match l,h with
 | [a0,a1,a2,a3,a4,b0,b1,b2,b3,b4,c0,c1,c2,c3,c4,d0,d1,d2,d3,d4],_=>exact⟨a0,a1,a2,a3,a4,b0,b1,b2,b3,b4,c0,c1,c2,c3,c4,d0,d1,d2,d3,d4,rfl⟩
theorem ARy:((gQ (Cj.tree CK)).map fun p=>p.2.1.length)=some 0:=by kernel_rfl
theorem ASN:Lp 2 (Cj.tree CK)=true:=by kernel_rfl
theorem ARC:Dh.pr 0= .l fun a=>Aw 20 (Cj.raw CK 0 a):=rfl
theorem ALl{T:Tb}(h:lk 148 T=some (.one Dh)):KF.Ok T 148 (.cpy 4):=fun v l hl=>by
 obtain⟨a0,a1,a2,a3,a4,b0,b1,b2,b3,b4,c0,c1,c2,c3,c4,d0,d1,d2,d3,d4,rfl⟩:=AMU hl;refine⟨Cw h ?_,?_⟩
 ·have ho:=ARy
  match hl2:gQ (Cj.tree CK),ho with
  |some (ds,ob,e,st),ho=>
   simp only[Xa,Am,List.length_eq_zero_iff] at ho;subst ho;obtain⟨k1,k2,k3,k4,k5⟩:=Pp (T:=CK.T) (ρ:=A8 [v,[a0,a1,a2,a3,a4,b0,b1,b2,b3,b4,c0,c1,c2,c3,c4,d0,d1,d2,d3,d4]]) ASN hl2;exact k5 fun q hq=>by cases hq
 ·rw[Bg h,ARC];show Aw 20 (Cj.raw CK 0 _)=_;rw[APv];rfl
def byG:List Int:=[88,102,102,102,102,102,102,102,102,102,102,102,102,102,102,102,102,102,102,102,102,102,102,102,102,102,102,102,102,102,102,102]
def by1:List Int:=[1,0,0,0,0,0,0,0,0,0,0,0,0,0,0,0,0,0,0,0,0,0,0,0,0,0,0,0,0,0,0,0]
def yGL:List Int:=[1801439850948184,1351079888211148,450359962737049,900719925474099,1801439850948198]
def y1L:List Int:=[1,0,0,0,0]
theorem AHB(v:List Int):EO.raw EI 0 [v,byG]=yGL:=by kernel_rfl
theorem AJC(v:List Int):EO.raw EI 0 [v,by1]=y1L:=by kernel_rfl
theorem AK2:Df.pr 0= .l fun a=>Aw 5 (EO.raw EI 0 a):=rfl
theorem ANF{T:Tb}(h:lk 111 T=some (.one Df)):KF.Ok T 111 (.at byG (Nk yGL)):=fun v=>by
 refine⟨Cw h trivial,?_⟩;rw[Bg h,AK2];show Js _ (Aw 5 (EO.raw EI 0 [v,byG]));rw[AHB];exact⟨P8 rfl,rfl⟩
theorem AMv{T:Tb}(h:lk 111 T=some (.one Df)):KF.Ok T 111 (.at by1 (Nk y1L)):=fun v=>by
 refine⟨Cw h trivial,?_⟩;rw[Bg h,AK2];show Js _ (Aw 5 (EO.raw EI 0 [v,by1]));rw[AJC];exact⟨P8 rfl,rfl⟩
def qw(y:FX):FX:=.sub (.mul y y) (.k 1)
def pG(y:FX):FX:=.add (.mul (.mul y y) (.k (Nk dL))) (.k 1)
def AJJ(y:FX):FX:=VO (sqX (qw y) (pG y))
def iH(bs:List Int)(c:Int):List (Nat×KF):=[(111,.at bs c),(112,.sq),(114,.k 1),(113,.sub),(116,.k (Nk dL)),(115,.mul),(117,.add),(118,.sqr),(119,.neg),(120,.sel),(121,.set),(122,.k 1),(148,.cpy 4)]
def AH0(y:FX)(r:Option (List (List (Bk FX)))):Bool:=match r with
 |some [[.a 5 a,.a 5 b,.a 5 c,.a 5 d]]=>(match a,d with
  | .ite (.t false) _ a',.mul (.ite (.t false) _ d') e=>a'.beq (AJJ y)&&b.beq y&&c.beq (.k 1)&&d'.beq (AJJ y)&&e.beq y
  |_,_=>false)
 |_=>false
theorem AR1:AH0 (.k (Nk yGL)) (Ow (vG (iH byG (Nk yGL))) (AED [.not (nJ (qw (.k (Nk yGL))) (pG (.k (Nk yGL))))]) EP DW [])=true:=by kernel_rfl
theorem ATm:AH0 (.k (Nk y1L)) (Ow (vG (iH by1 (Nk y1L))) (AED [.not (nJ (qw (.k (Nk y1L))) (pG (.k (Nk y1L))))]) EX Dj [])=true:=by kernel_rfl
theorem AID(a b:FX)(ρ:FV):(nJ a b).bv ρ=(nJ (.v 0) (.v 1)).bv (FX.v2 (a.ev ρ) (b.ev ρ)):=by
 simp only[FX.bv,FX.ev,nJ,og,qM,uJ,FX.eb,FX.v2,Qu,Ze]
theorem AJE(a b:FX)(ρ:FV):(VO (sqX a b)).ev ρ=(VO (sqX (.v 0) (.v 1))).ev (FX.v2 (a.ev ρ) (b.ev ρ)):=by
 simp only[FX.ev,VO,sqX,og,qM,uJ,FX.eb,FX.v2,Qu,Ze]
def uY(y:Fp):Fp:=y*y-1
def vY(y:Fp):Fp:=y*y*dE+1
def xY(y:Fp):Fp:=(VO (sqX (.v 0) (.v 1))).ev (FX.v2 (uY y) (vY y))
theorem xg(y:FX)(ρ:FV):(qw y).ev ρ=uY (y.ev ρ):=by
 show y.ev ρ*y.ev ρ-Ki 1=_;rw[Uk];rfl
theorem yw(y:FX)(ρ:FV):(pG y).ev ρ=vY (y.ev ρ):=by
 show y.ev ρ*y.ev ρ*Ki (Nk dL)+Ki 1=_;rw[Uk,AUv];rfl
theorem yR(y:FX)(ρ:FV):(AJJ y).ev ρ=xY (y.ev ρ):=by
 unfold AJJ xY;rw[AJE,xg,yw]
theorem AHr(y:FX)(ρ:FV):(nJ (qw y) (pG y)).bv ρ=(nJ (.v 0) (.v 1)).bv (FX.v2 (uY (y.ev ρ)) (vY (y.ev ρ))):=by
 rw[AID,xg,yw]
theorem Rp{x y:Fp}:vY y*(x*x)=uY y↔Ph dE x y:=by
 unfold vY uY Ph
 constructor<;>intro h<;>grind
theorem VY{y:Fp}(h:∃ x,Ph dE x y):Ph dE (xY y) y:=by
 obtain⟨h1,h2,_⟩:=Zw (uY y) (vY y);obtain⟨x,hx⟩:=h;exact Rp.1 (h2 (h1.2 ⟨x,Rp.2 hx⟩))
theorem ABt{y:Fp}(h:∃ x,Ph dE x y):(nJ (.v 0) (.v 1)).bv (FX.v2 (uY y) (vY y))=true:=by
 obtain⟨x,hx⟩:=h;exact (Zw (uY y) (vY y)).1.2 ⟨x,Rp.2 hx⟩
theorem ARH{x y z t:Fp}(h:Ph dE x y)(hz:z=1)(ht:t=x*y){l:List Int}(hl:OQ [x,y,z,t] l):R3 ⟨x,y,h⟩ l:=by
 subst hz;subst ht;exact⟨x,y,1,x*y,hl,⟨by decide +kernel,by grind,by grind,by grind⟩⟩
theorem fs4{a b c d:Fp}{l u1 w1 u2 w2 u3 w3 u4 w4:List Int}(k1:l=u1++w1)(q1:Js a u1)(k3:w1=u2++w2)(q2:Js b u2)(k5:w2=u3++w3)(q3:Js c u3)(k7:w3=u4++w4)(q4:Js d u4)(k9:w4= []):OQ [a,b,c,d] l:=⟨u1,w1,k1,q1,u2,w2,k3,q2,u3,w3,k5,q3,u4,w4,k7,q4,k9⟩
theorem AEp{i:AQ}{C:Cx}{bs:List Int}{c:Int}(hM:MF C.T (iH bs c))(ht:AH0 (.k c) (Ow (vG (iH bs c)) (AED [.not (nJ (qw (.k c)) (pG (.k c)))]) i C [])=true)(hx:∃ x,Ph dE x (Ki c))(ins:List (List Int)):
  Cn C.T (i.tree C) (A8 ins)∧R3 ⟨xY (Ki c),Ki c,VY hx⟩ (i.raw C 0 ins):=by
 let ρ:FV:=⟨fun _=>0,fun _=>false⟩
 have hy:(FX.k c).ev ρ=Ki c:=rfl;have hH:∀ x ∈ [FX.not (nJ (qw (.k c)) (pG (.k c)))],x.bv ρ=false:=fun x hx'=>by
  rw[Nc] at hx';subst hx';show (!(nJ (qw (.k c)) (pG (.k c))).bv ρ)=false;rw[AHr,hy,ABt hx];rfl
 unfold AH0 at ht
 split at ht
 ·rename_i a b e d hr
  obtain⟨h1,ρe,h2,h3⟩:=TE (ins:=ins) (γF ρ) (aB hM ρ) (fun ds=>AJ8 hH ds) hr (fun j b hj=>by simp at hj);refine⟨h1,?_⟩;have h4:=h3 0 _ rfl
  split at ht
  ·rename_i z a' w d' f
   simp only[Bd] at ht;obtain⟨⟨⟨⟨t1,t2⟩,t3⟩,t4⟩,t5⟩:=ht;have e1:a'.ev ρ=xY (Ki c):=by
    have:=QL Prod.fst (FX.beq_ok ρ t1);exact this.trans (yR (.k c) ρ)
   have e2:b.ev ρ=Ki c:=QL Prod.fst (FX.beq_ok ρ t2);have e3:e.ev ρ=1:=(QL Prod.fst (FX.beq_ok ρ t3)).trans Uk;have e4:d'.ev ρ=xY (Ki c):=by
    have:=QL Prod.fst (FX.beq_ok ρ t4);exact this.trans (yR (.k c) ρ)
   have e5:f.ev ρ=Ki c:=QL Prod.fst (FX.beq_ok ρ t5);obtain⟨u1,w1,k1,k2,u2,w2,k3,k4,u3,w3,k5,k6,u4,w4,k7,k8,k9⟩:=h4;have hb:b.isB=false∧e.isB=false:=by
    constructor
    ·cases b<;>first|rfl|cases t2
    ·cases e<;>first|rfl|cases t3
   have q1:Js (a'.ev ρ) u1:=γF_fe (e:=.ite (.t false) z a') k2.2 rfl;have q2:Js (b.ev ρ) u2:=γF_fe k4.2 hb.1;have q3:Js (e.ev ρ) u3:=γF_fe k6.2 hb.2;have q4:Js (d'.ev ρ*f.ev ρ) u4:=γF_fe (e:=.mul (.ite (.t false) w d') f) k8.2 rfl;rw[e1] at q1;rw[e2] at q2;rw[e3] at q3;rw[e4,e5] at q4;exact ARH (VY hx) rfl rfl (fs4 k1 q1 k3 q2 k5 q3 k7 q4 k9)
  ·cases ht
 ·cases ht
def yG:Fp:=Ki (Nk yGL)
theorem pK:∃ x,Ph dE x yG:=⟨15112221349535400772501151409588531511454012693041857206046113283949847762202,by unfold Ph;decide +kernel⟩
theorem ALa:∃ x,Ph dE x (Ki (Nk y1L)):=⟨0,by unfold Ph;decide +kernel⟩
def Nf:Pt:=⟨xY yG,yG,VY pK⟩
theorem ANI:ES.pr 0= .l fun a=>Aw 20 (EP.raw DW 0 a):=rfl
theorem ANZ{T:Tb}{d:Nat→Int}{s:List Int}(h:lk 176 T=some (.one ES)):KP.Ok T 176 ⟨Nf,Nf,d,s⟩ (.cst .p3 1):=fun args=>by
 have hM:MF DW.T (iH byG (Nk yGL)):=.cons (ANF rfl) (.cons (gX rfl) (.cons (oG rfl) (.cons (WM rfl) (.cons (AR6 rfl) (.cons (OC rfl) (.cons (Vk rfl) (.cons (ADJ rfl) (.cons (au rfl) (.cons (YN rfl) (.cons (jv rfl) (.cons (tO rfl) (.cons (ALl rfl) .nil))))))))))));have h2:=AEp hM AR1 pK args;refine⟨Cw h h2.1,?_⟩;rw[Bg h,ANI,Pt.zm_one];show R3 Nf (Aw 20 (EP.raw DW 0 args));rw[Au (show _=20 from RR.len (r:=.p3) h2.2)];exact h2.2
theorem APn:EY.pr 0= .l fun a=>Aw 20 (EX.raw Dj 0 a):=rfl
theorem AKk{P:Pt}(h:P.y=1):P=Pt.zero:=by
 have hc:=P.h;unfold Ph at hc;rw[h] at hc;have hx:P.x*P.x*(1+dE)=0:=by grind
 have hd:(1+dE:Fp)≠0:=by decide +kernel
 have h0:P.x=0:=by
  rcases Qx hx with h1|h1
  ·rcases Qx h1 with h2|h2<;>exact h2
  ·exact absurd h1 hd
 exact Pt.ext' h0 h
theorem AFG{T:Tb}{ρ:GV}(h:lk 149 T=some (.one EY)):KP.Ok T 149 ρ (.cst .p3 0):=fun args=>by
 have hM:MF Dj.T (iH by1 (Nk y1L)):=.cons (AMv rfl) (.cons (gX rfl) (.cons (oG rfl) (.cons (WM rfl) (.cons (AR6 rfl) (.cons (OC rfl) (.cons (Vk rfl) (.cons (ADJ rfl) (.cons (au rfl) (.cons (YN rfl) (.cons (jv rfl) (.cons (tO rfl) (.cons (ALl rfl) .nil))))))))))));have h2:=AEp hM ATm ALa args;refine⟨Cw h h2.1,?_⟩;rw[Bg h,APn,Pt.zm_zero];show R3 Pt.zero (Aw 20 (EX.raw Dj 0 args));rw[Au (show _=20 from RR.len (r:=.p3) h2.2)];have e:(⟨xY (Ki (Nk y1L)),Ki (Nk y1L),VY ALa⟩:Pt)=Pt.zero:=AKk (by show Ki (Nk y1L)=1;decide +kernel);rw[← e];exact h2.2
end Go.Proofs.YtloibefkijfdlaaGreatDoor
