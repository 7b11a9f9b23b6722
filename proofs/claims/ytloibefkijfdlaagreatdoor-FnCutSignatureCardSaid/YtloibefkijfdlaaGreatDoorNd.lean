/- The executor over this program: equality of the reference's numbers. -/
import Derived.Test.YtloibefkijfdlaaGreatDoorNc
import Derived.Test.YtloibefkijfdlaaGreatDoorPt3
namespace Go.Proofs.YtloibefkijfdlaaGreatDoor
section
open Go
section
variable{GB:Nat}{GC:Nat->Nat->Option Value}{ad:Nat->Nat×Nat}
end
end
section
open Go
section
variable{GB:Nat}{GC:Nat->Nat->Option Value}{ad:Nat->Nat×Nat}(hG:Gw GB GC ad)
include hG
end
end
section
open Go
def Zc(T:Tb)(C:Cx)(s0:BH)(cF:List ResultVar)(k:Nat):Bz->Br->List Int
 | .leaf _ st,ρ=>ABa C s0 cF k ρ st
 | .fz ds _ t,ρ=>Zc T C s0 cF k t (Dl T ρ ds)
 | .br x t f,ρ=>if x.den ρ=0 then Zc T C s0 cF k f ρ else Zc T C s0 cF k t ρ
 | .j8 f ar t e,ρ=>match lk f T with
  |some fe=>cond (fe.oe (ar.map (·.den ρ))) (Zc T C s0 cF k t ρ) (Zc T C s0 cF k e ρ)
  |none=>[]
 | .dc _ t,ρ=>Zc T C s0 cF k t ρ
 | .bad _,_=>[]
theorem RL{C:Cx}{s0:BH}{cF:List ResultVar}{k:Nat}:∀ {t:Bz} {ρ:Br},Wt C s0 cF k t ρ=Zc C.T C s0 cF k t ρ
 | .leaf _ _,_=>rfl
 | .fz _ _ t,_=>RL (t:=t)
 | .br x t f,ρ=>by
  unfold Wt Zc;by_cases h:x.den ρ=0
  ·rw[if_pos h,if_pos h];exact RL (t:=f)
  ·rw[if_neg h,if_neg h];exact RL (t:=t)
 | .j8 f ar t e,ρ=>by
  unfold Wt Zc;cases lk f C.T with
  |none=>rfl
  |some fe=>
   simp only;cases fe.oe (ar.map (·.den ρ)) with
   |true=>exact RL (t:=t)
   |false=>exact RL (t:=e)
 | .dc _ t,_=>RL (t:=t)
 | .bad _,_=>rfl
def Ad.sd(i:Ad)(T:Tb)(C:Cx)(k:Nat)(ins:List (List Int)):List Int:=Zc T C i.s0 i.cF k (i.tree C) (Ce ins)
theorem Lt{i:Ad}{C:Cx}{k:Nat}{ins:List (List Int)}:i.raw C k ins=i.sd C.T C k ins:=by
 rw[AHK];exact RL
def sb(l:List Int)(o n:Nat):List Int:=(List.range n).map λi=>l.getD (o+i) 0
section
variable(T:Tb)
variable{T}
end
end
section
open Go Ma
theorem Ye{l:List Int}{n:Nat}(h:l.length=n):sb l 0 n=l:=by
 subst h;unfold sb;refine List.ext_getElem (by simp) λi h1 h2=>?_
 simp[List.getD,h2]
theorem fG(l:List Int)(o n:Nat):(sb l o n).length=n:=by simp[sb]
theorem sG{x y z:List Int}{o n:Nat}(h1:x.length=o)(h2:y.length=n):sb (x++(y++z)) o n=y:=by
 subst h1;subst h2;unfold sb;refine List.ext_getElem (by simp) λi h1 h2=>?_
 simp[List.getD,dh,Zm h2,h2]
theorem NF.len{l:List Int}{x:Fp}(h:NF l x):l.length=8:=N8.len h
theorem NF.sb{l:List Int}{x:Fp}(h:NF l x):NF (sb l 0 8) x:=by rw[Ye h.len];exact h
theorem NF.fix{l:List Int}{x:Fp}(h:NF l x):NF (BK 8 l) x:=by rw[Bn h.len];exact h
section
variable{T:Tb}
def eQ:Nat:=7237005577332262213973186563042994240829374041602535252466099000494570602494
def eR:Nat:=14474011154664524427946373126085988481658748083205070504932198000989141204987
def iR:Fp:=ND (Lh 2) eR
theorem AOB:iR*iR= -1:=by
 have h:iR=iE:=by
  apply Fin.ext;unfold iR;rw[AAh _ _ (by decide +kernel)];decide +kernel
 rw[h];exact AKr
def nV(w:Fp):Fp:=if ND w eQ*ND w eQ=w then ND w eQ else ND w eQ*iR
def rtV(w:Fp):Fp:=if(nV w).val%2=1 then -nV w else nV w
end
theorem zX{r:Fp}(h:r.val%2=1):(-r).val%2=0:=by
 have e: -r=0-r:=by grind
 rw[e];exact kC h
theorem ACi(w:Fp):(rtV w).val%2=0:=by
 unfold rtV;split
 ·rename_i h;exact zX h
 ·omega
theorem AMC{w s:Fp}(h:s*s=w):rtV w*rtV w=w:=by
 have h1:nV w*nV w=w:=by
  unfold nV;split
  ·rename_i hq;exact hq
  ·rename_i hq;have e:ND w eQ*ND w eQ=w*ND s eH:=by
    rw[<- h,ADF];have e3:ND s eH*(s*s)=ND s eQ*ND s eQ*(ND s eQ*ND s eQ):=by
     rw[<- NW, <- NW];have:s*s=ND s 2:=by rw[Lr,RS]
     rw[this, <- NW]
     congr 1
    rw[<- e3];grind
   by_cases hs:s=0
   ·exfalso;apply hq;rw[e, <- h,hs];grind
   ·rcases chi hs with hc|hc
    ·exfalso;apply hq;rw[e,hc];grind
    ·have hi:=AOB;rw[hc] at e;generalize ND w eQ=u at *
     generalize iR=i at *
     grind
 unfold rtV;split
 ·generalize nV w=u at *
  grind
 ·exact h1
theorem Z9{a b:Fp}(h:a*a=b*b)(ha:a.val%2=0)(hb:b.val%2=0):a=b:=by
 have h2:(a-b)*(a+b)=0:=by grind
 rcases QJ h2 with e|e
 ·grind
 ·have e2:a= -b:=by grind
  by_cases h0:b=0
  ·rw[e2,h0];grind
  ·exfalso;have e3:a.val+b.val=PP:=by
    have h4:=EH Fin.val e;rw[Fin.val_add] at h4;have h6:(0:Fp).val=0:=rfl;rw[h6] at h4;have hbp:0<b.val:=Nat.pos_of_ne_zero λe=>h0 (Fin.ext e)
    have:=a.isLt;have:=b.isLt;have hd:=Nat.div_add_mod (a.val+b.val) PP;rw[h4,P5] at hd;generalize (a.val+b.val)/PP=q at hd;generalize a.val=x at *
    generalize b.val=y at *
    have h9:PP*q<PP*2:=by omega
    have lE:q<2:=Nat.lt_of_mul_lt_mul_left h9
    match q,lE with
    |0,_=>rw[Nat.mul_zero] at hd;omega
    |1,_=>rw[Nat.mul_one] at hd;omega
   have:PP%2=1:=by decide +kernel
   omega
end
section
open Go Ma
def Pj(l:List Int)(P:Pt):Prop:=∃x y z X Y Z,l=x++(y++z)/\NF x X/\NF y Y/\NF z Z/\P2 X Y Z P
theorem Pj.len{l:List Int}{P:Pt}(h:Pj l P):l.length=24:=by
 obtain⟨x,y,z,X,Y,Z,rfl,hx,hy,hz,_⟩:=h;rw[MN,MN,hx.len,hy.len,hz.len]
def ck:Nat->Nat->List Int
 |0,_=>[]
 |k+1,n=>((n%256:Nat):Int)::ck k (n/256)
theorem Je:∀(k n:Nat),(ck k n).length=k
 |0,_=>rfl
 |k+1,n=>by simp[ck,Je k]
theorem YQ:∀(k n:Nat),cM (ck k n)
 |0,_=>λ_ h=>(nomatch h)
 |k+1,n=>.mk ⟨by omega,by omega⟩ (YQ k _)
theorem Vm:∀ {l:List Int} {n:Nat},cM l->Ct l=(n:Int)->l=ck l.length n
 | [],_,_,_=>rfl
 |x::l,n,h,e=>by
  obtain⟨h1,h2⟩:=h.cons;simp only[Ct] at e;have hb:=KV h2;have:=Vm (l:=l) (n:=n/256) h2 (by omega);rw[Uk,ck, <- this]
  congr 1
  omega
theorem B32.ck{l:List Int}{n:Nat}(h:B32 l (n:Int)):l=ck 32 n:=by
 have:=Vm h.cM h.val;rwa [h.len] at this
def JD(P:Pt):List Int:=if P.x.val%2=1 then sb (ck 32 P.y.val) 0 31 ++ [(ck 32 P.y.val).getD 31 0+128] else ck 32 P.y.val
theorem VM:∀ {k n i:Nat},i<k->(ck k n).getD i 0=((n/256^i%256:Nat):Int)
 |0,_,_,h=>by omega
 |k+1,n,0,_=>by simp[ck]
 |k+1,n,i+1,h=>by
  rw[ck,X7,VM (by omega),Nat.div_div_eq_div_mul,ql,vg]
theorem AHT(y:Fp):(ck 32 y.val).getD 31 0<128/\0<=(ck 32 y.val).getD 31 0:=by
 rw[VM (by omega)];have hy:=y.isLt;have h1:y.val/256^31<128:=by
  rw[Nat.div_lt_iff_lt_mul (RT (by decide))];exact iH hy (by decide +kernel)
 omega
section
variable{T:Tb}
end
def yB(b:List Int):Fp:=Lh (Ct (elB b))
def Tl(y:Fp):Fp:=rtV (uY y*(vY y)⁻¹)
theorem qo(y:Fp):vY y≠0:=λh=>by
 unfold vY at h;have hi:=AKr;by_cases h0:y=0
 ·rw[h0] at h;exact absurd (show(1:Fp)=0 by grind) (by decide +kernel)
 ·refine It.ns (iE*y⁻¹) (pq h0 ?_);generalize iE=i at *
  grind
theorem AMe(y:Fp):Tl y*Tl y=uY y*(vY y)⁻¹ ↔ ∃x,LB dE x y:=by
 have hv:=eZ (qo y);constructor
 ·intro h;refine⟨Tl y,OX.1 ?_⟩;rw[h];generalize (vY y)⁻¹ = u at *
  grind
 ·intro⟨x,hx⟩;refine AMC (s:=x) ?_;have:=OX.2 hx;generalize (vY y)⁻¹ = u at *
  grind
theorem ANs{y:Fp}(h:∃x,LB dE x y):LB dE (Tl y) y:=by
 have hv:=eZ (qo y);have h1:=(AMe y).2 h;refine OX.1 ?_;rw[h1];generalize (vY y)⁻¹ = u at *
 grind
theorem AJQ{y:Fp}(h:∃x,LB dE x y):Tl y=xY y:=by
 have h1:=OX.2 (ANs h);have h2:=OX.2 (Q7 h);refine Z9 ?_ (ACi _) (VL (uY y) (vY y)).2.2;refine Pq (qo y) ?_;generalize Tl y=a at *
 generalize xY y=b at *
 grind
structure AOn (b l:List Int):Prop where
 ex:∃x y z,l=x++(y++z)/\NF x (if 128<=b.getD 31 0 then -Tl (yB b) else Tl (yB b))/\NF y (yB b)/\NF z 1
def lX(b:List Int)(h:∃x,LB dE x (yB b)):Pt:=if 128<=b.getD 31 0 then(⟨xY (yB b),yB b,Q7 h⟩:Pt).neg else⟨xY (yB b),yB b,Q7 h⟩
theorem AIl{x y:Fp}{P:Pt}(hx:x=P.x)(hy:y=P.y):P2 x y 1 P:=⟨by decide +kernel,by rw[hx];grind,by rw[hy];grind⟩
theorem AOn.pr{b l:List Int}(h:AOn b l)(hc:∃x,LB dE x (yB b)):Pj l (lX b hc):=by
 obtain⟨x,y,z,rfl,hx,hy,hz⟩:=h.ex;rw[AJQ hc] at hx;refine⟨x,y,z,_,_,_,rfl,hx,hy,hz,AIl ?_ ?_⟩
 ·unfold lX;split<;>rfl
 ·unfold lX;split<;>rfl
end
end Go.Proofs.YtloibefkijfdlaaGreatDoor
