/- The base point's order; what ScalarBaseMult gives. -/
import Derived.Test.YtloibefkijfdlaaGreatDoorDx
import Derived.Test.YtloibefkijfdlaaGreatDoorPe
namespace Go.Proofs.YtloibefkijfdlaaGreatDoor
open Go Ma
def xP:List Int->List Int->List Int
 | [],y=>y
 |x,[]=>x
 |a::x,b::y=>(a+b)::xP x y
def jI:Nat->List Int
 |0=>[1]
 |n+1=>0::jI n
def Sx:List Int->Bool
 | []=>true
 |a::r=>LC a 0&&Sx r
def ZX.lf:ZX->Option (Int×List Int)
 | .k c=>some (c,[])
 | .d n=>some (0,jI n)
 | .add x y=>match x.lf,y.lf with
  |some (a,u),some (b,v)=>some (a+b,xP u v)
  |_,_=>none
 | .mul x y=>match x.lf,y.lf with
  |some (a,u),some (b,v)=>bif Sx v then some (a*b,u.map (b * ·)) else bif Sx u then some (a*b,v.map (a * ·)) else none
  |_,_=>none
def Qc(f:Nat->Int):Nat->List Int->Int
 |_,[]=>0
 |k,a::r=>a*f k+Qc f (k+1) r
theorem vH(f:Nat->Int):∀(x y:List Int) (k:Nat),Qc f k (xP x y)=Qc f k x+Qc f k y
 | [],y,k=>by simp[xP,Qc]
 |a::x,[],k=>by simp[xP,Qc]
 |a::x,b::y,k=>by
  simp only[xP,Qc,vH f x y (k+1),HW];omega
theorem jV(f:Nat->Int):∀(n k:Nat),Qc f k (jI n)=f (k+n)
 |0,k=>by simp[jI,Qc]
 |n+1,k=>by
  simp only[jI,Qc,jV f n (k+1),zcv,zcz]
  congr 1;omega
theorem tQ(f:Nat->Int):∀(x:List Int) (k:Nat),Sx x=true->Qc f k x=0
 | [],_,_=>rfl
 |a::r,k,h=>by
  simp only[Sx,Bl] at h;simp only[Qc,tQ f r (k+1) h.2,Jr h.1,zcv,HQ]
theorem cB(f:Nat->Int)(b:Int):∀(x:List Int) (k:Nat),Qc f k (x.map (b * ·))=b*Qc f k x
 | [],k=>by simp[Qc]
 |a::x,k=>by simp only[NE,Qc,cB f b x (k+1),qR,Xt]
theorem ZX.tD(ρ:GV):∀ {x:ZX} {a:Int} {u:List Int},x.lf=some (a,u)->x.ev ρ=a+Qc ρ.d 0 u
 | .k c,a,u,h=>by
  simp only[ZX.lf,Ai,Prod.mk.injEq] at h;obtain⟨rfl,rfl⟩:=h;simp[ZX.ev,Qc]
 | .d n,a,u,h=>by
  simp only[ZX.lf,Ai,Prod.mk.injEq] at h;obtain⟨rfl,rfl⟩:=h;rw[jV,Km,zcz];rfl
 | .add x y,a,u,h=>by
  unfold ZX.lf at h;split at h
  ·rename_i a1 u1 a2 u2 h1 h2;simp only[Ai,Prod.mk.injEq] at h;obtain⟨rfl,rfl⟩:=h;show x.ev ρ+y.ev ρ=_;rw[ZX.tD ρ h1,ZX.tD ρ h2,vH];omega
  ·cases h
 | .mul x y,a,u,h=>by
  unfold ZX.lf at h;split at h
  ·rename_i a1 u1 a2 u2 h1 h2;have e1:=ZX.tD ρ h1;have e2:=ZX.tD ρ h2;show x.ev ρ*y.ev ρ=_;cases hv:Sx u2 with
   |true=>
    rw[hv,cond_true,Ai,Prod.mk.injEq] at h;obtain⟨rfl,rfl⟩:=h;rw[tQ _ _ _ hv,HQ] at e2;rw[e1,e2,cB,HW,Xg a2]
   | false=>
    rw[hv,cond_false] at h;cases hu:Sx u1 with
    |true=>
     rw[hu,cond_true,Ai,Prod.mk.injEq] at h;obtain⟨rfl,rfl⟩:=h;rw[tQ _ _ _ hu,HQ] at e1;rw[e1,e2,cB,qR]
    |false=>rw[hu] at h;cases h
  ·cases h
def ABC:Nat->Int->List Int
 |0,_=>[]
 |n+1,c=>c::ABC n (16*c)
theorem AAz(f:Nat->Int):∀(n k:Nat) (c:Int),Qc f k (ABC n c)=c*Kd ((List.range n).map λj=>f (k+j))
 |0,k,c=>by simp[ABC,Qc,Kd]
 | n+1,k,c=>by
  have e:((λj=>f (k+j)) ∘ Nat.succ)=λj=>f (k+1+j):=by
   funext j
   simp only[Function.comp]
   congr 1;omega
  rw[ABC,Qc,AAz f n (k+1),List.range_succ_eq_map,NE,List.map_map,e,Kd,qR,Xg 16 c,Xt];rfl
def ALm(z:Option Z2):Bool:=match z with
 |some z=>(match z.z.lf,z.w.lf with
  |some (a,u),some (b,v)=>LC a 0&&qf u (ABC 64 1)&&(LC b 0&&Sx v)
  |_,_=>false)
 |none=>false
theorem AJE:ALm (AGx (Pi (tY bO) yT (Ae.tree Af) Af Ae.s0 Ae.cF [none,none] [none,some [(4,.sc)]] []))=true:=by kernel_rfl
theorem AIs{P:Pt}{d:Nat->Int}{s:List Int}{z:Z2}{m:Int}(ht:ALm (some z)=true)(hd:Kd ((List.range 64).map λj=>d (0+j))=m):z.ev ⟨P,P,d,s⟩=P.zm m:=by
 unfold ALm at ht;simp only at ht;split at ht
 ·rename_i a u b w k1 k2;simp only[Bl] at ht;obtain⟨⟨q1,q2⟩,q3,q4⟩:=ht;have e1:=ZX.tD ⟨P,P,d,s⟩ k1;have e2:=ZX.tD ⟨P,P,d,s⟩ k2;rw[Jr q1,Xm q2,AAz,zda,zcz] at e1;rw[Jr q3,tQ _ _ _ q4,HQ] at e2;have e3:=e1.trans hd;show(P.zm (z.z.ev _)).add (P.zm (z.w.ev _))=_;rw[e3,e2,Pt.de,Pt.add_zero]
 ·cases ht
theorem AJD{x:List Int}{m:Int}(g3:(Ab.raw AR 0 [x]).length=64)(g5:Kd (Ab.raw AR 0 [x])=m):Kd ((List.range 64).map λj=>Zi x (0+j))=m:=by
 have e3:((List.range 64).map λj=>Zi x (0+j))=Ab.raw AR 0 [x]:=by
  have:=TG g3;rw[<- this];refine Zx λj _=>?_
  rw[Km];rfl
 rw[e3,g5]
theorem AQO{P Q:Pt}{l:List Int}(h:RR .p3 P l)(e:P=Q):R3 Q l:=by
 subst e;exact h
theorem AFP{T:Tb}(h:lk 105 T=some (.one Aa)){v x:List Int}(hx:u4 x):∃m,ScV x m/\R3 (JS.zm m) (gv T 105 0 [v,x]):=by
 have ht:=AJE;unfold AGx at ht;split at ht
 ·rename_i z hz;have hM:MG Af.T ⟨JS,JS,Zi x,x⟩ bO:=.cons (ACu rfl) (.cons (AAd hx rfl) (.cons (ACZ rfl) (.cons (tu rfl) (.cons (aK rfl) (.cons (VE rfl) (.cons (Po rfl) (.cons (wJ rfl) (.cons (qX rfl) (.cons (ZW rfl) .nil)))))))));have hI:Zb (γG ⟨JS,JS,Zi x,x⟩) [none,some [(4,.sc)]] [v,x]:=.no (.yes ⟨x,[],by simp,hx.1,rfl,rfl⟩ .nil);obtain⟨h1,ρe,h2⟩:=yH (i:=Ae) (C:=Af) (ρ:=⟨JS,JS,Zi x,x⟩) (n:=20) (M:=bO) (b:=[.a 20 (.pt .p3 z)]) h rfl hM hz (ins:=[v,x]) (.no (.no .nil)) hI (λp hp=>by cases hp) (fun ρe l h=>RR.len (r:=.p3) (gp1 h));obtain⟨m,g1,-,g3,g4,g5⟩:=sV hx;exact⟨m,g1,AQO (gp1 h2) (AIs ht (AJD g3 g5))⟩
 ·cases ht
theorem ARL{y:Fp}{h:∃x,LB dE x y}{P:Pt}(e:(⟨xY y,y,Q7 h⟩:Pt)=P):P.x=xY y:=by
 subst e;simp only
theorem AOs:JS.x=xY yG:=ARL (h:=iO) (AOZ iO rfl)
theorem AQa:LB dE 15112221349535400772501151409588531511454012693041857206046113283949847762202 yG:=by unfold LB;decide +kernel
theorem oh{y x:Fp}(h:LB dE x y)(he:x.val%2=0):xY y=x:=by
 have h1:=OX.2 (Q7 ⟨x,h⟩);have h2:=OX.2 h;refine Z9 ?_ (VL (uY y) (vY y)).2.2 he;refine Pq (qo y) ?_;rw[Fin.mul_comm _ (vY y),Fin.mul_comm _ (vY y),h1,h2]
theorem AN8:JS.x=15112221349535400772501151409588531511454012693041857206046113283949847762202:=AOs.trans (oh AQa (by decide +kernel))
structure Q4 where
 x:Nat
 y:Nat
 z:Nat
 t:Nat
def PQ(a b:Nat):Nat:=a*b%PP
def Tm(a b:Nat):Nat:=(a+b)%PP
def UM(a b:Nat):Nat:=(a+(PP-b))%PP
def AD3(x y z t:Nat):Q4:=⟨PQ x t,PQ y z,PQ z t,PQ x y⟩
def AFp(q:Q4):Q4:=
 AD3 (UM (PQ (Tm q.x q.y) (Tm q.x q.y)) (Tm (PQ q.y q.y) (PQ q.x q.x))) (Tm (PQ q.y q.y) (PQ q.x q.x)) (UM (PQ q.y q.y) (PQ q.x q.x)) (UM (Tm (PQ q.z q.z) (PQ q.z q.z)) (UM (PQ q.y q.y) (PQ q.x q.x)))
def AMi(a b e:Nat)(q:Q4):Q4:=
 AD3 (UM (PQ (Tm q.y q.x) a) (PQ (UM q.y q.x) b)) (Tm (PQ (Tm q.y q.x) a) (PQ (UM q.y q.x) b)) (Tm (Tm q.z q.z) (PQ q.t e)) (UM (Tm q.z q.z) (PQ q.t e))
def xM(a b e:Nat):Nat->Nat->Q4
 |0,_=>⟨0,1,1,0⟩
 |f+1,n=>bif Nat.beq n 0 then⟨0,1,1,0⟩ else bif Nat.beq (n%2) 1 then AMi a b e (AFp (xM a b e f (n/2))) else AFp (xM a b e f (n/2))
def fN(n:Nat):Fp:=⟨n%PP,ym _ PP0⟩
structure QP (q:Q4) (P:Pt):Prop where
 p:P3 (fN q.x) (fN q.y) (fN q.z) (fN q.t) P
theorem AC5(a b:Nat):fN (PQ a b)=fN a*fN b:=Fin.ext (by
 rw[pQ];show a*b%PP%PP=(a%PP)*(b%PP)%PP;rw[Nat.mod_mod, <- Nat.mul_mod])
theorem mV(a b:Nat):fN (Tm a b)=fN a+fN b:=Fin.ext (by
 rw[Fin.val_add];show(a+b)%PP%PP=(a%PP+b%PP)%PP;rw[Nat.mod_mod, <- Nat.add_mod])
theorem YV{a b:Nat}(h:b<PP):fN (UM a b)=fN a-fN b:=by
 have e:Tm (UM a b) b=a%PP:=by
  unfold Tm UM;rw[Nat.mod_add_mod,show a+(PP-b)+b=a+PP by omega,Nat.add_mod_right]
 have h2:=mV (UM a b) b;have h3:fN (Tm (UM a b) b)=fN a:=by
  rw[e];exact Fin.ext (Nat.mod_mod _ _)
 rw[h3] at h2;rw[h2];generalize fN (UM a b)=u;generalize fN b=v;grind
theorem jD(a b:Nat):PQ a b<PP:=ym _ PP0
theorem AN7(a b:Nat):Tm a b<PP:=ym _ PP0
theorem AQo(a b:Nat):UM a b<PP:=ym _ PP0
theorem AEw{q:Q4}{P:Pt}(h:QP q P):QP (AFp q) (P.add P):=by
 have h1:=d9 (AHz (ACG h.p));refine⟨?_⟩;simp only[AFp,AD3,AC5,mV,YV (AN7 _ _),YV (jD _ _),YV (AQo _ _)];exact h1
theorem AFI{q:Q4}{P Q:Pt}{a b e:Nat}(h:QP q P)(hx:q.x<PP)(g:AC (fN a) (fN b) (fN e) Q):QP (AMi a b e q) (P.add Q):=by
 have h1:=d9 (oC h.p g);refine⟨?_⟩;simp only[AMi,AD3,AC5,mV,YV hx,YV (jD _ _)];exact h1
theorem uE{a b e:Nat}{Q:Pt}(g:AC (fN a) (fN b) (fN e) Q):∀(f n:Nat),n<2^f->QP (xM a b e f n) (Q.nm n)/\(xM a b e f n).x<PP
 |0,n,h=>by
  have:n=0:=by simpa using h
  subst this;exact⟨⟨rz⟩,PP0⟩
 | f + 1,n,h=>by
  unfold xM;cases h0:Nat.beq n 0 with
  |true=>
   have:=CR h0;subst this;exact⟨⟨rz⟩,PP0⟩
  | false=>
   obtain⟨i1,i2⟩:=uE g f (n/2) (by rw[ql] at h;omega);have hd:=AEw i1;have e2:(Q.nm (n/2)).add (Q.nm (n/2))=Q.nm (2*(n/2)):=by rw[Nat.two_mul,Pt.HP]
   rw[e2] at hd;cases h1:Nat.beq (n%2) 1 with
   | true=>
    have hb:=CR h1;have hq:=AFI hd (jD _ _) g;have e3:(Q.nm (2*(n/2))).add Q=Q.nm n:=by
     show Q.nm (2*(n/2)+1)=_
     congr 1;omega
    rw[e3] at hq;exact⟨hq,jD _ _⟩
   |false=>
    have hb:¬n%2=1:=λh=>by rw[h] at h1;cases h1
    have e3:2*(n/2)=n:=by omega
    rw[e3] at hd;exact⟨hd,jD _ _⟩
def LN:Nat:=7237005577332262213973186563042994240857116359379907606001950938285454250989
def bA:Nat:=3533012425803781230144052908719740726127014226477800802100354883158534798213
def bBn:Nat:=31204614345391077396927242593886631629853981173214368409736920319215404093758
def bE:Nat:=50237614328228664512531835696112167678046477356841409204013502641986506238568
theorem ASA:AC (fN bA) (fN bBn) (fN bE) JS:=by
 have hy:JS.y=yG:=rfl;refine⟨?_,?_,?_⟩<;>rw[AN8,hy]<;>decide +kernel
def qz(q:Q4):Bool:=Nat.beq q.x 0&&Nat.beq q.y q.z
theorem AP9{q:Q4}{P:Pt}(h:QP q P)(hz:qz q=true):P=Pt.zero:=by
 simp only[qz,Bl] at hz;have e1:=CR hz.1;have e2:=CR hz.2;obtain⟨⟨z,x,y,t⟩⟩:=h;rw[e1] at x;rw[e2] at y;have hy:P.y=1:=by
  refine Pq z ?_;rw[<- y];generalize fN q.z=u;grind
 exact AH7 hy
theorem APg:qz (xM bA bBn bE 256 LN)=true:=by decide +kernel
theorem AO6:JS.nm LN=Pt.zero:=AP9 (uE ASA 256 LN (by decide +kernel)).1 APg
theorem AMI:Mo=((LN:Nat):Int):=rfl
theorem AAm(P:Pt)(n:Nat):P.zm (n:Int)=P.nm n:=rfl
theorem ACl(k:Int):JS.zm (Mo*k)=Pt.zero:=by
 rw[Pt.ph,AMI,AAm,AO6];have h0:∀n,Pt.zero.nm n=Pt.zero:=λn=>by
  induction n with
  |zero=>rfl
  |succ n ih=>show(Pt.zero.nm n).add Pt.zero=_;rw[Pt.add_zero,ih]
 cases k with
 |ofNat n=>exact h0 n
 |negSucc n=>show(Pt.zero.nm (n+1)).neg=_;rw[h0,Pt.neg_zero]
theorem ug{m n:Int}(h:Mo ∣ m-n):JS.zm m=JS.zm n:=by
 obtain⟨k,hk⟩:=h;have:m=n+Mo*k:=by omega
 rw[this,Pt.fW,ACl,Pt.add_zero]
theorem zN{T:Tb}(h:lk 105 T=some (.one Aa)){v x:List Int}{n:Int}(hx:MO x n):R3 (JS.zm n) (gv T 105 0 [v,x]):=by
 obtain⟨m,h1,h2⟩:=AFP h (v:=v) hx.u.u;rwa [ug (MO.uniq ⟨hx.u,h1.eq⟩ hx)] at h2
end Go.Proofs.YtloibefkijfdlaaGreatDoor
