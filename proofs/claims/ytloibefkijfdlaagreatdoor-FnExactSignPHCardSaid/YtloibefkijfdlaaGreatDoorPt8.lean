/- The base point's order; what ScalarBaseMult gives. -/
import Derived.Test.YtloibefkijfdlaaGreatDoorDe
import Derived.Test.YtloibefkijfdlaaGreatDoorPe
namespace Go.Proofs.YtloibefkijfdlaaGreatDoor
open Go Ma
def ABp:List Int→List Int→List Int
 | [],y=>y
 |x,[]=>x
 |a::x,b::y=>(a+b)::ABp x y
def pJ:Nat→List Int
 |0=>[1]
 |n+1=>0::pJ n
def isC:List Int→Bool
 | []=>true
 |a::r=>Le a 0&&isC r
def ZX.lf:ZX→Option (Int×List Int)
 | .k c=>some (c,[])
 | .d n=>some (0,pJ n)
 | .add x y=>match x.lf,y.lf with
  |some (a,u),some (b,v)=>some (a+b,ABp u v)
  |_,_=>none
 | .mul x y=>match x.lf,y.lf with
  |some (a,u),some (b,v)=>bif isC v then some (a*b,u.map (b * ·)) else bif isC u then some (a*b,v.map (a * ·)) else none
  |_,_=>none
def Rb(f:Nat→Int):Nat→List Int→Int
 |_,[]=>0
 |k,a::r=>a*f k+Rb f (k+1) r
theorem yg(f:Nat→Int):∀ (x y:List Int) (k:Nat),Rb f k (ABp x y)=Rb f k x+Rb f k y
 | [],y,k=>by simp[ABp,Rb]
 |a::x,[],k=>by simp[ABp,Rb]
 |a::x,b::y,k=>by
  simp only[ABp,Rb,yg f x y (k+1),sI];omega
theorem oD(f:Nat→Int):∀ (n k:Nat),Rb f k (pJ n)=f (k+n)
 |0,k=>by simp[pJ,Rb]
 |n+1,k=>by
  simp only[pJ,Rb,oD f n (k+1),zcr,zcx]
  congr 1;omega
theorem yF(f:Nat→Int):∀ (x:List Int) (k:Nat),isC x=true→Rb f k x=0
 | [],_,_=>rfl
 |a::r,k,h=>by
  simp only[isC,Bd] at h;simp only[Rb,yF f r (k+1) h.2,KV h.1,zcr,wP]
theorem l9(f:Nat→Int)(b:Int):∀ (x:List Int) (k:Nat),Rb f k (x.map (b * ·))=b*Rb f k x
 | [],k=>by simp[Rb]
 |a::x,k=>by simp only[NT,Rb,l9 f b x (k+1),qC,Xr]
theorem ZX.lf_ok(ρ:GV):∀ {x:ZX} {a:Int} {u:List Int},x.lf=some (a,u)→x.ev ρ=a+Rb ρ.d 0 u
 | .k c,a,u,h=>by
  simp only[ZX.lf,Am,Prod.mk.injEq] at h;obtain⟨rfl,rfl⟩:=h;simp[ZX.ev,Rb]
 | .d n,a,u,h=>by
  simp only[ZX.lf,Am,Prod.mk.injEq] at h;obtain⟨rfl,rfl⟩:=h;rw[oD,NU,zcx];rfl
 | .add x y,a,u,h=>by
  unfold ZX.lf at h
  split at h
  ·rename_i a1 u1 a2 u2 h1 h2
   simp only[Am,Prod.mk.injEq] at h;obtain⟨rfl,rfl⟩:=h;show x.ev ρ+y.ev ρ=_;rw[ZX.lf_ok ρ h1,ZX.lf_ok ρ h2,yg];omega
  ·cases h
 | .mul x y,a,u,h=>by
  unfold ZX.lf at h
  split at h
  ·rename_i a1 u1 a2 u2 h1 h2
   have e1:=ZX.lf_ok ρ h1;have e2:=ZX.lf_ok ρ h2;show x.ev ρ*y.ev ρ=_
   cases hv:isC u2 with
   |true=>
    rw[hv,cond_true,Am,Prod.mk.injEq] at h;obtain⟨rfl,rfl⟩:=h;rw[yF _ _ _ hv,wP] at e2;rw[e1,e2,l9,sI,Y6 a2]
   | false=>
    rw[hv,cond_false] at h
    cases hu:isC u1 with
    |true=>
     rw[hu,cond_true,Am,Prod.mk.injEq] at h;obtain⟨rfl,rfl⟩:=h;rw[yF _ _ _ hu,wP] at e1;rw[e1,e2,l9,qC]
    |false=>rw[hu] at h;cases h
  ·cases h
def AFn:Nat→Int→List Int
 |0,_=>[]
 |n+1,c=>c::AFn n (16*c)
theorem AE2(f:Nat→Int):∀ (n k:Nat) (c:Int),Rb f k (AFn n c)=c*dgV ((List.range n).map fun j=>f (k+j))
 |0,k,c=>by simp[AFn,Rb,dgV]
 | n+1,k,c=>by
  have e:((fun j=>f (k+j)) ∘ Nat.succ)=fun j=>f (k+1+j):=by
   funext j
   simp only[Function.comp]
   congr 1;omega
  rw[AFn,Rb,AE2 f n (k+1),List.range_succ_eq_map,NT,List.map_map,e,dgV,qC,Y6 16 c,Xr];rfl
def AMk(z:Option Z2):Bool:=match z with
 |some z=>(match z.z.lf,z.w.lf with
  |some (a,u),some (b,v)=>Le a 0&&sM u (AFn 64 1)&&(Le b 0&&isC v)
  |_,_=>false)
 |none=>false
theorem AOX:AMk (AHF (TT (tfG jW) nmG (Al.tree Ak) Ak Al.s0 Al.rvs [none,none] [none,some [(4,.sc)]] []))=true:=by kernel_rfl
theorem ANh{P:Pt}{d:Nat→Int}{s:List Int}{z:Z2}{m:Int}(ht:AMk (some z)=true)(hd:dgV ((List.range 64).map fun j=>d (0+j))=m):z.ev ⟨P,P,d,s⟩=P.zm m:=by
 unfold AMk at ht;simp only at ht
 split at ht
 ·rename_i a u b w k1 k2
  simp only[Bd] at ht;obtain⟨⟨q1,q2⟩,q3,q4⟩:=ht;have e1:=ZX.lf_ok ⟨P,P,d,s⟩ k1;have e2:=ZX.lf_ok ⟨P,P,d,s⟩ k2;rw[KV q1,Zo q2,AE2,zcw,zcx] at e1;rw[KV q3,yF _ _ _ q4,wP] at e2;have e3:=e1.trans hd;show (P.zm (z.z.ev _)).add (P.zm (z.w.ev _))=_;rw[e3,e2,Pt.zm_zero,Pt.add_zero]
 ·cases ht
theorem ANf{x:List Int}{m:Int}(g3:(Af.raw AL 0 [x]).length=64)(g5:dgV (Af.raw AL 0 [x])=m):dgV ((List.range 64).map fun j=>fV x (0+j))=m:=by
 have e3:((List.range 64).map fun j=>fV x (0+j))=Af.raw AL 0 [x]:=by
  have:=VF g3;rw[← this];refine fU fun j _=>?_
  rw[NU];rfl
 rw[e3,g5]
theorem ARR{P Q:Pt}{l:List Int}(h:RR .p3 P l)(e:P=Q):R3 Q l:=by
 subst e;exact h
theorem AIG{T:Tb}(h:lk 105 T=some (.one AY)){v x:List Int}(hx:u4 x):∃ m,ScV x m∧R3 (Nf.zm m) (gv T 105 0 [v,x]):=by
 have ht:=AOX;unfold AHF at ht
 split at ht
 ·rename_i z hz
  have hM:MG Ak.T ⟨Nf,Nf,fV x,x⟩ jW:=.cons (AEq rfl) (.cons (AB2 hx rfl) (.cons (AFG rfl) (.cons (y8 rfl) (.cons (jJ rfl) (.cons (lH rfl) (.cons (Wp rfl) (.cons (yS rfl) (.cons (ACE rfl) (.cons (nR rfl) .nil)))))))));have hI:fK (γG ⟨Nf,Nf,fV x,x⟩) [none,some [(4,.sc)]] [v,x]:=.no (.yes ⟨x,[],by simp,hx.1,rfl,rfl⟩ .nil);obtain⟨h1,ρe,h2⟩:=ACC (i:=Al) (C:=Ak) (ρ:=⟨Nf,Nf,fV x,x⟩) (n:=20) (M:=jW) (b:=[.a 20 (.pt .p3 z)]) h rfl hM hz (ins:=[v,x]) (.no (.no .nil)) hI (fun p hp=>by cases hp) (fun ρe l h=>RR.len (r:=.p3) (gp1 h));obtain⟨m,g1,-,g3,g4,g5⟩:=zB hx;exact⟨m,g1,ARR (gp1 h2) (ANh ht (ANf g3 g5))⟩
 ·cases ht
theorem AVO{y:Fp}{h:∃ x,Ph dE x y}{P:Pt}(e:(⟨xY y,y,VY h⟩:Pt)=P):P.x=xY y:=by
 subst e;simp only
theorem AQ8:Nf.x=xY yG:=AVO (h:=pK) (AKu pK rfl)
theorem ARL:Ph dE 15112221349535400772501151409588531511454012693041857206046113283949847762202 yG:=by unfold Ph;decide +kernel
theorem ANP{y x:Fp}(h:Ph dE x y)(he:x.val%2=0):xY y=x:=by
 have h1:=Rp.2 (VY ⟨x,h⟩);have h2:=Rp.2 h;refine jX ?_ (Zw (uY y) (vY y)).2.2 he;refine Om (y9 y) ?_;rw[Fin.mul_comm _ (vY y),Fin.mul_comm _ (vY y),h1,h2]
theorem ASI:Nf.x=15112221349535400772501151409588531511454012693041857206046113283949847762202:=AQ8.trans (ANP ARL (by decide +kernel))
structure Q4 where
 x:Nat
 y:Nat
 z:Nat
 t:Nat
def Qk(a b:Nat):Nat:=a*b%PP
def VK(a b:Nat):Nat:=(a+b)%PP
def Vs(a b:Nat):Nat:=(a+(PP-b))%PP
def AKO(x y z t:Nat):Q4:=⟨Qk x t,Qk y z,Qk z t,Qk x y⟩
def AIe(q:Q4):Q4:=
 AKO (Vs (Qk (VK q.x q.y) (VK q.x q.y)) (VK (Qk q.y q.y) (Qk q.x q.x))) (VK (Qk q.y q.y) (Qk q.x q.x)) (Vs (Qk q.y q.y) (Qk q.x q.x)) (Vs (VK (Qk q.z q.z) (Qk q.z q.z)) (Vs (Qk q.y q.y) (Qk q.x q.x)))
def AOn(a b e:Nat)(q:Q4):Q4:=
 AKO (Vs (Qk (VK q.y q.x) a) (Qk (Vs q.y q.x) b)) (VK (Qk (VK q.y q.x) a) (Qk (Vs q.y q.x) b)) (VK (VK q.z q.z) (Qk q.t e)) (Vs (VK q.z q.z) (Qk q.t e))
def ABm(a b e:Nat):Nat→Nat→Q4
 |0,_=>⟨0,1,1,0⟩
 |f+1,n=>bif Nat.beq n 0 then ⟨0,1,1,0⟩ else bif Nat.beq (n%2) 1 then AOn a b e (AIe (ABm a b e f (n/2))) else AIe (ABm a b e f (n/2))
def fN(n:Nat):Fp:=⟨n%PP,zcy _ PP0⟩
structure QP (q:Q4) (P:Pt):Prop where
 p:P3 (fN q.x) (fN q.y) (fN q.z) (fN q.t) P
theorem AGJ(a b:Nat):fN (Qk a b)=fN a*fN b:=Fin.ext (by
 rw[wN];show a*b%PP%PP=(a%PP)*(b%PP)%PP;rw[Nat.mod_mod, ← Nat.mul_mod])
theorem tQ(a b:Nat):fN (VK a b)=fN a+fN b:=Fin.ext (by
 rw[Fin.val_add];show (a+b)%PP%PP=(a%PP+b%PP)%PP;rw[Nat.mod_mod, ← Nat.add_mod])
theorem aI{a b:Nat}(h:b<PP):fN (Vs a b)=fN a-fN b:=by
 have e:VK (Vs a b) b=a%PP:=by
  unfold VK Vs;rw[Nat.mod_add_mod,show a+(PP-b)+b=a+PP by omega,Nat.add_mod_right]
 have h2:=tQ (Vs a b) b;have h3:fN (VK (Vs a b) b)=fN a:=by
  rw[e];exact Fin.ext (Nat.mod_mod _ _)
 rw[h3] at h2;rw[h2];generalize fN (Vs a b)=u;generalize fN b=v
 grind
theorem rO(a b:Nat):Qk a b<PP:=zcy _ PP0
theorem ASx(a b:Nat):VK a b<PP:=zcy _ PP0
theorem AQe(a b:Nat):Vs a b<PP:=zcy _ PP0
theorem AIA{q:Q4}{P:Pt}(h:QP q P):QP (AIe q) (P.add P):=by
 have h1:=mP (AK7 (AFk h.p));refine⟨?_⟩;simp only[AIe,AKO,AGJ,tQ,aI (ASx _ _),aI (rO _ _),aI (AQe _ _)];exact h1
theorem AHy{q:Q4}{P Q:Pt}{a b e:Nat}(h:QP q P)(hx:q.x<PP)(g:AC (fN a) (fN b) (fN e) Q):QP (AOn a b e q) (P.add Q):=by
 have h1:=mP (AEd h.p g);refine⟨?_⟩;simp only[AOn,AKO,AGJ,tQ,aI hx,aI (rO _ _)];exact h1
theorem xU{a b e:Nat}{Q:Pt}(g:AC (fN a) (fN b) (fN e) Q):∀ (f n:Nat),n<2^f→QP (ABm a b e f n) (Q.nm n)∧(ABm a b e f n).x<PP
 |0,n,h=>by
  have:n=0:=by simpa using h
  subst this;exact⟨⟨yK⟩,PP0⟩
 | f + 1,n,h=>by
  unfold ABm
  cases h0:Nat.beq n 0 with
  |true=>
   have:=CL h0;subst this;exact⟨⟨yK⟩,PP0⟩
  | false=>
   obtain⟨i1,i2⟩:=xU g f (n/2) (by rw[r9] at h;omega);have hd:=AIA i1;have e2:(Q.nm (n/2)).add (Q.nm (n/2))=Q.nm (2*(n/2)):=by rw[Nat.two_mul,Pt.nm_add]
   rw[e2] at hd
   cases h1:Nat.beq (n%2) 1 with
   | true=>
    have hb:=CL h1;have hq:=AHy hd (rO _ _) g;have e3:(Q.nm (2*(n/2))).add Q=Q.nm n:=by
     show Q.nm (2*(n/2)+1)=_
     congr 1;omega
    rw[e3] at hq;exact⟨hq,rO _ _⟩
   |false=>
    have hb:¬ n%2=1:=fun h=>by rw[h] at h1;cases h1
    have e3:2*(n/2)=n:=by omega
    rw[e3] at hd;exact⟨hd,rO _ _⟩
def LN:Nat:=7237005577332262213973186563042994240857116359379907606001950938285454250989
def bA:Nat:=3533012425803781230144052908719740726127014226477800802100354883158534798213
def bBn:Nat:=31204614345391077396927242593886631629853981173214368409736920319215404093758
def bE:Nat:=50237614328228664512531835696112167678046477356841409204013502641986506238568
theorem AUu:AC (fN bA) (fN bBn) (fN bE) Nf:=by
 have hy:Nf.y=yG:=rfl;refine⟨?_,?_,?_⟩<;>rw[ASI,hy]<;>decide +kernel
def qz(q:Q4):Bool:=Nat.beq q.x 0&&Nat.beq q.y q.z
theorem AT1{q:Q4}{P:Pt}(h:QP q P)(hz:qz q=true):P=Pt.zero:=by
 simp only[qz,Bd] at hz;have e1:=CL hz.1;have e2:=CL hz.2;obtain⟨⟨z,x,y,t⟩⟩:=h;rw[e1] at x;rw[e2] at y;have hy:P.y=1:=by
  refine Om z ?_;rw[← y];generalize fN q.z=u
  grind
 exact AKk hy
theorem ARo:qz (ABm bA bBn bE 256 LN)=true:=by decide +kernel
theorem AQ4:Nf.nm LN=Pt.zero:=AT1 (xU AUu 256 LN (by decide +kernel)).1 ARo
theorem APm:OM=((LN:Nat):Int):=rfl
theorem ADA(P:Pt)(n:Nat):P.zm (n:Int)=P.nm n:=rfl
theorem AMT(k:Int):Nf.zm (OM*k)=Pt.zero:=by
 rw[Pt.zm_mul,APm,ADA,AQ4];have h0:∀ n,Pt.zero.nm n=Pt.zero:=fun n=>by
  induction n with
  |zero=>rfl
  |succ n ih=>show (Pt.zero.nm n).add Pt.zero=_;rw[Pt.add_zero,ih]
 cases k with
 |ofNat n=>exact h0 n
 |negSucc n=>show (Pt.zero.nm (n+1)).neg=_;rw[h0,Pt.neg_zero]
theorem AHj{m n:Int}(h:OM ∣ m-n):Nf.zm m=Nf.zm n:=by
 obtain⟨k,hk⟩:=h;have:m=n+OM*k:=by omega
 rw[this,Pt.zm_add,AMT,Pt.add_zero]
theorem ADg{T:Tb}(h:lk 105 T=some (.one AY)){v x:List Int}{n:Int}(hx:OW x n):R3 (Nf.zm n) (gv T 105 0 [v,x]):=by
 obtain⟨m,h1,h2⟩:=AIG h (v:=v) hx.u.u
 rwa [AHj (OW.uniq ⟨hx.u,h1.eq⟩ hx)] at h2
end Go.Proofs.YtloibefkijfdlaaGreatDoor
