/- The base point's order; what ScalarBaseMult gives. -/
import Derived.Test.YtloibefkijfdlaaGreatDoorDq6
import Derived.Test.YtloibefkijfdlaaGreatDoorPb
import Derived.Test.YtloibefkijfdlaaGreatDoorPe
namespace Go.Proofs.YtloibefkijfdlaaGreatDoor
open Go Ma
def ladd:List Int→List Int→List Int
 | [],y=>y
 |x,[]=>x
 |a::x,b::y=>(a+b)::ladd x y
def unitL:Nat→List Int
 |0=> [1]
 |n+1=>0::unitL n
def isC:List Int→Bool
 | []=>true
 |a::r=>ieqB a 0&&isC r
def ZX.lf:ZX→Option (Int×List Int)
 | .k c=>some (c,[])
 | .d n=>some (0,unitL n)
 | .add x y=>match x.lf,y.lf with
  |some (a,u),some (b,v)=>some (a+b,ladd u v)
  |_,_=>none
 | .mul x y=>match x.lf,y.lf with
  |some (a,u),some (b,v)=>bif isC v then some (a*b,u.map (b * ·)) else bif isC u then some (a*b,v.map (a * ·)) else none
  |_,_=>none
def dotL(f:Nat→Int):Nat→List Int→Int
 |_,[]=>0
 |k,a::r=>a*f k+dotL f (k+1) r
theorem dot_add(f:Nat→Int):∀ (x y:List Int) (k:Nat),dotL f k (ladd x y)=dotL f k x+dotL f k y
 | [],y,k=>by simp[ladd,dotL]
 |a::x,[],k=>by simp[ladd,dotL]
 |a::x,b::y,k=>by
  simp only[ladd,dotL,dot_add f x y (k+1),Int.add_mul]
  omega
theorem dot_unit(f:Nat→Int):∀ (n k:Nat),dotL f k (unitL n)=f (k+n)
 |0,k=>by simp[unitL,dotL]
 |n+1,k=>by
  simp only[unitL,dotL,dot_unit f n (k+1),Int.zero_mul,Int.zero_add]
  congr 1; omega
theorem dot_C(f:Nat→Int):∀ (x:List Int) (k:Nat),isC x=true→dotL f k x=0
 | [],_,_=>rfl
 |a::r,k,h=>by
  simp only[isC,baE] at h
  simp only[dotL,dot_C f r (k+1) h.2,ieqB_ok h.1,Int.zero_mul,Int.add_zero]
theorem dot_mul(f:Nat→Int)(b:Int):∀ (x:List Int) (k:Nat),dotL f k (x.map (b * ·))=b*dotL f k x
 | [],k=>by simp[dotL]
 |a::x,k=>by simp only[List.map_cons,dotL,dot_mul f b x (k+1),Int.mul_add,Int.mul_assoc]
theorem ZX.lf_ok(ρ:GV):∀ {x:ZX} {a:Int} {u:List Int},x.lf=some (a,u)→x.ev ρ=a+dotL ρ.d 0 u
 | .k c,a,u,h=>by
  simp only[ZX.lf,osE,Prod.mk.injEq] at h
  obtain⟨rfl,rfl⟩:=h
  simp[ZX.ev,dotL]
 | .d n,a,u,h=>by
  simp only[ZX.lf,osE,Prod.mk.injEq] at h
  obtain⟨rfl,rfl⟩:=h
  rw[dot_unit,Nat.zero_add,Int.zero_add]
  rfl
 | .add x y,a,u,h=>by
  unfold ZX.lf at h
  split at h
  ·rename_i a1 u1 a2 u2 h1 h2
   simp only[osE,Prod.mk.injEq] at h
   obtain⟨rfl,rfl⟩:=h
   show x.ev ρ+y.ev ρ=_
   rw[ZX.lf_ok ρ h1,ZX.lf_ok ρ h2,dot_add]
   omega
  ·cases h
 | .mul x y,a,u,h=>by
  unfold ZX.lf at h
  split at h
  ·rename_i a1 u1 a2 u2 h1 h2
   have e1:=ZX.lf_ok ρ h1
   have e2:=ZX.lf_ok ρ h2
   show x.ev ρ*y.ev ρ=_
   cases hv:isC u2 with
   |true=>
    rw[hv,cond_true,osE,Prod.mk.injEq] at h
    obtain⟨rfl,rfl⟩:=h
    rw[dot_C _ _ _ hv,Int.add_zero] at e2
    rw[e1,e2,dot_mul,Int.add_mul,Int.mul_comm a2]
   | false=>
    rw[hv,cond_false] at h
    cases hu:isC u1 with
    |true=>
     rw[hu,cond_true,osE,Prod.mk.injEq] at h
     obtain⟨rfl,rfl⟩:=h
     rw[dot_C _ _ _ hu,Int.add_zero] at e1
     rw[e1,e2,dot_mul,Int.mul_add]
    |false=>rw[hu] at h; cases h
  ·cases h
def pw16:Nat→Int→List Int
 |0,_=> []
 |n+1,c=>c::pw16 n (16*c)
theorem dot_pw(f:Nat→Int):∀ (n k:Nat) (c:Int),dotL f k (pw16 n c)=c*dgV ((List.range n).map fun j=>f (k+j))
 |0,k,c=>by simp[pw16,dotL,dgV]
 | n+1,k,c=>by
  have e:((fun j=>f (k+j)) ∘ Nat.succ)=fun j=>f (k+1+j):=by
   funext j
   simp only[Function.comp]
   congr 1; omega
  rw[pw16,dotL,dot_pw f n (k+1),List.range_succ_eq_map,List.map_cons,List.map_map,e,dgV,Int.mul_add,Int.mul_comm 16 c,Int.mul_assoc]
  rfl
def sbmL(z:Option Z2):Bool:=match z with
 |some z=>(match z.z.lf,z.w.lf with
  |some (a,u),some (b,v)=>ieqB a 0&&ieqL u (pw16 64 1)&&(ieqB b 0&&isC v)
  |_,_=>false)
 |none=>false
theorem t_sbm2:sbmL (sbmT (bkFnC (tfG M_sbm) nmG (i_edwards25519_Point_ScalarBaseMult.tree C_edwards25519_Point_ScalarBaseMult) C_edwards25519_Point_ScalarBaseMult i_edwards25519_Point_ScalarBaseMult.s0 i_edwards25519_Point_ScalarBaseMult.rvs [none,none] [none,some [(4,.sc)]] []))=true:=by kernel_rfl
theorem z2_dig{P:Pt}{d:Nat→Int}{s:List Int}{z:Z2}{m:Int}(ht:sbmL (some z)=true)(hd:dgV ((List.range 64).map fun j=>d (0+j))=m):z.ev ⟨P,P,d,s⟩=P.zm m:=by
 unfold sbmL at ht
 simp only at ht
 split at ht
 ·rename_i a u b w k1 k2
  simp only[baE] at ht
  obtain⟨⟨q1,q2⟩,q3,q4⟩:=ht
  have e1:=ZX.lf_ok ⟨P,P,d,s⟩ k1
  have e2:=ZX.lf_ok ⟨P,P,d,s⟩ k2
  rw[ieqB_ok q1,ieqL_ok q2,dot_pw,Int.one_mul,Int.zero_add] at e1
  rw[ieqB_ok q3,dot_C _ _ _ q4,Int.add_zero] at e2
  have e3:=e1.trans hd
  show (P.zm (z.z.ev _)).add (P.zm (z.w.ev _))=_
  rw[e3,e2,Pt.zm_zero,Pt.add_zero]
 ·cases ht
theorem dg_sum{x:List Int}{m:Int}(g3:(i_edwards25519_Scalar_signedRadix16.raw C_edwards25519_Scalar_signedRadix16 0 [x]).length=64)(g5:dgV (i_edwards25519_Scalar_signedRadix16.raw C_edwards25519_Scalar_signedRadix16 0 [x])=m):dgV ((List.range 64).map fun j=>dgOf x (0+j))=m:=by
 have e3:((List.range 64).map fun j=>dgOf x (0+j))=i_edwards25519_Scalar_signedRadix16.raw C_edwards25519_Scalar_signedRadix16 0 [x]:=by
  have:=range_id2 g3
  rw[← this]
  refine List.map_congr_left fun j _=> ?_
  rw[Nat.zero_add]
  rfl
 rw[e3,g5]
theorem r3_of{P Q:Pt}{l:List Int}(h:RR .p3 P l)(e:P=Q):R3 Q l:=by
 subst e
 exact h
theorem sbm_val{T:Tb}(h:lk 105 T=some (.one s_edwards25519_Point_ScalarBaseMult)){v x:List Int}(hx:u4 x):∃ m,ScV x m∧R3 (ptB.zm m) (gv T 105 0 [v,x]):=by
 have ht:=t_sbm2
 unfold sbmT at ht
 split at ht
 ·rename_i z hz
  have hM:MG C_edwards25519_Point_ScalarBaseMult.T ⟨ptB,ptB,dgOf x,x⟩ M_sbm:=.cons (kp_bpt rfl) (.cons (kp_rad hx rfl) (.cons (kp_idp rfl) (.cons (kp_set3 rfl) (.cons (kp_selTab rfl) (.cons (kp_addA rfl) (.cons (kp_3of11 rfl) (.cons (kp_2of3 rfl) (.cons (kp_dbl rfl) (.cons (kp_2of11 rfl) .nil)))))))))
  have hI:InB (γG ⟨ptB,ptB,dgOf x,x⟩) [none,some [(4,.sc)]] [v,x]:=.no (.yes ⟨x,[],by simp,hx.1,rfl,rfl⟩ .nil)
  obtain⟨h1,ρe,h2⟩:=gpOk (i:=i_edwards25519_Point_ScalarBaseMult) (C:=C_edwards25519_Point_ScalarBaseMult) (ρ:=⟨ptB,ptB,dgOf x,x⟩) (n:=20) (M:=M_sbm) (b:= [.a 20 (.pt .p3 z)]) h rfl hM hz (ins:= [v,x]) (.no (.no .nil)) hI (fun p hp=>by cases hp) (fun ρe l h=>RR.len (r:=.p3) (gp1 h))
  obtain⟨m,g1,-, g3,g4,g5⟩:=r16_raw hx
  exact⟨m,g1,r3_of (gp1 h2) (z2_dig ht (dg_sum g3 g5))⟩
 ·cases ht
theorem pt_x{y:Fp}{h:∃ x,OnC dE x y}{P:Pt}(e:(⟨xY y,y,xY_on h⟩:Pt)=P):P.x=xY y:=by
 subst e
 simp only
theorem ptB_x:ptB.x=xY yG:=pt_x (h:=yG_on) (pt_yG yG_on rfl)
theorem xG_on:OnC dE 15112221349535400772501151409588531511454012693041857206046113283949847762202 yG:=by unfold OnC; decide +kernel
theorem even_x{y x:Fp}(h:OnC dE x y)(he:x.val%2=0):xY y=x:=by
 have h1:=onC_uv.2 (xY_on ⟨x,h⟩)
 have h2:=onC_uv.2 h
 refine even_root ?_ (root_ok (uY y) (vY y)).2.2 he
 refine cancel (vY_ne y) ?_
 rw[Fin.mul_comm _ (vY y),Fin.mul_comm _ (vY y),h1,h2]
theorem xG_eq:ptB.x=15112221349535400772501151409588531511454012693041857206046113283949847762202:=ptB_x.trans (even_x xG_on (by decide +kernel))
structure Q4 where
 x:Nat
 y:Nat
 z:Nat
 t:Nat
def nmul(a b:Nat):Nat:=a*b%PP
def nadd(a b:Nat):Nat:=(a+b)%PP
def nsub(a b:Nat):Nat:=(a+(PP-b))%PP
def of11(x y z t:Nat):Q4:=⟨nmul x t,nmul y z,nmul z t,nmul x y⟩
def qdbl(q:Q4):Q4:=
 of11 (nsub (nmul (nadd q.x q.y) (nadd q.x q.y)) (nadd (nmul q.y q.y) (nmul q.x q.x))) (nadd (nmul q.y q.y) (nmul q.x q.x)) (nsub (nmul q.y q.y) (nmul q.x q.x)) (nsub (nadd (nmul q.z q.z) (nmul q.z q.z)) (nsub (nmul q.y q.y) (nmul q.x q.x)))
def qadd(a b e:Nat)(q:Q4):Q4:=
 of11 (nsub (nmul (nadd q.y q.x) a) (nmul (nsub q.y q.x) b)) (nadd (nmul (nadd q.y q.x) a) (nmul (nsub q.y q.x) b)) (nadd (nadd q.z q.z) (nmul q.t e)) (nsub (nadd q.z q.z) (nmul q.t e))
def qmul(a b e:Nat):Nat→Nat→Q4
 |0,_=>⟨0,1,1,0⟩
 |f+1,n=>bif Nat.beq n 0 then ⟨0,1,1,0⟩ else bif Nat.beq (n%2) 1 then qadd a b e (qdbl (qmul a b e f (n/2))) else qdbl (qmul a b e f (n/2))
def fN(n:Nat):Fp:=⟨n%PP,Nat.mod_lt _ PP0⟩
structure QP (q:Q4) (P:Pt):Prop where
 p:P3 (fN q.x) (fN q.y) (fN q.z) (fN q.t) P
theorem fN_mul(a b:Nat):fN (nmul a b)=fN a*fN b:=Fin.ext (by
 rw[fv_mul]
 show a*b%PP%PP=(a%PP)*(b%PP)%PP
 rw[Nat.mod_mod, ← Nat.mul_mod])
theorem fN_add(a b:Nat):fN (nadd a b)=fN a+fN b:=Fin.ext (by
 rw[Fin.val_add]
 show (a+b)%PP%PP=(a%PP+b%PP)%PP
 rw[Nat.mod_mod, ← Nat.add_mod])
theorem fN_sub{a b:Nat}(h:b<PP):fN (nsub a b)=fN a-fN b:=by
 have e:nadd (nsub a b) b=a%PP:=by
  unfold nadd nsub
  rw[Nat.mod_add_mod,show a+(PP-b)+b=a+PP by omega,Nat.add_mod_right]
 have h2:=fN_add (nsub a b) b
 have h3:fN (nadd (nsub a b) b)=fN a:=by
  rw[e]
  exact Fin.ext (Nat.mod_mod _ _)
 rw[h3] at h2
 rw[h2]
 generalize fN (nsub a b)=u
 generalize fN b=v
 grind
theorem nm_lt(a b:Nat):nmul a b<PP:=Nat.mod_lt _ PP0
theorem na_lt(a b:Nat):nadd a b<PP:=Nat.mod_lt _ PP0
theorem ns_lt(a b:Nat):nsub a b<PP:=Nat.mod_lt _ PP0
theorem qdbl_ok{q:Q4}{P:Pt}(h:QP q P):QP (qdbl q) (P.add P):=by
 have h1:=f_3of11 (f_dbl (f_2of3 h.p))
 refine⟨?_⟩
 simp only[qdbl,of11,fN_mul,fN_add,fN_sub (na_lt _ _),fN_sub (nm_lt _ _),fN_sub (ns_lt _ _)]
 exact h1
theorem qadd_ok{q:Q4}{P Q:Pt}{a b e:Nat}(h:QP q P)(hx:q.x<PP)(g:AC (fN a) (fN b) (fN e) Q):QP (qadd a b e q) (P.add Q):=by
 have h1:=f_3of11 (f_addA h.p g)
 refine⟨?_⟩
 simp only[qadd,of11,fN_mul,fN_add,fN_sub hx,fN_sub (nm_lt _ _)]
 exact h1
theorem qmul_ok{a b e:Nat}{Q:Pt}(g:AC (fN a) (fN b) (fN e) Q):∀ (f n:Nat),n<2^f→QP (qmul a b e f n) (Q.nm n)∧(qmul a b e f n).x<PP
 |0,n,h=>by
  have:n=0:=by simpa using h
  subst this
  exact⟨⟨f_zero3⟩,PP0⟩
 | f + 1,n,h=>by
  unfold qmul
  cases h0:Nat.beq n 0 with
  |true=>
   have:=nbE h0
   subst this
   exact⟨⟨f_zero3⟩,PP0⟩
  | false=>
   obtain⟨i1,i2⟩:=qmul_ok g f (n/2) (by rw[Nat.pow_succ] at h; omega)
   have hd:=qdbl_ok i1
   have e2:(Q.nm (n/2)).add (Q.nm (n/2))=Q.nm (2*(n/2)):=by rw[Nat.two_mul,Pt.nm_add]
   rw[e2] at hd
   cases h1:Nat.beq (n%2) 1 with
   | true=>
    have hb:=nbE h1
    have hq:=qadd_ok hd (nm_lt _ _) g
    have e3:(Q.nm (2*(n/2))).add Q=Q.nm n:=by
     show Q.nm (2*(n/2)+1)=_
     congr 1; omega
    rw[e3] at hq
    exact⟨hq,nm_lt _ _⟩
   |false=>
    have hb:¬ n%2=1:=fun h=>by rw[h] at h1; cases h1
    have e3:2*(n/2)=n:=by omega
    rw[e3] at hd
    exact⟨hd,nm_lt _ _⟩
def LN:Nat:=7237005577332262213973186563042994240857116359379907606001950938285454250989
def bA:Nat:=3533012425803781230144052908719740726127014226477800802100354883158534798213
def bBn:Nat:=31204614345391077396927242593886631629853981173214368409736920319215404093758
def bE:Nat:=50237614328228664512531835696112167678046477356841409204013502641986506238568
theorem ac_B:AC (fN bA) (fN bBn) (fN bE) ptB:=by
 have hy:ptB.y=yG:=rfl
 refine⟨?_,?_,?_⟩<;>rw[xG_eq,hy]<;>decide +kernel
def qz(q:Q4):Bool:=Nat.beq q.x 0&&Nat.beq q.y q.z
theorem qz_ok{q:Q4}{P:Pt}(h:QP q P)(hz:qz q=true):P=Pt.zero:=by
 simp only[qz,baE] at hz
 have e1:=nbE hz.1
 have e2:=nbE hz.2
 obtain⟨⟨z,x,y,t⟩⟩:=h
 rw[e1] at x
 rw[e2] at y
 have hy:P.y=1:=by
  refine cancel z ?_
  rw[← y]
  generalize fN q.z=u
  grind
 exact id_pt hy
theorem t_ord:qz (qmul bA bBn bE 256 LN)=true:=by decide +kernel
theorem ord_B:ptB.nm LN=Pt.zero:=qz_ok (qmul_ok ac_B 256 LN (by decide +kernel)).1 t_ord
theorem scL_LN:scL=((LN:Nat):Int):=rfl
theorem zm_nm(P:Pt)(n:Nat):P.zm (n:Int)=P.nm n:=rfl
theorem ord_zm(k:Int):ptB.zm (scL*k)=Pt.zero:=by
 rw[Pt.zm_mul,scL_LN,zm_nm,ord_B]
 have h0:∀ n,Pt.zero.nm n=Pt.zero:=fun n=>by
  induction n with
  |zero=>rfl
  |succ n ih=>show (Pt.zero.nm n).add Pt.zero=_; rw[Pt.add_zero,ih]
 cases k with
 |ofNat n=>exact h0 n
 |negSucc n=>show (Pt.zero.nm (n+1)).neg=_; rw[h0,Pt.neg_zero]
theorem zm_cong{m n:Int}(h:scL ∣ m-n):ptB.zm m=ptB.zm n:=by
 obtain⟨k,hk⟩:=h
 have:m=n+scL*k:=by omega
 rw[this,Pt.zm_add,ord_zm,Pt.add_zero]
theorem sbm_sv{T:Tb}(h:lk 105 T=some (.one s_edwards25519_Point_ScalarBaseMult)){v x:List Int}{n:Int}(hx:SVL x n):R3 (ptB.zm n) (gv T 105 0 [v,x]):=by
 obtain⟨m,h1,h2⟩:=sbm_val h (v:=v) hx.u.u
 rwa [zm_cong (SVL.uniq ⟨hx.u,h1.eq⟩ hx)] at h2
end Go.Proofs.YtloibefkijfdlaaGreatDoor
