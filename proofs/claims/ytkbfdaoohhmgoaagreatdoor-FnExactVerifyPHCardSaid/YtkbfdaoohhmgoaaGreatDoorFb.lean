/- Repeated squares. -/
import Derived.Test.YtkbfdaoohhmgoaaGreatDoorBc
import Derived.Test.YtkbfdaoohhmgoaaGreatDoorFe2
namespace Go.Proofs.YtkbfdaoohhmgoaaGreatDoor
section
open Go Ma
def b1(lo hi:Int):List (Int×Int):=[(lo,hi)]
def bSq:List (List (Int×Int)):=[b1 0 fB,b1 0 fB,b1 0 fB,b1 0 fB,b1 0 fB,b1 0 100000,b1 0 99999]
def ATk:List (List (Int×Int)):=[b1 0 fB,b1 0 fB,b1 0 fB,b1 0 fB,b1 0 fB,b1 0 100000,b1 0 100000]
def ww(j:Nat):Fj:=Ir (enc j 0 0)
def AIo:Fj:=SF [ww 0,ww 1,ww 2,ww 3,ww 4]
def Nd(a:AV)(p:Fj):Bool:=Ol 0 (DZ a.p (Cq (-1) p))
theorem Uz{ρ:Bu}{x:Int}{a:AV}{p:Fj}(h:a.ok ρ x)(hp:Nd a p=true):x=Er ρ p:=by
 obtain⟨k,hk⟩:=WR ρ hp;rw[Ci,Cf, <- h.1] at hk;simp only[Int.natCast_zero,RW] at hk;omega
theorem OZ(ρ:Bu){j:Nat}{l:List Int}(h:ρ j=l):Er ρ (ww j)=l.getD 0 0:=by
 unfold ww;rw[Gc,αv_enc0 ρ (by omega),h]
def sqT(R:Option LpR):Bool:=match R with
 |some R=>AGB R true 6 5&&R.b&&(match R.av with
  | [[a],[b],[c],[d],[e],[n],[i]]=>[a,b,c,d,e].all avG&&Ol Kk (DZ (SF ([a,b,c,d,e].map (·.p))) (Cq (-1) (Ub [] AIo AIo)))&&Nd i (DZ (ww 6) (cK 1))&&Nd n (ww 5)
  |_=>false)
 |none=>false
def sqE(R:Option LpR):Bool:=match R with
 |some R=>AGB R false 6 5 && !R.b&&(match R.av with
  | [[a],[b],[c],[d],[e],_,_]=>Nd a (ww 0)&&Nd b (ww 1)&&Nd c (ww 2)&&Nd d (ww 3)&&Nd e (ww 4)
  |_=>false)
 |none=>false
theorem ARb:sqT (AHI Aq A7 Mfe bSq [true])=true:=by kernel_rfl
theorem ASS:sqE (AHI Aq A7 Mfe ATk [false])=true:=by kernel_rfl
theorem AGn(v:List Int)(a b c d e n:Int):De.raw BU 0 [v,[a,b,c,d,e],[n]]=(List.range 5).map λk=>d1 ((Aq.val A7 [[a],[b],[c],[d],[e],[n],[0]]).getD k []):=by kernel_rfl
theorem AN0:((mf (De.tree BU)).map λp=>p.2.1)=some [.pre (1000000+155) [.xs [.v 1 0],.xs [.v 1 1],.xs [.v 1 2],.xs [.v 1 3],.xs [.v 1 4],.xs [.v 2 0],.xs [.lit 0]]]:=by kernel_rfl
theorem ALW:OO 3 (De.tree BU)=true:=by kernel_rfl
def C7(a b c d e n i:Int):List (List Int):=[[a],[b],[c],[d],[e],[n],[i]]
theorem OV{ρ:Bu}{l:List Int}{a:AV}(h:iZ ρ l [a]):∃x,l= [x]/\a.ok ρ x:=by
 obtain⟨h1,h2⟩:=h
 match l,h1 with
 | [x],_=>exact⟨x,rfl,h2 0 x a rfl rfl⟩
theorem AJz{α:Type}{l:List α}(h:l.length=7):∃a b c d e f g,l= [a,b,c,d,e,f,g]:=by
 match l,h with
 | [a,b,c,d,e,f,g],_=>exact⟨a,b,c,d,e,f,g,rfl⟩
theorem QS{ζ:List (List (Int×Int))}{ins:List (List Int)}{x lo hi:Int}(h:lo<=x/\x<=hi)(hb:Mt ζ ins):Mt (b1 lo hi::ζ) ([x]::ins):=
 Wi _ _ ⟨by show 1<=4096;decide,λk p hk=>by
  cases k with
  |zero=>
   simp only[b1,UV,Ai] at hk;subst hk;exact h
  |succ k=>simp[b1] at hk⟩ hb
theorem ACV{a b c d e n i:Int}(h:Ix [a,b,c,d,e])(hi:0<=i)(bj:i<n)(hn:n<=100000):
  Cv A7.T (Aq.tree A7) (BK (C7 a b c d e n i))/\∃a' b' c' d' e',Aq.step A7 (C7 a b c d e n i)=some (true,C7 a' b' c' d' e' n (i+1))/\Gl (Jn (Oe [a,b,c,d,e])*Jn (Oe [a,b,c,d,e])) [a',b',c',d',e']:=by
 have ht:=ARb;unfold sqT at ht;split at ht
 ·rename_i R hR;simp only[Bj] at ht;obtain⟨⟨h1,h2⟩,h3⟩:=ht;have h0:=h.2 0 (by omega);have kO:=h.2 1 (by omega);have BE:=h.2 2 (by omega);have wj:=h.2 3 (by omega);have DB:=h.2 4 (by omega);obtain⟨ρ,g1,g2,g3⟩:=vv (iP rfl rfl) hR (ins:=C7 a b c d e n i) (QS h0 (QS kO (QS BE (QS wj (QS DB (QS (by omega) (QS (by omega) (Hm _))))))));have e0:ρ 0= [a]:=g1 0 (by decide);have e1:ρ 1= [b]:=g1 1 (by decide);have e2:ρ 2= [c]:=g1 2 (by decide);have e3:ρ 3= [d]:=g1 3 (by decide);have e4:ρ 4= [e]:=g1 4 (by decide);have e5:ρ 5= [n]:=g1 5 (by decide);have e6:ρ 6= [i]:=g1 6 (by decide);obtain⟨k1,r,k2,k3,k4⟩:=g3 (zR h1 g2 (by rw[e5,e6];exact(decide_eq_true bj).symm));refine⟨k1,?_⟩;split at h3
  ·rename_i A B C D E N I hav;simp only[Bj] at h3;obtain⟨⟨⟨p1,p2⟩,p3⟩,p4⟩:=h3;rw[hav] at k3 k4;obtain⟨ra,rb,rc,rd,re,rn,ri,rfl⟩:=AJz k3;obtain⟨a',rfl,qa⟩:=OV (k4 0 _ rfl);obtain⟨b',rfl,qb⟩:=OV (k4 1 _ rfl);obtain⟨c',rfl,qc⟩:=OV (k4 2 _ rfl);obtain⟨d',rfl,qd⟩:=OV (k4 3 _ rfl);obtain⟨e',rfl,qe⟩:=OV (k4 4 _ rfl);obtain⟨n',rfl,qn⟩:=OV (k4 5 _ rfl);obtain⟨i',rfl,qi⟩:=OV (k4 6 _ rfl);have en:=Uz qn p4;have ei:=Uz qi p3;rw[OZ ρ e5] at en;rw[Ci,OZ ρ e6,Rb] at ei;simp only[Qx] at en ei;subst en;subst ei;rw[h2] at k2;have hA:iZ ρ [a',b',c',d',e'] [A,B,C,D,E]:=⟨rfl,λj x y hx hy=>by
    match j,hx,hy with
    |0,hx,hy=>cases hx;cases hy;exact qa
    |1,hx,hy=>cases hx;cases hy;exact qb
    |2,hx,hy=>cases hx;cases hy;exact qc
    |3,hx,hy=>cases hx;cases hy;exact qd
    |4,hx,hy=>cases hx;cases hy;exact qe⟩
   refine⟨a',b',c',d',e',k2,zM hA rfl p1,?_⟩;have hd:=WR ρ p2;rw[Ci,Cf,lL hA rfl] at hd;have eE:Er ρ AIo=Oe [a,b,c,d,e]:=by
    simp only[AIo,SF,Ci,Cf,OZ ρ e0,OZ ρ e1,OZ ρ e2,OZ ρ e3,OZ ρ e4];unfold Oe;simp only[Qx,aa];omega
   rw[UD,eE] at hd;rw[<- Yu];refine ABq.2 ?_;have e:Oe [a',b',c',d',e']-Oe [a,b,c,d,e]*Oe [a,b,c,d,e]=Oe [a',b',c',d',e'] + -1*(Oe [a,b,c,d,e]*Oe [a,b,c,d,e]):=by omega
   rw[e];exact hd
  ·cases h3
 ·cases ht
theorem AK4{a b c d e n i:Int}(h:Ix [a,b,c,d,e])(hi:0<=i)(lE:n<=i)(hn:0<=n)(K1:i<=100000):
  Cv A7.T (Aq.tree A7) (BK (C7 a b c d e n i))/\∃r,Aq.step A7 (C7 a b c d e n i)=some (false,r)/\(List.range 5).map (λk=>d1 (r.getD k []))= [a,b,c,d,e]:=by
 have ht:=ASS;unfold sqE at ht;split at ht
 ·rename_i R hR;simp only[Bj,Bool.not_eq_true'] at ht;obtain⟨⟨h1,h2⟩,h3⟩:=ht;have h0:=h.2 0 (by omega);have kO:=h.2 1 (by omega);have BE:=h.2 2 (by omega);have wj:=h.2 3 (by omega);have DB:=h.2 4 (by omega);obtain⟨ρ,g1,g2,g3⟩:=vv (iP rfl rfl) hR (ins:=C7 a b c d e n i) (QS h0 (QS kO (QS BE (QS wj (QS DB (QS (by omega) (QS (by omega) (Hm _))))))));have e0:ρ 0= [a]:=g1 0 (by decide);have e1:ρ 1= [b]:=g1 1 (by decide);have e2:ρ 2= [c]:=g1 2 (by decide);have e3:ρ 3= [d]:=g1 3 (by decide);have e4:ρ 4= [e]:=g1 4 (by decide);have e5:ρ 5= [n]:=g1 5 (by decide);have e6:ρ 6= [i]:=g1 6 (by decide);obtain⟨k1,r,k2,k3,k4⟩:=g3 (zR h1 g2 (by rw[e5,e6];exact(decide_eq_false (Int.not_lt.2 lE)).symm));refine⟨k1,?_⟩;split at h3
  ·rename_i A B C D E N I hav;simp only[Bj] at h3;obtain⟨⟨⟨⟨p0,p1⟩,p2⟩,p3⟩,p4⟩:=h3;rw[hav] at k3 k4;obtain⟨ra,rb,rc,rd,re,rn,ri,rfl⟩:=AJz k3;obtain⟨a',rfl,qa⟩:=OV (k4 0 _ rfl);obtain⟨b',rfl,qb⟩:=OV (k4 1 _ rfl);obtain⟨c',rfl,qc⟩:=OV (k4 2 _ rfl);obtain⟨d',rfl,qd⟩:=OV (k4 3 _ rfl);obtain⟨e',rfl,qe⟩:=OV (k4 4 _ rfl);have x0:=Uz qa p0;have x1:=Uz qb p1;have x2:=Uz qc p2;have x3:=Uz qd p3;have x4:=Uz qe p4;rw[OZ ρ e0] at x0;rw[OZ ρ e1] at x1;rw[OZ ρ e2] at x2;rw[OZ ρ e3] at x3;rw[OZ ρ e4] at x4;simp only[Qx] at x0 x1 x2 x3 x4;subst x0;subst x1;subst x2;subst x3;subst x4;rw[h2] at k2;exact⟨_,k2,rfl⟩
  ·cases h3
 ·cases ht
theorem AI5(x:Fp):Ja x 2=x*x:=by rw[IG,Oy]
theorem yX:∀(m:Nat) {a b c d e n i:Int} {x:Fp},Gl x [a,b,c,d,e]->0<=i->i+m=n->n<=100000->
  Rm (Aq.step A7) (λins=>Cv A7.T (Aq.tree A7) (BK ins)) (m+1) (C7 a b c d e n i)/\
   Gl (Ja x (2^m)) ((List.range 5).map λk=>d1 ((Ht (Aq.step A7) (m+1) (C7 a b c d e n i)).getD k []))
 |0,a,b,c,d,e,n,i,x,h,hi,hm,hn=>by
  obtain⟨h1,r,h2,h3⟩:=AK4 h.1 hi (n:=n) (by omega) (by omega) (by omega);unfold Rm Ht;rw[h2];refine⟨⟨h1,trivial⟩,?_⟩;simp only;rw[h3,show 2^0=1 from rfl,Oy];exact h
 |m+1,a,b,c,d,e,n,i,x,h,hi,hm,hn=>by
  obtain⟨h1,a',b',c',d',e',h2,h3⟩:=ACV h.1 hi (n:=n) (by omega) hn;have ih:=yX m (n:=n) (i:=i+1) h3 (by omega) (by omega) hn;unfold Rm Ht;rw[h2];refine⟨⟨h1,ih.1⟩,?_⟩;simp only;have e2:Ja x (2^(m+1))=Ja (x*x) (2^m):=by rw[kw,qI, <- UO,AI5]
  rw[e2, <- h.2];exact ih.2
theorem ALA:lk (1000000+155) BU.T=some (.one (Aq.sum A7 (Aq.pre A7))):=by kernel_rfl
theorem AEg{T:Tb}(h:lk 155 T=some (.one Jh)):KF.Ok T 155 .sqn:=λv a x n hn ha=>by
 obtain⟨a0,a1,a2,a3,a4,rfl,_⟩:=g5 ha.1;have hl:=yX n (n:=(n:Int)) (i:=0) ha (by omega) (by omega) (by omega);have hf:Aq.fuel (C7 a0 a1 a2 a3 a4 n 0)=n+1:=by
  show((n:Int)-0).toNat+1=n+1;omega
 refine⟨C8 h ?_,?_⟩
 ·show Cv BU.T (De.tree BU) (BK [v,[a0,a1,a2,a3,a4],[(n:Int)]]);have mj:=AN0
  match DM:mf (De.tree BU),mj with
  | some (ds,ob,e,st),mj=>
   simp only[UT,Ai] at mj;subst mj;obtain⟨k1,k2,k3,k4,k5⟩:=Rc (T:=BU.T) (ρ:=BK [v,[a0,a1,a2,a3,a4],[(n:Int)]]) ALW DM;refine k5 λq hq=>?_
   rw[NU] at hq;subst hq;have e1:Df BU.T (BK [v,[a0,a1,a2,a3,a4],[(n:Int)]]) ds 1= [a0,a1,a2,a3,a4]:=k1 1 (by omega);have e2:Df BU.T (BK [v,[a0,a1,a2,a3,a4],[(n:Int)]]) ds 2= [(n:Int)]:=k1 2 (by omega);have ea: [Hy.xs [.v 1 0],.xs [.v 1 1],.xs [.v 1 2],.xs [.v 1 3],.xs [.v 1 4],.xs [.v 2 0],.xs [.lit 0]].map (·.den (Df BU.T (BK [v,[a0,a1,a2,a3,a4],[(n:Int)]]) ds))=C7 a0 a1 a2 a3 a4 n 0:=by
    simp only[NM,VW,Hy.den,X.den,e1,e2];rfl
   exact yN ALA ea (Ih.An (Ih.Fi hf hl.1))
 ·rw[Bf h];show Gl _ (BF 5 (De.raw BU 0 [v,_,_]));rw[AGn];have h2:=hl.2;rw[<- Ih.Ys hf] at h2;have e:C7 a0 a1 a2 a3 a4 n 0= [[a0],[a1],[a2],[a3],[a4],[(n:Int)],[0]]:=rfl;rw[e] at h2;rw[Ay h2.1.1];exact h2
end
section
open Go Ma
def FX.exp:FX->Option Nat
 | .v 0=>some 1
 | .mul x y=>(match x.exp,y.exp with
  |some m,some n=>some (m+n)
  |_,_=>none)
 | .pw x n=>(match x.exp with
  |some m=>some (m*n)
  |none=>none)
 |_=>none
theorem FX.tU{ρ:FV}:∀ {e:FX} {m:Nat},e.exp=some m->e.vr=false/\e.ev ρ=Ja (ρ.v 0) m
 | .v 0,m,h=>by simp only[FX.exp,Ai] at h;subst h;exact⟨rfl,(Oy _).symm⟩
 | .v (n+1),m,h=>by cases h
 | .mul x y,m,h=>by
  unfold FX.exp at h;split at h
  ·rename_i a b h1 h2;simp only[Ai] at h;subst h;refine⟨rfl,?_⟩;show x.ev ρ*y.ev ρ=_;rw[(FX.tU h1).2,(FX.tU h2).2,LH]
  ·cases h
 | .pw x n,m,h=>by
  unfold FX.exp at h;split at h
  ·rename_i a h1;simp only[Ai] at h;subst h;refine⟨rfl,?_⟩;show Ja (x.ev ρ) n=_;rw[(FX.tU h1).2,UO]
  ·cases h
 | .k _,_,h=>by cases h
 | .add _ _,_,h=>by cases h
 | .sub _ _,_,h=>by cases h
 | .b _,_,h=>by cases h
 | .ite _ _ _,_,h=>by cases h
 | .t _,_,h=>by cases h
 | .eq _ _,_,h=>by cases h
 | .or _ _,_,h=>by cases h
 | .Sx _,_,h=>by cases h
 | .not _,_,h=>by cases h
def pwT(n:Nat)(r:Option (List (List (Bk FX)))):Bool:=match r with
 |some [[.a 5 e]]=>(match e.exp with
  |some m=>Nat.beq m n
  |none=>false)
 |_=>false
theorem AQ8{M:List (Nat×KF)}{i:Ac}{C:Cx}{n:Nat}(hM:MF C.T M)(h:pwT n (WG (xu M) C2 i C [none,some (fb [.v 0])])=true){v a:List Int}{x:Fp}(ha:Gl x a):
  Cv C.T (i.tree C) (BK [v,a])/\Gl (Ja x n) (i.raw C 0 [v,a]):=by
 unfold pwT at h;split at h
 ·rename_i e hr;split at h
  ·rename_i m hm;have:=Ca h;subst this;have hx:=FX.tU (ρ:=⟨λ_=>x,λ_=>false⟩) hm;obtain⟨h1,u,w,g1,g2,g3⟩:=YI (es:=[e]) hM hr (by simp only[noB,List.all_cons,hx.1];rfl) ⟨λ_=>x,λ_=>false⟩ (ins:=[v,a]) (.no (.yes (MM.bl rfl ⟨a,[],by simp,ha,rfl⟩) .nil));have hw:w= []:=g3;rw[hw,RD] at g1;subst g1;have UP:Gl (e.ev ⟨λ_=>x,λ_=>false⟩) (i.raw C 0 [v,a]):=g2;rw[hx.2] at UP;exact⟨h1,UP⟩
  ·cases h
 ·cases h
theorem AQX:pwT eI (WG (xu [(64,.sq),(67,.mul),(155,.sqn)]) C2 JB JC [none,some (fb [.v 0])])=true:=by kernel_rfl
theorem qx{T:Tb}(h:lk 131 T=some (.one Gx)):KF.Ok T 131 (.pw eI):=λv a x ha=>by
 have hp:=AQ8 (.cons (Zd rfl) (.cons (KH rfl) (.cons (AEg rfl) .nil))) AQX (v:=v) ha;refine⟨C8 h hp.1,?_⟩;rw[Bf h];show Gl _ (BF 5 (JB.raw JC 0 [v,a]));rw[Ay hp.2.1.1];exact hp.2
theorem ARV:pwT eP (WG (xu [(64,.sq),(67,.mul),(155,.sqn)]) C2 IZ IM [none,some (fb [.v 0])])=true:=by kernel_rfl
theorem AMi{T:Tb}(h:lk 108 T=some (.one IP)):KF.Ok T 108 (.pw eP):=λv a x ha=>by
 have hp:=AQ8 (.cons (Zd rfl) (.cons (KH rfl) (.cons (AEg rfl) .nil))) ARV (v:=v) ha;refine⟨C8 h hp.1,?_⟩;rw[Bf h];show Gl _ (BF 5 (IZ.raw IM 0 [v,a]));rw[Ay hp.2.1.1];exact hp.2
def dL:List Int:=[929955233495203,466365720129213,1662059464998953,2033849074728123,1442794654840575]
def d2L:List Int:=[1859910466990425,932731440258426,1072319116312658,1815898335770999,633789495995903]
def d2Z:Int:=Oe d2L
theorem AQt(v:List (List Int)):LK.raw LZ 0 v=dL:=by kernel_rfl
theorem AN8(v:List (List Int)):Ms.raw MS 0 v=d2L:=by kernel_rfl
theorem AAJ(v:List (List Int)):KG.raw Jy 0 v= [1,0,0,0,0]:=by kernel_rfl
theorem ASC{T:Tb}(h:lk 68 T=some (.one JJ)):KF.Ok T 68 (.k (Oe dL)):=λv=>by
 refine⟨C8 h trivial,?_⟩;rw[Bf h];show Gl _ (BF 5 (LK.raw LZ 0 v));rw[AQt];exact⟨QB rfl,rfl⟩
theorem AKQ{T:Tb}(h:lk 153 T=some (.one Jm)):KF.Ok T 153 (.k d2Z):=λv=>by
 refine⟨C8 h trivial,?_⟩;rw[Bf h];show Gl _ (BF 5 (Ms.raw MS 0 v));rw[AN8];exact⟨QB rfl,rfl⟩
theorem oh{T:Tb}(h:lk 66 T=some (.one KM)):KF.Ok T 66 (.k 1):=λv=>by
 refine⟨C8 h trivial,?_⟩;rw[Bf h];show Gl _ (BF 5 (KG.raw Jy 0 v));rw[AAJ];exact⟨QB rfl,rfl⟩
theorem AQz:Jn (Oe dL)=dE:=by decide +kernel
theorem AJm:Jn d2Z=dE+dE:=by decide +kernel
end
end Go.Proofs.YtkbfdaoohhmgoaaGreatDoor
