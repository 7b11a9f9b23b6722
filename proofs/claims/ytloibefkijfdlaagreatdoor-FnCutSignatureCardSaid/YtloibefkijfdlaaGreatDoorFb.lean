/- Repeated squares. -/
import Derived.Test.YtloibefkijfdlaaGreatDoorBc
import Derived.Test.YtloibefkijfdlaaGreatDoorFe2
namespace Go.Proofs.YtloibefkijfdlaaGreatDoor
section
open Go Ma
def b1(lo hi:Int):List (Int×Int):=[(lo,hi)]
def bSq:List (List (Int×Int)):=[b1 0 fB,b1 0 fB,b1 0 fB,b1 0 fB,b1 0 fB,b1 0 100000,b1 0 99999]
def ASD:List (List (Int×Int)):=[b1 0 fB,b1 0 fB,b1 0 fB,b1 0 fB,b1 0 fB,b1 0 100000,b1 0 100000]
def vz(j:Nat):GU:=JV (enc j 0 0)
def AEK:GU:=Ro [vz 0,vz 1,vz 2,vz 3,vz 4]
def Ss(a:AV)(p:GU):Bool:=OC 0 (Di a.p (Cr (-1) p))
theorem Ug{ρ:Br}{x:Int}{a:AV}{p:GU}(h:a.ok ρ x)(hp:Ss a p=true):x=FU ρ p:=by
 obtain⟨k,hk⟩:=VB ρ hp;rw[Cg,CZ, <- h.1] at hk;simp only[Int.natCast_zero,zcv] at hk;omega
theorem OU(ρ:Br){j:Nat}{l:List Int}(h:ρ j=l):FU ρ (vz j)=l.getD 0 0:=by
 unfold vz;rw[Gi,αv_enc0 ρ (by omega),h]
def sqT(R:Option LpR):Bool:=match R with
 |some R=>AEl R true 6 5&&R.b&&(match R.av with
  | [[a],[b],[c],[d],[e],[n],[i]]=>[a,b,c,d,e].all avG&&OC Mh (Di (Ro ([a,b,c,d,e].map (·.p))) (Cr (-1) (Tn [] AEK AEK)))&&Ss i (Di (vz 6) (X8 1))&&Ss n (vz 5)
  |_=>false)
 |none=>false
def sqE(R:Option LpR):Bool:=match R with
 |some R=>AEl R false 6 5 && !R.b&&(match R.av with
  | [[a],[b],[c],[d],[e],_,_]=>Ss a (vz 0)&&Ss b (vz 1)&&Ss c (vz 2)&&Ss d (vz 3)&&Ss e (vz 4)
  |_=>false)
 |none=>false
theorem AOX:sqT (AEi Aw BA Mfe bSq [true])=true:=by kernel_rfl
theorem AQU:sqE (AEi Aw BA Mfe ASD [false])=true:=by kernel_rfl
theorem AGY(v:List Int)(a b c d e n:Int):Dy.raw BZ 0 [v,[a,b,c,d,e],[n]]=(List.range 5).map λk=>d1 ((Aw.val BA [[a],[b],[c],[d],[e],[n],[0]]).getD k []):=by kernel_rfl
theorem AJo:((Zk (Dy.tree BZ)).map λp=>p.2.1)=some [.pre (1000000+211) [.xs [.v 1 0],.xs [.v 1 1],.xs [.v 1 2],.xs [.v 1 3],.xs [.v 1 4],.xs [.v 2 0],.xs [.lit 0]]]:=by kernel_rfl
theorem AI3:LU 3 (Dy.tree BZ)=true:=by kernel_rfl
def yu(a b c d e n i:Int):List (List Int):=[[a],[b],[c],[d],[e],[n],[i]]
theorem OZ{ρ:Br}{l:List Int}{a:AV}(h:Za ρ l [a]):∃x,l= [x]/\a.ok ρ x:=by
 obtain⟨h1,h2⟩:=h
 match l,h1 with
 | [x],_=>exact⟨x,rfl,h2 0 x a rfl rfl⟩
theorem AHv{α:Type}{l:List α}(h:l.length=7):∃a b c d e f g,l= [a,b,c,d,e,f,g]:=by
 match l,h with
 | [a,b,c,d,e,f,g],_=>exact⟨a,b,c,d,e,f,g,rfl⟩
theorem QR{ζ:List (List (Int×Int))}{ins:List (List Int)}{x lo hi:Int}(h:lo<=x/\x<=hi)(hb:Mv ζ ins):Mv (b1 lo hi::ζ) ([x]::ins):=
 Vj _ _ ⟨by show 1<=4096;decide,λk p hk=>by
  cases k with
  |zero=>
   simp only[b1,Ul,Ai] at hk;subst hk;exact h
  |succ k=>simp[b1] at hk⟩ hb
theorem ABg{a b c d e n i:Int}(h:Is [a,b,c,d,e])(hi:0<=i)(cf:i<n)(hn:n<=100000):
  EY BA.T (Aw.tree BA) (Ce (yu a b c d e n i))/\∃a' b' c' d' e',Aw.step BA (yu a b c d e n i)=some (true,yu a' b' c' d' e' n (i+1))/\Ho (Lh (NG [a,b,c,d,e])*Lh (NG [a,b,c,d,e])) [a',b',c',d',e']:=by
 have ht:=AOX;unfold sqT at ht;split at ht
 ·rename_i R hR;simp only[Bl] at ht;obtain⟨⟨h1,h2⟩,h3⟩:=ht;have h0:=h.2 0 (by omega);have oY:=h.2 1 (by omega);have CM:=h.2 2 (by omega);have xo:=h.2 3 (by omega);have DG:=h.2 4 (by omega);obtain⟨ρ,g1,g2,g3⟩:=vI (dF rfl rfl) hR (ins:=yu a b c d e n i) (QR h0 (QR oY (QR CM (QR xo (QR DG (QR (by omega) (QR (by omega) (IL _))))))));have e0:ρ 0= [a]:=g1 0 (by decide);have e1:ρ 1= [b]:=g1 1 (by decide);have e2:ρ 2= [c]:=g1 2 (by decide);have e3:ρ 3= [d]:=g1 3 (by decide);have e4:ρ 4= [e]:=g1 4 (by decide);have e5:ρ 5= [n]:=g1 5 (by decide);have e6:ρ 6= [i]:=g1 6 (by decide);obtain⟨k1,r,k2,k3,k4⟩:=g3 (vL h1 g2 (by rw[e5,e6];exact(decide_eq_true cf).symm));refine⟨k1,?_⟩;split at h3
  ·rename_i A B C D E N I hav;simp only[Bl] at h3;obtain⟨⟨⟨p1,p2⟩,p3⟩,p4⟩:=h3;rw[hav] at k3 k4;obtain⟨ra,rb,rc,rd,re,rn,ri,rfl⟩:=AHv k3;obtain⟨a',rfl,qa⟩:=OZ (k4 0 _ rfl);obtain⟨b',rfl,qb⟩:=OZ (k4 1 _ rfl);obtain⟨c',rfl,qc⟩:=OZ (k4 2 _ rfl);obtain⟨d',rfl,qd⟩:=OZ (k4 3 _ rfl);obtain⟨e',rfl,qe⟩:=OZ (k4 4 _ rfl);obtain⟨n',rfl,qn⟩:=OZ (k4 5 _ rfl);obtain⟨i',rfl,qi⟩:=OZ (k4 6 _ rfl);have en:=Ug qn p4;have ei:=Ug qi p3;rw[OU ρ e5] at en;rw[Cg,OU ρ e6,P8] at ei;simp only[Ru] at en ei;subst en;subst ei;rw[h2] at k2;have hA:Za ρ [a',b',c',d',e'] [A,B,C,D,E]:=⟨rfl,λj x y hx hy=>by
    match j,hx,hy with
    |0,hx,hy=>cases hx;cases hy;exact qa
    |1,hx,hy=>cases hx;cases hy;exact qb
    |2,hx,hy=>cases hx;cases hy;exact qc
    |3,hx,hy=>cases hx;cases hy;exact qd
    |4,hx,hy=>cases hx;cases hy;exact qe⟩
   refine⟨a',b',c',d',e',k2,ru hA rfl p1,?_⟩;have hd:=VB ρ p2;rw[Cg,CZ,ik hA rfl] at hd;have eC:FU ρ AEK=NG [a,b,c,d,e]:=by
    simp only[AEK,Ro,Cg,CZ,OU ρ e0,OU ρ e1,OU ρ e2,OU ρ e3,OU ρ e4];unfold NG;simp only[Ru,X7];omega
   rw[TS,eC] at hd;rw[<- dw];refine AAo.2 ?_;have e:NG [a',b',c',d',e']-NG [a,b,c,d,e]*NG [a,b,c,d,e]=NG [a',b',c',d',e'] + -1*(NG [a,b,c,d,e]*NG [a,b,c,d,e]):=by omega
   rw[e];exact hd
  ·cases h3
 ·cases ht
theorem AMJ{a b c d e n i:Int}(h:Is [a,b,c,d,e])(hi:0<=i)(oR:n<=i)(hn:0<=n)(PA:i<=100000):
  EY BA.T (Aw.tree BA) (Ce (yu a b c d e n i))/\∃r,Aw.step BA (yu a b c d e n i)=some (false,r)/\(List.range 5).map (λk=>d1 (r.getD k []))= [a,b,c,d,e]:=by
 have ht:=AQU;unfold sqE at ht;split at ht
 ·rename_i R hR;simp only[Bl,Bool.not_eq_true'] at ht;obtain⟨⟨h1,h2⟩,h3⟩:=ht;have h0:=h.2 0 (by omega);have oY:=h.2 1 (by omega);have CM:=h.2 2 (by omega);have xo:=h.2 3 (by omega);have DG:=h.2 4 (by omega);obtain⟨ρ,g1,g2,g3⟩:=vI (dF rfl rfl) hR (ins:=yu a b c d e n i) (QR h0 (QR oY (QR CM (QR xo (QR DG (QR (by omega) (QR (by omega) (IL _))))))));have e0:ρ 0= [a]:=g1 0 (by decide);have e1:ρ 1= [b]:=g1 1 (by decide);have e2:ρ 2= [c]:=g1 2 (by decide);have e3:ρ 3= [d]:=g1 3 (by decide);have e4:ρ 4= [e]:=g1 4 (by decide);have e5:ρ 5= [n]:=g1 5 (by decide);have e6:ρ 6= [i]:=g1 6 (by decide);obtain⟨k1,r,k2,k3,k4⟩:=g3 (vL h1 g2 (by rw[e5,e6];exact(decide_eq_false (Int.not_lt.2 oR)).symm));refine⟨k1,?_⟩;split at h3
  ·rename_i A B C D E N I hav;simp only[Bl] at h3;obtain⟨⟨⟨⟨p0,p1⟩,p2⟩,p3⟩,p4⟩:=h3;rw[hav] at k3 k4;obtain⟨ra,rb,rc,rd,re,rn,ri,rfl⟩:=AHv k3;obtain⟨a',rfl,qa⟩:=OZ (k4 0 _ rfl);obtain⟨b',rfl,qb⟩:=OZ (k4 1 _ rfl);obtain⟨c',rfl,qc⟩:=OZ (k4 2 _ rfl);obtain⟨d',rfl,qd⟩:=OZ (k4 3 _ rfl);obtain⟨e',rfl,qe⟩:=OZ (k4 4 _ rfl);have x0:=Ug qa p0;have x1:=Ug qb p1;have x2:=Ug qc p2;have x3:=Ug qd p3;have x4:=Ug qe p4;rw[OU ρ e0] at x0;rw[OU ρ e1] at x1;rw[OU ρ e2] at x2;rw[OU ρ e3] at x3;rw[OU ρ e4] at x4;simp only[Ru] at x0 x1 x2 x3 x4;subst x0;subst x1;subst x2;subst x3;subst x4;rw[h2] at k2;exact⟨_,k2,rfl⟩
  ·cases h3
 ·cases ht
theorem AG1(x:Fp):ND x 2=x*x:=by rw[Lr,RS]
theorem uI:∀(m:Nat) {a b c d e n i:Int} {x:Fp},Ho x [a,b,c,d,e]->0<=i->i+m=n->n<=100000->
  jJ (Aw.step BA) (λins=>EY BA.T (Aw.tree BA) (Ce ins)) (m+1) (yu a b c d e n i)/\
   Ho (ND x (2^m)) ((List.range 5).map λk=>d1 ((K6 (Aw.step BA) (m+1) (yu a b c d e n i)).getD k []))
 |0,a,b,c,d,e,n,i,x,h,hi,hm,hn=>by
  obtain⟨h1,r,h2,h3⟩:=AMJ h.1 hi (n:=n) (by omega) (by omega) (by omega);unfold jJ K6;rw[h2];refine⟨⟨h1,trivial⟩,?_⟩;simp only;rw[h3,show 2^0=1 from rfl,RS];exact h
 |m+1,a,b,c,d,e,n,i,x,h,hi,hm,hn=>by
  obtain⟨h1,a',b',c',d',e',h2,h3⟩:=ABg h.1 hi (n:=n) (by omega) hn;have ih:=uI m (n:=n) (i:=i+1) h3 (by omega) (by omega) hn;unfold jJ K6;rw[h2];refine⟨⟨h1,ih.1⟩,?_⟩;simp only;have e2:ND x (2^(m+1))=ND (x*x) (2^m):=by rw[ql,vg, <- VW,AG1]
  rw[e2, <- h.2];exact ih.2
theorem AMP:lk (1000000+211) BZ.T=some (.one (Aw.sum BA (Aw.pre BA))):=by kernel_rfl
theorem AC8{T:Tb}(h:lk 211 T=some (.one Ki)):KF.Ok T 211 .sqn:=λv a x n hn ha=>by
 obtain⟨a0,a1,a2,a3,a4,rfl,_⟩:=g5 ha.1;have hl:=uI n (n:=(n:Int)) (i:=0) ha (by omega) (by omega) (by omega);have hf:Aw.fuel (yu a0 a1 a2 a3 a4 n 0)=n+1:=by
  show((n:Int)-0).toNat+1=n+1;omega
 refine⟨Cf h ?_,?_⟩
 ·show EY BZ.T (Dy.tree BZ) (Ce [v,[a0,a1,a2,a3,a4],[(n:Int)]]);have qu:=AJo
  match Of:Zk (Dy.tree BZ),qu with
  | some (ds,ob,e,st),qu=>
   simp only[UA,Ai] at qu;subst qu;obtain⟨k1,k2,k3,k4,k5⟩:=OY (T:=BZ.T) (ρ:=Ce [v,[a0,a1,a2,a3,a4],[(n:Int)]]) AI3 Of;refine k5 λq hq=>?_
   rw[NB] at hq;subst hq;have e1:Dl BZ.T (Ce [v,[a0,a1,a2,a3,a4],[(n:Int)]]) ds 1= [a0,a1,a2,a3,a4]:=k1 1 (by omega);have e2:Dl BZ.T (Ce [v,[a0,a1,a2,a3,a4],[(n:Int)]]) ds 2= [(n:Int)]:=k1 2 (by omega);have ea: [IZ.xs [.v 1 0],.xs [.v 1 1],.xs [.v 1 2],.xs [.v 1 3],.xs [.v 1 4],.xs [.v 2 0],.xs [.lit 0]].map (·.den (Dl BZ.T (Ce [v,[a0,a1,a2,a3,a4],[(n:Int)]]) ds))=yu a0 a1 a2 a3 a4 n 0:=by
    simp only[NE,Uf,IZ.den,X.den,e1,e2];rfl
   exact Xn AMP ea (JJ.vf (JJ.Ax hf hl.1))
 ·rw[BQ h];show Ho _ (BK 5 (Dy.raw BZ 0 [v,_,_]));rw[AGY];have h2:=hl.2;rw[<- JJ.Z3 hf] at h2;have e:yu a0 a1 a2 a3 a4 n 0= [[a0],[a1],[a2],[a3],[a4],[(n:Int)],[0]]:=rfl;rw[e] at h2;rw[Bn h2.1.1];exact h2
end
section
open Go Ma
def FX.exp:FX->Option Nat
 | .v 0=>some 1
 | .mul x y=>(match x.exp,y.exp with
  |some m,some n=>some (m+n)
  |_,_=>none)
 | .pw x n=>(match x.exp with
  |some m=>some (m*n)
  |none=>none)
 |_=>none
theorem FX.uv{ρ:FV}:∀ {e:FX} {m:Nat},e.exp=some m->e.wc=false/\e.ev ρ=ND (ρ.v 0) m
 | .v 0,m,h=>by simp only[FX.exp,Ai] at h;subst h;exact⟨rfl,(RS _).symm⟩
 | .v (n+1),m,h=>by cases h
 | .mul x y,m,h=>by
  unfold FX.exp at h;split at h
  ·rename_i a b h1 h2;simp only[Ai] at h;subst h;refine⟨rfl,?_⟩;show x.ev ρ*y.ev ρ=_;rw[(FX.uv h1).2,(FX.uv h2).2,NW]
  ·cases h
 | .pw x n,m,h=>by
  unfold FX.exp at h;split at h
  ·rename_i a h1;simp only[Ai] at h;subst h;refine⟨rfl,?_⟩;show ND (x.ev ρ) n=_;rw[(FX.uv h1).2,VW]
  ·cases h
 | .k _,_,h=>by cases h
 | .add _ _,_,h=>by cases h
 | .sub _ _,_,h=>by cases h
 | .b _,_,h=>by cases h
 | .ite _ _ _,_,h=>by cases h
 | .t _,_,h=>by cases h
 | .eq _ _,_,h=>by cases h
 | .or _ _,_,h=>by cases h
 | .Sf _,_,h=>by cases h
 | .not _,_,h=>by cases h
def pwT(n:Nat)(r:Option (List (List (Bk FX)))):Bool:=match r with
 |some [[.a 5 e]]=>(match e.exp with
  |some m=>Nat.beq m n
  |none=>false)
 |_=>false
theorem ANu{M:List (Nat×KF)}{i:Ad}{C:Cx}{n:Nat}(hM:MF C.T M)(h:pwT n (Nu (nP M) X3 i C [none,some (fb [.v 0])])=true){v a:List Int}{x:Fp}(ha:Ho x a):
  EY C.T (i.tree C) (Ce [v,a])/\Ho (ND x n) (i.raw C 0 [v,a]):=by
 unfold pwT at h;split at h
 ·rename_i e hr;split at h
  ·rename_i m hm;have:=CR h;subst this;have hx:=FX.uv (ρ:=⟨λ_=>x,λ_=>false⟩) hm;obtain⟨h1,u,w,g1,g2,g3⟩:=Tt (es:=[e]) hM hr (by simp only[noB,List.all_cons,hx.1];rfl) ⟨λ_=>x,λ_=>false⟩ (ins:=[v,a]) (.no (.yes (Kl.bl rfl ⟨a,[],by simp,ha,rfl⟩) .nil));have hw:w= []:=g3;rw[hw,Rw] at g1;subst g1;have W5:Ho (e.ev ⟨λ_=>x,λ_=>false⟩) (i.raw C 0 [v,a]):=g2;rw[hx.2] at W5;exact⟨h1,W5⟩
  ·cases h
 ·cases h
theorem AO3:pwT eI (Nu (nP [(112,.sq),(115,.mul),(211,.sqn)]) X3 J4 Jw [none,some (fb [.v 0])])=true:=by kernel_rfl
theorem oO{T:Tb}(h:lk 180 T=some (.one IP)):KF.Ok T 180 (.pw eI):=λv a x ha=>by
 have hp:=ANu (.cons (XC rfl) (.cons (KO rfl) (.cons (AC8 rfl) .nil))) AO3 (v:=v) ha;refine⟨Cf h hp.1,?_⟩;rw[BQ h];show Ho _ (BK 5 (J4.raw Jw 0 [v,a]));rw[Bn hp.2.1.1];exact hp.2
theorem APo:pwT eP (Nu (nP [(112,.sq),(115,.mul),(211,.sqn)]) X3 JF JM [none,some (fb [.v 0])])=true:=by kernel_rfl
theorem AL1{T:Tb}(h:lk 160 T=some (.one JH)):KF.Ok T 160 (.pw eP):=λv a x ha=>by
 have hp:=ANu (.cons (XC rfl) (.cons (KO rfl) (.cons (AC8 rfl) .nil))) APo (v:=v) ha;refine⟨Cf h hp.1,?_⟩;rw[BQ h];show Ho _ (BK 5 (JF.raw JM 0 [v,a]));rw[Bn hp.2.1.1];exact hp.2
def dL:List Int:=[929955233495203,466365720129213,1662059464998953,2033849074728123,1442794654840575]
def d2L:List Int:=[1859910466990425,932731440258426,1072319116312658,1815898335770999,633789495995903]
def d2Z:Int:=NG d2L
theorem AOk(v:List (List Int)):Mc.raw MS 0 v=dL:=by kernel_rfl
theorem AMb(v:List (List Int)):NT.raw NS 0 v=d2L:=by kernel_rfl
theorem xm(v:List (List Int)):Ky.raw Kn 0 v= [1,0,0,0,0]:=by kernel_rfl
theorem AI8{T:Tb}(h:lk 116 T=some (.one Ie)):KF.Ok T 116 (.k (NG dL)):=λv=>by
 refine⟨Cf h trivial,?_⟩;rw[BQ h];show Ho _ (BK 5 (Mc.raw MS 0 v));rw[AOk];exact⟨Ow rfl,rfl⟩
theorem AHU{T:Tb}(h:lk 209 T=some (.one Kb)):KF.Ok T 209 (.k d2Z):=λv=>by
 refine⟨Cf h trivial,?_⟩;rw[BQ h];show Ho _ (BK 5 (NT.raw NS 0 v));rw[AMb];exact⟨Ow rfl,rfl⟩
theorem Yq{T:Tb}(h:lk 114 T=some (.one I4)):KF.Ok T 114 (.k 1):=λv=>by
 refine⟨Cf h trivial,?_⟩;rw[BQ h];show Ho _ (BK 5 (Ky.raw Kn 0 v));rw[xm];exact⟨Ow rfl,rfl⟩
theorem APN:Lh (NG dL)=dE:=by decide +kernel
theorem AIQ:Lh d2Z=dE+dE:=by decide +kernel
end
end Go.Proofs.YtloibefkijfdlaaGreatDoor
