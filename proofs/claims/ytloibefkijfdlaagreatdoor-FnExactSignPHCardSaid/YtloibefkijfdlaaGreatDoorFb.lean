/- Repeated squares. -/
import Derived.Test.YtloibefkijfdlaaGreatDoorBc
import Derived.Test.YtloibefkijfdlaaGreatDoorFe2
namespace Go.Proofs.YtloibefkijfdlaaGreatDoor
section
open Go Ma
def b1(lo hi:Int):List (Int×Int):=[(lo,hi)]
def bSq:List (List (Int×Int)):=[b1 0 fB,b1 0 fB,b1 0 fB,b1 0 fB,b1 0 fB,b1 0 100000,b1 0 99999]
def AUq:List (List (Int×Int)):=[b1 0 fB,b1 0 fB,b1 0 fB,b1 0 fB,b1 0 fB,b1 0 100000,b1 0 100000]
def xm(j:Nat):Gd:=Jq (enc j 0 0)
def AJO:Gd:=TI [xm 0,xm 1,xm 2,xm 3,xm 4]
def pIs(a:AV)(p:Gd):Bool:=PQ 0 (De a.p (Cq (-1) p))
theorem Vz{ρ:Bl}{x:Int}{a:AV}{p:Gd}(h:a.ok ρ x)(hp:pIs a p=true):x=F8 ρ p:=by
 obtain⟨k,hk⟩:=Wt ρ hp;rw[Cc,CW, ← h.1] at hk;simp only[Int.natCast_zero,zcr] at hk;omega
theorem Pq(ρ:Bl){j:Nat}{l:List Int}(h:ρ j=l):F8 ρ (xm j)=l.getD 0 0:=by
 unfold xm;rw[Gu,αv_enc0 ρ (by omega),h]
def sqT(R:Option LpR):Bool:=match R with
 |some R=>AJh R true 6 5&&R.b&&(match R.av with
  | [[a],[b],[c],[d],[e],[n],[i]]=>[a,b,c,d,e].all avG&&PQ MN (De (TI ([a,b,c,d,e].map (·.p))) (Cq (-1) (VQ [] AJO AJO)))&&pIs i (De (xm 6) (bJ 1))&&pIs n (xm 5)
  |_=>false)
 |none=>false
def sqE(R:Option LpR):Bool:=match R with
 |some R=>AJh R false 6 5 && !R.b&&(match R.av with
  | [[a],[b],[c],[d],[e],_,_]=>pIs a (xm 0)&&pIs b (xm 1)&&pIs c (xm 2)&&pIs d (xm 3)&&pIs e (xm 4)
  |_=>false)
 |none=>false
theorem ASw:sqT (AJw Ay BD Mfe bSq [true])=true:=by kernel_rfl
theorem ATu:sqE (AJw Ay BD Mfe AUq [false])=true:=by kernel_rfl
theorem AJr(v:List Int)(a b c d e n:Int):Dz.raw Bb 0 [v,[a,b,c,d,e],[n]]=(List.range 5).map fun k=>d1 ((Ay.val BD [[a],[b],[c],[d],[e],[n],[0]]).getD k []):=by kernel_rfl
theorem AO1:((gQ (Dz.tree Bb)).map fun p=>p.2.1)=some [.pre (1000000+211) [.xs [.v 1 0],.xs [.v 1 1],.xs [.v 1 2],.xs [.v 1 3],.xs [.v 1 4],.xs [.v 2 0],.xs [.lit 0]]]:=by kernel_rfl
theorem AO6:Lp 3 (Dz.tree Bb)=true:=by kernel_rfl
def sqI(a b c d e n i:Int):List (List Int):=[[a],[b],[c],[d],[e],[n],[i]]
theorem Pn{ρ:Bl}{l:List Int}{a:AV}(h:fJ ρ l [a]):∃ x,l= [x]∧a.ok ρ x:=by
 obtain⟨h1,h2⟩:=h
 match l,h1 with
 | [x],_=>exact⟨x,rfl,h2 0 x a rfl rfl⟩
theorem AKx{α:Type}{l:List α}(h:l.length=7):∃ a b c d e f g,l= [a,b,c,d,e,f,g]:=by
 match l,h with
 | [a,b,c,d,e,f,g],_=>exact⟨a,b,c,d,e,f,g,rfl⟩
theorem Qw{ζ:List (List (Int×Int))}{ins:List (List Int)}{x lo hi:Int}(h:lo≤x∧x≤hi)(hb:NR ζ ins):NR (b1 lo hi::ζ) ([x]::ins):=
 WR _ _ ⟨by show 1≤4096;decide,fun k p hk=>by
  cases k with
  |zero=>
   simp only[b1,VT,Am] at hk;subst hk;exact h
  |succ k=>simp[b1] at hk⟩ hb
theorem AB5{a b c d e n i:Int}(h:feG [a,b,c,d,e])(hi:0≤i)(hlt:i<n)(hn:n≤100000):
  Cn BD.T (Ay.tree BD) (A8 (sqI a b c d e n i))∧∃ a' b' c' d' e',Ay.step BD (sqI a b c d e n i)=some (true,sqI a' b' c' d' e' n (i+1))∧Js (Ki (Nk [a,b,c,d,e])*Ki (Nk [a,b,c,d,e])) [a',b',c',d',e']:=by
 have ht:=ASw;unfold sqT at ht
 split at ht
 ·rename_i R hR
  simp only[Bd] at ht;obtain⟨⟨h1,h2⟩,h3⟩:=ht;have h0:=h.2 0 (by omega);have h1':=h.2 1 (by omega);have h2':=h.2 2 (by omega);have h3':=h.2 3 (by omega);have h4':=h.2 4 (by omega);obtain⟨ρ,g1,g2,g3⟩:=AAW (lI rfl rfl) hR (ins:=sqI a b c d e n i) (Qw h0 (Qw h1' (Qw h2' (Qw h3' (Qw h4' (Qw (by omega) (Qw (by omega) (Ie _))))))));have e0:ρ 0= [a]:=g1 0 (by decide);have e1:ρ 1= [b]:=g1 1 (by decide);have e2:ρ 2= [c]:=g1 2 (by decide);have e3:ρ 3= [d]:=g1 3 (by decide);have e4:ρ 4= [e]:=g1 4 (by decide);have e5:ρ 5= [n]:=g1 5 (by decide);have e6:ρ 6= [i]:=g1 6 (by decide);obtain⟨k1,r,k2,k3,k4⟩:=g3 (xn h1 g2 (by rw[e5,e6];exact (decide_eq_true hlt).symm));refine⟨k1,?_⟩
  split at h3
  ·rename_i A B C D E N I hav
   simp only[Bd] at h3;obtain⟨⟨⟨p1,p2⟩,p3⟩,p4⟩:=h3;rw[hav] at k3 k4;obtain⟨ra,rb,rc,rd,re,rn,ri,rfl⟩:=AKx k3;obtain⟨a',rfl,qa⟩:=Pn (k4 0 _ rfl);obtain⟨b',rfl,qb⟩:=Pn (k4 1 _ rfl);obtain⟨c',rfl,qc⟩:=Pn (k4 2 _ rfl);obtain⟨d',rfl,qd⟩:=Pn (k4 3 _ rfl);obtain⟨e',rfl,qe⟩:=Pn (k4 4 _ rfl);obtain⟨n',rfl,qn⟩:=Pn (k4 5 _ rfl);obtain⟨i',rfl,qi⟩:=Pn (k4 6 _ rfl);have en:=Vz qn p4;have ei:=Vz qi p3;rw[Pq ρ e5] at en;rw[Cc,Pq ρ e6,RP] at ei;simp only[Qu] at en ei;subst en;subst ei;rw[h2] at k2;have hA:fJ ρ [a',b',c',d',e'] [A,B,C,D,E]:=⟨rfl,fun j x y hx hy=>by
    match j,hx,hy with
    |0,hx,hy=>cases hx;cases hy;exact qa
    |1,hx,hy=>cases hx;cases hy;exact qb
    |2,hx,hy=>cases hx;cases hy;exact qc
    |3,hx,hy=>cases hx;cases hy;exact qd
    |4,hx,hy=>cases hx;cases hy;exact qe⟩
   refine⟨a',b',c',d',e',k2,AAB hA rfl p1,?_⟩;have hd:=Wt ρ p2;rw[Cc,CW,rJ hA rfl] at hd;have hin:F8 ρ AJO=Nk [a,b,c,d,e]:=by
    simp only[AJO,TI,Cc,CW,Pq ρ e0,Pq ρ e1,Pq ρ e2,Pq ρ e3,Pq ρ e4];unfold Nk;simp only[Qu,Ze];omega
   rw[U9,hin] at hd;rw[← ZR];refine AD7.2 ?_;have e:Nk [a',b',c',d',e']-Nk [a,b,c,d,e]*Nk [a,b,c,d,e]=Nk [a',b',c',d',e'] + -1*(Nk [a,b,c,d,e]*Nk [a,b,c,d,e]):=by omega
   rw[e];exact hd
  ·cases h3
 ·cases ht
theorem AOC{a b c d e n i:Int}(h:feG [a,b,c,d,e])(hi:0≤i)(hge:n≤i)(hn:0≤n)(hi2:i≤100000):
  Cn BD.T (Ay.tree BD) (A8 (sqI a b c d e n i))∧∃ r,Ay.step BD (sqI a b c d e n i)=some (false,r)∧(List.range 5).map (fun k=>d1 (r.getD k []))= [a,b,c,d,e]:=by
 have ht:=ATu;unfold sqE at ht
 split at ht
 ·rename_i R hR
  simp only[Bd,Bool.not_eq_true'] at ht;obtain⟨⟨h1,h2⟩,h3⟩:=ht;have h0:=h.2 0 (by omega);have h1':=h.2 1 (by omega);have h2':=h.2 2 (by omega);have h3':=h.2 3 (by omega);have h4':=h.2 4 (by omega);obtain⟨ρ,g1,g2,g3⟩:=AAW (lI rfl rfl) hR (ins:=sqI a b c d e n i) (Qw h0 (Qw h1' (Qw h2' (Qw h3' (Qw h4' (Qw (by omega) (Qw (by omega) (Ie _))))))));have e0:ρ 0= [a]:=g1 0 (by decide);have e1:ρ 1= [b]:=g1 1 (by decide);have e2:ρ 2= [c]:=g1 2 (by decide);have e3:ρ 3= [d]:=g1 3 (by decide);have e4:ρ 4= [e]:=g1 4 (by decide);have e5:ρ 5= [n]:=g1 5 (by decide);have e6:ρ 6= [i]:=g1 6 (by decide);obtain⟨k1,r,k2,k3,k4⟩:=g3 (xn h1 g2 (by rw[e5,e6];exact (decide_eq_false (Int.not_lt.2 hge)).symm));refine⟨k1,?_⟩
  split at h3
  ·rename_i A B C D E N I hav
   simp only[Bd] at h3;obtain⟨⟨⟨⟨p0,p1⟩,p2⟩,p3⟩,p4⟩:=h3;rw[hav] at k3 k4;obtain⟨ra,rb,rc,rd,re,rn,ri,rfl⟩:=AKx k3;obtain⟨a',rfl,qa⟩:=Pn (k4 0 _ rfl);obtain⟨b',rfl,qb⟩:=Pn (k4 1 _ rfl);obtain⟨c',rfl,qc⟩:=Pn (k4 2 _ rfl);obtain⟨d',rfl,qd⟩:=Pn (k4 3 _ rfl);obtain⟨e',rfl,qe⟩:=Pn (k4 4 _ rfl);have x0:=Vz qa p0;have x1:=Vz qb p1;have x2:=Vz qc p2;have x3:=Vz qd p3;have x4:=Vz qe p4;rw[Pq ρ e0] at x0;rw[Pq ρ e1] at x1;rw[Pq ρ e2] at x2;rw[Pq ρ e3] at x3;rw[Pq ρ e4] at x4;simp only[Qu] at x0 x1 x2 x3 x4;subst x0;subst x1;subst x2;subst x3;subst x4;rw[h2] at k2;exact⟨_,k2,rfl⟩
  ·cases h3
 ·cases ht
theorem AHL(x:Fp):Kl x 2=x*x:=by rw[JS,QD]
theorem AAg:∀ (m:Nat) {a b c d e n i:Int} {x:Fp},Js x [a,b,c,d,e]→0≤i→i+m=n→n≤100000→
  Rj (Ay.step BD) (fun ins=>Cn BD.T (Ay.tree BD) (A8 ins)) (m+1) (sqI a b c d e n i)∧
   Js (Kl x (2^m)) ((List.range 5).map fun k=>d1 ((Gf (Ay.step BD) (m+1) (sqI a b c d e n i)).getD k []))
 |0,a,b,c,d,e,n,i,x,h,hi,hm,hn=>by
  obtain⟨h1,r,h2,h3⟩:=AOC h.1 hi (n:=n) (by omega) (by omega) (by omega);unfold Rj Gf;rw[h2];refine⟨⟨h1,trivial⟩,?_⟩;simp only;rw[h3,show 2^0=1 from rfl,QD];exact h
 |m+1,a,b,c,d,e,n,i,x,h,hi,hm,hn=>by
  obtain⟨h1,a',b',c',d',e',h2,h3⟩:=AB5 h.1 hi (n:=n) (by omega) hn;have ih:=AAg m (n:=n) (i:=i+1) h3 (by omega) (by omega) hn;unfold Rj Gf;rw[h2];refine⟨⟨h1,ih.1⟩,?_⟩;simp only;have e2:Kl x (2^(m+1))=Kl (x*x) (2^m):=by rw[r9,zcp, ← Uq,AHL]
  rw[e2, ← h.2];exact ih.2
theorem ALq:lk (1000000+211) Bb.T=some (.one (Ay.sum BD (Ay.pre BD))):=by kernel_rfl
theorem ACX{T:Tb}(h:lk 211 T=some (.one Kw)):KF.Ok T 211 .sqn:=fun v a x n hn ha=>by
 obtain⟨a0,a1,a2,a3,a4,rfl,_⟩:=g5 ha.1;have hl:=AAg n (n:=(n:Int)) (i:=0) ha (by omega) (by omega) (by omega);have hf:Ay.fuel (sqI a0 a1 a2 a3 a4 n 0)=n+1:=by
  show ((n:Int)-0).toNat+1=n+1;omega
 refine⟨Cw h ?_,?_⟩
 ·show Cn Bb.T (Dz.tree Bb) (A8 [v,[a0,a1,a2,a3,a4],[(n:Int)]]);have hob:=AO1
  match hl2:gQ (Dz.tree Bb),hob with
  | some (ds,ob,e,st),hob=>
   simp only[Xa,Am] at hob;subst hob;obtain⟨k1,k2,k3,k4,k5⟩:=Pp (T:=Bb.T) (ρ:=A8 [v,[a0,a1,a2,a3,a4],[(n:Int)]]) AO6 hl2;refine k5 fun q hq=>?_
   rw[Nc] at hq;subst hq;have e1:Dc Bb.T (A8 [v,[a0,a1,a2,a3,a4],[(n:Int)]]) ds 1= [a0,a1,a2,a3,a4]:=k1 1 (by omega);have e2:Dc Bb.T (A8 [v,[a0,a1,a2,a3,a4],[(n:Int)]]) ds 2= [(n:Int)]:=k1 2 (by omega);have ea: [Iq.xs [.v 1 0],.xs [.v 1 1],.xs [.v 1 2],.xs [.v 1 3],.xs [.v 1 4],.xs [.v 2 0],.xs [.lit 0]].map (·.den (Dc Bb.T (A8 [v,[a0,a1,a2,a3,a4],[(n:Int)]]) ds))=sqI a0 a1 a2 a3 a4 n 0:=by
    simp only[NT,Vi,Iq.den,X.den,e1,e2];rfl
   exact Zp ALq ea (I7.sum_pre (I7.pre_of hf hl.1))
 ·rw[Bg h];show Js _ (Aw 5 (Dz.raw Bb 0 [v,_,_]));rw[AJr];have h2:=hl.2;rw[← I7.val_of hf] at h2;have e:sqI a0 a1 a2 a3 a4 n 0= [[a0],[a1],[a2],[a3],[a4],[(n:Int)],[0]]:=rfl;rw[e] at h2;rw[Au h2.1.1];exact h2
end
section
open Go Ma
def FX.exp:FX→Option Nat
 | .v 0=>some 1
 | .mul x y=>(match x.exp,y.exp with
  |some m,some n=>some (m+n)
  |_,_=>none)
 | .pw x n=>(match x.exp with
  |some m=>some (m*n)
  |none=>none)
 |_=>none
theorem FX.exp_ok{ρ:FV}:∀ {e:FX} {m:Nat},e.exp=some m→e.isB=false∧e.ev ρ=Kl (ρ.v 0) m
 | .v 0,m,h=>by simp only[FX.exp,Am] at h;subst h;exact⟨rfl,(QD _).symm⟩
 | .v (n+1),m,h=>by cases h
 | .mul x y,m,h=>by
  unfold FX.exp at h
  split at h
  ·rename_i a b h1 h2
   simp only[Am] at h;subst h;refine⟨rfl,?_⟩;show x.ev ρ*y.ev ρ=_;rw[(FX.exp_ok h1).2,(FX.exp_ok h2).2,Mr]
  ·cases h
 | .pw x n,m,h=>by
  unfold FX.exp at h
  split at h
  ·rename_i a h1
   simp only[Am] at h;subst h;refine⟨rfl,?_⟩;show Kl (x.ev ρ) n=_;rw[(FX.exp_ok h1).2,Uq]
  ·cases h
 | .k _,_,h=>by cases h
 | .add _ _,_,h=>by cases h
 | .sub _ _,_,h=>by cases h
 | .b _,_,h=>by cases h
 | .ite _ _ _,_,h=>by cases h
 | .t _,_,h=>by cases h
 | .eq _ _,_,h=>by cases h
 | .or _ _,_,h=>by cases h
 | .odd _,_,h=>by cases h
 | .not _,_,h=>by cases h
def pwT(n:Nat)(r:Option (List (List (Bk FX)))):Bool:=match r with
 |some [[.a 5 e]]=>(match e.exp with
  |some m=>Nat.beq m n
  |none=>false)
 |_=>false
theorem ARc{M:List (Nat×KF)}{i:AQ}{C:Cx}{n:Nat}(hM:MF C.T M)(h:pwT n (Ow (vG M) Zg i C [none,some (fb [.v 0])])=true){v a:List Int}{x:Fp}(ha:Js x a):
  Cn C.T (i.tree C) (A8 [v,a])∧Js (Kl x n) (i.raw C 0 [v,a]):=by
 unfold pwT at h
 split at h
 ·rename_i e hr
  split at h
  ·rename_i m hm
   have:=CL h;subst this;have hx:=FX.exp_ok (ρ:=⟨fun _=>x,fun _=>false⟩) hm;obtain⟨h1,u,w,g1,g2,g3⟩:=Xu (es:=[e]) hM hr (by simp only[noB,List.all_cons,hx.1];rfl) ⟨fun _=>x,fun _=>false⟩ (ins:=[v,a]) (.no (.yes (OQ.bl rfl ⟨a,[],by simp,ha,rfl⟩) .nil));have hw:w= []:=g3;rw[hw,TL] at g1;subst g1;have g2':Js (e.ev ⟨fun _=>x,fun _=>false⟩) (i.raw C 0 [v,a]):=g2;rw[hx.2] at g2';exact⟨h1,g2'⟩
  ·cases h
 ·cases h
theorem ASz:pwT eI (Ow (vG [(112,.sq),(115,.mul),(211,.sqn)]) Zg KQ KG [none,some (fb [.v 0])])=true:=by kernel_rfl
theorem sS{T:Tb}(h:lk 180 T=some (.one IY)):KF.Ok T 180 (.pw eI):=fun v a x ha=>by
 have hp:=ARc (.cons (gX rfl) (.cons (OC rfl) (.cons (ACX rfl) .nil))) ASz (v:=v) ha;refine⟨Cw h hp.1,?_⟩;rw[Bg h];show Js _ (Aw 5 (KQ.raw KG 0 [v,a]));rw[Au hp.2.1.1];exact hp.2
theorem ATd:pwT eP (Ow (vG [(112,.sq),(115,.mul),(211,.sqn)]) Zg Jf Jb [none,some (fb [.v 0])])=true:=by kernel_rfl
theorem AOl{T:Tb}(h:lk 160 T=some (.one Je)):KF.Ok T 160 (.pw eP):=fun v a x ha=>by
 have hp:=ARc (.cons (gX rfl) (.cons (OC rfl) (.cons (ACX rfl) .nil))) ATd (v:=v) ha;refine⟨Cw h hp.1,?_⟩;rw[Bg h];show Js _ (Aw 5 (Jf.raw Jb 0 [v,a]));rw[Au hp.2.1.1];exact hp.2
def dL:List Int:=[929955233495203,466365720129213,1662059464998953,2033849074728123,1442794654840575]
def d2L:List Int:=[1859910466990425,932731440258426,1072319116312658,1815898335770999,633789495995903]
def d2Z:Int:=Nk d2L
theorem ASy(v:List (List Int)):Mx.raw NB 0 v=dL:=by kernel_rfl
theorem AOc(v:List (List Int)):Np.raw Ng 0 v=d2L:=by kernel_rfl
theorem ABc(v:List (List Int)):LU.raw LX 0 v= [1,0,0,0,0]:=by kernel_rfl
theorem AR6{T:Tb}(h:lk 116 T=some (.one Iz)):KF.Ok T 116 (.k (Nk dL)):=fun v=>by
 refine⟨Cw h trivial,?_⟩;rw[Bg h];show Js _ (Aw 5 (Mx.raw NB 0 v));rw[ASy];exact⟨P8 rfl,rfl⟩
theorem ALC{T:Tb}(h:lk 209 T=some (.one K4)):KF.Ok T 209 (.k d2Z):=fun v=>by
 refine⟨Cw h trivial,?_⟩;rw[Bg h];show Js _ (Aw 5 (Np.raw Ng 0 v));rw[AOc];exact⟨P8 rfl,rfl⟩
theorem oG{T:Tb}(h:lk 114 T=some (.one JN)):KF.Ok T 114 (.k 1):=fun v=>by
 refine⟨Cw h trivial,?_⟩;rw[Bg h];show Js _ (Aw 5 (LU.raw LX 0 v));rw[ABc];exact⟨P8 rfl,rfl⟩
theorem AUv:Ki (Nk dL)=dE:=by decide +kernel
theorem AKr:Ki d2Z=dE+dE:=by decide +kernel
end
end Go.Proofs.YtloibefkijfdlaaGreatDoor
