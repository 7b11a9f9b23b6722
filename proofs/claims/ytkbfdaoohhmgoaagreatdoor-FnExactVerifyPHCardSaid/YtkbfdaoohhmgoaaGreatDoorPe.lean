/- Scalars modulo the order: what is set from bytes. -/
import Derived.Test.YtkbfdaoohhmgoaaGreatDoorNd
import Derived.Test.YtkbfdaoohhmgoaaGreatDoorSc6
namespace Go.Proofs.YtkbfdaoohhmgoaaGreatDoor
section
open Go
structure Qu (l:List Int) (m:Int):Prop where
 u:uL l
 eq:Oq ∣ m*FN-v4 l
theorem dvL{a b:Int}(h:a ∣ b)(c:Int):a ∣ b*c:=Int.dvd_mul_of_dvd_left h
theorem dvR{a b:Int}(h:a ∣ b)(c:Int):a ∣ c*b:=Int.dvd_mul_of_dvd_right h
def AGA:Int:=4458503529701987551646482192314240623644693141688353256590997718326214331684
theorem AQi:FN*AGA=1+Oq*71336056475231800826343715077027849978041630819377026201054086228062141447707:=by decide +kernel
theorem aO{a:Int}(h:Oq ∣ a*FN):Oq ∣ a:=by
 obtain⟨k,hk⟩:=h;refine⟨k*AGA-a*71336056475231800826343715077027849978041630819377026201054086228062141447707,?_⟩;have h1:a*(FN*AGA)=Oq*k*AGA:=by rw[<- hk,YL]
 rw[AQi,wK,zdc] at h1;rw[Int.mul_sub, <- YL Oq k, <- h1,Int.mul_left_comm a Oq];omega
theorem Qu.uniq{l:List Int}{m n:Int}(h:Qu l m)(g:Qu l n):Oq ∣ m-n:=by
 refine aO ?_;have:=Int.dvd_sub h.eq g.eq;have e:m*FN-v4 l-(n*FN-v4 l)=(m-n)*FN:=by rw[Int.sub_mul];omega
 rwa [e] at this
theorem AM6{v a b:List Int}{m n:Int}(ha:Qu a m)(hb:Qu b n):Qu (Br.raw Bq 0 [v,a,b]) (m*n):=by
 obtain⟨h1,h2⟩:=AG7 (v:=v) ha.u hb.u.u;refine⟨h1,aO ?_⟩;generalize v4 (Br.raw Bq 0 [v,a,b])=r at *
 have e1:=dvL ha.eq (n*FN);have e2:=dvR hb.eq (v4 a);have h3:=Int.dvd_sub (Int.dvd_add e1 e2) h2;have e:(m*FN-v4 a)*(n*FN)+v4 a*(n*FN-v4 b)-(r*FN-v4 a*v4 b)=(m*n*FN-r)*FN:=by
  generalize v4 a=x at *
  generalize v4 b=y at *
  generalize FN=z at *
  rw[Int.sub_mul,Int.mul_sub,Int.sub_mul];rw[show m*z*(n*z)=m*n*z*z by simp only[bf,Int.mul_left_comm]];omega
 rwa [e] at h3
theorem ANA{v a b:List Int}{m n:Int}(ha:Qu a m)(hb:Qu b n):Qu (BP.raw BQ 0 [v,a,b]) (m+n):=by
 obtain⟨h1,h2⟩:=AIe (v:=v) ha.u hb.u;refine⟨h1,?_⟩;have h3:=Int.dvd_sub (Int.dvd_add ha.eq hb.eq) h2;have e:m*FN-v4 a+(n*FN-v4 b)-(v4 (BP.raw BQ 0 [v,a,b])-(v4 a+v4 b))=(m+n)*FN-v4 (BP.raw BQ 0 [v,a,b]):=by
  rw[Bx];omega
 rwa [e] at h3
theorem sO{v a:List Int}(ha:u4 a):Qu (Au.raw Av 0 [v,a]) (v4 a):=by
 obtain⟨h1,h2⟩:=AJB (v:=v) ha;have hr:Oq ∣ FN*FN-HA:=Int.dvd_of_emod_eq_zero (by decide +kernel);refine⟨h1,aO ?_⟩;have h3:=Int.dvd_sub (dvL hr (v4 a)) h2;generalize v4 (Au.raw Av 0 [v,a])=r at *
 have e:(FN*FN-HA)*v4 a-(r*FN-HA*v4 a)=(v4 a*FN-r)*FN:=by
  generalize v4 a=x at *
  generalize FN=z at *
  generalize HA=y at *
  rw[Int.sub_mul,Int.sub_mul];rw[show z*z*x=x*z*z by simp only[bf,Int.mul_left_comm]];omega
 rwa [e] at h3
theorem Qu.len{l:List Int}{m:Int}(h:Qu l m):l.length=4:=h.u.u.1
theorem HD{T:Tb}{f:Nat}{s:Az}{G:List (List Int)->List Int}{ins:List (List Int)}{m:Int}(h:lk f T=some (.one s))(hp:s.pr 0= .l λa=>BF 4 (G a))(hn:Qu (G ins) m):Qu (gv T f 0 ins) m:=by
 rw[Bf h,hp];show Qu (BF 4 (G ins)) m;rw[Ay hn.len];exact hn
theorem Qu.cut{l:List Int}{m:Int}(h:Qu l m):Qu (sb l 0 4) m:=by
 have:sb l 0 4=l:=by
  have hl:=h.len
  match l,hl with
  | [_,_,_,_],_=>rfl
 rwa [this]
theorem AJf:EY.pr 0= .l λa=>BF 4 (Br.raw Bq 0 a):=rfl
theorem AJA:EZ.pr 0= .l λa=>BF 4 (BP.raw BQ 0 a):=rfl
theorem YW:CF.pr 0= .l λa=>BF 4 (Au.raw Av 0 a):=rfl
theorem AFf:BN.pr 0= .l λa=>BF 4 (BM.raw BO 0 a):=rfl
theorem AHh:Cu.pr 0= .l λa=>BF 4 (EH.raw EI 0 a):=rfl
theorem AG2:Di.pr 0= .l λa=>BF 4 (Fe.raw Ff 0 a):=rfl
theorem ARO:CQ.pr 0= .l λa=>BF 4 (Db.raw Ct 0 a):=rfl
theorem ANh:Bz.pr 0= .l λa=>BF 4 (DI.raw Cc 0 a):=rfl
theorem AMl:Ba.pr 0= .l λa=>BF 4 (BV.raw Ad 0 a):=rfl
section
variable{T:Tb}
theorem AFW{v a b:List Int}:EH.ie T EI 0 [v,a,b]=sb (gv T 119 0 [v,a,b]) 0 4:=by kernel_rfl
theorem ACa{v a b:List Int}:Fe.ie T Ff 0 [v,a,b]=sb (gv T 118 0 [v,a,b]) 0 4:=by kernel_rfl
def HJ(T:Tb)(v x:List Int):List Int:=gv T 86 0 [v,x]
theorem AMX{v x:List Int}:Db.ie T Ct 0 [v,x]=sb (gv T 87 0 [HJ T v (sb x 0 21++List.replicate 11 0),HJ T v (sb x 0 21++List.replicate 11 0)]) 0 4:=by kernel_rfl
theorem AJi{v x:List Int}:DI.ie T Cc 0 [v,x]=sb (gv T 87 0 [HJ T v (sb x 0 22++List.replicate 10 0),HJ T v (sb x 0 22++List.replicate 10 0)]) 0 4:=by kernel_rfl
def APU:List Int:=[6596282735017805720,4084727301971498455,11727709552089570172,446589182673836592]
def AQC:List Int:=[13636073449544084677,6645684779544594699,7181719282965082862,275308871451790172]
def suA(T:Tb)(v x:List Int):List Int:=gv T 82 0 [v,sb x 0 21]
def suB(T:Tb)(x:List Int):List Int:=gv T 82 0 [[0,0,0,0],sb x 21 21]
def AMc(T:Tb)(x:List Int):List Int:=gv T 84 0 [suB T x,suB T x,APU]
def ASZ(T:Tb)(v x:List Int):List Int:=gv T 83 0 [suA T v x,suA T v x,AMc T x]
def suC(T:Tb)(x:List Int):List Int:=gv T (10000+82) 0 [AMc T x,sb x 42 22]
def AUI(T:Tb)(x:List Int):List Int:=gv T 84 0 [suC T x,suC T x,AQC]
theorem ANU{v x:List Int}:BV.ie T Ad 0 [v,x]=sb (gv T 83 0 [ASZ T v x,ASZ T v x,AUI T x]) 0 4:=by kernel_rfl
theorem xK(h:lk 84 T=some (.one Cu)){v a b:List Int}{m n:Int}(ha:Qu a m)(hb:Qu b n):Qu (gv T 84 0 [v,a,b]) (m*n):=
 HD h AHh (by
  rw[Gn,AFW];exact(HD rfl AJf (AM6 ha hb)).cut)
theorem xz(h:lk 83 T=some (.one Di)){v a b:List Int}{m n:Int}(ha:Qu a m)(hb:Qu b n):Qu (gv T 83 0 [v,a,b]) (m+n):=
 HD h AG2 (by
  rw[Gn,ACa];exact(HD rfl AJA (ANA ha hb)).cut)
theorem ACU(h:lk 86 T=some (.one BN)){v x:List Int}(hx:cI x)(hl:x.length=32):u4 (HJ T v x)/\v4 (HJ T v x)=Cm x:=by
 have hu:=(xW h v x hx hl).2;refine⟨hu,?_⟩;have e:HJ T v x=BM.raw BO 0 [v,x]:=by
  unfold HJ;rw[Bf h,AFf];exact Ay (ACQ (λf κ h=>by cases h) AKw (LQ v (ABV (by omega) hx hl (Hm _)))).1
 rw[e];exact ANi hx hl
theorem zN{x y:List Int}(hx:cI x)(hy:cI y):cI (x++y):=λz hz=>by
 rcases qM.1 hz with h|h
 ·exact hx z h
 ·exact hy z h
theorem zf(n:Nat):cI (List.replicate n 0):=λz hz=>by
 rw[(A6.1 hz).2];omega
theorem AFl{x:List Int}(h:cI x)(i:Nat):0<=x.getD i 0/\x.getD i 0<=255:=by
 by_cases hi:i<x.length
 ·rw[show x.getD i 0=x[i] by simp[List.getD,hi]];exact h _ (ku hi)
 ·rw[show x.getD i 0=0 by simp[List.getD,hi]];omega
theorem rF{x:List Int}(h:cI x)(o n:Nat):cI (sb x o n):=λz hz=>by
 simp only[sb,Us] at hz;obtain⟨i,-,rfl⟩:=hz;exact AFl h _
theorem jw:∀n,Cm (List.replicate n 0)=0
 |0=>rfl
 |n+1=>by simp[List.replicate_succ,Cm,jw n]
theorem jJ(l:List Int){n:Nat}(h:l.length=n):sb l 0 n=l:=by
 subst h;unfold sb;refine List.ext_getElem (by simp) λi h1 h2=>?_
 simp[List.getD,h2]
theorem Q6(l:List Int)(o n:Nat):(sb l o n).length=n:=by simp[sb]
theorem AKS(h:lk 82 T=some (.one CQ)){v x:List Int}(hx:cI x)(hl:x.length=21):Qu (gv T 82 0 [v,x]) (Cm x):=
 HD h ARO (by
  rw[Gn,AMX,jJ x hl];obtain⟨h1,h2⟩:=ACU (T:=Ct.T) rfl (v:=v) (zN hx (zf 11)) (by rw[NC,Rp,hl]);rw[SA,jw,Int.mul_zero,Mb] at h2;rw[<- h2];exact(HD rfl YW (sO h1)).cut)
theorem ANJ(h:lk (10000+82) T=some (.one Bz)){v x:List Int}(hx:cI x)(hl:x.length=22):Qu (gv T (10000+82) 0 [v,x]) (Cm x):=
 HD h ANh (by
  rw[Gn,AJi,jJ x hl];obtain⟨h1,h2⟩:=ACU (T:=Cc.T) rfl (v:=v) (zN hx (zf 10)) (by rw[NC,Rp,hl]);rw[SA,jw,Int.mul_zero,Mb] at h2;rw[<- h2];exact(HD rfl YW (sO h1)).cut)
theorem AHb:Qu APU (2^168):=⟨⟨⟨rfl,by decide⟩,by decide +kernel⟩,Int.dvd_of_emod_eq_zero (by decide +kernel)⟩
theorem AIy:Qu AQC (2^336):=⟨⟨⟨rfl,by decide⟩,by decide +kernel⟩,Int.dvd_of_emod_eq_zero (by decide +kernel)⟩
theorem mh(x:List Int)(o m n:Nat):sb x o (m+n)=sb x o m++sb x (o+m) n:=by
 unfold sb;rw[List.range_add,List.map_append,List.map_map]
 congr 1
 refine fT λi _=>?_
 simp only[Function.comp,WZ]
theorem AOg{x:List Int}(hl:x.length=64):Cm x=Cm (sb x 0 21)+Cm (sb x 21 21)*2^168+Cm (sb x 42 22)*2^336:=by
 have h:=jJ x hl;have e1:sb x 0 64=sb x 0 21++(sb x 21 21++sb x 42 22):=by
  rw[show(64:Nat)=21+(21+22) from rfl,mh,mh]
 rw[<- h,e1,SA,SA,Q6,Q6, <- e1,h];rw[show(256:Int)^21=2^168 by decide +kernel];rw[wK,bf _ (Cm _), <- YL,show(2:Int)^168*2^168=2^336 by decide +kernel,bf (2^336),Int.add_assoc]
theorem AAj{v x:List Int}(hx:cI x)(hl:x.length=64):Qu (BV.raw Ad 0 [v,x]) (Cm x):=by
 rw[Gn,ANU,AOg hl];have T1:lk 82 Ad.T=some (.one CQ):=rfl;have T2:lk (10000+82) Ad.T=some (.one Bz):=rfl;have T3:lk 84 Ad.T=some (.one Cu):=rfl;have T4:lk 83 Ad.T=some (.one Di):=rfl;generalize Ad.T=T at *
 have hA:=AKS T1 (v:=v) (rF hx 0 21) (Q6 _ _ _);have hB:=AKS T1 (v:=[0,0,0,0]) (rF hx 21 21) (Q6 _ _ _);have hB2:=xK T3 (v:=suB T x) hB AHb;have hA2:=xz T4 (v:=suA T v x) hA hB2;have hC:=ANJ T2 (v:=AMc T x) (rF hx 42 22) (Q6 _ _ _);have hC2:=xK T3 (v:=suC T x) hC AIy;exact(xz T4 hA2 hC2).cut
theorem ASY(h:lk 57 T=some (.one Ba)){v x:List Int}(hx:cI x)(hl:x.length=64):Qu (gv T 57 0 [v,x]) (Cm x):=HD h AMl (AAj hx hl)
end
end
section
open Go
section
variable{T:Tb}
theorem AHt{x:List Int}{m n:Int}(hm:ScV x m)(hn:Qu x n):m=n%Oq:=by
 have h:Oq ∣ m-n:=Qu.uniq ⟨hn.u,hm.eq⟩ hn;rw[<- uu hm.lo hm.hi];exact Int.emod_eq_emod_iff_emod_sub_eq_zero.2 (Int.emod_eq_zero_of_dvd h)
theorem AMC(h:lk 129 T=some (.one CW)){x:List Int}{n:Int}(hx:Qu x n):S6 (gv T 129 0 [x]) (n%Oq):=by
 obtain⟨m,h1,h2,h3,h4⟩:=ALs h hx.u.u;exact⟨h2,h3,by rw[h4,AHt h1 hx]⟩
end
end
end Go.Proofs.YtkbfdaoohhmgoaaGreatDoor
