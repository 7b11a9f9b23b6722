/- Scalars modulo the order: what is set from bytes. -/
import Derived.Test.YtloibefkijfdlaaGreatDoorNd
import Derived.Test.YtloibefkijfdlaaGreatDoorPb
import Derived.Test.YtloibefkijfdlaaGreatDoorSc6
namespace Go.Proofs.YtloibefkijfdlaaGreatDoor
section
open Go
structure MO (l:List Int) (m:Int):Prop where
 u:uL l
 eq:Mo ∣ m*Fj-v4 l
theorem dvL{a b:Int}(h:a ∣ b)(c:Int):a ∣ b*c:=Int.dvd_mul_of_dvd_left h
theorem dvR{a b:Int}(h:a ∣ b)(c:Int):a ∣ c*b:=Int.dvd_mul_of_dvd_right h
def AGd:Int:=4458503529701987551646482192314240623644693141688353256590997718326214331684
theorem AOd:Fj*AGd=1+Mo*71336056475231800826343715077027849978041630819377026201054086228062141447707:=by decide +kernel
theorem YH{a:Int}(h:Mo ∣ a*Fj):Mo ∣ a:=by
 obtain⟨k,hk⟩:=h;refine⟨k*AGd-a*71336056475231800826343715077027849978041630819377026201054086228062141447707,?_⟩;have h1:a*(Fj*AGd)=Mo*k*AGd:=by rw[<- hk,Xt]
 rw[AOd,qR,zdd] at h1;rw[Int.mul_sub, <- Xt Mo k, <- h1,Int.mul_left_comm a Mo];omega
theorem MO.uniq{l:List Int}{m n:Int}(h:MO l m)(g:MO l n):Mo ∣ m-n:=by
 refine YH ?_;have:=Int.dvd_sub h.eq g.eq;have e:m*Fj-v4 l-(n*Fj-v4 l)=(m-n)*Fj:=by rw[Int.sub_mul];omega
 rwa [e] at this
theorem MO.aiZ{l:List Int}{m n:Int}(h:MO l m)(e:Mo ∣ n-m):MO l n:=by
 refine⟨h.u,?_⟩;have:=Int.dvd_add h.eq (dvL e Fj);have e2:m*Fj-v4 l+(n-m)*Fj=n*Fj-v4 l:=by rw[Int.sub_mul];omega
 rwa [e2] at this
theorem AKM{v a b:List Int}{m n:Int}(ha:MO a m)(hb:MO b n):MO (Bw.raw Bv 0 [v,a,b]) (m*n):=by
 obtain⟨h1,h2⟩:=AFh (v:=v) ha.u hb.u.u;refine⟨h1,YH ?_⟩;generalize v4 (Bw.raw Bv 0 [v,a,b])=r at *
 have e1:=dvL ha.eq (n*Fj);have e2:=dvR hb.eq (v4 a);have h3:=Int.dvd_sub (Int.dvd_add e1 e2) h2;have e:(m*Fj-v4 a)*(n*Fj)+v4 a*(n*Fj-v4 b)-(r*Fj-v4 a*v4 b)=(m*n*Fj-r)*Fj:=by
  generalize v4 a=x at *
  generalize v4 b=y at *
  generalize Fj=z at *
  rw[Int.sub_mul,Int.mul_sub,Int.sub_mul];rw[show m*z*(n*z)=m*n*z*z by simp only[Xg,Int.mul_left_comm]];omega
 rwa [e] at h3
theorem AK2{v a b:List Int}{m n:Int}(ha:MO a m)(hb:MO b n):MO (BV.raw BX 0 [v,a,b]) (m+n):=by
 obtain⟨h1,h2⟩:=AGt (v:=v) ha.u hb.u;refine⟨h1,?_⟩;have h3:=Int.dvd_sub (Int.dvd_add ha.eq hb.eq) h2;have e:m*Fj-v4 a+(n*Fj-v4 b)-(v4 (BV.raw BX 0 [v,a,b])-(v4 a+v4 b))=(m+n)*Fj-v4 (BV.raw BX 0 [v,a,b]):=by
  rw[HW];omega
 rwa [e] at h3
theorem mH{v a:List Int}(ha:u4 a):MO (Ay.raw A7 0 [v,a]) (v4 a):=by
 obtain⟨h1,h2⟩:=AGW (v:=v) ha;have hr:Mo ∣ Fj*Fj-I0:=Int.dvd_of_emod_eq_zero (by decide +kernel);refine⟨h1,YH ?_⟩;have h3:=Int.dvd_sub (dvL hr (v4 a)) h2;generalize v4 (Ay.raw A7 0 [v,a])=r at *
 have e:(Fj*Fj-I0)*v4 a-(r*Fj-I0*v4 a)=(v4 a*Fj-r)*Fj:=by
  generalize v4 a=x at *
  generalize Fj=z at *
  generalize I0=y at *
  rw[Int.sub_mul,Int.sub_mul];rw[show z*z*x=x*z*z by simp only[Xg,Int.mul_left_comm]];omega
 rwa [e] at h3
theorem MO.len{l:List Int}{m:Int}(h:MO l m):l.length=4:=h.u.u.1
theorem yF{T:Tb}{f:Nat}{s:BH}{G:List (List Int)->List Int}{ins:List (List Int)}{m:Int}(h:lk f T=some (.one s))(hp:s.pr 0= .l λa=>BK 4 (G a))(hn:MO (G ins) m):MO (gv T f 0 ins) m:=by
 rw[BQ h,hp];show MO (BK 4 (G ins)) m;rw[Bn hn.len];exact hn
theorem MO.cut{l:List Int}{m:Int}(h:MO l m):MO (sb l 0 4) m:=by
 have:sb l 0 4=l:=by
  have hl:=h.len
  match l,hl with
  | [_,_,_,_],_=>rfl
 rwa [this]
theorem AEN:Ez.pr 0= .l λa=>BK 4 (Bw.raw Bv 0 a):=rfl
theorem AFt:Ew.pr 0= .l λa=>BK 4 (BV.raw BX 0 a):=rfl
theorem Xh:CF.pr 0= .l λa=>BK 4 (Ay.raw A7 0 a):=rfl
theorem ABz:BN.pr 0= .l λa=>BK 4 (BP.raw BO 0 a):=rfl
theorem AHE:Ci.pr 0= .l λa=>BK 4 (Ec.raw Eb 0 a):=rfl
theorem AE7:Da.pr 0= .l λa=>BK 4 (Gj.raw Gm 0 a):=rfl
theorem ANj:Ca.pr 0= .l λa=>BK 4 (Du.raw DN 0 a):=rfl
theorem AKp:CB.pr 0= .l λa=>BK 4 (De.raw Cq 0 a):=rfl
theorem AMA:BJ.pr 0= .l λa=>BK 4 (Bf.raw Ac 0 a):=rfl
theorem AO8:Bb.pr 0= .l λa=>BK 4 (DF.raw CP 0 a):=rfl
theorem AK1:DX.pr 0= .l λa=>BK 4 (GH.raw GI 0 a):=rfl
section
variable{T:Tb}
theorem ACm{v a b:List Int}:Ec.sd T Eb 0 [v,a,b]=sb (gv T 169 0 [v,a,b]) 0 4:=by kernel_rfl
theorem zu{v a b:List Int}:Gj.sd T Gm 0 [v,a,b]=sb (gv T 168 0 [v,a,b]) 0 4:=by kernel_rfl
def HR(T:Tb)(v x:List Int):List Int:=gv T 128 0 [v,x]
theorem AMM{v x:List Int}:Du.sd T DN 0 [v,x]=sb (gv T 129 0 [HR T v (sb x 0 21++List.replicate 11 0),HR T v (sb x 0 21++List.replicate 11 0)]) 0 4:=by kernel_rfl
theorem AGG{v x:List Int}:De.sd T Cq 0 [v,x]=sb (gv T 129 0 [HR T v (sb x 0 22++List.replicate 10 0),HR T v (sb x 0 22++List.replicate 10 0)]) 0 4:=by kernel_rfl
def ANn:List Int:=[6596282735017805720,4084727301971498455,11727709552089570172,446589182673836592]
def APQ:List Int:=[13636073449544084677,6645684779544594699,7181719282965082862,275308871451790172]
def suA(T:Tb)(v x:List Int):List Int:=gv T 124 0 [v,sb x 0 21]
def suB(T:Tb)(x:List Int):List Int:=gv T 124 0 [[0,0,0,0],sb x 21 21]
def AJe(T:Tb)(x:List Int):List Int:=gv T 126 0 [suB T x,suB T x,ANn]
def APl(T:Tb)(v x:List Int):List Int:=gv T 125 0 [suA T v x,suA T v x,AJe T x]
def suC(T:Tb)(x:List Int):List Int:=gv T (10000+124) 0 [AJe T x,sb x 42 22]
def ASq(T:Tb)(x:List Int):List Int:=gv T 126 0 [suC T x,suC T x,APQ]
theorem ALE{v x:List Int}:Bf.sd T Ac 0 [v,x]=sb (gv T 125 0 [APl T v x,APl T v x,ASq T x]) 0 4:=by kernel_rfl
def clP(x:List Int):List Int:=Ah .and .u8 (x.getD 0 0) 248::(sb x 1 30 ++ [Ah .or .u8 (Ah .and .u8 (x.getD 31 0) 63) 64])
theorem AKw{v x:List Int}:DF.sd T CP 0 [v,x]=sb (gv T 99 0 [v,clP x++List.replicate 32 0]) 0 4:=by kernel_rfl
theorem AE2{v a b c:List Int}:GH.sd T GI 0 [v,a,b,c]=sb (gv T 125 0 [gv T 126 0 [v,a,b],gv T 126 0 [v,a,b],gv T 152 0 [[0,0,0,0],c]]) 0 4:=by kernel_rfl
theorem eU(h:lk 126 T=some (.one Ci)){v a b:List Int}{m n:Int}(ha:MO a m)(hb:MO b n):MO (gv T 126 0 [v,a,b]) (m*n):=
 yF h AHE (by
  rw[Lt,ACm];exact(yF rfl AEN (AKM ha hb)).cut)
theorem eG(h:lk 125 T=some (.one Da)){v a b:List Int}{m n:Int}(ha:MO a m)(hb:MO b n):MO (gv T 125 0 [v,a,b]) (m+n):=
 yF h AE7 (by
  rw[Lt,zu];exact(yF rfl AFt (AK2 ha hb)).cut)
theorem ADK(h:lk 128 T=some (.one BN)){v x:List Int}(hx:cM x)(hl:x.length=32):u4 (HR T v x)/\v4 (HR T v x)=Ct x:=by
 have hu:=(wB h v x hx hl).2;refine⟨hu,?_⟩;have e:HR T v x=BP.raw BO 0 [v,x]:=by
  unfold HR;rw[BQ h,ABz];exact Bn (ADf (λf κ h=>by cases h) AHe (Me v (AAk (by omega) hx hl (IL _)))).1
 rw[e];exact AKt hx hl
theorem eD{x y:List Int}(hx:cM x)(hy:cM y):cM (x++y):=λz hz=>by
 rcases jd.1 hz with h|h
 ·exact hx z h
 ·exact hy z h
theorem dB(n:Nat):cM (List.replicate n 0):=λz hz=>by
 rw[(Hj.1 hz).2];omega
theorem ADQ{x:List Int}(h:cM x)(i:Nat):0<=x.getD i 0/\x.getD i 0<=255:=by
 by_cases hi:i<x.length
 ·rw[show x.getD i 0=x[i] by simp[List.getD,hi]];exact h _ (lY hi)
 ·rw[show x.getD i 0=0 by simp[List.getD,hi]];omega
theorem qZ{x:List Int}(h:cM x)(o n:Nat):cM (sb x o n):=λz hz=>by
 simp only[sb,UT] at hz;obtain⟨i,-,rfl⟩:=hz;exact ADQ h _
theorem Xz:∀n,Ct (List.replicate n 0)=0
 |0=>rfl
 |n+1=>by simp[List.replicate_succ,Ct,Xz n]
theorem bY(l:List Int){n:Nat}(h:l.length=n):sb l 0 n=l:=by
 subst h;unfold sb;refine List.ext_getElem (by simp) λi h1 h2=>?_
 simp[List.getD,h2]
theorem PD(l:List Int)(o n:Nat):(sb l o n).length=n:=by simp[sb]
theorem AIM(h:lk 124 T=some (.one Ca)){v x:List Int}(hx:cM x)(hl:x.length=21):MO (gv T 124 0 [v,x]) (Ct x):=
 yF h ANj (by
  rw[Lt,AMM,bY x hl];obtain⟨h1,h2⟩:=ADK (T:=DN.T) rfl (v:=v) (eD hx (dB 11)) (by rw[MN,Qs,hl]);rw[QL,Xz,Int.mul_zero,HQ] at h2;rw[<- h2];exact(yF rfl Xh (mH h1)).cut)
theorem AKy(h:lk (10000+124) T=some (.one CB)){v x:List Int}(hx:cM x)(hl:x.length=22):MO (gv T (10000+124) 0 [v,x]) (Ct x):=
 yF h AKp (by
  rw[Lt,AGG,bY x hl];obtain⟨h1,h2⟩:=ADK (T:=Cq.T) rfl (v:=v) (eD hx (dB 10)) (by rw[MN,Qs,hl]);rw[QL,Xz,Int.mul_zero,HQ] at h2;rw[<- h2];exact(yF rfl Xh (mH h1)).cut)
theorem AFe:MO ANn (2^168):=⟨⟨⟨rfl,by decide⟩,by decide +kernel⟩,Int.dvd_of_emod_eq_zero (by decide +kernel)⟩
theorem AE8:MO APQ (2^336):=⟨⟨⟨rfl,by decide⟩,by decide +kernel⟩,Int.dvd_of_emod_eq_zero (by decide +kernel)⟩
theorem jb(x:List Int)(o m n:Nat):sb x o (m+n)=sb x o m++sb x (o+m) n:=by
 unfold sb;rw[List.range_add,List.map_append,List.map_map]
 congr 1
 refine Zx λi _=>?_
 simp only[Function.comp,Ve]
theorem ALA{x:List Int}(hl:x.length=64):Ct x=Ct (sb x 0 21)+Ct (sb x 21 21)*2^168+Ct (sb x 42 22)*2^336:=by
 have h:=bY x hl;have e1:sb x 0 64=sb x 0 21++(sb x 21 21++sb x 42 22):=by
  rw[show(64:Nat)=21+(21+22) from rfl,jb,jb]
 rw[<- h,e1,QL,QL,PD,PD, <- e1,h];rw[show(256:Int)^21=2^168 by decide +kernel];rw[qR,Xg _ (Ct _), <- Xt,show(2:Int)^168*2^168=2^336 by decide +kernel,Xg (2^336),Int.add_assoc]
theorem xw{v x:List Int}(hx:cM x)(hl:x.length=64):MO (Bf.raw Ac 0 [v,x]) (Ct x):=by
 rw[Lt,ALE,ALA hl];have T1:lk 124 Ac.T=some (.one Ca):=rfl;have T2:lk (10000+124) Ac.T=some (.one CB):=rfl;have T3:lk 126 Ac.T=some (.one Ci):=rfl;have T4:lk 125 Ac.T=some (.one Da):=rfl;generalize Ac.T=T at *
 have hA:=AIM T1 (v:=v) (qZ hx 0 21) (PD _ _ _);have hB:=AIM T1 (v:=[0,0,0,0]) (qZ hx 21 21) (PD _ _ _);have hB2:=eU T3 (v:=suB T x) hB AFe;have hA2:=eG T4 (v:=suA T v x) hA hB2;have hC:=AKy T2 (v:=AJe T x) (qZ hx 42 22) (PD _ _ _);have hC2:=eU T3 (v:=suC T x) hC AE8;exact(eG T4 hA2 hC2).cut
theorem zl(h:lk 99 T=some (.one BJ)){v x:List Int}(hx:cM x)(hl:x.length=64):MO (gv T 99 0 [v,x]) (Ct x):=yF h AMA (xw hx hl)
end
end
section
open Go
theorem AMZ:∀n:Fin 256,Ah .and .u8 ((n.val:Nat):Int) 248=mG ((n.val:Nat):Int):=by decide +kernel
theorem ASH:∀n:Fin 256,Ah .or .u8 (Ah .and .u8 ((n.val:Nat):Int) 63) 64=oU ((n.val:Nat):Int):=by decide +kernel
theorem AHF{b:Int}(h:0<=b/\b<=255):Ah .and .u8 b 248=mG b:=by
 obtain⟨n,rfl⟩:=YD h.1;exact AMZ ⟨n,by omega⟩
theorem AOj{b:Int}(h:0<=b/\b<=255):Ah .or .u8 (Ah .and .u8 b 63) 64=oU b:=by
 obtain⟨n,rfl⟩:=YD h.1;exact ASH ⟨n,by omega⟩
theorem AKu{l:List Int}(hl:l.length=32)(h:cM l):clP l=Pa l:=by
 match l,hl with
 | [b0,b1,b2,b3,b4,b5,b6,b7,b8,b9,Ξ,Ψ,υ,τ,b14,b15,b16,b17,Ω,ψ,b20,b21,b22,b23,Δ,Γ,Θ,b27,b28,b29,b30,χ],_=>
  have h0:=h b0 (by simp);have tg:=h χ (by simp);show[Ah .and .u8 b0 248,b1,b2,b3,b4,b5,b6,b7,b8,b9,Ξ,Ψ,υ,τ,b14,b15,b16,b17,Ω,ψ,b20,b21,b22,b23,Δ,Γ,Θ,b27,b28,b29,b30,Ah .or .u8 (Ah .and .u8 χ 63) 64]= [mG b0,b1,b2,b3,b4,b5,b6,b7,b8,b9,Ξ,Ψ,υ,τ,b14,b15,b16,b17,Ω,ψ,b20,b21,b22,b23,Δ,Γ,Θ,b27,b28,b29,b30,oU χ];rw[AHF h0,AOj tg]
section
variable{T:Tb}
theorem ANc(h:lk 95 T=some (.one Bb)){v x:List Int}(hx:cM x)(hl:x.length=32):MO (gv T 95 0 [v,x]) (Ct (Pa x)):=
 yF h AO8 (by
  obtain⟨-,c1,c2⟩:=ol hl hx;rw[Lt,AKw,AKu hl hx];have:=zl (T:=CP.T) rfl (v:=v) (eD c2 (dB 32)) (by rw[MN,Qs,c1]);rw[QL,Xz,Int.mul_zero,HQ] at this;exact this.cut)
theorem ABj{v a:List Int}:Ip.sd T Iq 0 [v,a]=sb a 0 4:=by kernel_rfl
theorem AD0:Gl.pr 0= .l λa=>BK 4 (Ip.raw Iq 0 a):=rfl
theorem AFr(h:lk 152 T=some (.one Gl)){v a:List Int}{m:Int}(ha:MO a m):MO (gv T 152 0 [v,a]) m:=
 yF h AD0 (by
  rw[Lt,ABj];exact ha.cut)
theorem ALU(h:lk 106 T=some (.one DX)){v a b c:List Int}{m n k:Int}(ha:MO a m)(hb:MO b n)(hc:MO c k):MO (gv T 106 0 [v,a,b,c]) (m*n+k):=
 yF h AK1 (by
  rw[Lt,AE2];exact(eG rfl (eU rfl ha hb) (AFr rfl hc)).cut)
theorem AFO{x:List Int}{m n:Int}(hm:ScV x m)(hn:MO x n):m=n%Mo:=by
 have h:Mo ∣ m-n:=MO.uniq ⟨hn.u,hm.eq⟩ hn;rw[<- Th hm.lo hm.hi];exact Int.emod_eq_emod_iff_emod_sub_eq_zero.2 (Int.emod_eq_zero_of_dvd h)
theorem AMK(h:lk 107 T=some (.one BG)){x:List Int}{n:Int}(hx:MO x n):B32 (gv T 107 0 [x]) (n%Mo):=by
 obtain⟨m,h1,h2,h3,h4⟩:=zH h hx.u.u;exact⟨h2,h3,by rw[h4,AFO h1 hx]⟩
end
end
end Go.Proofs.YtloibefkijfdlaaGreatDoor
