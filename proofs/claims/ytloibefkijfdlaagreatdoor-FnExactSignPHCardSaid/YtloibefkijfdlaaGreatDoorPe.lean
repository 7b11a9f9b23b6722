/- Scalars modulo the order: what is set from bytes. -/
import Derived.Test.YtloibefkijfdlaaGreatDoorNd
import Derived.Test.YtloibefkijfdlaaGreatDoorPb
import Derived.Test.YtloibefkijfdlaaGreatDoorSc6
namespace Go.Proofs.YtloibefkijfdlaaGreatDoor
section
open Go
structure OW (l:List Int) (m:Int):Prop where
 u:uL l
 eq:OM ∣ m*F5-v4 l
theorem dvL{a b:Int}(h:a ∣ b)(c:Int):a ∣ b*c:=Int.dvd_mul_of_dvd_left h
theorem dvR{a b:Int}(h:a ∣ b)(c:Int):a ∣ c*b:=Int.dvd_mul_of_dvd_right h
def AJ6:Int:=4458503529701987551646482192314240623644693141688353256590997718326214331684
theorem AT0:F5*AJ6=1+OM*71336056475231800826343715077027849978041630819377026201054086228062141447707:=by decide +kernel
theorem aF{a:Int}(h:OM ∣ a*F5):OM ∣ a:=by
 obtain⟨k,hk⟩:=h;refine⟨k*AJ6-a*71336056475231800826343715077027849978041630819377026201054086228062141447707,?_⟩;have h1:a*(F5*AJ6)=OM*k*AJ6:=by rw[← hk,Xr]
 rw[AT0,qC,zcz] at h1;rw[Int.mul_sub, ← Xr OM k, ← h1,Int.mul_left_comm a OM];omega
theorem OW.uniq{l:List Int}{m n:Int}(h:OW l m)(g:OW l n):OM ∣ m-n:=by
 refine aF ?_;have:=Int.dvd_sub h.eq g.eq;have e:m*F5-v4 l-(n*F5-v4 l)=(m-n)*F5:=by rw[Int.sub_mul];omega
 rwa [e] at this
theorem OW.cong{l:List Int}{m n:Int}(h:OW l m)(e:OM ∣ n-m):OW l n:=by
 refine⟨h.u,?_⟩;have:=Int.dvd_add h.eq (dvL e F5);have e2:m*F5-v4 l+(n-m)*F5=n*F5-v4 l:=by rw[Int.sub_mul];omega
 rwa [e2] at this
theorem APs{v a b:List Int}{m n:Int}(ha:OW a m)(hb:OW b n):OW (Bz.raw Bw 0 [v,a,b]) (m*n):=by
 obtain⟨h1,h2⟩:=AJB (v:=v) ha.u hb.u.u;refine⟨h1,aF ?_⟩;generalize v4 (Bz.raw Bw 0 [v,a,b])=r at *
 have e1:=dvL ha.eq (n*F5);have e2:=dvR hb.eq (v4 a);have h3:=Int.dvd_sub (Int.dvd_add e1 e2) h2;have e:(m*F5-v4 a)*(n*F5)+v4 a*(n*F5-v4 b)-(r*F5-v4 a*v4 b)=(m*n*F5-r)*F5:=by
  generalize v4 a=x at *
  generalize v4 b=y at *
  generalize F5=z at *
  rw[Int.sub_mul,Int.mul_sub,Int.sub_mul];rw[show m*z*(n*z)=m*n*z*z by simp only[Y6,Int.mul_left_comm]];omega
 rwa [e] at h3
theorem AMJ{v a b:List Int}{m n:Int}(ha:OW a m)(hb:OW b n):OW (Ba.raw BX 0 [v,a,b]) (m+n):=by
 obtain⟨h1,h2⟩:=AGu (v:=v) ha.u hb.u;refine⟨h1,?_⟩;have h3:=Int.dvd_sub (Int.dvd_add ha.eq hb.eq) h2;have e:m*F5-v4 a+(n*F5-v4 b)-(v4 (Ba.raw BX 0 [v,a,b])-(v4 a+v4 b))=(m+n)*F5-v4 (Ba.raw BX 0 [v,a,b]):=by
  rw[sI];omega
 rwa [e] at h3
theorem AFi{v a:List Int}(ha:u4 a):OW (A7.raw A9 0 [v,a]) (v4 a):=by
 obtain⟨h1,h2⟩:=AIi (v:=v) ha;have hr:OM ∣ F5*F5-r2C:=Int.dvd_of_emod_eq_zero (by decide +kernel);refine⟨h1,aF ?_⟩;have h3:=Int.dvd_sub (dvL hr (v4 a)) h2;generalize v4 (A7.raw A9 0 [v,a])=r at *
 have e:(F5*F5-r2C)*v4 a-(r*F5-r2C*v4 a)=(v4 a*F5-r)*F5:=by
  generalize v4 a=x at *
  generalize F5=z at *
  generalize r2C=y at *
  rw[Int.sub_mul,Int.sub_mul];rw[show z*z*x=x*z*z by simp only[Y6,Int.mul_left_comm]];omega
 rwa [e] at h3
theorem OW.len{l:List Int}{m:Int}(h:OW l m):l.length=4:=h.u.u.1
theorem gv4{T:Tb}{f:Nat}{s:Az}{G:List (List Int)→List Int}{ins:List (List Int)}{m:Int}(h:lk f T=some (.one s))(hp:s.pr 0= .l fun a=>Aw 4 (G a))(hn:OW (G ins) m):OW (gv T f 0 ins) m:=by
 rw[Bg h,hp];show OW (Aw 4 (G ins)) m;rw[Au hn.len];exact hn
theorem OW.cut{l:List Int}{m:Int}(h:OW l m):OW (sb l 0 4) m:=by
 have:sb l 0 4=l:=by
  have hl:=h.len
  match l,hl with
  | [_,_,_,_],_=>rfl
 rwa [this]
theorem AJb:FC.pr 0= .l fun a=>Aw 4 (Bz.raw Bw 0 a):=rfl
theorem AH5:FD.pr 0= .l fun a=>Aw 4 (Ba.raw BX 0 a):=rfl
theorem AAi:Cr.pr 0= .l fun a=>Aw 4 (A7.raw A9 0 a):=rfl
theorem ALn:Ce.pr 0= .l fun a=>Aw 4 (CB.raw CE 0 a):=rfl
theorem AIL:Cf.pr 0= .l fun a=>Aw 4 (Ee.raw Eg 0 a):=rfl
theorem AI0:DN.pr 0= .l fun a=>Aw 4 (Gs.raw Gt 0 a):=rfl
theorem ARJ:CY.pr 0= .l fun a=>Aw 4 (Dx.raw Cy 0 a):=rfl
theorem ALx:CF.pr 0= .l fun a=>Aw 4 (DY.raw Co 0 a):=rfl
theorem APX:Bh.pr 0= .l fun a=>Aw 4 (Be.raw Ah 0 a):=rfl
theorem AQz:Bf.pr 0= .l fun a=>Aw 4 (Cv.raw CP 0 a):=rfl
theorem ANo:DI.pr 0= .l fun a=>Aw 4 (GH.raw GI 0 a):=rfl
section
variable{T:Tb}
theorem AEW{v a b:List Int}:Ee.valT T Eg 0 [v,a,b]=sb (gv T 169 0 [v,a,b]) 0 4:=by kernel_rfl
theorem AEC{v a b:List Int}:Gs.valT T Gt 0 [v,a,b]=sb (gv T 168 0 [v,a,b]) 0 4:=by kernel_rfl
def ssW(T:Tb)(v x:List Int):List Int:=gv T 128 0 [v,x]
theorem AMH{v x:List Int}:Dx.valT T Cy 0 [v,x]=sb (gv T 129 0 [ssW T v (sb x 0 21++List.replicate 11 0),ssW T v (sb x 0 21++List.replicate 11 0)]) 0 4:=by kernel_rfl
theorem AIw{v x:List Int}:DY.valT T Co 0 [v,x]=sb (gv T 129 0 [ssW T v (sb x 0 22++List.replicate 10 0),ssW T v (sb x 0 22++List.replicate 10 0)]) 0 4:=by kernel_rfl
def AQy:List Int:=[6596282735017805720,4084727301971498455,11727709552089570172,446589182673836592]
def ASd:List Int:=[13636073449544084677,6645684779544594699,7181719282965082862,275308871451790172]
def suA(T:Tb)(v x:List Int):List Int:=gv T 124 0 [v,sb x 0 21]
def suB(T:Tb)(x:List Int):List Int:=gv T 124 0 [[0,0,0,0],sb x 21 21]
def AOE(T:Tb)(x:List Int):List Int:=gv T 126 0 [suB T x,suB T x,AQy]
def AT3(T:Tb)(v x:List Int):List Int:=gv T 125 0 [suA T v x,suA T v x,AOE T x]
def suC(T:Tb)(x:List Int):List Int:=gv T (10000+124) 0 [AOE T x,sb x 42 22]
def AV3(T:Tb)(x:List Int):List Int:=gv T 126 0 [suC T x,suC T x,ASd]
theorem AOD{v x:List Int}:Be.valT T Ah 0 [v,x]=sb (gv T 125 0 [AT3 T v x,AT3 T v x,AV3 T x]) 0 4:=by kernel_rfl
def clP(x:List Int):List Int:=Ao .and .u8 (x.getD 0 0) 248::(sb x 1 30 ++ [Ao .or .u8 (Ao .and .u8 (x.getD 31 0) 63) 64])
theorem AMZ{v x:List Int}:Cv.valT T CP 0 [v,x]=sb (gv T 99 0 [v,clP x++List.replicate 32 0]) 0 4:=by kernel_rfl
theorem AIk{v a b c:List Int}:GH.valT T GI 0 [v,a,b,c]=sb (gv T 125 0 [gv T 126 0 [v,a,b],gv T 126 0 [v,a,b],gv T 152 0 [[0,0,0,0],c]]) 0 4:=by kernel_rfl
theorem jY(h:lk 126 T=some (.one Cf)){v a b:List Int}{m n:Int}(ha:OW a m)(hb:OW b n):OW (gv T 126 0 [v,a,b]) (m*n):=
 gv4 h AIL (by
  rw[Et,AEW];exact (gv4 rfl AJb (APs ha hb)).cut)
theorem lN(h:lk 125 T=some (.one DN)){v a b:List Int}{m n:Int}(ha:OW a m)(hb:OW b n):OW (gv T 125 0 [v,a,b]) (m+n):=
 gv4 h AI0 (by
  rw[Et,AEC];exact (gv4 rfl AH5 (AMJ ha hb)).cut)
theorem AKh(h:lk 128 T=some (.one Ce)){v x:List Int}(hx:by8 x)(hl:x.length=32):u4 (ssW T v x)∧v4 (ssW T v x)=IG x:=by
 have hu:=(AB9 h v x hx hl).2;refine⟨hu,?_⟩;have e:ssW T v x=CB.raw CE 0 [v,x]:=by
  unfold ssW;rw[Bg h,ALn];exact Au (ACr (fun f κ h=>by cases h) AKR (Mt v (AEu (by omega) hx hl (Ie _)))).1
 rw[e];exact AOt hx hl
theorem mW{x y:List Int}(hx:by8 x)(hy:by8 y):by8 (x++y):=fun z hz=>by
 rcases iQ.1 hz with h|h
 ·exact hx z h
 ·exact hy z h
theorem mi(n:Nat):by8 (List.replicate n 0):=fun z hz=>by
 rw[(zcc.1 hz).2];omega
theorem APc{x:List Int}(h:by8 x)(i:Nat):0≤x.getD i 0∧x.getD i 0≤255:=by
 by_cases hi:i<x.length
 ·rw[show x.getD i 0=x[i] by simp[List.getD,hi]];exact h _ (qj hi)
 ·rw[show x.getD i 0=0 by simp[List.getD,hi]];omega
theorem uu{x:List Int}(h:by8 x)(o n:Nat):by8 (sb x o n):=fun z hz=>by
 simp only[sb,VI] at hz;obtain⟨i,-,rfl⟩:=hz;exact APc h _
theorem Zb:∀ n,IG (List.replicate n 0)=0
 |0=>rfl
 |n+1=>by simp[List.replicate_succ,IG,Zb n]
theorem mZ(l:List Int){n:Nat}(h:l.length=n):sb l 0 n=l:=by
 subst h;unfold sb;refine List.ext_getElem (by simp) fun i h1 h2=>?_
 simp[List.getD,h2]
theorem SC(l:List Int)(o n:Nat):(sb l o n).length=n:=by simp[sb]
theorem ALO(h:lk 124 T=some (.one CY)){v x:List Int}(hx:by8 x)(hl:x.length=21):OW (gv T 124 0 [v,x]) (IG x):=
 gv4 h ARJ (by
  rw[Et,AMH,mZ x hl];obtain⟨h1,h2⟩:=AKh (T:=Cy.T) rfl (v:=v) (mW hx (mi 11)) (by rw[K6,SX,hl]);rw[RD,Zb,Int.mul_zero,wP] at h2;rw[← h2];exact (gv4 rfl AAi (AFi h1)).cut)
theorem ANW(h:lk (10000+124) T=some (.one CF)){v x:List Int}(hx:by8 x)(hl:x.length=22):OW (gv T (10000+124) 0 [v,x]) (IG x):=
 gv4 h ALx (by
  rw[Et,AIw,mZ x hl];obtain⟨h1,h2⟩:=AKh (T:=Co.T) rfl (v:=v) (mW hx (mi 10)) (by rw[K6,SX,hl]);rw[RD,Zb,Int.mul_zero,wP] at h2;rw[← h2];exact (gv4 rfl AAi (AFi h1)).cut)
theorem AIg:OW AQy (2^168):=⟨⟨⟨rfl,by decide⟩,by decide +kernel⟩,Int.dvd_of_emod_eq_zero (by decide +kernel)⟩
theorem AJ7:OW ASd (2^336):=⟨⟨⟨rfl,by decide⟩,by decide +kernel⟩,Int.dvd_of_emod_eq_zero (by decide +kernel)⟩
theorem rE(x:List Int)(o m n:Nat):sb x o (m+n)=sb x o m++sb x (o+m) n:=by
 unfold sb;rw[List.range_add,List.map_append,List.map_map]
 congr 1
 refine fU fun i _=>?_
 simp only[Function.comp,XN]
theorem AN8{x:List Int}(hl:x.length=64):IG x=IG (sb x 0 21)+IG (sb x 21 21)*2^168+IG (sb x 42 22)*2^336:=by
 have h:=mZ x hl;have e1:sb x 0 64=sb x 0 21++(sb x 21 21++sb x 42 22):=by
  rw[show (64:Nat)=21+(21+22) from rfl,rE,rE]
 rw[← h,e1,RD,RD,SC,SC, ← e1,h];rw[show (256:Int)^21=2^168 by decide +kernel];rw[qC,Y6 _ (IG _), ← Xr,show (2:Int)^168*2^168=2^336 by decide +kernel,Y6 (2^336),Int.add_assoc]
theorem ABr{v x:List Int}(hx:by8 x)(hl:x.length=64):OW (Be.raw Ah 0 [v,x]) (IG x):=by
 rw[Et,AOD,AN8 hl];have T1:lk 124 Ah.T=some (.one CY):=rfl;have T2:lk (10000+124) Ah.T=some (.one CF):=rfl;have T3:lk 126 Ah.T=some (.one Cf):=rfl;have T4:lk 125 Ah.T=some (.one DN):=rfl;generalize Ah.T=T at *
 have hA:=ALO T1 (v:=v) (uu hx 0 21) (SC _ _ _);have hB:=ALO T1 (v:=[0,0,0,0]) (uu hx 21 21) (SC _ _ _);have hB2:=jY T3 (v:=suB T x) hB AIg;have hA2:=lN T4 (v:=suA T v x) hA hB2;have hC:=ANW T2 (v:=AOE T x) (uu hx 42 22) (SC _ _ _);have hC2:=jY T3 (v:=suC T x) hC AJ7;exact (lN T4 hA2 hC2).cut
theorem ALZ(h:lk 99 T=some (.one Bh)){v x:List Int}(hx:by8 x)(hl:x.length=64):OW (gv T 99 0 [v,x]) (IG x):=gv4 h APX (ABr hx hl)
end
end
section
open Go
theorem AOM:∀ n:Fin 256,Ao .and .u8 ((n.val:Nat):Int) 248=vZ ((n.val:Nat):Int):=by decide +kernel
theorem AUy:∀ n:Fin 256,Ao .or .u8 (Ao .and .u8 ((n.val:Nat):Int) 63) 64=vQ ((n.val:Nat):Int):=by decide +kernel
theorem AGf{b:Int}(h:0≤b∧b≤255):Ao .and .u8 b 248=vZ b:=by
 obtain⟨n,rfl⟩:=cu h.1;exact AOM ⟨n,by omega⟩
theorem ARG{b:Int}(h:0≤b∧b≤255):Ao .or .u8 (Ao .and .u8 b 63) 64=vQ b:=by
 obtain⟨n,rfl⟩:=cu h.1;exact AUy ⟨n,by omega⟩
theorem AMs{l:List Int}(hl:l.length=32)(h:by8 l):clP l=clB l:=by
 match l,hl with
 | [b0,b1,b2,b3,b4,b5,b6,b7,b8,b9,Ω,b11,b12,b13,b14,b15,b16,Ψ,b18,b19,b20,b21,b22,b23,b24,Ξ,b26,b27,b28,b29,b30,Γ],_=>
  have h0:=h b0 (by simp);have h31:=h Γ (by simp);show [Ao .and .u8 b0 248,b1,b2,b3,b4,b5,b6,b7,b8,b9,Ω,b11,b12,b13,b14,b15,b16,Ψ,b18,b19,b20,b21,b22,b23,b24,Ξ,b26,b27,b28,b29,b30,Ao .or .u8 (Ao .and .u8 Γ 63) 64]= [vZ b0,b1,b2,b3,b4,b5,b6,b7,b8,b9,Ω,b11,b12,b13,b14,b15,b16,Ψ,b18,b19,b20,b21,b22,b23,b24,Ξ,b26,b27,b28,b29,b30,vQ Γ];rw[AGf h0,ARG h31]
section
variable{T:Tb}
theorem AQj(h:lk 95 T=some (.one Bf)){v x:List Int}(hx:by8 x)(hl:x.length=32):OW (gv T 95 0 [v,x]) (IG (clB x)):=
 gv4 h AQz (by
  obtain⟨-,c1,c2⟩:=Oi hl hx;rw[Et,AMZ,AMs hl hx];have:=ALZ (T:=CP.T) rfl (v:=v) (mW c2 (mi 32)) (by rw[K6,SX,c1]);rw[RD,Zb,Int.mul_zero,wP] at this;exact this.cut)
theorem ADO{v a:List Int}:JG.valT T JH 0 [v,a]=sb a 0 4:=by kernel_rfl
theorem AIQ:Gr.pr 0= .l fun a=>Aw 4 (JG.raw JH 0 a):=rfl
theorem AJG(h:lk 152 T=some (.one Gr)){v a:List Int}{m:Int}(ha:OW a m):OW (gv T 152 0 [v,a]) m:=
 gv4 h AIQ (by
  rw[Et,ADO];exact ha.cut)
theorem APa(h:lk 106 T=some (.one DI)){v a b c:List Int}{m n k:Int}(ha:OW a m)(hb:OW b n)(hc:OW c k):OW (gv T 106 0 [v,a,b,c]) (m*n+k):=
 gv4 h ANo (by
  rw[Et,AIk];exact (lN rfl (jY rfl ha hb) (AJG rfl hc)).cut)
theorem AIp{x:List Int}{m n:Int}(hm:ScV x m)(hn:OW x n):m=n%OM:=by
 have h:OM ∣ m-n:=OW.uniq ⟨hn.u,hm.eq⟩ hn;rw[← zcd hm.lo hm.hi];exact Int.emod_eq_emod_iff_emod_sub_eq_zero.2 (Int.emod_eq_zero_of_dvd h)
theorem AMX(h:lk 107 T=some (.one BM)){x:List Int}{n:Int}(hx:OW x n):B32 (gv T 107 0 [x]) (n%OM):=by
 obtain⟨m,h1,h2,h3,h4⟩:=AFo h hx.u.u;exact⟨h2,h3,by rw[h4,AIp h1 hx]⟩
end
end
end Go.Proofs.YtloibefkijfdlaaGreatDoor
