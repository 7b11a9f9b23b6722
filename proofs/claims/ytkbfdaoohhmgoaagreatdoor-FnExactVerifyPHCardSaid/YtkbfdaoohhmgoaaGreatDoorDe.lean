/- Contracts of the reference: multiples of a point, the base point. -/
import Derived.Test.YtkbfdaoohhmgoaaGreatDoorNd
namespace Go.Proofs.YtkbfdaoohhmgoaaGreatDoor
noncomputable section
open Go Ma
def Am:Ih:=⟨6000,PU 0 (Ab Tryz.f25),Tryz.f25.ntmps,0,[],⟨[.int .i64,.mem MI 1 true,.mem U8 2 false,.mem MI 3 false,.mem U8 4 false],true,λ_=>True,[(1,MI,z1)],[],[]⟩,[7,6,2,3,5],[12,13,14,15,16,17,18,19,20,21,22,23,24,25,26],λ_=>257⟩
def AQ:Cx:=F7 [(23,.one KZ),(42,.one Ha)] []
def EF:Ac:=⟨6000,Ab Tryz.f25,Tryz.f25.ntmps,Tryz.f25.results.toList,[],⟨[.agg U8,.agg MI],true,λ_=>True,[],[],[.agg MI z1]⟩⟩
def Bh:Cx:=kM ((1000000+25,.one (Am.sum AQ (Am.pre AQ))) :: [(34,.one DF),(24,.one JI)]) [] [(Am.id,⟨1000000+25,Am.ps,Am.ss,Am.cl,Am.nt⟩)]
def YO:Az:= { EF.vu Bh (λ_=>True) with hp:=false }
theorem VV:Am.cN AQ=true:=by kernel_rfl
theorem VZ:EF.cN Bh=true:=by kernel_rfl
theorem Tw{T:Tb}{i:Int}{o n p d:List Int}:zX T Am (Am.tree AQ) (BK [[i],o,n,p,d])=if KQ (decide (i >= 0))=0 then some (false,[[i],o,n,p,d]) else
  if(gv T 42 0 [n,[i]]).getD 0 0=0 then some (true,[[Ak .sub .i64 i 1],gv T 23 0 [d,o,o],n,p,d]) else some (true,[[Ak .sub .i64 i 1],gv T 23 0 [d,gv T 23 0 [d,o,o],p],n,p,d]):=by kernel_rfl
theorem Wd{i:Int}{o n p d:List Int}:Ji AQ.T (Am.tree AQ) (BK [[i],o,n,p,d])=if KQ (decide (i >= 0))=0 then True else
  (AI9 n i/\if(gv AQ.T 42 0 [n,[i]]).getD 0 0=0 then True else True):=by kernel_rfl
def mu0(T:Tb):List Int:=[0,0,0,0,0,0,0,0]++(sb (nN T 1) 0 8++sb (nN T 1) 0 8)
def cu0(T:Tb):List Int:=gv T 24 0 []
theorem lY{n p:List Int}:Ji Bh.T (EF.tree Bh) (BK [n,p])=(Am.pre AQ [[255],mu0 Bh.T,n,p,cu0 Bh.T]/\True):=by kernel_rfl
theorem iH{n p:List Int}:EF.raw Bh 0 [n,p]=BF 24 ((Am.val AQ [[255],mu0 Bh.T,n,p,cu0 Bh.T]).getD 1 []):=by kernel_rfl
section
variable{o a e d:List Int}{n:Nat}
theorem ABW:Am.step AQ [[MJ 0],o,e,a,d]=some (false,[[MJ 0],o,e,a,d]):=by rw[K3,Tw,if_pos YT]
theorem AQF(hn:n<1000)(hb:(gv AQ.T 42 0 [e,[MJ (n+1)]]).getD 0 0=0):Am.step AQ [[MJ (n+1)],o,e,a,d]=some (true,[[MJ n],gv AQ.T 23 0 [d,o,o],e,a,d]):=by rw[K3,Tw,if_neg (UM n),if_pos hb,MQ hn]
theorem ARF(hn:n<1000)(hb:¬(gv AQ.T 42 0 [e,[MJ (n+1)]]).getD 0 0=0):Am.step AQ [[MJ (n+1)],o,e,a,d]=some (true,[[MJ n],gv AQ.T 23 0 [d,gv AQ.T 23 0 [d,o,o],a],e,a,d]):=by rw[K3,Tw,if_neg (UM n),if_neg hb,MQ hn]
theorem AGG:Cv AQ.T (Am.tree AQ) (BK [[MJ 0],o,e,a,d]):=Dl (by rw[Wd,if_pos YT];trivial)
theorem ACK(hn:n<256):Cv AQ.T (Am.tree AQ) (BK [[MJ (n+1)],o,e,a,d]):=Dl (AE0 Wd (UM n) (yf hn))
end
theorem vO:∀(n:Nat) {f:Nat} {o e a d:List Int},n<=256->n<f->Rm (Am.step AQ) (λins=>Cv AQ.T (Am.tree AQ) (BK ins)) f [[MJ n],o,e,a,d]
 |_,0,_,_,_,_,_,h=>by omega
 |0,f+1,o,e,a,d,_,_=>WC AGG ABW
 |n+1,f+1,o,e,a,d,hn,hf=>by
  by_cases hb:(gv AQ.T 42 0 [e,[MJ (n+1)]]).getD 0 0=0
  ·exact Ty (ACK (by omega)) (AQF (by omega) hb) (vO n (by omega) (by omega))
  ·exact Ty (ACK (by omega)) (ARF (by omega) hb) (vO n (by omega) (by omega))
theorem sS{ins:List (List Int)}:Am.pre AQ ins=Rm (Am.step AQ) (λins=>Cv AQ.T (Am.tree AQ) (BK ins)) 257 ins:=rfl
theorem j5{o e a d:List Int}:Am.pre AQ [[255],o,e,a,d]:=by
 have h:=vO 256 (f:=257) (o:=o) (e:=e) (a:=a) (d:=d) (Ie _) (by omega);rw[Vf] at h;rw[sS];exact h
theorem AR3{ks js:List IntKind}{ins:List (List Int)}(h:J8 [.agg ks,.agg js] ins):∃a b,ins= [a,b]:=by
 match ins,h with
 | [a,b],_=>exact⟨a,b,rfl⟩
theorem nH{ins:List (List Int)}(h:J8 EF.s0.params ins):Cv Bh.T (EF.tree Bh) (BK ins):=by
 obtain⟨a,b,rfl⟩:=AR3 h;exact Dl (Ye lY j5)
theorem AKV:lk 23 AQ.T=some (.one KZ):=by kernel_rfl
theorem AQs:lk 42 AQ.T=some (.one Ha):=by kernel_rfl
theorem ADY:KZ.pr 0= .l λa=>BF 24 (Ka.raw FC 0 a):=rfl
theorem lV{T:Tb}(h:lk 23 T=some (.one KZ)){d p q:List Int}{P Q:Pt}(hd:NF d dE)(hp:Pj p P)(hq:Pj q Q):Pj (gv T 23 0 [d,p,q]) (P.add Q):=by
 have hn:=Zy hd hp hq;rw[Bf h,ADY];show Pj (BF 24 _) _;rw[Ay hn.len];exact hn
theorem zn{E n:Nat}{e:List Int}(he:N8 e (E:Int))(hn:n<256):(gv AQ.T 42 0 [e,[MJ (n+1)]]).getD 0 0=0↔¬E/2^n%2=1:=by
 have h:gv AQ.T 42 0 [e,[MJ (n+1)]]= [KQ (decide (E/2^n%2=1))]:=ACn AQs he hn;rw[h,Qx];exact Un
def muB(E:Nat)(P:Pt):Nat->Pt->Pt
 |0,X=>X
 |n+1,X=>muB E P n (if E/2^n%2=1 then(X.add X).add P else X.add X)
theorem iA:∀(n:Nat) {f E:Nat} {o a e d:List Int} {X P:Pt},n<=256->n<f->Pj o X->Pj a P->N8 e (E:Int)->NF d dE->Pj ((Ht (Am.step AQ) f [[MJ n],o,e,a,d]).getD 1 []) (muB E P n X)
 |_,0,_,_,_,_,_,_,_,_,h,_,_,_,_=>by omega
 |0,f+1,E,o,a,e,d,X,P,_,_,ho,_,_,_=>by
  rw[UF ABW];exact ho
 | n+1,f+1,E,o,a,e,d,X,P,hn,hf,ho,ha,he,hd=>by
  have h2:=lV AKV hd ho ho;unfold muB;by_cases hB:E/2^n%2=1
  ·rw[RF (ARF (by omega) (λh=>(zn he (by omega)).1 h hB)),if_pos hB];exact iA n (by omega) (by omega) (lV AKV hd h2 ha) ha he hd
  ·rw[RF (AQF (by omega) ((zn he (by omega)).2 hB)),if_neg hB];exact iA n (by omega) (by omega) h2 ha he hd
theorem AED(P:Pt)(a:Nat):∀n,P.nm (a*n)=(P.nm a).nm n
 |0=>rfl
 |n+1=>by rw[Nat.mul_succ,Pt.yp,AED P a n];rfl
theorem AEO(E:Nat)(P:Pt):∀(n:Nat) (X:Pt),muB E P n X=(X.nm (2^n)).add (P.nm (E%2^n))
 |0,X=>by
  rw[Nat.pow_zero,Nat.mod_one];show X=(Pt.zero.add X).add Pt.zero;rw[Pt.add_zero,Pt.zero_add]
 | n+1,X=>by
  have e1:(X.add X).nm (2^n)=X.nm (2^(n+1)):=by
   have:X.add X=X.nm 2:=by
    show _=(Pt.zero.add X).add X;rw[Pt.zero_add]
   rw[this, <- AED,kw,qI]
  have e2:E%2^(n+1)=2^n*(E/2^n%2)+E%2^n:=by
   rw[kw,Nat.mod_mul,Nat.add_comm]
  unfold muB;rw[AEO E P n,e2];split
  ·rename_i hb;rw[hb,Nat.mul_one,Pt.yp,PV,e1,Pt.add_assoc]
  ·rename_i hb;have:E/2^n%2=0:=by omega
   rw[this,Nat.mul_zero,KN,e1]
theorem zO:∀n,Pt.zero.nm n=Pt.zero
 |0=>rfl
 |n+1=>by show(Pt.zero.nm n).add Pt.zero=_;rw[Pt.add_zero,zO n]
theorem AC7{E n:Nat}(P:Pt)(h:E<2^n):muB E P n Pt.zero=P.nm E:=by
 rw[AEO,zO,Pt.zero_add,Nat.mod_eq_of_lt h]
theorem kQ{ins:List (List Int)}:Am.val AQ ins=Ht (Am.step AQ) 257 ins:=rfl
theorem ARU:lk 34 Bh.T=some (.one DF):=by kernel_rfl
theorem ASB:lk 24 Bh.T=some (.one JI):=by kernel_rfl
theorem AOH:Pj (mu0 Bh.T) Pt.zero:=by
 have h1:NF (nN Bh.T 1) (1:Fp):=by
  have:=VA ARU (n:=1) (by decide);rwa [P8] at this
 exact⟨_,_,_,0,1,1,rfl,ve,h1.sb,h1.sb,AHL⟩
theorem ALc:NF (cu0 Bh.T) dE:=lF ASB
theorem Sk{n p:List Int}{P:Pt}{E:Nat}(hn:N8 n (E:Int))(hp:Pj p P):Pj (EF.raw Bh 0 [n,p]) (P.nm E):=by
 have h:=iA 256 (f:=257) (Ie _) (by omega) AOH hp hn ALc;rw[AC7 P (AKb hn AKv),Vf] at h;rw[iH,kQ,Ay h.len];exact h
def EL:Ac:=⟨6000,Ab Tryz.f26,Tryz.f26.ntmps,Tryz.f26.results.toList,[],⟨[],false,λ_=>True,[],[],[.agg MI z1]⟩⟩
def CZ:Cx:=F7 [(34,.one DF),(38,.one EQ),(32,.one Cw),(41,.one Ia),(15,.one Js)] []
def XE:Az:=EL.sum CZ
theorem VQ:(EL.cN CZ&&ADA (EL.tree CZ))=true:=by kernel_rfl
def SZ(T:Tb):List Int:=gv T 41 0 [YE T (nN T 4) (ADJ T (nN T 5))]
theorem dA{T:Tb}:EL.ie T CZ 0 []=sb (gv T 15 0 [SZ T]) 0 24:=by kernel_rfl
theorem pE:Js.pr 0= .l λa=>BF 24 (EU.raw Bp 0 a):=rfl
theorem y45:Jn 4*(Jn 5)⁻¹ = yG:=by
 have h1:Jn 5≠0:=by decide +kernel
 refine Ph h1 ?_;have h2:=VM h1;have h3:yG*Jn 5=Jn 4:=by decide +kernel
 rw[h3];generalize (Jn 5)⁻¹ = u at *
 grind
theorem ANZ{l:List Int}(hl:l.length=32)(h:cI l)(wc:l.getD 31 0<128):HQ l=l:=by
 rw[rG hl h]
 match l,hl with
 | [b0,b1,b2,b3,b4,b5,b6,b7,b8,b9,b10,b11,ω,Γ,b14,b15,b16,b17,b18,Δ,b20,b21,b22,b23,Θ,Ψ,Ξ,b27,b28,b29,b30,b31],_=>
  have:=h b31 (by simp);have e:b31%128=b31:=uu this.1 wc;show[b0,b1,b2,b3,b4,b5,b6,b7,b8,b9,b10,b11,ω,Γ,b14,b15,b16,b17,b18,Δ,b20,b21,b22,b23,Θ,Ψ,Ξ,b27,b28,b29,b30,b31%128]=_;rw[e]
theorem APw{y:Fp}(h:∃x,Md dE x y)(e:y=yG):(⟨xY y,y,WY h⟩:Pt)=Um:=by
 subst e;rfl
theorem Rx:Pj (EL.raw CZ 0 []) Um:=by
 rw[Gn,dA];have T1:lk 34 CZ.T=some (.one DF):=rfl;have T2:lk 38 CZ.T=some (.one EQ):=rfl;have T3:lk 32 CZ.T=some (.one Cw):=rfl;have T4:lk 41 CZ.T=some (.one Ia):=rfl;have T5:lk 15 CZ.T=some (.one Js):=rfl;generalize CZ.T=T at *
 have hY:=He T3 (VA T1 (n:=4) (by decide)) (YZ T2 (VA T1 (n:=5) (by decide)));rw[y45] at hY;have hB:S6 (SZ T) (yG.val:Int):=ADi T4 hY;have wc:(SZ T).getD 31 0<128:=by
  rw[hB.cC];exact(ACJ yG).1
 have hy:yB (SZ T)=yG:=by
  unfold yB;rw[ANZ hB.len hB.cI wc,hB.val,Xo]
 have hc:∃x,Md dE x (yB (SZ T)):=by rw[hy];exact ACp
 have hd:=(aX hB.len hB.cI).1.pr hc;have hp:cO (SZ T) hc=Um:=by
  unfold cO;rw[if_neg (by omega)];exact APw hc hy
 rw[hp] at hd;have he:gv T 15 0 [SZ T]=EU.raw Bp 0 [SZ T]:=by
  rw[Bf T5,pE];exact Ay hd.len
 rw[he,oV hd.len];exact hd
section
variable{GB:Nat}{GC:Nat->Nat->Option Value}{ad:Nat->Nat×Nat}(hG:GI GB GC ad)
include hG
theorem XL:Bv Tryz.prog GB GC 25 (.one YO):=(Ac.Fm hG (i:=EF) (l:=Am) (T':=[(23,.one KZ),(42,.one Ha)]) (L:=[]) (L':=[]) (pre:=λ_=>True) (pl:=Am.pre AQ) (tg:=1000000+25) (Cb:=AQ) (C1:=Bh) (by decide) rfl rfl
 (.cons (k:=34) rfl (G7 hG) Tryz.call34 (Ac.len _ _) (.cons (k:=24) rfl (Qe hG) Tryz.call24 (Ac.len _ _) .nil)) .nil .nil Tryz.func25 rfl rfl rfl (.inl rfl) (.inl rfl) (λ_ _ h=>h)
 (.cons (k:=23) rfl (Ul hG) Tryz.call23 (Ac.len _ _) (.cons (k:=42) rfl (Xx hG) Tryz.call42 (Ac.fX _ _) .nil)) VV (by kernel_rfl) (by kernel_rfl) VZ λ_ h _=>nH h).AF λ_ _=>trivial
theorem WA:Bv Tryz.prog GB GC 26 (.one XE):=Ac.fin hG (.cons (k:=34) rfl (G7 hG) Tryz.call34 (Ac.len _ _) (.cons (k:=38) rfl (K9 hG) Tryz.call38 (Ac.len _ _) (.cons (k:=32) rfl (IU hG) Tryz.call32 (λ_=>Eh _ _ _ _) (.cons (k:=41) rfl (Tj hG) Tryz.call41 (Ac.len _ _) (.cons (k:=15) rfl (SH hG) Tryz.call15 (Ac.len _ _) .nil))))) .nil Tryz.func26 rfl rfl rfl (.inl rfl) VQ
end
end
section
open Go Ma
section
variable{o a b m:List Int}{n:Nat}
end
theorem AG1{T:Tb}(h:lk 36 T=some (.one G5)){a b p:List Int}{m n q:Int}(ha:N8 a m)(hb:N8 b n)(hp:N8 p q)(hm:m<q)(hn:n<q)(h2:2*q<=pw 8):N8 (gv T 36 0 [a,b,p]) ((m+n)%q):=
 Sa h zC (Yy ha hb hp hm hn h2)
theorem AIw:N8 [0,0,0,0,0,0,0,0] 0:=⟨rfl,Y8 (by kernel_rfl),by kernel_rfl⟩
section
variable{GB:Nat}{GC:Nat->Nat->Option Value}{ad:Nat->Nat×Nat}(hG:GI GB GC ad)
include hG
end
end
end Go.Proofs.YtkbfdaoohhmgoaaGreatDoor
