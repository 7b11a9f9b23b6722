/- Contracts of the reference: multiples of a point, the base point. -/
import Derived.Test.YtloibefkijfdlaaGreatDoorNd
namespace Go.Proofs.YtloibefkijfdlaaGreatDoor
noncomputable section
open Go Ma
def Ap:I7:=⟨6000,Sj 0 (Ab Tryz.f36),Tryz.f36.ntmps,0,[],⟨[.int .i64,.mem Y7 1 true,.mem U8 2 false,.mem Y7 3 false,.mem U8 4 false],true,fun _=>True,[(1,Y7,z1)],[],[]⟩,[7,6,2,3,5],[12,13,14,15,16,17,18,19,20,21,22,23,24,25,26],fun _=>257⟩
def AO:Cx:=GJ [(56,.one Lm),(67,.one GZ)] []
def EG:AQ:=⟨6000,Ab Tryz.f36,Tryz.f36.ntmps,Tryz.f36.results.toList,[],⟨[.agg U8,.agg Y7],true,fun _=>True,[],[],[.agg Y7 z1]⟩⟩
def BZ:Cx:=aL ((1000000+36,.one (Ap.sum AO (Ap.pre AO))) :: [(68,.one DU),(57,.one KR)]) [] [(Ap.id,⟨1000000+36,Ap.ps,Ap.ss,Ap.cl,Ap.nt⟩)]
def ZH:Az:= { EG.sumH BZ (fun _=>True) with hp:=false }
theorem Vu:Ap.chk AO=true:=by kernel_rfl
theorem XO:EG.chk BZ=true:=by kernel_rfl
theorem Ty{T:Tb}{i:Int}{o n p d:List Int}:sJ T Ap (Ap.tree AO) (A8 [[i],o,n,p,d])=if K9 (decide (i ≥ 0))=0 then some (false,[[i],o,n,p,d]) else
  if (gv T 67 0 [n,[i]]).getD 0 0=0 then some (true,[[Ao .sub .i64 i 1],gv T 56 0 [d,o,o],n,p,d]) else some (true,[[Ao .sub .i64 i 1],gv T 56 0 [d,gv T 56 0 [d,o,o],p],n,p,d]):=by kernel_rfl
theorem Wh{i:Int}{o n p d:List Int}:J9 AO.T (Ap.tree AO) (A8 [[i],o,n,p,d])=if K9 (decide (i ≥ 0))=0 then True else
  (AEl n i∧if (gv AO.T 67 0 [n,[i]]).getD 0 0=0 then True else True):=by kernel_rfl
def mu0(T:Tb):List Int:=[0,0,0,0,0,0,0,0]++(sb (qH T 1) 0 8++sb (qH T 1) 0 8)
def cu0(T:Tb):List Int:=gv T 57 0 []
theorem qh{n p:List Int}:J9 BZ.T (EG.tree BZ) (A8 [n,p])=(Ap.pre AO [[255],mu0 BZ.T,n,p,cu0 BZ.T]∧True):=by kernel_rfl
theorem jf{n p:List Int}:EG.raw BZ 0 [n,p]=Aw 24 ((Ap.val AO [[255],mu0 BZ.T,n,p,cu0 BZ.T]).getD 1 []):=by kernel_rfl
section
variable{o a e d:List Int}{n:Nat}
theorem AFI:Ap.step AO [[Ls 0],o,e,a,d]=some (false,[[Ls 0],o,e,a,d]):=by rw[Jz,Ty,if_pos VA]
theorem ARq(hn:n<1000)(hb:(gv AO.T 67 0 [e,[Ls (n+1)]]).getD 0 0=0):Ap.step AO [[Ls (n+1)],o,e,a,d]=some (true,[[Ls n],gv AO.T 56 0 [d,o,o],e,a,d]):=by rw[Jz,Ty,if_neg (QE n),if_pos hb,PD hn]
theorem ATy(hn:n<1000)(hb:¬ (gv AO.T 67 0 [e,[Ls (n+1)]]).getD 0 0=0):Ap.step AO [[Ls (n+1)],o,e,a,d]=some (true,[[Ls n],gv AO.T 56 0 [d,gv AO.T 56 0 [d,o,o],a],e,a,d]):=by rw[Jz,Ty,if_neg (QE n),if_neg hb,PD hn]
theorem AIU:Cn AO.T (Ap.tree AO) (A8 [[Ls 0],o,e,a,d]):=Dk (by rw[Wh,if_pos VA];trivial)
theorem AER(hn:n<256):Cn AO.T (Ap.tree AO) (A8 [[Ls (n+1)],o,e,a,d]):=Dk (sF Wh (QE n) (j6 hn))
end
theorem vE:∀ (n:Nat) {f:Nat} {o e a d:List Int},n≤256→n<f→Rj (Ap.step AO) (fun ins=>Cn AO.T (Ap.tree AO) (A8 ins)) f [[Ls n],o,e,a,d]
 |_,0,_,_,_,_,_,h=>by omega
 |0,f+1,o,e,a,d,_,_=>Tt AIU AFI
 |n+1,f+1,o,e,a,d,hn,hf=>by
  by_cases hb:(gv AO.T 67 0 [e,[Ls (n+1)]]).getD 0 0=0
  ·exact RF (AER (by omega)) (ARq (by omega) hb) (vE n (by omega) (by omega))
  ·exact RF (AER (by omega)) (ATy (by omega) hb) (vE n (by omega) (by omega))
theorem ug{ins:List (List Int)}:Ap.pre AO ins=Rj (Ap.step AO) (fun ins=>Cn AO.T (Ap.tree AO) (A8 ins)) 257 ins:=rfl
theorem jo{o e a d:List Int}:Ap.pre AO [[255],o,e,a,d]:=by
 have h:=vE 256 (f:=257) (o:=o) (e:=e) (a:=a) (d:=d) (JP _) (by omega);rw[Ut] at h;rw[ug];exact h
theorem ATJ{ks js:List IntKind}{ins:List (List Int)}(h:Ka [.agg ks,.agg js] ins):∃ a b,ins= [a,b]:=by
 match ins,h with
 | [a,b],_=>exact⟨a,b,rfl⟩
theorem qG{ins:List (List Int)}(h:Ka EG.s0.params ins):Cn BZ.T (EG.tree BZ) (A8 ins):=by
 obtain⟨a,b,rfl⟩:=ATJ h;exact Dk (Ww qh jo)
theorem ALQ:lk 56 AO.T=some (.one Lm):=by kernel_rfl
theorem ATs:lk 67 AO.T=some (.one GZ):=by kernel_rfl
theorem AC0:Lm.pr 0= .l fun a=>Aw 24 (QO.raw Ii 0 a):=rfl
theorem ru{T:Tb}(h:lk 56 T=some (.one Lm)){d p q:List Int}{P Q:Pt}(hd:NF d dE)(hp:Pj p P)(hq:Pj q Q):Pj (gv T 56 0 [d,p,q]) (P.add Q):=by
 have hn:=AB4 hd hp hq;rw[Bg h,AC0];show Pj (Aw 24 _) _;rw[Au hn.len];exact hn
theorem AAF{E n:Nat}{e:List Int}(he:N8 e (E:Int))(hn:n<256):(gv AO.T 67 0 [e,[Ls (n+1)]]).getD 0 0=0↔¬ E/2^n%2=1:=by
 have h:gv AO.T 67 0 [e,[Ls (n+1)]]= [K9 (decide (E/2^n%2=1))]:=tF ATs he hn;rw[h,Qu];exact UV
def muB(E:Nat)(P:Pt):Nat→Pt→Pt
 |0,X=>X
 |n+1,X=>muB E P n (if E/2^n%2=1 then (X.add X).add P else X.add X)
theorem j5:∀ (n:Nat) {f E:Nat} {o a e d:List Int} {X P:Pt},n≤256→n<f→Pj o X→Pj a P→N8 e (E:Int)→NF d dE→Pj ((Gf (Ap.step AO) f [[Ls n],o,e,a,d]).getD 1 []) (muB E P n X)
 |_,0,_,_,_,_,_,_,_,_,h,_,_,_,_=>by omega
 |0,f+1,E,o,a,e,d,X,P,_,_,ho,_,_,_=>by
  rw[Rv AFI];exact ho
 | n+1,f+1,E,o,a,e,d,X,P,hn,hf,ho,ha,he,hd=>by
  have h2:=ru ALQ hd ho ho;unfold muB
  by_cases hB:E/2^n%2=1
  ·rw[PY (ATy (by omega) (fun h=>(AAF he (by omega)).1 h hB)),if_pos hB];exact j5 n (by omega) (by omega) (ru ALQ hd h2 ha) ha he hd
  ·rw[PY (ARq (by omega) ((AAF he (by omega)).2 hB)),if_neg hB];exact j5 n (by omega) (by omega) h2 ha he hd
theorem ACT(P:Pt)(a:Nat):∀ n,P.nm (a*n)=(P.nm a).nm n
 |0=>rfl
 |n+1=>by rw[Nat.mul_succ,Pt.nm_add,ACT P a n];rfl
theorem AFM(E:Nat)(P:Pt):∀ (n:Nat) (X:Pt),muB E P n X=(X.nm (2^n)).add (P.nm (E%2^n))
 |0,X=>by
  rw[Nat.pow_zero,Nat.mod_one];show X=(Pt.zero.add X).add Pt.zero;rw[Pt.add_zero,Pt.zero_add]
 | n+1,X=>by
  have e1:(X.add X).nm (2^n)=X.nm (2^(n+1)):=by
   have:X.add X=X.nm 2:=by
    show _=(Pt.zero.add X).add X;rw[Pt.zero_add]
   rw[this, ← ACT,r9,zcp]
  have e2:E%2^(n+1)=2^n*(E/2^n%2)+E%2^n:=by
   rw[r9,Nat.mod_mul,Nat.add_comm]
  unfold muB;rw[AFM E P n,e2]
  split
  ·rename_i hb
   rw[hb,Nat.mul_one,Pt.nm_add,Qa,e1,Pt.add_assoc]
  ·rename_i hb
   have:E/2^n%2=0:=by omega
   rw[this,Nat.mul_zero,NU,e1]
theorem zD:∀ n,Pt.zero.nm n=Pt.zero
 |0=>rfl
 |n+1=>by show (Pt.zero.nm n).add Pt.zero=_;rw[Pt.add_zero,zD n]
theorem ACW{E n:Nat}(P:Pt)(h:E<2^n):muB E P n Pt.zero=P.nm E:=by
 rw[AFM,zD,Pt.zero_add,Nat.mod_eq_of_lt h]
theorem mg{ins:List (List Int)}:Ap.val AO ins=Gf (Ap.step AO) 257 ins:=rfl
theorem ATC:lk 68 BZ.T=some (.one DU):=by kernel_rfl
theorem ASh:lk 57 BZ.T=some (.one KR):=by kernel_rfl
theorem AL9:Pj (mu0 BZ.T) Pt.zero:=by
 have h1:NF (qH BZ.T 1) (1:Fp):=by
  have:=WI ATC (n:=1) (by decide)
  rwa [Uk] at this
 exact⟨_,_,_,0,1,1,rfl,yj,h1.sb,h1.sb,AIF⟩
theorem AOz:NF (cu0 BZ.T) dE:=oK ASh
theorem UN{n p:List Int}{P:Pt}{E:Nat}(hn:N8 n (E:Int))(hp:Pj p P):Pj (EG.raw BZ 0 [n,p]) (P.nm E):=by
 have h:=j5 256 (f:=257) (JP _) (by omega) AL9 hp hn AOz;rw[ACW P (AFV hn AEX),Ut] at h;rw[jf,mg,Au h.len];exact h
def EN:AQ:=⟨6000,Ab Tryz.f40,Tryz.f40.ntmps,Tryz.f40.results.toList,[],⟨[],false,fun _=>True,[],[],[.agg Y7 z1]⟩⟩
def CU:Cx:=GJ [(68,.one DU),(65,.one Es),(66,.one C8),(45,.one JY),(52,.one OA)] []
def YH:Az:=EN.sum CU
theorem Vn:(EN.chk CU&&AGF (EN.tree CU))=true:=by kernel_rfl
def geB(T:Tb):List Int:=gv T 45 0 [ZE T (qH T 4) (AC2 T (qH T 5))]
theorem gU{T:Tb}:EN.valT T CU 0 []=sb (gv T 52 0 [geB T]) 0 24:=by kernel_rfl
theorem qD:OA.pr 0= .l fun a=>Aw 24 (Ir.raw Ca 0 a):=rfl
theorem y45:Ki 4*(Ki 5)⁻¹ = yG:=by
 have h1:Ki 5≠0:=by decide +kernel
 refine Om h1 ?_;have h2:=V4 h1;have h3:yG*Ki 5=Ki 4:=by decide +kernel
 rw[h3];generalize (Ki 5)⁻¹ = u at *
 grind
theorem AL8{l:List Int}(hl:l.length=32)(h:by8 l)(h31:l.getD 31 0<128):elB l=l:=by
 rw[AEF hl h]
 match l,hl with
 | [b0,b1,b2,b3,b4,b5,b6,b7,b8,b9,Ω,b11,b12,b13,b14,b15,b16,Ψ,b18,b19,b20,b21,b22,b23,b24,Ξ,b26,b27,b28,b29,b30,Γ],_=>
  have:=h Γ (by simp);have e:Γ%128=Γ:=zcd this.1 h31;show [b0,b1,b2,b3,b4,b5,b6,b7,b8,b9,Ω,b11,b12,b13,b14,b15,b16,Ψ,b18,b19,b20,b21,b22,b23,b24,Ξ,b26,b27,b28,b29,b30,Γ%128]=_;rw[e]
theorem AKu{y:Fp}(h:∃ x,Ph dE x y)(e:y=yG):(⟨xY y,y,VY h⟩:Pt)=Nf:=by
 subst e;rfl
theorem OI:Pj (EN.raw CU 0 []) Nf:=by
 rw[Et,gU];have T1:lk 68 CU.T=some (.one DU):=rfl;have T2:lk 65 CU.T=some (.one Es):=rfl;have T3:lk 66 CU.T=some (.one C8):=rfl;have T4:lk 45 CU.T=some (.one JY):=rfl;have T5:lk 52 CU.T=some (.one OA):=rfl;generalize CU.T=T at *
 have hY:=Iy T3 (WI T1 (n:=4) (by decide)) (Zf T2 (WI T1 (n:=5) (by decide)));rw[y45] at hY;have hB:B32 (geB T) (yG.val:Int):=ADX T4 hY;have h31:(geB T).getD 31 0<128:=by
  rw[hB.octV];exact (ADm yG).1
 have hy:yB (geB T)=yG:=by
  unfold yB;rw[AL8 hB.len hB.by8 h31,hB.val,Yd]
 have hc:∃ x,Ph dE x (yB (geB T)):=by rw[hy];exact pK
 have hd:=(uQ hB.len hB.by8).1.pr hc;have hp:ptD (geB T) hc=Nf:=by
  unfold ptD;rw[if_neg (by omega)];exact AKu hc hy
 rw[hp] at hd;have he:gv T 52 0 [geB T]=Ir.raw Ca 0 [geB T]:=by
  rw[Bg T5,qD];exact Au hd.len
 rw[he,Xd hd.len];exact hd
section
variable{GB:Nat}{GC:Nat→Nat→Option Value}{ad:Nat→Nat×Nat}(hG:Jk GB GC ad)
include hG
theorem YI:Bp Tryz.prog GB GC 36 (.one ZH):=(AQ.finL hG (i:=EG) (l:=Ap) (T':=[(56,.one Lm),(67,.one GZ)]) (L:=[]) (L':=[]) (pre:=fun _=>True) (pl:=Ap.pre AO) (lid:=1000000+36) (Cb:=AO) (C1:=BZ) (by decide) rfl rfl
 (.cons (k:=68) rfl (Ik hG) Tryz.call68 (AQ.len _ _) (.cons (k:=57) rfl (Vb hG) Tryz.call57 (AQ.len _ _) .nil)) .nil .nil Tryz.func36 rfl rfl rfl (.inl rfl) (.inl rfl) (fun _ _ h=>h)
 (.cons (k:=56) rfl (gN hG) Tryz.call56 (AQ.len _ _) (.cons (k:=67) rfl (UE hG) Tryz.call67 (AQ.lenP _ _) .nil)) Vu (by kernel_rfl) (by kernel_rfl) XO fun _ h _=>qG h).noPre fun _ _=>trivial
theorem Wo:Bp Tryz.prog GB GC 40 (.one YH):=AQ.fin hG (.cons (k:=68) rfl (Ik hG) Tryz.call68 (AQ.len _ _) (.cons (k:=65) rfl (Mq hG) Tryz.call65 (AQ.len _ _) (.cons (k:=66) rfl (Jh hG) Tryz.call66 (fun _=>FO _ _ _ _) (.cons (k:=45) rfl (Qi hG) Tryz.call45 (AQ.len _ _) (.cons (k:=52) rfl (ZC hG) Tryz.call52 (AQ.len _ _) .nil))))) .nil Tryz.func40 rfl rfl rfl (.inl rfl) Vn
end
end
noncomputable section
open Go Ma
def BH:I7:=⟨6000,Sj 0 (Ab Tryz.f46),Tryz.f46.ntmps,0,[],⟨[.int .i64,.mem U8 1 true,.mem U8 2 false,.mem U8 3 false,.mem U8 4 false],true,fun _=>True,[(1,U8,z1)],[],[]⟩,[10,9,4,5,7],[12,13,14,15,16,17,18,19,20,21,22,23,24,25,26],fun _=>257⟩
def Ad:Cx:=GJ [(71,.one Eb),(67,.one GZ)] []
def Hm:AQ:=⟨6000,Ab Tryz.f46,Tryz.f46.ntmps,Tryz.f46.results.toList,[],⟨[.agg U8,.agg U8,.agg U8,.agg U8],true,fun _=>True,[],[],[.agg U8 z1]⟩⟩
def Ec:Cx:=aL ((1000000+46,.one (BH.sum Ad (BH.pre Ad))) :: [(71,.one Eb)]) [] [(BH.id,⟨1000000+46,BH.ps,BH.ss,BH.cl,BH.nt⟩)]
def gT:Az:= { Hm.sumH Ec (fun _=>True) with hp:=false }
theorem YV:BH.chk Ad=true:=by kernel_rfl
theorem ZA:Hm.chk Ec=true:=by kernel_rfl
theorem YD{T:Tb}{i:Int}{o a b m:List Int}:sJ T BH (BH.tree Ad) (A8 [[i],o,a,b,m])=if K9 (decide (i ≥ 0))=0 then some (false,[[i],o,a,b,m]) else
  if (gv T 67 0 [b,[i]]).getD 0 0=0 then some (true,[[Ao .sub .i64 i 1],gv T 71 0 [o,o,m],a,b,m]) else some (true,[[Ao .sub .i64 i 1],gv T 71 0 [gv T 71 0 [o,o,m],a,m],a,b,m]):=by kernel_rfl
theorem fG{i:Int}{o a b m:List Int}:J9 Ad.T (BH.tree Ad) (A8 [[i],o,a,b,m])=if K9 (decide (i ≥ 0))=0 then True else
  (AEl b i∧if (gv Ad.T 67 0 [b,[i]]).getD 0 0=0 then True else True):=by kernel_rfl
theorem ABC{a b c m:List Int}:J9 Ec.T (Hm.tree Ec) (A8 [a,b,c,m])=(BH.pre Ad [[255],[0,0,0,0,0,0,0,0],a,b,m]∧True):=by kernel_rfl
theorem sG{a b c m:List Int}:Hm.raw Ec 0 [a,b,c,m]=gv Ec.T 71 0 [Aw 8 ((BH.val Ad [[255],[0,0,0,0,0,0,0,0],a,b,m]).getD 1 []),c,m]:=by kernel_rfl
section
variable{o a b m:List Int}{n:Nat}
theorem AAd:BH.step Ad [[Ls 0],o,a,b,m]=some (false,[[Ls 0],o,a,b,m]):=by rw[Jz,YD,if_pos VA]
theorem ALB(hn:n<1000)(hb:(gv Ad.T 67 0 [b,[Ls (n+1)]]).getD 0 0=0):BH.step Ad [[Ls (n+1)],o,a,b,m]=some (true,[[Ls n],gv Ad.T 71 0 [o,o,m],a,b,m]):=by rw[Jz,YD,if_neg (QE n),if_pos hb,PD hn]
theorem ALR(hn:n<1000)(hb:¬ (gv Ad.T 67 0 [b,[Ls (n+1)]]).getD 0 0=0):BH.step Ad [[Ls (n+1)],o,a,b,m]=some (true,[[Ls n],gv Ad.T 71 0 [gv Ad.T 71 0 [o,o,m],a,m],a,b,m]):=by rw[Jz,YD,if_neg (QE n),if_neg hb,PD hn]
theorem AJd:Cn Ad.T (BH.tree Ad) (A8 [[Ls 0],o,a,b,m]):=Dk (by rw[fG,if_pos VA];trivial)
theorem AE9(hn:n<256):Cn Ad.T (BH.tree Ad) (A8 [[Ls (n+1)],o,a,b,m]):=Dk (sF fG (QE n) (j6 hn))
end
theorem uX:∀ (n:Nat) {f:Nat} {o a b m:List Int},n≤256→n<f→Rj (BH.step Ad) (fun ins=>Cn Ad.T (BH.tree Ad) (A8 ins)) f [[Ls n],o,a,b,m]
 |_,0,_,_,_,_,_,h=>by omega
 |0,f+1,o,a,b,m,_,_=>Tt AJd AAd
 |n+1,f+1,o,a,b,m,hn,hf=>by
  by_cases hb:(gv Ad.T 67 0 [b,[Ls (n+1)]]).getD 0 0=0
  ·exact RF (AE9 (by omega)) (ALB (by omega) hb) (uX n (by omega) (by omega))
  ·exact RF (AE9 (by omega)) (ALR (by omega) hb) (uX n (by omega) (by omega))
theorem vD{ins:List (List Int)}:BH.pre Ad ins=Rj (BH.step Ad) (fun ins=>Cn Ad.T (BH.tree Ad) (A8 ins)) 257 ins:=rfl
theorem vP{o a b m:List Int}:BH.pre Ad [[255],o,a,b,m]:=by
 have h:=uX 256 (f:=257) (o:=o) (a:=a) (b:=b) (m:=m) (JP _) (by omega);rw[Ut] at h;rw[vD];exact h
theorem AVZ{k1 k2 k3 k4:List IntKind}{ins:List (List Int)}(h:Ka [.agg k1,.agg k2,.agg k3,.agg k4] ins):∃ a b c d,ins= [a,b,c,d]:=by
 match ins,h with
 | [a,b,c,d],_=>exact⟨a,b,c,d,rfl⟩
theorem AA9{ins:List (List Int)}(h:Ka Hm.s0.params ins):Cn Ec.T (Hm.tree Ec) (A8 ins):=by
 obtain⟨a,b,c,d,rfl⟩:=AVZ h;exact Dk (Ww ABC vP)
theorem AKo:lk 71 Ad.T=some (.one Eb):=by kernel_rfl
theorem AMK:lk 67 Ad.T=some (.one GZ):=by kernel_rfl
theorem APA:lk 71 Ec.T=some (.one Eb):=by kernel_rfl
theorem Zm{T:Tb}(h:lk 71 T=some (.one Eb)){a b p:List Int}{m n q:Int}(ha:N8 a m)(hb:N8 b n)(hp:N8 p q)(hm:m<q)(hn:n<q)(h2:2*q≤pw 8):N8 (gv T 71 0 [a,b,p]) ((m+n)%q):=
 TM h wY (ZQ ha hb hp hm hn h2)
theorem yC{E n:Nat}{e:List Int}(he:N8 e (E:Int))(hn:n<256):(gv Ad.T 67 0 [e,[Ls (n+1)]]).getD 0 0=0↔¬ E/2^n%2=1:=by
 have h:gv Ad.T 67 0 [e,[Ls (n+1)]]= [K9 (decide (E/2^n%2=1))]:=tF AMK he hn;rw[h,Qu];exact UV
theorem AK0{l:List Int}{v:Int}(h:N8 l v):0≤v:=h.bd.1
theorem mG{q:Int}(h2:2*q≤pw 8)(hq:0<q):∀ (n:Nat) {f E:Nat} {o a b m:List Int} {x y:Int},n≤256→n<f→N8 o x→x<q→N8 a y→y<q→N8 b (E:Int)→N8 m q→N8 ((Gf (BH.step Ad) f [[Ls n],o,a,b,m]).getD 1 []) ((x*2^n+y*(E%2^n:Nat))%q)
 |_,0,_,_,_,_,_,_,_,_,h,_,_,_,_,_,_=>by omega
 | 0,f+1,E,o,a,b,m,x,y,_,_,ho,hx,_,_,_,_=>by
  rw[Rv AAd];have e:(x*2^0+y*(E%2^0:Nat))%q=x:=by
   rw[Nat.pow_zero,Nat.mod_one];simp only[Int.pow_zero,zcz,Int.natCast_zero,Int.mul_zero,wP];exact zcd (AK0 ho) hx
  rw[e];exact ho
 | n + 1,f+1,E,o,a,b,m,x,y,hn,hf,ho,hx,ha,hy,hb,hm=>by
  have h3:=Zm AKo ho ho hm hx hx h2;have hx3:(x+x)%q<q:=Int.emod_lt_of_pos _ hq;have e2:((E%2^(n+1):Nat):Int)=2^n*((E/2^n%2:Nat):Int)+(E%2^n:Nat):=by
   rw[r9,Nat.mod_mul,Nat.add_comm];push_cast;rfl
  by_cases hB:E/2^n%2=1
  ·rw[PY (ALR (by omega) (fun h=>(yC hb (by omega)).1 h hB))];have h4:=Zm AKo h3 ha hm hx3 hy h2;have h5:=mG h2 hq n (f:=f) (by omega) (by omega) h4 (Int.emod_lt_of_pos _ hq) ha hy hb hm;rw[hB] at e2;rw[e2];have e3:(x*2^(n+1)+y*(2^n*((1:Nat):Int)+(E%2^n:Nat)))%q=((((x+x)%q+y)%q)*2^n+y*(E%2^n:Nat))%q:=by
    generalize ((E%2^n:Nat):Int)=r;rw[zcq];generalize (2:Int)^n=t;rw[Int.emod_add_emod];refine (zct _ (Int.dvd_refl q)).symm.trans ?_;refine Int.emod_eq_emod_iff_emod_sub_eq_zero.2 ?_;have d:=Int.emod_add_mul_ediv (x+x+y) q;have e4:(x*(t*2)+y*(t*((1:Nat):Int)+r))%q-((x+x+y)%q*t+y*r)=((x+x+y)/q*t-(x*(t*2)+y*(t*((1:Nat):Int)+r))/q)*q:=by
     have d2:=Int.emod_add_mul_ediv (x*(t*2)+y*(t*((1:Nat):Int)+r)) q
     grind
    rw[e4];exact Int.mul_emod_left _ _
   rw[e3];exact h5
  ·rw[PY (ALB (by omega) ((yC hb (by omega)).2 hB))];have h5:=mG h2 hq n (f:=f) (by omega) (by omega) h3 hx3 ha hy hb hm;have hB0:E/2^n%2=0:=by omega
   rw[hB0] at e2;rw[e2];have e3:(x*2^(n+1)+y*(2^n*((0:Nat):Int)+(E%2^n:Nat)))%q=(((x+x)%q)*2^n+y*(E%2^n:Nat))%q:=by
    generalize ((E%2^n:Nat):Int)=r;rw[zcq];generalize (2:Int)^n=t;refine (zct _ (Int.dvd_refl q)).symm.trans ?_;refine Int.emod_eq_emod_iff_emod_sub_eq_zero.2 ?_;have d:=Int.emod_add_mul_ediv (x+x) q;have e4:(x*(t*2)+y*(t*((0:Nat):Int)+r))%q-((x+x)%q*t+y*r)=((x+x)/q*t-(x*(t*2)+y*(t*((0:Nat):Int)+r))/q)*q:=by
     have d2:=Int.emod_add_mul_ediv (x*(t*2)+y*(t*((0:Nat):Int)+r)) q
     grind
    rw[e4];exact Int.mul_emod_left _ _
   rw[e3];exact h5
theorem tZ{ins:List (List Int)}:BH.val Ad ins=Gf (BH.step Ad) 257 ins:=rfl
theorem zH:N8 [0,0,0,0,0,0,0,0] 0:=⟨rfl,fE (by kernel_rfl),by kernel_rfl⟩
theorem ABj{a b c m:List Int}{x y q:Int}{E:Nat}(h2:2*q≤pw 8)(ha:N8 a x)(hx:x<q)(hb:N8 b (E:Int))(hc:N8 c y)(hy:y<q)(hm:N8 m q):N8 (Hm.raw Ec 0 [a,b,c,m]) ((x*E+y)%q):=by
 have hq:0<q:=Int.lt_of_le_of_lt (AK0 ha) hx;have h:=mG h2 hq 256 (f:=257) (JP _) (by omega) zH hq ha hx hb hm;rw[Nat.mod_eq_of_lt (AFV hb AEX),Ut,zcr,zcx] at h;rw[sG,tZ,Au h.len];have h3:=Zm APA h hc hm (Int.emod_lt_of_pos _ hq) hy h2;rw[Int.emod_add_emod] at h3;exact h3
section
variable{GB:Nat}{GC:Nat→Nat→Option Value}{ad:Nat→Nat×Nat}(hG:Jk GB GC ad)
include hG
theorem bK:Bp Tryz.prog GB GC 46 (.one gT):=(AQ.finL hG (i:=Hm) (l:=BH) (T':=[(71,.one Eb),(67,.one GZ)]) (L:=[]) (L':=[]) (pre:=fun _=>True) (pl:=BH.pre Ad) (lid:=1000000+46) (Cb:=Ad) (C1:=Ec) (by decide) rfl rfl
 (.cons (k:=71) rfl (Lh hG) Tryz.call71 (AQ.len _ _) .nil) .nil .nil Tryz.func46 rfl rfl rfl (.inl rfl) (.inl rfl) (fun _ _ h=>h)
 (.cons (k:=71) rfl (Lh hG) Tryz.call71 (AQ.len _ _) (.cons (k:=67) rfl (UE hG) Tryz.call67 (AQ.lenP _ _) .nil)) YV (by kernel_rfl) (by kernel_rfl) ZA fun _ h _=>AA9 h).noPre fun _ _=>trivial
end
end
end Go.Proofs.YtloibefkijfdlaaGreatDoor
