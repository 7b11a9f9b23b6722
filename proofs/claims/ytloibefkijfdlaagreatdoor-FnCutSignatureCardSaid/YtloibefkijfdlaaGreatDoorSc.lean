/- Scalars: out of the form of Montgomery, and as bytes. -/
import Derived.Test.YtloibefkijfdlaaGreatDoorFc
namespace Go.Proofs.YtloibefkijfdlaaGreatDoor
section
open Go
def Mo:Int:=7237005577332262213973186563042994240857116359379907606001950938285454250989
def mW:List (Nat×FK):=[(172,.tA),(174,.CN)]
def b64:Int×Int:=(0,18446744073709551615)
def bQ:List (Int×Int):=[b64,b64,b64,b64]
def p4(a b c d:GU):GU:=Di a (Di (Cr 18446744073709551616 b) (Di (Cr 340282366920938463463374607431768211456 c) (Cr 6277101735386680763835789423207666416102355444464034512896 d)))
def Fj:Int:=115792089237316195423570985008687907853269984665640564039457584007913129639936
def vD(j:Nat):GU:=p4 (JV (enc j 0 0)) (JV (enc j 1 0)) (JV (enc j 2 0)) (JV (enc j 3 0))
def Qt(s:CS)(n:Nat):Bool:=Bh 0 (gx s n).lo&&Bh (gx s n).hi 18446744073709551615
def wu(s:CS)(n:Nat):Bool:=match s.x (.v n 1) with
 |some a=>Bh 0 a.lo&&Bh a.hi 1
 |none=>false
def frT(s:CS)(q t u:Nat×Nat×Nat×Nat)(c:Nat)(X:GU)(r:List AV):Bool:=
 let Q:=p4 (gx s q.1).p (gx s q.2.1).p (gx s q.2.2.1).p (gx s q.2.2.2).p
 let T:=p4 (gx s t.1).p (gx s t.2.1).p (gx s t.2.2.1).p (gx s t.2.2.2).p
 let S:=p4 (gx s u.1).p (gx s u.2.1).p (gx s u.2.2.1).p (gx s u.2.2.2).p
 let c0:=JV (enc u.2.2.2 1 0)
 let c1:=JV (enc c 1 0)
 ((OC 0 (Di (Cr Fj T) (Cr (-1) (Di X (Cr Mo Q)))) &&
 OC 0 (Di S (Cr (-1) (Di T (Di (X8 (-Mo)) (Cr Fj c0)))))) &&
 (OC 0 (Di (gx s c).p (Cr (-1) (Di (Cr (-1) c0) (Cr 18446744073709551616 c1)))) &&
 (match r with
 | [r0,r1,r2,r3]=>OC 0 (Di (p4 r0.p r1.p r2.p r3.p) (Cr (-1) (Di S (Tn [] c1 (Di T (Cr (-1) S))))))&&((Bh 0 r0.lo&&Bh r0.hi 18446744073709551615)&&(Bh 0 r1.lo&&Bh r1.hi 18446744073709551615)&&(Bh 0 r2.lo&&Bh r2.hi 18446744073709551615)&&(Bh 0 r3.lo&&Bh r3.hi 18446744073709551615))
 |_=>false))) &&
 ((Qt s q.1&&Qt s q.2.1&&Qt s q.2.2.1&&Qt s q.2.2.2&&(Qt s t.1&&Qt s t.2.1&&Qt s t.2.2.1&&Qt s t.2.2.2))&&((Qt s u.1&&Qt s u.2.1&&Qt s u.2.2.1&&Qt s u.2.2.2)&&(Qt s c&&wu s c&&wu s u.2.2.2)))
theorem ASn:(match XE BB BC mW [[],bQ] with
 |some (s,[r])=>frT s (117,1317,3333,5317) (6196,6404,6644,6772) (6852,7012,7172,7332) 7460 (vD 1) r
 |_=>false)=true:=by kernel_rfl
theorem UR(ρ:Br){j:Nat}{l:List Int}(h:ρ j=l):FU ρ (vD j)=l.getD 0 0+(18446744073709551616*l.getD 1 0+(340282366920938463463374607431768211456*l.getD 2 0+6277101735386680763835789423207666416102355444464034512896*l.getD 3 0)):=by
 simp only[vD,p4,Cg,CZ,Gi];rw[αv_enc0 ρ (by omega),αv_enc0 ρ (by omega),αv_enc0 ρ (by omega),αv_enc0 ρ (by omega),h]
def v4(l:List Int):Int:=l.getD 0 0+(18446744073709551616*l.getD 1 0+(340282366920938463463374607431768211456*l.getD 2 0+6277101735386680763835789423207666416102355444464034512896*l.getD 3 0))
def u4(l:List Int):Prop:=l.length=4/\∀k,k<4->0<=l.getD k 0/\l.getD k 0<=18446744073709551615
theorem four{α:Type}{l:List α}(h:l.length=4):∃a b c d,l= [a,b,c,d]:=by
 match l,h with
 | [a,b,c,d],_=>exact⟨a,b,c,d,rfl⟩
theorem Qp{ζ:List (List (Int×Int))}{ins:List (List Int)}{x:List Int}(h:u4 x)(hb:Mv ζ ins):Mv (bQ::ζ) (x::ins):=
 Vj bQ x ⟨by decide,λk p hk=>by
  match k,hk with
  |0,hk=>simp only[bQ,Ul,Ai] at hk;subst hk;exact h.2 0 (by omega)
  |1,hk=>simp only[bQ,yl,Ul,Ai] at hk;subst hk;exact h.2 1 (by omega)
  |2,hk=>simp only[bQ,yl,Ul,Ai] at hk;subst hk;exact h.2 2 (by omega)
  |3,hk=>simp only[bQ,yl,Ul,Ai] at hk;subst hk;exact h.2 3 (by omega)
  |k+4,hk=>simp[bQ] at hk⟩ hb
theorem AA2(o:List Int)(c z y:Int):Dw.raw Dz 0 [o,[c],[z],[y]]= [Ah .or .u64 (Ah .and .u64 (Ah .mul .u64 c 18446744073709551615) y) (Ah .and .u64 (Ah .xor .u64 18446744073709551615 (Ah .mul .u64 c 18446744073709551615)) z)]:=by kernel_rfl
theorem AQe{z y:Int}(hz:IU .u64 z)(hy:IU .u64 y):Ah .or .u64 (Ah .and .u64 (Ah .mul .u64 0 18446744073709551615) y) (Ah .and .u64 (Ah .xor .u64 18446744073709551615 (Ah .mul .u64 0 18446744073709551615)) z)=z:=by
 have e:Ah .mul .u64 0 18446744073709551615=0:=by decide +kernel
 have e2:Ah .xor .u64 18446744073709551615 0=18446744073709551615:=by decide +kernel
 rw[e,e2];show Dp .or .u64 (Dp .and .u64 0 y) (Dp .and .u64 18446744073709551615 z)=z;rw[Yr hy,Us hz,(vR hz).2]
theorem AQs{z y:Int}(hz:IU .u64 z)(hy:IU .u64 y):Ah .or .u64 (Ah .and .u64 (Ah .mul .u64 1 18446744073709551615) y) (Ah .and .u64 (Ah .xor .u64 18446744073709551615 (Ah .mul .u64 1 18446744073709551615)) z)=y:=by
 have e:Ah .mul .u64 1 18446744073709551615=18446744073709551615:=by decide +kernel
 have e2:Ah .xor .u64 18446744073709551615 18446744073709551615=0:=by decide +kernel
 rw[e,e2];show Dp .or .u64 (Dp .and .u64 18446744073709551615 y) (Dp .and .u64 0 z)=y;rw[Yr hz,Us hy,(vR hy).1]
theorem AGR:BF.pr 0= .l λa=>BK 1 (Dw.raw Dz 0 a):=rfl
theorem rG{T:Tb}{f:Nat}(h:lk f T=some (.one BF)):nZ T f .CN:=λo c z y hc hz hy=>by
 rw[Sj h,AGR];show BK 1 (Dw.raw Dz 0 [o,[c],[z],[y]])=_;rw[AA2];rcases hc with rfl|rfl
 ·rw[AQe hz hy,if_pos rfl];rfl
 ·rw[AQs hz hy,if_neg (by decide)];rfl
theorem V5{T:Tb}(h1:lk 172 T=some (.one Ef))(h2:lk 174 T=some (.one BF)):Wh T mW:=λf κ h=>by
 simp only[mW,lk] at h;cases hb:Nat.beq 172 f with
 |true=>
  rw[hb,cond_true,Ai] at h;have:=CR hb;subst this;subst h;exact jo h1
 | false=>
  rw[hb,cond_false] at h;cases fx:Nat.beq 174 f with
  |true=>
   rw[fx,cond_true,Ai] at h;have:=CR fx;subst this;subst h;exact rG h2
  |false=>rw[fx] at h;cases h
theorem Ij{ρ:Br}{s:CS}(hs:OL ρ s){n:Nat}(h:Qt s n=true):0<=FU ρ (gx s n).p/\FU ρ (gx s n).p<=18446744073709551615:=by
 simp only[Qt,Bl] at h;have h1:=ACh hs h.1;rw[<- h1.1];exact⟨RP (A8 h.1) h1.2.1,RP h1.2.2.1 (A8 h.2)⟩
theorem Xx{ρ:Br}{s:CS}(hs:OL ρ s){n:Nat}(h:wu s n=true):0<=FU ρ (JV (enc n 1 0))/\FU ρ (JV (enc n 1 0))<=1:=by
 unfold wu at h;split at h
 ·rename_i a ha;simp only[Bl] at h;have h1:=CS.gR hs ha;rw[Gi,αv_enc0 ρ (by omega)];exact⟨RP (A8 h.1) h1.2.1,RP h1.2.2.1 (A8 h.2)⟩
 ·cases h
theorem Za.four{ρ:Br}{l:List Int}{a b c d:AV}(h:Za ρ l [a,b,c,d]):∃x y z w,l= [x,y,z,w]/\a.ok ρ x/\b.ok ρ y/\c.ok ρ z/\d.ok ρ w:=by
 obtain⟨x,y,z,w,rfl⟩:=Go.Proofs.YtloibefkijfdlaaGreatDoor.four h.1;exact⟨x,y,z,w,rfl,h.2 0 _ _ rfl rfl,h.2 1 _ _ rfl rfl,h.2 2 _ _ rfl rfl,h.2 3 _ _ rfl rfl⟩
theorem API{ρ:Br}{s:CS}(hs:OL ρ s){q t u:Nat×Nat×Nat×Nat}{c:Nat}{X:GU}{r:List AV}(h:frT s q t u c X r=true){l:List Int}(hl:Za ρ l r)(hX:0<=FU ρ X/\FU ρ X<Mo*Fj):
  u4 l/\0<=v4 l/\v4 l<Mo/\(Mo ∣ v4 l*Fj-FU ρ X):=by
 unfold frT at h;simp only[Bl] at h;obtain⟨⟨⟨h1,h2⟩,h3,h4⟩,⟨⟨⟨⟨a1,a2⟩,a3⟩,a4⟩,⟨⟨⟨b1,b2⟩,b3⟩,b4⟩⟩,⟨⟨⟨c1,c2⟩,c3⟩,c4⟩,⟨d1,d2⟩,d3⟩:=h;split at h4
 ·rename_i r0 r1 r2 r3;simp only[Bl] at h4;obtain⟨h4,⟨⟨e0,e1⟩,e2⟩,e3⟩:=h4;obtain⟨x0,x1,x2,x3,rfl,g0,g1,g2,g3⟩:=hl.four;have q1:=pz (ρ:=ρ) h1;have q2:=pz (ρ:=ρ) h2;have q3:=pz (ρ:=ρ) h3;have q4:=pz (ρ:=ρ) h4;simp only[p4,Cg,CZ,P8,TS, <- g0.1, <- g1.1, <- g2.1, <- g3.1] at q1 q2 q3 q4;have a1:=Ij hs a1;have a2:=Ij hs a2;have a3:=Ij hs a3;have a4:=Ij hs a4;have b1:=Ij hs b1;have b2:=Ij hs b2;have b3:=Ij hs b3;have b4:=Ij hs b4;have c1:=Ij hs c1;have c2:=Ij hs c2;have c3:=Ij hs c3;have c4:=Ij hs c4;have d1:=Ij hs d1;have d2:=Xx hs d2;have d3:=Xx hs d3;have rb:∀ {a:AV} {x:Int},a.ok ρ x->(Bh 0 a.lo=true/\Bh a.hi 18446744073709551615=true)->0<=x/\x<=18446744073709551615:=λha hb=>by
   exact⟨RP (A8 hb.1) ha.2.1,RP ha.2.2.1 (A8 hb.2)⟩
  have f0:=rb g0 e0;have f1:=rb g1 e1;have f2:=rb g2 e2;have f3:=rb g3 e3;refine⟨⟨rfl,λk hk=>?_⟩,?_⟩
  ·match k,hk with
   |0,_=>exact f0
   |1,_=>exact f1
   |2,_=>exact f2
   |3,_=>exact f3
  ·unfold v4;simp only[Ru,X7];unfold Mo Fj at *
   generalize FU ρ (gx s q.1).p=k0 at *
   generalize FU ρ (gx s q.2.1).p=k1 at *
   generalize FU ρ (gx s q.2.2.1).p=k2 at *
   generalize FU ρ (gx s q.2.2.2).p=k3 at *
   generalize FU ρ (gx s t.1).p=t0 at *
   generalize FU ρ (gx s t.2.1).p=t1 at *
   generalize FU ρ (gx s t.2.2.1).p=t2 at *
   generalize FU ρ (gx s t.2.2.2).p=t3 at *
   generalize FU ρ (gx s u.1).p=u0 at *
   generalize FU ρ (gx s u.2.1).p=u1 at *
   generalize FU ρ (gx s u.2.2.1).p=u2 at *
   generalize FU ρ (gx s u.2.2.2).p=u3 at *
   generalize FU ρ (JV (enc c 1 0))=cc at *
   generalize FU ρ (JV (enc u.2.2.2 1 0))=c0 at *
   generalize FU ρ (gx s c).p=cw at *
   generalize FU ρ X=XX at *
   have hcc:cc=0\/cc=1:=by omega
   rcases hcc with rfl|rfl
   ·rw[zcv,HQ] at q4;refine⟨by omega,by omega,⟨(k0+(18446744073709551616*k1+(340282366920938463463374607431768211456*k2+6277101735386680763835789423207666416102355444464034512896*k3)))-115792089237316195423570985008687907853269984665640564039457584007913129639936,by omega⟩⟩
   ·rw[zda] at q4;refine⟨by omega,by omega,⟨(k0+(18446744073709551616*k1+(340282366920938463463374607431768211456*k2+6277101735386680763835789423207666416102355444464034512896*k3))),by omega⟩⟩
 ·cases h4
theorem rH{l:List Int}(h:u4 l):0<=v4 l/\v4 l<Fj:=by
 have h0:=h.2 0 (by omega);have h1:=h.2 1 (by omega);have h2:=h.2 2 (by omega);have h3:=h.2 3 (by omega);unfold v4 Fj;omega
theorem AGA{v x:List Int}(hx:u4 x):u4 (BB.raw BC 0 [v,x])/\0<=v4 (BB.raw BC 0 [v,x])/\v4 (BB.raw BC 0 [v,x])<Mo/\(Mo ∣ v4 (BB.raw BC 0 [v,x])*Fj-v4 x):=by
 have ht:=ASn;split at ht
 ·rename_i s r hr;obtain⟨_,ρ,h1,hS,h2⟩:=Q0 (V5 rfl rfl) hr (ins:=[v,x]) (Me v (Qp hx (IL _)));have hX:FU ρ (vD 1)=v4 x:=UR ρ (h1 1 (by decide));have hb:=rH hx;rw[<- hX] at hb ⊢;exact API hS ht (h2 0 r rfl) ⟨hb.1,by unfold Mo Fj at *;omega⟩
 ·cases ht
end
section
open Go
theorem ASs:(match XE CV CQ [] [[],bQ] with
 |some (_,[bs])=>Nat.beq bs.length 32&&bs.all byB&&OC 0 (Di (leP bs) (Cr (-1) (vD 1)))
 |_=>false)=true:=by kernel_rfl
theorem AJH{v x:List Int}(hx:u4 x):(CV.raw CQ 0 [v,x]).length=32/\cM (CV.raw CQ 0 [v,x])/\Ct (CV.raw CQ 0 [v,x])=v4 x:=by
 have ht:=ASs;split at ht
 ·rename_i s bs hr;obtain⟨_,ρ,h1,hS,h2⟩:=Q0 (λf κ h=>by cases h) hr (ins:=[v,x]) (Me v (Qp hx (IL _)));have hA:=h2 0 bs rfl;simp only[Bl] at ht;obtain⟨⟨t1,t2⟩,t3⟩:=ht;have t1:=CR t1;have hX:FU ρ (vD 1)=v4 x:=UR ρ (h1 1 (by decide));have t3:=pz (ρ:=ρ) t3;rw[oG hA,hX] at t3;exact⟨hA.1.trans t1,nA hA t2,t3⟩
 ·cases ht
def AEj(n:Nat):Nat->Nat->List X->Bool
 |0,_,[]=>true
 |m+1,k,.v i j::r=>Nat.beq i n&&Nat.beq j k&&AEj n m (k+1) r
 |_,_,_=>false
theorem iQ{ρ:Br}{n:Nat}:∀ {m k:Nat} {l:List X},AEj n m k l=true->l.map (·.den ρ)=(List.range m).map λj=>(ρ n).getD (k+j) 0
 |0,_,[],_=>rfl
 |m+1,k,.v i j::r,h=>by
  simp only[AEj,Bl] at h;have e1:=CR h.1.1;have e2:=CR h.1.2;subst e1;subst e2;rw[NE,iQ h.2,List.range_succ_eq_map,NE,List.map_map]
  congr 1
  apply Zx;intro i _;simp only[Function.comp]
  congr 1;omega
 |0,_,_::_,h=>by cases h
 |m+1,_,[],h=>by cases h
 |m+1,_,.lit _::_,h=>by cases h
theorem TG{l:List Int}{n:Nat}(h:l.length=n):((List.range n).map λk=>l.getD k 0)=l:=by
 subst h;exact Bn rfl
def APr(f1 f2:Nat):Option (List (Nat×GG)×List (List X))->Bool
 |some ([(n1,⟨.fn f true 0,[.xs _,.vec 0]⟩),(n2,⟨.fn g true 0,[.xs _,.vec a]⟩)],[l])=>Nat.beq f f1&&Nat.beq g f2&&Nat.beq a n1&&AEj n2 32 0 l
 |_=>false
theorem AQW:APr 189 190 (AD8 Az Am)=true:=by kernel_rfl
theorem AN1:lk 189 Am.T=some (.one DY):=rfl
theorem ANo:lk 190 Am.T=some (.one EI):=rfl
theorem AOy:DY.pr 0= .l λa=>BK 4 (BB.raw BC 0 a):=rfl
theorem AO9:EI.pr 0= .l λa=>BK 32 (CV.raw CQ 0 a):=rfl
theorem AAs:BG.pr 0= .l λa=>BK 32 (Az.raw Am 0 a):=rfl
structure ScV (l:List Int) (m:Int):Prop where
 lo:0<=m
 hi:m<Mo
 eq:Mo ∣ m*Fj-v4 l
theorem AEI{x:List Int}(hx:u4 x):∃m,ScV x m/\(Az.raw Am 0 [x]).length=32/\cM (Az.raw Am 0 [x])/\Ct (Az.raw Am 0 [x])=m:=by
 have ht:=AQW;unfold APr at ht;split at ht
 ·rename_i n1 f z1 n2 g z2 a l hl;simp only[Bl] at ht;obtain⟨⟨⟨t1,t2⟩,t3⟩,t4⟩:=ht;have t1:=CR t1;have t2:=CR t2;have t3:=CR t3;subst t1;subst t2;subst t3;obtain⟨ρ,h1,h2,h3⟩:=vN hl [x];have e0:ρ 0=x:=h1 0 (by decide);have e1:=h2 _ Kh;have e2:=h2 _ (Lv _ Kh);simp only[GG.den,NE,Uf,IZ.den] at e1 e2;rw[Sj AN1,AOy,e0] at e1;rw[Sj ANo,AO9] at e2;obtain⟨g1,g2,g3,g4⟩:=AGA (v:=z1.map (·.den ρ)) hx;have e1':ρ a=BB.raw BC 0 [z1.map (·.den ρ),x]:=e1.trans (Bn g1.1);rw[<- e1'] at g1 g2 g3 g4;obtain⟨k1,k2,k3⟩:=AJH (v:=z2.map (·.den ρ)) g1;have e2':ρ n2=CV.raw CQ 0 [z2.map (·.den ρ),ρ a]:=e2.trans (Bn k1);rw[<- e2'] at k1 k2 k3;have hr:Az.raw Am 0 [x]=ρ n2:=by
   rw[h3 0 _ rfl,iQ t4];have:=TG k1;simpa using this
  rw[hr];exact⟨v4 (ρ a),⟨g2,g3,g4⟩,k1,k2,k3⟩
 ·cases ht
end
end Go.Proofs.YtloibefkijfdlaaGreatDoor
