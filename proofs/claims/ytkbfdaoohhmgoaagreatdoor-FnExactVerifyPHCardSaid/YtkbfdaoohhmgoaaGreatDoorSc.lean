/- Scalars: out of the form of Montgomery, and as bytes. -/
import Derived.Test.YtkbfdaoohhmgoaaGreatDoorFc
namespace Go.Proofs.YtkbfdaoohhmgoaaGreatDoor
section
open Go
def Oq:Int:=7237005577332262213973186563042994240857116359379907606001950938285454250989
def ut:List (Nat×FK):=[(122,.sE),(124,.B1)]
def b64:Int×Int:=(0,18446744073709551615)
def jP:List (Int×Int):=[b64,b64,b64,b64]
def p4(a b c d:Fj):Fj:=DZ a (DZ (Cq 18446744073709551616 b) (DZ (Cq 340282366920938463463374607431768211456 c) (Cq 6277101735386680763835789423207666416102355444464034512896 d)))
def FN:Int:=115792089237316195423570985008687907853269984665640564039457584007913129639936
def wG(j:Nat):Fj:=p4 (Ir (enc j 0 0)) (Ir (enc j 1 0)) (Ir (enc j 2 0)) (Ir (enc j 3 0))
def Q3(s:CS)(n:Nat):Bool:=Bl 0 (gx s n).lo&&Bl (gx s n).hi 18446744073709551615
def AA2(s:CS)(n:Nat):Bool:=match s.x (.v n 1) with
 |some a=>Bl 0 a.lo&&Bl a.hi 1
 |none=>false
def frT(s:CS)(q t u:Nat×Nat×Nat×Nat)(c:Nat)(X:Fj)(r:List AV):Bool:=
 let Q:=p4 (gx s q.1).p (gx s q.2.1).p (gx s q.2.2.1).p (gx s q.2.2.2).p
 let T:=p4 (gx s t.1).p (gx s t.2.1).p (gx s t.2.2.1).p (gx s t.2.2.2).p
 let S:=p4 (gx s u.1).p (gx s u.2.1).p (gx s u.2.2.1).p (gx s u.2.2.2).p
 let c0:=Ir (enc u.2.2.2 1 0)
 let c1:=Ir (enc c 1 0)
 ((Ol 0 (DZ (Cq FN T) (Cq (-1) (DZ X (Cq Oq Q)))) &&
 Ol 0 (DZ S (Cq (-1) (DZ T (DZ (cK (-Oq)) (Cq FN c0)))))) &&
 (Ol 0 (DZ (gx s c).p (Cq (-1) (DZ (Cq (-1) c0) (Cq 18446744073709551616 c1)))) &&
 (match r with
 | [r0,r1,r2,r3]=>Ol 0 (DZ (p4 r0.p r1.p r2.p r3.p) (Cq (-1) (DZ S (Ub [] c1 (DZ T (Cq (-1) S))))))&&((Bl 0 r0.lo&&Bl r0.hi 18446744073709551615)&&(Bl 0 r1.lo&&Bl r1.hi 18446744073709551615)&&(Bl 0 r2.lo&&Bl r2.hi 18446744073709551615)&&(Bl 0 r3.lo&&Bl r3.hi 18446744073709551615))
 |_=>false))) &&
 ((Q3 s q.1&&Q3 s q.2.1&&Q3 s q.2.2.1&&Q3 s q.2.2.2&&(Q3 s t.1&&Q3 s t.2.1&&Q3 s t.2.2.1&&Q3 s t.2.2.2))&&((Q3 s u.1&&Q3 s u.2.1&&Q3 s u.2.2.1&&Q3 s u.2.2.2)&&(Q3 s c&&AA2 s c&&AA2 s u.2.2.2)))
theorem ATV:(match Xl A9 BA ut [[],jP] with
 |some (s,[r])=>frT s (117,1317,3333,5317) (6196,6404,6644,6772) (6852,7012,7172,7332) 7460 (wG 1) r
 |_=>false)=true:=by kernel_rfl
theorem U3(ρ:Bu){j:Nat}{l:List Int}(h:ρ j=l):Er ρ (wG j)=l.getD 0 0+(18446744073709551616*l.getD 1 0+(340282366920938463463374607431768211456*l.getD 2 0+6277101735386680763835789423207666416102355444464034512896*l.getD 3 0)):=by
 simp only[wG,p4,Ci,Cf,Gc];rw[αv_enc0 ρ (by omega),αv_enc0 ρ (by omega),αv_enc0 ρ (by omega),αv_enc0 ρ (by omega),h]
def v4(l:List Int):Int:=l.getD 0 0+(18446744073709551616*l.getD 1 0+(340282366920938463463374607431768211456*l.getD 2 0+6277101735386680763835789423207666416102355444464034512896*l.getD 3 0))
def u4(l:List Int):Prop:=l.length=4/\∀k,k<4->0<=l.getD k 0/\l.getD k 0<=18446744073709551615
theorem four{α:Type}{l:List α}(h:l.length=4):∃a b c d,l= [a,b,c,d]:=by
 match l,h with
 | [a,b,c,d],_=>exact⟨a,b,c,d,rfl⟩
theorem SS{ζ:List (List (Int×Int))}{ins:List (List Int)}{x:List Int}(h:u4 x)(hb:Mt ζ ins):Mt (jP::ζ) (x::ins):=
 Wi jP x ⟨by decide,λk p hk=>by
  match k,hk with
  |0,hk=>simp only[jP,UV,Ai] at hk;subst hk;exact h.2 0 (by omega)
  |1,hk=>simp only[jP,Cp,UV,Ai] at hk;subst hk;exact h.2 1 (by omega)
  |2,hk=>simp only[jP,Cp,UV,Ai] at hk;subst hk;exact h.2 2 (by omega)
  |3,hk=>simp only[jP,Cp,UV,Ai] at hk;subst hk;exact h.2 3 (by omega)
  |k+4,hk=>simp[jP] at hk⟩ hb
theorem AEJ(o:List Int)(c z y:Int):Dc.raw Da 0 [o,[c],[z],[y]]= [Ak .or .u64 (Ak .and .u64 (Ak .mul .u64 c 18446744073709551615) y) (Ak .and .u64 (Ak .xor .u64 18446744073709551615 (Ak .mul .u64 c 18446744073709551615)) z)]:=by kernel_rfl
theorem AQO{z y:Int}(hz:IJ .u64 z)(hy:IJ .u64 y):Ak .or .u64 (Ak .and .u64 (Ak .mul .u64 0 18446744073709551615) y) (Ak .and .u64 (Ak .xor .u64 18446744073709551615 (Ak .mul .u64 0 18446744073709551615)) z)=z:=by
 have e:Ak .mul .u64 0 18446744073709551615=0:=by decide +kernel
 have e2:Ak .xor .u64 18446744073709551615 0=18446744073709551615:=by decide +kernel
 rw[e,e2];show Es .or .u64 (Es .and .u64 0 y) (Es .and .u64 18446744073709551615 z)=z;rw[iK hy,Yb hz,(wS hz).2]
theorem APV{z y:Int}(hz:IJ .u64 z)(hy:IJ .u64 y):Ak .or .u64 (Ak .and .u64 (Ak .mul .u64 1 18446744073709551615) y) (Ak .and .u64 (Ak .xor .u64 18446744073709551615 (Ak .mul .u64 1 18446744073709551615)) z)=y:=by
 have e:Ak .mul .u64 1 18446744073709551615=18446744073709551615:=by decide +kernel
 have e2:Ak .xor .u64 18446744073709551615 18446744073709551615=0:=by decide +kernel
 rw[e,e2];show Es .or .u64 (Es .and .u64 18446744073709551615 y) (Es .and .u64 0 z)=y;rw[iK hz,Yb hy,(wS hy).1]
theorem AJU:BB.pr 0= .l λa=>BF 1 (Dc.raw Da 0 a):=rfl
theorem wT{T:Tb}{f:Nat}(h:lk f T=some (.one BB)):tC T f .B1:=λo c z y hc hz hy=>by
 rw[Tv h,AJU];show BF 1 (Dc.raw Da 0 [o,[c],[z],[y]])=_;rw[AEJ];rcases hc with rfl|rfl
 ·rw[AQO hz hy,if_pos rfl];rfl
 ·rw[APV hz hy,if_neg (by decide)];rfl
theorem We{T:Tb}(h1:lk 122 T=some (.one EK))(h2:lk 124 T=some (.one BB)):aP T ut:=λf κ h=>by
 simp only[ut,lk] at h;cases hb:Nat.beq 122 f with
 |true=>
  rw[hb,cond_true,Ai] at h;have:=Ca hb;subst this;subst h;exact oQ h1
 | false=>
  rw[hb,cond_false] at h;cases cV:Nat.beq 124 f with
  |true=>
   rw[cV,cond_true,Ai] at h;have:=Ca cV;subst this;subst h;exact wT h2
  |false=>rw[cV] at h;cases h
theorem Hg{ρ:Bu}{s:CS}(hs:RN ρ s){n:Nat}(h:Q3 s n=true):0<=Er ρ (gx s n).p/\Er ρ (gx s n).p<=18446744073709551615:=by
 simp only[Q3,Bj] at h;have h1:=AD6 hs h.1;rw[<- h1.1];exact⟨Sd (A8 h.1) h1.2.1,Sd h1.2.2.1 (A8 h.2)⟩
theorem YS{ρ:Bu}{s:CS}(hs:RN ρ s){n:Nat}(h:AA2 s n=true):0<=Er ρ (Ir (enc n 1 0))/\Er ρ (Ir (enc n 1 0))<=1:=by
 unfold AA2 at h;split at h
 ·rename_i a ha;simp only[Bj] at h;have h1:=CS.gk hs ha;rw[Gc,αv_enc0 ρ (by omega)];exact⟨Sd (A8 h.1) h1.2.1,Sd h1.2.2.1 (A8 h.2)⟩
 ·cases h
theorem iZ.four{ρ:Bu}{l:List Int}{a b c d:AV}(h:iZ ρ l [a,b,c,d]):∃x y z w,l= [x,y,z,w]/\a.ok ρ x/\b.ok ρ y/\c.ok ρ z/\d.ok ρ w:=by
 obtain⟨x,y,z,w,rfl⟩:=Go.Proofs.YtkbfdaoohhmgoaaGreatDoor.four h.1;exact⟨x,y,z,w,rfl,h.2 0 _ _ rfl rfl,h.2 1 _ _ rfl rfl,h.2 2 _ _ rfl rfl,h.2 3 _ _ rfl rfl⟩
theorem AQg{ρ:Bu}{s:CS}(hs:RN ρ s){q t u:Nat×Nat×Nat×Nat}{c:Nat}{X:Fj}{r:List AV}(h:frT s q t u c X r=true){l:List Int}(hl:iZ ρ l r)(hX:0<=Er ρ X/\Er ρ X<Oq*FN):
  u4 l/\0<=v4 l/\v4 l<Oq/\(Oq ∣ v4 l*FN-Er ρ X):=by
 unfold frT at h;simp only[Bj] at h;obtain⟨⟨⟨h1,h2⟩,h3,h4⟩,⟨⟨⟨⟨a1,a2⟩,a3⟩,a4⟩,⟨⟨⟨b1,b2⟩,b3⟩,b4⟩⟩,⟨⟨⟨c1,c2⟩,c3⟩,c4⟩,⟨d1,d2⟩,d3⟩:=h;split at h4
 ·rename_i r0 r1 r2 r3;simp only[Bj] at h4;obtain⟨h4,⟨⟨e0,e1⟩,e2⟩,e3⟩:=h4;obtain⟨x0,x1,x2,x3,rfl,g0,g1,g2,g3⟩:=hl.four;have q1:=pz (ρ:=ρ) h1;have q2:=pz (ρ:=ρ) h2;have q3:=pz (ρ:=ρ) h3;have q4:=pz (ρ:=ρ) h4;simp only[p4,Ci,Cf,Rb,UD, <- g0.1, <- g1.1, <- g2.1, <- g3.1] at q1 q2 q3 q4;have a1:=Hg hs a1;have a2:=Hg hs a2;have a3:=Hg hs a3;have a4:=Hg hs a4;have b1:=Hg hs b1;have b2:=Hg hs b2;have b3:=Hg hs b3;have b4:=Hg hs b4;have c1:=Hg hs c1;have c2:=Hg hs c2;have c3:=Hg hs c3;have c4:=Hg hs c4;have d1:=Hg hs d1;have d2:=YS hs d2;have d3:=YS hs d3;have rb:∀ {a:AV} {x:Int},a.ok ρ x->(Bl 0 a.lo=true/\Bl a.hi 18446744073709551615=true)->0<=x/\x<=18446744073709551615:=λha hb=>by
   exact⟨Sd (A8 hb.1) ha.2.1,Sd ha.2.2.1 (A8 hb.2)⟩
  have f0:=rb g0 e0;have f1:=rb g1 e1;have f2:=rb g2 e2;have f3:=rb g3 e3;refine⟨⟨rfl,λk hk=>?_⟩,?_⟩
  ·match k,hk with
   |0,_=>exact f0
   |1,_=>exact f1
   |2,_=>exact f2
   |3,_=>exact f3
  ·unfold v4;simp only[Qx,aa];unfold Oq FN at *
   generalize Er ρ (gx s q.1).p=k0 at *
   generalize Er ρ (gx s q.2.1).p=k1 at *
   generalize Er ρ (gx s q.2.2.1).p=k2 at *
   generalize Er ρ (gx s q.2.2.2).p=k3 at *
   generalize Er ρ (gx s t.1).p=t0 at *
   generalize Er ρ (gx s t.2.1).p=t1 at *
   generalize Er ρ (gx s t.2.2.1).p=t2 at *
   generalize Er ρ (gx s t.2.2.2).p=t3 at *
   generalize Er ρ (gx s u.1).p=u0 at *
   generalize Er ρ (gx s u.2.1).p=u1 at *
   generalize Er ρ (gx s u.2.2.1).p=u2 at *
   generalize Er ρ (gx s u.2.2.2).p=u3 at *
   generalize Er ρ (Ir (enc c 1 0))=cc at *
   generalize Er ρ (Ir (enc u.2.2.2 1 0))=c0 at *
   generalize Er ρ (gx s c).p=cw at *
   generalize Er ρ X=XX at *
   have hcc:cc=0\/cc=1:=by omega
   rcases hcc with rfl|rfl
   ·rw[RW,Mb] at q4;refine⟨by omega,by omega,⟨(k0+(18446744073709551616*k1+(340282366920938463463374607431768211456*k2+6277101735386680763835789423207666416102355444464034512896*k3)))-115792089237316195423570985008687907853269984665640564039457584007913129639936,by omega⟩⟩
   ·rw[zda] at q4;refine⟨by omega,by omega,⟨(k0+(18446744073709551616*k1+(340282366920938463463374607431768211456*k2+6277101735386680763835789423207666416102355444464034512896*k3))),by omega⟩⟩
 ·cases h4
theorem wz{l:List Int}(h:u4 l):0<=v4 l/\v4 l<FN:=by
 have h0:=h.2 0 (by omega);have h1:=h.2 1 (by omega);have h2:=h.2 2 (by omega);have h3:=h.2 3 (by omega);unfold v4 FN;omega
theorem AH8{v x:List Int}(hx:u4 x):u4 (A9.raw BA 0 [v,x])/\0<=v4 (A9.raw BA 0 [v,x])/\v4 (A9.raw BA 0 [v,x])<Oq/\(Oq ∣ v4 (A9.raw BA 0 [v,x])*FN-v4 x):=by
 have ht:=ATV;split at ht
 ·rename_i s r hr;obtain⟨_,ρ,h1,hS,h2⟩:=Q9 (We rfl rfl) hr (ins:=[v,x]) (LQ v (SS hx (Hm _)));have hX:Er ρ (wG 1)=v4 x:=U3 ρ (h1 1 (by decide));have hb:=wz hx;rw[<- hX] at hb ⊢;exact AQg hS ht (h2 0 r rfl) ⟨hb.1,by unfold Oq FN at *;omega⟩
 ·cases ht
end
section
open Go
theorem AUR:(match Xl CJ CK [] [[],jP] with
 |some (_,[bs])=>Nat.beq bs.length 32&&bs.all byB&&Ol 0 (DZ (leP bs) (Cq (-1) (wG 1)))
 |_=>false)=true:=by kernel_rfl
theorem ANw{v x:List Int}(hx:u4 x):(CJ.raw CK 0 [v,x]).length=32/\cI (CJ.raw CK 0 [v,x])/\Cm (CJ.raw CK 0 [v,x])=v4 x:=by
 have ht:=AUR;split at ht
 ·rename_i s bs hr;obtain⟨_,ρ,h1,hS,h2⟩:=Q9 (λf κ h=>by cases h) hr (ins:=[v,x]) (LQ v (SS hx (Hm _)));have hA:=h2 0 bs rfl;simp only[Bj] at ht;obtain⟨⟨t1,t2⟩,t3⟩:=ht;have t1:=Ca t1;have hX:Er ρ (wG 1)=v4 x:=U3 ρ (h1 1 (by decide));have t3:=pz (ρ:=ρ) t3;rw[vD hA,hX] at t3;exact⟨hA.1.trans t1,su hA t2,t3⟩
 ·cases ht
def AIY(n:Nat):Nat->Nat->List X->Bool
 |0,_,[]=>true
 |m+1,k,.v i j::r=>Nat.beq i n&&Nat.beq j k&&AIY n m (k+1) r
 |_,_,_=>false
theorem pM{ρ:Bu}{n:Nat}:∀ {m k:Nat} {l:List X},AIY n m k l=true->l.map (·.den ρ)=(List.range m).map λj=>(ρ n).getD (k+j) 0
 |0,_,[],_=>rfl
 |m+1,k,.v i j::r,h=>by
  simp only[AIY,Bj] at h;have e1:=Ca h.1.1;have e2:=Ca h.1.2;subst e1;subst e2;rw[NM,pM h.2,List.range_succ_eq_map,NM,List.map_map]
  congr 1
  apply fT;intro i _;simp only[Function.comp]
  congr 1;omega
 |0,_,_::_,h=>by cases h
 |m+1,_,[],h=>by cases h
 |m+1,_,.lit _::_,h=>by cases h
theorem ABB{l:List Int}{n:Nat}(h:l.length=n):((List.range n).map λk=>l.getD k 0)=l:=by
 subst h;exact Ay rfl
def APd(f1 f2:Nat):Option (List (Nat×FT)×List (List X))->Bool
 |some ([(n1,⟨.fn f true 0,[.xs _,.vec 0]⟩),(n2,⟨.fn g true 0,[.xs _,.vec a]⟩)],[l])=>Nat.beq f f1&&Nat.beq g f2&&Nat.beq a n1&&AIY n2 32 0 l
 |_=>false
theorem ASE:APd 159 160 (AHq Aw Al)=true:=by kernel_rfl
theorem AP4:lk 159 Al.T=some (.one C9):=rfl
theorem AQD:lk 160 Al.T=some (.one Dx):=rfl
theorem ASM:C9.pr 0= .l λa=>BF 4 (A9.raw BA 0 a):=rfl
theorem APn:Dx.pr 0= .l λa=>BF 32 (CJ.raw CK 0 a):=rfl
theorem AC4:CW.pr 0= .l λa=>BF 32 (Aw.raw Al 0 a):=rfl
structure ScV (l:List Int) (m:Int):Prop where
 lo:0<=m
 hi:m<Oq
 eq:Oq ∣ m*FN-v4 l
theorem AGR{x:List Int}(hx:u4 x):∃m,ScV x m/\(Aw.raw Al 0 [x]).length=32/\cI (Aw.raw Al 0 [x])/\Cm (Aw.raw Al 0 [x])=m:=by
 have ht:=ASE;unfold APd at ht;split at ht
 ·rename_i n1 f z1 n2 g z2 a l hl;simp only[Bj] at ht;obtain⟨⟨⟨t1,t2⟩,t3⟩,t4⟩:=ht;have t1:=Ca t1;have t2:=Ca t2;have t3:=Ca t3;subst t1;subst t2;subst t3;obtain⟨ρ,h1,h2,h3⟩:=wI hl [x];have e0:ρ 0=x:=h1 0 (by decide);have e1:=h2 _ Jv;have e2:=h2 _ (MN _ Jv);simp only[FT.den,NM,VW,Hy.den] at e1 e2;rw[Tv AP4,ASM,e0] at e1;rw[Tv AQD,APn] at e2;obtain⟨g1,g2,g3,g4⟩:=AH8 (v:=z1.map (·.den ρ)) hx;have e1':ρ a=A9.raw BA 0 [z1.map (·.den ρ),x]:=e1.trans (Ay g1.1);rw[<- e1'] at g1 g2 g3 g4;obtain⟨k1,k2,k3⟩:=ANw (v:=z2.map (·.den ρ)) g1;have e2':ρ n2=CJ.raw CK 0 [z2.map (·.den ρ),ρ a]:=e2.trans (Ay k1);rw[<- e2'] at k1 k2 k3;have hr:Aw.raw Al 0 [x]=ρ n2:=by
   rw[h3 0 _ rfl,pM t4];have:=ABB k1;simpa using this
  rw[hr];exact⟨v4 (ρ a),⟨g2,g3,g4⟩,k1,k2,k3⟩
 ·cases ht
end
end Go.Proofs.YtkbfdaoohhmgoaaGreatDoor
