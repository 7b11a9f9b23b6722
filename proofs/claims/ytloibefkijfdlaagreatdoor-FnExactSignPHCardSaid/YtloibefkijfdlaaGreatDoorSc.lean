/- Scalars: out of the form of Montgomery, and as bytes. -/
import Derived.Test.YtloibefkijfdlaaGreatDoorFc
namespace Go.Proofs.YtloibefkijfdlaaGreatDoor
section
open Go
def OM:Int:=7237005577332262213973186563042994240857116359379907606001950938285454250989
def vN:List (Nat×FK):=[(172,.mul64),(174,.cmov)]
def b64:Int×Int:=(0,18446744073709551615)
def jK:List (Int×Int):=[b64,b64,b64,b64]
def p4(a b c d:Gd):Gd:=De a (De (Cq 18446744073709551616 b) (De (Cq 340282366920938463463374607431768211456 c) (Cq 6277101735386680763835789423207666416102355444464034512896 d)))
def F5:Int:=115792089237316195423570985008687907853269984665640564039457584007913129639936
def zt(j:Nat):Gd:=p4 (Jq (enc j 0 0)) (Jq (enc j 1 0)) (Jq (enc j 2 0)) (Jq (enc j 3 0))
def SS(s:CS)(n:Nat):Bool:=Bj 0 (gx s n).lo&&Bj (gx s n).hi 18446744073709551615
def AAx(s:CS)(n:Nat):Bool:=match s.x (.v n 1) with
 |some a=>Bj 0 a.lo&&Bj a.hi 1
 |none=>false
def frT(s:CS)(q t u:Nat×Nat×Nat×Nat)(c:Nat)(X:Gd)(r:List AV):Bool:=
 let Q:=p4 (gx s q.1).p (gx s q.2.1).p (gx s q.2.2.1).p (gx s q.2.2.2).p
 let T:=p4 (gx s t.1).p (gx s t.2.1).p (gx s t.2.2.1).p (gx s t.2.2.2).p
 let S:=p4 (gx s u.1).p (gx s u.2.1).p (gx s u.2.2.1).p (gx s u.2.2.2).p
 let c0:=Jq (enc u.2.2.2 1 0)
 let c1:=Jq (enc c 1 0)
 ((PQ 0 (De (Cq F5 T) (Cq (-1) (De X (Cq OM Q)))) &&
 PQ 0 (De S (Cq (-1) (De T (De (bJ (-OM)) (Cq F5 c0)))))) &&
 (PQ 0 (De (gx s c).p (Cq (-1) (De (Cq (-1) c0) (Cq 18446744073709551616 c1)))) &&
 (match r with
 | [r0,r1,r2,r3]=>PQ 0 (De (p4 r0.p r1.p r2.p r3.p) (Cq (-1) (De S (VQ [] c1 (De T (Cq (-1) S))))))&&((Bj 0 r0.lo&&Bj r0.hi 18446744073709551615)&&(Bj 0 r1.lo&&Bj r1.hi 18446744073709551615)&&(Bj 0 r2.lo&&Bj r2.hi 18446744073709551615)&&(Bj 0 r3.lo&&Bj r3.hi 18446744073709551615))
 |_=>false))) &&
 ((SS s q.1&&SS s q.2.1&&SS s q.2.2.1&&SS s q.2.2.2&&(SS s t.1&&SS s t.2.1&&SS s t.2.2.1&&SS s t.2.2.2))&&((SS s u.1&&SS s u.2.1&&SS s u.2.2.1&&SS s u.2.2.2)&&(SS s c&&AAx s c&&AAx s u.2.2.2)))
theorem AUt:(match Yg BG BF vN [[],jK] with
 |some (s,[r])=>frT s (117,1317,3333,5317) (6196,6404,6644,6772) (6852,7012,7172,7332) 7460 (zt 1) r
 |_=>false)=true:=by kernel_rfl
theorem WH(ρ:Bl){j:Nat}{l:List Int}(h:ρ j=l):F8 ρ (zt j)=l.getD 0 0+(18446744073709551616*l.getD 1 0+(340282366920938463463374607431768211456*l.getD 2 0+6277101735386680763835789423207666416102355444464034512896*l.getD 3 0)):=by
 simp only[zt,p4,Cc,CW,Gu];rw[αv_enc0 ρ (by omega),αv_enc0 ρ (by omega),αv_enc0 ρ (by omega),αv_enc0 ρ (by omega),h]
def v4(l:List Int):Int:=l.getD 0 0+(18446744073709551616*l.getD 1 0+(340282366920938463463374607431768211456*l.getD 2 0+6277101735386680763835789423207666416102355444464034512896*l.getD 3 0))
def u4(l:List Int):Prop:=l.length=4∧∀ k,k<4→0≤l.getD k 0∧l.getD k 0≤18446744073709551615
theorem four{α:Type}{l:List α}(h:l.length=4):∃ a b c d,l= [a,b,c,d]:=by
 match l,h with
 | [a,b,c,d],_=>exact⟨a,b,c,d,rfl⟩
theorem SL{ζ:List (List (Int×Int))}{ins:List (List Int)}{x:List Int}(h:u4 x)(hb:NR ζ ins):NR (jK::ζ) (x::ins):=
 WR jK x ⟨by decide,fun k p hk=>by
  match k,hk with
  |0,hk=>simp only[jK,VT,Am] at hk;subst hk;exact h.2 0 (by omega)
  |1,hk=>simp only[jK,zbv,VT,Am] at hk;subst hk;exact h.2 1 (by omega)
  |2,hk=>simp only[jK,zbv,VT,Am] at hk;subst hk;exact h.2 2 (by omega)
  |3,hk=>simp only[jK,zbv,VT,Am] at hk;subst hk;exact h.2 3 (by omega)
  |k+4,hk=>simp[jK] at hk⟩ hb
theorem AF3(o:List Int)(c z y:Int):D7.raw Dv 0 [o,[c],[z],[y]]= [Ao .or .u64 (Ao .and .u64 (Ao .mul .u64 c 18446744073709551615) y) (Ao .and .u64 (Ao .xor .u64 18446744073709551615 (Ao .mul .u64 c 18446744073709551615)) z)]:=by kernel_rfl
theorem ATF{z y:Int}(hz:JC .u64 z)(hy:JC .u64 y):Ao .or .u64 (Ao .and .u64 (Ao .mul .u64 0 18446744073709551615) y) (Ao .and .u64 (Ao .xor .u64 18446744073709551615 (Ao .mul .u64 0 18446744073709551615)) z)=z:=by
 have e:Ao .mul .u64 0 18446744073709551615=0:=by decide +kernel
 have e2:Ao .xor .u64 18446744073709551615 0=18446744073709551615:=by decide +kernel
 rw[e,e2];show Dl .or .u64 (Dl .and .u64 0 y) (Dl .and .u64 18446744073709551615 z)=z;rw[eU hy,XM hz,(x9 hz).2]
theorem ASQ{z y:Int}(hz:JC .u64 z)(hy:JC .u64 y):Ao .or .u64 (Ao .and .u64 (Ao .mul .u64 1 18446744073709551615) y) (Ao .and .u64 (Ao .xor .u64 18446744073709551615 (Ao .mul .u64 1 18446744073709551615)) z)=y:=by
 have e:Ao .mul .u64 1 18446744073709551615=18446744073709551615:=by decide +kernel
 have e2:Ao .xor .u64 18446744073709551615 18446744073709551615=0:=by decide +kernel
 rw[e,e2];show Dl .or .u64 (Dl .and .u64 18446744073709551615 y) (Dl .and .u64 0 z)=y;rw[eU hz,XM hy,(x9 hy).1]
theorem AJs:BI.pr 0= .l fun a=>Aw 1 (D7.raw Dv 0 a):=rfl
theorem yJ{T:Tb}{f:Nat}(h:lk f T=some (.one BI)):vW T f .cmov:=fun o c z y hc hz hy=>by
 rw[UM h,AJs];show Aw 1 (D7.raw Dv 0 [o,[c],[z],[y]])=_;rw[AF3]
 rcases hc with rfl|rfl
 ·rw[ATF hz hy,if_pos rfl];rfl
 ·rw[ASQ hz hy,if_neg (by decide)];rfl
theorem WQ{T:Tb}(h1:lk 172 T=some (.one Ef))(h2:lk 174 T=some (.one BI)):Xx T vN:=fun f κ h=>by
 simp only[vN,lk] at h
 cases hb:Nat.beq 172 f with
 |true=>
  rw[hb,cond_true,Am] at h;have:=CL hb;subst this;subst h;exact pR h1
 | false=>
  rw[hb,cond_false] at h
  cases hb2:Nat.beq 174 f with
  |true=>
   rw[hb2,cond_true,Am] at h;have:=CL hb2;subst this;subst h;exact yJ h2
  |false=>rw[hb2] at h;cases h
theorem I8{ρ:Bl}{s:CS}(hs:PT ρ s){n:Nat}(h:SS s n=true):0≤F8 ρ (gx s n).p∧F8 ρ (gx s n).p≤18446744073709551615:=by
 simp only[SS,Bd] at h;have h1:=AC3 hs h.1;rw[← h1.1];exact⟨Sk (BB h.1) h1.2.1,Sk h1.2.2.1 (BB h.2)⟩
theorem Zk{ρ:Bl}{s:CS}(hs:PT ρ s){n:Nat}(h:AAx s n=true):0≤F8 ρ (Jq (enc n 1 0))∧F8 ρ (Jq (enc n 1 0))≤1:=by
 unfold AAx at h
 split at h
 ·rename_i a ha
  simp only[Bd] at h;have h1:=CS.x_ok hs ha;rw[Gu,αv_enc0 ρ (by omega)];exact⟨Sk (BB h.1) h1.2.1,Sk h1.2.2.1 (BB h.2)⟩
 ·cases h
theorem fJ.four{ρ:Bl}{l:List Int}{a b c d:AV}(h:fJ ρ l [a,b,c,d]):∃ x y z w,l= [x,y,z,w]∧a.ok ρ x∧b.ok ρ y∧c.ok ρ z∧d.ok ρ w:=by
 obtain⟨x,y,z,w,rfl⟩:=Go.Proofs.YtloibefkijfdlaaGreatDoor.four h.1;exact⟨x,y,z,w,rfl,h.2 0 _ _ rfl rfl,h.2 1 _ _ rfl rfl,h.2 2 _ _ rfl rfl,h.2 3 _ _ rfl rfl⟩
theorem ASa{ρ:Bl}{s:CS}(hs:PT ρ s){q t u:Nat×Nat×Nat×Nat}{c:Nat}{X:Gd}{r:List AV}(h:frT s q t u c X r=true){l:List Int}(hl:fJ ρ l r)(hX:0≤F8 ρ X∧F8 ρ X<OM*F5):
  u4 l∧0≤v4 l∧v4 l<OM∧(OM ∣ v4 l*F5-F8 ρ X):=by
 unfold frT at h;simp only[Bd] at h;obtain⟨⟨⟨h1,h2⟩,h3,h4⟩,⟨⟨⟨⟨a1,a2⟩,a3⟩,a4⟩,⟨⟨⟨b1,b2⟩,b3⟩,b4⟩⟩,⟨⟨⟨c1,c2⟩,c3⟩,c4⟩,⟨d1,d2⟩,d3⟩:=h
 split at h4
 ·rename_i r0 r1 r2 r3
  simp only[Bd] at h4;obtain⟨h4,⟨⟨e0,e1⟩,e2⟩,e3⟩:=h4;obtain⟨x0,x1,x2,x3,rfl,g0,g1,g2,g3⟩:=hl.four;have q1:=pz (ρ:=ρ) h1;have q2:=pz (ρ:=ρ) h2;have q3:=pz (ρ:=ρ) h3;have q4:=pz (ρ:=ρ) h4;simp only[p4,Cc,CW,RP,U9, ← g0.1, ← g1.1, ← g2.1, ← g3.1] at q1 q2 q3 q4;have a1:=I8 hs a1;have a2:=I8 hs a2;have a3:=I8 hs a3;have a4:=I8 hs a4;have b1:=I8 hs b1;have b2:=I8 hs b2;have b3:=I8 hs b3;have b4:=I8 hs b4;have c1:=I8 hs c1;have c2:=I8 hs c2;have c3:=I8 hs c3;have c4:=I8 hs c4;have d1:=I8 hs d1;have d2:=Zk hs d2;have d3:=Zk hs d3;have rb:∀ {a:AV} {x:Int},a.ok ρ x→(Bj 0 a.lo=true∧Bj a.hi 18446744073709551615=true)→0≤x∧x≤18446744073709551615:=fun ha hb=>by
   exact⟨Sk (BB hb.1) ha.2.1,Sk ha.2.2.1 (BB hb.2)⟩
  have f0:=rb g0 e0;have f1:=rb g1 e1;have f2:=rb g2 e2;have f3:=rb g3 e3;refine⟨⟨rfl,fun k hk=>?_⟩,?_⟩
  ·match k,hk with
   |0,_=>exact f0
   |1,_=>exact f1
   |2,_=>exact f2
   |3,_=>exact f3
  ·unfold v4;simp only[Qu,Ze];unfold OM F5 at *
   generalize F8 ρ (gx s q.1).p=k0 at *
   generalize F8 ρ (gx s q.2.1).p=k1 at *
   generalize F8 ρ (gx s q.2.2.1).p=k2 at *
   generalize F8 ρ (gx s q.2.2.2).p=k3 at *
   generalize F8 ρ (gx s t.1).p=t0 at *
   generalize F8 ρ (gx s t.2.1).p=t1 at *
   generalize F8 ρ (gx s t.2.2.1).p=t2 at *
   generalize F8 ρ (gx s t.2.2.2).p=t3 at *
   generalize F8 ρ (gx s u.1).p=u0 at *
   generalize F8 ρ (gx s u.2.1).p=u1 at *
   generalize F8 ρ (gx s u.2.2.1).p=u2 at *
   generalize F8 ρ (gx s u.2.2.2).p=u3 at *
   generalize F8 ρ (Jq (enc c 1 0))=cc at *
   generalize F8 ρ (Jq (enc u.2.2.2 1 0))=c0 at *
   generalize F8 ρ (gx s c).p=cw at *
   generalize F8 ρ X=XX at *
   have hcc:cc=0∨cc=1:=by omega
   rcases hcc with rfl|rfl
   ·rw[zcr,wP] at q4;refine⟨by omega,by omega,⟨(k0+(18446744073709551616*k1+(340282366920938463463374607431768211456*k2+6277101735386680763835789423207666416102355444464034512896*k3)))-115792089237316195423570985008687907853269984665640564039457584007913129639936,by omega⟩⟩
   ·rw[zcw] at q4;refine⟨by omega,by omega,⟨(k0+(18446744073709551616*k1+(340282366920938463463374607431768211456*k2+6277101735386680763835789423207666416102355444464034512896*k3))),by omega⟩⟩
 ·cases h4
theorem xu{l:List Int}(h:u4 l):0≤v4 l∧v4 l<F5:=by
 have h0:=h.2 0 (by omega);have h1:=h.2 1 (by omega);have h2:=h.2 2 (by omega);have h3:=h.2 3 (by omega);unfold v4 F5;omega
theorem AKL{v x:List Int}(hx:u4 x):u4 (BG.raw BF 0 [v,x])∧0≤v4 (BG.raw BF 0 [v,x])∧v4 (BG.raw BF 0 [v,x])<OM∧(OM ∣ v4 (BG.raw BF 0 [v,x])*F5-v4 x):=by
 have ht:=AUt
 split at ht
 ·rename_i s r hr
  obtain⟨_,ρ,h1,hS,h2⟩:=SE (WQ rfl rfl) hr (ins:=[v,x]) (Mt v (SL hx (Ie _)));have hX:F8 ρ (zt 1)=v4 x:=WH ρ (h1 1 (by decide));have hb:=xu hx;rw[← hX] at hb ⊢;exact ASa hS ht (h2 0 r rfl) ⟨hb.1,by unfold OM F5 at *;omega⟩
 ·cases ht
end
section
open Go
theorem AU9:(match Yg CQ CO [] [[],jK] with
 |some (_,[bs])=>Nat.beq bs.length 32&&bs.all byB&&PQ 0 (De (leP bs) (Cq (-1) (zt 1)))
 |_=>false)=true:=by kernel_rfl
theorem ANm{v x:List Int}(hx:u4 x):(CQ.raw CO 0 [v,x]).length=32∧by8 (CQ.raw CO 0 [v,x])∧IG (CQ.raw CO 0 [v,x])=v4 x:=by
 have ht:=AU9
 split at ht
 ·rename_i s bs hr
  obtain⟨_,ρ,h1,hS,h2⟩:=SE (fun f κ h=>by cases h) hr (ins:=[v,x]) (Mt v (SL hx (Ie _)));have hA:=h2 0 bs rfl;simp only[Bd] at ht;obtain⟨⟨t1,t2⟩,t3⟩:=ht;have t1:=CL t1;have hX:F8 ρ (zt 1)=v4 x:=WH ρ (h1 1 (by decide));have t3:=pz (ρ:=ρ) t3;rw[sD hA,hX] at t3;exact⟨hA.1.trans t1,vV hA t2,t3⟩
 ·cases ht
def AIy(n:Nat):Nat→Nat→List X→Bool
 |0,_,[]=>true
 |m+1,k,.v i j::r=>Nat.beq i n&&Nat.beq j k&&AIy n m (k+1) r
 |_,_,_=>false
theorem pX{ρ:Bl}{n:Nat}:∀ {m k:Nat} {l:List X},AIy n m k l=true→l.map (·.den ρ)=(List.range m).map fun j=>(ρ n).getD (k+j) 0
 |0,_,[],_=>rfl
 |m+1,k,.v i j::r,h=>by
  simp only[AIy,Bd] at h;have e1:=CL h.1.1;have e2:=CL h.1.2;subst e1;subst e2;rw[NT,pX h.2,List.range_succ_eq_map,NT,List.map_map]
  congr 1
  apply fU
  intro i _
  simp only[Function.comp]
  congr 1;omega
 |0,_,_::_,h=>by cases h
 |m+1,_,[],h=>by cases h
 |m+1,_,.lit _::_,h=>by cases h
theorem VF{l:List Int}{n:Nat}(h:l.length=n):((List.range n).map fun k=>l.getD k 0)=l:=by
 subst h;exact Au rfl
def AT7(f1 f2:Nat):Option (List (Nat×FR)×List (List X))→Bool
 |some ([(n1,⟨.fn f true 0,[.xs _,.vec 0]⟩),(n2,⟨.fn g true 0,[.xs _,.vec a]⟩)],[l])=>Nat.beq f f1&&Nat.beq g f2&&Nat.beq a n1&&AIy n2 32 0 l
 |_=>false
theorem AR2:AT7 189 190 (AIW BN BA)=true:=by kernel_rfl
theorem ARl:lk 189 BA.T=some (.one DJ):=rfl
theorem ARK:lk 190 BA.T=some (.one ER):=rfl
theorem ATG:DJ.pr 0= .l fun a=>Aw 4 (BG.raw BF 0 a):=rfl
theorem ARz:ER.pr 0= .l fun a=>Aw 32 (CQ.raw CO 0 a):=rfl
theorem AN5:BM.pr 0= .l fun a=>Aw 32 (BN.raw BA 0 a):=rfl
structure ScV (l:List Int) (m:Int):Prop where
 lo:0≤m
 hi:m<OM
 eq:OM ∣ m*F5-v4 l
theorem AHH{x:List Int}(hx:u4 x):∃ m,ScV x m∧(BN.raw BA 0 [x]).length=32∧by8 (BN.raw BA 0 [x])∧IG (BN.raw BA 0 [x])=m:=by
 have ht:=AR2;unfold AT7 at ht
 split at ht
 ·rename_i n1 f z1 n2 g z2 a l hl
  simp only[Bd] at ht;obtain⟨⟨⟨t1,t2⟩,t3⟩,t4⟩:=ht;have t1:=CL t1;have t2:=CL t2;have t3:=CL t3;subst t1;subst t2;subst t3;obtain⟨ρ,h1,h2,h3⟩:=xZ hl [x];have e0:ρ 0=x:=h1 0 (by decide);have e1:=h2 _ LA;have e2:=h2 _ (MQ _ LA);simp only[FR.den,NT,Vi,Iq.den] at e1 e2;rw[UM ARl,ATG,e0] at e1;rw[UM ARK,ARz] at e2;obtain⟨g1,g2,g3,g4⟩:=AKL (v:=z1.map (·.den ρ)) hx;have e1':ρ a=BG.raw BF 0 [z1.map (·.den ρ),x]:=e1.trans (Au g1.1);rw[← e1'] at g1 g2 g3 g4;obtain⟨k1,k2,k3⟩:=ANm (v:=z2.map (·.den ρ)) g1;have e2':ρ n2=CQ.raw CO 0 [z2.map (·.den ρ),ρ a]:=e2.trans (Au k1);rw[← e2'] at k1 k2 k3;have hr:BN.raw BA 0 [x]=ρ n2:=by
   rw[h3 0 _ rfl,pX t4];have:=VF k1
   simpa using this
  rw[hr];exact⟨v4 (ρ a),⟨g2,g3,g4⟩,k1,k2,k3⟩
 ·cases ht
end
end Go.Proofs.YtloibefkijfdlaaGreatDoor
