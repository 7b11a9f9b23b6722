/- The bytes of a number of the field. -/
import Derived.Test.YtkbfdaoohhmgoaaGreatDoorFb
namespace Go.Proofs.YtkbfdaoohhmgoaaGreatDoor
section
open Go Ma
def gx(s:CS)(n:Nat):AV:=match s.x (.v n 0) with
 |some a=>a
 |none=>⟨[],-1,0,0⟩
theorem AD6{ρ:Bu}{s:CS}(hs:RN ρ s){n:Nat}(hl:Bl 0 (gx s n).lo=true):(gx s n).ok ρ ((ρ n).getD 0 0):=by
 unfold gx at *
 cases ha:s.x (.v n 0) with
 |some a=>exact CS.gk hs ha
 |none=>rw[ha] at hl;cases hl
def gB(s:CS)(n:Nat):Bool:=Bl 0 (gx s n).lo&&Bl (gx s n).hi fB
theorem lg{ρ:Bu}{s:CS}(hs:RN ρ s){n:Nat}(h:gB s n=true):0<=Er ρ (gx s n).p/\Er ρ (gx s n).p<=fB:=by
 simp only[gB,Bj] at h;have h1:=AD6 hs h.1;rw[<- h1.1];exact⟨Sd (A8 h.1) h1.2.1,Sd h1.2.2.1 (A8 h.2)⟩
def gz(s:CS)(n:Nat):Fj:=DZ (gx s n).p (Cq (-1) (Ir (enc n 0 0)))
theorem yK{ρ:Bu}{s:CS}(hs:RN ρ s){n:Nat}(h:Bl 0 (gx s n).lo=true):Er ρ (gz s n)=0:=by
 have h1:=AD6 hs h;unfold gz;rw[Ci,Cf,Gc,αv_enc0 ρ (by omega), <- h1.1];omega
def bV(s:CS):Fj:=SF [(gx s 466).p,(gx s 1378).p,(gx s 1186).p,(gx s 946).p,(gx s 706).p]
def bC:Fj:=Ir (enc 2050 0 51)
def bC':Fj:=Ir (enc 3458 0 51)
def bT:Fj:=Ir (enc 0 4 51)
def ADa:Int:=57896044618658097711785492504343953926634992332820282019728792003956564819968
def bZ(s:CS):Fj:=DZ (gz s 3922) (DZ (Cq 18446744073709551616 (gz s 4050)) (DZ (Cq 340282366920938463463374607431768211456 (gz s 4178)) (Cq 6277101735386680763835789423207666416102355444464034512896 (gz s 4306))))
def ARW(r:Option (CS×List (List AV))):Bool:=match r with
 | some (s,[bs])=>(match flr s 1538 51,flr s 1666 51,flr s 1794 51,flr s 1922 51,flr s 2050 51 with
  |some a,some b,some c,some d,some e=>
   Ol 0 (DZ (SF [a,b,c,d,e]) (Cq (-1) (DZ (bV s) (DZ (cK 19) (Cq (-ADa) bC))))) &&
   (Ol 0 (DZ (DZ (leP bs) (bZ s)) (Cq (-1) (DZ (bV s) (DZ (Cq 19 bC) (Cq (-ADa) bC'))))) &&
   (Ol 0 (DZ (bV s) (Cq (-1) (DZ (Gk 0 0) (Cq (-(Kk:Int)) bT)))) &&
   ((Nat.beq bs.length 32&&bs.all byB&&Bl (bs.getD 31 ⟨[],0,255,0⟩).hi 127)&&(gB s 466&&gB s 1378&&gB s 1186&&gB s 946&&gB s 706)&&(Bl 0 (gx s 3922).lo&&Bl 0 (gx s 4050).lo&&Bl 0 (gx s 4178).lo&&Bl 0 (gx s 4306).lo))))
  |_,_,_,_,_=>false)
 |_=>false
theorem ARH:ARW (Xl Cy Cz Mf1 [bF])=true:=by kernel_rfl
theorem pz{ρ:Bu}{p q:Fj}(h:Ol 0 (DZ p (Cq (-1) q))=true):Er ρ p=Er ρ q:=by
 obtain⟨k,hk⟩:=WR ρ h;rw[Ci,Cf] at hk;simp only[Int.natCast_zero,RW] at hk;omega
theorem AOJ{l:List Int}(h:cI l)(hl:l.length=32)(wc:l.getD 31 0<=127):Cm l<ADa:=by
 have e:l=l.take 31 ++ [l.getD 31 0]:=by
  apply List.ext_getElem (by simp[hl]);intro i h1 h2;by_cases hi:i<31
  ·rw[List.getElem_append_left (by simp;omega),List.getElem_take]
  ·have:i=31:=by omega
   subst this;rw[List.getElem_append_right (by simp;omega)];simp[hl]
 have h2:∀(a:List Int) (x:Int),Cm (a ++ [x])=Cm a+256^a.length*x:=by
  intro a x
  induction a with
  |nil=>simp[Cm]
  |cons y a ih=>
   simp only[LS,Cm,ih,NY,Hi];rw[wK,bf (256^a.length) 256,YL];omega
 have h3:cI (l.take 31):=λx hx=>h x (List.mem_of_mem_take hx)
 have h4:=NT h3;have hlen:(l.take 31).length=31:=by simp[hl]
 rw[hlen] at h4;rw[e,h2,hlen];have e2:(256:Int)^31=452312848583266388373324160190187140051835877600158453279131187530910662656:=by decide
 rw[e2] at h4 ⊢;unfold ADa;omega
theorem AHM{a:List Int}(h:Ix a):(Cy.raw Cz 0 [a]).length=32/\cI (Cy.raw Cz 0 [a])/\Cm (Cy.raw Cz 0 [a])=Oe a%(Kk:Int):=by
 have ht:=ARH;unfold ARW at ht;split at ht
 ·rename_i s bs hr;obtain⟨_,ρ,h1,hS,h2⟩:=Q9 (uH rfl) hr (ins:=[a]) (X4 h (Hm _));have hA:=h2 0 bs rfl;generalize Cy.raw Cz 0 [a]=R at *
  split at ht
  ·rename_i fa fb fc fd fe ha hb hc hd he;simp only[Bj] at ht;obtain⟨t1,t2,t3,⟨⟨⟨t4,t5⟩,t6⟩,⟨⟨⟨⟨u0,u1⟩,u2⟩,u3⟩,u4⟩⟩,⟨⟨v0,v1⟩,v2⟩,v3⟩:=ht;have t4:=Ca t4;have hl:R.length=32:=hA.1.trans t4;have h8:=su hA t5;have ea:=aY hS ha;have eb:=aY hS hb;have ec:=aY hS hc;have ed:=aY hS hd;have ee:=aY hS he;have q1:=pz (ρ:=ρ) t1;have q2:=pz (ρ:=ρ) t2;have q3:=pz (ρ:=ρ) t3;have w0:=lg hS u0;have w1:=lg hS u1;have w2:=lg hS u2;have w3:=lg hS u3;have w4:=lg hS u4;have z:Er ρ (bZ s)=0:=by
    simp only[bZ,Ci,Cf,yK hS v0,yK hS v1,yK hS v2,yK hS v3];rfl
   have wc:R.getD 31 0<=127:=by
    have g1:31<R.length:=by omega
    have g2:31<bs.length:=by omega
    have:=hA.2 31 R[31] bs[31] (Io g1) (Io g2);have t6:=A8 t6;rw[List.getD,Io g2] at t6;rw[List.getD,Io g1];exact Sd this.2.2.1 t6
   have afZ:=AOJ h8 hl wc;have sC:=(NT h8).1;refine⟨hl,h8,?_⟩;rw[Ci,z,vD hA] at q2;rw[Ci,Cf,TG ρ (h1 0 (by decide))] at q3;simp only[SF,Ci,Cf,Rb] at q1 q2;have hV:Er ρ (bV s)=Er ρ (gx s 466).p+(2251799813685248*Er ρ (gx s 1378).p+(5070602400912917605986812821504*Er ρ (gx s 1186).p+(11417981541647679048466287755595961091061972992*Er ρ (gx s 946).p+25711008708143844408671393477458601640355247900524685364822016*Er ρ (gx s 706).p))):=by
    simp only[bV,SF,Ci,Cf]
   simp only[Qx] at q3;have e51:((2^51:Nat):Int)=2251799813685248:=by decide
   rw[e51] at ea eb ec ed ee;have eP:((Kk:Nat):Int)=57896044618658097711785492504343953926634992332820282019728792003956564819949:=rfl;rw[eP] at q3 ⊢;unfold ADa at *
   unfold fB at *
   generalize Er ρ bC=c at *
   generalize Er ρ bC'=c' at *
   generalize Er ρ bT=t at *
   generalize Er ρ (bV s)=V at *
   generalize Cm R=r at *
   generalize Oe a=A at *
   have hc:c'=c:=by omega
   subst hc;omega
  ·cases ht
 ·cases ht
end
section
open Go Ma
theorem kP{T:Tb}(h:lk 142 T=some (.one CB)){a:List Int}{x:Fp}(ha:Gl x a):NB T 142 [a]/\(gv T 142 0 [a]).length=32/\cI (gv T 142 0 [a])/\Cm (gv T 142 0 [a])=(x.val:Int):=by
 obtain⟨h1,h2,h3⟩:=AHM ha.1;refine⟨C8 h trivial,?_⟩;rw[Bf h];show(BF 32 (Cy.raw Cz 0 [a])).length=32/\cI (BF 32 (Cy.raw Cz 0 [a]))/\Cm (BF 32 (Cy.raw Cz 0 [a]))=_;rw[Ay h1];refine⟨h1,h2,?_⟩;rw[h3, <- ha.2,KX]
theorem AGP:(List.range 33).all (eqP Hq Fg 142 36 68)=true:=by kernel_rfl
theorem ABe:Hl.pr 0= .i λa=>d1 (Hq.raw Fg 0 a):=rfl
theorem jX:lk 142 Fg.T=some (.one CB):=rfl
theorem ADV{T:Tb}(h:lk 109 T=some (.one Hl)):KF.Ok T 109 .eqf:=λa b x y ha hb=>by
 refine⟨C8 h trivial,?_⟩;rw[Bf h,ABe];have ga:=(kP jX ha).2;have gb:=(kP jX hb).2;rw[Bf jX] at ga gb;have:=AL1 jX rfl AGP (a:=a) (b:=b) rfl rfl gb.1 ga.1;show[d1 (Hq.raw Fg 0 [a,b])]=_;rw[this,W9];unfold kT
 congr 2
 generalize (CB.pr 0).den [a]=A at *
 generalize (CB.pr 0).den [b]=B at *
 by_cases Rr:x=y
 ·subst Rr;have e:B=A:=zF gb.2.1 ga.2.1 (by rw[gb.1,ga.1]) (by rw[gb.2.2,ga.2.2]);rw[Ni.2 rfl];simp only[e,decide_true]
 ·have e:¬B=A:=λhe=>Rr (QP (by rw[<- ga.2.2, <- gb.2.2,he]))
  rw[bD Rr];simp only[e,decide_false]
def ARp(fb:Nat):Option (List (Nat×FT)×List (List X))->Bool
 |some ([(n1,⟨.fn f true 0,[.vec 0]⟩),(n2,⟨.bin .and .u8,[.xs [.v a 0],.xs [.lit (.ofNat c)]]⟩),(n3,⟨.conv .i64,[.xs [.v b 0]]⟩)],[[.v d 0]])=>Nat.beq f fb&&Nat.beq a n1&&Nat.beq c 1&&Nat.beq b n2&&Nat.beq d n3
 |_=>false
theorem AQ7:ARp 142 (AHq ED DV)=true:=by kernel_rfl
theorem sD:lk 142 DV.T=some (.one CB):=rfl
theorem AJK(a:List Int):ED.raw DV 0 [a]= [IntKind.i64.wrap (Ak .and .u8 (((CB.pr 0).den [a]).getD 0 0) 1)]:=by
 have ht:=AQ7;unfold ARp at ht;split at ht
 ·rename_i n1 f n2 x c n3 y d hl;simp only[Bj] at ht;obtain⟨⟨⟨⟨t1,t2⟩,t3⟩,t4⟩,t5⟩:=ht;have t1:=Ca t1;have t2:=Ca t2;have t3:=Ca t3;have t4:=Ca t4;have t5:=Ca t5;subst t1;subst t2;subst t3;subst t4;subst t5;obtain⟨ρ,h1,h2,h3⟩:=wI hl [a];have e0:ρ 0= [a].getD 0 []:=h1 0 (by decide);have e34:=h2 _ Jv;have e82:=h2 _ (MN _ Jv);have e98:=h2 _ (MN _ (MN _ Jv));simp only[FT.den,NM,VW,Hy.den,X.den] at e34 e82 e98;rw[e0,Tv sD] at e34;rw[h3 0 _ rfl];simp only[NM,VW,X.den];rw[e98,e82];have akS:ρ x=(CB.pr 0).den [a]:=e34;rw[<- akS];rfl
 ·cases ht
theorem ALo:EB.pr 0= .i λa=>d1 (ED.raw DV 0 a):=rfl
theorem AAw{b:Int}(h:0<=b/\b<=255):IntKind.i64.wrap (Ak .and .u8 b 1)=b%2:=by
 obtain⟨n,rfl⟩:=kC h.1;have hn:n<256:=by omega
 have:∀m:Nat,m<256->IntKind.i64.wrap (Ak .and .u8 (m:Int) 1)=(m:Int)%2:=by decide +kernel
 exact this n hn
theorem tK{T:Tb}(h:lk 133 T=some (.one EB)):KF.Ok T 133 .isn:=λa x ha=>by
 refine⟨C8 h trivial,?_⟩;rw[Bf h,ALo];have ga:=(kP sD ha).2;rw[Bf sD] at ga;show[d1 (ED.raw DV 0 [a])]=_;rw[AJK,W9];generalize (CB.pr 0).den [a]=A at *
 match A,ga with
 |b::r,ga=>
  have hb:=ga.2.1 b Jv;have h3:=ga.2.2;simp only[Cm] at h3;rw[Qx,AAw hb];unfold kT
  congr 1
  have h4:b%2=((x.val%2:Nat):Int):=by omega
  rw[h4];rcases Nat.mod_two_eq_zero_or_one x.val with e|e<;>rw[e]<;>rfl
theorem AQL:WG (xu [(71,.neg),(133,.isn),(72,.cf)]) C2 Ic IR [none,some (fb [.v 0])]=some [[TL (.v 0)].map λe=>.a 5 e]:=by kernel_rfl
theorem ALn{T:Tb}(h:lk 110 T=some (.one IL)):KF.Ok T 110 .abs:=λv a x ha=>by
 have hp:=YI (.cons (jC rfl) (.cons (tK rfl) (.cons (jT rfl) .nil))) AQL rfl ⟨λ_=>x,λ_=>false⟩ (ins:=[v,a]) (.no (.yes (MM.bl (es:=[.v 0]) rfl ⟨a,[],by simp,ha,rfl⟩) .nil));refine⟨C8 h trivial,?_⟩;rw[Bf h];show Gl _ (BF 5 (Ic.raw IR 0 [v,a]));obtain⟨u,w,g1,g2,g3⟩:=hp.2;have hw:w= []:=g3;rw[hw,RD] at g1;rw[g1,Ay g2.1.1];have UP:Gl (bif Nat.beq (x.val%2) 1 then Jn 0-x else x) u:=g2;rw[Kz] at UP;exact UP
def AJ7:List (Nat×KF):=[(64,.sq),(67,.mul),(108,.pw eP),(71,.neg),(109,.eqf),(72,.cf),(110,.abs)]
theorem ARt:WG (xu AJ7) C2 Ck CR [none,some (fb [.v 0]),some (fb [.v 1])]=some [[.a 5 (TL (tX (.v 0) (.v 1)))],[.a 1 (gH (.v 0) (.v 1))]]:=by kernel_rfl
theorem AGN:EM.pr 0= .l λa=>BF 5 (Ck.raw CR 0 a):=rfl
theorem xm:EM.pr 2= .i λa=>d1 (Ck.raw CR 1 a):=rfl
theorem AEm{T:Tb}(h:lk 70 T=some (.one EM)):KF.Ok T 70 .sqr:=λv a b x y ha hb=>by
 have hM:MF CR.T AJ7:=.cons (Zd rfl) (.cons (KH rfl) (.cons (AMi rfl) (.cons (jC rfl) (.cons (ADV rfl) (.cons (jT rfl) (.cons (ALn rfl) .nil))))));have eE:qp (γF (FX.v2 x y)) [none,some (fb [.v 0]),some (fb [.v 1])] [v,a,b]:=.no (.yes (MM.bl (es:=[.v 0]) rfl ⟨a,[],by simp,ha,rfl⟩) (.yes (MM.bl (es:=[.v 1]) rfl ⟨b,[],by simp,hb,rfl⟩) .nil));have hp:=V5 (i:=Ck) (C:=CR) (γF (FX.v2 x y)) (bR hM (FX.v2 x y)) (λds=>Z5 ds) ARt eE.get;obtain⟨ρe,_,hr⟩:=hp.2;refine⟨C8 h hp.1,?_,?_⟩
 ·rw[Bf h,AGN];obtain⟨u,w,g1,g2,g3⟩:=MM.of (es:=[TL (tX (.v 0) (.v 1))]) rfl (hr 0 _ rfl);have hw:w= []:=g3;rw[hw,RD] at g1;show Gl _ (BF 5 (Ck.raw CR 0 [v,a,b]));rw[g1,Ay g2.1.1];exact g2
 ·rw[Bf h,xm];obtain⟨u,w,g1,g2,g3⟩:=hr 1 _ rfl;have hw:w= []:=g3;rw[hw,RD] at g1;show[d1 (Ck.raw CR 1 [v,a,b])]=_;rw[g1,γF_b g2.2 rfl];rfl
end
end Go.Proofs.YtkbfdaoohhmgoaaGreatDoor
