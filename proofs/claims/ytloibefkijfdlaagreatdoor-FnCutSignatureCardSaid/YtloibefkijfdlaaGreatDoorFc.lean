/- The bytes of a number of the field. -/
import Derived.Test.YtloibefkijfdlaaGreatDoorFb
namespace Go.Proofs.YtloibefkijfdlaaGreatDoor
section
open Go Ma
def gx(s:CS)(n:Nat):AV:=match s.x (.v n 0) with
 |some a=>a
 |none=>⟨[],-1,0,0⟩
theorem ACh{ρ:Br}{s:CS}(hs:OL ρ s){n:Nat}(hl:Bh 0 (gx s n).lo=true):(gx s n).ok ρ ((ρ n).getD 0 0):=by
 unfold gx at *
 cases ha:s.x (.v n 0) with
 |some a=>exact CS.gR hs ha
 |none=>rw[ha] at hl;cases hl
def gB(s:CS)(n:Nat):Bool:=Bh 0 (gx s n).lo&&Bh (gx s n).hi fB
theorem jf{ρ:Br}{s:CS}(hs:OL ρ s){n:Nat}(h:gB s n=true):0<=FU ρ (gx s n).p/\FU ρ (gx s n).p<=fB:=by
 simp only[gB,Bl] at h;have h1:=ACh hs h.1;rw[<- h1.1];exact⟨RP (A8 h.1) h1.2.1,RP h1.2.2.1 (A8 h.2)⟩
def gz(s:CS)(n:Nat):GU:=Di (gx s n).p (Cr (-1) (JV (enc n 0 0)))
theorem uD{ρ:Br}{s:CS}(hs:OL ρ s){n:Nat}(h:Bh 0 (gx s n).lo=true):FU ρ (gz s n)=0:=by
 have h1:=ACh hs h;unfold gz;rw[Cg,CZ,Gi,αv_enc0 ρ (by omega), <- h1.1];omega
def bV(s:CS):GU:=Ro [(gx s 466).p,(gx s 1378).p,(gx s 1186).p,(gx s 946).p,(gx s 706).p]
def bC:GU:=JV (enc 2050 0 51)
def bC':GU:=JV (enc 3458 0 51)
def bT:GU:=JV (enc 0 4 51)
def zQ:Int:=57896044618658097711785492504343953926634992332820282019728792003956564819968
def bZ(s:CS):GU:=Di (gz s 3922) (Di (Cr 18446744073709551616 (gz s 4050)) (Di (Cr 340282366920938463463374607431768211456 (gz s 4178)) (Cr 6277101735386680763835789423207666416102355444464034512896 (gz s 4306))))
def AOp(r:Option (CS×List (List AV))):Bool:=match r with
 | some (s,[bs])=>(match Ts s 1538 51,Ts s 1666 51,Ts s 1794 51,Ts s 1922 51,Ts s 2050 51 with
  |some a,some b,some c,some d,some e=>
   OC 0 (Di (Ro [a,b,c,d,e]) (Cr (-1) (Di (bV s) (Di (X8 19) (Cr (-zQ) bC))))) &&
   (OC 0 (Di (Di (leP bs) (bZ s)) (Cr (-1) (Di (bV s) (Di (Cr 19 bC) (Cr (-zQ) bC'))))) &&
   (OC 0 (Di (bV s) (Cr (-1) (Di (GS 0 0) (Cr (-(Mh:Int)) bT)))) &&
   ((Nat.beq bs.length 32&&bs.all byB&&Bh (bs.getD 31 ⟨[],0,255,0⟩).hi 127)&&(gB s 466&&gB s 1378&&gB s 1186&&gB s 946&&gB s 706)&&(Bh 0 (gx s 3922).lo&&Bh 0 (gx s 4050).lo&&Bh 0 (gx s 4178).lo&&Bh 0 (gx s 4306).lo))))
  |_,_,_,_,_=>false)
 |_=>false
theorem AOT:AOp (XE DU DT Mf1 [bF])=true:=by kernel_rfl
theorem pz{ρ:Br}{p q:GU}(h:OC 0 (Di p (Cr (-1) q))=true):FU ρ p=FU ρ q:=by
 obtain⟨k,hk⟩:=VB ρ h;rw[Cg,CZ] at hk;simp only[Int.natCast_zero,zcv] at hk;omega
theorem AMg{l:List Int}(h:cM l)(hl:l.length=32)(tg:l.getD 31 0<=127):Ct l<zQ:=by
 have e:l=l.take 31 ++ [l.getD 31 0]:=by
  apply List.ext_getElem (by simp[hl]);intro i h1 h2;by_cases hi:i<31
  ·rw[List.getElem_append_left (by simp;omega),List.getElem_take]
  ·have:i=31:=by omega
   subst this;rw[List.getElem_append_right (by simp;omega)];simp[hl]
 have h2:∀(a:List Int) (x:Int),Ct (a ++ [x])=Ct a+256^a.length*x:=by
  intro a x
  induction a with
  |nil=>simp[Ct]
  |cons y a ih=>
   simp only[zct,Ct,ih,Uk,RW];rw[qR,Xg (256^a.length) 256,Xt];omega
 have h3:cM (l.take 31):=λx hx=>h x (List.mem_of_mem_take hx)
 have h4:=KV h3;have hlen:(l.take 31).length=31:=by simp[hl]
 rw[hlen] at h4;rw[e,h2,hlen];have e2:(256:Int)^31=452312848583266388373324160190187140051835877600158453279131187530910662656:=by decide
 rw[e2] at h4 ⊢;unfold zQ;omega
theorem AHL{a:List Int}(h:Is a):(DU.raw DT 0 [a]).length=32/\cM (DU.raw DT 0 [a])/\Ct (DU.raw DT 0 [a])=NG a%(Mh:Int):=by
 have ht:=AOT;unfold AOp at ht;split at ht
 ·rename_i s bs hr;obtain⟨_,ρ,h1,hS,h2⟩:=Q0 (nS rfl) hr (ins:=[a]) (XL h (IL _));have hA:=h2 0 bs rfl;generalize DU.raw DT 0 [a]=R at *
  split at ht
  ·rename_i fa fb fc fd fe ha hb hc hd he;simp only[Bl] at ht;obtain⟨t1,t2,t3,⟨⟨⟨t4,t5⟩,t6⟩,⟨⟨⟨⟨u0,u1⟩,u2⟩,u3⟩,u4⟩⟩,⟨⟨v0,v1⟩,v2⟩,v3⟩:=ht;have t4:=CR t4;have hl:R.length=32:=hA.1.trans t4;have h8:=nA hA t5;have ea:=Wn hS ha;have eb:=Wn hS hb;have ec:=Wn hS hc;have ed:=Wn hS hd;have ee:=Wn hS he;have q1:=pz (ρ:=ρ) t1;have q2:=pz (ρ:=ρ) t2;have q3:=pz (ρ:=ρ) t3;have w0:=jf hS u0;have w1:=jf hS u1;have w2:=jf hS u2;have w3:=jf hS u3;have w4:=jf hS u4;have z:FU ρ (bZ s)=0:=by
    simp only[bZ,Cg,CZ,uD hS v0,uD hS v1,uD hS v2,uD hS v3];rfl
   have tg:R.getD 31 0<=127:=by
    have g1:31<R.length:=by omega
    have g2:31<bs.length:=by omega
    have:=hA.2 31 R[31] bs[31] (JC g1) (JC g2);have t6:=A8 t6;rw[List.getD,JC g2] at t6;rw[List.getD,JC g1];exact RP this.2.2.1 t6
   have agT:=AMg h8 hl tg;have th:=(KV h8).1;refine⟨hl,h8,?_⟩;rw[Cg,z,oG hA] at q2;rw[Cg,CZ,Sr ρ (h1 0 (by decide))] at q3;simp only[Ro,Cg,CZ,P8] at q1 q2;have hV:FU ρ (bV s)=FU ρ (gx s 466).p+(2251799813685248*FU ρ (gx s 1378).p+(5070602400912917605986812821504*FU ρ (gx s 1186).p+(11417981541647679048466287755595961091061972992*FU ρ (gx s 946).p+25711008708143844408671393477458601640355247900524685364822016*FU ρ (gx s 706).p))):=by
    simp only[bV,Ro,Cg,CZ]
   simp only[Ru] at q3;have e51:((2^51:Nat):Int)=2251799813685248:=by decide
   rw[e51] at ea eb ec ed ee;have eP:((Mh:Nat):Int)=57896044618658097711785492504343953926634992332820282019728792003956564819949:=rfl;rw[eP] at q3 ⊢;unfold zQ at *
   unfold fB at *
   generalize FU ρ bC=c at *
   generalize FU ρ bC'=c' at *
   generalize FU ρ bT=t at *
   generalize FU ρ (bV s)=V at *
   generalize Ct R=r at *
   generalize NG a=A at *
   have hc:c'=c:=by omega
   subst hc;omega
  ·cases ht
 ·cases ht
end
section
open Go Ma
theorem dU{T:Tb}(h:lk 200 T=some (.one CE)){a:List Int}{x:Fp}(ha:Ho x a):LM T 200 [a]/\(gv T 200 0 [a]).length=32/\cM (gv T 200 0 [a])/\Ct (gv T 200 0 [a])=(x.val:Int):=by
 obtain⟨h1,h2,h3⟩:=AHL ha.1;refine⟨Cf h trivial,?_⟩;rw[BQ h];show(BK 32 (DU.raw DT 0 [a])).length=32/\cM (BK 32 (DU.raw DT 0 [a]))/\Ct (BK 32 (DU.raw DT 0 [a]))=_;rw[Bn h1];refine⟨h1,h2,?_⟩;rw[h3, <- ha.2,ML]
theorem AEP:(List.range 33).all (eqP Ii Gq 200 36 68)=true:=by kernel_rfl
theorem zb:Ih.pr 0= .i λa=>d1 (Ii.raw Gq 0 a):=rfl
theorem gK:lk 200 Gq.T=some (.one CE):=rfl
theorem ACj{T:Tb}(h:lk 161 T=some (.one Ih)):KF.Ok T 161 .eqf:=λa b x y ha hb=>by
 refine⟨Cf h trivial,?_⟩;rw[BQ h,zb];have ga:=(dU gK ha).2;have gb:=(dU gK hb).2;rw[BQ gK] at ga gb;have:=AL2 gK rfl AEP (a:=a) (b:=b) rfl rfl gb.1 ga.1;show[d1 (Ii.raw Gq 0 [a,b])]=_;rw[this,WZ];unfold fA
 congr 2
 generalize (CE.pr 0).den [a]=A at *
 generalize (CE.pr 0).den [b]=B at *
 by_cases Wb:x=y
 ·subst Wb;have e:B=A:=vP gb.2.1 ga.2.1 (by rw[gb.1,ga.1]) (by rw[gb.2.2,ga.2.2]);rw[Re.2 rfl];simp only[e,decide_true]
 ·have e:¬B=A:=λhe=>Wb (QG (by rw[<- ga.2.2, <- gb.2.2,he]))
  rw[nJ Wb];simp only[e,decide_false]
def APP(fb:Nat):Option (List (Nat×GG)×List (List X))->Bool
 |some ([(n1,⟨.fn f true 0,[.vec 0]⟩),(n2,⟨.bin .and .u8,[.xs [.v a 0],.xs [.lit (.ofNat c)]]⟩),(n3,⟨.conv .i64,[.xs [.v b 0]]⟩)],[[.v d 0]])=>Nat.beq f fb&&Nat.beq a n1&&Nat.beq c 1&&Nat.beq b n2&&Nat.beq d n3
 |_=>false
theorem AQh:APP 200 (AD8 EU Dn)=true:=by kernel_rfl
theorem oJ:lk 200 Dn.T=some (.one CE):=rfl
theorem AD7(a:List Int):EU.raw Dn 0 [a]= [IntKind.i64.wrap (Ah .and .u8 (((CE.pr 0).den [a]).getD 0 0) 1)]:=by
 have ht:=AQh;unfold APP at ht;split at ht
 ·rename_i n1 f n2 x c n3 y d hl;simp only[Bl] at ht;obtain⟨⟨⟨⟨t1,t2⟩,t3⟩,t4⟩,t5⟩:=ht;have t1:=CR t1;have t2:=CR t2;have t3:=CR t3;have t4:=CR t4;have t5:=CR t5;subst t1;subst t2;subst t3;subst t4;subst t5;obtain⟨ρ,h1,h2,h3⟩:=vN hl [a];have e0:ρ 0= [a].getD 0 []:=h1 0 (by decide);have Wk:=h2 _ Kh;have e82:=h2 _ (Lv _ Kh);have e98:=h2 _ (Lv _ (Lv _ Kh));simp only[GG.den,NE,Uf,IZ.den,X.den] at Wk e82 e98;rw[e0,Sj oJ] at Wk;rw[h3 0 _ rfl];simp only[NE,Uf,X.den];rw[e98,e82];have aif:ρ x=(CE.pr 0).den [a]:=Wk;rw[<- aif];rfl
 ·cases ht
theorem AM4:EW.pr 0= .i λa=>d1 (EU.raw Dn 0 a):=rfl
theorem xO{b:Int}(h:0<=b/\b<=255):IntKind.i64.wrap (Ah .and .u8 b 1)=b%2:=by
 obtain⟨n,rfl⟩:=YD h.1;have hn:n<256:=by omega
 have:∀m:Nat,m<256->IntKind.i64.wrap (Ah .and .u8 (m:Int) 1)=(m:Int)%2:=by decide +kernel
 exact this n hn
theorem mF{T:Tb}(h:lk 182 T=some (.one EW)):KF.Ok T 182 .isn:=λa x ha=>by
 refine⟨Cf h trivial,?_⟩;rw[BQ h,AM4];have ga:=(dU oJ ha).2;rw[BQ oJ] at ga;show[d1 (EU.raw Dn 0 [a])]=_;rw[AD7,WZ];generalize (CE.pr 0).den [a]=A at *
 match A,ga with
 |b::r,ga=>
  have hb:=ga.2.1 b Kh;have h3:=ga.2.2;simp only[Ct] at h3;rw[Ru,xO hb];unfold fA
  congr 1
  have h4:b%2=((x.val%2:Nat):Int):=by omega
  rw[h4];rcases Nat.mod_two_eq_zero_or_one x.val with e|e<;>rw[e]<;>rfl
theorem APY:Nu (nP [(119,.neg),(182,.isn),(120,.ca)]) X3 JK JL [none,some (fb [.v 0])]=some [[SI (.v 0)].map λe=>.a 5 e]:=by kernel_rfl
theorem ALT{T:Tb}(h:lk 162 T=some (.one JP)):KF.Ok T 162 .abs:=λv a x ha=>by
 have hp:=Tt (.cons (WR rfl) (.cons (mF rfl) (.cons (UD rfl) .nil))) APY rfl ⟨λ_=>x,λ_=>false⟩ (ins:=[v,a]) (.no (.yes (Kl.bl (es:=[.v 0]) rfl ⟨a,[],by simp,ha,rfl⟩) .nil));refine⟨Cf h trivial,?_⟩;rw[BQ h];show Ho _ (BK 5 (JK.raw JL 0 [v,a]));obtain⟨u,w,g1,g2,g3⟩:=hp.2;have hw:w= []:=g3;rw[hw,Rw] at g1;rw[g1,Bn g2.1.1];have W5:Ho (bif Nat.beq (x.val%2) 1 then Lh 0-x else x) u:=g2;rw[Kz] at W5;exact W5
def AHP:List (Nat×KF):=[(112,.sq),(115,.mul),(160,.pw eP),(119,.neg),(161,.eqf),(120,.ca),(162,.abs)]
theorem AOl:Nu (nP AHP) X3 Cz Cc [none,some (fb [.v 0]),some (fb [.v 1])]=some [[.a 5 (SI (nK (.v 0) (.v 1)))],[.a 1 (Zj (.v 0) (.v 1))]]:=by kernel_rfl
theorem AEC:D9.pr 0= .l λa=>BK 5 (Cz.raw Cc 0 a):=rfl
theorem rF:D9.pr 2= .i λa=>d1 (Cz.raw Cc 1 a):=rfl
theorem nO{T:Tb}(h:lk 118 T=some (.one D9)):KF.Ok T 118 .sqr:=λv a b x y ha hb=>by
 have hM:MF Cc.T AHP:=.cons (XC rfl) (.cons (KO rfl) (.cons (AL1 rfl) (.cons (WR rfl) (.cons (ACj rfl) (.cons (UD rfl) (.cons (ALT rfl) .nil))))));have eC:Zb (γF (FX.v2 x y)) [none,some (fb [.v 0]),some (fb [.v 1])] [v,a,b]:=.no (.yes (Kl.bl (es:=[.v 0]) rfl ⟨a,[],by simp,ha,rfl⟩) (.yes (Kl.bl (es:=[.v 1]) rfl ⟨b,[],by simp,hb,rfl⟩) .nil));have hp:=Rm (i:=Cz) (C:=Cc) (γF (FX.v2 x y)) (YJ hM (FX.v2 x y)) (λds=>Uh ds) AOl eC.get;obtain⟨ρe,_,hr⟩:=hp.2;refine⟨Cf h hp.1,?_,?_⟩
 ·rw[BQ h,AEC];obtain⟨u,w,g1,g2,g3⟩:=Kl.of (es:=[SI (nK (.v 0) (.v 1))]) rfl (hr 0 _ rfl);have hw:w= []:=g3;rw[hw,Rw] at g1;show Ho _ (BK 5 (Cz.raw Cc 0 [v,a,b]));rw[g1,Bn g2.1.1];exact g2
 ·rw[BQ h,rF];obtain⟨u,w,g1,g2,g3⟩:=hr 1 _ rfl;have hw:w= []:=g3;rw[hw,Rw] at g1;show[d1 (Cz.raw Cc 1 [v,a,b])]=_;rw[g1,γF_b g2.2 rfl];rfl
end
end Go.Proofs.YtloibefkijfdlaaGreatDoor
