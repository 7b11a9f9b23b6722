/- The bytes of a number of the field. -/
import Derived.Test.YtloibefkijfdlaaGreatDoorFb
namespace Go.Proofs.YtloibefkijfdlaaGreatDoor
section
open Go Ma
def gx(s:CS)(n:Nat):AV:=match s.x (.v n 0) with
 |some a=>a
 |none=>⟨[],-1,0,0⟩
theorem AC3{ρ:Bl}{s:CS}(hs:PT ρ s){n:Nat}(hl:Bj 0 (gx s n).lo=true):(gx s n).ok ρ ((ρ n).getD 0 0):=by
 unfold gx at *
 cases ha:s.x (.v n 0) with
 |some a=>exact CS.x_ok hs ha
 |none=>rw[ha] at hl;cases hl
def gB(s:CS)(n:Nat):Bool:=Bj 0 (gx s n).lo&&Bj (gx s n).hi fB
theorem qR{ρ:Bl}{s:CS}(hs:PT ρ s){n:Nat}(h:gB s n=true):0≤F8 ρ (gx s n).p∧F8 ρ (gx s n).p≤fB:=by
 simp only[gB,Bd] at h;have h1:=AC3 hs h.1;rw[← h1.1];exact⟨Sk (BB h.1) h1.2.1,Sk h1.2.2.1 (BB h.2)⟩
def gz(s:CS)(n:Nat):Gd:=De (gx s n).p (Cq (-1) (Jq (enc n 0 0)))
theorem zW{ρ:Bl}{s:CS}(hs:PT ρ s){n:Nat}(h:Bj 0 (gx s n).lo=true):F8 ρ (gz s n)=0:=by
 have h1:=AC3 hs h;unfold gz;rw[Cc,CW,Gu,αv_enc0 ρ (by omega), ← h1.1];omega
def bV(s:CS):Gd:=TI [(gx s 466).p,(gx s 1378).p,(gx s 1186).p,(gx s 946).p,(gx s 706).p]
def bC:Gd:=Jq (enc 2050 0 51)
def bC':Gd:=Jq (enc 3458 0 51)
def bT:Gd:=Jq (enc 0 4 51)
def AFc:Int:=57896044618658097711785492504343953926634992332820282019728792003956564819968
def bZ(s:CS):Gd:=De (gz s 3922) (De (Cq 18446744073709551616 (gz s 4050)) (De (Cq 340282366920938463463374607431768211456 (gz s 4178)) (Cq 6277101735386680763835789423207666416102355444464034512896 (gz s 4306))))
def ARn(r:Option (CS×List (List AV))):Bool:=match r with
 | some (s,[bs])=>(match flr s 1538 51,flr s 1666 51,flr s 1794 51,flr s 1922 51,flr s 2050 51 with
  |some a,some b,some c,some d,some e=>
   PQ 0 (De (TI [a,b,c,d,e]) (Cq (-1) (De (bV s) (De (bJ 19) (Cq (-AFc) bC))))) &&
   (PQ 0 (De (De (leP bs) (bZ s)) (Cq (-1) (De (bV s) (De (Cq 19 bC) (Cq (-AFc) bC'))))) &&
   (PQ 0 (De (bV s) (Cq (-1) (De (inP 0 0) (Cq (-(MN:Int)) bT)))) &&
   ((Nat.beq bs.length 32&&bs.all byB&&Bj (bs.getD 31 ⟨[],0,255,0⟩).hi 127)&&(gB s 466&&gB s 1378&&gB s 1186&&gB s 946&&gB s 706)&&(Bj 0 (gx s 3922).lo&&Bj 0 (gx s 4050).lo&&Bj 0 (gx s 4178).lo&&Bj 0 (gx s 4306).lo))))
  |_,_,_,_,_=>false)
 |_=>false
theorem ARi:ARn (Yg DC C9 Mf1 [bF])=true:=by kernel_rfl
theorem pz{ρ:Bl}{p q:Gd}(h:PQ 0 (De p (Cq (-1) q))=true):F8 ρ p=F8 ρ q:=by
 obtain⟨k,hk⟩:=Wt ρ h;rw[Cc,CW] at hk;simp only[Int.natCast_zero,zcr] at hk;omega
theorem ANr{l:List Int}(h:by8 l)(hl:l.length=32)(h31:l.getD 31 0≤127):IG l<AFc:=by
 have e:l=l.take 31 ++ [l.getD 31 0]:=by
  apply List.ext_getElem (by simp[hl])
  intro i h1 h2
  by_cases hi:i<31
  ·rw[List.getElem_append_left (by simp;omega),List.getElem_take]
  ·have:i=31:=by omega
   subst this;rw[List.getElem_append_right (by simp;omega)];simp[hl]
 have h2:∀ (a:List Int) (x:Int),IG (a ++ [x])=IG a+256^a.length*x:=by
  intro a x
  induction a with
  |nil=>simp[IG]
  |cons y a ih=>
   simp only[zcm,IG,ih,Oq,zcq];rw[qC,Y6 (256^a.length) 256,Xr];omega
 have h3:by8 (l.take 31):=fun x hx=>h x (List.mem_of_mem_take hx)
 have h4:=Xy h3;have hlen:(l.take 31).length=31:=by simp[hl]
 rw[hlen] at h4;rw[e,h2,hlen];have e2:(256:Int)^31=452312848583266388373324160190187140051835877600158453279131187530910662656:=by decide
 rw[e2] at h4 ⊢;unfold AFc;omega
theorem AJN{a:List Int}(h:feG a):(DC.raw C9 0 [a]).length=32∧by8 (DC.raw C9 0 [a])∧IG (DC.raw C9 0 [a])=Nk a%(MN:Int):=by
 have ht:=ARi;unfold ARn at ht
 split at ht
 ·rename_i s bs hr
  obtain⟨_,ρ,h1,hS,h2⟩:=SE (ve rfl) hr (ins:=[a]) (Yu h (Ie _));have hA:=h2 0 bs rfl;generalize DC.raw C9 0 [a]=R at *
  split at ht
  ·rename_i fa fb fc fd fe ha hb hc hd he
   simp only[Bd] at ht;obtain⟨t1,t2,t3,⟨⟨⟨t4,t5⟩,t6⟩,⟨⟨⟨⟨u0,u1⟩,u2⟩,u3⟩,u4⟩⟩,⟨⟨v0,v1⟩,v2⟩,v3⟩:=ht;have t4:=CL t4;have hl:R.length=32:=hA.1.trans t4;have h8:=vV hA t5;have ea:=YO hS ha;have eb:=YO hS hb;have ec:=YO hS hc;have ed:=YO hS hd;have ee:=YO hS he;have q1:=pz (ρ:=ρ) t1;have q2:=pz (ρ:=ρ) t2;have q3:=pz (ρ:=ρ) t3;have w0:=qR hS u0;have w1:=qR hS u1;have w2:=qR hS u2;have w3:=qR hS u3;have w4:=qR hS u4;have z:F8 ρ (bZ s)=0:=by
    simp only[bZ,Cc,CW,zW hS v0,zW hS v1,zW hS v2,zW hS v3];rfl
   have h31:R.getD 31 0≤127:=by
    have g1:31<R.length:=by omega
    have g2:31<bs.length:=by omega
    have:=hA.2 31 R[31] bs[31] (Jo g1) (Jo g2);have t6:=BB t6;rw[List.getD,Jo g2] at t6;rw[List.getD,Jo g1];exact Sk this.2.2.1 t6
   have afK:=ANr h8 hl h31;have hb0:=(Xy h8).1;refine⟨hl,h8,?_⟩;rw[Cc,z,sD hA] at q2;rw[Cc,CW,UY ρ (h1 0 (by decide))] at q3;simp only[TI,Cc,CW,RP] at q1 q2;have hV:F8 ρ (bV s)=F8 ρ (gx s 466).p+(2251799813685248*F8 ρ (gx s 1378).p+(5070602400912917605986812821504*F8 ρ (gx s 1186).p+(11417981541647679048466287755595961091061972992*F8 ρ (gx s 946).p+25711008708143844408671393477458601640355247900524685364822016*F8 ρ (gx s 706).p))):=by
    simp only[bV,TI,Cc,CW]
   simp only[Qu] at q3;have e51:((2^51:Nat):Int)=2251799813685248:=by decide
   rw[e51] at ea eb ec ed ee;have eP:((MN:Nat):Int)=57896044618658097711785492504343953926634992332820282019728792003956564819949:=rfl;rw[eP] at q3 ⊢;unfold AFc at *
   unfold fB at *
   generalize F8 ρ bC=c at *
   generalize F8 ρ bC'=c' at *
   generalize F8 ρ bT=t at *
   generalize F8 ρ (bV s)=V at *
   generalize IG R=r at *
   generalize Nk a=A at *
   have hc:c'=c:=by omega
   subst hc;omega
  ·cases ht
 ·cases ht
end
section
open Go Ma
theorem lJ{T:Tb}(h:lk 200 T=some (.one CG)){a:List Int}{x:Fp}(ha:Js x a):OU T 200 [a]∧(gv T 200 0 [a]).length=32∧by8 (gv T 200 0 [a])∧IG (gv T 200 0 [a])=(x.val:Int):=by
 obtain⟨h1,h2,h3⟩:=AJN ha.1;refine⟨Cw h trivial,?_⟩;rw[Bg h];show (Aw 32 (DC.raw C9 0 [a])).length=32∧by8 (Aw 32 (DC.raw C9 0 [a]))∧IG (Aw 32 (DC.raw C9 0 [a]))=_;rw[Au h1];refine⟨h1,h2,?_⟩;rw[h3, ← ha.2,Lf]
theorem AJa:(List.range 33).all (eqP I9 Gy 200 36 68)=true:=by kernel_rfl
theorem ACe:JA.pr 0= .i fun a=>d1 (I9.raw Gy 0 a):=rfl
theorem mE:lk 200 Gy.T=some (.one CG):=rfl
theorem AEZ{T:Tb}(h:lk 161 T=some (.one JA)):KF.Ok T 161 .eqf:=fun a b x y ha hb=>by
 refine⟨Cw h trivial,?_⟩;rw[Bg h,ACe];have ga:=(lJ mE ha).2;have gb:=(lJ mE hb).2;rw[Bg mE] at ga gb;have:=AOQ mE rfl AJa (a:=a) (b:=b) rfl rfl gb.1 ga.1;show [d1 (I9.raw Gy 0 [a,b])]=_;rw[this,YJ];unfold kZ
 congr 2
 generalize (CG.pr 0).den [a]=A at *
 generalize (CG.pr 0).den [b]=B at *
 by_cases hxy:x=y
 ·subst hxy;have e:B=A:=wU gb.2.1 ga.2.1 (by rw[gb.1,ga.1]) (by rw[gb.2.2,ga.2.2]);rw[QI.2 rfl];simp only[e,decide_true]
 ·have e:¬ B=A:=fun he=>hxy (RH (by rw[← ga.2.2, ← gb.2.2,he]))
  rw[dm hxy];simp only[e,decide_false]
def ATb(fb:Nat):Option (List (Nat×FR)×List (List X))→Bool
 |some ([(n1,⟨.fn f true 0,[.vec 0]⟩),(n2,⟨.bin .and .u8,[.xs [.v a 0],.xs [.lit (.ofNat c)]]⟩),(n3,⟨.conv .i64,[.xs [.v b 0]]⟩)],[[.v d 0]])=>Nat.beq f fb&&Nat.beq a n1&&Nat.beq c 1&&Nat.beq b n2&&Nat.beq d n3
 |_=>false
theorem ATz:ATb 200 (AIW Ea Dr)=true:=by kernel_rfl
theorem tJ:lk 200 Dr.T=some (.one CG):=rfl
theorem AIl(a:List Int):Ea.raw Dr 0 [a]= [IntKind.i64.wrap (Ao .and .u8 (((CG.pr 0).den [a]).getD 0 0) 1)]:=by
 have ht:=ATz;unfold ATb at ht
 split at ht
 ·rename_i n1 f n2 x c n3 y d hl
  simp only[Bd] at ht;obtain⟨⟨⟨⟨t1,t2⟩,t3⟩,t4⟩,t5⟩:=ht;have t1:=CL t1;have t2:=CL t2;have t3:=CL t3;have t4:=CL t4;have t5:=CL t5;subst t1;subst t2;subst t3;subst t4;subst t5;obtain⟨ρ,h1,h2,h3⟩:=xZ hl [a];have e0:ρ 0= [a].getD 0 []:=h1 0 (by decide);have e34:=h2 _ LA;have e82:=h2 _ (MQ _ LA);have e98:=h2 _ (MQ _ (MQ _ LA));simp only[FR.den,NT,Vi,Iq.den,X.den] at e34 e82 e98;rw[e0,UM tJ] at e34;rw[h3 0 _ rfl];simp only[NT,Vi,X.den];rw[e98,e82];have e34':ρ x=(CG.pr 0).den [a]:=e34;rw[← e34'];rfl
 ·cases ht
theorem ANy:EZ.pr 0= .i fun a=>d1 (Ea.raw Dr 0 a):=rfl
theorem ABH{b:Int}(h:0≤b∧b≤255):IntKind.i64.wrap (Ao .and .u8 b 1)=b%2:=by
 obtain⟨n,rfl⟩:=cu h.1;have hn:n<256:=by omega
 have:∀ m:Nat,m<256→IntKind.i64.wrap (Ao .and .u8 (m:Int) 1)=(m:Int)%2:=by decide +kernel
 exact this n hn
theorem tX{T:Tb}(h:lk 182 T=some (.one EZ)):KF.Ok T 182 .isn:=fun a x ha=>by
 refine⟨Cw h trivial,?_⟩;rw[Bg h,ANy];have ga:=(lJ tJ ha).2;rw[Bg tJ] at ga;show [d1 (Ea.raw Dr 0 [a])]=_;rw[AIl,YJ];generalize (CG.pr 0).den [a]=A at *
 match A,ga with
 |b::r,ga=>
  have hb:=ga.2.1 b LA;have h3:=ga.2.2;simp only[IG] at h3;rw[Qu,ABH hb];unfold kZ
  congr 1
  have h4:b%2=((x.val%2:Nat):Int):=by omega
  rw[h4]
  rcases Nat.mod_two_eq_zero_or_one x.val with e|e<;>rw[e]<;>rfl
theorem ARe:Ow (vG [(119,.neg),(182,.isn),(120,.sel)]) Zg Jn Jl [none,some (fb [.v 0])]=some [[VO (.v 0)].map fun e=>.a 5 e]:=by kernel_rfl
theorem ALv{T:Tb}(h:lk 162 T=some (.one Jj)):KF.Ok T 162 .abs:=fun v a x ha=>by
 have hp:=Xu (.cons (au rfl) (.cons (tX rfl) (.cons (YN rfl) .nil))) ARe rfl ⟨fun _=>x,fun _=>false⟩ (ins:=[v,a]) (.no (.yes (OQ.bl (es:=[.v 0]) rfl ⟨a,[],by simp,ha,rfl⟩) .nil));refine⟨Cw h trivial,?_⟩;rw[Bg h];show Js _ (Aw 5 (Jn.raw Jl 0 [v,a]));obtain⟨u,w,g1,g2,g3⟩:=hp.2;have hw:w= []:=g3;rw[hw,TL] at g1;rw[g1,Au g2.1.1];have g2':Js (bif Nat.beq (x.val%2) 1 then Ki 0-x else x) u:=g2;rw[LW] at g2';exact g2'
def AKq:List (Nat×KF):=[(112,.sq),(115,.mul),(160,.pw eP),(119,.neg),(161,.eqf),(120,.sel),(162,.abs)]
theorem ASm:Ow (vG AKq) Zg DL Cu [none,some (fb [.v 0]),some (fb [.v 1])]=some [[.a 5 (VO (sqX (.v 0) (.v 1)))],[.a 1 (nJ (.v 0) (.v 1))]]:=by kernel_rfl
theorem AIP:EB.pr 0= .l fun a=>Aw 5 (DL.raw Cu 0 a):=rfl
theorem AGy:EB.pr 2= .i fun a=>d1 (DL.raw Cu 1 a):=rfl
theorem ADJ{T:Tb}(h:lk 118 T=some (.one EB)):KF.Ok T 118 .sqr:=fun v a b x y ha hb=>by
 have hM:MF Cu.T AKq:=.cons (gX rfl) (.cons (OC rfl) (.cons (AOl rfl) (.cons (au rfl) (.cons (AEZ rfl) (.cons (YN rfl) (.cons (ALv rfl) .nil))))));have hin:fK (γF (FX.v2 x y)) [none,some (fb [.v 0]),some (fb [.v 1])] [v,a,b]:=.no (.yes (OQ.bl (es:=[.v 0]) rfl ⟨a,[],by simp,ha,rfl⟩) (.yes (OQ.bl (es:=[.v 1]) rfl ⟨b,[],by simp,hb,rfl⟩) .nil));have hp:=TE (i:=DL) (C:=Cu) (γF (FX.v2 x y)) (aB hM (FX.v2 x y)) (fun ds=>WB ds) ASm hin.get;obtain⟨ρe,_,hr⟩:=hp.2;refine⟨Cw h hp.1,?_,?_⟩
 ·rw[Bg h,AIP];obtain⟨u,w,g1,g2,g3⟩:=OQ.of (es:=[VO (sqX (.v 0) (.v 1))]) rfl (hr 0 _ rfl);have hw:w= []:=g3;rw[hw,TL] at g1;show Js _ (Aw 5 (DL.raw Cu 0 [v,a,b]));rw[g1,Au g2.1.1];exact g2
 ·rw[Bg h,AGy];obtain⟨u,w,g1,g2,g3⟩:=hr 1 _ rfl;have hw:w= []:=g3;rw[hw,TL] at g1;show [d1 (DL.raw Cu 1 [v,a,b])]=_;rw[g1,γF_b g2.2 rfl];rfl
end
end Go.Proofs.YtloibefkijfdlaaGreatDoor
