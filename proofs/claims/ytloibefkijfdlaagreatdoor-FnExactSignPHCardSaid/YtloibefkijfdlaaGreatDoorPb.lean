/- The signed digits of a scalar. -/
import Derived.Test.YtloibefkijfdlaaGreatDoorPt3
import Derived.Test.YtloibefkijfdlaaGreatDoorSc
namespace Go.Proofs.YtloibefkijfdlaaGreatDoor
section
open Go
def AHw:List (Int×Int):=List.replicate 31 (0,255) ++ [(0,127)]
def AAV:List (Nat×FR)→List Nat
 | []=>[]
 |(n,d)::r=>(match d with
  |⟨.bin .add .i8,[_,.xs [.lit (.ofNat 8)]]⟩=>[n]
  |_=>[])++AAV r
def ACZ(s:CS):List AV→List Nat→Bool
 | [a],[]=>Bj (-8) a.lo&&Bj a.hi 8
 |a::al,n::ns=>(match flr s n 4 with
  |some p=>PQ 0 (De (De a.p (bJ 8)) (Cq (-1) p))
  |none=>false)&&ACZ s al ns
 |_,_=>false
def leH:List AV→Gd
 | []=>[]
 |a::r=>De a.p (Cq 16 (leH r))
def leC(n k:Nat):Nat→Gd
 |0=>[]
 |m+1=>De (Jq (enc n k 0)) (Cq 256 (leC n (k+1) m))
def AGL(fb:Nat)(r:Option (List (Nat×FR)×List JM×CS×List (List AV))):Bool:=match r with
 | some ((m,⟨.fn f true 0,[.vec 0]⟩)::_,ob,s,[d])=>Nat.beq m 34&&Nat.beq f fb&&(ACZ s d (AAV (dsOf r))&&Nat.beq d.length 64)&&(PQ 0 (De (leH d) (Cq (-1) (leC 34 0 32)))&&(match ob with
  | [.pre g [.vec 0],.zr (.v c 0)]=>Nat.beq g fb&&(match lk c (dsOf r) with
   |some ⟨.bin .gtr .u8,[.xs [.v x k],.xs [.lit (.ofNat y)]]⟩=>Nat.beq x 34&&Nat.beq k 31&&Nat.beq y 127
   |_=>false)
  |_=>false))
 |_=>false
 where dsOf:Option (List (Nat×FR)×List JM×CS×List (List AV))→List (Nat×FR)
 |some (ds,_)=>ds
 |none=>[]
theorem ATa:AGL 107 (AFf Af AL [] [jK] 34 AHw)=true:=by kernel_rfl
theorem AB3:((gQ (BN.tree BA)).map fun p=>p.2.1.length)=some 0:=by kernel_rfl
theorem ADE:Lp 1 (BN.tree BA)=true:=by kernel_rfl
theorem ADI{i:AQ}{C:Cx}(h:((gQ (i.tree C)).map fun p=>p.2.1.length)=some 0){np:Nat}(hk:Lp np (i.tree C)=true)(ρ:Bl):Cn C.T (i.tree C) ρ:=by
 match hl:gQ (i.tree C),h with
 |some (ds,ob,e,st),h=>
  simp only[Xa,Am,List.length_eq_zero_iff] at h;subst h;obtain⟨k1,k2,k3,k4,k5⟩:=Pp (T:=C.T) (ρ:=ρ) hk hl;exact k5 fun q hq=>by cases hq
theorem AIq(args:List (List Int)):BM.pre args:=ADI (i:=BN) (C:=BA) AB3 ADE (A8 args)
theorem AJR{T:Tb}(h:lk 107 T=some (.one BM)){ρ:Bl}{x:List Int}(e0:ρ 0=x):(JM.pre 107 [.vec 0]).den T ρ:=by
 have ha: [Iq.vec 0].map (·.den ρ)= [x]:=by simp only[NT,Vi,Iq.den,e0]
 exact Zp h ha (AIq [x])
theorem AJP{T:Tb}(h:lk 107 T=some (.one BM))(args:List (List Int)):OU T 107 args:=⟨⟨_,h,ADI AB3 ADE _⟩⟩
theorem AFo{T:Tb}(h:lk 107 T=some (.one BM)){x:List Int}(hx:u4 x):∃ m,ScV x m∧(gv T 107 0 [x]).length=32∧by8 (gv T 107 0 [x])∧IG (gv T 107 0 [x])=m:=by
 obtain⟨m,h1,h2,h3,h4⟩:=AHH hx;have e:gv T 107 0 [x]=BN.raw BA 0 [x]:=by
  rw[Bg h,AN5];exact Au h2
 rw[e];exact⟨m,h1,h2,h3,h4⟩
theorem yN:∀ {l:List Int} {k:Nat},by8 l→k<l.length→l.getD k 0*256^k≤IG l
 | [],k,_,h=>by cases h
 |b::r,0,h,_=>by
  have:=(Xy (l:=r) fun y hy=>h y (MQ _ hy)).1;simp only[IG,Qu,Int.pow_zero];omega
 |b::r,k+1,h,hk=>by
  have h1:=yN (l:=r) (k:=k) (fun y hy=>h y (MQ _ hy)) (by simpa using hk);have h2:=h b LA;simp only[IG,Ze,zcq];rw[← Xr];generalize r.getD k 0*256^k=q at *
  omega
def dgV:List Int→Int
 | []=>0
 |b::r=>b+16*dgV r
theorem AFg{ρ:Bl}:∀ {al:List AV} {l:List Int},fJ ρ l al→F8 ρ (leH al)=dgV l
 | [],[],_=>rfl
 | [],x::l,h=>by have:=h.1;simp at this
 |a::al,[],h=>by have:=h.1;simp at this
 |a::al,x::l,h=>by
  obtain⟨h1,h2⟩:=h.cons;simp only[leH,dgV,Cc,CW,AFg h2, ← h1.1]
theorem ADa{ρ:Bl}{n:Nat}:∀ {m k:Nat},k+m≤4096→F8 ρ (leC n k m)=IG ((List.range m).map fun j=>(ρ n).getD (k+j) 0)
 |0,_,_=>rfl
 | m+1,k,h=>by
  rw[List.range_succ_eq_map,NT,List.map_map];simp only[leC,Cc,CW,Gu,IG];rw[αv_enc0 ρ (by omega),ADa (m:=m) (k:=k+1) (by omega)];have:((fun j=>(ρ n).getD (k+j) 0) ∘ Nat.succ)=fun j=>(ρ n).getD (k+1+j) 0:=by
   funext j;simp only[Function.comp];congr 1;omega
  rw[this];simp only[Q3]
theorem xQ{ρ:Bl}{s:CS}(hs:PT ρ s):∀ {al:List AV} {ns:List Nat} {l:List Int},ACZ s al ns=true→fJ ρ l al→∀ x∈l,-8≤x∧x≤8
 | [a],[],l,h,hA=>by
  simp only[ACZ,Bd] at h
  match l,hA with
  | [x],hA=>
   intro y hy
   rw[Nc] at hy;subst hy;have:=hA.cons.1;exact⟨Sk (BB h.1) this.2.1,Sk this.2.2.1 (BB h.2)⟩
  | [],hA=>have:=hA.1;simp at this
  |_::_::_,hA=>have:=hA.1;simp at this
 | a :: al,n::ns,l,h,hA=>by
  unfold ACZ at h;simp only[Bd] at h
  match l,hA with
  | [],hA=>have:=hA.1;simp at this
  | x::l,hA=>
   obtain⟨h1,h2⟩:=hA.cons
   intro y hy
   rcases J4.1 hy with rfl|hy
   ·have h3:=h.1
    split at h3
    ·rename_i p hp
     have h4:=pz (ρ:=ρ) h3;have h5:=YO hs hp;rw[Cc,RP, ← h1.1] at h4;have e:((2^4:Nat):Int)=16:=by decide
     rw[e] at h5;omega
    ·cases h3
   ·exact xQ hs h.2 h2 y hy
 | [],_,_,h,_=>by cases h
 |_::_::_,[],_,h,_=>by cases h
theorem ADz:lk 107 AL.T=some (.one BM):=rfl
theorem ACM{k:Nat}{p:Int×Int}(h:AHw[k]? = some p):k<32∧p.1=0∧(k<31→p.2=255)∧(k=31→p.2=127):=by
 have hlt:k<32:=(Pi.1 h).1;have:∀ k,k<32→∀ p,AHw[k]? = some p→p.1=0∧(k<31→p.2=255)∧(k=31→p.2=127):=by
  intro k hk
  have hh:∀ k:Fin 32,AHw[k.val]? = some (0,if k.val<31 then 255 else 127):=by decide +kernel
  intro p hp
  have:=hh ⟨k,hk⟩;simp only at this;rw[this,Am] at hp;subst hp;refine⟨rfl,fun h=>by simp[h],fun h=>by subst h;rfl⟩
 exact⟨hlt,this k hlt p h⟩
theorem zB{x:List Int}(hx:u4 x):∃ m,ScV x m∧Cn AL.T (Af.tree AL) (A8 [x])∧(Af.raw AL 0 [x]).length=64∧(∀ d∈Af.raw AL 0 [x],-8≤d∧d≤8)∧dgV (Af.raw AL 0 [x])=m:=by
 have ht:=ATa;unfold AGL at ht
 split at ht
 ·rename_i m0 f ds0 ob s d hr
  simp only[Bd] at ht;obtain⟨⟨⟨t1,t2⟩,t3,t4⟩,t5,t6⟩:=ht;have t1:=CL t1;have t2:=CL t2;have t4:=CL t4;subst t1;subst t2;obtain⟨m,hm,hB⟩:=AFo ADz hx;have h34:∀ ρ:Bl,ρ 0=x→VJ AL.T ρ ((34,⟨.fn 107 true 0,[.vec 0]⟩)::ds0)→ρ 34=gv AL.T 107 0 [x]:=fun ρ h0 hd=>by
   have:=hd _ LA;simp only[FR.den,NT,Vi,Iq.den,h0] at this;exact this
  generalize gv AL.T 107 0 [x]=B at *
  obtain⟨b1,b2,b3⟩:=hB;have hb31:B.getD 31 0≤127:=by
   have h1:=yN b2 (k:=31) (by omega);rw[b3] at h1;have h2:=hm.hi;unfold OM at h2;have e:(256:Int)^31=452312848583266388373324160190187140051835877600158453279131187530910662656:=by decide
   rw[e] at h1;omega
  have hbk:∀ k,k<32→0≤B.getD k 0∧B.getD k 0≤255:=fun k hk=>by
   have h1:k<B.length:=by omega
   have:=b2 B[k] (qj h1);rw[List.getD,Jo h1];exact this
  obtain⟨ρ,h1,h2,h3,h4,h5⟩:=AF7 (fun f κ h=>by cases h) hr (ins:=[x]) (SL hx (Ie _)) (by decide) (fun ρ h0 hd k p hk=>by
   have e34:=h34 ρ (h0 0 (by decide)) hd;obtain⟨g1,g2,g3,g4⟩:=ACM hk;rw[e34,g2];refine⟨(hbk k g1).1,?_⟩
   by_cases h31:k<31
   ·rw[g3 h31];exact (hbk k g1).2
   ·have:k=31:=by omega
    subst this;rw[g4 rfl];exact hb31)
  have e0:ρ 0=x:=h1 0 (by decide);have e34:=h34 ρ e0 h2;have hA:=h5 0 d rfl;refine⟨m,hm,h4 ?_,hA.1.trans t4,xQ h3 t3 hA,?_⟩
  ·split at t6
   ·rename_i g c
    simp only[Bd] at t6;have e1:=CL t6.1;subst e1;have t7:=t6.2
    split at t7
    ·rename_i y k z hc
     simp only[Bd] at t7;have e1:=CL t7.1.1;have e2:=CL t7.1.2;have e3:=CL t7.2;subst e1;subst e2;subst e3
     intro q hq
     rcases J4.1 hq with rfl|hq
     ·exact AJR ADz e0
     ·rw[Nc] at hq;subst hq;rw[hr] at hc;have hc0:lk c ((34,⟨.fn 107 true 0,[.vec 0]⟩)::ds0)=some ⟨.bin .gtr .u8,[.xs [.v 34 31],.xs [.lit (.ofNat 127)]]⟩:=hc;have ω:=h2 _ (Oo hc0);have hc2:ρ c= [Ao .gtr .u8 ((ρ 34).getD 31 0) 127]:=ω;show (ρ c).getD 0 0=0;rw[hc2,e34];show Ao .gtr .u8 (B.getD 31 0) 127=0;have:¬ B.getD 31 0>127:=by omega
      show K9 (decide (B.getD 31 0>127))=0;rw[_root_.decide_eq_false this];rfl
    ·cases t7
   ·cases t6
  ·have t5:=pz (ρ:=ρ) t5;rw[AFg hA,ADa (by omega),e34] at t5;have e:(fun j=>B.getD (0+j) 0)=fun j=>B.getD j 0:=by funext j;rw[NU]
   rw[e,VF b1] at t5;exact t5.trans b3
 ·cases ht
end
section
open Go Ma
theorem mq{A:Type}{γ:A→List Int→Prop}{ρ:Bl}:∀ {bs:List (Nat×A)} {l:List Int},H6 γ ρ (AEU bs) l→Em γ bs l
 | [],_l,h=>h
 |(_n,_x)::_bs,_l,⟨u,w,h1,h2,h3⟩=>⟨u,w,h1,h2.1,h2.2,mq h3⟩
theorem ic{A:Type}{γ:A→List Int→Prop}:∀ {b c:List (Nat×A)} {l:List Int},Em γ (b++c) l→∃ u w,l=u++w∧Em γ b u∧Em γ c w
 | [],c,l,h=>⟨[],l,rfl,rfl,h⟩
 |(n,x)::b,c,l,⟨u,w,h1,h2,h3,h4⟩=>by
  obtain⟨u',w',g1,g2,g3⟩:=ic h4;exact⟨u++u',w',by rw[h1,g1,YY],⟨u,u',rfl,h2,h3,g2⟩,g3⟩
theorem xP{ρ:GV}:∀ {m:Nat} {c:Int} {l:List Int},Em (γG ρ) (wI .pa 8 m c) l→AAG ρ.P m c l
 |0,c,l,h=>h
 |m+1,c,l,h=>by
  obtain⟨u,w,h1,h2,h3⟩:=ic h;refine⟨u,w,h1,?_,xP h3⟩;exact (Te.bl (f:=fun k=>Z2.smul (.k (k+1:Nat)) (.c c)) (fun k=>by rw[Z2.smul_ev,Z2.c_ev];rfl)).2 h2
theorem zw{A:Type}{γ:A→List Int→Prop}:∀ {b:List (Nat×A)} {l:List Int},Em γ b l→l.length=(b.map (·.1)).sum
 | [],l,h=>by rw[show l= [] from h];rfl
 |(n,x)::b,l,⟨u,w,h1,h2,h3,h4⟩=>by
  rw[h1,K6,h2,zw h4];rfl
def AK5:List (Nat×KP):=[(176,.cst .p3 1),(183,.tab .pa 8),(178,.op2 .p3 .p3 .p3)]
theorem ARf:TT (tfG AK5) nmG (Bn.tree CJ) CJ Bn.s0 Bn.rvs [] [] []=some [AEU (wI .pa 8 32 1)]:=by kernel_rfl
def jW:List (Nat×KP):=[(146,.tab32),(147,.rad 64),(149,.cst .p3 0),(148,.op1 .p3 .p3),(150,.sel .pa 8),(141,.op2 .p3 .pa .p11),(136,.op1 .p11 .p3),(151,.op1 .p3 .p2),(135,.dbl),(143,.op1 .p11 .p2)]
def AHF(r:Option (List (List (Bk GX)))):Option Z2:=match r with
 |some [[.a 20 (.pt .p3 z)]]=>some z
 |_=>none
theorem AS2:(AHF (TT (tfG jW) nmG (Al.tree Ak) Ak Al.s0 Al.rvs [none,none] [none,some [(4,.sc)]] [])).isSome=true:=by kernel_rfl
end
section
open Go Ma
theorem AIY:((wI .pa 8 32 1).map (·.1)).sum=3840:=by decide +kernel
theorem AHW:(Bn.sumP CJ).pr 0= .l fun a=>Aw (List.replicate 3840 IntKind.u64).length (Bn.raw CJ 0 a):=by kernel_rfl
theorem ALw:(Bn.sumP CJ).pr 0= .l fun a=>Aw 3840 (Bn.raw CJ 0 a):=by
 rw[AHW,SX]
theorem AEq{T:Tb}{d:Nat→Int}{s:List Int}(h:lk 146 T=some (.one Hy)):KP.Ok T 146 ⟨Nf,Nf,d,s⟩ .tab32:=by
 obtain⟨h1,ρe,h2⟩:=ACC (i:=Bn) (C:=CJ) (ρ:=⟨Nf,Nf,d,s⟩) (n:=3840) (M:=AK5) (b:=AEU (wI .pa 8 32 1)) h ALw (.cons (ANZ rfl) (.cons (AGo rfl) (.cons (AIf rfl) .nil))) ARf (ins:=[]) .nil .nil (fun p hp=>by cases hp) (fun ρe l h=>(zw (mq h)).trans AIY);exact⟨h1,xP (ρ:=⟨Nf,Nf,d,s⟩) (mq h2)⟩
theorem AMo{T:Tb}{f:Nat}{i:AQ}{C:Cx}{ins:List (List Int)}{A B:Int→Prop}(hs:lk f T=some (.one (i.sumP C)))(h:∃ m,A m∧Cn C.T (i.tree C) (A8 ins)∧B m):OU T f ins∧∃ m,A m∧B m:=by
 obtain⟨m,h1,h2,h3⟩:=h;exact⟨⟨⟨_,hs,h2⟩⟩,m,h1,h3⟩
theorem AM8:D8.pr 0= .l fun a=>Aw 64 (Af.raw AL 0 a):=rfl
noncomputable def fV(x:List Int)(k:Nat):Int:=(Af.raw AL 0 [x]).getD k 0
theorem ARP{l:List Int}(h3:l.length=64)(h4:∀ d∈l,-8≤d∧d≤8){k:Nat}(hk:k<64): -8≤l.getD k 0∧l.getD k 0≤8:=by
 have hlt:k<l.length:=by omega
 have:=h4 _ (qj hlt);rw[List.getD,Jo hlt];exact this
theorem AAy{T:Tb}{f n:Nat}{P Q:Pt}{d:Nat→Int}{s:List Int}(hp:OU T f [s])(hd:AG5 d n (gv T f 0 [s])):KP.Ok T f ⟨P,Q,d,s⟩ (.rad n):=⟨hp,hd⟩
theorem AOq{f:Nat→Int}{n:Nat}{l:List Int}(h:l=(List.range n).map f)(h2:∀ k,k<n→ -8≤f k∧f k≤8):AG5 f n l:=⟨h,h2⟩
theorem AB2{T:Tb}{x:List Int}(hx:u4 x)(h:lk 147 T=some (.one D8)):KP.Ok T 147 ⟨Nf,Nf,fV x,x⟩ (.rad 64):=by
 have hq:=AMo (i:=Af) (C:=AL) h (zB hx);have hp:=hq.1;obtain⟨m,h1,h3,h4,h5⟩:=hq.2;have e:gv T 147 0 [x]=Af.raw AL 0 [x]:=by
  rw[xX h,AM8];exact Au h3
 have hd:AG5 (fV x) 64 (gv T 147 0 [x]):=by
  rw[e];exact AOq (VF h3).symm (fun k hk=>ARP h3 h4 hk)
 exact AAy hp hd
theorem sO{T:Tb}(h:lk 105 T=some (.one AY)){v x:List Int}(hx:u4 x):OU T 105 [v,x]∧∃ P,R3 P (gv T 105 0 [v,x]):=by
 have ht:=AS2;unfold AHF at ht
 split at ht
 ·rename_i z hz
  have hM:MG Ak.T ⟨Nf,Nf,fV x,x⟩ jW:=.cons (AEq rfl) (.cons (AB2 hx rfl) (.cons (AFG rfl) (.cons (y8 rfl) (.cons (jJ rfl) (.cons (lH rfl) (.cons (Wp rfl) (.cons (yS rfl) (.cons (ACE rfl) (.cons (nR rfl) .nil)))))))));have hI:fK (γG ⟨Nf,Nf,fV x,x⟩) [none,some [(4,.sc)]] [v,x]:=.no (.yes ⟨x,[],by simp,hx.1,rfl,rfl⟩ .nil);obtain⟨h1,ρe,h2⟩:=ACC (i:=Al) (C:=Ak) (ρ:=⟨Nf,Nf,fV x,x⟩) (n:=20) (M:=jW) (b:=[.a 20 (.pt .p3 z)]) h rfl hM hz (ins:=[v,x]) (.no (.no .nil)) hI (fun p hp=>by cases hp) (fun ρe l h=>RR.len (r:=.p3) (gp1 h));exact⟨h1,_,gp1 h2⟩
 ·cases ht
end
section
open Go Ma
def ALH:List (Nat×KF):=[(180,.pw eI),(115,.mul),(182,.isn)]
theorem ATR:(TT (vG ALH) nmF (Aq.tree AU) AU Aq.s0 Aq.rvs [none] [some (fb [.v 0,.v 1,.v 2,.v 3])] [(0,0)]).isSome=true:=by kernel_rfl
theorem ATo{T:Tb}{f:Nat}{M:List (Nat×KF)}{i:AQ}{C:Cx}{ρ:FV}{kin:List (Option (List Int))}{bin:List (Option (List (Nat×FX)))}{pts:List PN}(hs:lk f T=some (.one (i.sumP C)))(hM:MF C.T M)(h:(TT (vG M) nmF (i.tree C) C i.s0 i.rvs kin bin pts).isSome=true){ins:List (List Int)}(hk:InK kin ins)(hin:fK (γF ρ) bin ins)(hp:∀ p∈pts,¬(Px (ins.getD p.1 []) p.2∧Px (ins.getD p.1 []) (p.2+5))):OU T f ins:=by
 obtain⟨r,hr⟩:=Option.isSome_iff_exists.1 h;have:=nY (γ:=γF ρ) AL1 (aB hM ρ) hr hk hin hp;exact⟨⟨_,hs,this.1⟩⟩
theorem l5{T:Tb}(h:lk 104 T=some (.one BL)){P:Pt}{l:List Int}(hP:R3 P l):OU T 104 [l]:=by
 have hz:=AC6 hP;obtain⟨X,Y,Z,U,hl,_⟩:=hP;exact ATo (M:=ALH) (i:=Aq) (C:=AU) (ρ:=⟨fun n=>[X,Y,Z,U].getD n 0,fun _=>false⟩) h (.cons (sS rfl) (.cons (OC rfl) (.cons (tX rfl) .nil))) ATR (ins:=[l]) (.no .nil) (.yes (OQ.bl rfl hl) .nil) (fun p hp=>by
  rw[Nc] at hp;subst hp;exact hz)
end
end Go.Proofs.YtloibefkijfdlaaGreatDoor
