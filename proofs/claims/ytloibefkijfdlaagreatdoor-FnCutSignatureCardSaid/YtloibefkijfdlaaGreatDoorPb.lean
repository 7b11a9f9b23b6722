/- The signed digits of a scalar. -/
import Derived.Test.YtloibefkijfdlaaGreatDoorPt3
import Derived.Test.YtloibefkijfdlaaGreatDoorSc
namespace Go.Proofs.YtloibefkijfdlaaGreatDoor
section
open Go
def AEW:List (Int×Int):=List.replicate 31 (0,255) ++ [(0,127)]
def uU:List (Nat×GG)->List Nat
 | []=>[]
 |(n,d)::r=>(match d with
  |⟨.bin .add .i8,[_,.xs [.lit (.ofNat 8)]]⟩=>[n]
  |_=>[])++uU r
def AAW(s:CS):List AV->List Nat->Bool
 | [a],[]=>Bh (-8) a.lo&&Bh a.hi 8
 |a::al,n::ns=>(match Ts s n 4 with
  |some p=>OC 0 (Di (Di a.p (X8 8)) (Cr (-1) p))
  |none=>false)&&AAW s al ns
 |_,_=>false
def leH:List AV->GU
 | []=>[]
 |a::r=>Di a.p (Cr 16 (leH r))
def leC(n k:Nat):Nat->GU
 |0=>[]
 |m+1=>Di (JV (enc n k 0)) (Cr 256 (leC n (k+1) m))
def zO(fb:Nat)(r:Option (List (Nat×GG)×List JU×CS×List (List AV))):Bool:=match r with
 | some ((m,⟨.fn f true 0,[.vec 0]⟩)::_,ob,s,[d])=>Nat.beq m 34&&Nat.beq f fb&&(AAW s d (uU (acW r))&&Nat.beq d.length 64)&&(OC 0 (Di (leH d) (Cr (-1) (leC 34 0 32)))&&(match ob with
  | [.pre g [.vec 0],.zr (.v c 0)]=>Nat.beq g fb&&(match lk c (acW r) with
   |some ⟨.bin .gtr .u8,[.xs [.v x k],.xs [.lit (.ofNat y)]]⟩=>Nat.beq x 34&&Nat.beq k 31&&Nat.beq y 127
   |_=>false)
  |_=>false))
 |_=>false
 where acW:Option (List (Nat×GG)×List JU×CS×List (List AV))->List (Nat×GG)
 |some (ds,_)=>ds
 |none=>[]
theorem ANg:zO 107 (ABX Ab AR [] [bQ] 34 AEW)=true:=by kernel_rfl
theorem AAG:((Zk (Az.tree Am)).map λp=>p.2.1.length)=some 0:=by kernel_rfl
theorem ACc:LU 1 (Az.tree Am)=true:=by kernel_rfl
theorem AAA{i:Ad}{C:Cx}(h:((Zk (i.tree C)).map λp=>p.2.1.length)=some 0){np:Nat}(hk:LU np (i.tree C)=true)(ρ:Br):EY C.T (i.tree C) ρ:=by
 match hl:Zk (i.tree C),h with
 |some (ds,ob,e,st),h=>
  simp only[UA,Ai,List.length_eq_zero_iff] at h;subst h;obtain⟨k1,k2,k3,k4,k5⟩:=OY (T:=C.T) (ρ:=ρ) hk hl;exact k5 λq hq=>by cases hq
theorem sN(args:List (List Int)):BG.pre args:=AAA (i:=Az) (C:=Am) AAG ACc (Ce args)
theorem AEF{T:Tb}(h:lk 107 T=some (.one BG)){ρ:Br}{x:List Int}(e0:ρ 0=x):(JU.pre 107 [.vec 0]).den T ρ:=by
 have ha: [IZ.vec 0].map (·.den ρ)= [x]:=by simp only[NE,Uf,IZ.den,e0]
 exact Xn h ha (sN [x])
theorem AEt{T:Tb}(h:lk 107 T=some (.one BG))(args:List (List Int)):LM T 107 args:=⟨⟨_,h,AAA AAG ACc _⟩⟩
theorem zH{T:Tb}(h:lk 107 T=some (.one BG)){x:List Int}(hx:u4 x):∃m,ScV x m/\(gv T 107 0 [x]).length=32/\cM (gv T 107 0 [x])/\Ct (gv T 107 0 [x])=m:=by
 obtain⟨m,h1,h2,h3,h4⟩:=AEI hx;have e:gv T 107 0 [x]=Az.raw Am 0 [x]:=by
  rw[BQ h,AAs];exact Bn h2
 rw[e];exact⟨m,h1,h2,h3,h4⟩
theorem uh:∀ {l:List Int} {k:Nat},cM l->k<l.length->l.getD k 0*256^k<=Ct l
 | [],k,_,h=>by cases h
 |b::r,0,h,_=>by
  have:=(KV (l:=r) λy hy=>h y (Lv _ hy)).1;simp only[Ct,Ru,Int.pow_zero];omega
 |b::r,k+1,h,hk=>by
  have h1:=uh (l:=r) (k:=k) (λy hy=>h y (Lv _ hy)) (by simpa using hk);have h2:=h b Kh;simp only[Ct,X7,RW];rw[<- Xt];generalize r.getD k 0*256^k=q at *
  omega
def Kd:List Int->Int
 | []=>0
 |b::r=>b+16*Kd r
theorem zS{ρ:Br}:∀ {al:List AV} {l:List Int},Za ρ l al->FU ρ (leH al)=Kd l
 | [],[],_=>rfl
 | [],x::l,h=>by have:=h.1;simp at this
 |a::al,[],h=>by have:=h.1;simp at this
 |a::al,x::l,h=>by
  obtain⟨h1,h2⟩:=h.cons;simp only[leH,Kd,Cg,CZ,zS h2, <- h1.1]
theorem ABs{ρ:Br}{n:Nat}:∀ {m k:Nat},k+m<=4096->FU ρ (leC n k m)=Ct ((List.range m).map λj=>(ρ n).getD (k+j) 0)
 |0,_,_=>rfl
 | m+1,k,h=>by
  rw[List.range_succ_eq_map,NE,List.map_map];simp only[leC,Cg,CZ,Gi,Ct];rw[αv_enc0 ρ (by omega),ABs (m:=m) (k:=k+1) (by omega)];have:((λj=>(ρ n).getD (k+j) 0) ∘ Nat.succ)=λj=>(ρ n).getD (k+1+j) 0:=by
   funext j;simp only[Function.comp];congr 1;omega
  rw[this];simp only[P5]
theorem uG{ρ:Br}{s:CS}(hs:OL ρ s):∀ {al:List AV} {ns:List Nat} {l:List Int},AAW s al ns=true->Za ρ l al->∀x∈l,-8<=x/\x<=8
 | [a],[],l,h,hA=>by
  simp only[AAW,Bl] at h
  match l,hA with
  | [x],hA=>
   intro y hy;rw[NB] at hy;subst hy;have:=hA.cons.1;exact⟨RP (A8 h.1) this.2.1,RP this.2.2.1 (A8 h.2)⟩
  | [],hA=>have:=hA.1;simp at this
  |_::_::_,hA=>have:=hA.1;simp at this
 | a :: al,n::ns,l,h,hA=>by
  unfold AAW at h;simp only[Bl] at h
  match l,hA with
  | [],hA=>have:=hA.1;simp at this
  | x::l,hA=>
   obtain⟨h1,h2⟩:=hA.cons;intro y hy;rcases IR.1 hy with rfl|hy
   ·have h3:=h.1;split at h3
    ·rename_i p hp;have h4:=pz (ρ:=ρ) h3;have h5:=Wn hs hp;rw[Cg,P8, <- h1.1] at h4;have e:((2^4:Nat):Int)=16:=by decide
     rw[e] at h5;omega
    ·cases h3
   ·exact uG hs h.2 h2 y hy
 | [],_,_,h,_=>by cases h
 |_::_::_,[],_,h,_=>by cases h
theorem y9:lk 107 AR.T=some (.one BG):=rfl
theorem ABB{k:Nat}{p:Int×Int}(h:AEW[k]? = some p):k<32/\p.1=0/\(k<31->p.2=255)/\(k=31->p.2=127):=by
 have cf:k<32:=(OQ.1 h).1;have:∀k,k<32->∀p,AEW[k]? = some p->p.1=0/\(k<31->p.2=255)/\(k=31->p.2=127):=by
  intro k hk;have hh:∀k:Fin 32,AEW[k.val]? = some (0,if k.val<31 then 255 else 127):=by decide +kernel
  intro p hp;have:=hh ⟨k,hk⟩;simp only at this;rw[this,Ai] at hp;subst hp;refine⟨rfl,λh=>by simp[h],λh=>by subst h;rfl⟩
 exact⟨cf,this k cf p h⟩
theorem sV{x:List Int}(hx:u4 x):∃m,ScV x m/\EY AR.T (Ab.tree AR) (Ce [x])/\(Ab.raw AR 0 [x]).length=64/\(∀d∈Ab.raw AR 0 [x],-8<=d/\d<=8)/\Kd (Ab.raw AR 0 [x])=m:=by
 have ht:=ANg;unfold zO at ht;split at ht
 ·rename_i m0 f yd ob s d hr;simp only[Bl] at ht;obtain⟨⟨⟨t1,t2⟩,t3,t4⟩,t5,t6⟩:=ht;have t1:=CR t1;have t2:=CR t2;have t4:=CR t4;subst t1;subst t2;obtain⟨m,hm,hB⟩:=zH y9 hx;have h34:∀ ρ:Br,ρ 0=x->Tp AR.T ρ ((34,⟨.fn 107 true 0,[.vec 0]⟩)::yd)->ρ 34=gv AR.T 107 0 [x]:=fun ρ h0 hd=>by
   have:=hd _ Kh;simp only[GG.den,NE,Uf,IZ.den,h0] at this;exact this
  generalize gv AR.T 107 0 [x]=B at *
  obtain⟨b1,b2,b3⟩:=hB;have aeJ:B.getD 31 0<=127:=by
   have h1:=uh b2 (k:=31) (by omega);rw[b3] at h1;have h2:=hm.hi;unfold Mo at h2;have e:(256:Int)^31=452312848583266388373324160190187140051835877600158453279131187530910662656:=by decide
   rw[e] at h1;omega
  have hbk:∀k,k<32->0<=B.getD k 0/\B.getD k 0<=255:=λk hk=>by
   have h1:k<B.length:=by omega
   have:=b2 B[k] (lY h1);rw[List.getD,JC h1];exact this
  obtain⟨ρ,h1,h2,h3,h4,h5⟩:=zi (λf κ h=>by cases h) hr (ins:=[x]) (Qp hx (IL _)) (by decide) (fun ρ h0 hd k p hk=>by
   have Wk:=h34 ρ (h0 0 (by decide)) hd;obtain⟨g1,g2,g3,g4⟩:=ABB hk;rw[Wk,g2];refine⟨(hbk k g1).1,?_⟩;by_cases tg:k<31
   ·rw[g3 tg];exact(hbk k g1).2
   ·have:k=31:=by omega
    subst this;rw[g4 rfl];exact aeJ)
  have e0:ρ 0=x:=h1 0 (by decide);have Wk:=h34 ρ e0 h2;have hA:=h5 0 d rfl;refine⟨m,hm,h4 ?_,hA.1.trans t4,uG h3 t3 hA,?_⟩
  ·split at t6
   ·rename_i g c;simp only[Bl] at t6;have e1:=CR t6.1;subst e1;have t7:=t6.2;split at t7
    ·rename_i y k z hc;simp only[Bl] at t7;have e1:=CR t7.1.1;have e2:=CR t7.1.2;have e3:=CR t7.2;subst e1;subst e2;subst e3;intro q hq;rcases IR.1 hq with rfl|hq
     ·exact AEF y9 e0
     ·rw[NB] at hq;subst hq;rw[hr] at hc;have CA:lk c ((34,⟨.fn 107 true 0,[.vec 0]⟩)::yd)=some ⟨.bin .gtr .u8,[.xs [.v 34 31],.xs [.lit (.ofNat 127)]]⟩:=hc;have i6:=h2 _ (Ni CA);have Dd:ρ c= [Ah .gtr .u8 ((ρ 34).getD 31 0) 127]:=i6;show(ρ c).getD 0 0=0;rw[Dd,Wk];show Ah .gtr .u8 (B.getD 31 0) 127=0;have:¬B.getD 31 0>127:=by omega
      show XH (decide (B.getD 31 0>127))=0;rw[_root_.decide_eq_false this];rfl
    ·cases t7
   ·cases t6
  ·have t5:=pz (ρ:=ρ) t5;rw[zS hA,ABs (by omega),Wk] at t5;have e:(λj=>B.getD (0+j) 0)=λj=>B.getD j 0:=by funext j;rw[Km]
   rw[e,TG b1] at t5;exact t5.trans b3
 ·cases ht
end
section
open Go Ma
theorem bi{A:Type}{γ:A->List Int->Prop}{ρ:Br}:∀ {bs:List (Nat×A)} {l:List Int},GZ γ ρ (yw bs) l->Ei γ bs l
 | [],_l,h=>h
 |(_n,_x)::_bs,_l,⟨u,w,h1,h2,h3⟩=>⟨u,w,h1,h2.1,h2.2,bi h3⟩
theorem Z4{A:Type}{γ:A->List Int->Prop}:∀ {b c:List (Nat×A)} {l:List Int},Ei γ (b++c) l->∃u w,l=u++w/\Ei γ b u/\Ei γ c w
 | [],c,l,h=>⟨[],l,rfl,rfl,h⟩
 |(n,x)::b,c,l,⟨u,w,h1,h2,h3,h4⟩=>by
  obtain⟨u',w',g1,g2,g3⟩:=Z4 h4;exact⟨u++u',w',by rw[h1,g1,bU],⟨u,u',rfl,h2,h3,g2⟩,g3⟩
theorem wC{ρ:GV}:∀ {m:Nat} {c:Int} {l:List Int},Ei (γG ρ) (qN .pa 8 m c) l->rM ρ.P m c l
 |0,c,l,h=>h
 |m+1,c,l,h=>by
  obtain⟨u,w,h1,h2,h3⟩:=Z4 h;refine⟨u,w,h1,?_,wC h3⟩;exact(L6.bl (f:=λk=>Z2.smul (.k (k+1:Nat)) (.c c)) (λk=>by rw[Z2.fL,Z2.ud];rfl)).2 h2
theorem tF{A:Type}{γ:A->List Int->Prop}:∀ {b:List (Nat×A)} {l:List Int},Ei γ b l->l.length=(b.map (·.1)).sum
 | [],l,h=>by rw[show l= [] from h];rfl
 |(n,x)::b,l,⟨u,w,h1,h2,h3,h4⟩=>by
  rw[h1,MN,h2,tF h4];rfl
def AH5:List (Nat×KP):=[(176,.J0 .p3 1),(183,.tab .pa 8),(178,.C0 .p3 .p3 .p3)]
theorem AQS:Pi (tY AH5) yT (Bj.tree CL) CL Bj.s0 Bj.cF [] [] []=some [yw (qN .pa 8 32 1)]:=by kernel_rfl
def bO:List (Nat×KP):=[(146,.AF),(147,.rad 64),(149,.J0 .p3 0),(148,.tR .p3 .p3),(150,.ca .pa 8),(141,.C0 .p3 .pa .lA),(136,.tR .lA .p3),(151,.tR .p3 .p2),(135,.dbl),(143,.tR .lA .p2)]
def AGx(r:Option (List (List (Bk GX)))):Option Z2:=match r with
 |some [[.a 20 (.pt .p3 z)]]=>some z
 |_=>none
theorem AQn:(AGx (Pi (tY bO) yT (Ae.tree Af) Af Ae.s0 Ae.cF [none,none] [none,some [(4,.sc)]] [])).isSome=true:=by kernel_rfl
end
section
open Go Ma
theorem AE4:((qN .pa 8 32 1).map (·.1)).sum=3840:=by decide +kernel
theorem AG0:(Bj.cC CL).pr 0= .l λa=>BK (List.replicate 3840 IntKind.u64).length (Bj.raw CL 0 a):=by kernel_rfl
theorem AIj:(Bj.cC CL).pr 0= .l λa=>BK 3840 (Bj.raw CL 0 a):=by
 rw[AG0,Qs]
theorem ACu{T:Tb}{d:Nat->Int}{s:List Int}(h:lk 146 T=some (.one Hg)):KP.Ok T 146 ⟨JS,JS,d,s⟩ .AF:=by
 obtain⟨h1,ρe,h2⟩:=yH (i:=Bj) (C:=CL) (ρ:=⟨JS,JS,d,s⟩) (n:=3840) (M:=AH5) (b:=yw (qN .pa 8 32 1)) h AIj (.cons (AAv rfl) (.cons (AF0 rfl) (.cons (dH rfl) .nil))) AQS (ins:=[]) .nil .nil (λp hp=>by cases hp) (fun ρe l h=>(tF (bi h)).trans AE4);exact⟨h1,wC (ρ:=⟨JS,JS,d,s⟩) (bi h2)⟩
theorem AL7{T:Tb}{f:Nat}{i:Ad}{C:Cx}{ins:List (List Int)}{A B:Int->Prop}(hs:lk f T=some (.one (i.cC C)))(h:∃m,A m/\EY C.T (i.tree C) (Ce ins)/\B m):LM T f ins/\∃m,A m/\B m:=by
 obtain⟨m,h1,h2,h3⟩:=h;exact⟨⟨⟨_,hs,h2⟩⟩,m,h1,h3⟩
theorem AK5:Dv.pr 0= .l λa=>BK 64 (Ab.raw AR 0 a):=rfl
noncomputable def Zi(x:List Int)(k:Nat):Int:=(Ab.raw AR 0 [x]).getD k 0
theorem AOW{l:List Int}(h3:l.length=64)(h4:∀d∈l,-8<=d/\d<=8){k:Nat}(hk:k<64): -8<=l.getD k 0/\l.getD k 0<=8:=by
 have cf:k<l.length:=by omega
 have:=h4 _ (lY cf);rw[List.getD,JC cf];exact this
theorem xZ{T:Tb}{f n:Nat}{P Q:Pt}{d:Nat->Int}{s:List Int}(hp:LM T f [s])(hd:AFK d n (gv T f 0 [s])):KP.Ok T f ⟨P,Q,d,s⟩ (.rad n):=⟨hp,hd⟩
theorem AJZ{f:Nat->Int}{n:Nat}{l:List Int}(h:l=(List.range n).map f)(h2:∀k,k<n-> -8<=f k/\f k<=8):AFK f n l:=⟨h,h2⟩
theorem AAd{T:Tb}{x:List Int}(hx:u4 x)(h:lk 147 T=some (.one Dv)):KP.Ok T 147 ⟨JS,JS,Zi x,x⟩ (.rad 64):=by
 have hq:=AL7 (i:=Ab) (C:=AR) h (sV hx);have hp:=hq.1;obtain⟨m,h1,h3,h4,h5⟩:=hq.2;have e:gv T 147 0 [x]=Ab.raw AR 0 [x]:=by
  rw[uu h,AK5];exact Bn h3
 have hd:AFK (Zi x) 64 (gv T 147 0 [x]):=by
  rw[e];exact AJZ (TG h3).symm (λk hk=>AOW h3 h4 hk)
 exact xZ hp hd
theorem nL{T:Tb}(h:lk 105 T=some (.one Aa)){v x:List Int}(hx:u4 x):LM T 105 [v,x]/\∃P,R3 P (gv T 105 0 [v,x]):=by
 have ht:=AQn;unfold AGx at ht;split at ht
 ·rename_i z hz;have hM:MG Af.T ⟨JS,JS,Zi x,x⟩ bO:=.cons (ACu rfl) (.cons (AAd hx rfl) (.cons (ACZ rfl) (.cons (tu rfl) (.cons (aK rfl) (.cons (VE rfl) (.cons (Po rfl) (.cons (wJ rfl) (.cons (qX rfl) (.cons (ZW rfl) .nil)))))))));have hI:Zb (γG ⟨JS,JS,Zi x,x⟩) [none,some [(4,.sc)]] [v,x]:=.no (.yes ⟨x,[],by simp,hx.1,rfl,rfl⟩ .nil);obtain⟨h1,ρe,h2⟩:=yH (i:=Ae) (C:=Af) (ρ:=⟨JS,JS,Zi x,x⟩) (n:=20) (M:=bO) (b:=[.a 20 (.pt .p3 z)]) h rfl hM hz (ins:=[v,x]) (.no (.no .nil)) hI (λp hp=>by cases hp) (fun ρe l h=>RR.len (r:=.p3) (gp1 h));exact⟨h1,_,gp1 h2⟩
 ·cases ht
end
section
open Go Ma
def AH2:List (Nat×KF):=[(180,.pw eI),(115,.mul),(182,.isn)]
theorem APV:(Pi (nP AH2) nmF (Aq.tree AY) AY Aq.s0 Aq.cF [none] [some (fb [.v 0,.v 1,.v 2,.v 3])] [(0,0)]).isSome=true:=by kernel_rfl
theorem AN4{T:Tb}{f:Nat}{M:List (Nat×KF)}{i:Ad}{C:Cx}{ρ:FV}{j0:List (Option (List Int))}{bin:List (Option (List (Nat×FX)))}{pts:List PN}(hs:lk f T=some (.one (i.cC C)))(hM:MF C.T M)(h:(Pi (nP M) nmF (i.tree C) C i.s0 i.cF j0 bin pts).isSome=true){ins:List (List Int)}(hk:Hv j0 ins)(eC:Zb (γF ρ) bin ins)(hp:∀p∈pts,¬(NN (ins.getD p.1 []) p.2/\NN (ins.getD p.1 []) (p.2+5))):LM T f ins:=by
 obtain⟨r,hr⟩:=Option.isSome_iff_exists.1 h;have:=lM (γ:=γF ρ) ALN (YJ hM ρ) hr hk eC hp;exact⟨⟨_,hs,this.1⟩⟩
theorem dD{T:Tb}(h:lk 104 T=some (.one BL)){P:Pt}{l:List Int}(hP:R3 P l):LM T 104 [l]:=by
 have hz:=lK hP;obtain⟨X,Y,Z,U,hl,_⟩:=hP;exact AN4 (M:=AH2) (i:=Aq) (C:=AY) (ρ:=⟨λn=>[X,Y,Z,U].getD n 0,λ_=>false⟩) h (.cons (oO rfl) (.cons (KO rfl) (.cons (mF rfl) .nil))) APV (ins:=[l]) (.no .nil) (.yes (Kl.bl rfl hl) .nil) (λp hp=>by
  rw[NB] at hp;subst hp;exact hz)
end
end Go.Proofs.YtloibefkijfdlaaGreatDoor
