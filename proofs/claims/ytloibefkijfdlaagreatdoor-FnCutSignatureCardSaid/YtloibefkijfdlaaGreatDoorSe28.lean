/- The symbolic executor, part 28: pieces of code, told as rounds are, with further numbers that they leave in slots. -/
import Derived.Test.YtloibefkijfdlaaGreatDoorSb
namespace Go.Proofs.YtloibefkijfdlaaGreatDoor
open Go
structure V7 where
 i:JJ
 qs:List Nat
 es:List GD
def V7.leaf(g:V7)(e:Ex)(st:St):Option (List IZ×List IZ):=match g.i.leaf e st with
 | some (true,as)=>(match looks st g.qs with
  |some vs=>(match Oj st g.es vs with
   |some (CT,LI)=>bif Vz st.rg LI then some (as,CT) else none
   |none=>none)
  |none=>none)
 |_=>none
def V7.rI(g:V7)(m:Nat)(e:Ex)(st:St):Bool:=match g.leaf e st with
 |some (as,CT)=>as.all (·.gC m)&&CT.all (·.gC m)
 |none=>false
def V7.step(g:V7)(C:Cx)(ins:List (List Int)):Option (List (List Int)×List (List Int)):=
 match Wz C.T (g.i.tree C) (Ce ins) with
 |some (ρ,e,st)=>(match g.leaf e st with
  |some (as,CT)=>some (as.map (·.den ρ),CT.map (·.den ρ))
  |none=>none)
 |none=>none
def V7.dc(g:V7)(C:Cx):Bool:=iI C.T (g.rI) (xg g.i.s0.params.length) (g.i.tree C)&&NP g.i.s0.outs 0 g.i.s0.params&&zG g.i.s0.params g.i.s0.outs&&Nat.ble g.i.s0.params.length g.i.nt&&Nat.ble g.i.s0.params.length 500&&Nat.beq g.i.ps.length g.i.s0.params.length&&AA4 g.i.ps&&g.i.ps.all (λt=>Nat.blt t g.i.nt&&T9 t g.i.cl)
theorem V7.Hp{g:V7}{e:Ex}{st:St}{as CT:List IZ}(h:g.leaf e st=some (as,CT)):∃vs2 LI,g.i.leaf e st=some (true,as)/\looks st g.qs=some vs2/\Oj st g.es vs2=some (CT,LI)/\Vz st.rg LI=true:=by
 unfold V7.leaf at h;split at h
 ·rename_i Mb h1;split at h
  ·rename_i vs h2;split at h
   ·rename_i aiB LI h3;cases hb:Vz st.rg LI with
    |false=>rw[hb] at h;cases h
    |true=>
     rw[hb,cond_true,Ai,Prod.mk.injEq] at h;obtain⟨rfl,rfl⟩:=h;exact⟨vs,LI,h1,h2,h3,hb⟩
   ·cases h
  ·cases h
 ·cases h
section
variable{P:Program}{C:Cx}{GB:Nat}{GC:Nat->Nat->Option Value}(hC:Vt P C GB GC){g:V7}{ad:Nat->Nat×Nat}(hk:g.dc C=true)(lR:Ty GC ad g.i.cA)(me:∀x∈g.i.cA,(EC ad x.1).1<GB)
 (ω:∀E:En,E.P=P->E.C=C->E.GB=GB->E.GC=GC->J9 E g.i.c/\∀f j,lk f C.inl=some j->J9 E j.c)
include hC hk lR me ω
theorem OB{a:Act}{w:World}{ins:List (List Int)}{bs:List (Nat×Nat)}(ε:GW GC w)(δ:GB<=w.heap.size)(hP:KH GB w g.i.s0.params (g.i.ps.map λt=>a.tmps.getD t undef) ins bs)(hS:Fv g.i.s0.params bs)
  (eA:a.tmps.size=g.i.nt) (qq:a.defers= []) (ho:EY C.T (g.i.tree C) (Ce ins)):
  g.i.c.wp P (λe a' w'=>∃r r2 Fk,g.step C ins=some (r,r2)/\e= .normal/\KH GB w' g.es (g.qs.map λt=>a'.tmps.getD t undef) r2 Fk/\KH GB w' g.i.s0.params (g.i.ps.map λt=>a'.tmps.getD t undef) r bs/\BM w w' (Wj g.i.s0 bs)/\
   a'.tmps.size=g.i.nt/\a'.defers= []/\(∀t,t∈g.i.cT->a'.tmps.getD t undef=a.tmps.getD t undef)/\
   (∀(j t:Nat) (p:GD),g.i.s0.params[j]? = some p->p.cE≠none->g.i.ps[j]? = some t->a'.tmps.getD t undef=a.tmps.getD t undef)/\GW GC w') a w:=by
 unfold V7.dc at hk;simp only[Bl] at hk;obtain⟨⟨⟨⟨⟨⟨⟨k1,k2⟩,k3⟩,k4⟩,k5⟩,k6⟩,k7⟩,k8⟩:=hk;have As:=MQ k4;have iu:=MQ k5;have hlen:=CR k6;have DO:=hC.ok w (Wj g.i.s0 bs) (i0 bs 0 g.i.s0.params) g.i.s0.params.length (λj=>(g.i.ps.map λt=>a.tmps.getD t undef).getD j undef) δ;have mj:=dS (P:=P) (C:=C) (cA:=g.i.cA) (nt:=g.i.nt) DO.gc ε δ hP hS k2 lR me As iu;generalize fg:(g.i.ps.map λt=>a.tmps.getD t undef)=args at hP mj DO
 let np:=g.i.s0.params.length
 let V0:=v0 ad np args ins bs g.i.cA
 let V:Vl:= { V0 with σ:=λj=>if j<2*np then V0.σ j else a.tmps.getD (j-2*np) undef }
 let nv:=2*np+g.i.nt
 let E0:En:=e0 P C GB GC g.i.s0 args bs w
 let E:En:=Ev E0 (i0 bs 0 g.i.s0.params) nv V.σ
 have hE:P7 E:=P7.ev DO _ _ _;have gk:Ag (2*np) (Dh (ZZ g.i.s0.params g.i.cA g.i.nt).rg) V0 V:=⟨λ_ _=>rfl,λj hj=>if_pos hj,λ_ _=>rfl⟩;have tM:=mj.s.m.ag gk mj.s.nF;have aey:args.length=np:=by rw[<- fg,Tg,hlen]
 have HO:Gz E g.i.st V a w:=by
  refine⟨⟨⟨tM.pH,tM.one,tM.sep,tM.sY,tM.an,tM.gw⟩,λr hr lv oA=>LV.bh (show 2*np<=nv by omega) (λ_ h=>h) (mj.s.nF r hr lv oA),⟨λt v hv=>?_,λg l hg=>?_,λp hp=>mj.s.t.ln p hp⟩,eA,qq⟩,λp hp=>?_,λp hp=>mj.kp p hp,λ_ _=>rfl,KA _⟩
  ·have n8:lk t (xu np 0 g.i.ps g.i.s0.params++g.i.cT.map λt=>(t,SV.any (2*np+t)))=some v:=hv;rcases YX n8 with⟨j,p,h1,h2,h3⟩|h
   ·rw[Km] at h3;subst h3;have h4:=ZA (np:=np) (i:=0) h2;rw[Km] at h4;obtain⟨g1,g2,g3⟩:=mj.s.t.tm j (GQ np j p) (by simp only[St.look,ZZ,lk];exact h4);have hj:j<args.length:=by have:=(OQ.1 h2).1;omega
    refine⟨?_,SV.ff gk g3 g2,SV.bh (show 2*np<=nv by omega) (λ_ h=>h) g3⟩;rw[SV.cr gk g3, <- g1,Ti,Ti,Array.getElem?_append_left (by simpa using hj)];have:args[j]? = some (a.tmps.getD t undef):=by rw[<- fg,Ng,h1];rfl
    rw[List.getElem?_toArray (xs:=args),this,Ti];rfl
   ·obtain⟨h1,h2⟩:=Y1 h;subst h2;have cf:t<g.i.nt:=by
     have:=(List.mem_filter.1 h1).1;exact lZ.1 this
    refine⟨?_,trivial,?_⟩
    ·show _=(if 2*np+t<2*np then V0.σ (2*np+t) else a.tmps.getD (2*np+t-2*np) undef);rw[if_neg (by omega),Nat.add_sub_cancel_left]
    ·exact WL (show 2*np+t<nv by omega)
  ·exact mj.s.t.gl g l hg
  ·exact iH (mj.ll p hp) (show 2*np<=nv by omega)
 obtain⟨ρL,eL,sR,m0,Iv,hlf⟩:=OG (ρc:=Ce ins) k1;have aa8:=hlf;unfold V7.rI at aa8;cases hgleaf:g.leaf eL sR with
 |none=>rw[hgleaf] at aa8;cases aa8
 |some q=>
 obtain⟨as,CT⟩:=q;have GP:g.step C ins=some (as.map (·.den ρL),CT.map (·.den ρL)):=by
  unfold V7.step;rw[Iv];simp only[hgleaf]
 have hT:(g.i.tree C).cv C.T (fun ρ ex st=>JW nv V.ρ ρ/\ex=eL/\st=sR/\as.map (·.den ρ)=as.map (·.den ρL)/\CT.map (·.den ρ)=CT.map (·.den ρL)) nv V.ρ:=fun ρ' hρ=>by
  refine Mq (λm hm hr=>by
   unfold V7.rI at hm;rw[hgleaf] at hm;simp only[Bl] at hm;exact⟨hρ,rfl,rfl,oS.cD hr hm.1,oS.cD hr hm.2⟩) k1 ?_ ho Iv
  ·intro j hj;have qv:=dJ hj;rw[hρ j (show j<nv by omega)];show V0.ρ j=_;simp only[V0,v0,np,qv,if_true];rfl
 have KB:=ω E rfl rfl rfl rfl;have acn:=ω E0 rfl rfl rfl rfl;have hex:=Xi (E0:=E0) DO hC.il acn.2 g.i.n (i0 bs 0 g.i.s0.params) nv V.σ _ [] g.i.c g.i.st V a w (λx hx=>(by cases hx)) trivial KB.1 rfl HO hT;refine wp_mono (KI hex) ?_;rintro e a' w' ⟨ex,cH,V',hx,gh,eM,hΦ⟩;obtain⟨acg,rfl,rfl,HH,adE⟩:=hΦ V'.ρ (JW.refl _ _);obtain⟨vs2,LI,cP,Ds,hA2,hw2⟩:=V7.Hp hgleaf;refine⟨as.map (·.den ρL),CT.map (·.den ρL),LI.map (TF V'),GP,?_⟩;unfold JJ.leaf at cP;split at cP
 ·cases cP
 rename_i b0 th;split at cP
 ·cases cP
 rename_i vs oE;split at cP
 ·cases cP
 rename_i Mb ms hA;cases hb:(Vz cH.rg ms&&Tv g.i.s0.params.length 0 g.i.s0.params vs ms&&g.i.cT.all (kD g.i.s0.params.length cH)&&Nat.beq cH.nt g.i.nt) with
 |false=>rw[hb] at cP;cases cP
 |true=>
 rw[hb,cond_true,Ai,Prod.mk.injEq] at cP;obtain⟨rfl,rfl⟩:=cP;simp only[Bl] at hb;have acs:=CR hb.2;replace hb:=hb.1;obtain⟨q1,q2⟩:=PU eM oE;obtain⟨r1,-, -, -, -⟩:=S9 (E:=E) eM.s.m eM.s.t.ln hA (λv hv=>(q2 v hv).1) hb.1.1;obtain⟨u1,u2⟩:=Wq (V:=V') hb.1.2;have hνp:∀(j:Nat) (p:GD),g.i.s0.params[j]? = some p->p.cE≠none->V'.ν j=bs.getD j (0,0):=λj p hp hn=>by
  have:=WP (bs:=bs) (i:=0) hp hn;rw[Km] at this;exact(eM.kp _ this).2
 obtain⟨l1,l2,l3⟩:=SX hP;obtain⟨y1,y2⟩:=PU eM Ds;obtain⟨z1,-, -, -, -⟩:=S9 (E:=E) eM.s.m eM.s.t.ln hA2 (λv hv=>(y2 v hv).1) hw2;refine⟨?_,?_,?_,eM.s.m.an,eM.s.nt.trans acs,eM.s.df,λt ht=>?_,λj t p hp hn ht=>?_,eM.s.m.gw⟩
 ·cases hx with
  |normal=>rfl
  |exit j=>
   simp only at th;cases hj:Nat.beq j g.i.id with
   |false=>rw[hj] at th;cases th
   |true=>rw[hj] at th;cases th
  |ret=>cases th
 ·rw[y1, <- adE];exact z1
 ·rw[q1, <- HH];refine nk r1 l3 λj p hp hn=>?_
  rw[(u2 j p hp hn).1,Km,hνp j p hp hn]
 ·have h1:=Mx.1 hb.2 t ht;unfold kD at h1;split at h1
  ·rename_i j hj;have:=CR h1;subst this;have cf:t<g.i.nt:=lZ.1 (List.mem_filter.1 ht).1;obtain⟨g1,-, -⟩:=eM.s.t.tm t _ (by simp only[St.look,gh,lk];exact hj);rw[g1];show V'.σ (2*np+t)=_;rw[eM.ks (2*np+t) (show 2*np+t<nv by omega)];show(if 2*np+t<2*np then V0.σ (2*np+t) else a.tmps.getD (2*np+t-2*np) undef)=_;rw[if_neg (by omega),Nat.add_sub_cancel_left]
  ·cases h1
 ·have h1:=(u2 j p hp hn).2;rw[Km] at h1;have h2:a'.tmps.getD t undef=(GQ np j p).den V':=by
   have e1:(g.i.ps.map λt=>a'.tmps.getD t undef)[j]? = some (a'.tmps.getD t undef):=by rw[Ng,ht];rfl
   rw[q1,Ng,h1] at e1;exact(XW e1).symm
  have h4:=ZA (np:=np) (i:=0) hp;rw[Km] at h4;obtain⟨g1,g2,g3⟩:=mj.s.t.tm j (GQ np j p) (by simp only[St.look,ZZ,lk];exact h4);have hj:j<args.length:=by have:=(OQ.1 hp).1;omega
  have h5:a.tmps.getD t undef=(GQ np j p).den V0:=by
   rw[<- g1,Ti (xs:=args.toArray++_),Array.getElem?_append_left (by simpa using hj)];have:args[j]? = some (a.tmps.getD t undef):=by rw[<- fg,Ng,ht];rfl
   rw[List.getElem?_toArray (xs:=args),this];rfl
  rw[h2,h5];have cf:j<np:=by omega
  have hν:V'.ν j=V0.ν j:=by
   rw[hνp j p hp hn];have:=(mj.kp _ (by have:=WP (bs:=bs) (i:=0) hp hn;rw[Km] at this;exact this)).2;exact this.symm
  have hρ:V'.ρ (np+j)=V0.ρ (np+j):=acg (np+j) (show np+j<nv by omega);have hσ:V'.σ j=V0.σ j:=by
   rw[eM.ks j (show j<nv by omega)];exact if_pos (show j<2*np by omega)
  cases p with
  |mem ks g wr=>simp only[GQ,SV.aE,TV.aq,LV.cx,hν]
  |sl ks g wr=>simp only[GQ,SV.aE,TV.aq,LV.cI,CX.eW,X.den,hν,hρ]
  |fy ks g wr=>simp only[GQ,SV.aE,TV.aq,LV.den];exact hσ
  |int k=>exact absurd rfl hn
  |bool=>exact absurd rfl hn
  |agg ks=>exact absurd rfl hn
end
end Go.Proofs.YtloibefkijfdlaaGreatDoor
