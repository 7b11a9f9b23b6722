/- The symbolic executor, part 28: pieces of code, told as rounds are, with further numbers that they leave in slots. -/
import Derived.Test.YtkbfdaoohhmgoaaGreatDoorSb
namespace Go.Proofs.YtkbfdaoohhmgoaaGreatDoor
open Go
structure Xz where
 i:Ih
 qs:List Nat
 es:List Et
def Xz.leaf(g:Xz)(e:Ex)(st:St):Option (List Hy×List Hy):=match g.i.leaf e st with
 | some (true,as)=>(match looks st g.qs with
  |some vs=>(match Oh st g.es vs with
   |some (B0,Kp)=>bif WB st.rg Kp then some (as,B0) else none
   |none=>none)
  |none=>none)
 |_=>none
def Xz.pP(g:Xz)(m:Nat)(e:Ex)(st:St):Bool:=match g.leaf e st with
 |some (as,B0)=>as.all (·.fY m)&&B0.all (·.fY m)
 |none=>false
def Xz.step(g:Xz)(C:Cx)(ins:List (List Int)):Option (List (List Int)×List (List Int)):=
 match WS C.T (g.i.tree C) (BK ins) with
 |some (ρ,e,st)=>(match g.leaf e st with
  |some (as,B0)=>some (as.map (·.den ρ),B0.map (·.den ρ))
  |none=>none)
 |none=>none
def Xz.cN(g:Xz)(C:Cx):Bool:=kr C.T (g.pP) (mi g.i.s0.params.length) (g.i.tree C)&&Iu g.i.s0.outs 0 g.i.s0.params&&ACr g.i.s0.params g.i.s0.outs&&Nat.ble g.i.s0.params.length g.i.nt&&Nat.ble g.i.s0.params.length 500&&Nat.beq g.i.ps.length g.i.s0.params.length&&AD2 g.i.ps&&g.i.ps.all (λt=>Nat.blt t g.i.nt&&Uw t g.i.cl)
theorem Xz.GP{g:Xz}{e:Ex}{st:St}{as B0:List Hy}(h:g.leaf e st=some (as,B0)):∃vs2 Kp,g.i.leaf e st=some (true,as)/\looks st g.qs=some vs2/\Oh st g.es vs2=some (B0,Kp)/\WB st.rg Kp=true:=by
 unfold Xz.leaf at h;split at h
 ·rename_i LI h1;split at h
  ·rename_i vs h2;split at h
   ·rename_i agM Kp h3;cases hb:WB st.rg Kp with
    |false=>rw[hb] at h;cases h
    |true=>
     rw[hb,cond_true,Ai,Prod.mk.injEq] at h;obtain⟨rfl,rfl⟩:=h;exact⟨vs,Kp,h1,h2,h3,hb⟩
   ·cases h
  ·cases h
 ·cases h
section
variable{P:Program}{C:Cx}{GB:Nat}{GC:Nat->Nat->Option Value}(hC:Ud P C GB GC){g:Xz}{ad:Nat->Nat×Nat}(hk:g.cN C=true)(gS:Q8 GC ad g.i.cq)(ia:∀x∈g.i.cq,(FY ad x.1).1<GB)
 (μ:∀E:En,E.P=P->E.C=C->E.GB=GB->E.GC=GC->Ip E g.i.c/\∀f j,lk f C.inl=some j->Ip E j.c)
include hC hk gS ia μ
theorem Q5{a:Act}{w:World}{ins:List (List Int)}{bs:List (Nat×Nat)}(ε:GW GC w)(δ:GB<=w.heap.size)(hP:Jg GB w g.i.s0.params (g.i.ps.map λt=>a.tmps.getD t undef) ins bs)(hS:Ep g.i.s0.params bs)
  (cX:a.tmps.size=g.i.nt) (oX:a.defers= []) (ho:Cv C.T (g.i.tree C) (BK ins)):
  g.i.c.wp P (λe a' w'=>∃r r2 N0,g.step C ins=some (r,r2)/\e= .normal/\Jg GB w' g.es (g.qs.map λt=>a'.tmps.getD t undef) r2 N0/\Jg GB w' g.i.s0.params (g.i.ps.map λt=>a'.tmps.getD t undef) r bs/\BD w w' (Xf g.i.s0 bs)/\
   a'.tmps.size=g.i.nt/\a'.defers= []/\(∀t,t∈g.i.cH->a'.tmps.getD t undef=a.tmps.getD t undef)/\
   (∀(j t:Nat) (p:Et),g.i.s0.params[j]? = some p->p.cp≠none->g.i.ps[j]? = some t->a'.tmps.getD t undef=a.tmps.getD t undef)/\GW GC w') a w:=by
 unfold Xz.cN at hk;simp only[Bj] at hk;obtain⟨⟨⟨⟨⟨⟨⟨k1,k2⟩,k3⟩,k4⟩,k5⟩,k6⟩,k7⟩,k8⟩:=hk;have xd:=Kv k4;have gE:=Kv k5;have hlen:=Ca k6;have C4:=hC.ok w (Xf g.i.s0 bs) (i0 bs 0 g.i.s0.params) g.i.s0.params.length (λj=>(g.i.ps.map λt=>a.tmps.getD t undef).getD j undef) δ;have j0:=jy (P:=P) (C:=C) (cq:=g.i.cq) (nt:=g.i.nt) C4.gc ε δ hP hS k2 gS ia xd gE;generalize eS:(g.i.ps.map λt=>a.tmps.getD t undef)=args at hP j0 C4
 let np:=g.i.s0.params.length
 let V0:=v0 ad np args ins bs g.i.cq
 let V:Vl:= { V0 with σ:=λj=>if j<2*np then V0.σ j else a.tmps.getD (j-2*np) undef }
 let nv:=2*np+g.i.nt
 let E0:En:=e0 P C GB GC g.i.s0 args bs w
 let E:En:=Ev E0 (i0 bs 0 g.i.s0.params) nv V.σ
 have hE:P5 E:=P5.ev C4 _ _ _;have gf:Ag (2*np) (DL (ZQ g.i.s0.params g.i.cq g.i.nt).rg) V0 V:=⟨λ_ _=>rfl,λj hj=>if_pos hj,λ_ _=>rfl⟩;have sY:=j0.s.m.ag gf j0.s.mc;have aft:args.length=np:=by rw[<- eS,UC,hlen]
 have Fo:Fy E g.i.st V a w:=by
  refine⟨⟨⟨sY.ov,sY.one,sY.sep,sY.so,sY.an,sY.gw⟩,λr hr lv nq=>LV.be (show 2*np<=nv by omega) (λ_ h=>h) (j0.s.mc r hr lv nq),⟨λt v hv=>?_,λg l hg=>?_,λp hp=>j0.s.t.ln p hp⟩,cX,oX⟩,λp hp=>?_,λp hp=>j0.kp p hp,λ_ _=>rfl,Ie _⟩
  ·have mL:lk t (AAh np 0 g.i.ps g.i.s0.params++g.i.cH.map λt=>(t,SV.any (2*np+t)))=some v:=hv;rcases aZ mL with⟨j,p,h1,h2,h3⟩|h
   ·rw[KN] at h3;subst h3;have h4:=aC (np:=np) (i:=0) h2;rw[KN] at h4;obtain⟨g1,g2,g3⟩:=j0.s.t.tm j (FI np j p) (by simp only[St.look,ZQ,lk];exact h4);have hj:j<args.length:=by have:=(Oa.1 h2).1;omega
    refine⟨?_,SV.eW gf g3 g2,SV.be (show 2*np<=nv by omega) (λ_ h=>h) g3⟩;rw[SV.ck gf g3, <- g1,YJ,YJ,Array.getElem?_append_left (by simpa using hj)];have:args[j]? = some (a.tmps.getD t undef):=by rw[<- eS,Ng,h1];rfl
    rw[List.getElem?_toArray (xs:=args),this,YJ];rfl
   ·obtain⟨h1,h2⟩:=Zm h;subst h2;have bj:t<g.i.nt:=by
     have:=(List.mem_filter.1 h1).1;exact fV.1 this
    refine⟨?_,trivial,?_⟩
    ·show _=(if 2*np+t<2*np then V0.σ (2*np+t) else a.tmps.getD (2*np+t-2*np) undef);rw[if_neg (by omega),Nat.add_sub_cancel_left]
    ·exact XY (show 2*np+t<nv by omega)
  ·exact j0.s.t.gl g l hg
  ·exact qm (j0.ll p hp) (show 2*np<=nv by omega)
 obtain⟨ρL,eL,oR,m0,Cl,hlf⟩:=OM (ρc:=BK ins) k1;have XS:=hlf;unfold Xz.pP at XS;cases hgleaf:g.leaf eL oR with
 |none=>rw[hgleaf] at XS;cases XS
 |some q=>
 obtain⟨as,B0⟩:=q;have iS:g.step C ins=some (as.map (·.den ρL),B0.map (·.den ρL)):=by
  unfold Xz.step;rw[Cl];simp only[hgleaf]
 have hT:(g.i.tree C).cv C.T (fun ρ ex st=>Im nv V.ρ ρ/\ex=eL/\st=oR/\as.map (·.den ρ)=as.map (·.den ρL)/\B0.map (·.den ρ)=B0.map (·.den ρL)) nv V.ρ:=fun ρ' hρ=>by
  refine Li (λm hm hr=>by
   unfold Xz.pP at hm;rw[hgleaf] at hm;simp only[Bj] at hm;exact⟨hρ,rfl,rfl,nc.cy hr hm.1,nc.cy hr hm.2⟩) k1 ?_ ho Cl
  ·intro j hj;have oE:=YX hj;rw[hρ j (show j<nv by omega)];show V0.ρ j=_;simp only[V0,v0,np,oE,if_true];rfl
 have HI:=μ E rfl rfl rfl rfl;have ack:=μ E0 rfl rfl rfl rfl;have hex:=YY (E0:=E0) C4 hC.il ack.2 g.i.n (i0 bs 0 g.i.s0.params) nv V.σ _ [] g.i.c g.i.st V a w (λx hx=>(by cases hx)) trivial HI.1 rfl Fo hT;refine wp_mono (JR hex) ?_;rintro e a' w' ⟨ex,cD,V',hx,φ,eC,hΦ⟩;obtain⟨acg,rfl,rfl,Ge,adj⟩:=hΦ V'.ρ (Im.refl _ _);obtain⟨vs2,Kp,cM,Jx,hA2,hw2⟩:=Xz.GP hgleaf;refine⟨as.map (·.den ρL),B0.map (·.den ρL),Kp.map (UI V'),iS,?_⟩;unfold Ih.leaf at cM;split at cM
 ·cases cM
 rename_i b0 sC;split at cM
 ·cases cM
 rename_i vs n8;split at cM
 ·cases cM
 rename_i LI ms hA;cases hb:(WB cD.rg ms&&Ui g.i.s0.params.length 0 g.i.s0.params vs ms&&g.i.cH.all (qP g.i.s0.params.length cD)&&Nat.beq cD.nt g.i.nt) with
 |false=>rw[hb] at cM;cases cM
 |true=>
 rw[hb,cond_true,Ai,Prod.mk.injEq] at cM;obtain⟨rfl,rfl⟩:=cM;simp only[Bj] at hb;have ab5:=Ca hb.2;replace hb:=hb.1;obtain⟨q1,q2⟩:=Pe eC n8;obtain⟨r1,-, -, -, -⟩:=Tn (E:=E) eC.s.m eC.s.t.ln hA (λv hv=>(q2 v hv).1) hb.1.1;obtain⟨u1,u2⟩:=XW (V:=V') hb.1.2;have hνp:∀(j:Nat) (p:Et),g.i.s0.params[j]? = some p->p.cp≠none->V'.ν j=bs.getD j (0,0):=λj p hp hn=>by
  have:=Xa (bs:=bs) (i:=0) hp hn;rw[KN] at this;exact(eC.kp _ this).2
 obtain⟨l1,l2,l3⟩:=TJ hP;obtain⟨y1,y2⟩:=Pe eC Jx;obtain⟨z1,-, -, -, -⟩:=Tn (E:=E) eC.s.m eC.s.t.ln hA2 (λv hv=>(y2 v hv).1) hw2;refine⟨?_,?_,?_,eC.s.m.an,eC.s.nt.trans ab5,eC.s.df,λt ht=>?_,λj t p hp hn ht=>?_,eC.s.m.gw⟩
 ·cases hx with
  |normal=>rfl
  |exit j=>
   simp only at sC;cases hj:Nat.beq j g.i.id with
   |false=>rw[hj] at sC;cases sC
   |true=>rw[hj] at sC;cases sC
  |ret=>cases sC
 ·rw[y1, <- adj];exact z1
 ·rw[q1, <- Ge];refine vB r1 l3 λj p hp hn=>?_
  rw[(u2 j p hp hn).1,KN,hνp j p hp hn]
 ·have h1:=Kh.1 hb.2 t ht;unfold qP at h1;split at h1
  ·rename_i j hj;have:=Ca h1;subst this;have bj:t<g.i.nt:=fV.1 (List.mem_filter.1 ht).1;obtain⟨g1,-, -⟩:=eC.s.t.tm t _ (by simp only[St.look,φ,lk];exact hj);rw[g1];show V'.σ (2*np+t)=_;rw[eC.ks (2*np+t) (show 2*np+t<nv by omega)];show(if 2*np+t<2*np then V0.σ (2*np+t) else a.tmps.getD (2*np+t-2*np) undef)=_;rw[if_neg (by omega),Nat.add_sub_cancel_left]
  ·cases h1
 ·have h1:=(u2 j p hp hn).2;rw[KN] at h1;have h2:a'.tmps.getD t undef=(FI np j p).den V':=by
   have e1:(g.i.ps.map λt=>a'.tmps.getD t undef)[j]? = some (a'.tmps.getD t undef):=by rw[Ng,ht];rfl
   rw[q1,Ng,h1] at e1;exact(WT e1).symm
  have h4:=aC (np:=np) (i:=0) hp;rw[KN] at h4;obtain⟨g1,g2,g3⟩:=j0.s.t.tm j (FI np j p) (by simp only[St.look,ZQ,lk];exact h4);have hj:j<args.length:=by have:=(Oa.1 hp).1;omega
  have h5:a.tmps.getD t undef=(FI np j p).den V0:=by
   rw[<- g1,YJ (xs:=args.toArray++_),Array.getElem?_append_left (by simpa using hj)];have:args[j]? = some (a.tmps.getD t undef):=by rw[<- eS,Ng,ht];rfl
   rw[List.getElem?_toArray (xs:=args),this];rfl
  rw[h2,h5];have bj:j<np:=by omega
  have hν:V'.ν j=V0.ν j:=by
   rw[hνp j p hp hn];have:=(j0.kp _ (by have:=Xa (bs:=bs) (i:=0) hp hn;rw[KN] at this;exact this)).2;exact this.symm
  have hρ:V'.ρ (np+j)=V0.ρ (np+j):=acg (np+j) (show np+j<nv by omega);have hσ:V'.σ j=V0.σ j:=by
   rw[eC.ks j (show j<nv by omega)];exact if_pos (show j<2*np by omega)
  cases p with
  |mem ks g wr=>simp only[FI,SV.aE,TV.aq,LV.cx,hν]
  |sl ks g wr=>simp only[FI,SV.aE,TV.aq,LV.cE,CX.ff,X.den,hν,hρ]
  |fL ks g wr=>simp only[FI,SV.aE,TV.aq,LV.den];exact hσ
  |int k=>exact absurd rfl hn
  |bool=>exact absurd rfl hn
  |agg ks=>exact absurd rfl hn
end
end Go.Proofs.YtkbfdaoohhmgoaaGreatDoor
