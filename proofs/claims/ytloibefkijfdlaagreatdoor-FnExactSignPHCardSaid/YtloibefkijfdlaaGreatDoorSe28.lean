/- The symbolic executor, part 28: pieces of code, told as rounds are, with further numbers that they leave in slots. -/
import Derived.Test.YtloibefkijfdlaaGreatDoorSb
namespace Go.Proofs.YtloibefkijfdlaaGreatDoor
open Go
structure XG where
 i:I7
 qs:List Nat
 es:List GG
def XG.leaf(g:XG)(e:Ex)(st:St):Option (List Iq×List Iq):=match g.i.leaf e st with
 | some (true,as)=>(match looks st g.qs with
  |some vs=>(match Py st g.es vs with
   |some (as2,ms2)=>bif WY st.rg ms2 then some (as,as2) else none
   |none=>none)
  |none=>none)
 |_=>none
def XG.leafB(g:XG)(m:Nat)(e:Ex)(st:St):Bool:=match g.leaf e st with
 |some (as,as2)=>as.all (·.inM m)&&as2.all (·.inM m)
 |none=>false
def XG.step(g:XG)(C:Cx)(ins:List (List Int)):Option (List (List Int)×List (List Int)):=
 match XR C.T (g.i.tree C) (A8 ins) with
 |some (ρ,e,st)=>(match g.leaf e st with
  |some (as,as2)=>some (as.map (·.den ρ),as2.map (·.den ρ))
  |none=>none)
 |none=>none
def XG.chk(g:XG)(C:Cx):Bool:=nD C.T (g.leafB) (oU g.i.s0.params.length) (g.i.tree C)&&J2 g.i.s0.outs 0 g.i.s0.params&&ACp g.i.s0.params g.i.s0.outs&&Nat.ble g.i.s0.params.length g.i.nt&&Nat.ble g.i.s0.params.length 500&&Nat.beq g.i.ps.length g.i.s0.params.length&&ACs g.i.ps&&g.i.ps.all (fun t=>Nat.blt t g.i.nt&&Tu t g.i.cl)
theorem XG.leaf_get{g:XG}{e:Ex}{st:St}{as as2:List Iq}(h:g.leaf e st=some (as,as2)):∃ vs2 ms2,g.i.leaf e st=some (true,as)∧looks st g.qs=some vs2∧Py st g.es vs2=some (as2,ms2)∧WY st.rg ms2=true:=by
 unfold XG.leaf at h
 split at h
 ·rename_i as' h1
  split at h
  ·rename_i vs h2
   split at h
   ·rename_i ahH ms2 h3
    cases hb:WY st.rg ms2 with
    |false=>rw[hb] at h;cases h
    |true=>
     rw[hb,cond_true,Am,Prod.mk.injEq] at h;obtain⟨rfl,rfl⟩:=h;exact⟨vs,ms2,h1,h2,h3,hb⟩
   ·cases h
  ·cases h
 ·cases h
section
variable{P:Program}{C:Cx}{GB:Nat}{GC:Nat→Nat→Option Value}(hC:Sb P C GB GC){g:XG}{ad:Nat→Nat×Nat}(hk:g.chk C=true)(hgl:SH GC ad g.i.gls)(hgb:∀ x∈g.i.gls,(Gw ad x.1).1<GB)
 (ι:∀ E:En,E.P=P→E.C=C→E.GB=GB→E.GC=GC→Ju E g.i.c∧∀ f j,lk f C.inl=some j→Ju E j.c)
include hC hk hgl hgb ι
theorem Nj{a:Act}{w:World}{ins:List (List Int)}{bs:List (Nat×Nat)}(ε:GW GC w)(δ:GB≤w.heap.size)(hP:Kt GB w g.i.s0.params (g.i.ps.map fun t=>a.tmps.getD t undef) ins bs)(hS:G8 g.i.s0.params bs)
  (hsz:a.tmps.size=g.i.nt) (hdf:a.defers= []) (ho:Cn C.T (g.i.tree C) (A8 ins)):
  g.i.c.wp P (fun e a' w'=>∃ r r2 bs2,g.step C ins=some (r,r2)∧e= .normal∧Kt GB w' g.es (g.qs.map fun t=>a'.tmps.getD t undef) r2 bs2∧Kt GB w' g.i.s0.params (g.i.ps.map fun t=>a'.tmps.getD t undef) r bs∧CV w w' (YP g.i.s0 bs)∧
   a'.tmps.size=g.i.nt∧a'.defers= []∧(∀ t,t∈g.i.keep→a'.tmps.getD t undef=a.tmps.getD t undef)∧
   (∀ (j t:Nat) (p:GG),g.i.s0.params[j]? = some p→p.reg≠none→g.i.ps[j]? = some t→a'.tmps.getD t undef=a.tmps.getD t undef)∧GW GC w') a w:=by
 unfold XG.chk at hk;simp only[Bd] at hk;obtain⟨⟨⟨⟨⟨⟨⟨k1,k2⟩,k3⟩,k4⟩,k5⟩,k6⟩,k7⟩,k8⟩:=hk;have hnt:=Na k4;have hnp:=Na k5;have hlen:=CL k6;have hE0:=hC.ok w (YP g.i.s0 bs) (i0 bs 0 g.i.s0.params) g.i.s0.params.length (fun j=>(g.i.ps.map fun t=>a.tmps.getD t undef).getD j undef) δ;have hS0:=kv (P:=P) (C:=C) (gls:=g.i.gls) (nt:=g.i.nt) hE0.gc ε δ hP hS k2 hgl hgb hnt hnp;generalize hargs:(g.i.ps.map fun t=>a.tmps.getD t undef)=args at hP hS0 hE0
 let np:=g.i.s0.params.length
 let V0:=v0 ad np args ins bs g.i.gls
 let V:Vl:= { V0 with σ:=fun j=>if j<2*np then V0.σ j else a.tmps.getD (j-2*np) undef }
 let nv:=2*np+g.i.nt
 let E0:En:=e0 P C GB GC g.i.s0 args bs w
 let E:En:=Ev E0 (i0 bs 0 g.i.s0.params) nv V.σ
 have hE:Qs E:=Qs.ev hE0 _ _ _;have hag:Ag (2*np) (Db (cz g.i.s0.params g.i.gls g.i.nt).rg) V0 V:=⟨fun _ _=>rfl,fun j hj=>if_pos hj,fun _ _=>rfl⟩;have hm0:=hS0.s.m.ag hag hS0.s.scp;have hargl:args.length=np:=by rw[← hargs,Vj,hlen]
 have hSt:Ho E g.i.st V a w:=by
  refine⟨⟨⟨hm0.rgs,hm0.one,hm0.sep,hm0.cov,hm0.frm,hm0.gw⟩,fun r hr lv hlv=>LV.lt_mono (show 2*np≤nv by omega) (fun _ h=>h) (hS0.s.scp r hr lv hlv),⟨fun t v hv=>?_,fun g l hg=>?_,fun p hp=>hS0.s.t.ln p hp⟩,hsz,hdf⟩,fun p hp=>?_,fun p hp=>hS0.kp p hp,fun _ _=>rfl,JP _⟩
  ·have hv':lk t (ABn np 0 g.i.ps g.i.s0.params++g.i.keep.map fun t=>(t,SV.any (2*np+t)))=some v:=hv
   rcases cZ hv' with ⟨j,p,h1,h2,h3⟩|h
   ·rw[NU] at h3;subst h3;have h4:=Z7 (np:=np) (i:=0) h2;rw[NU] at h4;obtain⟨g1,g2,g3⟩:=hS0.s.t.tm j (GL np j p) (by simp only[St.look,cz,lk];exact h4);have hj:j<args.length:=by have:=(Pi.1 h2).1;omega
    refine⟨?_,SV.ok_ag hag g3 g2,SV.lt_mono (show 2*np≤nv by omega) (fun _ h=>h) g3⟩;rw[SV.den_ag hag g3, ← g1,Ti,Ti,Array.getElem?_append_left (by simpa using hj)];have:args[j]? = some (a.tmps.getD t undef):=by rw[← hargs,OX,h1];rfl
    rw[List.getElem?_toArray (xs:=args),this,Ti];rfl
   ·obtain⟨h1,h2⟩:=dC h;subst h2;have hlt:t<g.i.nt:=by
     have:=(List.mem_filter.1 h1).1;exact fD.1 this
    refine⟨?_,trivial,?_⟩
    ·show _=(if 2*np+t<2*np then V0.σ (2*np+t) else a.tmps.getD (2*np+t-2*np) undef);rw[if_neg (by omega),Nat.add_sub_cancel_left]
    ·exact YA (show 2*np+t<nv by omega)
  ·exact hS0.s.t.gl g l hg
  ·exact zcg (hS0.ll p hp) (show 2*np≤nv by omega)
 obtain⟨ρL,eL,stL,m0,hev,hlf⟩:=Pg (ρc:=A8 ins) k1;have aaL:=hlf;unfold XG.leafB at aaL
 cases hgleaf:g.leaf eL stL with
 |none=>rw[hgleaf] at aaL;cases aaL
 |some q=>
 obtain⟨as,as2⟩:=q;have hstep:g.step C ins=some (as.map (·.den ρL),as2.map (·.den ρL)):=by
  unfold XG.step;rw[hev];simp only[hgleaf]
 have hT:(g.i.tree C).HoldsA C.T (fun ρ ex st=>Jt nv V.ρ ρ∧ex=eL∧st=stL∧as.map (·.den ρ)=as.map (·.den ρL)∧as2.map (·.den ρ)=as2.map (·.den ρL)) nv V.ρ:=fun ρ' hρ=>by
  refine NJ (fun m hm hr=>by
   unfold XG.leafB at hm;rw[hgleaf] at hm;simp only[Bd] at hm;exact⟨hρ,rfl,rfl,Args.den_RM hr hm.1,Args.den_RM hr hm.2⟩) k1 ?_ ho hev
  ·intro j hj
   have hj':=Zi hj;rw[hρ j (show j<nv by omega)];show V0.ρ j=_;simp only[V0,v0,np,hj',if_true];rfl
 have hcv:=ι E rfl rfl rfl rfl;have ab9:=ι E0 rfl rfl rfl rfl;have hex:=Zv (E0:=E0) hE0 hC.il ab9.2 g.i.n (i0 bs 0 g.i.s0.params) nv V.σ _ [] g.i.c g.i.st V a w (fun x hx=>(by cases hx)) trivial hcv.1 rfl hSt hT;refine wp_mono (Kg hex) ?_
 rintro e a' w' ⟨ex,st',V',hx,υ,hS',hΦ⟩
 obtain⟨ab3,rfl,rfl,hden,ac0⟩:=hΦ V'.ρ (Jt.refl _ _);obtain⟨vs2,ms2,hleaf,hv2,hA2,hw2⟩:=XG.leaf_get hgleaf;refine⟨as.map (·.den ρL),as2.map (·.den ρL),ms2.map (Ux V'),hstep,?_⟩;unfold I7.leaf at hleaf
 split at hleaf
 ·cases hleaf
 rename_i b0 hb0
 split at hleaf
 ·cases hleaf
 rename_i vs hvs
 split at hleaf
 ·cases hleaf
 rename_i as' ms hA
 cases hb:(WY st'.rg ms&&VW g.i.s0.params.length 0 g.i.s0.params vs ms&&g.i.keep.all (pq g.i.s0.params.length st')&&Nat.beq st'.nt g.i.nt) with
 |false=>rw[hb] at hleaf;cases hleaf
 |true=>
 rw[hb,cond_true,Am,Prod.mk.injEq] at hleaf;obtain⟨rfl,rfl⟩:=hleaf;simp only[Bd] at hb;have acb:=CL hb.2;replace hb:=hb.1;obtain⟨q1,q2⟩:=Qo hS' hvs;obtain⟨r1,-, -, -, -⟩:=Tv (E:=E) hS'.s.m hS'.s.t.ln hA (fun v hv=>(q2 v hv).1) hb.1.1;obtain⟨u1,u2⟩:=X5 (V:=V') hb.1.2;have hνp:∀ (j:Nat) (p:GG),g.i.s0.params[j]? = some p→p.reg≠none→V'.ν j=bs.getD j (0,0):=fun j p hp hn=>by
  have:=YF (bs:=bs) (i:=0) hp hn;rw[NU] at this;exact (hS'.kp _ this).2
 obtain⟨l1,l2,l3⟩:=UU hP;obtain⟨y1,y2⟩:=Qo hS' hv2;obtain⟨z1,-, -, -, -⟩:=Tv (E:=E) hS'.s.m hS'.s.t.ln hA2 (fun v hv=>(y2 v hv).1) hw2;refine⟨?_,?_,?_,hS'.s.m.frm,hS'.s.nt.trans acb,hS'.s.df,fun t ht=>?_,fun j t p hp hn ht=>?_,hS'.s.m.gw⟩
 ·cases hx with
  |normal=>rfl
  |exit j=>
   simp only at hb0
   cases hj:Nat.beq j g.i.id with
   |false=>rw[hj] at hb0;cases hb0
   |true=>rw[hj] at hb0;cases hb0
  |ret=>cases hb0
 ·rw[y1, ← ac0];exact z1
 ·rw[q1, ← hden];refine uM r1 l3 fun j p hp hn=>?_
  rw[(u2 j p hp hn).1,NU,hνp j p hp hn]
 ·have h1:=Ll.1 hb.2 t ht;unfold pq at h1
  split at h1
  ·rename_i j hj
   have:=CL h1;subst this;have hlt:t<g.i.nt:=fD.1 (List.mem_filter.1 ht).1;obtain⟨g1,-, -⟩:=hS'.s.t.tm t _ (by simp only[St.look,υ,lk];exact hj);rw[g1];show V'.σ (2*np+t)=_;rw[hS'.ks (2*np+t) (show 2*np+t<nv by omega)];show (if 2*np+t<2*np then V0.σ (2*np+t) else a.tmps.getD (2*np+t-2*np) undef)=_;rw[if_neg (by omega),Nat.add_sub_cancel_left]
  ·cases h1
 ·have h1:=(u2 j p hp hn).2;rw[NU] at h1;have h2:a'.tmps.getD t undef=(GL np j p).den V':=by
   have e1:(g.i.ps.map fun t=>a'.tmps.getD t undef)[j]? = some (a'.tmps.getD t undef):=by rw[OX,ht];rfl
   rw[q1,OX,h1] at e1;exact (SY e1).symm
  have h4:=Z7 (np:=np) (i:=0) hp;rw[NU] at h4;obtain⟨g1,g2,g3⟩:=hS0.s.t.tm j (GL np j p) (by simp only[St.look,cz,lk];exact h4);have hj:j<args.length:=by have:=(Pi.1 hp).1;omega
  have h5:a.tmps.getD t undef=(GL np j p).den V0:=by
   rw[← g1,Ti (xs:=args.toArray++_),Array.getElem?_append_left (by simpa using hj)];have:args[j]? = some (a.tmps.getD t undef):=by rw[← hargs,OX,ht];rfl
   rw[List.getElem?_toArray (xs:=args),this];rfl
  rw[h2,h5];have hlt:j<np:=by omega
  have hν:V'.ν j=V0.ν j:=by
   rw[hνp j p hp hn];have:=(hS0.kp _ (by have:=YF (bs:=bs) (i:=0) hp hn;rw[NU] at this;exact this)).2;exact this.symm
  have hρ:V'.ρ (np+j)=V0.ρ (np+j):=ab3 (np+j) (show np+j<nv by omega);have hσ:V'.σ j=V0.σ j:=by
   rw[hS'.ks j (show j<nv by omega)];exact if_pos (show j<2*np by omega)
  cases p with
  |mem ks g wr=>simp only[GL,SV.den_t,TV.den_l,LV.den_ptr,hν]
  |sl ks g wr=>simp only[GL,SV.den_t,TV.den_l,LV.den_sl,CX.den_n,X.den,hν,hρ]
  |slm ks g wr=>simp only[GL,SV.den_t,TV.den_l,LV.den];exact hσ
  |int k=>exact absurd rfl hn
  |bool=>exact absurd rfl hn
  |agg ks=>exact absurd rfl hn
end
end Go.Proofs.YtloibefkijfdlaaGreatDoor
