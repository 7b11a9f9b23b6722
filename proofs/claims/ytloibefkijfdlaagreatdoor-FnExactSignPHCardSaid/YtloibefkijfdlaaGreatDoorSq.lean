/- The symbolic executor, part 29: trees whose dead ends are struck. -/
import Derived.Test.YtloibefkijfdlaaGreatDoorSe28
namespace Go.Proofs.YtloibefkijfdlaaGreatDoor
section
open Go
def evB(ds:List (Nat×FR))(ob:List JM):Bc→Bc
 | .bad n=>.bad n
 |t=>.evs ds ob t
theorem iY{T:Tb}{Φ:Bl→Ex→St→Prop}{ds:List (Nat×FR)}{ob:List JM}{t:Bc}{ρ:Bl}(h:(evB ds ob t).Holds T Φ ρ):(Bc.evs ds ob t).Holds T Φ ρ:=by
 cases t with
 |bad n=>exact absurd h id
 |_=>exact h
def kK:Bc→Bc
 | .leaf e st=>.leaf e st
 | .evs ds ob t=>evB ds ob (kK t)
 | .br x t f=>ABX x (kK t) (kK f)
 | .brc f ar t e=>.brc f ar (kK t) (kK e)
 | .chk t k=>.chk t (kK k)
 | .bad n=>.bad n
theorem ND{T:Tb}{Φ:Bl→Ex→St→Prop}:∀ {t:Bc} {ρ:Bl},(kK t).Holds T Φ ρ→t.Holds T Φ ρ
 | .leaf _ _,_,h=>h
 | .evs ds ob t,ρ,h=>fun hd=>⟨(iY h hd).1,ND (iY h hd).2⟩
 | .br x t f,ρ,h=>⟨fun hx=>ND ((Lb h).1 hx),fun hx=>ND ((Lb h).2 hx)⟩
 | .brc f ar t e,ρ,h=>by
  unfold kK at h;unfold Bc.Holds at h ⊢
  split
  ·rename_i fe he
   rw[he] at h;exact⟨fun hx=>ND (h.1 hx),fun hx=>ND (h.2 hx)⟩
  ·rename_i he
   rw[he] at h;exact h
 | .chk t k,ρ,h=>⟨h.1,ND h.2⟩
 | .bad _,_,h=>h
theorem AFH{C:Cx}{n:Nat}{c:Code}{nt:Nat}{rvs:List ResultVar}{gls:gY}{s0:Az}{hp:Bool}{pre:List (List Int)→Prop}
  {t:Bc} (ht:∀ (T:Tb) (Φ:Bl→Ex→St→Prop) (ρ:Bl),t.Holds T Φ ρ→(Pd C n [] c (cz s0.params gls nt)).Holds T Φ ρ)
  (hok:VR C.T (Va C s0 rvs) (oU s0.params.length) t=true) {hyp:List (List Int)→Prop}
  (hob:∀ ins,Ka s0.params ins→hyp ins→Cn C.T t (A8 ins)):
  aY C n c nt rvs gls (Lu s0 (SF C s0 rvs t) hp pre) hyp:=by
 intro ins ρ hI hy hρ
 refine ht _ _ _ ?_;generalize hF:SF C s0 rvs t=F;obtain⟨ρL,stL,hev⟩:=Pf (ρc:=A8 ins) hok;refine NK (ρL:=ρL) (stL:=stL) ?_ hok (fun i hi=>?_) (hob ins hI hy) hev
 ·intro ex st m hm hr hst
  subst hst;have hs:∀ φ,Lr C s0 rvs st=some φ→(φ.all fun e=>e.1.all (·.inM m))=true→(match Lr C (Lu s0 F hp pre) rvs st with
    |some es=>Sa ρ ins es
    |none=>False):=fun φ he hall=>by
   obtain⟨es,h1,h2⟩:=fA (F:=F) (hp:=hp) (pre:=pre) he;rw[h1];refine h2 ins ρ fun j e hj=>?_
   rw[NU, ← hF];unfold SF;rw[hev];simp only[he,hj];have hx:=Ll.1 hall e (OZ hj);exact fU fun x hx'=>(X.den_RM hr (Ll.1 hx x hx')).symm
  cases ex with
  |exit id=>simp[VR,Va] at hm
  |normal=>
   simp only[VR,Va] at hm
   split at hm
   ·rename_i φ he;exact hs φ he hm
   ·cases hm
  |ret=>
   simp only[VR,Va] at hm
   split at hm
   ·rename_i φ he;exact hs φ he hm
   ·cases hm
 ·exact hρ i (Zi hi)
def AQ.treet(i:AQ)(C:Cx):Bc:=kK (i.tree C)
def AQ.rawt(i:AQ)(C:Cx):TZ:=SF C i.s0 i.rvs (i.treet C)
def AQ.chkt(i:AQ)(C:Cx):Bool:=VR C.T (Va C i.s0 i.rvs) (oU i.s0.params.length) (i.treet C)&&J2 i.s0.outs 0 i.s0.params&&Nat.ble i.s0.params.length i.nt&&Nat.ble i.s0.params.length 500
theorem AQ.genT{i:AQ}{P:Program}{C:Cx}{GB:Nat}{GC:Nat→Nat→Option Value}{ad:Nat→Nat×Nat}(hC:Sb P C GB GC){f:Nat}{fn:Func}(hf:P.funcs[f]? = some fn)(hb:fn.body=some i.c)(hn:fn.ntmps=i.nt)(hr:fn.results.toList=i.rvs)
  (ι:∀ E:En,E.P=P→E.C=C→E.GB=GB→E.GC=GC→Ju E i.c∧∀ f i,lk f C.inl=some i→Ju E i.c) (hgl:SH GC ad i.gls) (hgb:∀ x∈i.gls,(Gw ad x.1).1<GB) (hk:i.chkt C=true) {hp:Bool} {pre hyp:List (List Int)→Prop}
  (hob:∀ ins,Ka i.s0.params ins→hyp ins→Cn C.T (i.treet C) (A8 ins)):
  ∀ (args:List Value) (ins:List (List Int)) (bs:List (Nat×Nat)) (w:World),GW GC w→GB≤w.heap.size→Kt GB w i.s0.params args ins bs→G8 i.s0.params bs→hyp ins→
   Calls P f args.toArray w fun e w'=>∃ fb vs,e= .returned (TU vs)∧Yp GC (Lu i.s0 (i.rawt C) hp pre) args ins bs w fb vs w':=by
 unfold AQ.chkt at hk;simp only[Bd] at hk;have ht:aY C i.n i.c fn.ntmps fn.results.toList i.gls (Lu i.s0 (i.rawt C) hp pre) hyp:=by
  rw[hn,hr];exact AFH (fun _ _ _=>ND) hk.1.1.1 hob
 have hwr:J2 (Lu i.s0 (i.rawt C) hp pre).outs 0 (Lu i.s0 (i.rawt C) hp pre).params=true:=by
  have:∀ (l:List (Nat×List IntKind×PF)) (k j:Nat) (ps:List GG),J2 (Q6 (i.rawt C) k l) j ps=J2 l j ps:=by
   intro l k j ps
   induction ps generalizing j with
   |nil=>rfl
   | cons p ps ih=>
    have h2:∀ (l:List (Nat×List IntKind×PF)) (k:Nat) (q:Nat×List IntKind→Bool),(Q6 (i.rawt C) k l).any (fun o=>q (o.1,o.2.1))=l.any fun o=>q (o.1,o.2.1):=by
     intro l
     induction l with
     |nil=>intro k q;rfl
     |cons x r ihl=>intro k q;obtain⟨a,b,c⟩:=x;simp only[Q6,List.any_cons,ihl]
    simp only[J2,ih]
    congr 1
    split
    ·rename_i n _
     exact h2 l k (fun x=>Nat.beq x.1 j&&Nat.beq x.2.length n)
    ·rfl
  show J2 (Q6 (i.rawt C) 0 i.s0.outs) 0 i.s0.params=true;rw[this];exact hk.1.1.2
 exact AKQ hC hf hb ι hwr hgl hgb (by rw[hn];exact Na hk.1.2) (Na hk.2) ht
end
section
open Go
def AQ.sumHT(i:AQ)(C:Cx)(pre:List (List Int)→Prop):Az:=Lu i.s0 (i.rawt C) true pre
theorem AQ.okHT{i:AQ}{P:Program}{C:Cx}{GB:Nat}{GC:Nat→Nat→Option Value}{ad:Nat→Nat×Nat}(hC:Sb P C GB GC){f:Nat}{fn:Func}(hf:P.funcs[f]? = some fn)(hb:fn.body=some i.c)(hn:fn.ntmps=i.nt)(hr:fn.results.toList=i.rvs)
  (hl:C.loops= []) (hgl:SH GC ad i.gls) (hgb:∀ x∈i.gls,(Gw ad x.1).1<GB) (hk:i.chkt C=true) {pre:List (List Int)→Prop} (hpd:∀ ins,Ka i.s0.params ins→pre ins→Cn C.T (i.treet C) (A8 ins)):Bp P GB GC f (.one (i.sumHT C pre)):=
 Bp.one fun args ins bs w h1 h2 h3 h4 h5=>AQ.genT (hyp:=pre) hC hf hb hn hr (fun E _ hE _ _=>⟨Ju.of_nil (by rw[hE];exact hl) _,fun _ _ _=>Ju.of_nil (by rw[hE];exact hl) _⟩) hgl hgb hk hpd args ins bs w h1 h2 h3 h4 (h5 rfl)
end
section
open Go
def obX(T:Tb)(ρ:Bl):List JM→Prop→Prop
 | [],p=>p
 |q::r,p=>q.den T ρ∧obX T ρ r p
def J9(T:Tb):Bc→Bl→Prop
 | .leaf _ _,_=>True
 | .evs ds ob t,ρ=>obX T (Dc T ρ ds) ob (J9 T t (Dc T ρ ds))
 | .br x t f,ρ=>if x.den ρ=0 then J9 T f ρ else J9 T t ρ
 | .brc f ar t e,ρ=>match lk f T with
  |some fe=>cond (fe.cnd (ar.map (·.den ρ))) (J9 T t ρ) (J9 T e ρ)
  |none=>False
 | .chk t k,ρ=>J9 T t ρ∧J9 T k ρ
 | .bad _,_=>False
theorem sU{T:Tb}{ρ:Bl}:∀ {ob:List JM} {p:Prop},obX T ρ ob p→(∀ q∈ob,q.den T ρ)∧p
 | [],_,h=>⟨fun _ hq=>(nomatch hq),h⟩
 |_::_,_,h=>by
  obtain⟨h1,h2⟩:=sU h.2;refine⟨fun q hq=>?_,h2⟩
  rcases J4.1 hq with rfl|hq
  ·exact h.1
  ·exact h1 q hq
theorem Dk{T:Tb}:∀ {t:Bc} {ρ:Bl},J9 T t ρ→Cn T t ρ
 | .leaf _ _,_,_=>trivial
 | .evs _ _ _,_,h=>⟨(sU h).1,Dk (sU h).2⟩
 | .br x t f,ρ,h=>by
  unfold J9 at h
  by_cases hx:x.den ρ=0
  ·rw[if_pos hx] at h;exact⟨fun _=>Dk h,fun hn=>absurd hx hn⟩
  ·rw[if_neg hx] at h;exact⟨fun hp=>absurd hp hx,fun _=>Dk h⟩
 | .brc f ar t e,ρ,h=>by
  unfold J9 at h;unfold Cn
  split
  ·rename_i fe he
   rw[he] at h;simp only at h
   cases hc:fe.cnd (ar.map (·.den ρ)) with
   |true=>
    rw[hc] at h;exact⟨fun _=>Dk h,fun hn=>by cases hn⟩
   |false=>
    rw[hc] at h;exact⟨fun hn=>(by cases hn),fun _=>Dk h⟩
  ·rename_i he
   rw[he] at h;exact h
 | .chk _ _,_,h=>⟨Dk h.1,Dk h.2⟩
 | .bad _,_,h=>h
def AQ.sumF(i:AQ)(C:Cx):Az:=Lu i.s0 (i.rawt C) false (fun _=>True)
theorem AQ.okF{i:AQ}{P:Program}{C:Cx}{GB:Nat}{GC:Nat→Nat→Option Value}{ad:Nat→Nat×Nat}(hC:Sb P C GB GC){f:Nat}{fn:Func}(hf:P.funcs[f]? = some fn)(hb:fn.body=some i.c)(hn:fn.ntmps=i.nt)(hr:fn.results.toList=i.rvs)
  (hl:C.loops= []) (hgl:SH GC ad i.gls) (hgb:∀ x∈i.gls,(Gw ad x.1).1<GB) (hk:i.chkt C=true) (hpd:∀ ins,Ka i.s0.params ins→Cn C.T (i.treet C) (A8 ins)):Bp P GB GC f (.one (i.sumF C)):=
 Bp.one fun args ins bs w h1 h2 h3 h4 _=>AQ.genT (hyp:=fun _=>True) hC hf hb hn hr (fun E _ hE _ _=>⟨Ju.of_nil (by rw[hE];exact hl) _,fun _ _ _=>Ju.of_nil (by rw[hE];exact hl) _⟩) hgl hgb hk (fun ins hI _=>hpd ins hI) args ins bs w h1 h2 h3 h4 trivial
end
end Go.Proofs.YtloibefkijfdlaaGreatDoor
