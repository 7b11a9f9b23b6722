/- The symbolic executor, part 29: trees whose dead ends are struck. -/
import Derived.Test.YtkbfdaoohhmgoaaGreatDoorSe28
namespace Go.Proofs.YtkbfdaoohhmgoaaGreatDoor
section
open Go
def evB(ds:List (Nat×FT))(ob:List I1):Be->Be
 | .bad n=>.bad n
 |t=>.ep ds ob t
theorem dQ{T:Tb}{Φ:Bu->Ex->St->Prop}{ds:List (Nat×FT)}{ob:List I1}{t:Be}{ρ:Bu}(h:(evB ds ob t).Holds T Φ ρ):(Be.ep ds ob t).Holds T Φ ρ:=by
 cases t with
 |bad n=>exact absurd h id
 |_=>exact h
def ji:Be->Be
 | .leaf e st=>.leaf e st
 | .ep ds ob t=>evB ds ob (ji t)
 | .br x t f=>AAH x (ji t) (ji f)
 | .gr f ar t e=>.gr f ar (ji t) (ji e)
 | .cN t k=>.cN t (ji k)
 | .bad n=>.bad n
theorem LY{T:Tb}{Φ:Bu->Ex->St->Prop}:∀ {t:Be} {ρ:Bu},(ji t).Holds T Φ ρ->t.Holds T Φ ρ
 | .leaf _ _,_,h=>h
 | .ep ds ob t,ρ,h=>λhd=>⟨(dQ h hd).1,LY (dQ h hd).2⟩
 | .br x t f,ρ,h=>⟨λhx=>LY ((KA h).1 hx),λhx=>LY ((KA h).2 hx)⟩
 | .gr f ar t e,ρ,h=>by
  unfold ji at h;unfold Be.Holds at h ⊢;split
  ·rename_i fe he;rw[he] at h;exact⟨λhx=>LY (h.1 hx),λhx=>LY (h.2 hx)⟩
  ·rename_i he;rw[he] at h;exact h
 | .cN t k,ρ,h=>⟨h.1,LY h.2⟩
 | .bad _,_,h=>h
theorem AEd{C:Cx}{n:Nat}{c:Code}{nt:Nat}{cA:List ResultVar}{cq:fP}{s0:Az}{hp:Bool}{pre:List (List Int)->Prop}
  {t:Be} (ht:∀(T:Tb) (Φ:Bu->Ex->St->Prop) (ρ:Bu),t.Holds T Φ ρ->(OC C n [] c (ZQ s0.params cq nt)).Holds T Φ ρ)
  (eM:Ua C.T (Uo C s0 cA) (mi s0.params.length) t=true) {hyp:List (List Int)->Prop}
  (mj:∀ins,J8 s0.params ins->hyp ins->Cv C.T t (BK ins)):
  Ze C n c nt cA cq (Kc s0 (Ru C s0 cA t) hp pre) hyp:=by
 intro ins ρ hI hy hρ;refine ht _ _ _ ?_;generalize hF:Ru C s0 cA t=F;obtain⟨ρL,oR,Cl⟩:=OA (ρc:=BK ins) eM;refine ME (ρL:=ρL) (oR:=oR) ?_ eM (λi hi=>?_) (mj ins hI hy) Cl
 ·intro ex st m hm hr eN;subst eN;have hs:∀ Ω,Ky C s0 cA st=some Ω->(Ω.all λe=>e.1.all (·.fY m))=true->(match Ky C (Kc s0 F hp pre) cA st with
    |some es=>Ro ρ ins es
    |none=>False):=fun Ω he fS=>by
   obtain⟨es,h1,h2⟩:=ZK (F:=F) (hp:=hp) (pre:=pre) he;rw[h1];refine h2 ins ρ λj e hj=>?_
   rw[KN, <- hF];unfold Ru;rw[Cl];simp only[he,hj];have hx:=Kh.1 fS e (MB hj);exact fT λx eg=>(X.cy hr (Kh.1 hx x eg)).symm
  cases ex with
  |exit id=>simp[Ua,Uo] at hm
  |normal=>
   simp only[Ua,Uo] at hm;split at hm
   ·rename_i Ω he;exact hs Ω he hm
   ·cases hm
  |ret=>
   simp only[Ua,Uo] at hm;split at hm
   ·rename_i Ω he;exact hs Ω he hm
   ·cases hm
 ·exact hρ i (YX hi)
def Ac.fx(i:Ac)(C:Cx):Be:=ji (i.tree C)
def Ac.fW(i:Ac)(C:Cx):Sj:=Ru C i.s0 i.cA (i.fx C)
def Ac.vi(i:Ac)(C:Cx):Bool:=Ua C.T (Uo C i.s0 i.cA) (mi i.s0.params.length) (i.fx C)&&Iu i.s0.outs 0 i.s0.params&&Nat.ble i.s0.params.length i.nt&&Nat.ble i.s0.params.length 500
theorem Ac.acZ{i:Ac}{P:Program}{C:Cx}{GB:Nat}{GC:Nat->Nat->Option Value}{ad:Nat->Nat×Nat}(hC:Ud P C GB GC){f:Nat}{fn:Func}(hf:P.funcs[f]? = some fn)(hb:fn.body=some i.c)(hn:fn.ntmps=i.nt)(hr:fn.results.toList=i.cA)
  (μ:∀E:En,E.P=P->E.C=C->E.GB=GB->E.GC=GC->Ip E i.c/\∀f i,lk f C.inl=some i->Ip E i.c) (gS:Q8 GC ad i.cq) (ia:∀x∈i.cq,(FY ad x.1).1<GB) (hk:i.vi C=true) {hp:Bool} {pre hyp:List (List Int)->Prop}
  (mj:∀ins,J8 i.s0.params ins->hyp ins->Cv C.T (i.fx C) (BK ins)):
  ∀(args:List Value) (ins:List (List Int)) (bs:List (Nat×Nat)) (w:World),GW GC w->GB<=w.heap.size->Jg GB w i.s0.params args ins bs->Ep i.s0.params bs->hyp ins->
   Calls P f args.toArray w λe w'=>∃fb vs,e= .returned (Od vs)/\Xw GC (Kc i.s0 (i.fW C) hp pre) args ins bs w fb vs w':=by
 unfold Ac.vi at hk;simp only[Bj] at hk;have ht:Ze C i.n i.c fn.ntmps fn.results.toList i.cq (Kc i.s0 (i.fW C) hp pre) hyp:=by
  rw[hn,hr];exact AEd (λ_ _ _=>LY) hk.1.1.1 mj
 have lB:Iu (Kc i.s0 (i.fW C) hp pre).outs 0 (Kc i.s0 (i.fW C) hp pre).params=true:=by
  have:∀(l:List (Nat×List IntKind×PF)) (k j:Nat) (ps:List Et),Iu (QE (i.fW C) k l) j ps=Iu l j ps:=by
   intro l k j ps
   induction ps generalizing j with
   |nil=>rfl
   | cons p ps ih=>
    have h2:∀(l:List (Nat×List IntKind×PF)) (k:Nat) (q:Nat×List IntKind->Bool),(QE (i.fW C) k l).any (λo=>q (o.1,o.2.1))=l.any λo=>q (o.1,o.2.1):=by
     intro l
     induction l with
     |nil=>intro k q;rfl
     |cons x r ihl=>intro k q;obtain⟨a,b,c⟩:=x;simp only[QE,List.any_cons,ihl]
    simp only[Iu,ih]
    congr 1
    split
    ·rename_i n _;exact h2 l k (λx=>Nat.beq x.1 j&&Nat.beq x.2.length n)
    ·rfl
  show Iu (QE (i.fW C) 0 i.s0.outs) 0 i.s0.params=true;rw[this];exact hk.1.1.2
 exact AKy hC hf hb μ lB gS ia (by rw[hn];exact Kv hk.1.2) (Kv hk.2) ht
end
section
open Go
def Ac.D0(i:Ac)(C:Cx)(pre:List (List Int)->Prop):Az:=Kc i.s0 (i.fW C) true pre
theorem Ac.adt{i:Ac}{P:Program}{C:Cx}{GB:Nat}{GC:Nat->Nat->Option Value}{ad:Nat->Nat×Nat}(hC:Ud P C GB GC){f:Nat}{fn:Func}(hf:P.funcs[f]? = some fn)(hb:fn.body=some i.c)(hn:fn.ntmps=i.nt)(hr:fn.results.toList=i.cA)
  (hl:C.loops= []) (gS:Q8 GC ad i.cq) (ia:∀x∈i.cq,(FY ad x.1).1<GB) (hk:i.vi C=true) {pre:List (List Int)->Prop} (Wb:∀ins,J8 i.s0.params ins->pre ins->Cv C.T (i.fx C) (BK ins)):Bv P GB GC f (.one (i.D0 C pre)):=
 Bv.one λargs ins bs w h1 h2 h3 h4 h5=>Ac.acZ (hyp:=pre) hC hf hb hn hr (λE _ hE _ _=>⟨Ip.of_nil (by rw[hE];exact hl) _,λ_ _ _=>Ip.of_nil (by rw[hE];exact hl) _⟩) gS ia hk Wb args ins bs w h1 h2 h3 h4 (h5 rfl)
end
section
open Go
def obX(T:Tb)(ρ:Bu):List I1->Prop->Prop
 | [],p=>p
 |q::r,p=>q.den T ρ/\obX T ρ r p
def Ji(T:Tb):Be->Bu->Prop
 | .leaf _ _,_=>True
 | .ep ds ob t,ρ=>obX T (Df T ρ ds) ob (Ji T t (Df T ρ ds))
 | .br x t f,ρ=>if x.den ρ=0 then Ji T f ρ else Ji T t ρ
 | .gr f ar t e,ρ=>match lk f T with
  |some fe=>cond (fe.j7 (ar.map (·.den ρ))) (Ji T t ρ) (Ji T e ρ)
  |none=>False
 | .cN t k,ρ=>Ji T t ρ/\Ji T k ρ
 | .bad _,_=>False
theorem sJ{T:Tb}{ρ:Bu}:∀ {ob:List I1} {p:Prop},obX T ρ ob p->(∀q∈ob,q.den T ρ)/\p
 | [],_,h=>⟨λ_ hq=>(nomatch hq),h⟩
 |_::_,_,h=>by
  obtain⟨h1,h2⟩:=sJ h.2;refine⟨λq hq=>?_,h2⟩;rcases G9.1 hq with rfl|hq
  ·exact h.1
  ·exact h1 q hq
theorem Dl{T:Tb}:∀ {t:Be} {ρ:Bu},Ji T t ρ->Cv T t ρ
 | .leaf _ _,_,_=>trivial
 | .ep _ _ _,_,h=>⟨(sJ h).1,Dl (sJ h).2⟩
 | .br x t f,ρ,h=>by
  unfold Ji at h;by_cases hx:x.den ρ=0
  ·rw[if_pos hx] at h;exact⟨λ_=>Dl h,λhn=>absurd hx hn⟩
  ·rw[if_neg hx] at h;exact⟨λhp=>absurd hp hx,λ_=>Dl h⟩
 | .gr f ar t e,ρ,h=>by
  unfold Ji at h;unfold Cv;split
  ·rename_i fe he;rw[he] at h;simp only at h;cases hc:fe.j7 (ar.map (·.den ρ)) with
   |true=>
    rw[hc] at h;exact⟨λ_=>Dl h,λhn=>by cases hn⟩
   |false=>
    rw[hc] at h;exact⟨λhn=>(by cases hn),λ_=>Dl h⟩
  ·rename_i he;rw[he] at h;exact h
 | .cN _ _,_,h=>⟨Dl h.1,Dl h.2⟩
 | .bad _,_,h=>h
def Ac.aaE(i:Ac)(C:Cx):Az:=Kc i.s0 (i.fW C) false (λ_=>True)
theorem Ac.okF{i:Ac}{P:Program}{C:Cx}{GB:Nat}{GC:Nat->Nat->Option Value}{ad:Nat->Nat×Nat}(hC:Ud P C GB GC){f:Nat}{fn:Func}(hf:P.funcs[f]? = some fn)(hb:fn.body=some i.c)(hn:fn.ntmps=i.nt)(hr:fn.results.toList=i.cA)
  (hl:C.loops= []) (gS:Q8 GC ad i.cq) (ia:∀x∈i.cq,(FY ad x.1).1<GB) (hk:i.vi C=true) (Wb:∀ins,J8 i.s0.params ins->Cv C.T (i.fx C) (BK ins)):Bv P GB GC f (.one (i.aaE C)):=
 Bv.one λargs ins bs w h1 h2 h3 h4 _=>Ac.acZ (hyp:=λ_=>True) hC hf hb hn hr (λE _ hE _ _=>⟨Ip.of_nil (by rw[hE];exact hl) _,λ_ _ _=>Ip.of_nil (by rw[hE];exact hl) _⟩) gS ia hk (λins hI _=>Wb ins hI) args ins bs w h1 h2 h3 h4 trivial
end
end Go.Proofs.YtkbfdaoohhmgoaaGreatDoor
