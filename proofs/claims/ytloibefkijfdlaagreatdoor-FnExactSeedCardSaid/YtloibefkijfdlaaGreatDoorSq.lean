/- The symbolic executor, part 29: trees whose dead ends are struck. The symbolic executor, part 30: trimmed trees, with a condition of one's own. The symbolic executor, part 31: what is owed as a plain sentence; trimmed trees that owe nothing. -/
import Derived.Test.YtloibefkijfdlaaGreatDoorSe28
namespace Go.Proofs.YtloibefkijfdlaaGreatDoor
open Go
def evB(ds:List (Nat×Def))(ob:List Obl):Tree→Tree
 | .bad n=>.bad n
 |t=>.evs ds ob t
theorem evB_holds{T:Tb}{Φ:Env→Ex→St→Prop}{ds:List (Nat×Def)}{ob:List Obl}{t:Tree}{ρ:Env}(h:(evB ds ob t).Holds T Φ ρ):(Tree.evs ds ob t).Holds T Φ ρ:=by
 cases t with
 |bad n=>exact absurd h id
 |_=>exact h
def trim:Tree→Tree
 | .leaf e st=>.leaf e st
 | .evs ds ob t=>evB ds ob (trim t)
 | .br x t f=>mkBr x (trim t) (trim f)
 | .brc f ar t e=>.brc f ar (trim t) (trim e)
 | .chk t k=>.chk t (trim k)
 | .bad n=>.bad n
theorem trim_holds{T:Tb}{Φ:Env→Ex→St→Prop}:∀ {t:Tree} {ρ:Env},(trim t).Holds T Φ ρ→t.Holds T Φ ρ
 | .leaf _ _,_,h=>h
 | .evs ds ob t,ρ,h=>fun hd=>⟨(evB_holds h hd).1,trim_holds (evB_holds h hd).2⟩
 | .br x t f,ρ,h=>⟨fun hx=>trim_holds ((mkBr_holds h).1 hx),fun hx=>trim_holds ((mkBr_holds h).2 hx)⟩
 | .brc f ar t e,ρ,h=>by
  unfold trim at h
  unfold Tree.Holds at h ⊢
  split
  ·rename_i fe he
   rw[he] at h
   exact⟨fun hx=>trim_holds (h.1 hx),fun hx=>trim_holds (h.2 hx)⟩
  ·rename_i he
   rw[he] at h
   exact h
 | .chk t k,ρ,h=>⟨h.1,trim_holds h.2⟩
 | .bad _,_,h=>h
theorem auto_okT{C:Cx}{n:Nat}{c:Code}{nt:Nat}{rvs:List ResultVar}{gls:Gls}{s0:FSum}{hp:Bool}{pre:List (List Int)→Prop}
  {t:Tree} (ht:∀ (T:Tb) (Φ:Env→Ex→St→Prop) (ρ:Env),t.Holds T Φ ρ→(exec C n [] c (st0 s0.params gls nt)).Holds T Φ ρ)
  (hok:okT C.T (leafL C s0 rvs) (parM s0.params.length) t=true) {hyp:List (List Int)→Prop}
  (hob:∀ ins,InsOk s0.params ins→hyp ins→evOb C.T t (insE ins)):
  TreeOk C n c nt rvs gls (autoS s0 (rawT C s0 rvs t) hp pre) hyp:=by
 intro ins ρ hI hy hρ
 refine ht _ _ _ ?_
 generalize hF:rawT C s0 rvs t=F
 obtain⟨ρL,stL,hev⟩:=evT_some (ρc:=insE ins) hok
 refine okT_holds (ρL:=ρL) (stL:=stL) ?_ hok (fun i hi=> ?_) (hob ins hI hy) hev
 ·intro ex st m hm hr hst
  subst hst
  have hs:∀ es0,leafE C s0 rvs st=some es0→(es0.all fun e=>e.1.all (·.inM m))=true→(match leafE C (autoS s0 F hp pre) rvs st with
    |some es=>EqsH ρ ins es
    |none=>False):=fun es0 he hall=>by
   obtain⟨es,h1,h2⟩:=leafE_with (F:=F) (hp:=hp) (pre:=pre) he
   rw[h1]
   refine h2 ins ρ fun j e hj=> ?_
   rw[Nat.zero_add, ← hF]
   unfold rawT
   rw[hev]
   simp only[he,hj]
   have hx:=List.all_eq_true.1 hall e (lmG hj)
   exact List.map_congr_left fun x hx'=>(X.den_RM hr (List.all_eq_true.1 hx x hx')).symm
  cases ex with
  |exit id=>simp[okT,leafL] at hm
  |normal=>
   simp only[okT,leafL] at hm
   split at hm
   ·rename_i es0 he; exact hs es0 he hm
   ·cases hm
  |ret=>
   simp only[okT,leafL] at hm
   split at hm
   ·rename_i es0 he; exact hs es0 he hm
   ·cases hm
 ·exact hρ i (parM_in hi)
def FnI.treet(i:FnI)(C:Cx):Tree:=trim (i.tree C)
def FnI.rawt(i:FnI)(C:Cx):RawF:=rawT C i.s0 i.rvs (i.treet C)
def FnI.chkt(i:FnI)(C:Cx):Bool:=okT C.T (leafL C i.s0 i.rvs) (parM i.s0.params.length) (i.treet C)&&wrOuts i.s0.outs 0 i.s0.params&&Nat.ble i.s0.params.length i.nt&&Nat.ble i.s0.params.length 500
theorem FnI.genT{i:FnI}{P:Program}{C:Cx}{GB:Nat}{GC:Nat→Nat→Option Value}{ad:Nat→Nat×Nat}(hC:CxOk P C GB GC){f:Nat}{fn:Func}(hf:P.funcs[f]? = some fn)(hb:fn.body=some i.c)(hn:fn.ntmps=i.nt)(hr:fn.results.toList=i.rvs)
  (hcov:∀ E:En,E.P=P→E.C=C→E.GB=GB→E.GC=GC→Cov E i.c∧∀ f i,lk f C.inl=some i→Cov E i.c) (hgl:glsOk GC ad i.gls) (hgb:∀ x∈i.gls,(base ad x.1).1<GB) (hk:i.chkt C=true) {hp:Bool} {pre hyp:List (List Int)→Prop}
  (hob:∀ ins,InsOk i.s0.params ins→hyp ins→evOb C.T (i.treet C) (insE ins)):
  ∀ (args:List Value) (ins:List (List Int)) (bs:List (Nat×Nat)) (w:World),GW GC w→GB≤w.heap.size→PMs GB w i.s0.params args ins bs→PSeps i.s0.params bs→hyp ins→
   Calls P f args.toArray w fun e w'=>∃ fb vs,e= .returned (wrapV vs)∧PostF GC (autoS i.s0 (i.rawt C) hp pre) args ins bs w fb vs w':=by
 unfold FnI.chkt at hk
 simp only[baE] at hk
 have ht:TreeOk C i.n i.c fn.ntmps fn.results.toList i.gls (autoS i.s0 (i.rawt C) hp pre) hyp:=by
  rw[hn,hr]
  exact auto_okT (fun _ _ _=>trim_holds) hk.1.1.1 hob
 have hwr:wrOuts (autoS i.s0 (i.rawt C) hp pre).outs 0 (autoS i.s0 (i.rawt C) hp pre).params=true:=by
  have:∀ (l:List (Nat×List IntKind×PF)) (k j:Nat) (ps:List PSh),wrOuts (withO (i.rawt C) k l) j ps=wrOuts l j ps:=by
   intro l k j ps
   induction ps generalizing j with
   |nil=>rfl
   | cons p ps ih=>
    have h2:∀ (l:List (Nat×List IntKind×PF)) (k:Nat) (q:Nat×List IntKind→Bool),(withO (i.rawt C) k l).any (fun o=>q (o.1,o.2.1))=l.any fun o=>q (o.1,o.2.1):=by
     intro l
     induction l with
     |nil=>intro k q; rfl
     |cons x r ihl=>intro k q; obtain⟨a,b,c⟩:=x; simp only[withO,List.any_cons,ihl]
    simp only[wrOuts,ih]
    congr 1
    split
    ·rename_i n _
     exact h2 l k (fun x=>Nat.beq x.1 j&&Nat.beq x.2.length n)
    ·rfl
  show wrOuts (withO (i.rawt C) 0 i.s0.outs) 0 i.s0.params=true
  rw[this]; exact hk.1.1.2
 exact fn_ok hC hf hb hcov hwr hgl hgb (by rw[hn]; exact nbL hk.1.2) (nbL hk.2) ht
end Go.Proofs.YtloibefkijfdlaaGreatDoor

namespace Go.Proofs.YtloibefkijfdlaaGreatDoor
open Go
def FnI.sumHT(i:FnI)(C:Cx)(pre:List (List Int)→Prop):FSum:=autoS i.s0 (i.rawt C) true pre
theorem FnI.okHT{i:FnI}{P:Program}{C:Cx}{GB:Nat}{GC:Nat→Nat→Option Value}{ad:Nat→Nat×Nat}(hC:CxOk P C GB GC){f:Nat}{fn:Func}(hf:P.funcs[f]? = some fn)(hb:fn.body=some i.c)(hn:fn.ntmps=i.nt)(hr:fn.results.toList=i.rvs)
  (hl:C.loops= []) (hgl:glsOk GC ad i.gls) (hgb:∀ x∈i.gls,(base ad x.1).1<GB) (hk:i.chkt C=true) {pre:List (List Int)→Prop} (hpd:∀ ins,InsOk i.s0.params ins→pre ins→evOb C.T (i.treet C) (insE ins)):FEOk P GB GC f (.one (i.sumHT C pre)):=
 FEOk.one fun args ins bs w h1 h2 h3 h4 h5=>FnI.genT (hyp:=pre) hC hf hb hn hr (fun E _ hE _ _=>⟨Cov.of_nil (by rw[hE]; exact hl) _,fun _ _ _=>Cov.of_nil (by rw[hE]; exact hl) _⟩) hgl hgb hk hpd args ins bs w h1 h2 h3 h4 (h5 rfl)
end Go.Proofs.YtloibefkijfdlaaGreatDoor

namespace Go.Proofs.YtloibefkijfdlaaGreatDoor
open Go
def obX(T:Tb)(ρ:Env):List Obl→Prop→Prop
 | [],p=>p
 |q::r,p=>q.den T ρ∧obX T ρ r p
def evObX(T:Tb):Tree→Env→Prop
 | .leaf _ _,_=>True
 | .evs ds ob t,ρ=>obX T (upds T ρ ds) ob (evObX T t (upds T ρ ds))
 | .br x t f,ρ=>if x.den ρ=0 then evObX T f ρ else evObX T t ρ
 | .brc f ar t e,ρ=>match lk f T with
  |some fe=>cond (fe.cnd (ar.map (·.den ρ))) (evObX T t ρ) (evObX T e ρ)
  |none=>False
 | .chk t k,ρ=>evObX T t ρ∧evObX T k ρ
 | .bad _,_=>False
theorem obX_ok{T:Tb}{ρ:Env}:∀ {ob:List Obl} {p:Prop},obX T ρ ob p→(∀ q∈ob,q.den T ρ)∧p
 | [],_,h=>⟨fun _ hq=>(nomatch hq),h⟩
 |_::_,_,h=>by
  obtain⟨h1,h2⟩:=obX_ok h.2
  refine⟨fun q hq=> ?_,h2⟩
  rcases List.mem_cons.1 hq with rfl|hq
  ·exact h.1
  ·exact h1 q hq
theorem evObX_ok{T:Tb}:∀ {t:Tree} {ρ:Env},evObX T t ρ→evOb T t ρ
 | .leaf _ _,_,_=>trivial
 | .evs _ _ _,_,h=>⟨(obX_ok h).1,evObX_ok (obX_ok h).2⟩
 | .br x t f,ρ,h=>by
  unfold evObX at h
  by_cases hx:x.den ρ=0
  ·rw[if_pos hx] at h
   exact⟨fun _=>evObX_ok h,fun hn=>absurd hx hn⟩
  ·rw[if_neg hx] at h
   exact⟨fun hp=>absurd hp hx,fun _=>evObX_ok h⟩
 | .brc f ar t e,ρ,h=>by
  unfold evObX at h
  unfold evOb
  split
  ·rename_i fe he
   rw[he] at h
   simp only at h
   cases hc:fe.cnd (ar.map (·.den ρ)) with
   |true=>
    rw[hc] at h
    exact⟨fun _=>evObX_ok h,fun hn=>by cases hn⟩
   |false=>
    rw[hc] at h
    exact⟨fun hn=>(by cases hn),fun _=>evObX_ok h⟩
  ·rename_i he
   rw[he] at h
   exact h
 | .chk _ _,_,h=>⟨evObX_ok h.1,evObX_ok h.2⟩
 | .bad _,_,h=>h
def FnI.sumF(i:FnI)(C:Cx):FSum:=autoS i.s0 (i.rawt C) false (fun _=>True)
theorem FnI.okF{i:FnI}{P:Program}{C:Cx}{GB:Nat}{GC:Nat→Nat→Option Value}{ad:Nat→Nat×Nat}(hC:CxOk P C GB GC){f:Nat}{fn:Func}(hf:P.funcs[f]? = some fn)(hb:fn.body=some i.c)(hn:fn.ntmps=i.nt)(hr:fn.results.toList=i.rvs)
  (hl:C.loops= []) (hgl:glsOk GC ad i.gls) (hgb:∀ x∈i.gls,(base ad x.1).1<GB) (hk:i.chkt C=true) (hpd:∀ ins,InsOk i.s0.params ins→evOb C.T (i.treet C) (insE ins)):FEOk P GB GC f (.one (i.sumF C)):=
 FEOk.one fun args ins bs w h1 h2 h3 h4 _=>FnI.genT (hyp:=fun _=>True) hC hf hb hn hr (fun E _ hE _ _=>⟨Cov.of_nil (by rw[hE]; exact hl) _,fun _ _ _=>Cov.of_nil (by rw[hE]; exact hl) _⟩) hgl hgb hk (fun ins hI _=>hpd ins hI) args ins bs w h1 h2 h3 h4 trivial
end Go.Proofs.YtloibefkijfdlaaGreatDoor
