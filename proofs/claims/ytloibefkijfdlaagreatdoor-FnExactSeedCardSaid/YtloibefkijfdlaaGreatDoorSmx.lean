/- A walk's path: its definitions at the values, its debts, its leaf. Two walks that compute the same. A private key that was parsed is the one of its seed. -/
import Derived.Test.YtloibefkijfdlaaGreatDoorBc
import Derived.Test.YtloibefkijfdlaaGreatDoorKy1
namespace Go.Proofs.YtloibefkijfdlaaGreatDoor
open Go
structure Run (i:FnI) (C:Cx) (ins:List (List Int)) (p:Pth) (es:Eqs) (ρ:Env):Prop where
 ar:∀ j,j<i.s0.params.length→ρ j=ins.getD j []
 ds:DsE C.T ρ p.ds
 raw:∀ (k:Nat) e,es[k]? = some e→i.raw C k ins=e.1.map (·.den ρ)
 ob:(∀ q∈p.ob,q.den C.T ρ)→(∀ c∈p.cs,∀ ρ',AgE i.s0.params.length (insE ins) ρ'→evOb C.T c ρ')→evOb C.T (i.tree C) (insE ins)
 kn:∃ hi,KOk hi ρ p.K
def runC(q:Pth→Eqs→Bool)(tr:Tree)(C:Cx)(s0:FSum)(rvs:List ResultVar)(kin:List (Option (List Int))):Bool:=
 match linK (kIn 0 kin) tr with
 |some p=>linKOk s0.params.length (kIn 0 kin) tr&&Nat.beq kin.length s0.params.length &&
  (match leafE C s0 rvs p.st with
  |some es=>q p es
  |none=>false)
 |none=>false
theorem runC_ok{q:Pth→Eqs→Bool}{i:FnI}{C:Cx}{kin:List (Option (List Int))}(h:runC q (i.tree C) C i.s0 i.rvs kin=true){ins:List (List Int)}(hk:∀ (j:Nat) (l:List Int),kin[j]? = some (some l)→ins.getD j []=l):
  ∃ p es ρ,Run i C ins p es ρ∧q p es=true:=by
 unfold runC at h
 split at h
 ·rename_i p hl
  simp only[baE] at h
  obtain⟨⟨h1,h3⟩,h6⟩:=h
  have hlen2:=nbE h3
  have hK0:KOk i.s0.params.length (insE ins) (kIn 0 kin):=fun j l hj=>by
   obtain⟨k,e1,e2⟩:=kIn_get hj
   rw[Nat.zero_add] at e1
   subst e1
   have hlt:j<kin.length:=(List.getElem?_eq_some_iff.1 e2).1
   exact⟨by omega,hk j l e2⟩
  obtain⟨k1,k2,k3,k4,k5,k6⟩:=linK_ok (T:=C.T) (np:=i.s0.params.length) (ρ0:=insE ins) (ρ:=insE ins) (Nat.le_refl _) (AgE.refl _ _) hK0 h1 hl
  split at h6
  ·rename_i es hes
   refine⟨p,es,upds C.T (insE ins) p.ds,⟨fun j hj=>by rw[k1 j hj]; rfl,k2,fun k e he=> ?_,k6,k5⟩,h6⟩
   unfold FnI.raw rawT
   rw[k4]
   simp only[hes,he]
  ·cases h6
 ·cases h
def runOf(xs:List X)(n off k:Nat):Bool:=isRun n off xs&&Nat.beq xs.length k
theorem runOf_ok{ρ:Env}{xs:List X}{n off k:Nat}(h:runOf xs n off k=true)(hl:off+k≤(ρ n).length):xs.map (·.den ρ)=((ρ n).drop off).take k:=by
 simp only[runOf,baE] at h
 have hn:=nbE h.2
 rw[run_den h.1,hn]
 generalize ρ n=l at hl ⊢
 apply List.ext_getElem?
 intro j
 by_cases hj:j<k
 ·have hj2:off+j<l.length:=by omega
  simp[hj,List.getD,hj2]
 ·rw[List.getElem?_eq_none (by simp; omega),List.getElem?_eq_none (by simp; omega)]
end Go.Proofs.YtloibefkijfdlaaGreatDoor

namespace Go.Proofs.YtloibefkijfdlaaGreatDoor
open Go
end Go.Proofs.YtloibefkijfdlaaGreatDoor

namespace Go.Proofs.YtloibefkijfdlaaGreatDoor
open Go
end Go.Proofs.YtloibefkijfdlaaGreatDoor
