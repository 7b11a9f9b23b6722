/- The hash's block function by its contract is cpr. -/
import Derived.Test.YtkbfdaoohhmgoaaGreatDoorDe
import Derived.Test.YtkbfdaoohhmgoaaGreatDoorHc
import Derived.Test.YtkbfdaoohhmgoaaGreatDoorPe
namespace Go.Proofs.YtkbfdaoohhmgoaaGreatDoor
section
open Go
end
section
open Go Ma
end
section
open Go
structure Run (i:Ac) (C:Cx) (ins:List (List Int)) (p:Vc) (es:SY) (ρ:Bu):Prop where
 ar:∀j,j<i.s0.params.length->ρ j=ins.getD j []
 ds:Vg C.T ρ p.ds
 raw:∀(k:Nat) e,es[k]? = some e->i.raw C k ins=e.1.map (·.den ρ)
 ob:(∀q∈p.ob,q.den C.T ρ)->(∀c∈p.cs,∀ ρ',Im i.s0.params.length (BK ins) ρ'->Cv C.T c ρ')->Cv C.T (i.tree C) (BK ins)
 kn:∃hi,bi hi ρ p.K
def ALa(q:Vc->SY->Bool)(tr:Be)(C:Cx)(s0:Az)(cA:List ResultVar)(jn:List (Option (List Int))):Bool:=
 match X9 (pK 0 jn) tr with
 |some p=>Na s0.params.length (pK 0 jn) tr&&Nat.beq jn.length s0.params.length &&
  (match Ky C s0 cA p.st with
  |some es=>q p es
  |none=>false)
 |none=>false
theorem AJW{q:Vc->SY->Bool}{i:Ac}{C:Cx}{jn:List (Option (List Int))}(h:ALa q (i.tree C) C i.s0 i.cA jn=true){ins:List (List Int)}(hk:∀(j:Nat) (l:List Int),jn[j]? = some (some l)->ins.getD j []=l):
  ∃p es ρ,Run i C ins p es ρ/\q p es=true:=by
 unfold ALa at h;split at h
 ·rename_i p hl;simp only[Bj] at h;obtain⟨⟨h1,h3⟩,h6⟩:=h;have acU:=Ca h3;have hK0:bi i.s0.params.length (BK ins) (pK 0 jn):=λj l hj=>by
   obtain⟨k,e1,e2⟩:=WJ hj;rw[KN] at e1;subst e1;have bj:j<jn.length:=(Oa.1 e2).1;exact⟨by omega,hk j l e2⟩
  obtain⟨k1,k2,k3,k4,k5,k6⟩:=Rk (T:=C.T) (np:=i.s0.params.length) (ρ0:=BK ins) (ρ:=BK ins) (Ie _) (Im.refl _ _) hK0 h1 hl;split at h6
  ·rename_i es nh;refine⟨p,es,Df C.T (BK ins) p.ds,⟨λj hj=>by rw[k1 j hj];rfl,k2,λk e he=>?_,k6,k5⟩,h6⟩;unfold Ac.raw Ru;rw[k4];simp only[nh,he]
  ·cases h6
 ·cases h
def di(xs:List X)(n off k:Nat):Bool:=PX n off xs&&Nat.beq xs.length k
theorem Vn{ρ:Bu}{xs:List X}{n off k:Nat}(h:di xs n off k=true)(hl:off+k<=(ρ n).length):xs.map (·.den ρ)=((ρ n).drop off).take k:=by
 simp only[di,Bj] at h;have hn:=Ca h.2;rw[Yv h.1,hn];generalize ρ n=l at hl ⊢;apply List.ext_getElem?;intro j;by_cases hj:j<k
 ·have hj2:off+j<l.length:=by omega
  simp[hj,List.getD,hj2]
 ·rw[List.getElem?_eq_none (by simp;omega),List.getElem?_eq_none (by simp;omega)]
end
section
open Go
end
section
open Go
end
section
open Go Ma
def bA:Nat:=3533012425803781230144052908719740726127014226477800802100354883158534798213
end
end Go.Proofs.YtkbfdaoohhmgoaaGreatDoor
