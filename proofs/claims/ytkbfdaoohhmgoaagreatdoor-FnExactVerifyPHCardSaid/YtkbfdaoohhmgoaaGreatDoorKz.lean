/- The hash's block function by its contract is cpr: the value. -/
import Derived.Test.YtkbfdaoohhmgoaaGreatDoorFx
import Derived.Test.YtkbfdaoohhmgoaaGreatDoorWd
namespace Go.Proofs.YtkbfdaoohhmgoaaGreatDoor
section
open Go
end
section
open Go Ma
theorem ZE:∀(k n:Nat),Cm (cC k n)=((n%256^k:Nat):Int)
 |0,n=>by simp[cC,Cm,Nat.mod_one]
 |k+1,n=>by
  rw[cC,Cm,ZE k,kw,qI (256^k),Nat.mod_mul];omega
def hiE:Nat:=57896044618658097711785492504343953926634992332820282019728792003956564819968
theorem xU(P:Pt):S9 P=cC 32 (P.y.val+(bif Nat.beq (P.x.val%2) 1 then hiE else 0)):=by
 have hy:=P.y.isLt;have hP:(PP:Nat)<=hiE:=by decide +kernel
 have Bs:(256:Nat)^32=2*hiE:=by decide +kernel
 unfold S9;by_cases ho:P.x.val%2=1
 ·rw[if_pos ho,ho];show _=cC 32 (P.y.val+hiE);obtain⟨l1,l2⟩:=ACJ P.y;have hl:(sb (cC 32 P.y.val) 0 31 ++ [(cC 32 P.y.val).getD 31 0+128]).length=32:=by rw[NC,sN];rfl
  have:=jA (l:=sb (cC 32 P.y.val) 0 31 ++ [(cC 32 P.y.val).getD 31 0+128]) (n:=P.y.val+hiE) (λx hx=>?_) ?_
  ·rwa [hl] at this
  ·rcases qM.1 hx with h|h
   ·simp only[sb,Us] at h;obtain⟨i,hi,rfl⟩:=h;rw[KN,Vk (by have:=fV.1 hi;omega)];omega
   ·have:=NU.1 h;omega
  ·have e:=ZE 32 P.y.val;have e2:cC 32 P.y.val=sb (cC 32 P.y.val) 0 31 ++ [(cC 32 P.y.val).getD 31 0]:=by
    have h1:=oV (MO 32 P.y.val);rw[<- h1];have:sb (cC 32 P.y.val) 0 32=sb (cC 32 P.y.val) 0 31 ++ [(cC 32 P.y.val).getD 31 0]:=by
     unfold sb;rw[List.range_succ,List.map_append];simp
    rw[h1];rw[h1] at this;exact this
   rw[e2,SA,sN] at e;rw[SA,sN];simp only[Cm] at e ⊢;rw[Nat.mod_eq_of_lt (by omega)] at e;have wc:(256:Int)^31*128=(hiE:Int):=by decide +kernel
   generalize (cC 32 P.y.val).getD 31 0=t at *
   rw[Int.mul_zero,Mb] at e ⊢;rw[wK,wc,Int.natCast_add];omega
 ·rw[if_neg ho];have:Nat.beq (P.x.val%2) 1=false:=by
   cases hb:Nat.beq (P.x.val%2) 1 with
   |true=>exact absurd (Ca hb) ho
   |false=>rfl
  rw[this];rfl
theorem AJk{T:Tb}(h:lk 62 T=some (.one CO)){P:Pt}{l:List Int}(hP:R3 P l):gv T 62 0 [l]=S9 P:=by
 obtain⟨h1,h2,h3⟩:=AMe h hP;rw[xU];refine S6.cC ⟨h2,h1,?_⟩;rw[h3,Int.natCast_add]
 congr 1
 cases Nat.beq (P.x.val%2) 1<;>rfl
end
section
open Go Ma
section
variable(T:Tb)
variable{T}
end
end
section
open Go Ma
theorem ADO(P:Pt):(S9 P).length=32:=by rw[xU];exact MO _ _
end
end Go.Proofs.YtkbfdaoohhmgoaaGreatDoor
