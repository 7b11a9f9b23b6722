/- The symbolic executor, part 29: trees whose dead ends are struck. -/
import Derived.Test.YtloibefkijfdlaaGreatDoorBk6
import Derived.Test.YtloibefkijfdlaaGreatDoorDy
import Derived.Test.YtloibefkijfdlaaGreatDoorNa
import Derived.Test.YtloibefkijfdlaaGreatDoorSe28
namespace Go.Proofs.YtloibefkijfdlaaGreatDoor
section
open Go
end
section
open Go
end
section
open Go
end
section
open Go
end
section
open Go
end
section
open Go
end
section
open Go
section
variable{GB:Nat}{GC:Nat->Nat->Option Value}{ad:Nat->Nat×Nat}
end
end
section
open Go
end
section
open Go
theorem AQi:W9 AU AL 8 80 80=true:=by kernel_rfl
end
section
open Go
def xI(f:Nat):Option (List (Nat×GG)×List JU×Ex×St)->Bool
 |some (_,[.pre g al],_,_)=>Nat.beq g f&&(match al.drop 8 with
  | .xs [.lit (.ofNat 0)]::_=>true
  |_=>false)
 |_=>false
theorem ALZ:xI (1000000+154) (Zk (Bp.tree A9))=true:=by kernel_rfl
theorem ALQ:LU Bp.s0.params.length (Bp.tree A9)=true:=by kernel_rfl
theorem ACp:lk (1000000+154) A9.T=some (.one (AU.sum AL (AU.pre AL))):=by kernel_rfl
theorem AKx{i:Ad}{C:Cx}{l:JJ}{Cb:Cx}{f n:Nat}(hl:lk f C.T=some (.one (l.sum Cb (l.pre Cb))))(ht:xI f (Zk (i.tree C))=true){np:Nat}(hk:LU np (i.tree C)=true)(hq:8<l.s0.params.length)(ha:W9 l Cb 8 n n=true)(hf:∀a,l.fuel a=n+1)(ρ0:Br):EY C.T (i.tree C) ρ0:=by
 unfold xI at ht;split at ht
 ·rename_i ds g al e st acC;simp only[Bl] at ht;have e1:=CR ht.1;subst e1;obtain⟨k1,k2,k3,k4,k5⟩:=OY (T:=C.T) (ρ:=ρ0) hk acC;refine k5 λq xj=>?_
  rw[NB] at xj;subst xj;refine Xn hl rfl (JJ.vf (JJ.Ax (hf _) (ZP hq ha ?_ (by omega))));have h2:=ht.2;split at h2
  ·rename_i r h8;have h9:al[8]? = some (.xs [.lit (.ofNat 0)]):=by
    have:(al.drop 8)[0]? = some (.xs [.lit (.ofNat 0)]):=by rw[h8];rfl
    rw[List.getElem?_drop] at this;exact this
   rw[List.getD,Ng,h9];show[(0:Int)]= [(n:Int)-(n:Int)];rw[Int.sub_self]
  ·cases h2
 ·cases ht
theorem AEH{T:Tb}(h:lk 154 T=some (.one Em))(args:List (List Int)):LM T 154 args:=by
 have h1:=AKx (i:=Bp) (C:=A9) (n:=80) ACp ALZ ALQ (by decide) AQi (λ_=>rfl) (Ce args);exact⟨⟨_,h,h1⟩⟩
end
end Go.Proofs.YtloibefkijfdlaaGreatDoor
