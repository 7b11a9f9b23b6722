/- One block of the hash: it always ends well. -/
import Derived.Test.YtloibefkijfdlaaGreatDoorBk6
import Derived.Test.YtloibefkijfdlaaGreatDoorDy
namespace Go.Proofs.YtloibefkijfdlaaGreatDoor
section
open Go
theorem ARV:Yr AP AA 8 80 80=true:=by kernel_rfl
end
section
open Go
def AAs(f:Nat):Option (List (Nat×FR)×List JM×Ex×St)→Bool
 |some (_,[.pre g al],_,_)=>Nat.beq g f&&(match al.drop 8 with
  | .xs [.lit (.ofNat 0)]::_=>true
  |_=>false)
 |_=>false
theorem AOG:AAs (1000000+154) (gQ (Bq.tree BC))=true:=by kernel_rfl
theorem AMw:Lp Bq.s0.params.length (Bq.tree BC)=true:=by kernel_rfl
theorem AFP:lk (1000000+154) BC.T=some (.one (AP.sum AA (AP.pre AA))):=by kernel_rfl
theorem ANX{i:AQ}{C:Cx}{l:I7}{Cb:Cx}{f n:Nat}(hl:lk f C.T=some (.one (l.sum Cb (l.pre Cb))))(ht:AAs f (gQ (i.tree C))=true){np:Nat}(hk:Lp np (i.tree C)=true)(hq:8<l.s0.params.length)(ha:Yr l Cb 8 n n=true)(hf:∀ a,l.fuel a=n+1)(ρ0:Bl):Cn C.T (i.tree C) ρ0:=by
 unfold AAs at ht
 split at ht
 ·rename_i ds g al e st abY
  simp only[Bd] at ht;have e1:=CL ht.1;subst e1;obtain⟨k1,k2,k3,k4,k5⟩:=Pp (T:=C.T) (ρ:=ρ0) hk abY;refine k5 fun q hq'=>?_
  rw[Nc] at hq';subst hq';refine Zp hl rfl (I7.sum_pre (I7.pre_of (hf _) (dA hq ha ?_ (by omega))));have h2:=ht.2
  split at h2
  ·rename_i r h8
   have h9:al[8]? = some (.xs [.lit (.ofNat 0)]):=by
    have:(al.drop 8)[0]? = some (.xs [.lit (.ofNat 0)]):=by rw[h8];rfl
    rw[List.getElem?_drop] at this;exact this
   rw[List.getD,OX,h9];show [(0:Int)]= [(n:Int)-(n:Int)];rw[Int.sub_self]
  ·cases h2
 ·cases ht
theorem AJn{T:Tb}(h:lk 154 T=some (.one Er))(args:List (List Int)):OU T 154 args:=by
 have h1:=ANX (i:=Bq) (C:=BC) (n:=80) AFP AOG AMw (by decide) ARV (fun _=>rfl) (A8 args);exact⟨⟨_,h,h1⟩⟩
end
end Go.Proofs.YtloibefkijfdlaaGreatDoor
