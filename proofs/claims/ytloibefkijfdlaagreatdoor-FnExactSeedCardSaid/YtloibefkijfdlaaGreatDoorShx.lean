/- One block of the hash: it always ends well. The hash's block function owes nothing. -/
import Derived.Test.YtloibefkijfdlaaGreatDoorBc
import Derived.Test.YtloibefkijfdlaaGreatDoorBk6
import Derived.Test.YtloibefkijfdlaaGreatDoorDy
namespace Go.Proofs.YtloibefkijfdlaaGreatDoor
open Go
theorem t_blk:lpAll l_sha512_blockGeneric Cb_sha512_blockGeneric 8 80 80=true:=by kernel_rfl
end Go.Proofs.YtloibefkijfdlaaGreatDoor

namespace Go.Proofs.YtloibefkijfdlaaGreatDoor
open Go
def blkT(f:Nat):Option (List (Nat×Def)×List Obl×Ex×St)→Bool
 |some (_,[.pre g al],_,_)=>Nat.beq g f&&(match al.drop 8 with
  | .xs [.lit (.ofNat 0)]::_=>true
  |_=>false)
 |_=>false
theorem t_blk2:blkT (1000000+154) (lin (i_sha512_blockGeneric.tree C_sha512_blockGeneric))=true:=by kernel_rfl
theorem lo_blk:linOk i_sha512_blockGeneric.s0.params.length (i_sha512_blockGeneric.tree C_sha512_blockGeneric)=true:=by kernel_rfl
theorem lk_blk:lk (1000000+154) C_sha512_blockGeneric.T=some (.one (l_sha512_blockGeneric.sum Cb_sha512_blockGeneric (l_sha512_blockGeneric.pre Cb_sha512_blockGeneric))):=by kernel_rfl
theorem lp_pre{i:FnI}{C:Cx}{l:LpI}{Cb:Cx}{f n:Nat}(hl:lk f C.T=some (.one (l.sum Cb (l.pre Cb))))(ht:blkT f (lin (i.tree C))=true){np:Nat}(hk:linOk np (i.tree C)=true)(hq:8<l.s0.params.length)(ha:lpAll l Cb 8 n n=true)(hf:∀ a,l.fuel a=n+1)(ρ0:Env):evOb C.T (i.tree C) ρ0:=by
 unfold blkT at ht
 split at ht
 ·rename_i ds g al e st hlin
  simp only[baE] at ht
  have e1:=nbE ht.1
  subst e1
  obtain⟨k1,k2,k3,k4,k5⟩:=lin_ok (T:=C.T) (ρ:=ρ0) hk hlin
  refine k5 fun q hq'=> ?_
  rw[List.mem_singleton] at hq'
  subst hq'
  refine obl_pre hl rfl (LpI.sum_pre (LpI.pre_of (hf _) (lpAll_ok hq ha ?_ (by omega))))
  have h2:=ht.2
  split at h2
  ·rename_i r h8
   have h9:al[8]? = some (.xs [.lit (.ofNat 0)]):=by
    have:(al.drop 8)[0]? = some (.xs [.lit (.ofNat 0)]):=by rw[h8]; rfl
    rw[List.getElem?_drop] at this
    exact this
   rw[List.getD,List.getElem?_map,h9]
   show [(0:Int)]= [(n:Int)-(n:Int)]
   rw[Int.sub_self]
  ·cases h2
 ·cases ht
theorem blk_pre{T:Tb}(h:lk 154 T=some (.one s_sha512_blockGeneric))(args:List (List Int)):Pay T 154 args:=by
 have h1:=lp_pre (i:=i_sha512_blockGeneric) (C:=C_sha512_blockGeneric) (n:=80) lk_blk t_blk2 lo_blk (by decide) t_blk (fun _=>rfl) (insE args)
 exact⟨⟨_,h,h1⟩⟩
end Go.Proofs.YtloibefkijfdlaaGreatDoor
