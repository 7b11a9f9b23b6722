/- blockGeneric on any number of blocks: one round. blockGeneric on any number of blocks: one round. blockGeneric on any number of blocks: a whole round. blockGeneric on any number of blocks: a whole round, joined. blockGeneric on any number of blocks: the test, and the cutting of the slice. blockGeneric on any number of blocks: the loop. blockGeneric on any number of blocks: the whole function. -/
import Derived.Test.YtloibefkijfdlaaGreatDoorHb1
import Derived.Test.YtloibefkijfdlaaGreatDoorLa
namespace Go.Proofs.YtloibefkijfdlaaGreatDoor
open Go
end Go.Proofs.YtloibefkijfdlaaGreatDoor

namespace Go.Proofs.YtloibefkijfdlaaGreatDoor
open Go
noncomputable def s1(h:List Int):List (List Int):=match g1.step C0B [h] with
 |some r=>r.2
 |none=> []
noncomputable def s3(h:List (List Int)):List (List Int)×List (List Int):=match g3.step C0B h with
 |some r=>r
 |none=>([],[])
noncomputable def s4(v:List (List Int))(ws blk:List Int):List (List Int):=match g4.step C4B (v ++ [ws,blk]) with
 |some r=>r.1
 |none=> []
noncomputable def sA(k:Nat)(x y:List Int):List Int:=match (gA k).step C0B [x,y] with
 |some r=>r.1.getD 0 []
 |none=> []
noncomputable def xS(h:List (List Int))(ws blk:List Int):List (List Int)×List Int:=
 let v:=s4 (s3 h).2 ws blk
 ((List.range 8).map fun k=>sA k ((s3 h).1.getD k []) (v.getD k []),v.getD 8 [])
def IV(v:Value)(xs:List Int):Prop:=∃ x,xs= [x]∧v= .int .u64 x∧inR .u64 x
section
variable{GB:Nat}{GC:Nat→Nat→Option Value}{ad:Nat→Nat×Nat}(hG:GOk GB GC ad)
include hG
end
section
variable{GB:Nat}{GC:Nat→Nat→Option Value}{ad:Nat→Nat×Nat}
end
end Go.Proofs.YtloibefkijfdlaaGreatDoor

namespace Go.Proofs.YtloibefkijfdlaaGreatDoor
open Go
section
variable{GB:Nat}{GC:Nat→Nat→Option Value}{ad:Nat→Nat×Nat}
end
end Go.Proofs.YtloibefkijfdlaaGreatDoor

namespace Go.Proofs.YtloibefkijfdlaaGreatDoor
open Go
section
variable{GB:Nat}{GC:Nat→Nat→Option Value}{ad:Nat→Nat×Nat}
end
end Go.Proofs.YtloibefkijfdlaaGreatDoor

namespace Go.Proofs.YtloibefkijfdlaaGreatDoor
open Go
def opsOf:Code→Array Oper
 | .region _ o _=>o
 |_=> #[]
noncomputable def ga(k i:Nat):=match (opsOf (rB k)).toList[i]? with
 |some o=>o.after
 |none=> #[]
end Go.Proofs.YtloibefkijfdlaaGreatDoor

namespace Go.Proofs.YtloibefkijfdlaaGreatDoor
open Go
noncomputable def bks:Nat→List (List Int)→List Int→List Int→List (List Int)
 |0,h,_,_=>h
 |n+1,h,ws,xs=>bks n (xS h ws (xs.take 128)).1 (xS h ws (xs.take 128)).2 (xs.drop 128)
theorem MemI.take{f:Bool}{w:World}{b:Nat×Nat}{n m:Nat}{xs:List Int}(h:MemI f w b (List.replicate m .u8) xs)(hn:n≤m):MemI f w b (List.replicate n .u8) (xs.take n):=by
 obtain⟨⟨h1,h2⟩,h3⟩:=h
 rw[List.length_replicate] at h1
 have hk:∀ {i:Nat} {k:IntKind},(List.replicate n IntKind.u8)[i]? = some k→i<n∧(List.replicate m IntKind.u8)[i]? = some k:=fun {i k} hi=>by
  rw[List.getElem?_replicate] at hi ⊢
  split at hi
  ·rename_i hlt
   exact⟨hlt,by rw[if_pos (by omega)]; exact hi⟩
  ·cases hi
 refine⟨⟨by rw[List.length_take,List.length_replicate]; omega,fun i k x hi hx=> ?_⟩,fun i k x hi hx=> ?_⟩
 ·obtain⟨k1,k2⟩:=hk hi
  exact h2 i k x k2 (by rwa [List.getElem?_take_of_lt k1] at hx)
 ·obtain⟨k1,k2⟩:=hk hi
  exact h3 i k x k2 (by rwa [List.getElem?_take_of_lt k1] at hx)
theorem MemI.drop{f:Bool}{w:World}{b o n m:Nat}{xs:List Int}(h:MemI f w (b,o) (List.replicate m .u8) xs)(hn:n≤m):MemI f w (b,o+n) (List.replicate (m-n) .u8) (xs.drop n):=by
 obtain⟨⟨h1,h2⟩,h3⟩:=h
 rw[List.length_replicate] at h1
 have hk:∀ {i:Nat} {k:IntKind},(List.replicate (m-n) IntKind.u8)[i]? = some k→(List.replicate m IntKind.u8)[n+i]? = some k:=fun {i k} hi=>by
  rw[List.getElem?_replicate] at hi ⊢
  split at hi
  ·rw[if_pos (by omega)]; exact hi
  ·cases hi
 refine⟨⟨by rw[List.length_drop,List.length_replicate]; omega,fun i k x hi hx=> ?_⟩,fun i k x hi hx=> ?_⟩
 ·exact h2 (n+i) k x (hk hi) (by rwa [List.getElem?_drop] at hx)
 ·have:=h3 (n+i) k x (hk hi) (by rwa [List.getElem?_drop] at hx)
  rwa [← Nat.add_assoc] at this
theorem MemI.frm{f:Bool}{w w':World}{S:Nat→Nat→Prop}{b:Nat×Nat}{ks:List IntKind}{xs:List Int}(h:MemI f w b ks xs)(hf:Frm w w' S)(hn:∀ i,i<ks.length→¬ S b.1 (b.2+i)):MemI f w' b ks xs:=
 ⟨h.1,fun i k x hk hx=>hf.hasC (h.2 i k x hk hx) (hn i (List.getElem?_eq_some_iff.1 hk).1)⟩
section
variable{GB:Nat}{GC:Nat→Nat→Option Value}{ad:Nat→Nat×Nat}
end
end Go.Proofs.YtloibefkijfdlaaGreatDoor

namespace Go.Proofs.YtloibefkijfdlaaGreatDoor
open Go
theorem mem_new(w:World)(n:Nat)(k:IntKind)(e:TypeId)(h0:inR k 0):MemI true (w.alloc (.cells (Array.replicate n (.int k 0)) e)) (w.heap.size,0) (List.replicate n k) (List.replicate n 0):=by
 have hk:∀ (i:Nat) (k':IntKind) (x:Int),(List.replicate n k)[i]? = some k'→(List.replicate n (0:Int))[i]? = some x→i<n∧k'=k∧x=0:=fun i k' x h1 h2=>by
  rw[List.getElem?_replicate] at h1 h2
  split at h1
  ·rename_i hi
   rw[if_pos hi] at h2
   exact⟨hi,by simpa using h1.symm,by simpa using h2.symm⟩
  ·cases h1
 refine⟨⟨by simp,fun i k' x h1 h2=> ?_⟩,fun i k' x h1 h2=> ?_⟩
 ·obtain⟨_,rfl,rfl⟩:=hk i k' x h1 h2; exact h0
 ·obtain⟨hi,rfl,rfl⟩:=hk i k' x h1 h2
  refine HasC.of_obj (c:=Array.replicate n (.int k' 0)) (e:=e) (lo:=0) (hi:=0) ?_ ?_ (fun _=>by omega)
  ·show (w.heap.push _)[w.heap.size]? = _
   exact Array.getElem?_push_size
  ·rw[Nat.zero_add,Array.getElem?_replicate,if_pos hi]
theorem frm_alloc(w:World)(o:Obj)(S:Nat→Nat→Prop):Frm w (w.alloc o) S:=(Frm.refl w S).push (o:=o) rfl rfl rfl rfl
theorem IV.mem{w:World}{b:Nat×Nat}{n:Nat}{xs:List Int}(h:MemI true w b (List.replicate n .u64) xs):xs.length=n:=by
 have:=h.1.1; simpa using this
def wl(h:List Int):List (List Int):=h.map fun x=> [x]
def unwl(l:List (List Int)):List Int:=l.map fun x=>x.getD 0 0
noncomputable def blk(n:Nat)(h xs:List Int):List Int:=unwl (bks n (wl h) (List.replicate 80 0) xs)
section
variable{GB:Nat}{GC:Nat→Nat→Option Value}{ad:Nat→Nat×Nat}
end
end Go.Proofs.YtloibefkijfdlaaGreatDoor
