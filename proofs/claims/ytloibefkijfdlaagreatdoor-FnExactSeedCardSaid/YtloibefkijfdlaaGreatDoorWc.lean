/- The hash over any bytes: the padding and the words, written out: checkSum. The hash over any bytes: Digest.Sum. -/
import Derived.Test.YtloibefkijfdlaaGreatDoorWb
namespace Go.Proofs.YtloibefkijfdlaaGreatDoor
open Go
section
variable{ρ:Operand→Value}{d:Option Tmp}{x y:Operand}{ty:TypeId}{pos:String}{af:Array Edge}{w:World}{b o:Nat}
end
theorem out8_len{h:List Int}(hl:h.length=8):(out8 h).length=64:=by
 match h,hl with
 | [a,b,c,d,e,f,g,i],_=>rfl
theorem sha_len(m:List Int):(sha m).length=64:=out8_len (hst_len _)
end Go.Proofs.YtloibefkijfdlaaGreatDoor

namespace Go.Proofs.YtloibefkijfdlaaGreatDoor
open Go
theorem intsV_at{ks:List IntKind}{xs:List Int}{i:Nat}{v:Value}(h:(intsV ks xs)[i]? = some v):∃ k x,ks[i]? = some k∧xs[i]? = some x∧v= .int k x:=by
 unfold intsV at h
 rw[List.getElem?_zipWith] at h
 split at h
 ·rename_i k x h1 h2
  exact⟨k,x,h1,h2,by simpa using h.symm⟩
 ·cases h
theorem MemI.vals{f:Bool}{w:World}{b o:Nat}{ks:List IntKind}{xs:List Int}(h:MemI f w (b,o) ks xs):∀ i v,(intsV ks xs)[i]? = some v→w.cell? ⟨b,o+i,none⟩=some v:=fun i v hv=>by
 obtain⟨k,x,h1,h2,rfl⟩:=intsV_at hv
 exact (h.2 i k x h1 h2).1
theorem intsV_len{ks:List IntKind}{xs:List Int}(h:xs.length=ks.length):(intsV ks xs).length=ks.length:=by simp[intsV,h]
theorem intsV_one{ks:List IntKind}{xs:List Int}:∀ v∈intsV ks xs,v.oneCell'=true:=fun v hv=>by
 obtain⟨i,hi,rfl⟩:=List.getElem_of_mem hv
 obtain⟨k,x,-, -, e⟩:=intsV_at (lgE hi)
 rw[e]; rfl
theorem mem_st{w:World}{b o:Nat}{ks:List IntKind}{xs:List Int}(hr:AllR ks xs)(hd:∀ j,j<ks.length→∃ u,HasC true w b (o+j) u):MemI true (w.setCells b o (intsV ks xs)) (b,o) ks xs:=by
 have hl:=intsV_len hr.1
 refine⟨hr,fun i k x hk hx=> ?_⟩
 have hi:i<ks.length:=(List.getElem?_eq_some_iff.1 hk).1
 have:=hasC_setCells_in (vs:=intsV ks xs) (w:=w) (b:=b) (o:=o) (i:=i) (fun j hj=>hd j (by omega)) (by omega)
 rwa [show (intsV ks xs).getD i undef= .int k x by simp[intsV,List.getD,List.getElem?_zipWith,hk,hx]] at this
theorem mem_newI(w:World)(ks:List IntKind)(xs:List Int)(e:TypeId)(hr:AllR ks xs):MemI true (w.alloc (.cells (intsV ks xs).toArray e)) (w.heap.size,0) ks xs:=by
 refine⟨hr,fun i k x hk hx=> ?_⟩
 refine HasC.of_obj (c:=(intsV ks xs).toArray) (e:=e) (lo:=0) (hi:=0) ?_ ?_ (fun _=>by omega)
 ·show (w.heap.push _)[w.heap.size]? = _
  exact Array.getElem?_push_size
 ·rw[Nat.zero_add,List.getElem?_toArray]
  simp[intsV,List.getElem?_zipWith,hk,hx]
theorem allR_of{ks:List IntKind}{xs:List Int}(h:(Nat.beq xs.length ks.length&&(List.zipWith inRb ks xs).all id)=true):AllR ks xs:=by
 simp only[baE] at h
 refine⟨nbE h.1,fun i k x hk hx=> ?_⟩
 have h2:=List.all_eq_true.1 h.2 (inRb k x) (lmG (i:=i) (by rw[List.getElem?_zipWith,hk,hx]))
 simp only[id,inRb,baE,decide_eq_true_eq] at h2
 exact h2
section
variable{ρ:Operand→Value}{d:Option Tmp}{x y:Operand}{ty:TypeId}{pos:String}{af:Array Edge}{w:World}{b o:Nat}
end
theorem MemI.ex{w:World}{b o:Nat}{ks:List IntKind}{xs:List Int}(h:MemI true w (b,o) ks xs):∀ j,j<ks.length→∃ u,HasC true w b (o+j) u:=fun j hj=>
 ⟨_,h.2 j ks[j] (xs[j]'(by rw[h.1.1]; exact hj)) (lgE hj) (lgE _)⟩
end Go.Proofs.YtloibefkijfdlaaGreatDoor
