/- The reference's public key of a seed, by hand. -/
import Derived.Test.YtloibefkijfdlaaGreatDoorKz
import Derived.WalkMore
import Derived.Lib.ItoaLen
namespace Go.Proofs.YtloibefkijfdlaaGreatDoor
section
open Go Go.RowKit Go.Lib Ma
def XT:List IntKind:=List.replicate 32 .u8
section
variable{GB:Nat}{GC:Nat->Nat->Option Value}{ad:Nat->Nat×Nat}(hG:Gw GB GC ad){w:World}(ε:GW GC w)(δ:GB<=w.heap.size)
include hG ε δ
omit hG ε δ in
theorem qj{x:List Int}:Ql.raw Qg 0 [x]=sb x 0 32:=by kernel_rfl
theorem oW{b o c:Nat}{x:List Int}(hm:AQ false w (b,o) XT x)(hc:32<=c):Calls Tryz.prog 38 #[.slice (some ⟨b,o,none⟩) 32 c] w (AgP GC XT x w):=by
 have:=Vn (F:=λa=>BK 32 (Ql.raw Qg 0 a)) (ks:=XT) (args:=[.slice (some ⟨b,o,none⟩) 32 c]) (ins:=[x]) (bs:=[(b,o)]) ε δ (Y5 hG) rfl rfl ⟨⟨c,rfl,hc,hm,λh=>(by cases h)⟩,trivial⟩ pM (λh=>absurd (show false=true from h) (by decide));have hl:x.length=32:=hm.1.1;rw[qj,Ye hl,Bn hl] at this;exact this
end
section
variable{ρ:Operand->Value}{d:Option Tmp}{x y:Operand}{ty:TypeId}{pos:String}{af:Array Edge}{w:World}{b o:Nat}
theorem ALg:(execOp ρ ⟨d,.alloc 48,ty,pos,af,none⟩).run Tryz.prog w= .ok (.value (.pointer (some ⟨w.heap.size,0,none⟩))) (w.alloc (.cells (Array.replicate 32 (.int .u8 0)) 48)):=by
 simp[execOp,go_sem];rfl
end
theorem Jk{GB:Nat}{GC:Nat->Nat->Option Value}{ad:Nat->Nat×Nat}(hG:Gw GB GC ad){w w':World}(ε:GW GC w)(hf:BM w w' (λ_ _=>False))(δ:GB<=w.heap.size):GW GC w':=Ig hG ε (hf.mono (S':=λb _=>b=w.heap.size) λ_ _ _ h=>h.elim) δ
end
section
open Go Ma Go.RowKit Go.Lib Go.ChangeShapes Go.WideShapes
section
variable{GB:Nat}{GC:Nat->Nat->Option Value}{ad:Nat->Nat×Nat}(hG:Gw GB GC ad)
include hG
end
end
end Go.Proofs.YtloibefkijfdlaaGreatDoor
