/- The reference's public key of a seed, by hand. -/
import Derived.Test.YtkbfdaoohhmgoaaGreatDoorKz
import Derived.WalkMore
import Derived.Lib.ItoaLen
namespace Go.Proofs.YtkbfdaoohhmgoaaGreatDoor
section
open Go Go.RowKit Go.Lib Ma
def LU:List IntKind:=List.replicate 32 .u8
section
variable{GB:Nat}{GC:Nat->Nat->Option Value}{ad:Nat->Nat×Nat}(hG:GI GB GC ad){w:World}(ε:GW GC w)(δ:GB<=w.heap.size)
include hG ε δ
omit hG ε δ in
theorem vH{x:List Int}:Qi.raw Ql 0 [x]=sb x 0 32:=by kernel_rfl
theorem uT{b o c:Nat}{x:List Int}(hm:AO false w (b,o) LU x)(hc:32<=c):Calls Tryz.prog 16 #[.slice (some ⟨b,o,none⟩) 32 c] w (ql GC LU x w):=by
 have:=Mc (F:=λa=>BF 32 (Qi.raw Ql 0 a)) (ks:=LU) (args:=[.slice (some ⟨b,o,none⟩) 32 c]) (ins:=[x]) (bs:=[(b,o)]) ε δ (Y0 hG) rfl rfl ⟨⟨c,rfl,hc,hm,λh=>(by cases h)⟩,trivial⟩ Wx (λh=>absurd (show false=true from h) (by decide));have hl:x.length=32:=hm.1.1;rw[vH,oV hl,Ay hl] at this;exact this
theorem cz:Calls Tryz.prog 26 #[] w (ql GC MI (EL.raw CZ 0 []) w):=by
 have:=Mc (F:=λa=>BF 24 (EL.raw CZ 0 a)) (ks:=MI) (args:=[]) (ins:=[]) (bs:=[]) ε δ (WA hG) rfl rfl trivial trivial (λh=>absurd (show false=true from h) (by decide));rw[Ay Rx.len] at this;exact this
theorem WL{n p:List Int}{P:Pt}{E:Nat}(hn:EP U8 n)(hp:EP MI p)(h8:N8 n (E:Int))(hP:Pj p P):Calls Tryz.prog 25 #[.agg (AL U8 n).toArray,.agg (AL MI p).toArray] w (ql GC MI (EF.raw Bh 0 [n,p]) w):=by
 have:=Mc (F:=λa=>BF 24 (EF.raw Bh 0 a)) (ks:=MI) (args:=[.agg (AL U8 n).toArray,.agg (AL MI p).toArray]) (ins:=[n,p]) (bs:=[(0,0),(0,0)]) ε δ (XL hG) rfl rfl ⟨⟨hn,rfl⟩,⟨hp,rfl⟩,trivial⟩ (Z0 Wx) (λh=>absurd (show false=true from h) (by decide));rw[Ay (Sk h8 hP).len] at this;exact this
theorem pI{p:List Int}{P:Pt}(hp:EP MI p)(hP:Pj p P):Calls Tryz.prog 22 #[.agg (AL MI p).toArray] w (ql GC LU (S9 P) w):=by
 have:=Mc (F:=λa=>BF 32 (MU.raw GN 0 a)) (ks:=LU) (args:=[.agg (AL MI p).toArray]) (ins:=[p]) (bs:=[(0,0)]) ε δ (YP hG) rfl rfl ⟨⟨hp,rfl⟩,trivial⟩ Wx (λh=>absurd (show false=true from h) (by decide));rw[tY hP,Ay (ADO P)] at this;exact this
end
section
variable{ρ:Operand->Value}{d:Option Tmp}{x y:Operand}{ty:TypeId}{pos:String}{af:Array Edge}{w:World}{b o:Nat}
theorem rH:(execOp ρ ⟨d,.alloc 45,ty,pos,af,none⟩).run Tryz.prog w= .ok (.value (.pointer (some ⟨w.heap.size,0,none⟩))) (w.alloc (.cells (Array.replicate 32 (.int .u8 0)) 45)):=by
 simp[execOp,go_sem];rfl
end
theorem F4{GB:Nat}{GC:Nat->Nat->Option Value}{ad:Nat->Nat×Nat}(hG:GI GB GC ad){w w':World}(ε:GW GC w)(hf:BD w w' (λ_ _=>False))(δ:GB<=w.heap.size):GW GC w':=Fu hG ε (hf.mono (S':=λb _=>b=w.heap.size) λ_ _ _ h=>h.elim) δ
end
section
open Go Ma Go.RowKit Go.Lib Go.ChangeShapes Go.WideShapes
section
variable{GB:Nat}{GC:Nat->Nat->Option Value}{ad:Nat->Nat×Nat}(hG:GI GB GC ad)
include hG
end
end
end Go.Proofs.YtkbfdaoohhmgoaaGreatDoor
