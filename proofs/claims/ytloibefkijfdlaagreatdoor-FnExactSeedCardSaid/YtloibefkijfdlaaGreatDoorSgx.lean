/- signWithDom: the pieces that the executor walks. signWithDom: the pieces, as steps of a walk. Contracts in plain words: a new scalar, 64 bytes as a scalar, multiples of the base point, a point's bytes. Walking by hand: operations of signing. signWithDom: the walk, for any message. signWithDom: the walk, for any message. (further) -/
import Derived.Test.YtloibefkijfdlaaGreatDoorDx
import Derived.Test.YtloibefkijfdlaaGreatDoorHb1
import Derived.Test.YtloibefkijfdlaaGreatDoorKy1
import Derived.Test.YtloibefkijfdlaaGreatDoorSax
import Derived.Test.YtloibefkijfdlaaGreatDoorWc
namespace Go.Proofs.YtloibefkijfdlaaGreatDoor
open Go
def kPK:List IntKind:=List.replicate 64 .u8++List.replicate 4 .u64++List.replicate 32 .u8
def cp(l:List Int)(o n:Nat):List Int:=(List.range n).map fun i=>l.getD (o+i) 0
end Go.Proofs.YtloibefkijfdlaaGreatDoor

namespace Go.Proofs.YtloibefkijfdlaaGreatDoor
open Go
section
variable{GB:Nat}{GC:Nat→Nat→Option Value}{ad:Nat→Nat×Nat}(hG:GOk GB GC ad)
include hG
end
theorem cp_len(l:List Int)(o n:Nat):(cp l o n).length=n:=by simp[cp]
theorem cp_app{l r:List Int}{n:Nat}(h:l.length=n):cp (l++r) 0 n=l:=by
 subst h
 unfold cp
 refine List.ext_getElem (by simp) fun i h1 h2=> ?_
 simp[List.getD,List.getElem?_append_left h2,h2]
section
variable{GB:Nat}{GC:Nat→Nat→Option Value}{ad:Nat→Nat×Nat}
end
end Go.Proofs.YtloibefkijfdlaaGreatDoor

namespace Go.Proofs.YtloibefkijfdlaaGreatDoor
open Go
theorem pre_one{f:Nat}{s:FSum}{ins:List (List Int)}(h:Pay [(f,.one s)] f ins):s.pre ins:=by
 obtain⟨s',h1,h2⟩:=h.pre
 have:lk f [(f,FE.one s)]=some (.one s):=by simp[lk]
 rw[this,osE] at h1
 subst h1
 exact h2
theorem lk_me{f:Nat}{s:FSum}:lk f [(f,FE.one s)]=some (.one s):=by simp[lk]
theorem rvs_pn{ins:List (List Int)}{v0 v1:Value}{fb:List (Nat×Nat)}{vs:List Value}(h:RVs ins [v0,v1] fb [.ptrP 0,.nilI] vs):vs= [v0,.nilIface]:=by
 match vs,h with
 | [a,b],h=>
  have h1:some v0=some a:=h.1
  have h2:b= .nilIface:=h.2.1
  rw[← Option.some.inj h1,h2]
theorem pre_two{f:Nat}{s:FSum}{a b:List Int}(h:Pay [(f,.one s)] f [a,b]):s.pre [a,b]:=pre_one h
structure OutP (GC:Nat→Nat→Option Value) (b o:Nat) (ks:List IntKind) (l:List Int) (v:Value) (w:World) (e:Ending) (w':World):Prop where
 ret:e= .returned v
 mem:MemI true w' (b,o) ks l
 frm:Frm w w' (fun b' _=>b'=b)
 gw:GW GC w'
section
variable{GB:Nat}{GC:Nat→Nat→Option Value}{ad:Nat→Nat×Nat}(hG:GOk GB GC ad){w:World}(hgw:GW GC w)(hGB:GB≤w.heap.size)
include hG hgw hGB
theorem out_gen{f:Nat}{s:FSum}{ks:List IntKind}{F:PF}{v0 v1:Value}{p0 p1:PSh}{x0 x1:List Int}{b0 b1:Nat×Nat}{r:List RSh}{rv:List Value}(hok:FEOk Tryz.prog GB GC f (.one s))(hp:s.params= [p0,p1])(hout:s.outs= [(0,ks,F)])(hret:s.ret=r)(h0:PM GB w p0 v0 x0 b0)(h1:PM GB w p1 v1 x1 b1)(hsep:PSep p0 p1 b0 b1)(hpre:s.pre [x0,x1])
  (hrv:∀ fb vs,RVs [x0,x1] [v0,v1] fb r vs→vs=rv):Calls Tryz.prog f #[v0,v1] w (OutP GC b0.1 b0.2 ks (F [x0,x1]) (wrapV rv) w):=by
 have _:=hG
 have hP:PMs GB w (FE.sel (.one s) true).params [v0,v1] [x0,x1] [b0,b1]:=by
  show PMs GB w s.params _ _ _
  rw[hp]; exact⟨h0,h1,trivial⟩
 have hS:PSeps (FE.sel (.one s) true).params [b0,b1]:=by
  show PSeps s.params _
  rw[hp]
  refine⟨fun x hx=> ?_,fun x hx=>(by cases hx),trivial⟩
  rw[List.zip_cons_cons,List.zip_nil_left,List.mem_singleton] at hx
  subst hx
  exact hsep
 refine (hok true [v0,v1] [x0,x1] [b0,b1] w hgw hGB hP hS (fun _=>hpre) rfl).mono fun e w' ⟨fb,vs,he,hq⟩=> ?_
 simp only[FE.sel] at hq
 have hr:=hq.ret
 rw[hret] at hr
 have hv:=hrv fb vs hr
 subst hv
 have hm:=hq.outs
 rw[hout] at hm
 refine⟨he,hm _ lmS,hq.frm.mono fun b i _ hS=> ?_,hq.gw⟩
 obtain⟨p,hp',e1,-, -⟩:=hS
 rw[hout,List.mem_singleton] at hp'
 subst hp'
 exact e1
end
end Go.Proofs.YtloibefkijfdlaaGreatDoor

namespace Go.Proofs.YtloibefkijfdlaaGreatDoor
open Go
section
variable{ρ:Operand→Value}{d:Option Tmp}{x y:Operand}{ty:TypeId}{pos:String}{af:Array Edge}{w:World}{b o:Nat}
theorem e_bs1{i:Int}(h:ρ x= .int .u8 i):(execOp ρ ⟨d,.buildSlice 22 1 #[(0,x)],ty,pos,af,none⟩).run Tryz.prog w= .ok (.value (.slice (some ⟨w.heap.size,0,none⟩) 1 1)) (w.alloc (.cells #[.int .u8 i] 5)):=by
 simp[execOp,go_sem,h]
theorem e_ext{u v:Value}(h:ρ x= .tuple #[u,v]):(execOp ρ ⟨d,.extract x 0,ty,pos,af,none⟩).run Tryz.prog w= .ok (.value u) w:=by
 simp[execOp,go_sem,h]
theorem e_ext1{u v:Value}(h:ρ x= .tuple #[u,v]):(execOp ρ ⟨d,.extract x 1,ty,pos,af,none⟩).run Tryz.prog w= .ok (.value v) w:=by
 simp[execOp,go_sem,h]
theorem e_nif(h:ρ x= .nilIface)(hy:ρ (.const .nilIface)= .nilIface):(execOp ρ ⟨d,.binOp .neq 45 x (.const .nilIface) 45,ty,pos,af,none⟩).run Tryz.prog w= .ok (.value (.bool false)) w:=by
 simp[execOp,go_sem,h,hy]
 trace_state
theorem e_s32(hx:ρ x= .pointer (some ⟨b,o,none⟩)):(execOp ρ ⟨d,.slice 48 x none none none,ty,pos,af,none⟩).run Tryz.prog w= .ok (.value (.slice (some ⟨b,o,none⟩) 32 32)) w:=by
 have hu:=run_underlying (w:=w) Tryz.underlying48
 simp only[execOp,hx,Option.map_none,Instr.sliceAt,Sem.run_bind,hu,Result.andThen_ok]
 simp[Instr.sliceBounds,Instr.sureAddr,go_sem]
end
end Go.Proofs.YtloibefkijfdlaaGreatDoor

namespace Go.Proofs.YtloibefkijfdlaaGreatDoor
open Go
def Msg(w:World)(v:Value)(xs:List Int):Prop:=∃ (ap:Option Addr) (c:Nat),v= .slice ap xs.length c∧xs.length≤c∧(∀ x∈xs,0≤x∧x≤255)∧(0<xs.length→∃ b o,ap=some ⟨b,o,none⟩∧b<w.heap.size∧∀ i,i<xs.length→w.cell? ⟨b,o+i,none⟩=some (.int .u8 (xs.getD i 0)))
section
variable{ρ:Operand→Value}{d:Option Tmp}{x:Operand}{ty:TypeId}{pos:String}{af:Array Edge}{w:World}
end
end Go.Proofs.YtloibefkijfdlaaGreatDoor

namespace Go.Proofs.YtloibefkijfdlaaGreatDoor
open Go
theorem gw_F{GB:Nat}{GC:Nat→Nat→Option Value}{ad:Nat→Nat×Nat}(_hG:GOk GB GC ad){w w':World}(h:GW GC w)(hf:Frm w w' (fun _ _=>False)):GW GC w':=fun b o v hv=>(hf.hasC (f:=false) ⟨h b o v hv,fun h=>(by cases h)⟩ (fun h=>h)).1
end Go.Proofs.YtloibefkijfdlaaGreatDoor
