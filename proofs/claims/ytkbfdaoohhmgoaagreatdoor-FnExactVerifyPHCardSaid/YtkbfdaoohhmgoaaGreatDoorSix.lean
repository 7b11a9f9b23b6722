/- Copies of bytes; keys from seeds and from bytes. -/
import Derived.Test.YtkbfdaoohhmgoaaGreatDoorSgx
namespace Go.Proofs.YtkbfdaoohhmgoaaGreatDoor
section
open Go Go.RowKit Go.Lib
theorem HY{w w':World}{S:Nat->Nat->Prop}(h:Below w.heap.size w w'):BD w w' S:=by
 refine⟨h.size,λb x hx=>?_,?_⟩
 ·have hb:b<w.heap.size:=by
   rcases kz b w.heap.size with h2|h2
   ·exact h2
   ·simp[uM h2] at hx
  exact⟨x,by rw[h.block b hb];exact hx,.refl _ _⟩
 ·obtain⟨h1,h2,h3,_,_⟩:=h;exact⟨h1,h3,h2⟩
theorem Ku.nil{w:World}{v:Value}{xs:List Int}(hx:xs= []){ap:Option Addr}{c:Nat}(hv:v= .slice ap 0 c):Ku w v xs:=by
 subst hx;subst hv;exact⟨ap,c,rfl,Nat.zero_le _,λx hx=>(by cases hx),λh=>absurd h (Nat.lt_irrefl 0)⟩
theorem Ku.i6{w:World}{b o n c:Nat}{xs:List Int}(h:DD w b o xs)(hl:xs.length=n)(hc:n<=c):Ku w (.slice (some ⟨b,o,none⟩) n c) xs:=
 ⟨_,c,by rw[hl],by omega,h.1,λh0=>⟨b,o,rfl,h.lt h0,h.2⟩⟩
theorem Ku.an{w w':World}{v:Value}{xs:List Int}{S:Nat->Nat->Prop}(h:Ku w v xs)(hf:BD w w' S)(hS:∀b i,S b i->w.heap.size<=b):Ku w' v xs:=by
 obtain⟨ap,c,h1,h2,h3,h4⟩:=h;refine⟨ap,c,h1,h2,h3,λh0=>?_⟩;obtain⟨b,o,e,hb,hc⟩:=h4 h0;exact⟨b,o,e,qm hb hf.1,λi hi=>(hf.fk (f:=false) ⟨hc i hi,λh=>(by cases h)⟩ (λh=>by have:=hS b _ h;omega)).1⟩
theorem Ku.cr{w w':World}{v:Value}{xs:List Int}(h:Ku w v xs)(hf:BD w w' (λ_ _=>False)):Ku w' v xs:=h.an hf λ_ _ h=>h.elim
theorem Ku.has{w:World}{v:Value}{xs:List Int}(h:Ku w v xs)(h0:0<xs.length):∃b o c,v= .slice (some ⟨b,o,none⟩) xs.length c/\xs.length<=c/\DD w b o xs:=by
 obtain⟨ap,c,h1,h2,h3,h4⟩:=h;obtain⟨b,o,rfl,_,hc⟩:=h4 h0;exact⟨b,o,c,h1,h2,h3,hc⟩
theorem DD.Ks{w:World}{b o n:Nat}{xs:List Int}(h:DD w b o xs)(hl:xs.length=n):AO false w (b,o) (List.replicate n .u8) xs:=AJe hl h.1 λi hi=>⟨h.2 i (by omega),λh=>by cases h⟩
structure ClP (w:World) (xs:List Int) (e:Ending) (w':World):Prop where
 ret:∃v',e= .returned v'/\Ku w' v' xs
 an:BD w w' (λ_ _=>False)
set_option maxRecDepth 100000 in
set_option maxHeartbeats 2000000 in
theorem AAn(b o n c:Nat)(xs:List Int)(w:World)(hx:DD w b o xs)(hl:xs.length=n)(h0:0<n)(hn:n<=140737488355328):
  Calls Tryz.prog 13 #[.slice (some ⟨b,o,none⟩) n c] w (ClP w xs):=by
 obtain⟨i0,hi,F2,rL,rm⟩:=info_parts i8;have mx:=mixed;have t22:=Tryz.underlying22;have q22:∀(w:World) (a:Option Addr) (n c n' c':Nat),(binOp .eql 22 (.slice a n c) (.slice none n' c')).run Tryz.prog w= .ok (.bool a.isNone) w:=λw a n c n' c'=>Lib.run_eql_slice_nil w _ _ a n c n' c' t22
 have Z3:Below w.heap.size w (w.alloc (.cells #[] 5)):=(Below.refl _ w).alloc (Ie _) _;have nF:∀j u,(v8 xs)[j]? = some u->(w.alloc (.cells #[] 5)).cell? ((⟨b,o,none⟩:Addr).add j)=some u:=by
  intro j u hj;have h0:0<xs.length:=by have:=(Oa.1 hj).1;simp[v8] at this;omega
  exact(hx.below Z3 (hx.lt h0)).at j u hj
 have hr:=hx.1;clear hx
 go_enter Tryz.func13,Tryz.ntmps13
 go_wp2_with (at_builtin;refine wpList_append_own _ rfl _ _ 22 rfl w.heap.size 5 i0 (.int .u8 0) 1 1 t22 hi F2 rL rm rfl (by decide) _ _ _ rfl (World.ownsRow_made w #[] 0 (Ie _) (Nat.zero_le _) rfl) ⟨b,o,none⟩ n c (v8 xs) rfl (by simp[v8,hl]) nF VN (by unfold maxLen;omega) (by omega) (by simp) ?_;intro v' w1 τ aaP _;have hb:=fw aaP)
 obtain⟨b',c',rfl,j8,-, -,h8⟩:=Ya (xs:=xs) (by simpa using τ) h0 hr;clear τ aaP
 go_wp2
 go_ret
 exact⟨⟨_,rfl,Ku.i6 h8 hl j8⟩,HY hb⟩
set_option maxRecDepth 100000 in
theorem AAc(w:World):Calls Tryz.prog 13 #[.slice none 0 0] w (ClP w []):=by
 have t22:=Tryz.underlying22;have q22:∀(w:World) (a:Option Addr) (n c n' c':Nat),(binOp .eql 22 (.slice a n c) (.slice none n' c')).run Tryz.prog w= .ok (.bool a.isNone) w:=λw a n c n' c'=>Lib.run_eql_slice_nil w _ _ a n c n' c' t22
 go_enter Tryz.func13,Tryz.ntmps13
 go_wp2
 go_ret
 exact⟨⟨_,rfl,Ku.nil rfl rfl⟩,BD.refl _ _⟩
set_option maxRecDepth 100000 in
set_option maxHeartbeats 2000000 in
theorem vE(a:Addr)(c:Nat)(w:World):Calls Tryz.prog 13 #[.slice (some a) 0 c] w (ClP w []):=by
 obtain⟨i0,hi,F2,rL,rm⟩:=info_parts i8;have mx:=mixed;have t22:=Tryz.underlying22;have q22:∀(w:World) (a:Option Addr) (n c n' c':Nat),(binOp .eql 22 (.slice a n c) (.slice none n' c')).run Tryz.prog w= .ok (.bool a.isNone) w:=λw a n c n' c'=>Lib.run_eql_slice_nil w _ _ a n c n' c' t22
 go_enter Tryz.func13,Tryz.ntmps13
 go_wp2_with (at_builtin;refine wpList_append_own _ rfl _ _ 22 rfl w.heap.size 5 i0 (.int .u8 0) 1 1 t22 hi F2 rL rm rfl (by decide) _ _ _ rfl (World.ownsRow_made w #[] 0 (Ie _) (Nat.zero_le _) rfl) a 0 c [] rfl rfl (by intro j u hj;simp at hj) (by intro u hu;cases hu) (by unfold maxLen;omega) (by omega) (by simp) ?_;intro v' w1 τ aaP _;have hb:=fw aaP)
 obtain⟨a,c',rfl⟩:=ABG τ;clear τ aaP
 go_wp2
 go_ret
 exact⟨⟨_,rfl,Ku.nil rfl rfl⟩,HY hb⟩
theorem KR{w:World}{v:Value}{xs:List Int}(h:Ku w v xs)(hn:xs.length<=140737488355328)(hz:v= .slice none 0 0\/∃a n c,v= .slice (some a) n c):Calls Tryz.prog 13 #[v] w (ClP w xs):=by
 rcases Nat.eq_zero_or_pos xs.length with h0|h0
 ·have hx:xs= []:=HW h0;subst hx;obtain⟨ap,c,rfl,-, -, -⟩:=h;rcases hz with e|⟨a,n,c',e⟩
  ·rw[e];exact AAc w
  ·rw[e];cases e;exact vE a c w
 ·obtain⟨b,o,c,rfl,hc,h8⟩:=h.has h0;exact AAn b o _ c xs w h8 rfl h0 hn
end
section
open Go
section
variable{ρ:Operand->Value}{d:Option Tmp}{x y:Operand}{ty:TypeId}{pos:String}{af:Array Edge}{w:World}{b o:Nat}
end
section
variable{ρ:Operand->Value}{d:Option Tmp}{x y z:Operand}{ty:TypeId}{pos:String}{af:Array Edge}{w:World}
theorem Hr{g:Nat}{u v k:Value}(hF:ρ (.func g)= .func (.func g) #[] #[])(h:ρ x=u)(hy:ρ y=v)(hz:ρ z=k){at_:Array TypeId}(hc:∀(vs:Array Value) (w:World),(callFunc g vs).run Tryz.prog w= .ok (.enter g vs) w):(execOp ρ ⟨d,.call ⟨.value (.func g),#[x,y,z],at_⟩,ty,pos,af,none⟩).run Tryz.prog w= .ok (.enter g #[u,v,k]) w:=by
 simp[execOp,go_sem,h,hy,hz,hF,hc]
theorem jN{g:Nat}{p q:Operand}{u v k m n:Value}(hF:ρ (.func g)= .func (.func g) #[] #[])(h:ρ x=u)(hy:ρ y=v)(hz:ρ z=k)(hp:ρ p=m)(hq:ρ q=n){at_:Array TypeId}(hc:∀(vs:Array Value) (w:World),(callFunc g vs).run Tryz.prog w= .ok (.enter g vs) w):(execOp ρ ⟨d,.call ⟨.value (.func g),#[x,y,z,p,q],at_⟩,ty,pos,af,none⟩).run Tryz.prog w= .ok (.enter g #[u,v,k,m,n]) w:=by
 simp[execOp,go_sem,h,hy,hz,hp,hq,hF,hc]
end
section
variable{GB:Nat}{GC:Nat->Nat->Option Value}{ad:Nat->Nat×Nat}(hG:GI GB GC ad){w:World}(ε:GW GC w)(δ:GB<=w.heap.size)
include hG ε δ
end
end
section
open Go
section
variable{GB:Nat}{GC:Nat->Nat->Option Value}{ad:Nat->Nat×Nat}(hG:GI GB GC ad){w:World}(ε:GW GC w)(δ:GB<=w.heap.size)
include hG ε δ
end
section
variable{GB:Nat}{GC:Nat->Nat->Option Value}{ad:Nat->Nat×Nat}(hG:GI GB GC ad){w:World}(ε:GW GC w)(δ:GB<=w.heap.size)
include hG ε δ
end
end
section
open Go
section
variable{GB:Nat}{GC:Nat->Nat->Option Value}{ad:Nat->Nat×Nat}(hG:GI GB GC ad){w:World}(ε:GW GC w)(δ:GB<=w.heap.size)
include hG ε δ
end
end
section
open Go Go.RowKit Go.ChangeShapes Go.WideShapes
def AAK(w:World)(e:Ending)(w':World):Prop:=e= .returned (.bool true)/\Below w.heap.size w w'
set_option maxRecDepth 100000 in
theorem NA{H:Type}{enc:TypeId×Value->H}{W:World}{FY:Nat}{v:Value}{d:DataW H}{p:List MemPlace}(eJ:Value.okWide Tryz.prog W .any FY 22 v)(h:DataW.Trod enc Tryz.prog W 0 (λ_=>true) true 22 v d p):
  ∃a n c xs,v= .slice a n c/\Ku W v xs/\xs.length=n/\(v= .slice none 0 0\/∃a n c,v= .slice (some a) n c):=by
 rcases AJF Tryz.underlying22 Tryz.underlying5 (by kernel_rfl) eJ h with⟨rfl,_,_⟩|⟨a,n,c,zs,rfl,Kf,I0,hz,_,_,cR,hr,Mp⟩
 ·exact⟨none,0,0,[],rfl,Ku.nil rfl rfl,rfl,.inl rfl⟩
 ·have hl:(zs.take n).length=n:=by rw[Qw];omega
  refine⟨some a,n,c,zs.take n,rfl,?_,hl,.inr ⟨_,_,_,rfl⟩⟩;rcases Nat.eq_zero_or_pos n with h0|h0
  ·subst h0;exact Ku.nil rfl rfl
  ·obtain⟨b,o,s⟩:=a;have hs:s=none:=Mp (by omega);subst hs;refine Ku.i6 ⟨λx hx=>hr x (List.mem_of_mem_take hx),λi hi=>?_⟩ hl Kf;rw[hl] at hi;have:=cR i (by omega);rw[Addr.add_lit] at this;rw[this];simp[List.getD,hi]
section
variable{GB:Nat}{GC:Nat->Nat->Option Value}{ad:Nat->Nat×Nat}(hG:GI GB GC ad)
include hG
end
end
end Go.Proofs.YtkbfdaoohhmgoaaGreatDoor
