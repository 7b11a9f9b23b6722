/- Copies of bytes; keys from seeds and from bytes. -/
import Derived.Test.YtloibefkijfdlaaGreatDoorSgx
namespace Go.Proofs.YtloibefkijfdlaaGreatDoor
section
open Go Go.RowKit Go.Lib
theorem F9{w w':World}{S:Nat→Nat→Prop}(h:Below w.heap.size w w'):CV w w' S:=by
 refine⟨h.size,fun b x hx=>?_,?_⟩
 ·have hb:b<w.heap.size:=by
   rcases nG b w.heap.size with h2|h2
   ·exact h2
   ·simp[vR h2] at hx
  exact⟨x,by rw[h.block b hb];exact hx,.refl _ _⟩
 ·obtain⟨h1,h2,h3,_,_⟩:=h;exact⟨h1,h3,h2⟩
theorem JI.nil{w:World}{v:Value}{xs:List Int}(hx:xs= []){ap:Option Addr}{c:Nat}(hv:v= .slice ap 0 c):JI w v xs:=by
 subst hx;subst hv;exact⟨ap,c,rfl,Nat.zero_le _,fun x hx=>(by cases hx),fun h=>absurd h (Nat.lt_irrefl 0)⟩
theorem JI.of_has{w:World}{b o n c:Nat}{xs:List Int}(h:Fe w b o xs)(hl:xs.length=n)(hc:n≤c):JI w (.slice (some ⟨b,o,none⟩) n c) xs:=
 ⟨_,c,by rw[hl],by omega,h.1,fun h0=>⟨b,o,rfl,h.lt h0,h.2⟩⟩
theorem JI.frm{w w':World}{v:Value}{xs:List Int}{S:Nat→Nat→Prop}(h:JI w v xs)(hf:CV w w' S)(hS:∀ b i,S b i→w.heap.size≤b):JI w' v xs:=by
 obtain⟨ap,c,h1,h2,h3,h4⟩:=h;refine⟨ap,c,h1,h2,h3,fun h0=>?_⟩;obtain⟨b,o,e,hb,hc⟩:=h4 h0;exact⟨b,o,e,zcg hb hf.1,fun i hi=>(hf.hasC (f:=false) ⟨hc i hi,fun h=>(by cases h)⟩ (fun h=>by have:=hS b _ h;omega)).1⟩
theorem JI.frm0{w w':World}{v:Value}{xs:List Int}(h:JI w v xs)(hf:CV w w' (fun _ _=>False)):JI w' v xs:=h.frm hf fun _ _ h=>h.elim
theorem JI.has{w:World}{v:Value}{xs:List Int}(h:JI w v xs)(h0:0<xs.length):∃ b o c,v= .slice (some ⟨b,o,none⟩) xs.length c∧xs.length≤c∧Fe w b o xs:=by
 obtain⟨ap,c,h1,h2,h3,h4⟩:=h;obtain⟨b,o,rfl,_,hc⟩:=h4 h0;exact⟨b,o,c,h1,h2,h3,hc⟩
theorem Fe.memI{w:World}{b o n:Nat}{xs:List Int}(h:Fe w b o xs)(hl:xs.length=n):Ar false w (b,o) (List.replicate n .u8) xs:=AF8 hl h.1 fun i hi=>⟨h.2 i (by omega),fun h=>by cases h⟩
structure ClP (w:World) (xs:List Int) (e:Ending) (w':World):Prop where
 ret:∃ v',e= .returned v'∧JI w' v' xs
 frm:CV w w' (fun _ _=>False)
set_option maxRecDepth 100000 in
set_option maxHeartbeats 2000000 in
theorem ABM(b o n c:Nat)(xs:List Int)(w:World)(hx:Fe w b o xs)(hl:xs.length=n)(h0:0<n)(hn:n≤140737488355328):
  Calls Tryz.prog 34 #[.slice (some ⟨b,o,none⟩) n c] w (ClP w xs):=by
 obtain⟨i0,hi,hz0,hz1,hz2⟩:=info_parts i8;have mx:=mixed;have t22:=Tryz.underlying22;have q22:∀ (w:World) (a:Option Addr) (n c n' c':Nat),(binOp .eql 22 (.slice a n c) (.slice none n' c')).run Tryz.prog w= .ok (.bool a.isNone) w:=fun w a n c n' c'=>Lib.run_eql_slice_nil w _ _ a n c n' c' t22
 have ha1:Below w.heap.size w (w.alloc (.cells #[] 5)):=(Below.refl _ w).alloc (JP _) _;have hx1:∀ j u,(v8 xs)[j]? = some u→(w.alloc (.cells #[] 5)).cell? ((⟨b,o,none⟩:Addr).add j)=some u:=by
  intro j u hj
  have h0:0<xs.length:=by have:=(Pi.1 hj).1;simp[v8] at this;omega
  exact (hx.below ha1 (hx.lt h0)).at j u hj
 have hr:=hx.1;clear hx
 go_enter Tryz.func34,Tryz.ntmps34
 go_wp2_with (at_builtin;refine wpList_append_own _ rfl _ _ 22 rfl w.heap.size 5 i0 (.int .u8 0) 1 1 t22 hi hz0 hz1 hz2 rfl (by decide) _ _ _ rfl (World.ownsRow_made w #[] 0 (JP _) (Nat.zero_le _) rfl) ⟨b,o,none⟩ n c (v8 xs) rfl (by simp[v8,hl]) hx1 Vq (by unfold maxLen;omega) (by omega) (by simp) ?_;intro v' w1 ξ aaF _;have hb:=iw aaF)
 obtain⟨b',c',rfl,ω,-, -,h8⟩:=ZT (xs:=xs) (by simpa using ξ) h0 hr;clear ξ aaF
 go_wp2
 go_ret
 exact⟨⟨_,rfl,JI.of_has h8 hl ω⟩,F9 hb⟩
set_option maxRecDepth 100000 in
theorem ABo(w:World):Calls Tryz.prog 34 #[.slice none 0 0] w (ClP w []):=by
 have t22:=Tryz.underlying22;have q22:∀ (w:World) (a:Option Addr) (n c n' c':Nat),(binOp .eql 22 (.slice a n c) (.slice none n' c')).run Tryz.prog w= .ok (.bool a.isNone) w:=fun w a n c n' c'=>Lib.run_eql_slice_nil w _ _ a n c n' c' t22
 go_enter Tryz.func34,Tryz.ntmps34
 go_wp2
 go_ret
 exact⟨⟨_,rfl,JI.nil rfl rfl⟩,CV.refl _ _⟩
set_option maxRecDepth 100000 in
set_option maxHeartbeats 2000000 in
theorem uW(a:Addr)(c:Nat)(w:World):Calls Tryz.prog 34 #[.slice (some a) 0 c] w (ClP w []):=by
 obtain⟨i0,hi,hz0,hz1,hz2⟩:=info_parts i8;have mx:=mixed;have t22:=Tryz.underlying22;have q22:∀ (w:World) (a:Option Addr) (n c n' c':Nat),(binOp .eql 22 (.slice a n c) (.slice none n' c')).run Tryz.prog w= .ok (.bool a.isNone) w:=fun w a n c n' c'=>Lib.run_eql_slice_nil w _ _ a n c n' c' t22
 go_enter Tryz.func34,Tryz.ntmps34
 go_wp2_with (at_builtin;refine wpList_append_own _ rfl _ _ 22 rfl w.heap.size 5 i0 (.int .u8 0) 1 1 t22 hi hz0 hz1 hz2 rfl (by decide) _ _ _ rfl (World.ownsRow_made w #[] 0 (JP _) (Nat.zero_le _) rfl) a 0 c [] rfl rfl (by intro j u hj;simp at hj) (by intro u hu;cases hu) (by unfold maxLen;omega) (by omega) (by simp) ?_;intro v' w1 ξ aaF _;have hb:=iw aaF)
 obtain⟨a,c',rfl⟩:=AAp ξ;clear ξ aaF
 go_wp2
 go_ret
 exact⟨⟨_,rfl,JI.nil rfl rfl⟩,F9 hb⟩
theorem JJ{w:World}{v:Value}{xs:List Int}(h:JI w v xs)(hn:xs.length≤140737488355328)(hz:v= .slice none 0 0∨∃ a n c,v= .slice (some a) n c):Calls Tryz.prog 34 #[v] w (ClP w xs):=by
 rcases Nat.eq_zero_or_pos xs.length with h0|h0
 ·have hx:xs= []:=zbx h0;subst hx;obtain⟨ap,c,rfl,-, -, -⟩:=h
  rcases hz with e|⟨a,n,c',e⟩
  ·rw[e];exact ABo w
  ·rw[e]
   cases e
   exact uW a c w
 ·obtain⟨b,o,c,rfl,hc,h8⟩:=h.has h0;exact ABM b o _ c xs w h8 rfl h0 hn
end
section
open Go
def pk0:List Int:=List.replicate 100 0
noncomputable def Yw(x:List Int):List Int:=gv [(64,.one Br)] 64 0 [pk0,x]
theorem AQr:Br.params= [.mem aS 40 true,.sl (List.replicate 32 .u8) 0 false]:=by kernel_rfl
theorem APV:Br.outs= [(0,aS,fun a=>Aw 100 (Bu.raw AJ 0 a))]:=by kernel_rfl
theorem ANd:Br.ret= [.ptrP 0,.nilI]:=by kernel_rfl
theorem AL2:Br.pr 0= .l fun a=>Aw 100 (Bu.raw AJ 0 a):=rfl
theorem AFu(x:List Int):Yw x=Aw 100 (Bu.raw AJ 0 [pk0,x]):=by
 unfold Yw;rw[Bg UX,AL2];rfl
set_option maxRecDepth 100000 in
theorem AME(x:List Int):Br.pre [pk0,x]:=AAT (ALr UX pk0 x)
theorem AJo{ks js:List IntKind}{g g':Nat}{wr wr':Bool}{b c:Nat×Nat}(h:b.1≠c.1):YR (.mem ks g wr) (.sl js g' wr') b c:=fun _=>.inr (.inl h)
section
variable{ρ:Operand→Value}{d:Option Tmp}{x y:Operand}{ty:TypeId}{pos:String}{af:Array Edge}{w:World}{b o:Nat}
theorem zK:Tryz.zeroCells84=(AZ aS pk0).toArray:=by kernel_rfl
theorem APJ:(execOp ρ ⟨d,.build 84 #[],ty,pos,af,none⟩).run Tryz.prog w= .ok (.value (.agg (AZ aS pk0).toArray)) w:=by
 simp[execOp,go_sem,zK]
theorem AOI{cs:Array Value}(h:ρ x= .agg cs):(execOp ρ ⟨d,.box 84 x,ty,pos,af,none⟩).run Tryz.prog w= .ok (.value (.pointer (some ⟨w.heap.size,0,none⟩))) (w.alloc (.cells cs 84)):=by
 simp[execOp,go_sem,h]
end
section
variable{ρ:Operand→Value}{d:Option Tmp}{x y z:Operand}{ty:TypeId}{pos:String}{af:Array Edge}{w:World}
theorem Uz{g:Nat}{u v k:Value}(hF:ρ (.func g)= .func (.func g) #[] #[])(h:ρ x=u)(hy:ρ y=v)(hz:ρ z=k){at_:Array TypeId}(hc:∀ (vs:Array Value) (w:World),(callFunc g vs).run Tryz.prog w= .ok (.enter g vs) w):(execOp ρ ⟨d,.call ⟨.value (.func g),#[x,y,z],at_⟩,ty,pos,af,none⟩).run Tryz.prog w= .ok (.enter g #[u,v,k]) w:=by
 simp[execOp,go_sem,h,hy,hz,hF,hc]
theorem kE{g:Nat}{p q:Operand}{u v k m n:Value}(hF:ρ (.func g)= .func (.func g) #[] #[])(h:ρ x=u)(hy:ρ y=v)(hz:ρ z=k)(hp:ρ p=m)(hq:ρ q=n){at_:Array TypeId}(hc:∀ (vs:Array Value) (w:World),(callFunc g vs).run Tryz.prog w= .ok (.enter g vs) w):(execOp ρ ⟨d,.call ⟨.value (.func g),#[x,y,z,p,q],at_⟩,ty,pos,af,none⟩).run Tryz.prog w= .ok (.enter g #[u,v,k,m,n]) w:=by
 simp[execOp,go_sem,h,hy,hz,hp,hq,hF,hc]
end
structure KyP (GC:Nat→Nat→Option Value) (pk:List Int) (w:World) (e:Ending) (w':World):Prop where
 ret:∃ B o,e= .returned (.tuple #[.pointer (some ⟨B,o,none⟩),.nilIface])∧w.heap.size≤B∧Ar true w' (B,o) aS pk
 frm:CV w w' (fun _ _=>False)
 gw:GW GC w'
section
variable{GB:Nat}{GC:Nat→Nat→Option Value}{ad:Nat→Nat×Nat}(hG:Jk GB GC ad){w:World}(ε:GW GC w)(δ:GB≤w.heap.size)
include hG ε δ
set_option maxRecDepth 100000 in
theorem ak{b o c:Nat}{x:List Int}(hx:Fe w b o x)(hl:x.length=32)(hc:32≤c):Calls Tryz.prog 33 #[.slice (some ⟨b,o,none⟩) 32 c] w (KyP GC (Yw x) w):=by
 have hb:b<w.heap.size:=hx.lt (by omega);refine enter (args:=[.slice (some ⟨b,o,none⟩) 32 c]) Tryz.func33 rfl (n:=12) rfl fun a F=>?_
 refine BQ (Bv F rfl fun a F=>Bv F rfl fun a F=>Ae ?_);refine BQ (Cm F rfl APJ fun a F=>Cm F rfl (AOI F.e) fun a F=>AR F rfl fun a F=>Ae ?_);have N1:=SA w aS pk0 84 (Ws (by decide));have f1:CV w (w.alloc (.cells (AZ aS pk0).toArray 84)) (fun _ _=>False):=Cs _ _ _;generalize w.alloc (.cells (AZ aS pk0).toArray 84)=w1 at N1 f1 ⊢;have hm:=(hx.memI hl).frm f1 fun _ _ h=>h
 have hcall:=l6 hG (PH hG ε f1) (G9 δ f1.1) (rv:=[.pointer (some ⟨w.heap.size,0,none⟩),.nilIface]) (Nt hG) AQr APV ANd (b0:=(w.heap.size,0)) (b1:=(b,o)) (x0:=pk0) (x1:=x) ⟨rfl,N1,fun _=>δ⟩ ⟨c,rfl,hc,hm,fun h=>(by cases h)⟩ (AJo (by show w.heap.size≠b;omega)) (AME x) (fun fb vs h=>ACt h);refine BQ (AB F rfl fun a F=>AB F rfl fun a F=>Jr F rfl (Cz rfl F.e F.e Tryz.call64) hcall fun e w2 h2=>⟨_,h2.ret,fun a F=>Cm F rfl (P5 F.e) fun a F=>Cm F rfl (MM F.e) fun a F=>AR F rfl fun a F=>AR F rfl fun a F=>Ae ?_⟩);have hmem:Ar true w2 (w.heap.size,0) aS (Yw x):=by rw[AFu];exact h2.mem
 refine Kh ⟨F.df,.tuple #[.pointer (some ⟨w.heap.size,0,none⟩),.nilIface],?_,⟨w.heap.size,0,rfl,JP _,hmem⟩,f1.trans' h2.frm fun b' i hb' (h:b'=w.heap.size)=>by omega,h2.gw⟩;have q2:=F.tm 2;have q3:=F.tm 3;rw[Ti] at q2 q3;simp[results,Tryz.results33,go_sem];exact⟨q2,q3⟩
end
end
section
open Go
section
variable{GB:Nat}{GC:Nat→Nat→Option Value}{ad:Nat→Nat×Nat}(hG:Jk GB GC ad){w:World}(ε:GW GC w)(δ:GB≤w.heap.size)
include hG ε δ
end
theorem dH{w:World}{b o n:Nat}{xs:List Int}(h:Fe w b o xs)(hl:xs.length=n)(hn:n≤1000):Calls Tryz.prog 34 #[.slice (some ⟨b,o,none⟩) n n] w (ClP w xs):=by
 subst hl;exact JJ (JI.of_has h rfl (JP _)) (by omega) (.inr ⟨_,_,_,rfl⟩)
section
variable{GB:Nat}{GC:Nat→Nat→Option Value}{ad:Nat→Nat×Nat}(hG:Jk GB GC ad){w:World}(ε:GW GC w)(δ:GB≤w.heap.size)
include hG ε δ
end
end
section
open Go
structure SnP (GC:Nat→Nat→Option Value) (l:List Int) (w:World) (e:Ending) (w':World):Prop where
 ret:∃ B,e= .returned (.slice (some ⟨B,0,none⟩) 64 64)∧Ar true w' (B,0) (List.replicate 64 .u8) l
 frm:CV w w' (fun _ _=>False)
 gw:GW GC w'
structure SoP (GC:Nat→Nat→Option Value) (l:List Int) (w:World) (e:Ending) (w':World):Prop where
 ret:∃ v,e= .returned (.tuple #[v,.bool true])∧JI w' v l
 len:l.length=64
 frm:CV w w' (fun _ _=>False)
 gw:GW GC w'
theorem ADq:Qm ⟨#[]⟩ ⟨#[]⟩= []:=by
 unfold Qm;rw[if_pos];rw[WT];rfl
section
variable{GB:Nat}{GC:Nat→Nat→Option Value}{ad:Nat→Nat×Nat}(hG:Jk GB GC ad){w:World}(ε:GW GC w)(δ:GB≤w.heap.size)
include hG ε δ
set_option maxRecDepth 100000 in
theorem AFF{bp op:Nat}{pk msg:List Int}{vm:Value}(hpk:Ar false w (bp,op) aS pk)(hm:JI w vm msg)(hml:msg.length<1099511627776):Calls Tryz.prog 41 #[.pointer (some ⟨bp,op,none⟩),vm] w (SnP GC (ZG [] pk msg) w):=by
 have hbpl:bp<w.heap.size:=(hpk.2 0 .u8 _ (by decide) (Jo (by rw[hpk.1.1];decide))).lt;refine enter (args:=[.pointer (some ⟨bp,op,none⟩),vm]) Tryz.func41 rfl (n:=11) rfl fun a F=>?_
 refine BQ (Bv F rfl fun a F=>Ae ?_);refine BQ (Cm F rfl (dW rfl rfl) fun a F=>AR F rfl fun a F=>Ae ?_);have N1:=Hq w 64 .u8 5 ⟨by decide,by decide⟩;have f1:CV w (w.alloc (.cells (Array.replicate 64 (.int .u8 0)) 5)) (fun _ _=>False):=Cs _ _ _;generalize w.alloc (.cells (Array.replicate 64 (.int .u8 0)) 5)=w1 at N1 f1 ⊢;have hcall:Calls Tryz.prog 70 #[.slice (some ⟨w.heap.size,0,none⟩) 64 64,.pointer (some ⟨bp,op,none⟩),vm] w1 (SgP GC w.heap.size 0 64 (ZG [] pk msg) w1):=by
  refine enter (args:=[.slice (some ⟨w.heap.size,0,none⟩) 64 64,.pointer (some ⟨bp,op,none⟩),vm]) Tryz.func70 rfl (n:=11) rfl fun a F=>?_
  refine BQ (Bv F rfl fun a F=>Ae ?_);have h0:=jq (p:=⟨#[]⟩) (c:=⟨#[]⟩) hG (PH hG ε f1) (G9 δ f1.1) N1 δ (JP 64) (hpk.frm f1 fun _ _ h=>h) (by omega) (hm.frm0 f1) hml (by decide) (by decide);rw[ADq] at h0;refine BQ (AB F rfl fun a F=>AB F rfl fun a F=>AB F rfl fun a F=>Jr F rfl (kE rfl F.e F.e F.e rfl rfl Tryz.call91) h0 fun e w2 h2=>⟨_,h2.ret,fun a F=>AR F rfl fun a F=>Ae ?_⟩);refine Kh ⟨F.df,.slice (some ⟨w.heap.size,0,none⟩) 64 64,?_,rfl,h2.mem,h2.frm,h2.gw⟩;have q:=F.tm 6;rw[Ti] at q;simp[results,Tryz.results70,go_sem];exact q
 refine BQ (AB F rfl fun a F=>AB F rfl fun a F=>AB F rfl fun a F=>Jr F rfl (Uz rfl F.e F.e F.e Tryz.call70) hcall fun e w2 h2=>⟨_,h2.ret,fun a F=>AR F rfl fun a F=>Ae ?_⟩);refine Kh ⟨F.df,.slice (some ⟨w.heap.size,0,none⟩) 64 64,?_,⟨_,rfl,h2.mem⟩,f1.trans' h2.frm fun b i hb (h:b=w.heap.size)=>by omega,h2.gw⟩;have q:=F.tm 4;rw[Ti] at q;simp[results,Tryz.results41,go_sem];exact q
set_option maxRecDepth 100000 in
theorem AG0{v vm:Value}{x msg:List Int}(hx:JI w v x)(hl:x.length=32)(hm:JI w vm msg)(hml:msg.length<1099511627776)(hz:vm= .slice none 0 0∨∃ a n c,vm= .slice (some a) n c):Calls Tryz.prog 20 #[v,vm] w (SoP GC (ZG [] (Yw x) msg) w):=by
 obtain⟨b,o,c,rfl,hc,h8⟩:=hx.has (by omega);refine enter (args:=[.slice (some ⟨b,o,none⟩) x.length c,vm]) Tryz.func20 rfl (n:=21) rfl fun a F=>?_
 refine BQ (Bv F rfl fun a F=>Bv F rfl fun a F=>Ae ?_);refine BQ (AB F rfl fun a F=>Jr F rfl (Dn rfl F.e Tryz.call34) (JJ hx (by omega) (.inr ⟨_,_,_,rfl⟩)) fun e w1 h1=>?_);obtain⟨v1,he1,m1⟩:=h1.ret;have g1:=h1.frm;obtain⟨b1,o1,c1,rfl,hc1,h81⟩:=m1.has (by omega);refine⟨_,he1,fun a F=>Jr F rfl (Dn rfl F.e Tryz.call33) (by rw[hl];exact ak hG (PH hG ε g1) (G9 δ g1.1) h81 hl (by omega)) fun e w2 h2=>?_⟩;obtain⟨B,o2,he2,hB,M2⟩:=h2.ret;have g2:=g1.trans h2.frm;refine⟨_,he2,fun a F=>AB F rfl fun a F=>Cm F rfl (P5 F.e) fun a F=>Cm F rfl (MM F.e) fun a F=>AR F rfl fun a F=>AR F rfl fun a F=>Ae ?_⟩;refine wp_seq (BQ (AB F rfl fun a F=>Cm F rfl (Wx F.e rfl) fun a F=>Ae (wp_cond_false F.e (wp_skip ?_))));show Code.wp _ _ _ _ _;refine BQ (AB F rfl fun a F=>AB F rfl fun a F=>Jr F rfl (Dn rfl F.e Tryz.call34) (JJ (hm.frm0 g2) (by omega) hz) fun e w3 h3=>?_);obtain⟨v3,he3,m3⟩:=h3.ret;have g3:=g2.trans h3.frm;refine⟨_,he3,fun a F=>Jr F rfl (Cz rfl F.e F.e Tryz.call41) (AFF hG (PH hG ε g3) (G9 δ g3.1) ((show Ar false w2 (B,o2) aS _ from ⟨M2.1,fun i k x a b=>(M2.2 i k x a b).weak⟩).frm h3.frm fun _ _ h=>h) m3 hml) fun e w4 h4=>?_⟩;obtain⟨B4,he4,m4⟩:=h4.ret;have g4:=g3.trans h4.frm;refine⟨_,he4,fun a F=>Jr F rfl (Dn rfl F.e Tryz.call34) (dH (Fe.of_mem m4) m4.len8 (by omega)) fun e w5 h5=>?_⟩;obtain⟨v5,he5,m5⟩:=h5.ret;have g5:=g4.trans h5.frm;refine⟨_,he5,fun a F=>AR F rfl fun a F=>Bv F rfl fun a F=>Ae ?_⟩;refine Kh ⟨F.df,.tuple #[v5,.bool true],?_,⟨v5,rfl,m5⟩,m4.len8,g5,PH hG ε g5⟩;have q4:=F.tm 4;have q5:=F.tm 5;rw[Ti] at q4 q5;simp[results,Tryz.results20,go_sem];exact⟨q4,q5⟩
end
end
section
open Go Go.RowKit Go.ChangeShapes Go.WideShapes
def VN(w:World)(e:Ending)(w':World):Prop:=e= .returned (.bool true)∧Below w.heap.size w w'
set_option maxRecDepth 100000 in
theorem Xe{H:Type}{enc:TypeId×Value→H}{W:World}{Gw:Nat}{v:Value}{d:DataW H}{p:List MemPlace}(hval:Value.okWide Tryz.prog W .any Gw 22 v)(h:DataW.Trod enc Tryz.prog W 0 (fun _=>true) true 22 v d p):
  ∃ a n c xs,v= .slice a n c∧JI W v xs∧xs.length=n∧(v= .slice none 0 0∨∃ a n c,v= .slice (some a) n c):=by
 rcases wT Tryz.underlying22 Tryz.underlying5 (by kernel_rfl) hval h with ⟨rfl,_,_⟩|⟨a,n,c,zs,rfl,hnc,hcm,hz,_,_,hcell,hr,hsp⟩
 ·exact⟨none,0,0,[],rfl,JI.nil rfl rfl,rfl,.inl rfl⟩
 ·have hl:(zs.take n).length=n:=by rw[Y3];omega
  refine⟨some a,n,c,zs.take n,rfl,?_,hl,.inr ⟨_,_,_,rfl⟩⟩
  rcases Nat.eq_zero_or_pos n with h0|h0
  ·subst h0;exact JI.nil rfl rfl
  ·obtain⟨b,o,s⟩:=a;have hs:s=none:=hsp (by omega);subst hs;refine JI.of_has ⟨fun x hx=>hr x (List.mem_of_mem_take hx),fun i hi=>?_⟩ hl hnc;rw[hl] at hi;have:=hcell i (by omega);rw[Addr.add_lit] at this;rw[this];simp[List.getD,hi]
section
variable{GB:Nat}{GC:Nat→Nat→Option Value}{ad:Nat→Nat×Nat}(hG:Jk GB GC ad)
include hG
end
end
end Go.Proofs.YtloibefkijfdlaaGreatDoor
