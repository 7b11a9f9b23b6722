/- Copies of bytes; keys from seeds and from bytes. -/
import Derived.Test.YtloibefkijfdlaaGreatDoorSgx
namespace Go.Proofs.YtloibefkijfdlaaGreatDoor
section
open Go Go.RowKit Go.Lib
theorem Jd{w w':World}{S:Nat->Nat->Prop}(h:Below w.heap.size w w'):BM w w' S:=by
 refine⟨h.size,λb x hx=>?_,?_⟩
 ·have hb:b<w.heap.size:=by
   rcases nE b w.heap.size with h2|h2
   ·exact h2
   ·simp[ut h2] at hx
  exact⟨x,by rw[h.block b hb];exact hx,.refl _ _⟩
 ·obtain⟨h1,h2,h3,_,_⟩:=h;exact⟨h1,h3,h2⟩
theorem IX.nil{w:World}{v:Value}{xs:List Int}(hx:xs= []){ap:Option Addr}{c:Nat}(hv:v= .slice ap 0 c):IX w v xs:=by
 subst hx;subst hv;exact⟨ap,c,rfl,Nat.zero_le _,λx hx=>(by cases hx),λh=>absurd h (Nat.lt_irrefl 0)⟩
theorem IX.cR{w:World}{b o n c:Nat}{xs:List Int}(h:C8 w b o xs)(hl:xs.length=n)(hc:n<=c):IX w (.slice (some ⟨b,o,none⟩) n c) xs:=
 ⟨_,c,by rw[hl],by omega,h.1,λh0=>⟨b,o,rfl,h.lt h0,h.2⟩⟩
theorem IX.an{w w':World}{v:Value}{xs:List Int}{S:Nat->Nat->Prop}(h:IX w v xs)(hf:BM w w' S)(hS:∀b i,S b i->w.heap.size<=b):IX w' v xs:=by
 obtain⟨ap,c,h1,h2,h3,h4⟩:=h;refine⟨ap,c,h1,h2,h3,λh0=>?_⟩;obtain⟨b,o,e,hb,hc⟩:=h4 h0;exact⟨b,o,e,iH hb hf.1,λi hi=>(hf.fp (f:=false) ⟨hc i hi,λh=>(by cases h)⟩ (λh=>by have:=hS b _ h;omega)).1⟩
theorem IX.bc{w w':World}{v:Value}{xs:List Int}(h:IX w v xs)(hf:BM w w' (λ_ _=>False)):IX w' v xs:=h.an hf λ_ _ h=>h.elim
theorem IX.has{w:World}{v:Value}{xs:List Int}(h:IX w v xs)(h0:0<xs.length):∃b o c,v= .slice (some ⟨b,o,none⟩) xs.length c/\xs.length<=c/\C8 w b o xs:=by
 obtain⟨ap,c,h1,h2,h3,h4⟩:=h;obtain⟨b,o,rfl,_,hc⟩:=h4 h0;exact⟨b,o,c,h1,h2,h3,hc⟩
theorem C8.L4{w:World}{b o n:Nat}{xs:List Int}(h:C8 w b o xs)(hl:xs.length=n):AQ false w (b,o) (List.replicate n .u8) xs:=AAq hl h.1 λi hi=>⟨h.2 i (by omega),λh=>by cases h⟩
structure ClP (w:World) (xs:List Int) (e:Ending) (w':World):Prop where
 ret:∃v',e= .returned v'/\IX w' v' xs
 an:BM w w' (λ_ _=>False)
set_option maxRecDepth 100000 in
set_option maxHeartbeats 2000000 in
theorem wz(b o n c:Nat)(xs:List Int)(w:World)(hx:C8 w b o xs)(hl:xs.length=n)(h0:0<n)(hn:n<=140737488355328):
  Calls Tryz.prog 34 #[.slice (some ⟨b,o,none⟩) n c] w (ClP w xs):=by
 obtain⟨i0,hi,hz0,zE,xl⟩:=info_parts i8;have mx:=mixed;have t22:=Tryz.underlying22;have q22:∀(w:World) (a:Option Addr) (n c n' c':Nat),(binOp .eql 22 (.slice a n c) (.slice none n' c')).run Tryz.prog w= .ok (.bool a.isNone) w:=λw a n c n' c'=>Lib.run_eql_slice_nil w _ _ a n c n' c' t22
 have BW:Below w.heap.size w (w.alloc (.cells #[] 5)):=(Below.refl _ w).alloc (KA _) _;have iS:∀j u,(v8 xs)[j]? = some u->(w.alloc (.cells #[] 5)).cell? ((⟨b,o,none⟩:Addr).add j)=some u:=by
  intro j u hj;have h0:0<xs.length:=by have:=(OQ.1 hj).1;simp[v8] at this;omega
  exact(hx.below BW (hx.lt h0)).at j u hj
 have hr:=hx.1;clear hx
 go_enter Tryz.func34,Tryz.ntmps34
 go_wp2_with (at_builtin;refine wpList_append_own _ rfl _ _ 22 rfl w.heap.size 5 i0 (.int .u8 0) 1 1 t22 hi hz0 zE xl rfl (by decide) _ _ _ rfl (World.ownsRow_made w #[] 0 (KA _) (Nat.zero_le _) rfl) ⟨b,o,none⟩ n c (v8 xs) rfl (by simp[v8,hl]) iS WV (by unfold maxLen;omega) (by omega) (by simp) ?_;intro v' w1 vt aaX _;have hb:=aW aaX)
 obtain⟨b',c',rfl,i6,-, -,h8⟩:=uK (xs:=xs) (by simpa using vt) h0 hr;clear vt aaX
 go_wp2
 go_ret
 exact⟨⟨_,rfl,IX.cR h8 hl i6⟩,Jd hb⟩
set_option maxRecDepth 100000 in
theorem x8(w:World):Calls Tryz.prog 34 #[.slice none 0 0] w (ClP w []):=by
 have t22:=Tryz.underlying22;have q22:∀(w:World) (a:Option Addr) (n c n' c':Nat),(binOp .eql 22 (.slice a n c) (.slice none n' c')).run Tryz.prog w= .ok (.bool a.isNone) w:=λw a n c n' c'=>Lib.run_eql_slice_nil w _ _ a n c n' c' t22
 go_enter Tryz.func34,Tryz.ntmps34
 go_wp2
 go_ret
 exact⟨⟨_,rfl,IX.nil rfl rfl⟩,BM.refl _ _⟩
set_option maxRecDepth 100000 in
set_option maxHeartbeats 2000000 in
theorem oZ(a:Addr)(c:Nat)(w:World):Calls Tryz.prog 34 #[.slice (some a) 0 c] w (ClP w []):=by
 obtain⟨i0,hi,hz0,zE,xl⟩:=info_parts i8;have mx:=mixed;have t22:=Tryz.underlying22;have q22:∀(w:World) (a:Option Addr) (n c n' c':Nat),(binOp .eql 22 (.slice a n c) (.slice none n' c')).run Tryz.prog w= .ok (.bool a.isNone) w:=λw a n c n' c'=>Lib.run_eql_slice_nil w _ _ a n c n' c' t22
 go_enter Tryz.func34,Tryz.ntmps34
 go_wp2_with (at_builtin;refine wpList_append_own _ rfl _ _ 22 rfl w.heap.size 5 i0 (.int .u8 0) 1 1 t22 hi hz0 zE xl rfl (by decide) _ _ _ rfl (World.ownsRow_made w #[] 0 (KA _) (Nat.zero_le _) rfl) a 0 c [] rfl rfl (by intro j u hj;simp at hj) (by intro u hu;cases hu) (by unfold maxLen;omega) (by omega) (by simp) ?_;intro v' w1 vt aaX _;have hb:=aW aaX)
 obtain⟨a,c',rfl⟩:=wh vt;clear vt aaX
 go_wp2
 go_ret
 exact⟨⟨_,rfl,IX.nil rfl rfl⟩,Jd hb⟩
theorem Fu{w:World}{v:Value}{xs:List Int}(h:IX w v xs)(hn:xs.length<=140737488355328)(hz:v= .slice none 0 0\/∃a n c,v= .slice (some a) n c):Calls Tryz.prog 34 #[v] w (ClP w xs):=by
 rcases Nat.eq_zero_or_pos xs.length with h0|h0
 ·have hx:xs= []:=I3 h0;subst hx;obtain⟨ap,c,rfl,-, -, -⟩:=h;rcases hz with e|⟨a,n,c',e⟩
  ·rw[e];exact x8 w
  ·rw[e];cases e;exact oZ a c w
 ·obtain⟨b,o,c,rfl,hc,h8⟩:=h.has h0;exact wz b o _ c xs w h8 rfl h0 hn
end
section
open Go
def HE:List Int:=List.replicate 100 0
noncomputable def WO(x:List Int):List Int:=gv [(64,.one Bq)] 64 0 [HE,x]
theorem AOU:Bq.params= [.mem We 40 true,.sl (List.replicate 32 .u8) 0 false]:=by kernel_rfl
theorem AKi:Bq.outs= [(0,We,λa=>BK 100 (Bu.raw AP 0 a))]:=by kernel_rfl
theorem AKP:Bq.ret= [.cy 0,.eg]:=by kernel_rfl
theorem AMB:Bq.pr 0= .l λa=>BK 100 (Bu.raw AP 0 a):=rfl
theorem ACd(x:List Int):WO x=BK 100 (Bu.raw AP 0 [HE,x]):=by
 unfold WO;rw[BQ EL,AMB];rfl
set_option maxRecDepth 100000 in
theorem AJ5(x:List Int):Bq.pre [HE,x]:=rC (ALW EL HE x)
theorem AFU{ks js:List IntKind}{g g':Nat}{wr wr':Bool}{b c:Nat×Nat}(h:b.1≠c.1):Rz (.mem ks g wr) (.sl js g' wr') b c:=λ_=>.inr (.inl h)
section
variable{ρ:Operand->Value}{d:Option Tmp}{x y:Operand}{ty:TypeId}{pos:String}{af:Array Edge}{w:World}{b o:Nat}
theorem zK:Tryz.zeroCells84=(Aj We HE).toArray:=by kernel_rfl
theorem AJd:(execOp ρ ⟨d,.build 84 #[],ty,pos,af,none⟩).run Tryz.prog w= .ok (.value (.agg (Aj We HE).toArray)) w:=by
 simp[execOp,go_sem,zK]
theorem AJG{cs:Array Value}(h:ρ x= .agg cs):(execOp ρ ⟨d,.box 84 x,ty,pos,af,none⟩).run Tryz.prog w= .ok (.value (.pointer (some ⟨w.heap.size,0,none⟩))) (w.alloc (.cells cs 84)):=by
 simp[execOp,go_sem,h]
theorem Ka{v0 v1 v2 v3:Value}{k:Nat}(h:ρ x= .tuple #[v0,v1,v2,v3])(hk:k<4):(execOp ρ ⟨d,.extract x k,ty,pos,af,none⟩).run Tryz.prog w= .ok (.value (#[v0,v1,v2,v3].getD k undef)) w:=by
 match k,hk with
 |0,_|1,_|2,_|3,_=>simp[execOp,go_sem,h]
end
section
variable{ρ:Operand->Value}{d:Option Tmp}{x y z:Operand}{ty:TypeId}{pos:String}{af:Array Edge}{w:World}
theorem Ea{g:Nat}{u v k:Value}(hF:ρ (.func g)= .func (.func g) #[] #[])(h:ρ x=u)(hy:ρ y=v)(hz:ρ z=k){at_:Array TypeId}(hc:∀(vs:Array Value) (w:World),(callFunc g vs).run Tryz.prog w= .ok (.enter g vs) w):(execOp ρ ⟨d,.call ⟨.value (.func g),#[x,y,z],at_⟩,ty,pos,af,none⟩).run Tryz.prog w= .ok (.enter g #[u,v,k]) w:=by
 simp[execOp,go_sem,h,hy,hz,hF,hc]
theorem TL{g:Nat}{p q:Operand}{u v k m n:Value}(hF:ρ (.func g)= .func (.func g) #[] #[])(h:ρ x=u)(hy:ρ y=v)(hz:ρ z=k)(hp:ρ p=m)(hq:ρ q=n){at_:Array TypeId}(hc:∀(vs:Array Value) (w:World),(callFunc g vs).run Tryz.prog w= .ok (.enter g vs) w):(execOp ρ ⟨d,.call ⟨.value (.func g),#[x,y,z,p,q],at_⟩,ty,pos,af,none⟩).run Tryz.prog w= .ok (.enter g #[u,v,k,m,n]) w:=by
 simp[execOp,go_sem,h,hy,hz,hp,hq,hF,hc]
end
structure KyP (GC:Nat->Nat->Option Value) (pk:List Int) (w:World) (e:Ending) (w':World):Prop where
 ret:∃B o,e= .returned (.tuple #[.pointer (some ⟨B,o,none⟩),.nilIface])/\w.heap.size<=B/\AQ true w' (B,o) We pk
 an:BM w w' (λ_ _=>False)
 gw:GW GC w'
section
variable{GB:Nat}{GC:Nat->Nat->Option Value}{ad:Nat->Nat×Nat}(hG:Gw GB GC ad){w:World}(ε:GW GC w)(δ:GB<=w.heap.size)
include hG ε δ
set_option maxRecDepth 100000 in
theorem fF{b o c:Nat}{x:List Int}(hx:C8 w b o x)(hl:x.length=32)(hc:32<=c):Calls Tryz.prog 33 #[.slice (some ⟨b,o,none⟩) 32 c] w (KyP GC (WO x) w):=by
 have hb:b<w.heap.size:=hx.lt (by omega);refine enter (args:=[.slice (some ⟨b,o,none⟩) 32 c]) Tryz.func33 rfl (n:=12) rfl λa F=>?_
 refine AO (AX F rfl λa F=>AX F rfl λa F=>AJ ?_);refine AO (AZ F rfl AJd λa F=>AZ F rfl (AJG F.e) λa F=>AB F rfl λa F=>AJ ?_);have N1:=Lu w We HE 84 (Ot (by decide));have f1:BM w (w.alloc (.cells (Aj We HE).toArray 84)) (λ_ _=>False):=BI _ _ _;generalize w.alloc (.cells (Aj We HE).toArray 84)=w1 at N1 f1 ⊢;have hm:=(hx.L4 hl).an f1 λ_ _ h=>h
 have mL:=VZ hG (LF hG ε f1) (z8 δ f1.1) (rv:=[.pointer (some ⟨w.heap.size,0,none⟩),.nilIface]) (NQ hG) AOU AKi AKP (b0:=(w.heap.size,0)) (b1:=(b,o)) (x0:=HE) (x1:=x) ⟨rfl,N1,λ_=>δ⟩ ⟨c,rfl,hc,hm,λh=>(by cases h)⟩ (AFU (by show w.heap.size≠b;omega)) (AJ5 x) (λfb vs h=>ADY h);refine AO (AA F rfl λa F=>AA F rfl λa F=>DI F rfl (Au rfl F.e F.e Tryz.call64) mL λe w2 h2=>⟨_,h2.ret,λa F=>AZ F rfl (EZ F.e) λa F=>AZ F rfl (DW F.e) λa F=>AB F rfl λa F=>AB F rfl λa F=>AJ ?_⟩);have dj:AQ true w2 (w.heap.size,0) We (WO x):=by rw[ACd];exact h2.mem
 refine DC ⟨F.df,.tuple #[.pointer (some ⟨w.heap.size,0,none⟩),.nilIface],?_,⟨w.heap.size,0,rfl,KA _,dj⟩,f1.trans' h2.an λb' i xp (h:b'=w.heap.size)=>by omega,h2.gw⟩;have q2:=F.tm 2;have q3:=F.tm 3;rw[Ti] at q2 q3;simp[results,Tryz.results33,go_sem];exact⟨q2,q3⟩
end
end
section
open Go
structure FrP (GC:Nat->Nat->Option Value) (n:Nat) (l:List Int) (w:World) (e:Ending) (w':World):Prop where
 ret:∃B o,e= .returned (.slice (some ⟨B,o,none⟩) n n)/\C8 w' B o l/\l.length=n
 an:BM w w' (λ_ _=>False)
 gw:GW GC w'
theorem AJM{pk:List Int}:LA.raw K8 0 [pk]=cp pk 0 64:=by kernel_rfl
theorem AMp{pk:List Int}:LQ.raw LP 0 [pk]=cp pk 0 32:=by kernel_rfl
theorem AJ0{pk:List Int}:Jc.raw Ja 0 [pk]=cp pk 32 32:=by kernel_rfl
section
variable{GB:Nat}{GC:Nat->Nat->Option Value}{ad:Nat->Nat×Nat}(hG:Gw GB GC ad){w:World}(ε:GW GC w)(δ:GB<=w.heap.size)
theorem l6{f n m g:Nat}{i:Ad}{C:Cx}{ks:List IntKind}{z:PF}{b o:Nat}{l:List Int}{w:World}(ε:GW GC w)(δ:GB<=w.heap.size)(fS:Ck Tryz.prog GB GC f (.one (i.sum C)))(hp:i.s0.params= [.mem ks g false])(ξ:i.s0.outs= [])(AH:i.s0.fresh= [(List.replicate n .u8,z)])(zv:i.s0.ret= [.ya 0 m n])(hmn:m=n)(hm:AQ false w (b,o) ks l){r:List Int}(hr:i.raw C 0 [l]=r)(hl:r.length=n):Calls Tryz.prog f #[.pointer (some ⟨b,o,none⟩)] w (FrP GC n r w):=by
 subst hmn;have hP:KH GB w (FE.ca (.one (i.sum C)) true).params [.pointer (some ⟨b,o,none⟩)] [l] [(b,o)]:=by
  show KH GB w i.s0.params _ _ _;rw[hp];exact⟨⟨rfl,hm,λh=>(by cases h)⟩,trivial⟩
 have hS:Fv (FE.ca (.one (i.sum C)) true).params [(b,o)]:=by
  show Fv i.s0.params _;rw[hp];exact⟨λx hx=>(by cases hx),trivial⟩
 refine(fS true _ [l] [(b,o)] w ε δ hP hS (λh=>(by cases h)) rfl).mono λe w' ⟨fb,vs,he,hq⟩=>?_
 simp only[FE.ca] at hq;have ef:(i.sum C).fresh= [(List.replicate m .u8,λa=>BK (List.replicate m IntKind.u8).length (i.raw C 0 a))]:=by
  show XG (i.raw C) i.s0.outs.length i.s0.fresh=_;rw[ξ,AH];rfl
 have er:(i.sum C).ret= [.ya 0 m m]:=by
  show Jh (i.raw C) (i.s0.outs.length+i.s0.fresh.length) i.s0.ret=_;rw[zv];rfl
 have hrr:=hq.ret;have hff:=hq.fresh;rw[er] at hrr;rw[ef] at hff
 match vs,hrr with
 | [v],hrr=>
 obtain⟨b',f0,hv⟩:=hrr.1;subst hv;have h8:=C8.cV (hff 0 _ b' rfl f0);have e1:BK (List.replicate m IntKind.u8).length (i.raw C 0 [l])=r:=by rw[hr,Qs];exact Bn hl
 simp only at h8;rw[e1] at h8;refine⟨⟨b'.1,b'.2,he,h8,hl⟩,hq.an.mono λb o _ hs=>?_,hq.gw⟩;obtain⟨p,eN,_⟩:=hs;have:(i.sum C).outs= []:=by
  show SC (i.raw C) 0 i.s0.outs= [];rw[ξ];rfl
 rw[this] at eN;cases eN
include hG ε δ
theorem AKN{b o:Nat}{pk:List Int}(hm:AQ false w (b,o) We pk):Calls Tryz.prog 61 #[.pointer (some ⟨b,o,none⟩)] w (FrP GC 64 (cp pk 0 64) w):=l6 ε δ (Ox hG) rfl rfl rfl rfl rfl hm AJM (PK _ _ _)
theorem AIe{b o:Nat}{pk:List Int}(hm:AQ false w (b,o) We pk):Calls Tryz.prog 62 #[.pointer (some ⟨b,o,none⟩)] w (FrP GC 32 (cp pk 0 32) w):=l6 ε δ (Pg hG) rfl rfl rfl rfl rfl hm AMp (PK _ _ _)
theorem AKR{b o:Nat}{pk:List Int}(hm:AQ false w (b,o) We pk):Calls Tryz.prog 63 #[.pointer (some ⟨b,o,none⟩)] w (FrP GC 32 (cp pk 32 32) w):=l6 ε δ (NZ hG) rfl rfl rfl rfl rfl hm AJ0 (PK _ _ _)
end
theorem Q9{w:World}{b o n:Nat}{xs:List Int}(h:C8 w b o xs)(hl:xs.length=n)(hn:n<=1000):Calls Tryz.prog 34 #[.slice (some ⟨b,o,none⟩) n n] w (ClP w xs):=by
 subst hl;exact Fu (IX.cR h rfl (KA _)) (by omega) (.inr ⟨_,_,_,rfl⟩)
structure TdP (GC:Nat->Nat->Option Value) (pk:List Int) (w:World) (e:Ending) (w':World):Prop where
 ret:∃v0 v1 v2,e= .returned (.tuple #[v0,v1,v2,.bool true])/\IX w' v0 (cp pk 0 64)/\IX w' v1 (cp pk 0 32)/\IX w' v2 (cp pk 32 32)
 an:BM w w' (λ_ _=>False)
 gw:GW GC w'
section
variable{GB:Nat}{GC:Nat->Nat->Option Value}{ad:Nat->Nat×Nat}(hG:Gw GB GC ad){w:World}(ε:GW GC w)(δ:GB<=w.heap.size)
include hG ε δ
set_option maxRecDepth 100000 in
theorem zD{b o:Nat}{pk:List Int}(hm:AQ false w (b,o) We pk):Calls Tryz.prog 32 #[.pointer (some ⟨b,o,none⟩),.nilIface] w (TdP GC pk w):=by
 refine enter (args:=[.pointer (some ⟨b,o,none⟩),.nilIface]) Tryz.func32 rfl (n:=19) rfl λa F=>?_
 refine AO (AX F rfl λa F=>AX F rfl λa F=>AX F rfl λa F=>AX F rfl λa F=>AJ ?_);refine wp_seq (AO (AA F rfl λa F=>AZ F rfl (Pm F.e rfl) λa F=>AJ (wp_cond_false F.e (wp_skip ?_))));show Code.wp _ _ _ _ _;refine AO (AA F rfl λa F=>DI F rfl (Ar rfl F.e Tryz.call61) (AKN hG ε δ hm) λe w1 h1=>?_);obtain⟨B1,o1,Nx,hh1,hl1⟩:=h1.ret;have g1:=h1.an;refine⟨_,Nx,λa F=>DI F rfl (Ar rfl F.e Tryz.call34) (Q9 hh1 hl1 (by omega)) λe w2 h2=>?_⟩;obtain⟨v0,Fo,m0⟩:=h2.ret;have g2:=g1.trans h2.an;refine⟨_,Fo,λa F=>AA F rfl λa F=>DI F rfl (Ar rfl F.e Tryz.call62) (AIe hG (LF hG ε g2) (z8 δ g2.1) (hm.an g2 λ_ _ h=>h)) λe w3 h3=>?_⟩;obtain⟨B3,o3,ON,hh3,hl3⟩:=h3.ret;have g3:=g2.trans h3.an;refine⟨_,ON,λa F=>DI F rfl (Ar rfl F.e Tryz.call34) (Q9 hh3 hl3 (by omega)) λe w4 h4=>?_⟩;obtain⟨v1,he4,m1⟩:=h4.ret;have g4:=g3.trans h4.an;refine⟨_,he4,λa F=>AA F rfl λa F=>DI F rfl (Ar rfl F.e Tryz.call63) (AKR hG (LF hG ε g4) (z8 δ g4.1) (hm.an g4 λ_ _ h=>h)) λe w5 h5=>?_⟩;obtain⟨B5,o5,he5,hh5,hl5⟩:=h5.ret;have g5:=g4.trans h5.an;refine⟨_,he5,λa F=>DI F rfl (Ar rfl F.e Tryz.call34) (Q9 hh5 hl5 (by omega)) λe w6 h6=>?_⟩;obtain⟨v2,he6,m2⟩:=h6.ret;have g6:=g5.trans h6.an;refine⟨_,he6,λa F=>AB F rfl λa F=>AB F rfl λa F=>AB F rfl λa F=>AX F rfl λa F=>AJ ?_⟩;refine DC ⟨F.df,.tuple #[v0,v1,v2,.bool true],?_,⟨v0,v1,v2,rfl,((m0.bc h3.an).bc h4.an).bc (h5.an.trans h6.an),m1.bc (h5.an.trans h6.an),m2⟩,g6,LF hG ε g6⟩;have q4:=F.tm 4;have q5:=F.tm 5;have q6:=F.tm 6;have q7:=F.tm 7;rw[Ti] at q4 q5 q6 q7;simp[results,Tryz.results32,go_sem];exact⟨q4,q5,q6,q7⟩
set_option maxRecDepth 100000 in
theorem WT{v:Value}{x:List Int}(hx:IX w v x)(hl:x.length=32):Calls Tryz.prog 17 #[v] w (TdP GC (WO x) w):=by
 obtain⟨b,o,c,rfl,hc,h8⟩:=hx.has (by omega);refine enter (args:=[.slice (some ⟨b,o,none⟩) x.length c]) Tryz.func17 rfl (n:=16) rfl λa F=>?_
 refine AO (AX F rfl λa F=>AX F rfl λa F=>AX F rfl λa F=>AX F rfl λa F=>AJ ?_);refine AO (AA F rfl λa F=>DI F rfl (Ar rfl F.e Tryz.call34) (Fu hx (by omega) (.inr ⟨_,_,_,rfl⟩)) λe w1 h1=>?_);obtain⟨v1,Nx,m1⟩:=h1.ret;have g1:=h1.an;obtain⟨b1,o1,c1,rfl,tS,h81⟩:=m1.has (by omega);refine⟨_,Nx,λa F=>DI F rfl (Ar rfl F.e Tryz.call33) (by rw[hl];exact fF hG (LF hG ε g1) (z8 δ g1.1) h81 hl (by omega)) λe w2 h2=>?_⟩;obtain⟨B,o2,Fo,hB,M2⟩:=h2.ret;have g2:=g1.trans h2.an;refine⟨_,Fo,λa F=>AZ F rfl (EZ F.e) λa F=>AZ F rfl (DW F.e) λa F=>DI F rfl (Au rfl F.e F.e Tryz.call32) (zD hG h2.gw (z8 δ g2.1) ⟨M2.1,λi k x a b=>(M2.2 i k x a b).gO⟩) λe w3 h3=>?_⟩;obtain⟨v0,v1,v2,ON,m0,m1,m2⟩:=h3.ret;have g3:=g2.trans h3.an;refine⟨_,ON,λa F=>AZ F rfl (Ka F.e (k:=0) (by omega)) λa F=>AZ F rfl (Ka F.e (k:=1) (by omega)) λa F=>AZ F rfl (Ka F.e (k:=2) (by omega)) λa F=>AZ F rfl (Ka F.e (k:=3) (by omega)) λa F=>AB F rfl λa F=>AB F rfl λa F=>AB F rfl λa F=>AB F rfl λa F=>AJ ?_⟩;refine DC ⟨F.df,.tuple #[v0,v1,v2,.bool true],?_,⟨v0,v1,v2,rfl,m0,m1,m2⟩,g3,h3.gw⟩;have q4:=F.tm 2;have q5:=F.tm 3;have q6:=F.tm 4;have q7:=F.tm 5;rw[Ti] at q4 q5 q6 q7;simp[results,Tryz.results17,go_sem];exact⟨q4,q5,q6,q7⟩
end
end
section
open Go
structure SnP (GC:Nat->Nat->Option Value) (l:List Int) (w:World) (e:Ending) (w':World):Prop where
 ret:∃B,e= .returned (.slice (some ⟨B,0,none⟩) 64 64)/\AQ true w' (B,0) (List.replicate 64 .u8) l
 an:BM w w' (λ_ _=>False)
 gw:GW GC w'
structure SoP (GC:Nat->Nat->Option Value) (l:List Int) (w:World) (e:Ending) (w':World):Prop where
 ret:∃v,e= .returned (.tuple #[v,.bool true])/\IX w' v l
 len:l.length=64
 an:BM w w' (λ_ _=>False)
 gw:GW GC w'
theorem AAO:Jg ⟨#[]⟩ ⟨#[]⟩= []:=by
 unfold Jg;rw[if_pos];rw[QO];rfl
section
variable{GB:Nat}{GC:Nat->Nat->Option Value}{ad:Nat->Nat×Nat}(hG:Gw GB GC ad){w:World}(ε:GW GC w)(δ:GB<=w.heap.size)
include hG ε δ
set_option maxRecDepth 100000 in
theorem ACX{bp op:Nat}{pk msg:List Int}{vm:Value}(tj:AQ false w (bp,op) We pk)(hm:IX w vm msg)(gr:msg.length<1099511627776):Calls Tryz.prog 41 #[.pointer (some ⟨bp,op,none⟩),vm] w (SnP GC (XZ [] pk msg) w):=by
 have aai:bp<w.heap.size:=(tj.2 0 .u8 _ (by decide) (JC (by rw[tj.1.1];decide))).lt;refine enter (args:=[.pointer (some ⟨bp,op,none⟩),vm]) Tryz.func41 rfl (n:=11) rfl λa F=>?_
 refine AO (AX F rfl λa F=>AJ ?_);refine AO (AZ F rfl (mh rfl rfl) λa F=>AB F rfl λa F=>AJ ?_);have N1:=Ey w 64 .u8 5 ⟨by decide,by decide⟩;have f1:BM w (w.alloc (.cells (Array.replicate 64 (.int .u8 0)) 5)) (λ_ _=>False):=BI _ _ _;generalize w.alloc (.cells (Array.replicate 64 (.int .u8 0)) 5)=w1 at N1 f1 ⊢;have mL:Calls Tryz.prog 70 #[.slice (some ⟨w.heap.size,0,none⟩) 64 64,.pointer (some ⟨bp,op,none⟩),vm] w1 (SgP GC w.heap.size 0 64 (XZ [] pk msg) w1):=by
  refine enter (args:=[.slice (some ⟨w.heap.size,0,none⟩) 64 64,.pointer (some ⟨bp,op,none⟩),vm]) Tryz.func70 rfl (n:=11) rfl λa F=>?_
  refine AO (AX F rfl λa F=>AJ ?_);have h0:=bf (p:=⟨#[]⟩) (c:=⟨#[]⟩) hG (LF hG ε f1) (z8 δ f1.1) N1 δ (KA 64) (tj.an f1 λ_ _ h=>h) (by omega) (hm.bc f1) gr (by decide) (by decide);rw[AAO] at h0;refine AO (AA F rfl λa F=>AA F rfl λa F=>AA F rfl λa F=>DI F rfl (TL rfl F.e F.e F.e rfl rfl Tryz.call91) h0 λe w2 h2=>⟨_,h2.ret,λa F=>AB F rfl λa F=>AJ ?_⟩);refine DC ⟨F.df,.slice (some ⟨w.heap.size,0,none⟩) 64 64,?_,rfl,h2.mem,h2.an,h2.gw⟩;have q:=F.tm 6;rw[Ti] at q;simp[results,Tryz.results70,go_sem];exact q
 refine AO (AA F rfl λa F=>AA F rfl λa F=>AA F rfl λa F=>DI F rfl (Ea rfl F.e F.e F.e Tryz.call70) mL λe w2 h2=>⟨_,h2.ret,λa F=>AB F rfl λa F=>AJ ?_⟩);refine DC ⟨F.df,.slice (some ⟨w.heap.size,0,none⟩) 64 64,?_,⟨_,rfl,h2.mem⟩,f1.trans' h2.an λb i hb (h:b=w.heap.size)=>by omega,h2.gw⟩;have q:=F.tm 4;rw[Ti] at q;simp[results,Tryz.results41,go_sem];exact q
set_option maxRecDepth 100000 in
theorem X4{v vm:Value}{x msg:List Int}(hx:IX w v x)(hl:x.length=32)(hm:IX w vm msg)(gr:msg.length<1099511627776)(hz:vm= .slice none 0 0\/∃a n c,vm= .slice (some a) n c):Calls Tryz.prog 20 #[v,vm] w (SoP GC (XZ [] (WO x) msg) w):=by
 obtain⟨b,o,c,rfl,hc,h8⟩:=hx.has (by omega);refine enter (args:=[.slice (some ⟨b,o,none⟩) x.length c,vm]) Tryz.func20 rfl (n:=21) rfl λa F=>?_
 refine AO (AX F rfl λa F=>AX F rfl λa F=>AJ ?_);refine AO (AA F rfl λa F=>DI F rfl (Ar rfl F.e Tryz.call34) (Fu hx (by omega) (.inr ⟨_,_,_,rfl⟩)) λe w1 h1=>?_);obtain⟨v1,Nx,m1⟩:=h1.ret;have g1:=h1.an;obtain⟨b1,o1,c1,rfl,tS,h81⟩:=m1.has (by omega);refine⟨_,Nx,λa F=>DI F rfl (Ar rfl F.e Tryz.call33) (by rw[hl];exact fF hG (LF hG ε g1) (z8 δ g1.1) h81 hl (by omega)) λe w2 h2=>?_⟩;obtain⟨B,o2,Fo,hB,M2⟩:=h2.ret;have g2:=g1.trans h2.an;refine⟨_,Fo,λa F=>AA F rfl λa F=>AZ F rfl (EZ F.e) λa F=>AZ F rfl (DW F.e) λa F=>AB F rfl λa F=>AB F rfl λa F=>AJ ?_⟩;refine wp_seq (AO (AA F rfl λa F=>AZ F rfl (Pm F.e rfl) λa F=>AJ (wp_cond_false F.e (wp_skip ?_))));show Code.wp _ _ _ _ _;refine AO (AA F rfl λa F=>AA F rfl λa F=>DI F rfl (Ar rfl F.e Tryz.call34) (Fu (hm.bc g2) (by omega) hz) λe w3 h3=>?_);obtain⟨v3,ON,m3⟩:=h3.ret;have g3:=g2.trans h3.an;refine⟨_,ON,λa F=>DI F rfl (Au rfl F.e F.e Tryz.call41) (ACX hG (LF hG ε g3) (z8 δ g3.1) ((show AQ false w2 (B,o2) We _ from⟨M2.1,λi k x a b=>(M2.2 i k x a b).gO⟩).an h3.an λ_ _ h=>h) m3 gr) λe w4 h4=>?_⟩;obtain⟨B4,he4,m4⟩:=h4.ret;have g4:=g3.trans h4.an;refine⟨_,he4,λa F=>DI F rfl (Ar rfl F.e Tryz.call34) (Q9 (C8.cV m4) m4.len8 (by omega)) λe w5 h5=>?_⟩;obtain⟨v5,he5,m5⟩:=h5.ret;have g5:=g4.trans h5.an;refine⟨_,he5,λa F=>AB F rfl λa F=>AX F rfl λa F=>AJ ?_⟩;refine DC ⟨F.df,.tuple #[v5,.bool true],?_,⟨v5,rfl,m5⟩,m4.len8,g5,LF hG ε g5⟩;have q4:=F.tm 4;have q5:=F.tm 5;rw[Ti] at q4 q5;simp[results,Tryz.results20,go_sem];exact⟨q4,q5⟩
end
end
section
open Go Go.RowKit Go.ChangeShapes Go.WideShapes
def Q3(w:World)(e:Ending)(w':World):Prop:=e= .returned (.bool true)/\Below w.heap.size w w'
set_option maxRecDepth 100000 in
theorem OJ{H:Type}{enc:TypeId×Value->H}{W:World}{EC:Nat}{v:Value}{d:DataW H}{p:List MemPlace}(cG:Value.okWide Tryz.prog W .any EC 22 v)(h:DataW.Trod enc Tryz.prog W 0 (λ_=>true) true 22 v d p):
  ∃a n c xs,v= .slice a n c/\IX W v xs/\xs.length=n/\(v= .slice none 0 0\/∃a n c,v= .slice (some a) n c):=by
 rcases sH Tryz.underlying22 Tryz.underlying5 (by kernel_rfl) cG h with⟨rfl,_,_⟩|⟨a,n,c,zs,rfl,F2,NX,hz,_,_,cY,hr,G0⟩
 ·exact⟨none,0,0,[],rfl,IX.nil rfl rfl,rfl,.inl rfl⟩
 ·have hl:(zs.take n).length=n:=by rw[Rk];omega
  refine⟨some a,n,c,zs.take n,rfl,?_,hl,.inr ⟨_,_,_,rfl⟩⟩;rcases Nat.eq_zero_or_pos n with h0|h0
  ·subst h0;exact IX.nil rfl rfl
  ·obtain⟨b,o,s⟩:=a;have hs:s=none:=G0 (by omega);subst hs;refine IX.cR ⟨λx hx=>hr x (List.mem_of_mem_take hx),λi hi=>?_⟩ hl F2;rw[hl] at hi;have:=cY i (by omega);rw[Addr.add_lit] at this;rw[this];simp[List.getD,hi]
section
variable{GB:Nat}{GC:Nat->Nat->Option Value}{ad:Nat->Nat×Nat}(hG:Gw GB GC ad)
include hG
end
end
end Go.Proofs.YtloibefkijfdlaaGreatDoor
