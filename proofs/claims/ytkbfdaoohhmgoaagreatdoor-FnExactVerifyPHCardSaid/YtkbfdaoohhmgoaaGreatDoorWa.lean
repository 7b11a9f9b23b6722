/- Contracts in the kit's words: keys told of 32 bytes; two lists of bytes compared. -/
import Derived.Test.YtkbfdaoohhmgoaaGreatDoorKyx
import Derived.WalkKit
import Derived.Laws.IdiomStrings
import Derived.OwnWalk
import Derived.Deep.LoopGhost
import Derived.Lib.Walk
import Derived.Lib.SliceRun
import Derived.WalkMore
import Derived.Lib.ItoaLen
import Derived.Laws.IdiomCopy
namespace Go.Proofs.YtkbfdaoohhmgoaaGreatDoor
section
open Go Ma Go.RowKit
def DD(w:World)(b o:Nat)(xs:List Int):Prop:=(∀x∈xs,0<=x/\x<=255)/\∀i,i<xs.length->w.cell? ⟨b,o+i,none⟩=some (.int .u8 (xs.getD i 0))
theorem DD.below{w w':World}{B b o:Nat}{xs:List Int}(h:DD w b o xs)(hb:Below B w w')(hl:b<B):DD w' b o xs:=
 ⟨h.1,λi hi=>by rw[<- h.2 i hi];exact hb.cell (p:=⟨b,o+i,none⟩) hl⟩
theorem DD.lt{w:World}{b o:Nat}{xs:List Int}(h:DD w b o xs)(h0:0<xs.length):b<w.heap.size:=by
 have:=h.2 0 h0;rcases kz b w.heap.size with h1|h1
 ·exact h1
 ·simp[World.cell?,uM h1] at this
theorem DD.iz{w:World}{b:Nat×Nat}{n:Nat}{xs:List Int}(h:AO true w b (List.replicate n .u8) xs):DD w b.1 b.2 xs:=by
 obtain⟨⟨h1,h2⟩,h3⟩:=h;rw[Rp] at h1;have hk:∀i,i<n->(List.replicate n IntKind.u8)[i]? = some .u8:=λi hi=>by simp[hi]
 refine⟨λx hx=>?_,λi hi=>?_⟩
 ·obtain⟨i,hi,rfl⟩:=kY hx;exact h2 i .u8 _ (hk i (by omega)) (Io hi)
 ·have:=(h3 i .u8 _ (hk i (by omega)) (Io hi)).1;rw[show xs.getD i 0=xs[i] by simp[List.getD,hi]];exact this
theorem DD.pm{GB:Nat}{w:World}{b o n c g:Nat}{xs:List Int}(h:DD w b o xs)(hl:xs.length=n)(hc:n<=c):PM GB w (.sl (List.replicate n .u8) g false) (.slice (some ⟨b,o,none⟩) n c) xs (b,o):=
 ARK hl hc h.1 λi hi=>h.2 i (by omega)
def BW(xs:List Int):List UInt8:=xs.map λx=>UInt8.ofNat x.toNat
theorem DD.str{P:Program}{w:World}{b o n c src dst e:Nat}{xs:List Int}(h:DD w b o xs)(hl:xs.length=n)(hs:P.underlying src=some (.slice e))(he:P.underlying e=some (.int .u8))(hd:P.underlying dst=some .string):
  (convert src dst (.slice (some ⟨b,o,none⟩) n c)).run P w= .ok (.string ⟨(BW xs).toArray⟩) w:=by
 have:=run_convert_bytes_back (P:=P) w src dst e ⟨b,o,none⟩ c (BW xs) hs he hd (λj hj=>by
  have oE:j<xs.length:=by simpa[BW] using hj
  rw[Addr.add_lit,h.2 j oE];have hx:=h.1 xs[j] (ku oE);have e1:xs.getD j 0=xs[j]:=by simp[List.getD,oE]
  rw[e1];simp only[BW,List.getElem_map]
  congr 2
  simp only[UInt8.toNat_ofNat'];omega)
 rw[show(BW xs).length=n by simp[BW,hl]] at this;exact this
section
variable{GB:Nat}{GC:Nat->Nat->Option Value}{ad:Nat->Nat×Nat}(hG:GI GB GC ad)
include hG
end
section
variable{GB:Nat}{GC:Nat->Nat->Option Value}{ad:Nat->Nat×Nat}(hG:GI GB GC ad)
include hG
end
end
section
open Go Ma Go.RowKit Go.Lib Go.ChangeShapes Go.WideShapes
theorem mixed:Tryz.prog.follows .mixedOrders=true:=by kernel_rfl
theorem i8:(Tryz.prog.info? 5).map (λi=>(i.zero,i.size,i.bytes))=some (some (Value.int IntKind.u8 0),1,1):=by kernel_rfl
def v8(xs:List Int):List Value:=xs.map (Value.int .u8)
theorem DD.at{w:World}{b o:Nat}{xs:List Int}(h:DD w b o xs):∀j u,(v8 xs)[j]? = some u->w.cell? ((⟨b,o,none⟩:Addr).add j)=some u:=λj u hj=>by
 have oE:j<xs.length:=by have:=(Oa.1 hj).1;simpa[v8] using this
 rw[Addr.add_lit,h.2 j oE];have:(v8 xs)[j]? = some (.int .u8 (xs.getD j 0)):=by simp[v8,List.getD,oE]
 rw[this] at hj;exact hj
theorem VN{xs:List Int}:∀u∈v8 xs,u.oneCell'=true:=λu hu=>by
 obtain⟨x,_,rfl⟩:=Us.1 hu;rfl
theorem Ya{w:World}{B n:Nat}{v:Value}{xs:List Int}(h:w.ownsRow B 5 1 v n (v8 xs))(h0:0<n)(hx:∀x∈xs,0<=x/\x<=255):∃b c,v= .slice (some ⟨b,0,none⟩) n c/\n<=c/\B<=b/\b<w.heap.size/\DD w b 0 xs:=by
 obtain⟨hl,⟨_,h1⟩|⟨g,cap,cur,h1,h2,h3,h4,h5,h6,h7⟩⟩:=h
 ·omega
 ·have bj:g<w.heap.size:=by
   rcases kz g w.heap.size with h|h
   ·exact h
   ·simp[uM h] at h3
  refine⟨g,cap,h1,h4,h2,bj,hx,λi hi=>?_⟩;have DM:xs.length=n:=by simpa[v8] using hl
  have h8:cur[i]? = some (.int .u8 (xs.getD i 0)):=by
   have e1:(cur.toList.take (n*1))[i]? = (v8 xs)[i]? := by rw[h7]
   rw[List.getElem?_take,if_pos (by omega)] at e1;have e2:(v8 xs)[i]? = some (.int .u8 (xs.getD i 0)):=by simp[v8,List.getD,hi]
   rw[e2] at e1;simpa using e1
  simp only[World.cell?,h3,KN,h8];rfl
theorem fw{w1 w2:World}{o:Obj}{n c:Nat}(h:(w1.alloc o).grownBy w2 (Value.slice (some ⟨w1.heap.size,0,none⟩) n c).ownBlock):Below w1.heap.size w1 w2:=
 ((Below.refl _ w1).alloc (Ie _) _).grown h (by simp) (by intro k hk;simp[Value.ownBlock] at hk;omega)
theorem Wz{B n:Nat}{e:TypeId}{v:Value}{xs:List Value}{w1 w2:World}(τ:w1.ownsRow B e 1 v n xs)(h:w1.grownBy w2 v.ownBlock)(hB:B<=w1.heap.size):Below B w1 w2:=
 (Below.refl _ w1).grown h hB (λk hk=>(τ.lt k hk).1)
theorem eZ{P:Program}{w w':World}{name:String}{k:IntKind}{zs:List Int}(h:Lib.TabIs P w name k zs)(hb:Below w.heap.size w w'):Lib.TabIs P w' name k zs:=by
 unfold Lib.TabIs at h ⊢;unfold World.var? at h ⊢;cases hg:P.globalNamed name with
 |none=>rw[hg] at h;cases h
 | some g=>
  rw[hg] at h;simp only[Option.bind_some] at h ⊢;have bj:g<w.heap.size:=by
   rcases kz g w.heap.size with h1|h1
   ·exact h1
   ·simp[uM h1] at h
  rw[hb.block g bj];exact h
theorem ABG{w:World}{B n:Nat}{e:TypeId}{v:Value}{xs:List Value}(h:w.ownsRow B e 1 v n xs):∃a c,v= .slice a n c:=by
 obtain⟨_,⟨h1,h2⟩|⟨g,cap,cur,h1,_⟩⟩:=h
 ·exact⟨none,0,by rw[h1,h2]⟩
 ·exact⟨_,_,h1⟩
end
section
open Go
section
variable{P:Program}{ops:Array Oper}{Q:Exit->Act->World->Prop}{rest:List Oper}{a:Act}{w:World}{n:Nat}{f:Nat->Value}
theorem AA{t x:Nat}{ty:TypeId}{pos:String}{af:Array Edge}(F:Fr a n f)(ht:Nat.blt t n=true)(hn:∀a',Fr a' n (Rw f t (f x))->wpList P ops Q rest a' w):wpList P ops Q (⟨some t,.move (.tmp x),ty,pos,af,none⟩::rest) a w:=
 qB F rfl rfl ht (by simp only[execOp,F.ev (t:=x) rfl];rfl) hn
theorem AB{t x:Nat}{ty:TypeId}{pos:String}{af:Array Edge}(F:Fr a n f)(ht:Nat.blt t n=true)(hn:∀a',Fr a' n (Rw f t (f x))->wpList P ops Q rest a' w):wpList P ops Q (⟨some t,.assign (.tmp x),ty,pos,af,none⟩::rest) a w:=
 qB F rfl rfl ht (by simp only[execOp,F.ev (t:=x) rfl];rfl) hn
theorem Aj{t:Nat}{v:Value}{ty:TypeId}{pos:String}{af:Array Edge}(F:Fr a n f)(ht:Nat.blt t n=true)(hn:∀a',Fr a' n (Rw f t v)->wpList P ops Q rest a' w):wpList P ops Q (⟨some t,.assign (.const v),ty,pos,af,none⟩::rest) a w:=
 qB F rfl rfl ht (by simp only[execOp,Act.eval];rfl) hn
theorem AKx{P:Program}{ρ:Operand->Value}{d:Option Tmp}{x:Operand}{ty:TypeId}{pos:String}{af:Array Edge}{w:World}{p:Addr}(h:ρ x= .pointer (some p)):(execOp ρ ⟨d,.nilCheck x,ty,pos,af,none⟩).run P w= .ok (.value (.pointer (some p))) w:=by
 simp[execOp,go_sem,h]
theorem Eu{t x:Nat}{p:Addr}{ty:TypeId}{pos:String}{af:Array Edge}(F:Fr a n f)(hx:f x= .pointer (some p))(ht:Nat.blt t n=true)(hn:∀a',Fr a' n (Rw f t (.pointer (some p)))->wpList P ops Q rest a' w):wpList P ops Q (⟨some t,.nilCheck (.tmp x),ty,pos,af,none⟩::rest) a w:=
 qB F rfl rfl ht (AKx (F.ev hx)) hn
theorem GM{x y:Code}{J:Act->World->Prop}(hx:x.wp P (λe a' w'=>e= .normal/\J a' w') a w)(hy:∀a' w',J a' w'->y.wp P Q a' w'):(Code.seq x y).wp P Q a w:=
 wp_seq (wp_mono hx λe a' w' ⟨he,hj⟩=>by subst he;exact hy a' w' hj)
theorem Cn(h:Q .ret a w):Code.ret.wp P Q a w:=wp_ret h
theorem ry{t:Nat}{b:Bool}{x y:Code}(F:Fr a n f)(hx:f t= .bool b)(h1:b=true->x.wp P Q a w)(h2:b=false->y.wp P Q a w):(Code.cond (.tmp t) x y).wp P Q a w:=
 wp_cond_split (F.ev hx) h1 h2
end
section
variable{ρ:Operand->Value}{d:Option Tmp}{x y:Operand}{ty:TypeId}{pos:String}{af:Array Edge}{w:World}{b o:Nat}
theorem OE{p:Option Addr}{m c:Nat}(h:ρ x= .slice p m c):(execOp ρ ⟨d,.call ⟨.builtin .len,#[x],#[22]⟩,ty,pos,af,none⟩).run Tryz.prog w= .ok (.value (.int .i64 m)) w:=by
 simp[go_sem,h]
theorem Np{i j:Int}(h:ρ x= .int .i64 i)(hy:ρ y= .int .i64 j):(execOp ρ ⟨d,.binOp .geq 3 x y 3,ty,pos,af,none⟩).run Tryz.prog w= .ok (.value (.bool (decide (j<=i)))) w:=by
 simp[execOp,go_sem,h,hy]
theorem xg{i j:Int}(h:ρ x= .int .i64 i)(hy:ρ y= .int .i64 j):(execOp ρ ⟨d,.binOp .gtr 3 x y 3,ty,pos,af,none⟩).run Tryz.prog w= .ok (.value (.bool (decide (j<i)))) w:=by
 simp[execOp,go_sem,h,hy]
theorem ABy{i j:Int}(h:ρ x= .int .i64 i)(hy:ρ y= .int .i64 j):(execOp ρ ⟨d,.binOp .eql 3 x y 3,ty,pos,af,none⟩).run Tryz.prog w= .ok (.value (.bool (i == j))) w:=by
 simp[execOp,go_sem,h,hy]
theorem XK{i j:Int}(h:ρ x= .int .i64 i)(hy:ρ y= .int .i64 j):(execOp ρ ⟨d,.binOp .add 3 x y 3,ty,pos,af,none⟩).run Tryz.prog w= .ok (.value (.int .i64 (IntKind.i64.wrap (i+j)))) w:=by
 simp[execOp,go_sem,h,hy]
theorem sM{i j:Int}(h:ρ x= .int .u64 i)(hy:ρ y= .int .u64 j):(execOp ρ ⟨d,.binOp .add 38 x y 38,ty,pos,af,none⟩).run Tryz.prog w= .ok (.value (.int .u64 (IntKind.u64.wrap (i+j)))) w:=by
 simp[execOp,go_sem,h,hy]
theorem ASe{i:Int}(h:ρ x= .int .i64 i):(execOp ρ ⟨d,.convert 3 38 x,ty,pos,af,none⟩).run Tryz.prog w= .ok (.value (.int .u64 (IntKind.u64.wrap i))) w:=by
 simp[execOp,go_sem,h]
theorem bJ{i:Int}(h:ρ x= .pointer (some ⟨b,o,none⟩))(hc:w.cell? ⟨b,o,none⟩=some (.int .i64 i)):(execOp ρ ⟨d,.load 3 x,ty,pos,af,none⟩).run Tryz.prog w= .ok (.value (.int .i64 i)) w:=by
 simp[execOp,go_sem,h,hc]
theorem QA{i:Int}(h:ρ x= .pointer (some ⟨b,o,none⟩))(hc:w.cell? ⟨b,o,none⟩=some (.int .u64 i)):(execOp ρ ⟨d,.load 38 x,ty,pos,af,none⟩).run Tryz.prog w= .ok (.value (.int .u64 i)) w:=by
 simp[execOp,go_sem,h,hc]
theorem ABl{i j:Int}(h:ρ x= .pointer (some ⟨b,o,none⟩))(hy:ρ y= .int .i64 j)(hc:CP true w b o (.int .i64 i)):(execOp ρ ⟨d,.store 3 x y,ty,pos,af,none⟩).run Tryz.prog w= .ok .skip (w.setCell ⟨b,o,none⟩ (.int .i64 j)):=by
 simp[execOp,go_sem,h,hy,hc.1,hc.2 rfl]
theorem AKu{i j:Int}(h:ρ x= .pointer (some ⟨b,o,none⟩))(hy:ρ y= .int .u64 j)(hc:CP true w b o (.int .u64 i)):(execOp ρ ⟨d,.store 38 x y,ty,pos,af,none⟩).run Tryz.prog w= .ok .skip (w.setCell ⟨b,o,none⟩ (.int .u64 j)):=by
 simp[execOp,go_sem,h,hy,hc.1,hc.2 rfl]
theorem qX(h:ρ x= .pointer (some ⟨b,o,none⟩)):(execOp ρ ⟨d,.fieldAddr 115 x 0,ty,pos,af,none⟩).run Tryz.prog w= .ok (.value (.pointer (some ⟨b,o,none⟩))) w:=by
 simp[execOp,go_sem,h]
theorem AMp(h:ρ x= .pointer (some ⟨b,o,none⟩)):(execOp ρ ⟨d,.fieldAddr 115 x 1,ty,pos,af,none⟩).run Tryz.prog w= .ok (.value (.pointer (some ⟨b,o+8,none⟩))) w:=by
 simp[execOp,go_sem,h]
theorem mH(h:ρ x= .pointer (some ⟨b,o,none⟩)):(execOp ρ ⟨d,.fieldAddr 115 x 2,ty,pos,af,none⟩).run Tryz.prog w= .ok (.value (.pointer (some ⟨b,o+136,none⟩))) w:=by
 simp[execOp,go_sem,h]
theorem ALJ(h:ρ x= .pointer (some ⟨b,o,none⟩)):(execOp ρ ⟨d,.fieldAddr 115 x 3,ty,pos,af,none⟩).run Tryz.prog w= .ok (.value (.pointer (some ⟨b,o+137,none⟩))) w:=by
 simp[execOp,go_sem,h]
theorem APa(h:ρ x= .pointer (some ⟨b,o,none⟩)):(execOp ρ ⟨d,.fieldAddr 115 x 4,ty,pos,af,none⟩).run Tryz.prog w= .ok (.value (.pointer (some ⟨b,o+138,none⟩))) w:=by
 simp[execOp,go_sem,h]
theorem sz8:∀w:World,(sizeOf 5).run Tryz.prog w= .ok 1 w:=λw=>by simp[go_sem]
theorem zb{kk:IntKind}{p:Option Addr}{m c k:Nat}(hx:ρ x= .slice p m c)(hy:ρ y= .int kk k)(h1:k<=m)(_h2:m<=c):(execOp ρ ⟨d,.slice 22 x (some y) none none,ty,pos,af,none⟩).run Tryz.prog w= .ok (.value (.slice (if c=k then p else p.map (·.add k)) (m-k) (c-k))) w:=by
 have hu:=run_underlying (w:=w) Tryz.underlying22;have hb:∀code,(Instr.sliceBound (.int kk k) m code).run Tryz.prog w= .ok k w:=λcode=>Bn _ w h1 code
 simp only[execOp,hx,hy,UT,Option.map_none,Instr.sliceAt,Instr.slice,Gi,hu,Fb];simp[Instr.sliceBounds,hb]
theorem gL{kk:IntKind}{p:Option Addr}{m c k:Nat}(hx:ρ x= .slice p m c)(hy:ρ y= .int kk k)(h1:k<=c):(execOp ρ ⟨d,.slice 22 x none (some y) none,ty,pos,af,none⟩).run Tryz.prog w= .ok (.value (.slice p k c)) w:=by
 have hu:=run_underlying (w:=w) Tryz.underlying22;have hb:∀code,(Instr.sliceBound (.int kk k) c code).run Tryz.prog w= .ok k w:=λcode=>Bn _ w h1 code
 simp only[execOp,hx,hy,UT,Option.map_none,Instr.sliceAt,Instr.slice,Gi,hu,Fb];simp only[Instr.sliceBounds,hb,sz8,Gi,I4,Fb];have e:(p.map λq=>q.add (0*1))=p:=by cases p<;>simp[Addr.add]
 simp[e]
theorem AQZ{kk:IntKind}{k:Nat}(hx:ρ x= .pointer (some ⟨b,o,none⟩))(hy:ρ y= .int kk k)(h1:k<128):(execOp ρ ⟨d,.slice 113 x (some y) none none,ty,pos,af,none⟩).run Tryz.prog w= .ok (.value (.slice (some ⟨b,o+k,none⟩) (128-k) (128-k))) w:=by
 have hu:=run_underlying (w:=w) Tryz.underlying113;have hb:∀code,(Instr.sliceBound (.int kk k) 128 code).run Tryz.prog w= .ok k w:=λcode=>Bn _ w (by omega) code
 simp only[execOp,hx,hy,UT,Option.map_none,Instr.sliceAt,Instr.slice,Gi,hu,Fb];have cj:¬(128=k):=by omega
 simp[Instr.sliceBounds,Instr.sureAddr,Ce,cj,go_sem];intro h;omega
theorem AKa(hx:ρ x= .pointer (some ⟨b,o,none⟩)):(execOp ρ ⟨d,.slice 113 x none none none,ty,pos,af,none⟩).run Tryz.prog w= .ok (.value (.slice (some ⟨b,o,none⟩) 128 128)) w:=by
 have hu:=run_underlying (w:=w) Tryz.underlying113;simp only[execOp,hx,Option.map_none,Instr.sliceAt,Instr.slice,Gi,hu,Fb];simp[Instr.sliceBounds,Instr.sureAddr,go_sem]
theorem BJ{g:Nat}{u:Value}(hF:ρ (.func g)= .func (.func g) #[] #[])(h:ρ x=u){at_:Array TypeId}(hc:∀(vs:Array Value) (w:World),(callFunc g vs).run Tryz.prog w= .ok (.enter g vs) w):(execOp ρ ⟨d,.call ⟨.value (.func g),#[x],at_⟩,ty,pos,af,none⟩).run Tryz.prog w= .ok (.enter g #[u]) w:=by
 simp[execOp,go_sem,h,hF,hc]
theorem LG{g:Nat}(hF:ρ (.func g)= .func (.func g) #[] #[]){at_:Array TypeId}(hc:∀(vs:Array Value) (w:World),(callFunc g vs).run Tryz.prog w= .ok (.enter g vs) w):(execOp ρ ⟨d,.call ⟨.value (.func g),#[],at_⟩,ty,pos,af,none⟩).run Tryz.prog w= .ok (.enter g #[]) w:=by
 simp[execOp,go_sem,hF,hc]
theorem Bg{g:Nat}{u v:Value}(hF:ρ (.func g)= .func (.func g) #[] #[])(h:ρ x=u)(hy:ρ y=v){at_:Array TypeId}(hc:∀(vs:Array Value) (w:World),(callFunc g vs).run Tryz.prog w= .ok (.enter g vs) w):(execOp ρ ⟨d,.call ⟨.value (.func g),#[x,y],at_⟩,ty,pos,af,none⟩).run Tryz.prog w= .ok (.enter g #[u,v]) w:=by
 simp[execOp,go_sem,h,hy,hF,hc]
theorem AHO{p q:Option Addr}{m c m' c':Nat}(hx:ρ x= .slice p m c)(hy:ρ y= .slice q m' c')(h0:Nat.min m' m=0):(execOp ρ ⟨d,.call ⟨.builtin .copy,#[x,y],#[22,22]⟩,ty,pos,af,none⟩).run Tryz.prog w= .ok (.value (.int .i64 0)) w:=by
 have cT:=run_copy_none (P:=Tryz.prog) w 22 22 ty 5 p q m c m' c' Tryz.underlying22 (by kernel_rfl) h0;simp[execOp,resolve,invoke,builtin,hx,hy,cT,Result.andThen,goInt]
theorem AE9{q:Addr}{m c m' c':Nat}{ys:List Int}(hx:ρ x= .slice (some ⟨b,o,none⟩) m c)(hy:ρ y= .slice (some q) m' c')(hl:ys.length=Nat.min m' m)(hs:∀i,i<ys.length->w.cell? (q.add i)=some (.int .u8 (ys.getD i 0)))(hd:∀i,i<ys.length->∃u,CP true w b (o+i) u):
  (execOp ρ ⟨d,.call ⟨.builtin .copy,#[x,y],#[22,22]⟩,ty,pos,af,none⟩).run Tryz.prog w= .ok (.value (.int .i64 ys.length)) (w.setCells b o (v8 ys)):=by
 have mC:(v8 ys).length=ys.length:=by simp[v8]
 have cT:=run_copy_cells (P:=Tryz.prog) w 22 22 ty 5 b o m c q m' c' (v8 ys) Tryz.underlying22 (by kernel_rfl) (by rw[mC,hl]) (λj v hj=>by
  have oE:j<ys.length:=by have:=(Oa.1 hj).1;omega
  rw[hs j oE];have:(v8 ys)[j]? = some (.int .u8 (ys.getD j 0)):=by simp[v8,List.getD,oE]
  rw[<- this];exact hj) (λj hj=>by
  obtain⟨u,hu⟩:=hd j (by omega);rw[hu.1];rfl) (λj hj=>by
  obtain⟨u,hu⟩:=hd j (by omega);exact hu.2 rfl) VN
 rw[mC] at cT;simp[execOp,resolve,invoke,builtin,hx,hy,cT,Result.andThen,goInt]
end
theorem Gb{f:Bool}{w:World}{b o b' o':Nat}{v:Value}:∀ {vs:List Value},CP f w b o v->(b≠b'\/o<o'\/o'+vs.length<=o)->CP f (w.setCells b' o' vs) b o v:=λ{vs} h hn=>by
 refine⟨?_,λhf=>?_⟩
 ·rw[World.cell?_setCells_out b' vs o' w ⟨b,o,none⟩ (λh1 _=>hn.resolve_left (λcj=>cj h1))];exact h.1
 ·rw[World.frozen?_setCells];exact h.2 hf
theorem RH{w:World}{b o i:Nat}{vs:List Value}(hd:∀j,j<vs.length->∃u,CP true w b (o+j) u)(hi:i<vs.length):CP true (w.setCells b o vs) b (o+i) (vs.getD i undef):=by
 refine⟨?_,λ_=>?_⟩
 ·rw[World.cell?_setCells_in b vs o w (λj hj=>by obtain⟨u,hu⟩:=hd j hj;rw[hu.1];rfl) i hi];simp[List.getD,hi]
 ·rw[World.frozen?_setCells];obtain⟨u,hu⟩:=hd i hi;exact hu.2 rfl
theorem BG{S:Nat->Nat->Prop}{b:Nat}:∀(vs:List Value) (o:Nat) {w0 w:World},BD w0 w S->(∀i,i<vs.length->w0.heap.size<=b\/S b (o+i))->BD w0 (w.setCells b o vs) S
 | [],o,w0,w,h,_=>h
 |v::vs,o,w0,w,h,hs=>by
  unfold World.setCells;refine BG vs (o+1) (h.setCell (hs 0 (by simp))) λi hi=>?_
  have:=hs (i+1) (by rw[NY];omega);rwa [show o+1+i=o+(i+1) by omega]
theorem AO.at8{f:Bool}{w:World}{b o n:Nat}{xs:List Int}(h:AO f w (b,o) (List.replicate n .u8) xs){i:Nat}(hi:i<n):CP f w b (o+i) (.int .u8 (xs.getD i 0))/\xs.length=n/\0<=xs.getD i 0/\xs.getD i 0<=255:=by
 obtain⟨⟨h1,h2⟩,h3⟩:=h;rw[Rp] at h1;have hk:(List.replicate n IntKind.u8)[i]? = some .u8:=by simp[hi]
 have hx:xs[i]? = some (xs.getD i 0):=by simp[List.getD,show i<xs.length by omega]
 have:=h2 i .u8 _ hk hx;exact⟨h3 i .u8 _ hk hx,h1,this.1,this.2⟩
theorem AJe{f:Bool}{w:World}{b o n:Nat}{xs:List Int}(hl:xs.length=n)(hx:∀x∈xs,0<=x/\x<=255)(h:∀i,i<n->CP f w b (o+i) (.int .u8 (xs.getD i 0))):AO f w (b,o) (List.replicate n .u8) xs:=by
 refine⟨⟨by simp[hl],λi k x hk pn=>?_⟩,λi k x hk pn=>?_⟩
 ·have nB:=(A6.1 (MB hk)).2;rw[nB];exact hx x (MB pn)
 ·have nB:=(A6.1 (MB hk)).2;rw[nB];have hi:i<n:=by have:=(Oa.1 pn).1;omega
  have:=h i hi;rwa [show xs.getD i 0=x by simp[List.getD,pn]] at this
theorem AO.jz{f:Bool}{w:World}{b:Nat×Nat}{n:Nat}{xs:List Int}(h:AO f w b (List.replicate n .u8) xs):∀x∈xs,0<=x/\x<=255:=λx hx=>by
 obtain⟨i,hi,rfl⟩:=kY hx;have h1:=h.1.1;rw[Rp] at h1;have:=h.1.2 i .u8 xs[i] (by rw[iF,if_pos (by omega)]) (Io hi);exact⟨this.1,this.2⟩
theorem AO.len8{f:Bool}{w:World}{b:Nat×Nat}{n:Nat}{k:IntKind}{xs:List Int}(h:AO f w b (List.replicate n k) xs):xs.length=n:=by
 have:=h.1.1;simpa using this
def lay(x ys:List Int)(r:Nat):List Int:=x.take r++(ys++x.drop (r+ys.length))
theorem ik{x ys:List Int}{r:Nat}(h:r+ys.length<=x.length):(lay x ys r).length=x.length:=by simp[lay];omega
theorem yF{x ys:List Int}{r i:Nat}(h:r+ys.length<=x.length):(lay x ys r).getD i 0=if r<=i/\i<r+ys.length then ys.getD (i-r) 0 else x.getD i 0:=by
 simp only[lay,List.getD];have h1:(x.take r).length=r:=by simp;omega
 by_cases hi:i<r
 ·rw[gZ (by omega),List.getElem?_take_of_lt hi,if_neg (by omega)]
 ·rw[fQ (by omega),h1];by_cases K1:i-r<ys.length
  ·rw[gZ K1,if_pos (by omega)]
  ·rw[fQ (by omega),List.getElem?_drop,if_neg (by omega)]
   congr 2;omega
theorem UJ{w:World}{b o n r:Nat}{x ys:List Int}(h:AO true w (b,o) (List.replicate n .u8) x)(hy:∀y∈ys,0<=y/\y<=255)(hr:r+ys.length<=n):AO true (w.setCells b (o+r) (v8 ys)) (b,o) (List.replicate n .u8) (lay x ys r):=by
 have hl:=h.len8;have mC:(v8 ys).length=ys.length:=by simp[v8]
 refine AJe (by rw[ik (by omega)];exact hl) (λz hz=>?_) λi hi=>?_
 ·simp only[lay,qM] at hz;rcases hz with hz|hz|hz
  ·exact h.jz z (List.mem_of_mem_take hz)
  ·exact hy z hz
  ·exact h.jz z (HK hz)
 ·rw[yF (by omega)];split
  ·rename_i hh;have:=RH (w:=w) (b:=b) (o:=o+r) (i:=i-r) (vs:=v8 ys) (λj hj=>⟨_,by
    have:=(h.at8 (i:=r+j) (by omega)).1;rwa [<- WZ] at this⟩) (by omega)
   rw[show o+r+(i-r)=o+i by omega] at this;rwa [show(v8 ys).getD (i-r) undef= .int .u8 (ys.getD (i-r) 0) by simp[v8,List.getD,show i-r<ys.length by omega]] at this
  ·exact Gb (h.at8 hi).1 (by omega)
def bY(w:World)(B:Nat)(v:Value)(xs:List Int):Prop:=∃(ap:Option Addr) (c:Nat),v= .slice ap xs.length c/\xs.length<=c/\(∀x∈xs,0<=x/\x<=255)/\(0<xs.length->∃b o,ap=some ⟨b,o,none⟩/\b≠B/\∀i,i<xs.length->w.cell? ⟨b,o+i,none⟩=some (.int .u8 (xs.getD i 0)))
theorem bY.an{w w':World}{B:Nat}{v:Value}{xs:List Int}(h:bY w B v xs)(hf:BD w w' (λb _=>b=B)):bY w' B v xs:=by
 obtain⟨ap,c,h1,h2,h3,h4⟩:=h;refine⟨ap,c,h1,h2,h3,λh0=>?_⟩;obtain⟨b,o,e,hb,hc⟩:=h4 h0;exact⟨b,o,e,hb,λi hi=>(hf.fk (f:=false) ⟨hc i hi,λh=>(by cases h)⟩ (λh=>hb h)).1⟩
theorem bY.i6{w:World}{B b o n c:Nat}{xs:List Int}(h:DD w b o xs)(hl:xs.length=n)(hc:n<=c)(hb:b≠B):bY w B (.slice (some ⟨b,o,none⟩) n c) xs:=
 ⟨_,c,by rw[hl],by omega,h.1,λ_=>⟨b,o,rfl,hb,h.2⟩⟩
theorem bY.drop{w:World}{B:Nat}{v:Value}{xs:List Int}(h:bY w B v xs)(k:Nat)(hk:k<=xs.length):∀ap m c,v= .slice ap m c->bY w B (.slice (if c=k then ap else ap.map (·.add k)) (m-k) (c-k)) (xs.drop k):=by
 intro ap m c hv;subst hv;obtain⟨ap',c',e,h2,h3,h4⟩:=h;rw[Value.slice.injEq] at e;obtain⟨e1,e2,e3⟩:=e;subst e1;subst e2;subst e3;refine⟨_,c-k,by rw[VK],by rw[VK];omega,λx hx=>h3 x (HK hx),λh0=>?_⟩;rw[VK] at h0;have h5:=h4 (by omega);clear h4;obtain⟨b,o,rfl,hb,hc⟩:=h5;refine⟨b,o+k,?_,hb,λi hi=>?_⟩
 ·rw[if_neg (by omega),UT,Ce]
 ·rw[VK] at hi;rw[WZ,hc (k+i) (by omega)]
  congr 2
  simp[List.getD,List.getElem?_drop]
end
end Go.Proofs.YtkbfdaoohhmgoaaGreatDoor
