/- Contracts in the kit's words: keys told of 32 bytes; two lists of bytes compared. Bytes in rows of one's own; slices that came in. Walking by hand: single operations of this program; bytes in a slice. -/
import Derived.Test.YtloibefkijfdlaaGreatDoorDx
import Derived.Test.YtloibefkijfdlaaGreatDoorKy1
import Derived.Test.YtloibefkijfdlaaGreatDoorLa
import Derived.WalkKit
import Derived.Laws.IdiomStrings
import Derived.OwnWalk
import Derived.Deep.LoopGhost
import Derived.Lib.Walk
import Derived.Lib.SliceRun
import Derived.WalkMore
import Derived.Lib.ItoaLen
import Derived.Laws.IdiomCopy
namespace Go.Proofs.YtloibefkijfdlaaGreatDoor
open Go Ma Go.RowKit
def Has8(w:World)(b o:Nat)(xs:List Int):Prop:=(∀ x∈xs,0≤x∧x≤255)∧∀ i,i<xs.length→w.cell? ⟨b,o+i,none⟩=some (.int .u8 (xs.getD i 0))
theorem Has8.below{w w':World}{B b o:Nat}{xs:List Int}(h:Has8 w b o xs)(hb:Below B w w')(hl:b<B):Has8 w' b o xs:=
 ⟨h.1,fun i hi=>by rw[← h.2 i hi]; exact hb.cell (p:=⟨b,o+i,none⟩) hl⟩
theorem Has8.lt{w:World}{b o:Nat}{xs:List Int}(h:Has8 w b o xs)(h0:0<xs.length):b<w.heap.size:=by
 have:=h.2 0 h0
 rcases Nat.lt_or_ge b w.heap.size with h1|h1
 ·exact h1
 ·simp[World.cell?, Array.getElem?_eq_none h1] at this
theorem Has8.of_mem{w:World}{b:Nat×Nat}{n:Nat}{xs:List Int}(h:MemI true w b (List.replicate n .u8) xs):Has8 w b.1 b.2 xs:=by
 obtain⟨⟨h1,h2⟩,h3⟩:=h
 rw[List.length_replicate] at h1
 have hk:∀ i,i<n→(List.replicate n IntKind.u8)[i]? = some .u8:=fun i hi=>by simp[hi]
 refine⟨fun x hx=> ?_,fun i hi=> ?_⟩
 ·obtain⟨i,hi,rfl⟩:=List.getElem_of_mem hx
  exact h2 i .u8 _ (hk i (by omega)) (lgE hi)
 ·have:=(h3 i .u8 _ (hk i (by omega)) (lgE hi)).1
  rw[show xs.getD i 0=xs[i] by simp[List.getD,hi]]
  exact this
theorem Has8.pm{GB:Nat}{w:World}{b o n c g:Nat}{xs:List Int}(h:Has8 w b o xs)(hl:xs.length=n)(hc:n≤c):PM GB w (.sl (List.replicate n .u8) g false) (.slice (some ⟨b,o,none⟩) n c) xs (b,o):=
 pm_u8 hl hc h.1 fun i hi=>h.2 i (by omega)
def toB(xs:List Int):List UInt8:=xs.map fun x=>UInt8.ofNat x.toNat
theorem Has8.str{P:Program}{w:World}{b o n c src dst e:Nat}{xs:List Int}(h:Has8 w b o xs)(hl:xs.length=n)(hs:P.underlying src=some (.slice e))(he:P.underlying e=some (.int .u8))(hd:P.underlying dst=some .string):
  (convert src dst (.slice (some ⟨b,o,none⟩) n c)).run P w= .ok (.string ⟨(toB xs).toArray⟩) w:=by
 have:=run_convert_bytes_back (P:=P) w src dst e ⟨b,o,none⟩ c (toB xs) hs he hd (fun j hj=>by
  have hj':j<xs.length:=by simpa[toB] using hj
  rw[Addr.add_lit,h.2 j hj']
  have hx:=h.1 xs[j] (List.getElem_mem hj')
  have e1:xs.getD j 0=xs[j]:=by simp[List.getD,hj']
  rw[e1]
  simp only[toB,List.getElem_map]
  congr 2
  simp only[UInt8.toNat_ofNat']
  omega)
 rw[show (toB xs).length=n by simp[toB,hl]] at this
 exact this
section
variable{GB:Nat}{GC:Nat→Nat→Option Value}{ad:Nat→Nat×Nat}(hG:GOk GB GC ad)
include hG
end
section
variable{GB:Nat}{GC:Nat→Nat→Option Value}{ad:Nat→Nat×Nat}(hG:GOk GB GC ad)
include hG
end
theorem same_any(w:World){b1 o1 n1 c1 b2 o2 n2 c2:Nat}{xs:List Int}(h1:Has8 w b1 o1 xs)(h2:Has8 w b2 o2 xs)(l1:xs.length=n1)(l2:xs.length=n2):
  Calls Tryz.prog 19 #[.slice (some ⟨b1,o1,none⟩) n1 c1,.slice (some ⟨b2,o2,none⟩) n2 c2] w fun e w'=>e= .returned (.bool true)∧w=w':=by
 have q1:=h1.str (c:=c1) l1 Tryz.underlying22 Tryz.underlying5 Tryz.underlying9
 have q2:=h2.str (c:=c2) l2 Tryz.underlying22 Tryz.underlying5 Tryz.underlying9
 clear h1 h2 l1 l2
 go_enter Tryz.func19,Tryz.ntmps19
 go_wp2
 all_goals go_ret
 all_goals exact⟨rfl,rfl⟩
end Go.Proofs.YtloibefkijfdlaaGreatDoor

namespace Go.Proofs.YtloibefkijfdlaaGreatDoor
open Go Ma Go.RowKit Go.Lib Go.ChangeShapes Go.WideShapes
theorem mixed:Tryz.prog.follows .mixedOrders=true:=by kernel_rfl
theorem i8:(Tryz.prog.info? 5).map (fun i=>(i.zero,i.size,i.bytes))=some (some (Value.int IntKind.u8 0),1,1):=by kernel_rfl
def v8(xs:List Int):List Value:=xs.map (Value.int .u8)
theorem Has8.at{w:World}{b o:Nat}{xs:List Int}(h:Has8 w b o xs):∀ j u,(v8 xs)[j]? = some u→w.cell? ((⟨b,o,none⟩:Addr).add j)=some u:=fun j u hj=>by
 have hj':j<xs.length:=by have:=(List.getElem?_eq_some_iff.1 hj).1; simpa[v8] using this
 rw[Addr.add_lit,h.2 j hj']
 have:(v8 xs)[j]? = some (.int .u8 (xs.getD j 0)):=by simp[v8,List.getD,hj']
 rw[this] at hj; exact hj
theorem v8_one{xs:List Int}:∀ u∈v8 xs,u.oneCell'=true:=fun u hu=>by
 obtain⟨x,_,rfl⟩:=List.mem_map.1 hu; rfl
theorem own_has{w:World}{B n:Nat}{v:Value}{xs:List Int}(h:w.ownsRow B 5 1 v n (v8 xs))(h0:0<n)(hx:∀ x∈xs,0≤x∧x≤255):∃ b c,v= .slice (some ⟨b,0,none⟩) n c∧n≤c∧B≤b∧b<w.heap.size∧Has8 w b 0 xs:=by
 obtain⟨hl,⟨_,h1⟩|⟨g,cap,cur,h1,h2,h3,h4,h5,h6,h7⟩⟩:=h
 ·omega
 ·have hlt:g<w.heap.size:=by
   rcases Nat.lt_or_ge g w.heap.size with h|h
   ·exact h
   ·simp[Array.getElem?_eq_none h] at h3
  refine⟨g,cap,h1,h4,h2,hlt,hx,fun i hi=> ?_⟩
  have hl2:xs.length=n:=by simpa[v8] using hl
  have h8:cur[i]? = some (.int .u8 (xs.getD i 0)):=by
   have e1:(cur.toList.take (n*1))[i]? = (v8 xs)[i]? := by rw[h7]
   rw[List.getElem?_take,if_pos (by omega)] at e1
   have e2:(v8 xs)[i]? = some (.int .u8 (xs.getD i 0)):=by simp[v8,List.getD,hi]
   rw[e2] at e1
   simpa using e1
  simp only[World.cell?, h3,Nat.zero_add,h8]
  rfl
theorem grown_new{w1 w2:World}{o:Obj}{n c:Nat}(h:(w1.alloc o).grownBy w2 (Value.slice (some ⟨w1.heap.size,0,none⟩) n c).ownBlock):Below w1.heap.size w1 w2:=
 ((Below.refl _ w1).alloc (Nat.le_refl _) _).grown h (by simp) (by intro k hk; simp[Value.ownBlock] at hk; omega)
theorem grown_own{B n:Nat}{e:TypeId}{v:Value}{xs:List Value}{w1 w2:World}(hown:w1.ownsRow B e 1 v n xs)(h:w1.grownBy w2 v.ownBlock)(hB:B≤w1.heap.size):Below B w1 w2:=
 (Below.refl _ w1).grown h hB (fun k hk=>(hown.lt k hk).1)
theorem open_n{H:Type}{enc:TypeId×Value→H}{P:Program}{W:World}{base:Nat}{t e:TypeId}{v:Value}{d:DataW H}{p:List MemPlace}(m:Nat)(hm:0<m)(ht:P.underlying t=some (.slice e))(he:P.underlying e=some (.int .u8))(hc:P.cellsOf e=1)
  (hval:Value.okWide P W .any base t v) (h:DataW.Trod enc P W 0 (fun _=>true) true t v d p):
  (∃ (a:Option Addr) (n c:Nat),v= .slice a n c∧n≠m)∨∃ (b o c:Nat) (xs:List Int),v= .slice (some ⟨b,o,none⟩) m c∧m≤c∧xs.length=m∧Has8 W b o xs:=by
 rcases open_u8 ht he hc hval h with ⟨rfl,_,_⟩|⟨a,n,c,zs,rfl,hnc,hcm,hz,_,_,hcell,hr,hsp⟩
 ·exact .inl ⟨none,0,0,rfl,by omega⟩
 ·by_cases hn:n=m
  ·subst hn
   obtain⟨b,o,s⟩:=a
   have hs:s=none:=hsp (by omega)
   subst hs
   refine .inr ⟨b,o,c,zs.take n,rfl,hnc,by rw[List.length_take]; omega,fun x hx=>hr x (List.mem_of_mem_take hx),fun i hi=> ?_⟩
   rw[List.length_take] at hi
   have:=hcell i (by omega)
   rw[Addr.add_lit] at this
   rw[this]
   simp[List.getD,show i<n by omega]
  ·exact .inl ⟨some a,n,c,rfl,hn⟩
theorem ne_dec{n m:Nat}(h:n≠m):((n:Int) == (m:Int))=false:=by
 simp only[beq_eq_false_iff_ne,ne_eq]; omega
theorem tab_below{P:Program}{w w':World}{name:String}{k:IntKind}{zs:List Int}(h:Lib.TabIs P w name k zs)(hb:Below w.heap.size w w'):Lib.TabIs P w' name k zs:=by
 unfold Lib.TabIs at h ⊢
 unfold World.var? at h ⊢
 cases hg:P.globalNamed name with
 |none=>rw[hg] at h; cases h
 | some g=>
  rw[hg] at h
  simp only[Option.bind_some] at h ⊢
  have hlt:g<w.heap.size:=by
   rcases Nat.lt_or_ge g w.heap.size with h1|h1
   ·exact h1
   ·simp[Array.getElem?_eq_none h1] at h
  rw[hb.block g hlt]; exact h
theorem grow_below(w:World)(n:Nat)(os:Array Obj):Below w.heap.size w (Go.Sort.grow (w.drewN n) os):=
 ⟨rfl,rfl,rfl,by simp[Go.Sort.grow],fun k hk=>by
  show (w.heap++os)[k]? = _
  rw[Array.getElem?_append_left hk]⟩
theorem own_slice{w:World}{B n:Nat}{e:TypeId}{v:Value}{xs:List Value}(h:w.ownsRow B e 1 v n xs):∃ a c,v= .slice a n c:=by
 obtain⟨_,⟨h1,h2⟩|⟨g,cap,cur,h1,_⟩⟩:=h
 ·exact⟨none,0,by rw[h1,h2]⟩
 ·exact⟨_,_,h1⟩
end Go.Proofs.YtloibefkijfdlaaGreatDoor

namespace Go.Proofs.YtloibefkijfdlaaGreatDoor
open Go
section
variable{P:Program}{ops:Array Oper}{Q:Exit→Act→World→Prop}{rest:List Oper}{a:Act}{w:World}{n:Nat}{f:Nat→Value}
theorem w_move{t x:Nat}{ty:TypeId}{pos:String}{af:Array Edge}(F:Fr a n f)(ht:Nat.blt t n=true)(hn:∀ a',Fr a' n (upd f t (f x))→wpList P ops Q rest a' w):wpList P ops Q (⟨some t,.move (.tmp x),ty,pos,af,none⟩::rest) a w:=
 w_val F rfl rfl ht (by simp only[execOp,F.ev (t:=x) rfl]; rfl) hn
theorem w_assign{t x:Nat}{ty:TypeId}{pos:String}{af:Array Edge}(F:Fr a n f)(ht:Nat.blt t n=true)(hn:∀ a',Fr a' n (upd f t (f x))→wpList P ops Q rest a' w):wpList P ops Q (⟨some t,.assign (.tmp x),ty,pos,af,none⟩::rest) a w:=
 w_val F rfl rfl ht (by simp only[execOp,F.ev (t:=x) rfl]; rfl) hn
theorem w_const{t:Nat}{v:Value}{ty:TypeId}{pos:String}{af:Array Edge}(F:Fr a n f)(ht:Nat.blt t n=true)(hn:∀ a',Fr a' n (upd f t v)→wpList P ops Q rest a' w):wpList P ops Q (⟨some t,.assign (.const v),ty,pos,af,none⟩::rest) a w:=
 w_val F rfl rfl ht (by simp only[execOp,Act.eval]; rfl) hn
theorem w_seqJ{x y:Code}{J:Act→World→Prop}(hx:x.wp P (fun e a' w'=>e= .normal∧J a' w') a w)(hy:∀ a' w',J a' w'→y.wp P Q a' w'):(Code.seq x y).wp P Q a w:=
 wp_seq (wp_mono hx fun e a' w' ⟨he,hj⟩=>by subst he; exact hy a' w' hj)
theorem w_ret(h:Q .ret a w):Code.ret.wp P Q a w:=wp_ret h
end
section
variable{ρ:Operand→Value}{d:Option Tmp}{x y:Operand}{ty:TypeId}{pos:String}{af:Array Edge}{w:World}{b o:Nat}
theorem e_len{p:Option Addr}{m c:Nat}(h:ρ x= .slice p m c):(execOp ρ ⟨d,.call ⟨.builtin .len,#[x],#[22]⟩,ty,pos,af,none⟩).run Tryz.prog w= .ok (.value (.int .i64 m)) w:=by
 simp[go_sem,h]
theorem e_geq{i j:Int}(h:ρ x= .int .i64 i)(hy:ρ y= .int .i64 j):(execOp ρ ⟨d,.binOp .geq 3 x y 3,ty,pos,af,none⟩).run Tryz.prog w= .ok (.value (.bool (decide (j≤i)))) w:=by
 simp[execOp,go_sem,h,hy]
theorem e_addi{i j:Int}(h:ρ x= .int .i64 i)(hy:ρ y= .int .i64 j):(execOp ρ ⟨d,.binOp .add 3 x y 3,ty,pos,af,none⟩).run Tryz.prog w= .ok (.value (.int .i64 (IntKind.i64.wrap (i+j)))) w:=by
 simp[execOp,go_sem,h,hy]
theorem e_iu{i:Int}(h:ρ x= .int .i64 i):(execOp ρ ⟨d,.convert 3 50 x,ty,pos,af,none⟩).run Tryz.prog w= .ok (.value (.int .u64 (IntKind.u64.wrap i))) w:=by
 simp[execOp,go_sem,h]
theorem e_ldu{i:Int}(h:ρ x= .pointer (some ⟨b,o,none⟩))(hc:w.cell? ⟨b,o,none⟩=some (.int .u64 i)):(execOp ρ ⟨d,.load 50 x,ty,pos,af,none⟩).run Tryz.prog w= .ok (.value (.int .u64 i)) w:=by
 simp[execOp,go_sem,h,hc]
theorem sz8:∀ w:World,(sizeOf 5).run Tryz.prog w= .ok 1 w:=fun w=>by simp[go_sem]
theorem e_shi{kk:IntKind}{p:Option Addr}{m c k:Nat}(hx:ρ x= .slice p m c)(hy:ρ y= .int kk k)(h1:k≤c):(execOp ρ ⟨d,.slice 22 x none (some y) none,ty,pos,af,none⟩).run Tryz.prog w= .ok (.value (.slice p k c)) w:=by
 have hu:=run_underlying (w:=w) Tryz.underlying22
 have hb:∀ code,(Instr.sliceBound (.int kk k) c code).run Tryz.prog w= .ok k w:=fun code=>run_sliceBound _ w h1 code
 simp only[execOp,hx,hy,Option.map_some,Option.map_none,Instr.sliceAt,Instr.slice,Sem.run_bind,hu,Result.andThen_ok]
 simp only[Instr.sliceBounds,hb,sz8,Sem.run_bind,Sem.run_pure,Result.andThen_ok]
 have e:(p.map fun q=>q.add (0*1))=p:=by cases p<;>simp[Addr.add]
 simp[e]
theorem e_call1{g:Nat}{u:Value}(hF:ρ (.func g)= .func (.func g) #[] #[])(h:ρ x=u){at_:Array TypeId}(hc:∀ (vs:Array Value) (w:World),(callFunc g vs).run Tryz.prog w= .ok (.enter g vs) w):(execOp ρ ⟨d,.call ⟨.value (.func g),#[x],at_⟩,ty,pos,af,none⟩).run Tryz.prog w= .ok (.enter g #[u]) w:=by
 simp[execOp,go_sem,h,hF,hc]
theorem e_call0{g:Nat}(hF:ρ (.func g)= .func (.func g) #[] #[]){at_:Array TypeId}(hc:∀ (vs:Array Value) (w:World),(callFunc g vs).run Tryz.prog w= .ok (.enter g vs) w):(execOp ρ ⟨d,.call ⟨.value (.func g),#[],at_⟩,ty,pos,af,none⟩).run Tryz.prog w= .ok (.enter g #[]) w:=by
 simp[execOp,go_sem,hF,hc]
theorem e_call2{g:Nat}{u v:Value}(hF:ρ (.func g)= .func (.func g) #[] #[])(h:ρ x=u)(hy:ρ y=v){at_:Array TypeId}(hc:∀ (vs:Array Value) (w:World),(callFunc g vs).run Tryz.prog w= .ok (.enter g vs) w):(execOp ρ ⟨d,.call ⟨.value (.func g),#[x,y],at_⟩,ty,pos,af,none⟩).run Tryz.prog w= .ok (.enter g #[u,v]) w:=by
 simp[execOp,go_sem,h,hy,hF,hc]
end
theorem hasC_setCells_out{f:Bool}{w:World}{b o b' o':Nat}{v:Value}:∀ {vs:List Value},HasC f w b o v→(b≠b'∨o<o'∨o'+vs.length≤o)→HasC f (w.setCells b' o' vs) b o v:=fun {vs} h hn=>by
 refine⟨?_,fun hf=> ?_⟩
 ·rw[World.cell?_setCells_out b' vs o' w ⟨b,o,none⟩ (fun h1 _=>hn.resolve_left (fun hne=>hne h1))]
  exact h.1
 ·rw[World.frozen?_setCells]; exact h.2 hf
theorem hasC_setCells_in{w:World}{b o i:Nat}{vs:List Value}(hd:∀ j,j<vs.length→∃ u,HasC true w b (o+j) u)(hi:i<vs.length):HasC true (w.setCells b o vs) b (o+i) (vs.getD i undef):=by
 refine⟨?_,fun _=> ?_⟩
 ·rw[World.cell?_setCells_in b vs o w (fun j hj=>by obtain⟨u,hu⟩:=hd j hj; rw[hu.1]; rfl) i hi]
  simp[List.getD,hi]
 ·rw[World.frozen?_setCells]
  obtain⟨u,hu⟩:=hd i hi
  exact hu.2 rfl
theorem frm_setCells{S:Nat→Nat→Prop}{b:Nat}:∀ (vs:List Value) (o:Nat) {w0 w:World},Frm w0 w S→(∀ i,i<vs.length→w0.heap.size≤b∨S b (o+i))→Frm w0 (w.setCells b o vs) S
 | [],o,w0,w,h,_=>h
 |v::vs,o,w0,w,h,hs=>by
  unfold World.setCells
  refine frm_setCells vs (o+1) (h.setCell (hs 0 (by simp))) fun i hi=> ?_
  have:=hs (i+1) (by rw[List.length_cons]; omega)
  rwa [show o+1+i=o+(i+1) by omega]
theorem MemI.at8{f:Bool}{w:World}{b o n:Nat}{xs:List Int}(h:MemI f w (b,o) (List.replicate n .u8) xs){i:Nat}(hi:i<n):HasC f w b (o+i) (.int .u8 (xs.getD i 0))∧xs.length=n∧0≤xs.getD i 0∧xs.getD i 0≤255:=by
 obtain⟨⟨h1,h2⟩,h3⟩:=h
 rw[List.length_replicate] at h1
 have hk:(List.replicate n IntKind.u8)[i]? = some .u8:=by simp[hi]
 have hx:xs[i]? = some (xs.getD i 0):=by simp[List.getD,show i<xs.length by omega]
 have:=h2 i .u8 _ hk hx
 exact⟨h3 i .u8 _ hk hx,h1,this.1,this.2⟩
theorem mem8{f:Bool}{w:World}{b o n:Nat}{xs:List Int}(hl:xs.length=n)(hx:∀ x∈xs,0≤x∧x≤255)(h:∀ i,i<n→HasC f w b (o+i) (.int .u8 (xs.getD i 0))):MemI f w (b,o) (List.replicate n .u8) xs:=by
 refine⟨⟨by simp[hl],fun i k x hk hxi=> ?_⟩,fun i k x hk hxi=> ?_⟩
 ·have hk2:=(List.mem_replicate.1 (lmG hk)).2
  rw[hk2]
  exact hx x (lmG hxi)
 ·have hk2:=(List.mem_replicate.1 (lmG hk)).2
  rw[hk2]
  have hi:i<n:=by have:=(List.getElem?_eq_some_iff.1 hxi).1; omega
  have:=h i hi
  rwa [show xs.getD i 0=x by simp[List.getD,hxi]] at this
theorem MemI.rng8{f:Bool}{w:World}{b:Nat×Nat}{n:Nat}{xs:List Int}(h:MemI f w b (List.replicate n .u8) xs):∀ x∈xs,0≤x∧x≤255:=fun x hx=>by
 obtain⟨i,hi,rfl⟩:=List.getElem_of_mem hx
 have h1:=h.1.1
 rw[List.length_replicate] at h1
 have:=h.1.2 i .u8 xs[i] (by rw[List.getElem?_replicate,if_pos (by omega)]) (lgE hi)
 exact⟨this.1,this.2⟩
def PSl(w:World)(B:Nat)(v:Value)(xs:List Int):Prop:=∃ (ap:Option Addr) (c:Nat),v= .slice ap xs.length c∧xs.length≤c∧(∀ x∈xs,0≤x∧x≤255)∧(0<xs.length→∃ b o,ap=some ⟨b,o,none⟩∧b≠B∧∀ i,i<xs.length→w.cell? ⟨b,o+i,none⟩=some (.int .u8 (xs.getD i 0)))
theorem PSl.frm{w w':World}{B:Nat}{v:Value}{xs:List Int}(h:PSl w B v xs)(hf:Frm w w' (fun b _=>b=B)):PSl w' B v xs:=by
 obtain⟨ap,c,h1,h2,h3,h4⟩:=h
 refine⟨ap,c,h1,h2,h3,fun h0=> ?_⟩
 obtain⟨b,o,e,hb,hc⟩:=h4 h0
 exact⟨b,o,e,hb,fun i hi=>(hf.hasC (f:=false) ⟨hc i hi,fun h=>(by cases h)⟩ (fun h=>hb h)).1⟩
theorem PSl.drop{w:World}{B:Nat}{v:Value}{xs:List Int}(h:PSl w B v xs)(k:Nat)(hk:k≤xs.length):∀ ap m c,v= .slice ap m c→PSl w B (.slice (if c=k then ap else ap.map (·.add k)) (m-k) (c-k)) (xs.drop k):=by
 intro ap m c hv
 subst hv
 obtain⟨ap',c',e,h2,h3,h4⟩:=h
 rw[Value.slice.injEq] at e
 obtain⟨e1,e2,e3⟩:=e
 subst e1; subst e2; subst e3
 refine⟨_,c-k,by rw[List.length_drop],by rw[List.length_drop]; omega,fun x hx=>h3 x (List.mem_of_mem_drop hx),fun h0=> ?_⟩
 rw[List.length_drop] at h0
 have h5:=h4 (by omega)
 clear h4
 obtain⟨b,o,rfl,hb,hc⟩:=h5
 refine⟨b,o+k,?_,hb,fun i hi=> ?_⟩
 ·rw[if_neg (by omega),Option.map_some,addr_add]
 ·rw[List.length_drop] at hi
  rw[Nat.add_assoc,hc (k+i) (by omega)]
  congr 2
  simp[List.getD,List.getElem?_drop]
end Go.Proofs.YtloibefkijfdlaaGreatDoor
