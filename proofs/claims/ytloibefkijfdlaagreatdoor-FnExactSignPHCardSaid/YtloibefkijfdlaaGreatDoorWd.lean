/- Walking by hand: rows that grow; rounds; values that are lists of words. -/
import Derived.Test.YtloibefkijfdlaaGreatDoorNe
import Derived.Test.YtloibefkijfdlaaGreatDoorSix
namespace Go.Proofs.YtloibefkijfdlaaGreatDoor
section
open Go Go.RowKit Go.Lib
theorem Lc{P:Program}{X:Code}{J:Nat→Act→World→Prop}{Q:Exit→Act→World→Prop}(h0:∀ a w,J 0 a w→X.wp P (Exit.then (fun _ _=>False) Q) a w)(hs:∀ k a w,J (k+1) a w→X.wp P (fun e a' w'=>e= .normal∧J k a' w') a w):∀ (k:Nat) (a:Act) (w:World),J k a w→Code.rounds P X Q (k+1) a w
 |0,a,w,h=>h0 a w h
 |k+1,a,w,h=>wp_mono (hs k a w h) fun e a' w' ⟨he,hj⟩=>by
  subst he;exact Lc h0 hs k a' w' hj
abbrev Ql (w:World) (B:Nat) (v:Value) (xs:List Int):Prop:=w.ownsRow B 5 1 v xs.length (v8 xs)
theorem XJ(w:World)(cur:Array Value)(cap:Nat)(hc:cap≤1000)(hs:cur.size=cap):Ql (w.alloc (.cells cur 5)) w.heap.size (.slice (some ⟨w.heap.size,0,none⟩) 0 cap) []:=World.ownsRow_made w cur cap (JP _) (by unfold maxLen;omega) (by rw[hs,Nat.mul_one])
section
variable{ops:Array Oper}{Q:Exit→Act→World→Prop}{rest:List Oper}{a:Act}{w:World}{n:Nat}{f:Nat→Value}
theorem jT{t x y B m c b o:Nat}{ty:TypeId}{pos:String}{af:Array Edge}{xs ys:List Int}(F:Fr a n f)(ht:Nat.blt t n=true)(ξ:Ql w B (f x) xs)(hy:f y= .slice (some ⟨b,o,none⟩) m c)(hm:ys.length=m)(h8:Fe w b o ys)(hb:xs.length+m≤140737488355328)(hB:B≤w.heap.size)
  (hn:∀ v' w' a',Ql w' B v' (xs++ys)→Below B w w'→Fr a' n (SN f t v')→wpList Tryz.prog ops Q rest a' w'):wpList Tryz.prog ops Q (⟨some t,.call ⟨.builtin .append,#[.tmp x,.tmp y],#[22,22]⟩,ty,pos,af,none⟩::rest) a w:=by
 obtain⟨i0,hi,hz0,hz1,hz2⟩:=info_parts i8;refine wpList_append_own (o:=⟨some t,.call ⟨.builtin .append,#[.tmp x,.tmp y],#[22,22]⟩,ty,pos,af,none⟩) w rfl (.tmp x) (.tmp y) 22 rfl B 5 i0 (.int .u8 0) 1 1 Tryz.underlying22 hi hz0 hz1 hz2 rfl (by decide) (f x) xs.length (v8 xs) F.e ξ ⟨b,o,none⟩ m c (v8 ys) (F.ev hy) (by simp[v8,hm]) h8.at Vq (by unfold maxLen;omega) (by omega) hB ?_
 intro v' w' ho hg _
 refine hn v' w' _ ?_ (NN ξ hg hB) (F.put ht v');show w'.ownsRow B 5 1 v' (xs++ys).length (v8 (xs++ys));rw[K6,hm];have:v8 (xs++ys)=v8 xs++v8 ys:=by simp[v8]
 rw[this];exact ho
end
theorem AKP(w:World)(x:Int)(hx:0≤x∧x≤255):Fe (w.alloc (.cells #[.int .u8 x] 5)) w.heap.size 0 [x]:=by
 have h:=SA w [.u8] [x] 5 (by
  refine⟨rfl,fun i k y hk hy=>?_⟩
  match i,hk,hy with
  |0,hk,hy=>
   simp only[VT,Am] at hk hy;subst hk;subst hy;exact⟨hx.1,hx.2⟩
  |i+1,hk,_=>simp at hk)
 exact⟨fun z hz=>by rw[Nc] at hz;subst hz;exact hx,fun i hi=>(h.at8 (n:=1) (i:=i) (by simpa using hi)).1.1⟩
theorem AIR(w:World)(n:Nat):Fe (w.alloc (.cells (Array.replicate n (.int .u8 0)) 5)) w.heap.size 0 (List.replicate n 0):=by
 have h:=Hq w n .u8 5 ⟨by decide,by decide⟩;exact⟨fun z hz=>by rw[(zcc.1 hz).2];decide,fun i hi=>(h.at8 (i:=i) (by simpa using hi)).1.1⟩
theorem Ql.below{w w':World}{B:Nat}{v:Value}{xs:List Int}(h:Ql w B v xs)(hb:Below w.heap.size w w'):Ql w' B v xs:=by
 refine⟨h.1,?_⟩
 rcases h.2 with h2|⟨g,cap,cur,h1,h2,h3,h4⟩
 ·exact .inl h2
 ·refine .inr ⟨g,cap,cur,h1,h2,?_,h4⟩;have hlt:g<w.heap.size:=by
   rcases nG g w.heap.size with h|h
   ·exact h
   ·simp[vR h] at h3
  rw[hb.block g hlt];exact h3
theorem Ql.sl{w:World}{B:Nat}{v:Value}{xs:List Int}(h:Ql w B v xs):∃ ap c,v= .slice ap xs.length c:=by
 rcases h.2 with ⟨h1,h2⟩|⟨g,cap,cur,h1,_⟩
 ·exact⟨none,0,by rw[h1,h2]⟩
 ·exact⟨_,_,h1⟩
theorem DD(w:World)(o:Obj):Below w.heap.size w (w.alloc o):=(Below.refl _ w).alloc (JP _) _
theorem Iu{B C:Nat}{w w':World}(h:Below C w w')(hb:B≤C):Below B w w':=⟨h.1,h.2,h.3,h.4,fun k hk=>h.5 k (by omega)⟩
structure AgP (GC:Nat→Nat→Option Value) (ks:List IntKind) (l:List Int) (w:World) (e:Ending) (w':World):Prop where
 ret:e= .returned (.agg (AZ ks l).toArray)
 rng:Hf ks l
 frm:CV w w' (fun _ _=>False)
 gw:GW GC w'
section
variable{GB:Nat}{GC:Nat→Nat→Option Value}{w:World}(ε:GW GC w)(δ:GB≤w.heap.size)
include ε δ
theorem Oz{f:Nat}{s:Az}{ks:List IntKind}{F:PF}{args:List Value}{ins:List (List Int)}{bs:List (Nat×Nat)}(hok:Bp Tryz.prog GB GC f (.one s))(hout:s.outs= [])(aa7:s.ret= [.agg ks F])(hP:Kt GB w s.params args ins bs)(hS:G8 s.params bs)(aaM:s.hp=true→s.pre ins):
  Calls Tryz.prog f args.toArray w (AgP GC ks (F ins) w):=by
 refine (hok true args ins bs w ε δ hP hS aaM rfl).mono fun e w' ⟨fb,vs,he,hq⟩=>?_
 simp only[FE.sel] at hq;have hr:=hq.ret;rw[aa7] at hr
 match vs,hr with
 | [v],hr=>
  have h1:Hf ks (F ins)∧v= .agg (AZ ks (F ins)).toArray:=hr.1;refine⟨by rw[he,h1.2];rfl,h1.1,hq.frm.mono fun b o _ hs=>?_,hq.gw⟩;obtain⟨p,hp',_⟩:=hs;rw[hout] at hp'
  cases hp'
end
theorem nS{p:GG}{b:Nat×Nat}:G8 [p] [b]:=⟨fun _ h=>(by cases h),trivial⟩
theorem eF{ks:List IntKind}{ps:List GG}{b:Nat×Nat}{bs:List (Nat×Nat)}(h:G8 ps bs):G8 (.agg ks::ps) (b::bs):=⟨fun x _=>by unfold YR;simp[GG.reg],h⟩
end
section
open Go Go.RowKit Go.Lib
section
variable{ρ:Operand→Value}{d:Option Tmp}{x y:Operand}{ty:TypeId}{pos:String}{af:Array Edge}{w:World}{b o:Nat}
theorem AGD{i j:Nat}(h:ρ x= .int .i64 i)(hy:ρ y= .int .i64 j)(hj:0<j):(execOp ρ ⟨d,.binOp .rem 3 x y 3,ty,pos,af,none⟩).run Tryz.prog w= .ok (.value (.int .i64 ((i%j:Nat):Int))) w:=by
 simp[execOp,go_sem,h,hy];rw[if_neg (by omega)];rfl
theorem AWC{a:Act}:(execOp a.eval ⟨d,.build 51 #[(0,.const (.int .u64 7640891576956012808)),(1,.const (.int .u64 13503953896175478587)),(2,.const (.int .u64 4354685564936845355)),(3,.const (.int .u64 11912009170470909681)),(4,.const (.int .u64 5840696475078001361)),(5,.const (.int .u64 11170449401992604703)),(6,.const (.int .u64 2270897969802886507)),(7,.const (.int .u64 6620516959819538809))],ty,pos,af,none⟩).run Tryz.prog w= .ok (.value (.agg (AZ U8 H0).toArray)) w:=by
 simp[execOp,go_sem,Act.eval];rfl
theorem ATp:(execOp ρ ⟨d,.alloc 51,ty,pos,af,none⟩).run Tryz.prog w= .ok (.value (.pointer (some ⟨w.heap.size,0,none⟩))) (w.alloc (.cells (Array.replicate 8 (.int .u64 0)) 51)):=by
 simp[execOp,go_sem];rfl
theorem qP:(execOp ρ ⟨d,.buildSlice 22 0 #[],ty,pos,af,none⟩).run Tryz.prog w= .ok (.value (.slice (some ⟨w.heap.size,0,none⟩) 0 0)) (w.alloc (.cells #[] 5)):=by
 simp[execOp,go_sem]
theorem AT5{a:Act}:(execOp a.eval ⟨d,.buildSlice 22 8 #[(0,.const (.int .u8 0)),(1,.const (.int .u8 0)),(2,.const (.int .u8 0)),(3,.const (.int .u8 0)),(4,.const (.int .u8 0)),(5,.const (.int .u8 0)),(6,.const (.int .u8 0)),(7,.const (.int .u8 0))],ty,pos,af,none⟩).run Tryz.prog w= .ok (.value (.slice (some ⟨w.heap.size,0,none⟩) 8 8)) (w.alloc (.cells (Array.replicate 8 (.int .u8 0)) 5)):=by
 simp[execOp,go_sem,Act.eval];rfl
theorem AL4{i:Int}(hx:ρ x= .int .u64 i)(hy:ρ y= .int .u64 8):(execOp ρ ⟨d,.binOp .mul 50 x y 50,ty,pos,af,none⟩).run Tryz.prog w= .ok (.value (.int .u64 (IntKind.u64.wrap (i*8)))) w:=by
 simp[execOp,go_sem,hx,hy]
theorem ALk{i:Int}(hx:ρ x= .int .i64 8)(hy:ρ y= .int .i64 i):(execOp ρ ⟨d,.binOp .mul 3 x y 3,ty,pos,af,none⟩).run Tryz.prog w= .ok (.value (.int .i64 (IntKind.i64.wrap (8*i)))) w:=by
 simp[execOp,go_sem,hx,hy]
theorem AFr{v:Int}{k:Nat}(hx:ρ x= .int .u64 v)(hy:ρ y= .int .i64 (k:Int)):(execOp ρ ⟨d,.binOp .shr 50 x y 3,ty,pos,af,none⟩).run Tryz.prog w= .ok (.value (.int .u64 (Di .shr v (k:Int)))) w:=by
 simp[execOp,go_sem,hx,hy];show _=v.fdiv (2^(min ((k:Int)).toNat 64));rw[TJ,Int.fdiv_eq_ediv_of_nonneg _ (Int.le_of_lt (Int.pow_pos (by decide)))]
theorem AKz{i:Int}(h:ρ x= .int .u64 i):(execOp ρ ⟨d,.convert 50 5 x,ty,pos,af,none⟩).run Tryz.prog w= .ok (.value (.int .u8 (IntKind.u8.wrap i))) w:=by
 simp[execOp,go_sem,h]
theorem bQ{i j:Int}(h:ρ x= .int .i64 i)(hy:ρ y= .int .i64 j):(execOp ρ ⟨d,.binOp .sub 3 x y 3,ty,pos,af,none⟩).run Tryz.prog w= .ok (.value (.int .i64 (IntKind.i64.wrap (i-j)))) w:=by
 simp[execOp,go_sem,h,hy]
theorem YX{i j:Int}(h:ρ x= .int .i64 i)(hy:ρ y= .int .i64 j):(execOp ρ ⟨d,.binOp .lss 3 x y 3,ty,pos,af,none⟩).run Tryz.prog w= .ok (.value (.bool (decide (i<j)))) w:=by
 simp[execOp,go_sem,h,hy]
end
structure PA (w1:World) (D:Value) (hb:Nat) (al:List Int) (a:Act) (w:World):Prop where
 ex:∃ f,Fr a 76 f∧f 0=D∧f 3= .pointer (some ⟨hb,0,none⟩)∧Ql w w1.heap.size (f 4) al
 bel:Below w1.heap.size w1 w
theorem oI(L:Nat):1≤Gx L:=by unfold Gx;split<;>omega
theorem AJq{L:Nat}:(L+1+(Gx L-1))%128=112:=by unfold Gx;split<;>omega
theorem AHh{L k:Nat}(h:k+1≤Gx L-1):(L+1+(Gx L-1-(k+1)))%128≠112:=by
 unfold Gx at *
 by_cases h1:L%128<112
 ·rw[if_pos h1] at *
  omega
 ·rw[if_neg h1] at *
  omega
theorem AB6(n:Nat):List.replicate (n+1) (0:Int)=List.replicate n 0 ++ [0]:=List.replicate_succ'
def ry(m:List Int)(k:Nat):List Int:=m++128::List.replicate (Gx m.length-1-k) 0
theorem Xf(m:List Int)(k:Nat):(ry m k).length=m.length+1+(Gx m.length-1-k):=by simp[ry];omega
theorem AES{m:List Int}{k:Nat}(h:k+1≤Gx m.length-1):ry m (k+1) ++ [0]=ry m k:=by
 unfold ry;rw[YY,zcm, ← AB6,show Gx m.length-1-(k+1)+1=Gx m.length-1-k by omega]
def al2(m:List Int)(k:Nat):List Int:=ry m 0++(List.replicate 8 0++(OL ((m.length*8:Nat):Int)).take (8-k))
theorem pO{v:Int}:∀ {k:Nat},k<8→(OL v).take (8-(k+1)) ++ [IntKind.u8.wrap (Di .shr v ((8*k:Nat):Int))]=(OL v).take (8-k)
 |0,_=>rfl
 |1,_=>rfl
 |2,_=>rfl
 |3,_=>rfl
 |4,_=>rfl
 |5,_=>rfl
 |6,_=>rfl
 |7,_=>rfl
 |k+8,h=>by omega
theorem ACS{m:List Int}{k:Nat}(h:k<8):al2 m (k+1) ++ [IntKind.u8.wrap (Di .shr ((m.length*8:Nat):Int) ((8*k:Nat):Int))]=al2 m k:=by
 unfold al2;rw[YY,YY,pO h]
theorem AJ5(m:List Int){k:Nat}(h:k≤8):(al2 m k).length=(ry m 0).length+16-k:=by
 unfold al2;rw[K6,K6,SX,Y3,Ku];omega
theorem AHe(m:List Int):al2 m 0=m++gD m.length:=by
 have hz:=oI m.length;unfold al2 ry gD;rw[zco (by rw[Ku];omega),YY,zcm, ← YY (List.replicate _ _),List.replicate_append_replicate,show Gx m.length-1-0+8=Gx m.length+7 by omega]
theorem Vy(x:Int):0≤IntKind.u8.wrap x∧IntKind.u8.wrap x≤255:=by
 rw[uS];omega
structure PB (w1:World) (D:Value) (hb:Nat) (m:List Int) (k:Nat) (a:Act) (w:World):Prop where
 ex:∃ f,Fr a 76 f∧f 0=D∧f 3= .pointer (some ⟨hb,0,none⟩)∧Ql w w1.heap.size (f 4) (al2 m k)∧f 5= .int .u64 ((m.length*8:Nat):Int)∧f 6= .int .i64 (Ls k)
 bel:Below w1.heap.size w1 w
theorem AGi{L:Nat}:∀ x∈gD L,0≤x∧x≤255:=fun x hx=>by
 unfold gD at hx
 rcases J4.1 hx with h|h
 ·subst h;decide
 ·rcases iQ.1 h with h|h
  ·rw[(zcc.1 h).2];decide
  ·unfold OL at h;obtain⟨k,-,rfl⟩:=VI.1 h;exact Vy _
def PC(GC:Nat→Nat→Option Value)(w0:World)(rb rc:Nat)(A:List Int)(k:Nat)(a:Act)(w:World):Prop:=
 ∃ f h,Fr a 76 f∧f 3= .pointer (some ⟨w0.heap.size,0,none⟩)∧f 4= .slice (some ⟨rb,0,none⟩) A.length rc∧f 7= .int .i64 ((A.length-k*128:Nat):Int)∧Ar true w (w0.heap.size,0) U8 h∧QQ k h (A.drop (A.length-k*128))=QQ (A.length/128) H0 A∧Fe w rb 0 A∧CV w0 w (fun _ _=>False)∧GW GC w
theorem AR8{ρ:Operand→Value}{d:Option Tmp}{x y z:Operand}{ty:TypeId}{pos:String}{af:Array Edge}{w:World}{b m c i n:Nat}(hx:ρ x= .slice (some ⟨b,0,none⟩) m c)(hy:ρ y= .int .i64 (i:Int))(hz:ρ z= .int .i64 ((i+n:Nat):Int))(h1:0<n)(h2:i+n≤c):(execOp ρ ⟨d,.slice 22 x (some y) (some z) none,ty,pos,af,none⟩).run Tryz.prog w= .ok (.value (.slice (some ⟨b,i,none⟩) n (c-i))) w:=by
 have hu:=run_underlying (w:=w) Tryz.underlying22;have hb1:∀ code,(Instr.sliceBound (.int .i64 (i:Int)) (i+n) code).run Tryz.prog w= .ok i w:=fun code=>CR _ w (by omega) code
 have hb2:∀ code,(Instr.sliceBound (.int .i64 ((i+n:Nat):Int)) c code).run Tryz.prog w= .ok (i+n) w:=fun code=>CR _ w h2 code
 simp only[execOp,hx,hy,hz,Xa,Option.map_none,Instr.sliceAt,Instr.slice,I1,hu,IB];simp only[Instr.sliceBounds,hb1,hb2,sz8,I1,KD,IB];have hne:¬ (c=i):=by omega
 simp[hne,DZ]
theorem Fe.frm0{w w':World}{b o:Nat}{xs:List Int}(h:Fe w b o xs)(hf:CV w w' (fun _ _=>False)):Fe w' b o xs:=⟨h.1,fun i hi=>(hf.hasC (f:=false) ⟨h.2 i hi,fun h=>(by cases h)⟩ (fun h=>h)).1⟩
theorem AVm{ks js:List IntKind}{g:Nat}{b c:Nat×Nat}:G8 [.agg ks,.sl js g false] [b,c]:=eF nS
theorem AEJ{GB:Nat}{GC:Nat→Nat→Option Value}{ad:Nat→Nat×Nat}(hG:Jk GB GC ad){w:World}(ε:GW GC w)(δ:GB≤w.heap.size){rb at_ c:Nat}{h bl:List Int}(hh:Hf U8 h)(hm:Ar false w (rb,at_) (List.replicate 128 .u8) bl)(hc:128≤c):
  Calls Tryz.prog 69 #[.agg (AZ U8 h).toArray,.slice (some ⟨rb,at_,none⟩) 128 c] w (AgP GC U8 (mO h bl) w):=by
 have:=Oz (F:=fun a=>Aw 8 (Eo.raw BK 0 a)) (ks:=U8) (args:=[.agg (AZ U8 h).toArray,.slice (some ⟨rb,at_,none⟩) 128 c]) (ins:=[h,bl]) (bs:=[(0,0),(rb,at_)]) ε δ (Vm hG) rfl rfl ⟨⟨hh,rfl⟩,⟨c,rfl,hc,hm,fun h=>(by cases h)⟩,trivial⟩ AVm (fun h=>absurd (show false=true from h) (by decide));have hl:h.length=8:=hh.1;rw[gM hl hm.rng8,Au (Xc hl)] at this;exact this
def ou(h:List Int)(i:Nat):List Int:=(h.take i).flatMap OL
theorem AG1{h:List Int}{i:Nat}(hi:i<h.length):ou h (i+1)=ou h i++OL (h.getD i 0):=by
 unfold ou;rw[List.take_add_one,List.flatMap_append,show h[i]? = some (h.getD i 0) by simp[List.getD,hi]];simp
theorem AOd{h:List Int}{i:Nat}(hi:i≤h.length):(ou h i).length=8*i:=by
 unfold ou;rw[List.length_flatMap];have:(List.map (fun x=>(OL x).length) (h.take i))=List.replicate i 8:=by
  rw[List.eq_replicate_iff];refine⟨by rw[Vj,Y3];omega,fun x hx=>?_⟩;obtain⟨y,-,rfl⟩:=VI.1 hx;exact Ku y
 rw[this];simp;omega
theorem AGp{v:Int}:∀ x∈OL v,0≤x∧x≤255:=fun x h=>by
 unfold OL at h;obtain⟨k,-,rfl⟩:=VI.1 h;exact Vy _
theorem zf{m:List Int}:∀ x∈Kn m,0≤x∧x≤255:=fun x hx=>by
 unfold Kn qQ at hx;obtain⟨v,-,h⟩:=List.mem_flatMap.1 hx;exact AGp x h
structure MsP (GC:Nat→Nat→Option Value) (l:List Int) (w:World) (e:Ending) (w':World):Prop where
 ret:∃ v,e= .returned v∧JI w' v l
 frm:CV w w' (fun _ _=>False)
 gw:GW GC w'
set_option maxRecDepth 100000 in
theorem Xn{GB:Nat}{GC:Nat→Nat→Option Value}{ad:Nat→Nat×Nat}(hG:Jk GB GC ad){w:World}{D:Value}{m:List Int}(ε:GW GC w)(δ:GB≤w.heap.size)(hD:JI w D m)(h0:0<m.length)(hlen:m.length<1000000000000):
  Calls Tryz.prog 39 #[D] w (MsP GC (Kn m) w):=by
 obtain⟨b,o,c,hDv,hc,h8⟩:=hD.has h0;refine enter (args:=[D]) Tryz.func39 rfl (n:=76) rfl fun a F=>?_
 refine BQ (Bv F rfl fun a F=>Ae ?_);refine BQ (Cm F rfl AWC fun a F=>Cm F rfl ATp fun a F=>?_);have M1:=Hq w 8 .u64 51 ⟨by decide,by decide⟩;have f1:CV w (w.alloc (.cells (Array.replicate 8 (.int .u64 0)) 51)) (fun _ _=>False):=Cs _ _ _;generalize hw1:w.alloc (.cells (Array.replicate 8 (.int .u64 0)) 51)=w1 at M1 f1 ⊢;have hl8:(AZ U8 H0).length=8:=rfl;refine LP F rfl rfl (QX (cs:=AZ U8 H0) (fun w=>by rw[hl8];simp[go_sem]) F.e F.e Ip (fun j hj=>M1.ex j (by rw[hl8] at hj;simpa using hj))) fun a F=>Ae ?_
 have M2:=Ov (w:=w1) (b:=w.heap.size) (o:=0) (ks:=U8) (xs:=H0) (Ws (by decide)) (fun j hj=>M1.ex j hj);have f2:CV w (w1.setCells w.heap.size 0 (AZ U8 H0)) (fun _ _=>False):=Ck _ _ f1 fun _ _=>.inl (JP _)
 generalize w1.setCells w.heap.size 0 (AZ U8 H0)=w2 at M2 f2 ⊢;have hs2:w.heap.size<w2.heap.size:=(M2.2 0 .u64 _ rfl rfl).lt;refine BQ (Cm F rfl qP fun a F=>AB F rfl fun a F=>?_);have O3:=XJ w2 #[] 0 (by omega) rfl;have b3:=DD w2 (.cells #[] 5);generalize w2.alloc (.cells #[] 5)=w3 at O3 b3 ⊢;have h83:Fe w3 b o m:=(h8.below (PG f2 fun _ _ h=>h) (h8.lt h0)).below b3 (zcg (h8.lt h0) f2.1);refine jT F rfl O3 hDv rfl h83 (by rw[zcj];omega) b3.size fun v4 w4 a O4 b4 F=>?_
 rw[zcn] at O4;have b4':=b3.trans b4;refine Cm F rfl (iy (i:=128) rfl) fun a F=>?_
 have O5:=O4.below (DD w4 (.cells #[.int .u8 128] 5));have h5:=AKP w4 128 (by decide);have b5:=b4'.trans (Iu (DD w4 (.cells #[.int .u8 128] 5)) b4'.size);generalize w4.alloc (.cells #[.int .u8 128] 5)=w5 at O5 h5 b5 ⊢;refine jT F rfl O5 rfl rfl h5 (by omega) b5.size fun v6 w6 a O6 b6 F=>AR F rfl fun a F=>Ae ?_
 have hz:=oI m.length;have hJ:PA w2 D w.heap.size (ry m (Gx m.length-1)) a w6:=by
  refine⟨⟨_,F,rfl,rfl,?_⟩,b5.trans b6⟩;have:ry m (Gx m.length-1)=m ++ [128]:=by unfold ry;rw[zcu];rfl
  rw[this];exact O6
 clear F O6 b6 O5 h5 b5 O4 b4 b4' O3 b3 h83;refine KT (J:=fun a w'=>PA w2 D w.heap.size (ry m 0) a w') (wp_block (wp_loop_rounds _ (Lc (J:=fun k a w'=>PA w2 D w.heap.size (ry m k) a w'∧k≤Gx m.length-1) ?_ ?_ (Gx m.length-1) _ _ ⟨hJ,JP _⟩))) ?_
 ·intro a w' ⟨⟨⟨f,F,e0,e3,O⟩,bel⟩,_⟩
  obtain⟨ap,cc,hv⟩:=O.sl;have hb:((((ry m 0).length%128:Nat):Int) != 112)=false:=by
   rw[Xf,Nat.sub_zero,AJq];rfl
  refine wp_seq (wp_seq (reg (AB F rfl fun a F=>Cm F rfl (Ug (F.ev hv)) fun a F=>Cm F rfl (AGD (j:=128) F.e rfl (by decide)) fun a F=>Cm F rfl (l7 F.e rfl) fun a F=>Gv ?_)));refine wp_cond (t:=false) (F.ev (QL Value.bool hb)) (wp_exit ?_);exact⟨rfl,⟨_,F,e0,e3,O⟩,bel⟩
 ·intro k a w' ⟨⟨⟨f,F,e0,e3,O⟩,bel⟩,hk⟩
  obtain⟨ap,cc,hv⟩:=O.sl;have hb:((((ry m (k+1)).length%128:Nat):Int) != 112)=true:=by
   have:=AHh hk;rw[Xf];simp only[bne_iff_ne,ne_eq];omega
  refine wp_seq (wp_seq (reg (AB F rfl fun a F=>Cm F rfl (Ug (F.ev hv)) fun a F=>Cm F rfl (AGD (j:=128) F.e rfl (by decide)) fun a F=>Cm F rfl (l7 F.e rfl) fun a F=>Gv ?_)));refine wp_cond (t:=true) (F.ev (QL Value.bool hb)) (wp_skip ?_);refine wp_block (reg (AB F rfl fun a F=>Cm F rfl (iy (i:=0) rfl) fun a F=>?_));have O5:=O.below (DD w' (.cells #[.int .u8 0] 5));have h5:=AKP w' 0 (by decide);have b5:=bel.trans (Iu (DD w' (.cells #[.int .u8 0] 5)) bel.size);generalize w'.alloc (.cells #[.int .u8 0] 5)=w5 at O5 h5 b5 ⊢;refine jT F rfl O5 rfl rfl h5 (by rw[Xf];have:=Sq m.length;omega) b5.size fun v6 w6 a O6 b6 F=>AR F rfl fun a F=>Gv ?_
  rw[AES hk] at O6;exact⟨rfl,⟨⟨_,F,e0,e3,O6⟩,b5.trans b6⟩,by omega⟩
 intro a w3 ⟨⟨f,F,e0,e3,O3⟩,b3⟩
 refine BQ (AB F rfl fun a F=>Cm F rfl AT5 fun a F=>?_);have O5:=O3.below (DD w3 (.cells (Array.replicate 8 (.int .u8 0)) 5));have h5:=AIR w3 8;have b5:=b3.trans (Iu (DD w3 (.cells (Array.replicate 8 (.int .u8 0)) 5)) b3.size);generalize w3.alloc (.cells (Array.replicate 8 (.int .u8 0)) 5)=w5 at O5 h5 b5 ⊢;refine jT F rfl O5 rfl rfl h5 (by rw[Xf];have:=Sq m.length;omega) b5.size fun v6 w6 a O6 b6 F=>AR F rfl fun a F=>Ae ?_
 have b6':=b5.trans b6;obtain⟨ap,cc,adI⟩:∃ ap cc,D= .slice ap m.length cc:=⟨_,_,hDv⟩;have hw8:IntKind.u64.wrap (IntKind.u64.wrap (m.length:Int)*8)=((m.length*8:Nat):Int):=by
  rw[P7,P7];omega
 refine BQ (AB F rfl fun a F=>Cm F rfl (Ug (F.ev (e0.trans adI))) fun a F=>Cm F rfl (ASU F.e) fun a F=>Cm F rfl (AL4 F.e rfl) fun a F=>AR F rfl fun a F=>Ae ?_);refine KT (J:=fun a w'=>PB w2 D w.heap.size m 0 a w') (BQ (Bv F rfl fun a F=>Ae ?_)) ?_
 ·have hJ:PB w2 D w.heap.size m 8 a w6:=by
   refine⟨⟨_,F,e0,e3,?_,QL (Value.int .u64) hw8,rfl⟩,b6'⟩;have:al2 m 8=ry m 0++List.replicate 8 0:=by unfold al2;rw[zcu,zcv,TL]
   rw[this];exact O6
  clear F O6 b6 b6' O5 h5 b5 O3 b3 e0 e3;refine wp_block (wp_loop_rounds _ (Lc (J:=fun k a w'=>PB w2 D w.heap.size m k a w'∧k≤8) ?_ ?_ 8 _ _ ⟨hJ,JP _⟩))
  ·intro a w' ⟨⟨⟨f,F,e0,e3,O,e5,e6⟩,bel⟩,_⟩
   refine wp_seq (wp_seq (reg (AB F rfl fun a F=>Cm F rfl (Wj (F.ev e6) rfl) fun a F=>Gv ?_)));refine wp_cond (t:=false) F.e (wp_exit ?_);exact⟨rfl,⟨_,F,e0,e3,O,e5,e6⟩,bel⟩
  ·intro k a w' ⟨⟨⟨f,F,e0,e3,O,e5,e6⟩,bel⟩,hk⟩
   have hb:decide ((0:Int)≤Ls (k+1))=true:=decide_eq_true (yP k);have h8k:IntKind.i64.wrap (8*Ls (k+1))=((8*k:Nat):Int):=by
    rw[zb,gL (by omega) (by omega)];omega
   refine wp_seq (wp_seq (reg (AB F rfl fun a F=>Cm F rfl (Wj (F.ev e6) rfl) fun a F=>Gv ?_)));refine wp_cond (t:=true) (F.ev (QL Value.bool hb)) (wp_skip ?_);refine wp_seq (wp_block (reg (AB F rfl fun a F=>AB F rfl fun a F=>AB F rfl fun a F=>Cm F rfl (ALk rfl (F.ev e6)) fun a F=>Cm F rfl (AFr (F.ev e5) (F.ev (QL (Value.int .i64) h8k))) fun a F=>Cm F rfl (AKz F.e) fun a F=>Cm F rfl (iy F.e) fun a F=>?_)));have O5:=O.below (DD w' (.cells #[.int .u8 (IntKind.u8.wrap (Di .shr ((m.length*8:Nat):Int) ((8*k:Nat):Int)))] 5));have h5:=AKP w' _ (Vy (Di .shr ((m.length*8:Nat):Int) ((8*k:Nat):Int)));have b5:=bel.trans (Iu (DD w' (.cells #[.int .u8 (IntKind.u8.wrap (Di .shr ((m.length*8:Nat):Int) ((8*k:Nat):Int)))] 5)) bel.size);generalize w'.alloc (.cells #[.int .u8 (IntKind.u8.wrap (Di .shr ((m.length*8:Nat):Int) ((8*k:Nat):Int)))] 5)=w5 at O5 h5 b5 ⊢;refine jT F rfl O5 rfl rfl h5 (by rw[AJ5 m hk,Xf];have:=Sq m.length;omega) b5.size fun v6 w6 a O6 b6 F=>AR F rfl fun a F=>Gv ?_
   rw[ACS (by omega)] at O6;refine reg (AB F rfl fun a F=>Cm F rfl (bQ (F.ev e6) rfl) fun a F=>AR F rfl fun a F=>Gv ?_);exact⟨rfl,⟨⟨_,F,e0,e3,O6,e5,QL (Value.int .i64) (PD (by omega))⟩,b5.trans b6⟩,by omega⟩
 intro a w3 ⟨⟨f,F,e0,e3,O3,_,_⟩,b3⟩
 rw[AHe] at O3;have hmod:=zP m;have hAl:(m++gD m.length).length=m.length+(Gx m.length+16):=by rw[K6,Zq]
 have hpT:=Sq m.length;have hA8:∀ x∈m++gD m.length,0≤x∧x≤255:=fun x hx=>by
  rcases iQ.1 hx with h|h
  ·exact h8.1 x h
  ·exact AGi x h
 obtain⟨rb,rc,hrv,hrc,hrB,-,hr8⟩:=ZT O3 (by omega) hA8;have M3:Ar true w3 (w.heap.size,0) U8 H0:=M2.frm (F9 (S:=fun _ _=>False) b3) fun _ _ h=>h
 have f3:CV w w3 (fun _ _=>False):=f2.trans (F9 b3);have hne:rb≠w.heap.size:=by omega
 generalize hAA:m++gD m.length=A at *
 refine KT (J:=fun a w'=>PC GC w rb rc A 0 a w') (BQ (Bv F rfl fun a F=>Ae ?_)) ?_
 ·have hJ:PC GC w rb rc A (A.length/128) _ w3:=⟨_,_,F,e3,hrv,by rw[show A.length-A.length/128*128=0 by omega];rfl,M3,by rw[show A.length-A.length/128*128=0 by omega];rfl,hr8,f3,Ia hG ε (f3.mono (S':=fun b _=>b=w.heap.size) fun _ _ _ h=>h.elim) δ⟩;clear F O3 b3 e0 e3 M3 f3 hrv hr8;refine wp_block (wp_loop_rounds _ (Lc (J:=fun k a w'=>PC GC w rb rc A k a w'∧k*128≤A.length) ?_ ?_ (A.length/128) _ _ ⟨hJ,by omega⟩))
  ·intro a w' ⟨⟨f,h,F,e3,e4,e7,M,hh,r8,fr,gw⟩,_⟩
   have hb:decide (((A.length-0*128:Nat):Int)<(A.length:Int))=false:=decide_eq_false (by omega);refine wp_seq (wp_seq (reg (AB F rfl fun a F=>AB F rfl fun a F=>Cm F rfl (Ug (F.ev e4)) fun a F=>Cm F rfl (YX (F.ev e7) F.e) fun a F=>Gv ?_)));refine wp_cond (t:=false) (F.ev (QL Value.bool hb)) (wp_exit ?_);exact⟨rfl,_,_,F,e3,e4,e7,M,hh,r8,fr,gw⟩
  ·intro k a w' ⟨⟨f,h,F,e3,e4,e7,M,hh,r8,fr,gw⟩,hk⟩
   have hb:decide (((A.length-(k+1)*128:Nat):Int)<(A.length:Int))=true:=decide_eq_true (by omega);refine wp_seq (wp_seq (reg (AB F rfl fun a F=>AB F rfl fun a F=>Cm F rfl (Ug (F.ev e4)) fun a F=>Cm F rfl (YX (F.ev e7) F.e) fun a F=>Gv ?_)));refine wp_cond (t:=true) (F.ev (QL Value.bool hb)) (wp_skip ?_);have hat:IntKind.i64.wrap (((A.length-(k+1)*128:Nat):Int)+128)=((A.length-(k+1)*128+128:Nat):Int):=by
    rw[gL (by omega) (by omega)];omega
   refine wp_seq (wp_block (wp_region_still_tail 6 mixed (by kernel_rfl) ?_));have hfd:CV w' { w' with drawn:=w'.drawn+1 } (fun _ _=>False):=(CV.refl _ _).of_heap rfl rfl rfl rfl;generalize ({ w' with drawn:=w'.drawn+1 }:World)=w5 at hfd ⊢;have M5:=M.frm hfd fun _ _ h=>h
   have r5:=r8.frm0 hfd;have fr5:=fr.trans hfd;have gw5:=Ia hG gw (hfd.mono (S':=fun b _=>b=w.heap.size) fun _ _ _ h=>h.elim) δ;refine Dq F rfl rfl rfl (VU (cs:=AZ U8 h) (fun w=>by simp[go_sem]) (fun w=>by rw[Ep M.1.1];simp[go_sem];rfl) (F.ev e3) M5.vals) fun a F=>Kv F rfl fun a F=>Kv F rfl fun a F=>Kv F rfl fun a F=>Dq F rfl rfl rfl (lW (F.ev e7) rfl) fun a F=>Dq F rfl rfl rfl (AR8 (F.ev e4) (F.ev e7) (F.ev (QL (Value.int .i64) hat)) (by omega) (by omega)) fun a F=>?_
   have mb:Ar false w5 (rb,A.length-(k+1)*128) (List.replicate 128 .u8) ((A.drop (A.length-(k+1)*128)).take 128):=by
    have:=xA (k:=A.length-(k+1)*128) (m:=128) (r5.memI rfl) (by omega)
    rwa [NU] at this
   refine Jr F rfl (Cz rfl F.e F.e Tryz.call69) (AEJ hG gw5 (G9 δ fr5.1) M5.1 mb (by omega)) fun e w6 h6=>⟨_,h6.ret,fun a F=>?_⟩
   have M6:=M5.frm h6.frm fun _ _ h=>h
   have r6:=r5.frm0 h6.frm;have fr6:=fr5.trans h6.frm;have hl6:=Ep h6.rng.1;refine LP F rfl rfl (QX (cs:=AZ U8 (mO h ((A.drop (A.length-(k+1)*128)).take 128))) (fun w=>by rw[hl6];simp[go_sem];rfl) (F.ev e3) F.e Ip (fun j hj=>M6.ex j (by rw[hl6] at hj;exact hj))) fun a F=>Gv ?_
   have M7:=Ov h6.rng M6.ex;have r7:Fe (w6.setCells w.heap.size 0 (AZ U8 (mO h ((A.drop (A.length-(k+1)*128)).take 128)))) rb 0 A:=⟨r6.1,fun i hi=>(II (f:=false) ⟨r6.2 i hi,fun h=>(by cases h)⟩ (.inl hne)).1⟩;have f7:=Ck (S:=fun _ _=>False) (b:=w.heap.size) (AZ U8 (mO h ((A.drop (A.length-(k+1)*128)).take 128))) 0 fr6 fun _ _=>.inl (JP _)
   generalize w6.setCells w.heap.size 0 (AZ U8 (mO h ((A.drop (A.length-(k+1)*128)).take 128)))=w7 at M7 r7 f7 ⊢;refine reg (AB F rfl fun a F=>Cm F rfl (lW (F.ev e7) rfl) fun a F=>AR F rfl fun a F=>Gv ?_);have hat2:A.length-(k+1)*128+128=A.length-k*128:=by omega
   refine⟨rfl,⟨_,_,F,e3,e4,QL (Value.int .i64) (by rw[hat,hat2]),M7,?_,r7,f7,Ia hG ε (f7.mono (S':=fun b _=>b=w.heap.size) fun _ _ _ h=>h.elim) δ⟩,by omega⟩;rw[← hh,QQ,List.drop_drop,hat2]
 intro a w8 ⟨f,h,F,e3,_,_,M8,hh,_,f8,g8⟩
 have hh2:h=hst A:=hh;have hhl:h.length=8:=M8.1.1;refine BQ (Cm F rfl qP fun a F=>AR F rfl fun a F=>Ae ?_);have O9:=XJ w8 #[] 0 (by omega) rfl;have b9:=DD w8 (.cells #[] 5);generalize w8.alloc (.cells #[] 5)=w9 at O9 b9 ⊢;refine KT (J:=fun a w'=>∃ f,Fr a 76 f∧Ql w' w8.heap.size (f 8) (ou h 8)∧Below w8.heap.size w8 w') (BQ (Bv F rfl fun a F=>Ae ?_)) ?_
 ·refine wp_block (wp_loop_rounds _ (Lc (J:=fun k a w'=>∃ f,Fr a 76 f∧f 3= .pointer (some ⟨w.heap.size,0,none⟩)∧f 9= .int .i64 ((8-k:Nat):Int)∧Ql w' w8.heap.size (f 8) (ou h (8-k))∧Below w8.heap.size w8 w'∧k≤8) ?_ ?_ 8 _ _ ⟨_,F,e3,rfl,by rw[show ou h (8-8)= [] from rfl];exact O9,b9,JP _⟩))
  ·intro a w' ⟨f,F,e3,e9,O,bel,_⟩
   refine wp_seq (wp_seq (reg (AB F rfl fun a F=>Cm F rfl (YX (F.ev e9) rfl) fun a F=>Gv ?_)));refine wp_cond (t:=false) F.e (wp_exit ?_);exact⟨rfl,_,F,O,bel⟩
  ·intro k a w' ⟨f,F,e3,e9,O,bel,hk⟩
   have hb:decide (((8-(k+1):Nat):Int)<8)=true:=decide_eq_true (by omega);refine wp_seq (wp_seq (reg (AB F rfl fun a F=>Cm F rfl (YX (F.ev e9) rfl) fun a F=>Gv ?_)));refine wp_cond (t:=true) (F.ev (QL Value.bool hb)) (wp_skip ?_);generalize hi:8-(k+1)=i at *
   have hi8:i<8:=by omega
   refine KT (J:=fun a w'=>∃ f,Fr a 76 f∧f 3= .pointer (some ⟨w.heap.size,0,none⟩)∧f 9= .int .i64 (i:Int)∧Ql w' w8.heap.size (f 8) (ou h (i+1))∧Below w8.heap.size w8 w') (wp_block (BQ (Bv F rfl fun a F=>Ae ?_))) ?_
   ·refine wp_block (wp_loop_rounds _ (Lc (J:=fun q a w'=>∃ f,Fr a 76 f∧f 3= .pointer (some ⟨w.heap.size,0,none⟩)∧f 9= .int .i64 (i:Int)∧f 10= .int .i64 (Ls q)∧Ql w' w8.heap.size (f 8) (ou h i++(OL (h.getD i 0)).take (8-q))∧Below w8.heap.size w8 w'∧q≤8) ?_ ?_ 8 _ _ ⟨_,F,e3,e9,rfl,by rw[zcu,zcv,TL];exact O,bel,JP _⟩))
    ·intro a w' ⟨f,F,e3,e9,e10,O,bel,_⟩
     refine wp_seq (wp_seq (reg (AB F rfl fun a F=>Cm F rfl (Wj (F.ev e10) rfl) fun a F=>Gv ?_)));refine wp_cond (t:=false) F.e (wp_exit ?_);refine⟨rfl,_,F,e3,e9,?_,bel⟩;rw[AG1 (by omega)]
     rwa [zco (by rw[Ku];omega)] at O
    ·intro q a w' ⟨f,F,e3,e9,e10,O,bel,hq⟩
     have hb:decide ((0:Int)≤Ls (q+1))=true:=decide_eq_true (yP q);have h8k:IntKind.i64.wrap (8*Ls (q+1))=((8*q:Nat):Int):=by
      rw[zb,gL (by omega) (by omega)];omega
     have Mw:=M8.frm (F9 (S:=fun _ _=>False) bel) fun _ _ h=>h
     have hcell:=(Mw.2 i .u64 (h.getD i 0) (by rw[U8,zby,if_pos hi8]) (by simp[List.getD,hhl,hi8])).1;refine wp_seq (wp_seq (reg (AB F rfl fun a F=>Cm F rfl (Wj (F.ev e10) rfl) fun a F=>Gv ?_)));refine wp_cond (t:=true) (F.ev (QL Value.bool hb)) (wp_skip ?_);refine wp_seq (wp_block (reg (AB F rfl fun a F=>AB F rfl fun a F=>Cm F rfl (Xo (F.ev e3) (F.ev e9) hi8) fun a F=>Cm F rfl (UB F.e hcell) fun a F=>AB F rfl fun a F=>Cm F rfl (ALk rfl (F.ev e10)) fun a F=>
      Cm F rfl (AFr F.e (F.ev (QL (Value.int .i64) h8k))) fun a F=>Cm F rfl (AKz F.e) fun a F=>Cm F rfl (iy F.e) fun a F=>?_)))
     have O5:=O.below (DD w' (.cells #[.int .u8 (IntKind.u8.wrap (Di .shr (h.getD i 0) ((8*q:Nat):Int)))] 5));have h5:=AKP w' _ (Vy (Di .shr (h.getD i 0) ((8*q:Nat):Int)));have b5:=bel.trans (Iu (DD w' (.cells #[.int .u8 (IntKind.u8.wrap (Di .shr (h.getD i 0) ((8*q:Nat):Int)))] 5)) bel.size);generalize w'.alloc (.cells #[.int .u8 (IntKind.u8.wrap (Di .shr (h.getD i 0) ((8*q:Nat):Int)))] 5)=w5 at O5 h5 b5 ⊢;refine jT F rfl O5 rfl rfl h5 (by rw[K6,AOd (by omega),Y3,Ku];omega) b5.size fun v6 w6 a O6 b6 F=>AR F rfl fun a F=>Gv ?_
     rw[YY,pO (by omega)] at O6;refine reg (AB F rfl fun a F=>Cm F rfl (bQ (F.ev e10) rfl) fun a F=>AR F rfl fun a F=>Gv ?_);exact⟨rfl,_,F,e3,e9,QL (Value.int .i64) (PD (by omega)),O6,b5.trans b6,by omega⟩
   ·intro a w' ⟨f,F,e3,e9,O,bel⟩
    have hi1:IntKind.i64.wrap ((i:Int)+1)=((8-k:Nat):Int):=by
     rw[gL (by omega) (by omega)];omega
    refine reg (AB F rfl fun a F=>Cm F rfl (lW (F.ev e9) rfl) fun a F=>AR F rfl fun a F=>Gv ?_);rw[show i+1=8-k by omega] at O;exact⟨rfl,_,F,e3,QL (Value.int .i64) hi1,O,bel,by omega⟩
 intro a w' ⟨f,F,O,bel⟩
 refine BQ (AB F rfl fun a F=>AR F rfl fun a F=>Ae ?_);have fr':=f8.trans (F9 (S:=fun _ _=>False) bel);have hout:ou h 8=Kn m:=by
  unfold Kn qQ ou;rw[zco (by omega),hh2, ← hAA]
 rw[hout] at O;obtain⟨b',c',hv,ω,-,hb',h8'⟩:=ZT O (by rw[Du];omega) (fun x hx=>zf x hx);refine Kh ⟨F.df,f 8,?_,⟨_,rfl,by rw[hv];exact JI.of_has h8' rfl ω⟩,fr',Ia hG ε (fr'.mono (S':=fun b _=>b=w.heap.size) fun _ _ _ h=>h.elim) δ⟩;have h2:=F.tm 2;rw[Ti] at h2;simp[results,Tryz.results39,go_sem];exact h2
end
end Go.Proofs.YtloibefkijfdlaaGreatDoor
