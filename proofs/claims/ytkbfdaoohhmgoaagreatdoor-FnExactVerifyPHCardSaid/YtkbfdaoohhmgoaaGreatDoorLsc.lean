/- What stands ahead of a message that has a context. -/
import Derived.Test.YtkbfdaoohhmgoaaGreatDoorVsa
import Derived.Lib.AppendStr
import Derived.Lib.SlBytesConst
namespace Go.Proofs.YtkbfdaoohhmgoaaGreatDoor
section
open Go Go.RowKit Go.Lib Ma
def pfL:List UInt8:=[83,105,103,69,100,50,53,53,49,57,32,110,111,32,69,100,50,53,53,49,57,32,99,111,108,108,105,115,105,111,110,115]
def pfX(k:UInt8):ByteArray:=⟨#[83,105,103,69,100,50,53,53,49,57,32,110,111,32,69,100,50,53,53,49,57,32,99,111,108,108,105,115,105,111,110,115,k]⟩
def gF:List Int:=pfL.map λb=>(b.toNat:Int)
def Xc(k:UInt8)(c:ByteArray):List Int:=gF ++ [(k.toNat:Int),IntKind.u8.wrap (c.size:Int)]++TC c
theorem wX(k:UInt8)(c:ByteArray)(h:((pfX k).toList == ([]:List UInt8))=false):Px (pfX k) c=Xc k c:=by
 unfold Px Xc;rw[if_neg (by rw[h];decide)];have e:TC (pfX k)=gF ++ [(k.toNat:Int)]:=rfl;rw[e,MA];simp only[Yt,LS,MA]
theorem AM0(c:ByteArray):Px (pfX 1) c=Xc 1 c:=wX 1 c (by decide +kernel)
theorem iI:gF.length=32:=rfl
theorem zA:∀z∈gF,0<=z/\z<=255:=by decide +kernel
theorem pJ(k:UInt8)(c:ByteArray):(Xc k c).length=34+c.size:=by
 unfold Xc;simp only[NC,MZ,NY,HM,iI]
theorem AHK(s:ByteArray):strCells s=v8 (TC s):=by simp[strCells,v8,TC]
section
variable{ρ:Operand->Value}{d:Option Tmp}{x y z:Operand}{ty:TypeId}{pos:String}{af:Array Edge}{w:World}
theorem APR{C:Array Value}{n c:Nat}(h:ρ x= .slice (some ⟨w.heap.size,0,none⟩) n c):(execOp ρ ⟨d,.convert 22 22 x,ty,pos,af,none⟩).run Tryz.prog (w.alloc (.cells C 5))= .ok (.value (.slice (some ⟨w.heap.size,0,none⟩) n c)) (w.alloc (.cells C 5 (C.size,C.size+1))):=by
 simp only[execOp,h,Gi];rw[run_convert_bytes_const w 22 5 C n c Tryz.underlying22 Tryz.underlying5];rfl
theorem AJs{i:Int}(h:ρ x= .int .i64 i):(execOp ρ ⟨d,.convert 3 5 x,ty,pos,af,none⟩).run Tryz.prog w= .ok (.value (.int .u8 (IntKind.u8.wrap i))) w:=by
 simp[execOp,go_sem,h]
theorem AQ4{i j:Int}(h:ρ x= .int .u8 i)(hy:ρ y= .int .u8 j):(execOp ρ ⟨d,.buildSlice 22 2 #[(0,x),(1,y)],ty,pos,af,none⟩).run Tryz.prog w= .ok (.value (.slice (some ⟨w.heap.size,0,none⟩) 2 2)) (w.alloc (.cells #[.int .u8 i,.int .u8 j] 5)):=by
 simp[execOp,go_sem,h,hy]
end
theorem ATs(w:World)(x y:Int)(hx:0<=x/\x<=255)(hy:0<=y/\y<=255):DD (w.alloc (.cells #[.int .u8 x,.int .u8 y] 5)) w.heap.size 0 [x,y]:=by
 have h:=Jr w [.u8,.u8] [x,y] 5 (by
  refine⟨rfl,λi k z hk hz=>?_⟩
  match i,hk,hz with
  |0,hk,hz=>
   simp only[UV,Ai] at hk hz;subst hk;subst hz;exact⟨hx.1,hx.2⟩
  |1,hk,hz=>
   simp only[Cp,UV,Ai] at hk hz;subst hk;subst hz;exact⟨hy.1,hy.2⟩
  |i+2,hk,_=>simp at hk)
 refine⟨λz hz=>?_,λi hi=>(h.at8 (n:=2) (i:=i) (by simpa using hi)).1.1⟩;simp only[G9,List.not_mem_nil,or_false] at hz;rcases hz with rfl|rfl
 ·exact hx
 ·exact hy
section
variable{Q:Exit->Act->World->Prop}{a:Act}{w:World}{n:Nat}{f:Nat->Value}
theorem ANu{ops:Array Oper}{rest:List Oper}{t x y B:Nat}{ty:TypeId}{pos:String}{af:Array Edge}{xs:List Int}{s:ByteArray}(F:Fr a n f)(ht:Nat.blt t n=true)(τ:RX w B (f x) xs)(hy:f y= .string s)(hb:xs.length+s.size<=140737488355328)(hB:B<=w.heap.size)
  (hn:∀v' w' a',RX w' B v' (xs++TC s)->Below B w w'->Fr a' n (Rw f t v')->wpList Tryz.prog ops Q rest a' w'):wpList Tryz.prog ops Q (⟨some t,.call ⟨.builtin .append,#[.tmp x,.tmp y],#[22,9]⟩,ty,pos,af,none⟩::rest) a w:=by
 obtain⟨i0,hi,F2,rL,rm⟩:=info_parts i8;refine wpList_append_own_string (o:=⟨some t,.call ⟨.builtin .append,#[.tmp x,.tmp y],#[22,9]⟩,ty,pos,af,none⟩) w rfl (.tmp x) (.tmp y) 22 9 rfl B 5 i0 Tryz.underlying22 Tryz.underlying9 hi F2 rL rm (f x) xs.length (v8 xs) F.e τ s (F.ev hy) (by unfold maxLen;omega) hb hB ?_;intro v' w' ho hg _;refine hn v' w' _ ?_ (Wz τ hg hB) (F.put ht v');show w'.ownsRow B 5 1 v' (xs++TC s).length (v8 (xs++TC s));have e:v8 (xs++TC s)=v8 xs++strCells s:=by rw[AHK];simp[v8]
 rw[NC,MZ,e];exact ho
end
theorem AGJ(w:World)(xs:List Int)(hx:∀z∈xs,0<=z/\z<=255)(fz:Nat×Nat):DD (w.alloc (.cells (v8 xs).toArray 5 fz)) w.heap.size 0 xs:=by
 refine⟨hx,λi hi=>?_⟩;have h3:=heap_alloc_new w (.cells (v8 xs).toArray 5 fz);have h8:(v8 xs).toArray[i]? = some (.int .u8 (xs.getD i 0)):=by simp[v8,List.getD,hi]
 simp only[World.cell?,h3,KN,h8];rfl
theorem ABo{w:World}{b o b2 o2 c:Nat}{ty:TypeId}{xs ys:List Int}(hx:DD w b o xs)(hy:DD w b2 o2 ys)(h0:0<ys.length)(hb:xs.length+ys.length<=140737488355328):
  ∃v' w',(Builtin.append_ #[22,22] ty #[.slice (some ⟨b,o,none⟩) xs.length xs.length,.slice (some ⟨b2,o2,none⟩) ys.length c]).run Tryz.prog w= .ok v' w'/\RX w' w.heap.size v' (xs++ys)/\Below w.heap.size w w':=by
 obtain⟨i0,hi,F2,rL,rm⟩:=info_parts i8;have hr:=run_append_grow (P:=Tryz.prog) w 22 ty 5 i0 (.int .u8 0) Tryz.underlying22 hi F2 ⟨b,o,none⟩ xs.length xs.length (v8 xs) (by rw[rL];simp[v8]) hx.at ⟨b2,o2,none⟩ ys.length c (v8 ys) (by rw[rL];simp[v8]) hy.at (by omega) (by omega) (growslice_fits (by omega) (by rw[rm];omega));have lE:=grownCap_ge w (xs.length+ys.length) xs.length 5;have I0:grownCap w (xs.length+ys.length) xs.length 5<=maxLen:=grownCap_le_maxLen w (xs.length+ys.length) xs.length 5 (by unfold maxLen;omega);have hv8:v8 (xs++ys)=v8 xs++v8 ys:=by simp[v8]
 refine⟨_,_,hr,⟨by simp[v8],.inr ⟨w.heap.size,_,_,by rw[NC],Ie _,heap_alloc_new w.drew _,by rw[NC];exact lE,I0,?_,?_⟩⟩,?_⟩
 ·simp only[Array.size_append,List.size_toArray,Builtin.zeroCells];simp[v8,Value.cells];omega
 ·rw[NC,hv8];simp only[Array.toList_append,Yt];rw[<- Yt,List.take_left' (by simp[v8])]
 ·have hd:Below w.heap.size w w.drew:=(Below.refl _ w).drew;exact hd.alloc (Ie _) _
theorem AN9{Q:Exit->Act->World->Prop}{a:Act}{w:World}{n:Nat}{f:Nat->Value}{ops:Array Oper}{rest:List Oper}{t x y b o b2 o2 c:Nat}{ty:TypeId}{pos:String}{af:Array Edge}{xs ys:List Int}(F:Fr a n f)(ht:Nat.blt t n=true)(ex:f x= .slice (some ⟨b,o,none⟩) xs.length xs.length)(hx:DD w b o xs)(ey:f y= .slice (some ⟨b2,o2,none⟩) ys.length c)(hy:DD w b2 o2 ys)(h0:0<ys.length)(hb:xs.length+ys.length<=140737488355328)
  (hn:∀v' w' a',RX w' w.heap.size v' (xs++ys)->Below w.heap.size w w'->Fr a' n (Rw f t v')->wpList Tryz.prog ops Q rest a' w'):wpList Tryz.prog ops Q (⟨some t,.call ⟨.builtin .append,#[.tmp x,.tmp y],#[22,22]⟩,ty,pos,af,none⟩::rest) a w:=by
 obtain⟨v',w',h1,h2,h3⟩:=ABo (ty:=ty) (c:=c) hx hy h0 hb;refine wpList_plain rfl λ_ hK=>?_
 unfold Oper.wp execOp;simp only[resolve,invoke,builtin,Gi,I4,Fb,List.map_toArray,NM,VW,(F.ev (t:=x) rfl).trans ex,(F.ev (t:=y) rfl).trans ey,h1];exact hK _ _ (hn v' w' _ h2 h3 (F.put ht v'))
theorem AMh{a:Act}{d:Option Tmp}{ty:TypeId}{pos:String}{af:Array Edge}{w:World}:(execOp a.eval ⟨d,.buildSlice 22 32 #[(0,.const (.int .u8 83)),(1,.const (.int .u8 105)),(2,.const (.int .u8 103)),(3,.const (.int .u8 69)),(4,.const (.int .u8 100)),(5,.const (.int .u8 50)),(6,.const (.int .u8 53)),(7,.const (.int .u8 53)),(8,.const (.int .u8 49)),(9,.const (.int .u8 57)),(10,.const (.int .u8 32)),(11,.const (.int .u8 110)),(12,.const (.int .u8 111)),(13,.const (.int .u8 32)),(14,.const (.int .u8 69)),(15,.const (.int .u8 100)),(16,.const (.int .u8 50)),(17,.const (.int .u8 53)),(18,.const (.int .u8 53)),(19,.const (.int .u8 49)),(20,.const (.int .u8 57)),(21,.const (.int .u8 32)),(22,.const (.int .u8 99)),(23,.const (.int .u8 111)),(24,.const (.int .u8 108)),(25,.const (.int .u8 108)),(26,.const (.int .u8 105)),(27,.const (.int .u8 115)),(28,.const (.int .u8 105)),(29,.const (.int .u8 111)),(30,.const (.int .u8 110)),(31,.const (.int .u8 115))],ty,pos,af,none⟩).run Tryz.prog w= .ok (.value (.slice (some ⟨w.heap.size,0,none⟩) 32 32)) (w.alloc (.cells (v8 gF).toArray 5)):=by
 simp[execOp,go_sem,Act.eval];rfl
section
variable{GB:Nat}{GC:Nat->Nat->Option Value}{ad:Nat->Nat×Nat}(hG:GI GB GC ad)
include hG
set_option maxRecDepth 100000 in
theorem wo{w:World}{k:UInt8}{c:ByteArray}(ε:GW GC w)(δ:GB<=w.heap.size)(hk:((k.toNat:Int))<128)(hc:c.size<=1000):Calls Tryz.prog 9 #[.int .i64 (k.toNat:Int),.string c] w (MsP GC (Xc k c) w):=by
 have ajb:decide (((k.toNat:Int))<0)=false:=decide_eq_false (by omega);have hkw:IntKind.u8.wrap (k.toNat:Int)=(k.toNat:Int):=by rw[uF];omega
 refine enter (args:=[.int .i64 (k.toNat:Int),.string c]) Tryz.func9 rfl (n:=18) rfl λa F=>?_
 refine AP (Aj F rfl λa F=>AJ ?_);refine wp_seq (wp_seq (cp (AA F rfl λa F=>AZ F rfl (Qc (i:=(k.toNat:Int)) (j:=0) F.e rfl) λa F=>CY ?_)));refine wp_cond (t:=false) (F.ev (CV Value.bool ajb)) (wp_skip ?_);refine AP (AZ F rfl AMh λa F=>AZ F rfl (APR (C:=(v8 gF).toArray) F.e) λa F=>?_);have h1:=AGJ w gF zA ((v8 gF).toArray.size,(v8 gF).toArray.size+1);have b1:=DT w (.cells (v8 gF).toArray 5 ((v8 gF).toArray.size,(v8 gF).toArray.size+1));have s1:w.heap.size<(w.alloc (.cells (v8 gF).toArray 5 ((v8 gF).toArray.size,(v8 gF).toArray.size+1))).heap.size:=by rw[EC];omega
 generalize w.alloc (.cells (v8 gF).toArray 5 ((v8 gF).toArray.size,(v8 gF).toArray.size+1))=w1 at h1 b1 s1 ⊢;refine AA F rfl λa F=>AZ F rfl (AJs F.e) λa F=>AA F rfl λa F=>AZ F rfl (jF F.e) λa F=>AZ F rfl (AJs F.e) λa F=>AZ F rfl (AQ4 F.e F.e) λa F=>?_
 have kO:DD (w1.alloc (.cells #[.int .u8 (IntKind.u8.wrap (k.toNat:Int)),.int .u8 (IntKind.u8.wrap (c.size:Int))] 5)) w.heap.size 0 gF:=h1.below (DT w1 _) s1;have h2:=ATs w1 (IntKind.u8.wrap (k.toNat:Int)) (IntKind.u8.wrap (c.size:Int)) (VC _) (VC _);have b2:=b1.trans (LW (DT w1 (.cells #[.int .u8 (IntKind.u8.wrap (k.toNat:Int)),.int .u8 (IntKind.u8.wrap (c.size:Int))] 5)) b1.size);generalize w1.alloc (.cells #[.int .u8 (IntKind.u8.wrap (k.toNat:Int)),.int .u8 (IntKind.u8.wrap (c.size:Int))] 5)=w2 at kO h2 b2 ⊢;refine AN9 (xs:=gF) F rfl rfl kO rfl h2 (Nat.succ_pos _) (by rw[iI];simp only[NY,HM];omega) λv3 w3 a O3 b3 F=>AA F rfl λa F=>?_
 replace b3:=LW b3 b2.size;replace O3:=AOG O3 b2.size;have b3':=b2.trans b3;refine ANu F rfl O3 rfl (by rw[NC,iI];simp only[NY,HM];omega) b3'.size λv4 w4 a O4 b4 F=>AB F rfl λa F=>AJ ?_
 have MD:=b3'.trans b4;have f4:BD w w4 (λ_ _=>False):=HY MD;rw[hkw] at O4;have M4:=O4.msg (Va (Va zA (λz hz=>by
  simp only[G9,List.not_mem_nil,or_false] at hz;rcases hz with rfl|rfl
  ·omega
  ·exact VC _)) (pU c))
 refine Cn ⟨F.df,v4,?_,⟨v4,rfl,M4⟩,f4,F4 hG ε f4 δ⟩;have q:=F.tm 4;rw[YJ] at q;simp[results,Tryz.results9,go_sem];exact q
end
end
section
open Go Ma Go.RowKit Go.Lib
section
variable{ρ:Operand->Value}{d:Option Tmp}{x y z:Operand}{ty:TypeId}{pos:String}{af:Array Edge}{w:World}
theorem AMu{i j:Int}(h:ρ x= .int .i64 i)(hy:ρ y= .int .i64 j):(execOp ρ ⟨d,.binOp .neq 3 x y 3,ty,pos,af,none⟩).run Tryz.prog w= .ok (.value (.bool (i != j))) w:=by
 simp[execOp,go_sem,h,hy]
end
end
section
open Go Ma Go.RowKit Go.Lib
def WK(l:List Int):Prop:=l.length=32/\∃x,Md dE x (yB l)
structure NaP (GC:Nat->Nat->Option Value) (l:List Int) (w:World) (e:Ending) (w':World):Prop where
 ex:(∃h:WK l,∃B m,e= .returned (.tuple #[pp B,.nilIface])/\w.heap.size<=B/\AO true w' (B,0) (KU 20) m/\R3 (cO l h.2) m/\AO true w' (B,20) (List.replicate 32 .u8) l)\/(¬WK l/\∃t v,e= .returned (.tuple #[.pointer none,.iface t v]))
 an:BD w w' (λ_ _=>False)
 gw:GW GC w'
section
variable{ρ:Operand->Value}{d:Option Tmp}{x y z:Operand}{ty t t':TypeId}{pos:String}{af:Array Edge}{w:World}
theorem ADd(h:ρ x= .nilIface)(hy:ρ (.const .nilIface)= .nilIface):(execOp ρ ⟨d,.binOp .eql 33 x (.const .nilIface) 33,ty,pos,af,none⟩).run Tryz.prog w= .ok (.value (.bool true)) w:=by
 simp[execOp,go_sem,h,hy]
theorem rM{t:TypeId}{v:Value}(h:ρ x= .iface t v)(hy:ρ (.const .nilIface)= .nilIface):(execOp ρ ⟨d,.binOp .eql 33 x (.const .nilIface) 33,ty,pos,af,none⟩).run Tryz.prog w= .ok (.value (.bool false)) w:=by
 simp[execOp,go_sem,h,hy]
end
theorem UL{P:Program}{w w':World}{name:String}{k:IntKind}{zs:List Int}(h:Lib.TabIs P w name k zs)(hf:BD w w' (λ_ _=>False)):Lib.TabIs P w' name k zs:=eZ h (J9 hf λ_ _ h=>h.elim)
section
variable {GB:Nat} {GC:Nat->Nat->Option Value} {ad:Nat->Nat×Nat} (hG:GI GB GC ad) {w:World} (ε:GW GC w) (δ:GB<=w.heap.size) (θ:Lib.TabIs Tryz.prog w "internal/strconv.uint64pow10" .u64 Lib.pow10Tab)
include hG ε δ θ
theorem vT{v:Value}{l:List Int}(hm:Ku w v l)(hl:l.length<=4294967295):Calls Tryz.prog 12 #[v] w (NaP GC l w):=by
 by_cases h:l.length=32
 ·obtain⟨b,o,c,rfl,hc,hx⟩:=hm.has (by omega);rw[h] at hc ⊢;refine(ANr hG ε δ hx h hc).mono λe w' hp=>⟨?_,hp.an,hp.gw⟩
  rcases hp.ex with⟨hy,B,m,h1⟩|⟨hn,h1⟩
  ·exact .inl ⟨⟨h,hy⟩,B,m,h1⟩
  ·exact .inr ⟨λq=>hn q.2,h1⟩
 ·obtain⟨ap,c,rfl,-, -, -⟩:=hm;have hn:((l.length:Int) != 32)=true:=by simpa using λe:(l.length:Int)=32=>h (by omega)
  exact(AL0 hG ε δ hn (by omega) θ).mono λe w' hp=>⟨.inr ⟨λq=>h q.1,hp.ret⟩,hp.an,hp.gw⟩
variable(hS:DD w 5 0 bO){B:Nat}{xA lP sg msg:List Int}{A:Pt}{vm vs:Value}{c:ByteArray}(mA:AO true w (B,0) (KU 20) xA)(hA:R3 A xA)(mP:AO true w (B,20) (List.replicate 32 .u8) lP)(hm:Ku w vm msg)(wv:msg.length<1099511627776)(hs:Ku w vs sg)(tw:sg.length<=4294967295)
include hS mA hA mP hm wv hs tw
theorem ug{p:ByteArray}(CH:p.size<1099511627776)(kx:c.size<1099511627776):Calls Tryz.prog 45 #[pp B,vm,vs,.string p,.string c] w (VfP GC (DG (Px p c) lP A msg sg) w):=by
 by_cases h:sg.length=64
 ·obtain⟨b,o,cs,rfl,hc,hx⟩:=hs.has (by omega);rw[h] at hc ⊢;exact ALz hG ε δ hS mA hA mP hm wv CH kx hx h hc
 ·obtain⟨ap,cs,rfl,-, -, -⟩:=hs;have hn:((sg.length:Int) != 64)=true:=by simpa using λe:(sg.length:Int)=64=>h (by omega)
  exact(AMO hG ε δ hn (by omega) θ).mono λe w' hp=>⟨.inr ⟨λq=>h q.1,hp.ret⟩,hp.an,hp.gw⟩
set_option maxRecDepth 100000 in
theorem AG8(kx:c.size<=4294967295)(ahU:msg.length<=4294967295):Calls Tryz.prog 28 #[pp B,vm,vs,.string c] w (VfP GC (msg.length=64/\c.size<=255/\DG (Xc 1 c) lP A msg sg) w):=by
 obtain⟨ap,cm,rfl,-, -, -⟩:=id hm;refine enter (args:=[pp B,.slice ap msg.length cm,vs,.string c]) Tryz.func28 rfl (n:=32) rfl λa F=>?_
 refine AP (Aj F rfl λa F=>AJ ?_);refine wp_seq (AP (AA F rfl λa F=>AZ F rfl (OE (m:=msg.length) F.e) λa F=>AB F rfl λa F=>AJ ?_));refine AP (AA F rfl λa F=>AZ F rfl (AMu F.e rfl) λa F=>AJ ?_);by_cases DE:msg.length=64
 ·have acf:((msg.length:Int) != 64)=false:=by rw[DE];rfl
  refine wp_cond (t:=false) (F.ev (CV Value.bool acf)) (wp_skip ?_);refine wp_seq (AP (AA F rfl λa F=>AZ F rfl (jF F.e) λa F=>AB F rfl λa F=>AJ ?_));refine AP (AA F rfl λa F=>AZ F rfl (xg F.e rfl) λa F=>AJ ?_);by_cases hc:c.size<=255
  ·have hb:decide ((255:Int)<(c.size:Int))=false:=decide_eq_false (by omega);refine wp_cond (t:=false) (F.ev (CV Value.bool hb)) (wp_skip ?_);have h0:=ug hG ε δ θ hS mA hA mP hm wv hs tw (p:=pfX 1) (c:=c) (by decide) (by omega);rw[AM0] at h0;refine AP (AA F rfl λa F=>AA F rfl λa F=>AA F rfl λa F=>AA F rfl λa F=>EG F rfl (jN rfl F.e F.e F.e rfl F.e Tryz.call45) h0 λe w2 h2=>?_);rcases h2.ex with⟨hV,he⟩|⟨hV,t,x,he⟩
   ·refine⟨_,he,λa F=>AB F rfl λa F=>AJ ?_⟩;refine Cn ⟨F.df,.nilIface,?_,.inl ⟨⟨DE,hc,hV⟩,rfl⟩,h2.an,h2.gw⟩;simp[results,Tryz.results28,go_sem];exact F.gd rfl
   ·refine⟨_,he,λa F=>AB F rfl λa F=>AJ ?_⟩;refine Cn ⟨F.df,.iface t x,?_,.inr ⟨λq=>hV q.2.2,t,x,rfl⟩,h2.an,h2.gw⟩;simp[results,Tryz.results28,go_sem];exact F.gd rfl
  ·have hb:decide ((255:Int)<(c.size:Int))=true:=decide_eq_true (by omega);refine wp_cond (t:=true) (F.ev (CV Value.bool hb)) ?_;refine AP (AA F rfl λa F=>EG F rfl (BJ rfl F.e Tryz.call44) (Sr hG ε δ (by omega) (by omega) θ) λe w1 h1=>?_);obtain⟨s,he,cX⟩:=h1.ret;refine⟨_,he,λa F=>AZ F rfl (aB rfl F.e (qf (Kv rfl) cX)) λa F=>?_⟩;refine EG F rfl (BJ rfl F.e Tryz.call43) (Mi hG h1.gw (EX δ h1.an.1) _) λe w2 h2=>?_
   obtain⟨t,v,he⟩:=h2.ret;refine⟨_,he,λa F=>AB F rfl λa F=>AJ ?_⟩;refine Cn ⟨F.df,.iface t v,?_,.inr ⟨λq=>hc q.2.1,t,v,rfl⟩,h1.an.trans h2.an,h2.gw⟩;simp[results,Tryz.results28,go_sem];exact F.gd rfl
 ·have acf:((msg.length:Int) != 64)=true:=by simpa using λe:(msg.length:Int)=64=>DE (by omega)
  refine wp_cond (t:=true) (F.ev (CV Value.bool acf)) ?_;refine AP (AA F rfl λa F=>EG F rfl (BJ rfl F.e Tryz.call44) (Sr hG ε δ (by omega) (by omega) θ) λe w1 h1=>?_);obtain⟨s,he,cX⟩:=h1.ret;refine⟨_,he,λa F=>AZ F rfl (aB rfl F.e (qf (Kv rfl) cX)) λa F=>?_⟩;refine EG F rfl (BJ rfl F.e Tryz.call43) (Mi hG h1.gw (EX δ h1.an.1) _) λe w2 h2=>?_
  obtain⟨t,v,he⟩:=h2.ret;refine⟨_,he,λa F=>AB F rfl λa F=>AJ ?_⟩;refine Cn ⟨F.df,.iface t v,?_,.inr ⟨λq=>DE q.1,t,v,rfl⟩,h1.an.trans h2.an,h2.gw⟩;simp[results,Tryz.results28,go_sem];exact F.gd rfl
end
end
section
open Go Ma Go.RowKit Go.Lib
structure IvP (GC:Nat->Nat->Option Value) (l:List Int) (V:WK l->Prop) (w:World) (e:Ending) (w':World):Prop where
 ex:(∃h:WK l,∃b:Bool,e= .returned (.tuple #[.bool b,.bool true])/\(b=true↔V h))\/(¬WK l/\e= .returned (.tuple #[.bool false,.bool false]))
 an:BD w w' (λ_ _=>False)
 gw:GW GC w'
def sV(v:Value):Prop:=v= .slice none 0 0\/∃a n c,v= .slice (some a) n c
section
variable {GB:Nat} {GC:Nat->Nat->Option Value} {ad:Nat->Nat×Nat} (hG:GI GB GC ad) {w:World} (ε:GW GC w) (δ:GB<=w.heap.size) (θ:Lib.TabIs Tryz.prog w "internal/strconv.uint64pow10" .u64 Lib.pow10Tab)
variable(hS:DD w 5 0 bO){lP sg msg:List Int}{vp vm vs:Value}{c:ByteArray}(hp:Ku w vp lP)(CH:lP.length<=4294967295)(zp:sV vp)(hm:Ku w vm msg)(wv:msg.length<=4294967295)(zm:sV vm)(hs:Ku w vs sg)(tw:sg.length<=4294967295)(zs:sV vs)
include hG ε δ θ hS hp CH zp hm wv zm hs tw zs
set_option maxRecDepth 100000 in
theorem AI7(kx:c.size<=4294967295):Calls Tryz.prog 11 #[vp,vm,vs,.string c] w (IvP GC lP (λh=>msg.length=64/\c.size<=255/\DG (Xc 1 c) lP (cO lP h.2) msg sg) w):=by
 refine enter (args:=[vp,vm,vs,.string c]) Tryz.func11 rfl (n:=28) rfl λa F=>?_
 refine AP (Aj F rfl λa F=>Aj F rfl λa F=>AJ ?_);refine AP (AA F rfl λa F=>EG F rfl (BJ rfl F.e Tryz.call13) (KR hp (by omega) zp) λe w1 h1=>?_);obtain⟨v1,he,ur⟩:=h1.ret;refine⟨_,he,λa F=>?_⟩;have f1:=h1.an;refine EG F rfl (BJ rfl F.e Tryz.call12) (vT hG (F4 hG ε f1 δ) (EX δ f1.1) (UL θ f1) ur CH) λe w2 h2=>?_
 have f2:=f1.trans h2.an;rcases h2.ex with⟨hy,B,m,he,hB,mB,hR,mP⟩|⟨hn,t,x,he⟩
 ·refine⟨_,he,λa F=>AA F rfl λa F=>AZ F rfl (Ik F.e) λa F=>AZ F rfl (FZ F.e) λa F=>AB F rfl λa F=>AB F rfl λa F=>AJ ?_⟩;refine wp_seq (AP (AA F rfl λa F=>AZ F rfl (ZT F.e rfl) λa F=>AJ (wp_cond_false F.e (wp_skip ?_))));show Code.wp _ _ _ _ _;obtain⟨f,F,e1,e2,e3,e8⟩:∃f,Fr a 28 f/\f 1=vm/\f 2=vs/\f 3= .string c/\f 10=pp B:=⟨_,F,rfl,rfl,rfl,rfl⟩;refine AP (AA F rfl λa F=>AA F rfl λa F=>EG F rfl (BJ rfl (F.ev (t:=21) e1) Tryz.call13) (KR (hm.cr f2) (by omega) zm) λe w3 h3=>?_);obtain⟨v3,he,hm3⟩:=h3.ret;refine⟨_,he,λa F=>?_⟩;have f3:=f2.trans h3.an;refine AA F rfl λa F=>EG F rfl (BJ rfl (F.ev (t:=23) e2) Tryz.call13) (KR (hs.cr f3) (by omega) zs) λe w4 h4=>?_
  obtain⟨v4,he,W6⟩:=h4.ret;refine⟨_,he,λa F=>?_⟩;have f4:=f3.trans h4.an;have f24:=h3.an.trans h4.an;refine AA F rfl λa F=>?_
  refine EG F rfl (Rs rfl (F.ev (t:=20) e8) (F.ev (t:=22) rfl) (F.ev (t:=24) rfl) (F.ev (t:=25) e3) Tryz.call28) (AG8 hG (F4 hG ε f4 δ) (EX δ f4.1) (UL θ f4) (hS.cr f4) (mB.fn f24) hR (mP.fn f24) (hm3.cr h4.an) (by omega) W6 tw kx wv) λe w5 h5=>?_
  have f5:=f4.trans h5.an;rcases h5.ex with⟨hV,he⟩|⟨hV,t,x,he⟩
  ·refine⟨_,he,λa F=>AZ F rfl (ADd F.e rfl) λa F=>AB F rfl λa F=>Aj F rfl λa F=>AJ ?_⟩;refine Cn ⟨F.df,.tuple #[.bool true,.bool true],?_,.inl ⟨hy,true,rfl,λ_=>hV,λ_=>rfl⟩,f5,h5.gw⟩;simp[results,Tryz.results11,go_sem];exact⟨F.gd rfl,F.gd rfl⟩
  ·refine⟨_,he,λa F=>AZ F rfl (rM F.e rfl) λa F=>AB F rfl λa F=>Aj F rfl λa F=>AJ ?_⟩;refine Cn ⟨F.df,.tuple #[.bool false,.bool true],?_,.inl ⟨hy,false,rfl,λh=>(by cases h),λh=>absurd h hV⟩,f5,h5.gw⟩;simp[results,Tryz.results11,go_sem];exact⟨F.gd rfl,F.gd rfl⟩
 ·refine⟨_,he,λa F=>AA F rfl λa F=>AZ F rfl (Ik F.e) λa F=>AZ F rfl (FZ F.e) λa F=>AB F rfl λa F=>AB F rfl λa F=>AJ ?_⟩;refine wp_seq (AP (AA F rfl λa F=>AZ F rfl (bS F.e rfl) λa F=>AJ ?_));refine wp_cond (t:=true) F.e ?_;refine AP (Aj F rfl λa F=>Aj F rfl λa F=>AJ ?_);refine Cn ⟨F.df,.tuple #[.bool false,.bool false],?_,.inr ⟨hn,rfl⟩,f2,h2.gw⟩;simp[results,Tryz.results11,go_sem];exact⟨F.gd rfl,F.gd rfl⟩
end
end
section
open Go Ma Go.RowKit Go.Lib
section
variable{GB:Nat}{GC:Nat->Nat->Option Value}{ad:Nat->Nat×Nat}(hG:GI GB GC ad){w:World}(ε:GW GC w)(δ:GB<=w.heap.size)
include hG ε δ
theorem AA3{x:List Int}(hx:EP LU x):Calls Tryz.prog 17 #[.agg (AL LU x).toArray] w (ql GC U8 (Gz.raw Gr 0 [x]) w):=by
 have:=Mc (F:=λa=>BF 8 (Gz.raw Gr 0 a)) (ks:=U8) (args:=[.agg (AL LU x).toArray]) (ins:=[x]) (bs:=[(0,0)]) ε δ (Uq hG) rfl rfl ⟨⟨hx,rfl⟩,trivial⟩ Wx (λh=>absurd (show false=true from h) (by decide));obtain⟨h1,h2⟩:=hx.cI;rw[Ay (Ws h1 h2).len] at this;exact this
end
end
section
open Go Ma Go.RowKit Go.Lib
section
variable {GB:Nat} {GC:Nat->Nat->Option Value} {ad:Nat->Nat×Nat} (hG:GI GB GC ad) {w:World} (ε:GW GC w) (δ:GB<=w.heap.size) (θ:Lib.TabIs Tryz.prog w "internal/strconv.uint64pow10" .u64 Lib.pow10Tab)
variable(hS:DD w 5 0 bO){P:Pt}{sg msg:List Int}{vp vm vs:Value}(hp:Ku w vp (S9 P))(zp:sV vp)(hm:Ku w vm msg)(wv:msg.length<=4294967295)(zm:sV vm)(hs:Ku w vs sg)(tw:sg.length<=4294967295)(zs:sV vs)
include hG ε δ θ hS hp zp hm wv zm hs tw zs
end
section
variable{ρ:Operand->Value}{d:Option Tmp}{x y z:Operand}{ty t t':TypeId}{pos:String}{af:Array Edge}{w:World}{gd:Option (Nat×Bool)}
theorem Je{p:Option Addr}{m c:Nat}(h:ρ x= .slice p m c):(execOp ρ ⟨d,.call ⟨.builtin .len,#[x],#[22]⟩,ty,pos,af,gd⟩).run Tryz.prog w= .ok (.value (.int .i64 m)) w:=by
 simp[go_sem,h]
theorem MR{i j:Int}(h:ρ x= .int .i64 i)(hy:ρ y= .int .i64 j):(execOp ρ ⟨d,.binOp .gtr 3 x y 3,ty,pos,af,gd⟩).run Tryz.prog w= .ok (.value (.bool (decide (j<i)))) w:=by
 simp[execOp,go_sem,h,hy]
theorem AFd{i j:Int}(h:ρ x= .int .i64 i)(hy:ρ y= .int .i64 j):(execOp ρ ⟨d,.binOp .neq 3 x y 3,ty,pos,af,gd⟩).run Tryz.prog w= .ok (.value (.bool (i != j))) w:=by
 simp[execOp,go_sem,h,hy]
theorem ZY{i j:Int}(h:ρ x= .int .i64 i)(hy:ρ y= .int .i64 j):(execOp ρ ⟨d,.binOp .eql 3 x y 3,ty,pos,af,gd⟩).run Tryz.prog w= .ok (.value (.bool (i == j))) w:=by
 simp[execOp,go_sem,h,hy]
theorem QD{s:ByteArray}(h:ρ x= .string s):(execOp ρ ⟨d,.call ⟨.builtin .len,#[x],#[9]⟩,ty,pos,af,gd⟩).run Tryz.prog w= .ok (.value (.int .i64 s.size)) w:=by
 simp[go_sem,h]
theorem Zg{i j:Int}(h:ρ x= .int .i64 i)(hy:ρ y= .int .i64 j):(execOp ρ ⟨d,.binOp .leq 3 x y 3,ty,pos,af,gd⟩).run Tryz.prog w= .ok (.value (.bool (decide (i<=j)))) w:=by
 simp[execOp,go_sem,h,hy]
theorem Wy{u v:Bool}(h:ρ x= .bool u)(hy:ρ y= .bool v):(execOp ρ ⟨d,.binOp .eql 4 x y t',ty,pos,af,gd⟩).run Tryz.prog w= .ok (.value (.bool (u == v))) w:=by
 simp[execOp,go_sem,h,hy]
theorem NZ{c:Bool}(h:ρ x= .bool c):(execOp ρ ⟨d,.unOp .not t x,ty,pos,af,gd⟩).run Tryz.prog w= .ok (.value (.bool (!c))) w:=by
 simp[execOp,go_sem,h]
end
end
section
open Go Ma Go.RowKit Go.Lib
section
variable{P:Program}{ops:Array Oper}{Q:Exit->Act->World->Prop}{rest:List Oper}{a:Act}{w:World}{n:Nat}{f:Nat->Value}
theorem SC{o:Oper}{t j s g:Nat}{b:Bool}{vs:Array Value}{w0:World}{R:Ending->World->Prop}(F:Fr a n f)(hg:o.guard=some (j,b))(hd:o.dst=some t)(ht:Nat.blt t n=true)(hy:(ops[j]?).bind (·.dst)=some s)(hs:f s= .bool b)(LO:Nat.blt s n=true)(h:(execOp a.eval o).run P w= .ok (.enter g vs) w0)(hc:Calls P g vs w0 R)
  (hn:∀e w',R e w'->∃v,e= .returned v/\∀a',Fr a' n (Rw f t v)->wpList P ops Q rest a' w'):wpList P ops Q (o::rest) a w:=
 wpList_step λK hK=>by
  have hw:Region.wanted o (yielded ops a.tmps)=true:=by
   simp only[Region.wanted,hg];rw[uU F hy hs (Dh LO)];simp
  rw[if_pos hw];unfold Oper.wp;rw[h];show Calls P g vs w0 _;refine hc.mono λe w' hR=>?_
  obtain⟨v,rfl,hv⟩:=hn e w' hR;show K (a.put o.dst v) w';refine hK _ _ (hv _ ?_);rw[hd];exact F.put ht v
end
section
variable{ρ:Operand->Value}{d:Option Tmp}{x y z p:Operand}{ty t t':TypeId}{pos:String}{af:Array Edge}{w:World}{b o:Nat}{gd:Option (Nat×Bool)}
theorem ADX{g:Nat}{u:Value}(hF:ρ (.func g)= .func (.func g) #[] #[])(h:ρ x=u){at_:Array TypeId}(hc:∀(vs:Array Value) (w:World),(callFunc g vs).run Tryz.prog w= .ok (.enter g vs) w):(execOp ρ ⟨d,.call ⟨.value (.func g),#[x],at_⟩,ty,pos,af,gd⟩).run Tryz.prog w= .ok (.enter g #[u]) w:=by
 simp[execOp,go_sem,h,hF,hc]
theorem Zr{g:Nat}{u v:Value}(hF:ρ (.func g)= .func (.func g) #[] #[])(h:ρ x=u)(hy:ρ y=v){at_:Array TypeId}(hc:∀(vs:Array Value) (w:World),(callFunc g vs).run Tryz.prog w= .ok (.enter g vs) w):(execOp ρ ⟨d,.call ⟨.value (.func g),#[x,y],at_⟩,ty,pos,af,gd⟩).run Tryz.prog w= .ok (.enter g #[u,v]) w:=by
 simp[execOp,go_sem,h,hy,hF,hc]
theorem Zo{g:Nat}{u v k m:Value}(hF:ρ (.func g)= .func (.func g) #[] #[])(h:ρ x=u)(hy:ρ y=v)(hz:ρ z=k)(hp:ρ p=m){at_:Array TypeId}(hc:∀(vs:Array Value) (w:World),(callFunc g vs).run Tryz.prog w= .ok (.enter g vs) w):(execOp ρ ⟨d,.call ⟨.value (.func g),#[x,y,z,p],at_⟩,ty,pos,af,gd⟩).run Tryz.prog w= .ok (.enter g #[u,v,k,m]) w:=by
 simp[execOp,go_sem,h,hy,hz,hp,hF,hc]
theorem AKs:(execOp ρ ⟨d,.alloc 42,ty,pos,af,none⟩).run Tryz.prog w= .ok (.value (.pointer (some ⟨w.heap.size,0,none⟩))) (w.alloc (.cells (Array.replicate 24 (.int .u64 0)) 42)):=by
 simp[execOp,go_sem];rfl
theorem AF5{a:Act}:(execOp a.eval ⟨d,.build 45 #[],ty,pos,af,gd⟩).run Tryz.prog w= .ok (.value (.agg (AL LU (List.replicate 32 0)).toArray)) w:=by
 simp[execOp,go_sem];rfl
end
theorem AD7{GB:Nat}{GC:Nat->Nat->Option Value}{w:World}(ε:GW GC w)(δ:GB<=w.heap.size){f:Nat}{s:Az}{ks:List IntKind}{F:PF}{g:PI}{args:List Value}{ins:List (List Int)}{bs:List (Nat×Nat)}(eM:Bv Tryz.prog GB GC f (.one s))(cY:s.outs= [])(vf:s.ret= [.agg ks F,.bool g])(hP:Jg GB w s.params args ins bs)(hS:Ep s.params bs)(MY:s.hp=true->s.pre ins):
  Calls Tryz.prog f args.toArray w (λe w'=>e= .returned (.tuple #[.agg (AL ks (F ins)).toArray,.bool (g ins != 0)])/\EP ks (F ins)/\BD w w' (λ_ _=>False)/\GW GC w'):=by
 refine(eM true args ins bs w ε δ hP hS MY rfl).mono λe w' ⟨fb,vs,he,hq⟩=>?_
 simp only[FE.cf] at hq;have hr:=hq.ret;rw[vf] at hr
 match vs,hr with
 | [v,u],hr=>
  have h1:EP ks (F ins)/\v= .agg (AL ks (F ins)).toArray:=hr.1;have h2:u= .bool (g ins != 0):=hr.2.1;refine⟨by rw[he,h1.2,h2];rfl,h1.1,hq.an.mono λb o _ hs=>?_,hq.gw⟩;obtain⟨p,eA,_⟩:=hs;rw[cY] at eA;cases eA
structure BlP (GC:Nat->Nat->Option Value) (V:Prop) (w:World) (e:Ending) (w':World):Prop where
 ex:∃b:Bool,e= .returned (.bool b)/\(b=true↔V)
 an:BD w w' (λ_ _=>False)
 gw:GW GC w'
structure DcP (GC:Nat->Nat->Option Value) (b:List Int) (w:World) (e:Ending) (w':World):Prop where
 ex:∃l t,e= .returned (.tuple #[.agg (AL MI l).toArray,.bool t])/\EP MI l/\AIc b l/\(t=true↔∃x,Md dE x (yB b))
 an:BD w w' (λ_ _=>False)
 gw:GW GC w'
theorem lS:Js.ret= [.agg MI λa=>BF 24 (EU.raw Bp 0 a),.bool λa=>d1 (EU.raw Bp 1 a)]:=rfl
theorem ADy{b:Bool}:(d1 [KQ b] != 0)=b:=aA b
section
variable{GB:Nat}{GC:Nat->Nat->Option Value}{ad:Nat->Nat×Nat}(hG:GI GB GC ad){w:World}(ε:GW GC w)(δ:GB<=w.heap.size)
include hG ε δ
theorem Xp{x:List Int}(hx:EP LU x):Calls Tryz.prog 15 #[.agg (AL LU x).toArray] w (DcP GC x w):=by
 obtain⟨h1,h2⟩:=hx.cI;obtain⟨q1,q2⟩:=aX h1 h2;refine(AD7 (ks:=MI) (args:=[.agg (AL LU x).toArray]) (ins:=[x]) (bs:=[(0,0)]) ε δ (SH hG) rfl lS ⟨⟨hx,rfl⟩,trivial⟩ Wx (λh=>absurd (show false=true from h) (by decide))).mono λe w' ⟨he,hr,hf,hw⟩=>?_
 have hl:(EU.raw Bp 0 [x]).length=24:=by
  obtain⟨u,v,k,e,hu,hv,hk⟩:=q1.ex;rw[e];simp only[NC,hu.len,hv.len,hk.len]
 rw[q2,ADy,Ay hl] at he;rw[Ay hl] at hr;exact⟨⟨_,_,he,hr,q1,Ni.trans (AFq _)⟩,hf,hw⟩
set_option maxRecDepth 100000 in
theorem Zb{v:Value}{xs:List Int}(hm:Ku w v xs):Calls Tryz.prog 16 #[v] w (λe w'=>∃l,ql GC LU l w e w'/\(xs.length=32->l=xs)):=by
 refine enter (args:=[v]) Tryz.func16 rfl (n:=9) rfl λa F=>?_
 refine AP (AZ F rfl rH λa F=>AJ ?_);have M1:=Dj w 32 .u8 45 ⟨by decide,by decide⟩;have f1:BD w (w.alloc (.cells (Array.replicate 32 (.int .u8 0)) 45)) (λ_ _=>False):=BC _ _ _;have s1:(w.alloc (.cells (Array.replicate 32 (.int .u8 0)) 45)).heap.size=w.heap.size+1:=EC _ _;generalize w.alloc (.cells (Array.replicate 32 (.int .u8 0)) 45)=w1 at M1 f1 s1 ⊢;refine AP (AZ F rfl AF5 λa F=>AZ F rfl rH λa F=>?_);have M2:=Dj w1 32 .u8 45 ⟨by decide,by decide⟩;have f2:BD w1 (w1.alloc (.cells (Array.replicate 32 (.int .u8 0)) 45)) (λ_ _=>False):=BC _ _ _;generalize w1.alloc (.cells (Array.replicate 32 (.int .u8 0)) 45)=w2 at M2 f2 ⊢;have r0:EP LU (List.replicate 32 0):=M2.1;have l0:=Cg r0.1;refine FB F rfl rfl (Kb (cs:=AL LU (List.replicate 32 0)) (λw=>by rw[l0];simp[go_sem]<;>rfl) F.e F.e D7 (λj hj=>M2.ex j (by rw[l0] at hj;exact hj))) λa F=>AJ ?_
 have M3:=Iw r0 M2.ex;have f3:BD w1 (w2.setCells w1.heap.size 0 (AL LU (List.replicate 32 0))) (λ_ _=>False):=BG _ _ f2 λ_ _=>.inl (Ie _)
 generalize w2.setCells w1.heap.size 0 (AL LU (List.replicate 32 0))=w3 at M3 f3 ⊢;have hp:=hm.psl (f1.trans f3) f1.1;have ht:(xs.take 32).length<=32:=by rw[Qw];omega
 refine AP (AZ F rfl (wC F.e) λa F=>AA F rfl λa F=>AZ F rfl (kD F.e F.e hp (λi hi=>M3.ex i (by rw[show LU.length=32 from rfl];exact hi))) λa F=>AJ ?_);have M4:=UJ (r:=0) (ys:=xs.take 32) M3 (λy hy=>hm.fy y (List.mem_of_mem_take hy)) (by omega);have f4:BD w1 (w3.setCells w1.heap.size (0+0) (v8 (xs.take 32))) (λ_ _=>False):=BG _ _ f3 λ_ _=>.inl (Ie _)
 show Code.wp _ _ _ _ (w3.setCells w1.heap.size (0+0) (v8 (xs.take 32)));have afB:xs.length=32->Go.Proofs.YtkbfdaoohhmgoaaGreatDoor.lay (List.replicate 32 0) (xs.take 32) 0=xs:=λh=>by
  unfold Go.Proofs.YtkbfdaoohhmgoaaGreatDoor.lay;rw[NO (l:=xs) (by omega),h,List.drop_of_length_le (by simp),RD];rfl
 generalize Go.Proofs.YtkbfdaoohhmgoaaGreatDoor.lay (List.replicate 32 0) (xs.take 32) 0=l at M4 afB;generalize w3.setCells w1.heap.size (0+0) (v8 (xs.take 32))=w4 at M4 f4 ⊢;have M14:=M1.an f4 λ_ _ h=>h
 have mC:(AL LU l).length=32:=Cg M4.1.1;refine AP (AZ F rfl (OL (cs:=AL LU l) (λw=>by simp[go_sem]) (λw=>by rw[mC];simp[go_sem]<;>rfl) F.e M4.cJ) λa F=>FB F rfl rfl (Kb (cs:=AL LU l) (λw=>by rw[mC];simp[go_sem]<;>rfl) F.e F.e D7 (λj hj=>M14.ex j (by rw[mC] at hj;exact hj))) λa F=>AJ ?_)
 have M5:=Iw M4.1 M14.ex;have f5:BD w (w4.setCells w.heap.size 0 (AL LU l)) (λ_ _=>False):=BG _ _ (f1.trans f4) λ_ _=>.inl (Ie _)
 refine Cn ⟨F.df,.agg (AL LU l).toArray,?_,⟨l,⟨rfl,M4.1,f5,F4 hG ε f5 δ⟩,afB⟩⟩;exact TH rfl ((F.tm 2).trans rfl) (V6 (cs:=AL LU l) (λw=>by simp[go_sem]) (λw=>by rw[mC];simp[go_sem]<;>rfl) M5.cJ)
set_option maxRecDepth 100000 in
theorem VT{v:Value}{l:List Int}(hm:Ku w v l):Calls Tryz.prog 7 #[v] w (BlP GC (WK l) w):=by
 have gO:=hm;obtain⟨ap,c,rfl,-, -, -⟩:=gO;refine enter (args:=[.slice ap l.length c]) Tryz.func7 rfl (n:=17) rfl λa F=>?_
 refine AP (Aj F rfl λa F=>AJ ?_);refine AP (AA F rfl λa F=>EG F rfl (BJ rfl F.e Tryz.call16) (Zb hG ε δ hm) λe w1 h1=>?_);obtain⟨x,h1,hx⟩:=h1;refine⟨_,h1.ret,λa F=>EG F rfl (BJ rfl F.e Tryz.call15) (Xp hG h1.gw (EX δ h1.an.1) h1.fy) λe w2 h2=>?_⟩;obtain⟨q,t,he,hq,-,ht⟩:=h2.ex;have g2:=h1.an.trans h2.an;refine⟨_,he,λa F=>AA F rfl λa F=>AZ F rfl (Ik F.e) λa F=>AZ F rfl (FZ F.e) λa F=>AZ F rfl AKs λa F=>?_⟩;have M3:=Dj w2 24 .u64 42 ⟨by decide,by decide⟩;have f3:BD w2 (w2.alloc (.cells (Array.replicate 24 (.int .u64 0)) 42)) (λ_ _=>False):=BC _ _ _;generalize w2.alloc (.cells (Array.replicate 24 (.int .u64 0)) 42)=w3 at M3 f3 ⊢;have hql:(AL MI q).length=24:=Cg hq.1;refine FB F rfl rfl (Kb (cs:=AL MI q) (λw=>by rw[hql];simp[go_sem]<;>rfl) F.e F.e D7 (λj hj=>M3.ex j (by rw[hql] at hj;exact hj))) λa F=>AB F rfl λa F=>AJ ?_
 have f4:BD w2 (w3.setCells w2.heap.size 0 (AL MI q)) (λ_ _=>False):=BG _ _ f3 λ_ _=>.inl (Ie _)
 generalize w3.setCells w2.heap.size 0 (AL MI q)=w4 at f4 ⊢;have g4:=g2.trans f4;have gw4:=F4 hG ε g4 δ;by_cases hl:l.length=32
 ·have k1:(((l.length:Nat):Int) == 32)=true:=by rw[hl];rfl
  rw[hx hl] at ht;refine AP (AA F rfl λa F=>AZ F rfl (Je (m:=l.length) F.e) λa F=>AZ F rfl (ZY F.e rfl) λa F=>AA F rfl λa F=>Ae (s:=14) F rfl rfl rfl rfl (CV Value.bool k1) rfl (Dk F.e) λa F=>AZ F rfl (Nv (F.ev (CV Value.bool k1)) F.e) λa F=>AB F rfl λa F=>AJ ?_);refine Cn ⟨F.df,.bool t,?_,⟨t,rfl,ht.trans ⟨λh=>⟨hl,h⟩,λh=>h.2⟩⟩,g4,gw4⟩;simp[results,Tryz.results7,go_sem];exact F.gd rfl
 ·have k1:(((l.length:Nat):Int) == 32)=false:=by simpa using(by omega:¬((l.length:Nat):Int)=32)
  refine AP (AA F rfl λa F=>AZ F rfl (Je (m:=l.length) F.e) λa F=>AZ F rfl (ZY F.e rfl) λa F=>AA F rfl λa F=>GL (s:=14) F rfl rfl rfl rfl (CV Value.bool k1) rfl (by decide) λa F=>AZ F rfl (NI (F.ev (CV Value.bool k1)) rfl) λa F=>AB F rfl λa F=>AJ ?_);refine Cn ⟨F.df,.bool false,?_,⟨false,rfl,λh=>(by cases h),λh=>absurd h.1 hl⟩,g4,gw4⟩;simp[results,Tryz.results7,go_sem];exact F.gd rfl
end
end
section
open Go Ma Go.RowKit Go.Lib
theorem AC0{GB:Nat}{GC:Nat->Nat->Option Value}{w:World}(ε:GW GC w)(δ:GB<=w.heap.size){f:Nat}{s:Az}{g:PI}{args:List Value}{ins:List (List Int)}{bs:List (Nat×Nat)}(eM:Bv Tryz.prog GB GC f (.one s))(cY:s.outs= [])(vf:s.ret= [.bool g])(hP:Jg GB w s.params args ins bs)(hS:Ep s.params bs)(MY:s.hp=true->s.pre ins):
  Calls Tryz.prog f args.toArray w (λe w'=>e= .returned (.bool (g ins != 0))/\BD w w' (λ_ _=>False)/\GW GC w'):=by
 refine(eM true args ins bs w ε δ hP hS MY rfl).mono λe w' ⟨fb,vs,he,hq⟩=>?_
 simp only[FE.cf] at hq;have hr:=hq.ret;rw[vf] at hr
 match vs,hr with
 | [v],hr=>
  have h2:v= .bool (g ins != 0):=hr.1;refine⟨by rw[he,h2];rfl,hq.an.mono λb o _ hs=>?_,hq.gw⟩;obtain⟨p,eA,_⟩:=hs;rw[cY] at eA;cases eA
def P4(w:World)(g:Nat->Value)(ls:List Int)(k:Nat)(fl:Bool)(a:Act)(w1:World):Prop:=∃f1,Fr a 61 f1/\(∀t,t≠26->t≠27->f1 t=g t)/\BD w w1 (λ_ _=>False)/\(k=1->f1 27= .agg (AL U8 (H8.raw IE 0 [])).toArray/\EP U8 (H8.raw IE 0 []))/\(fl=true->f1 26= .agg (AL U8 ls).toArray)
section
variable{GB:Nat}{GC:Nat->Nat->Option Value}{ad:Nat->Nat×Nat}(hG:GI GB GC ad){w:World}(ε:GW GC w)(δ:GB<=w.heap.size)
include hG ε δ
theorem AFG{a b:List Int}{m n:Int}(ra:EP U8 a)(rb:EP U8 b)(ha:N8 a m)(hb:N8 b n):Calls Tryz.prog 18 #[.agg (AL U8 a).toArray,.agg (AL U8 b).toArray] w (λe w'=>e= .returned (.bool (decide (m<n)))/\BD w w' (λ_ _=>False)/\GW GC w'):=by
 have:=AC0 (g:=λa=>d1 (Ns.raw Nw 0 a)) (args:=[.agg (AL U8 a).toArray,.agg (AL U8 b).toArray]) (ins:=[a,b]) (bs:=[(0,0),(0,0)]) ε δ (Me hG) rfl rfl ⟨⟨ra,rfl⟩,⟨rb,rfl⟩,trivial⟩ (Z0 Wx) (λh=>absurd (show false=true from h) (by decide));rw[zH ha hb,ADy] at this;exact this
theorem AAQ:Calls Tryz.prog 24 #[] w (ql GC U8 (IB.raw H9 0 []) w):=by
 have:=Mc (F:=λa=>BF 8 (IB.raw H9 0 a)) (ks:=U8) (args:=[]) (ins:=[]) (bs:=[]) ε δ (Qe hG) rfl rfl trivial trivial (λh=>absurd (show false=true from h) (by decide));rw[Ay Wq.len] at this;exact this
theorem j3{a:List Int}{X:Fp}(ra:EP U8 a)(ha:NF a X):Calls Tryz.prog 20 #[.agg (AL U8 a).toArray] w (λe w'=>∃l,NF l (-X)/\ql GC U8 l w e w'):=by
 have:=Mc (F:=λa=>BF 8 (JU.raw JY 0 a)) (ks:=U8) (args:=[.agg (AL U8 a).toArray]) (ins:=[a]) (bs:=[(0,0)]) ε δ (NN hG) rfl rfl ⟨⟨ra,rfl⟩,trivial⟩ Wx (λh=>absurd (show false=true from h) (by decide));have h:=uQ (T:=[(20,.one FP)]) Ec ha;exact this.mono λe w' q=>⟨_,h,q⟩
theorem AAe{d p q:List Int}{P Q:Pt}(rd:EP U8 d)(rp:EP MI p)(rq:EP MI q)(hd:NF d dE)(hp:Pj p P)(hq:Pj q Q):Calls Tryz.prog 23 #[.agg (AL U8 d).toArray,.agg (AL MI p).toArray,.agg (AL MI q).toArray] w (ql GC MI (Ka.raw FC 0 [d,p,q]) w):=by
 have:=Mc (F:=λa=>BF 24 (Ka.raw FC 0 a)) (ks:=MI) (args:=[.agg (AL U8 d).toArray,.agg (AL MI p).toArray,.agg (AL MI q).toArray]) (ins:=[d,p,q]) (bs:=[(0,0),(0,0),(0,0)]) ε δ (Ul hG) rfl rfl ⟨⟨rd,rfl⟩,⟨rp,rfl⟩,⟨rq,rfl⟩,trivial⟩ (Z0 (Z0 Wx)) (λh=>absurd (show false=true from h) (by decide));rw[Ay (Zy hd hp hq).len] at this;exact this
set_option maxRecDepth 100000 in
theorem AMD{a:Act}{f:Nat->Value}{B9 S:Nat}{ls:List Int}(F:Fr a 61 f)(h9:f 9= .pointer (some ⟨B9,0,none⟩))(m9:AO true w (B9,0) U8 ls)(n9:N8 ls (S:Int)):
  (Uk 4 (Ab Tryz.f8)).wp Tryz.prog (λe a' w'=>e= .normal/\∃f',Fr a' 61 f'/\(∀t,t ∈ [0,1,2,3,8,9]->f' t=f t)/\f' 29= .bool (!decide ((S:Int)<Vu))/\BD w w' (λ_ _=>False)) a w:=by
 refine PS (N:=4) mixed (by kernel_rfl) ?_;have fd:=Xi w;refine(show wpAny _ _ _ _ (2 + [1].length+1) _ _ _ from ZJ (al:=0) (Pk:=P4 w f ls) ?_ [1] 0 _ _ _ (by kernel_rfl) ?_ ?_ ⟨f,F,λ_ _ _=>rfl,fd,λh=>(by cases h),λh=>(by cases h)⟩)
 ·intro k a w1 ⟨f1,F,hk,hf,ho,_⟩;have m1:=m9.an hf λ_ _ h=>h
  have mC:(AL U8 ls).length=8:=Cg m9.1.1;exact Ho (by kernel_rfl) rfl (OW F rfl rfl (OL (cs:=AL U8 ls) (λw=>by simp[go_sem]) (λw=>by rw[mC];simp[go_sem]) (F.ev ((hk 9 (by decide) (by decide)).trans h9)) m1.cJ) λa F=>⟨_,F,λt h1 h2=>(Kq (Ne.symm h1)).trans (hk t h1 h2),hf,ho,λ_=>rfl⟩)
 ·intro j y hj fl a w1 ⟨f1,F,hk,hf,_,hl⟩
  match j,hj with
  |0,hj=>
   have oE:=WT hj;subst oE;exact Ho (by kernel_rfl) rfl (LF F rfl rfl (LG rfl Tryz.call19) (eG hG (F4 hG ε hf δ) (EX δ hf.1)) λe w2 h2=>⟨_,h2.ret,λa F=>⟨_,F,λt h1 h2=>(Kq (Ne.symm h2)).trans (hk t h1 h2),hf.trans h2.an,λ_=>⟨rfl,h2.fy⟩,hl⟩⟩)
  |j+1,hj=>simp at hj
 ·intro a w1 ⟨f1,F,hk,hf,ho,hl⟩;obtain⟨e27,r27⟩:=ho rfl;refine FM (i:=2) (by kernel_rfl) (Ho (by kernel_rfl) rfl (LF F rfl rfl (Bg rfl (F.ev (hl rfl)) (F.ev e27) Tryz.call18) (AFG hG (F4 hG ε hf δ) (EX δ hf.1) m9.1 r27 n9 Zu) λe w2 h2=>⟨_,h2.1,λa F=>?_⟩));refine FM (i:=3) (by kernel_rfl) (Ho (by kernel_rfl) rfl (OW F rfl rfl (x9 F.e) λa F=>?_));refine wpAny_done (by kernel_rfl) ⟨rfl,_,F,?_,rfl,hf.trans h2.2.1⟩ 0;intro t ht;simp only[G9,List.not_mem_nil,or_false] at ht;rcases ht with rfl|rfl|rfl|rfl|rfl|rfl
  all_goals exact hk _ (by decide) (by decide)
set_option maxRecDepth 100000 in
theorem ANz{a:Act}{f:Nat->Value}{B9 xl B12 S K:Nat}{ls la lk:List Int}{A:Pt}(F:Fr a 61 f)(h9:f 9= .pointer (some ⟨B9,0,none⟩))(m9:AO true w (B9,0) U8 ls)(n9:N8 ls (S:Int))(iu:f 10= .pointer (some ⟨xl,0,none⟩))(m10:AO true w (xl,0) MI la)(n10:Pj la A)(rh:f 12= .pointer (some ⟨B12,0,none⟩))(m12:AO true w (B12,0) U8 lk)(n12:N8 lk (K:Int)):
  (Uk 9 (Ab Tryz.f8)).wp Tryz.prog (λe a' w'=>e= .normal/\∃f',Fr a' 61 f'/\(∀t,t ∈ [3,8]->f' t=f t)/\(∃B,f' 13= .pointer (some ⟨B,0,none⟩)/\AO true w' (B,0) LU (S9 ((Um.nm S).add (A.nm K))))/\BD w w' (λ_ _=>False)) a w:=by
 refine Xe (m:=10) mixed (by kernel_rfl) F (λj v w1=>match j with
  |0=>v= .agg (AL U8 (IB.raw H9 0 [])).toArray/\EP U8 (IB.raw H9 0 [])
  |1=>v= .agg (AL U8 ls).toArray
  |2=>v= .agg (AL MI (EL.raw CZ 0 [])).toArray/\EP MI (EL.raw CZ 0 [])
  |3=>∃l,v= .agg (AL MI l).toArray/\EP MI l/\Pj l (Um.nm S)
  |4=>v= .agg (AL U8 lk).toArray
  |5=>v= .agg (AL MI la).toArray
  |6=>∃l,v= .agg (AL MI l).toArray/\EP MI l/\Pj l (A.nm K)
  |7=>∃l,v= .agg (AL MI l).toArray/\EP MI l/\Pj l ((Um.nm S).add (A.nm K))
  |8=>v= .agg (AL LU (S9 ((Um.nm S).add (A.nm K)))).toArray/\EP LU (S9 ((Um.nm S).add (A.nm K)))
  |_=>∃B,v= .pointer (some ⟨B,0,none⟩)/\w.heap.size<=B/\AO true w1 (B,0) LU (List.replicate 32 0)) ?_ ?_ ?_
 ·intro j v w1 w2 h hf
  match j,h with
  |0,h=>exact h
  |1,h=>exact h
  |2,h=>exact h
  |3,h=>exact h
  |4,h=>exact h
  |5,h=>exact h
  |6,h=>exact h
  |7,h=>exact h
  |8,h=>exact h
  |j+9,⟨B,h1,h2,h3⟩=>exact⟨B,h1,h2,h3.an hf λ_ _ h=>h⟩
 ·intro i o f1 a w1 K0 ho hi F hu hf hd hK;have qT:=F4 hG ε hf δ;have rN:=EX δ hf.1
  match i,hi with
  |0,_=>
   have i7:=WT ho;subst i7;exact LF F rfl rfl (LG rfl Tryz.call24) (AAQ hG qT rN) λe w2 h2=>⟨_,h2.ret,λa F=>hK _ a _ F h2.an ⟨rfl,h2.fy⟩⟩
  |1,_=>
   have i7:=WT ho;subst i7;have m1:=m9.an hf λ_ _ h=>h
   have mC:(AL U8 ls).length=8:=Cg m9.1.1;refine OW F rfl rfl (OL (cs:=AL U8 ls) (λw=>by simp[go_sem]) (λw=>by rw[mC];simp[go_sem]) (F.ev ((hu 9 (by kernel_rfl)).trans h9)) m1.cJ) λa F=>hK _ a _ F (BD.refl _ _) rfl
  |2,_=>
   have i7:=WT ho;subst i7;exact LF F rfl rfl (LG rfl Tryz.call26) (cz hG qT rN) λe w2 h2=>⟨_,h2.ret,λa F=>hK _ a _ F h2.an ⟨rfl,h2.fy⟩⟩
  |3,_=>
   have i7:=WT ho;subst i7;have d0:f1 47=_:=hd 1 (by kernel_rfl);have d1:f1 48=_/\_:=hd 2 (by kernel_rfl);exact LF F rfl rfl (Bg rfl (F.ev d0) (F.ev d1.1) Tryz.call25) (WL hG qT rN m9.1 d1.2 n9 Rx) λe w2 h2=>⟨_,h2.ret,λa F=>hK _ a _ F h2.an ⟨_,rfl,h2.fy,Sk n9 Rx⟩⟩
  |4,_=>
   have i7:=WT ho;subst i7;have m1:=m12.an hf λ_ _ h=>h
   have mC:(AL U8 lk).length=8:=Cg m12.1.1;refine OW F rfl rfl (OL (cs:=AL U8 lk) (λw=>by simp[go_sem]) (λw=>by rw[mC];simp[go_sem]) (F.ev ((hu 12 (by kernel_rfl)).trans rh)) m1.cJ) λa F=>hK _ a _ F (BD.refl _ _) rfl
  |5,_=>
   have i7:=WT ho;subst i7;have m1:=m10.an hf λ_ _ h=>h
   have mC:(AL MI la).length=24:=Cg m10.1.1;refine OW F rfl rfl (OL (cs:=AL MI la) (λw=>by simp[go_sem]) (λw=>by rw[mC];simp[go_sem]<;>rfl) (F.ev ((hu 10 (by kernel_rfl)).trans iu)) m1.cJ) λa F=>hK _ a _ F (BD.refl _ _) rfl
  |6,_=>
   have i7:=WT ho;subst i7;have d0:f1 50=_:=hd 4 (by kernel_rfl);have d1:f1 51=_:=hd 5 (by kernel_rfl);exact LF F rfl rfl (Bg rfl (F.ev d0) (F.ev d1) Tryz.call25) (WL hG qT rN m12.1 m10.1 n12 n10) λe w2 h2=>⟨_,h2.ret,λa F=>hK _ a _ F h2.an ⟨_,rfl,h2.fy,Sk n12 n10⟩⟩
  |7,_=>
   have i7:=WT ho;subst i7;have d0:f1 46=_/\_:=hd 0 (by kernel_rfl);obtain⟨lp,e3,r3,n3⟩:∃l,f1 49= .agg (AL MI l).toArray/\EP MI l/\Pj l (Um.nm S):=hd 3 (by kernel_rfl);obtain⟨lq,e6,r6,n6⟩:∃l,f1 52= .agg (AL MI l).toArray/\EP MI l/\Pj l (A.nm K):=hd 6 (by kernel_rfl);exact LF F rfl rfl (Hr rfl (F.ev d0.1) (F.ev e3) (F.ev e6) Tryz.call23) (AAe hG qT rN d0.2 r3 r6 Wq n3 n6) λe w2 h2=>⟨_,h2.ret,λa F=>hK _ a _ F h2.an ⟨_,rfl,h2.fy,Zy Wq n3 n6⟩⟩
  |8,_=>
   have i7:=WT ho;subst i7;obtain⟨lp,e3,r3,n3⟩:∃l,f1 53= .agg (AL MI l).toArray/\EP MI l/\Pj l ((Um.nm S).add (A.nm K)):=hd 7 (by kernel_rfl);exact LF F rfl rfl (BJ rfl (F.ev e3) Tryz.call22) (pI hG qT rN r3 n3) λe w2 h2=>⟨_,h2.ret,λa F=>hK _ a _ F h2.an ⟨rfl,h2.fy⟩⟩
  |9,_=>
   have i7:=WT ho;subst i7;exact OW F rfl rfl rH λa F=>hK _ a _ F (BC _ _ _) ⟨_,rfl,hf.1,Dj w1 32 .u8 45 ⟨by decide,by decide⟩⟩
 ·intro o f1 a w1 ho F hu hf hd;have i7:=WT ho;subst i7;have d3:f1 54=_/\_:=hd 8 (by decide);obtain⟨B,kB,hB,mB⟩:∃B,f1 13= .pointer (some ⟨B,0,none⟩)/\w.heap.size<=B/\AO true w1 (B,0) LU (List.replicate 32 0):=hd 9 (by decide);have kx:=Cg d3.2.1;refine AHV F rfl (Kb (cs:=AL LU (S9 ((Um.nm S).add (A.nm K)))) (λw=>by rw[kx];simp[go_sem]<;>rfl) (F.ev kB) (F.ev d3.1) D7 (λj hj=>mB.ex j (by rw[kx] at hj;exact hj))) λa F=>⟨rfl,f1,F,?_,⟨B,kB,Iw d3.2 mB.ex⟩,BG _ _ hf λ_ _=>.inl hB⟩
  exact λt ht=>hu t (AGx (by kernel_rfl) ht)
end
set_option maxRecDepth 100000 in
theorem AJa{a:Act}{w:World}{f:Nat->Value}{b o c B:Nat}{sg r:List Int}(F:Fr a 61 f)(h3:f 3= .slice (some ⟨b,o,none⟩) 64 c)(hx:DD w b o sg)(hl:sg.length=64)(hc:64<=c)(h13:f 13= .pointer (some ⟨B,0,none⟩))(m13:AO true w (B,0) LU r):
  (Uk 10 (Ab Tryz.f8)).wp Tryz.prog (λe a' w'=>e= .normal/\∃f',Fr a' 61 f'/\f' 8= .bool (decide (r=sg.take 32))/\BD w w' (λ_ _=>False)) a w:=by
 refine wp_region_still_tail 6 mixed (by kernel_rfl) ?_;have fd:=Xi w;generalize ({ w with drawn:=w.drawn+1 }:World)=w1 at fd ⊢;have hm:=m13.an fd λ_ _ h=>h
 have hr:DD w1 B 0 r:=⟨hm.jz,λi hi=>(hm.at8 (by rw[hm.len8] at hi;exact hi)).1.1⟩;have ht:DD w1 b o (sg.take 32):=(hx.sub (i:=0) (k:=32) (by omega)).cr fd;have lt:(sg.take 32).length=32:=by rw[Qw,hl];rfl
 refine BZ F rfl rfl rfl (wC (F.ev h13)) λa F=>BZ F rfl rfl rfl (xI F.e hr hm.len8) λa F=>BZ F rfl rfl rfl (Dk (F.ev h3)) λa F=>BZ F rfl rfl rfl (gL (k:=32) F.e rfl (by omega)) λa F=>BZ F rfl rfl rfl (xI F.e ht lt) λa F=>BZ F rfl rfl rfl (AKz F.e F.e) λa F=>?_
 rw[ADL hm.jz ht.1] at F;exact AB F rfl λa F=>CY ⟨rfl,_,F,rfl,fd⟩
end
section
open Go Ma Go.RowKit Go.Lib
theorem AKW{ρ:Operand->Value}{d:Option Tmp}{x:Operand}{ty:TypeId}{pos:String}{af:Array Edge}{w:World}{b o:Nat}(h:ρ x= .pointer (some ⟨b,o,none⟩)):(execOp ρ ⟨d,.fieldAddr 42 x 0,ty,pos,af,none⟩).run Tryz.prog w= .ok (.value (.pointer (some ⟨b,o,none⟩))) w:=by
 simp[execOp,go_sem,h]
theorem AM8{b nx y z:List Int}(hc:∃x,Md dE x (yB b))(hx:NF nx (-(if 128<=b.getD 31 0 then -B8 (yB b) else B8 (yB b))))(hy:NF y (yB b))(hz:NF z 1):Pj (nx++(y++z)) (cO b hc).neg:=by
 rw[AEr hc] at hx;refine⟨nx,y,z,_,_,_,rfl,hx,hy,hz,ADv ?_ ?_⟩
 ·show _= -(cO b hc).x;unfold cO;split<;>rfl
 ·show _=(cO b hc).y;unfold cO;split<;>rfl
section
variable{GB:Nat}{GC:Nat->Nat->Option Value}{ad:Nat->Nat×Nat}(hG:GI GB GC ad)
include hG
set_option maxRecDepth 100000 in
theorem XC{w:World}{dv pv mv sv:Value}{d p m sg:List Int}(ε:GW GC w)(δ:GB<=w.heap.size)(hd:Ku w dv d)(hp:Ku w pv p)(hm:Ku w mv m)(hs:Ku w sv sg)(ld:d.length<=1000)(lm:m.length<1099511627776/2):
  Calls Tryz.prog 8 #[dv,pv,mv,sv] w (BlP GC (∃h:WK p,DG d p (cO p h.2) m sg) w):=by
 obtain⟨as_,cs,hsv,-, -, -⟩:=id hs;refine enter (args:=[dv,pv,mv,sv]) Tryz.func8 rfl (n:=61) rfl λa F=>?_
 refine AP (Aj F rfl λa F=>AJ ?_);by_cases hl:sg.length=64;rotate_left
 ·have k1:(((sg.length:Nat):Int) != 64)=true:=by simpa using(by omega:¬((sg.length:Nat):Int)=64)
  refine wp_seq (AP (AA F rfl λa F=>AZ F rfl (Je (m:=sg.length) (F.ev (t:=14) hsv)) λa F=>AZ F rfl (AFd F.e rfl) λa F=>AA F rfl λa F=>GL (s:=17) F rfl rfl rfl rfl (CV Value.bool k1) rfl (by decide) λa F=>GL (s:=17) F rfl rfl rfl rfl (CV Value.bool k1) rfl (by decide) λa F=>GL (s:=17) F rfl rfl rfl rfl (CV Value.bool k1) rfl (by decide) λa F=>AZ F rfl (Nv (F.ev (CV Value.bool k1)) rfl) λa F=>AJ (wp_cond (t:=true) F.e ?_)));refine AP (Aj F rfl λa F=>AJ ?_);refine Cn ⟨F.df,.bool false,?_,⟨false,rfl,λh=>(by cases h),λ⟨_,h⟩=>absurd h.1 hl⟩,BD.refl _ _,ε⟩;simp[results,Tryz.results8,go_sem];exact F.gd rfl
 obtain⟨bs,os,cs,rfl,cS,hx⟩:=hs.has (by omega);clear hsv;rw[hl] at cS F;refine wp_seq (AP (AA F rfl λa F=>AZ F rfl (Je (m:=64) F.e) λa F=>AZ F rfl (AFd (i:=64) (j:=64) F.e rfl) λa F=>AA F rfl λa F=>Ae (s:=17) F rfl rfl rfl rfl rfl rfl (Dk F.e) λa F=>SC (s:=17) F rfl rfl rfl rfl rfl rfl (ADX rfl F.e Tryz.call7) (VT hG ε δ hp) λe w1 h1=>?_));obtain⟨bb,he,hb⟩:=h1.ex;have g1:=h1.an;refine⟨_,he,λa F=>Ae (s:=17) F rfl rfl rfl rfl rfl rfl (NZ F.e) λa F=>AZ F rfl (NI F.e F.e) λa F=>AJ ?_⟩;cases bb with
 |false=>
  refine wp_cond (t:=true) F.e ?_;refine AP (Aj F rfl λa F=>AJ ?_);refine Cn ⟨F.df,.bool false,?_,⟨false,rfl,λh=>(by cases h),λ⟨h,_⟩=>absurd (hb.2 h) (by decide)⟩,g1,h1.gw⟩;simp[results,Tryz.results8,go_sem];exact F.gd rfl
 |true=>
 have eM:WK p:=hb.1 rfl;have lp:p.length=32:=eM.1;refine wp_cond (t:=false) F.e (wp_skip ?_);show Code.wp _ _ _ _ _;have aeh:(sg.drop 32).length=32:=by rw[VK,hl]
 have h8:cI (sg.drop 32):=λx h=>hx.1 x (HK h)
 have RT:DD w bs (os+32) (sg.drop 32):=by
  have:=hx.sub (i:=32) (k:=32) (by omega);rwa [NO (by omega)] at this
 obtain⟨f,F,e0,e1,e2,e3⟩:∃f,Fr a 61 f/\f 0=dv/\f 1=pv/\f 2=mv/\f 3= .slice (some ⟨bs,os,none⟩) 64 cs:=⟨_,F,rfl,rfl,rfl,rfl⟩;refine AP (AA F rfl λa F=>AZ F rfl (AFM (k:=32) (F.ev (t:=22) e3) rfl (by omega) cS) λa F=>EG F rfl (BJ rfl F.e Tryz.call16) (uT hG h1.gw (EX δ g1.1) ((RT.cr g1).Ks aeh) (by omega)) λe w2 h2=>⟨_,h2.ret,λa F=>?_⟩);have g2:=g1.trans h2.an;have j0:=(NT h8).1;have n9:N8 (Gz.raw Gr 0 [sg.drop 32]) (((Cm (sg.drop 32)).toNat:Nat):Int):=by
  rw[Int.toNat_of_nonneg j0];exact Ws aeh h8
 refine EG F rfl (BJ rfl F.e Tryz.call17) (AA3 hG h2.gw (EX δ g2.1) h2.fy) λe w3 h3=>⟨_,h3.ret,λa F=>AZ F rfl nE λa F=>?_⟩
 have g3:=g2.trans h3.an;have r9:=h3.fy;generalize Gz.raw Gr 0 [sg.drop 32]=ls at n9 r9 F ⊢;have M4:=Dj w3 8 .u64 40 ⟨by decide,by decide⟩;have f4:BD w3 (w3.alloc (.cells (Array.replicate 8 (.int .u64 0)) 40)) (λ_ _=>False):=BC _ _ _;generalize w3.alloc (.cells (Array.replicate 8 (.int .u64 0)) 40)=w4 at M4 f4 ⊢;have hls:(AL U8 ls).length=8:=Cg r9.1;refine FB F rfl rfl (Kb (cs:=AL U8 ls) (λw=>by rw[hls];simp[go_sem]) F.e F.e D7 (λj hj=>M4.ex j (by rw[hls] at hj;exact hj))) λa F=>AJ ?_
 have M5:=Iw r9 M4.ex;have f5:BD w3 (w4.setCells w3.heap.size 0 (AL U8 ls)) (λ_ _=>False):=BG _ _ f4 λ_ _=>.inl (Ie _)
 generalize w4.setCells w3.heap.size 0 (AL U8 ls)=w5 at M5 f5 ⊢;generalize w3.heap.size=B9 at M5 F;have g5:=g3.trans f5;have gw5:=F4 hG ε g5 δ;obtain⟨f,F,e0,e1,e2,e3,e9⟩:∃f,Fr a 61 f/\f 0=dv/\f 1=pv/\f 2=mv/\f 3= .slice (some ⟨bs,os,none⟩) 64 cs/\f 9= .pointer (some ⟨B9,0,none⟩):=⟨_,F,e0,e1,e2,e3,rfl⟩;refine wp_seq (GM (AMD hG gw5 (EX δ g5.1) F e9 M5 n9) ?_);rintro a w6 ⟨f',F,k6,e29,f6⟩;have g6:=g5.trans f6;have gw6:=F4 hG ε g6 δ;rw[Int.toNat_of_nonneg j0] at e29;by_cases bj:Cm (sg.drop 32)<Vu;rotate_left
 ·rw[decide_eq_false bj] at e29;refine wp_cond (t:=true) (F.ev e29) ?_;refine AP (Aj F rfl λa F=>AJ ?_);refine Cn ⟨F.df,.bool false,?_,⟨false,rfl,λh=>(by cases h),λ⟨_,h⟩=>absurd h.2.1 bj⟩,g6,gw6⟩;simp[results,Tryz.results8,go_sem];exact F.gd rfl
 rw[decide_eq_true bj] at e29;refine wp_cond (t:=false) (F.ev e29) (wp_skip ?_);replace e0:=(k6 0 (by decide)).trans e0;replace e1:=(k6 1 (by decide)).trans e1;replace e2:=(k6 2 (by decide)).trans e2;replace e3:=(k6 3 (by decide)).trans e3;replace e9:=(k6 9 (by decide)).trans e9;have M9:=M5.fn f6;refine AP (AA F rfl λa F=>EG F rfl (BJ rfl (F.ev (t:=31) e1) Tryz.call16) (Zb hG gw6 (EX δ g6.1) (hp.cr g6)) λe w7 h7=>?_);obtain⟨q,h7,hq⟩:=h7;rw[hq lp] at h7;have g7:=g6.trans h7.an;refine⟨_,h7.ret,λa F=>EG F rfl (BJ rfl F.e Tryz.call15) (Xp hG h7.gw (EX δ g7.1) h7.fy) λe w8 h9=>?_⟩;obtain⟨l,t,he,hr,yy,-⟩:=h9.ex;obtain⟨lx,ly,lz,rfl,hnx,hny,hnz⟩:=yy.ex;have g8:=g7.trans h9.an;refine⟨_,he,λa F=>AA F rfl λa F=>AZ F rfl (Ik F.e) λa F=>AZ F rfl (FZ F.e) λa F=>AZ F rfl AKs λa F=>?_⟩;have M10:=Dj w8 24 .u64 42 ⟨by decide,by decide⟩;have f10:BD w8 (w8.alloc (.cells (Array.replicate 24 (.int .u64 0)) 42)) (λ_ _=>False):=BC _ _ _;generalize w8.alloc (.cells (Array.replicate 24 (.int .u64 0)) 42)=tI at M10 f10 ⊢;have hql:(AL MI (lx++(ly++lz))).length=24:=Cg hr.1;refine FB F rfl rfl (Kb (cs:=AL MI (lx++(ly++lz))) (λw=>by rw[hql];simp[go_sem]<;>rfl) F.e F.e D7 (λj hj=>M10.ex j (by rw[hql] at hj;exact hj))) λa F=>AB F rfl λa F=>AJ ?_
 have M11:=Iw hr M10.ex;have f11:BD w8 (tI.setCells w8.heap.size 0 (AL MI (lx++(ly++lz)))) (λ_ _=>False):=BG _ _ f10 λ_ _=>.inl (Ie _)
 generalize tI.setCells w8.heap.size 0 (AL MI (lx++(ly++lz)))=w11 at M11 f11 ⊢;generalize aBN:w8.heap.size=xl at M11 F;have g11:=g8.trans f11;have aeW:=F4 hG ε g11 δ;have M9':AO true w11 (B9,0) U8 ls:=((M9.fn h7.an).fn h9.an).fn f11;obtain⟨f,F,e0,e1,e2,e3,e9,kB⟩:∃f,Fr a 61 f/\f 0=dv/\f 1=pv/\f 2=mv/\f 3= .slice (some ⟨bs,os,none⟩) 64 cs/\f 9= .pointer (some ⟨B9,0,none⟩)/\f 10= .pointer (some ⟨xl,0,none⟩):=⟨_,F,e0,e1,e2,e3,e9,rfl⟩;obtain⟨MX,MYZ⟩:=(show AO true w11 (xl,0) (U8++(U8++U8)) (lx++(ly++lz)) from M11).app (hnx.len.symm);have hlx:(AL U8 lx).length=8:=Cg MX.1.1;refine AP (AZ F rfl (AKW (F.ev kB)) λa F=>AZ F rfl (OL (cs:=AL U8 lx) (λw=>by simp[go_sem]) (λw=>by rw[hlx];simp[go_sem]) F.e MX.cJ) λa F=>EG F rfl (BJ rfl F.e Tryz.call20) (j3 hG aeW (EX δ g11.1) MX.1 hnx) λe sL rh=>?_);obtain⟨nx,hnn,rh⟩:=rh;have g12:=g11.trans rh.an;have MX2:=MX.fn rh.an;have ad2:=MYZ.fn rh.an;have SJ:(AL U8 nx).length=8:=Cg rh.fy.1;refine⟨_,rh.ret,λa F=>AZ F rfl (AKW (F.ev (t:=10) kB)) λa F=>FB F rfl rfl (Kb (cs:=AL U8 nx) (λw=>by rw[SJ];simp[go_sem]) F.e F.e D7 (λj hj=>MX2.ex j (by rw[SJ] at hj;exact hj))) λa F=>AJ ?_⟩;have MX3:=Iw rh.fy MX2.ex;have afv:w.heap.size<=xl:=by have:=g8.1;omega
 have f13:BD sL (sL.setCells xl 0 (AL U8 nx)) (λb i=>b=xl/\i<8):=BG _ _ (BD.refl _ _) λi hi=>.inr ⟨rfl,by rw[SJ] at hi;omega⟩
 have g13:BD w (sL.setCells xl 0 (AL U8 nx)) (λ_ _=>False):=BG _ _ g12 λi hi=>.inl afv
 have aec:=ad2.an f13 λi _ h=>by
  have h2:0+U8.length+i<8:=h.2;have h3:U8.length=8:=rfl;omega
 have M13:=MX3.join aec;have hB9:B9≠xl:=λh=>by
  have h5:=(M5.fn (f6.trans (h7.an.trans h9.an))).ltK (b:=B9) (n:=8) (by decide);omega
 have aeR:AO true (sL.setCells xl 0 (AL U8 nx)) (B9,0) U8 ls:=(M9'.fn rh.an).an f13 λi _ h=>hB9 h.1
 generalize sL.setCells xl 0 (AL U8 nx)=w13 at M13 aeR g13 ⊢;have aey:=F4 hG ε g13 δ;have hPj:=AM8 eM.2 hnn hny hnz;have rP:EP MI (nx++(ly++lz)):=M13.1;have ad6:AO true w13 (xl,0) MI (nx++(ly++lz)):=M13;generalize nx++(ly++lz)=la at ad6 hPj rP;obtain⟨f,F,e0,e1,e2,e3,e9,kB⟩:∃f,Fr a 61 f/\f 0=dv/\f 1=pv/\f 2=mv/\f 3= .slice (some ⟨bs,os,none⟩) 64 cs/\f 9= .pointer (some ⟨B9,0,none⟩)/\f 10= .pointer (some ⟨xl,0,none⟩):=⟨_,F,e0,e1,e2,e3,e9,kB⟩;have lt:(sg.take 32).length=32:=by rw[Qw,hl];rfl
 have hR:Ku w13 (.slice (some ⟨bs,os,none⟩) 32 cs) (sg.take 32):=Ku.i6 ((hx.sub (i:=0) (k:=32) (by omega)).cr g13) lt (by omega);refine AP (AA F rfl λa F=>AA F rfl λa F=>AZ F rfl (gL (k:=32) (F.ev (t:=41) e3) rfl (by omega)) λa F=>AA F rfl λa F=>AA F rfl λa F=>EG F rfl (Rs rfl (F.ev (t:=40) e0) (F.ev (t:=42) rfl) (F.ev (t:=43) e1) (F.ev (t:=44) e2) Tryz.call21) (dJ hG aey (EX δ g13.1) (hd.cr g13) hR (hp.cr g13) (hm.cr g13) (by omega) ld (by omega) (by omega) lm) λe pD tx=>?_);obtain⟨lk,nk,tx⟩:=tx.ex;have g14:=g13.trans tx.an;refine⟨_,tx.ret,λa F=>AZ F rfl nE λa F=>?_⟩;have M15:=Dj pD 8 .u64 40 ⟨by decide,by decide⟩;have f15:BD pD (pD.alloc (.cells (Array.replicate 8 (.int .u64 0)) 40)) (λ_ _=>False):=BC _ _ _;generalize pD.alloc (.cells (Array.replicate 8 (.int .u64 0)) 40)=w15 at M15 f15 ⊢;have hkl:(AL U8 lk).length=8:=Cg tx.fy.1;refine FB F rfl rfl (Kb (cs:=AL U8 lk) (λw=>by rw[hkl];simp[go_sem]) F.e F.e D7 (λj hj=>M15.ex j (by rw[hkl] at hj;exact hj))) λa F=>AJ ?_
 have M16:=Iw tx.fy M15.ex;have f16:BD pD (w15.setCells pD.heap.size 0 (AL U8 lk)) (λ_ _=>False):=BG _ _ f15 λ_ _=>.inl (Ie _)
 generalize w15.setCells pD.heap.size 0 (AL U8 lk)=w16 at M16 f16 ⊢;generalize pD.heap.size=B12 at M16 F;have g16:=g14.trans f16;have abX:=tx.an.trans f16;have afr:=F4 hG ε g16 δ;obtain⟨f,F,e3,e9,kB,sy⟩:∃f,Fr a 61 f/\f 3= .slice (some ⟨bs,os,none⟩) 64 cs/\f 9= .pointer (some ⟨B9,0,none⟩)/\f 10= .pointer (some ⟨xl,0,none⟩)/\f 12= .pointer (some ⟨B12,0,none⟩):=⟨_,F,e3,e9,kB,rfl⟩;refine GM (ANz hG afr (EX δ g16.1) F e9 (aeR.fn abX) n9 kB (ad6.fn abX) hPj sy M16 nk) ?_;rintro a w17 ⟨f',F,k17,⟨B13,ψ,M17⟩,f17⟩;have g17:=g16.trans f17;replace e3:=(k17 3 (by decide)).trans e3;refine GM (AJa F e3 (hx.cr g17) hl cS ψ M17) ?_;rintro a w18 ⟨f',F,e8,f18⟩;have g18:=g17.trans f18;obtain⟨bb,e8,we⟩:∃bb:Bool,f' 8= .bool bb/\(bb=true↔∃h:WK p,DG d p (cO p h.2) m sg):=⟨_,e8,by
  rw[decide_eq_true_eq,Pt.add_comm];exact⟨λh=>⟨eM,hl,bj,h.symm⟩,λ⟨_,h⟩=>h.2.2.symm⟩⟩
 refine Cn ⟨F.df,.bool bb,?_,⟨bb,rfl,we⟩,g18,F4 hG ε g18 δ⟩;simp[results,Tryz.results8,go_sem];exact F.gd e8
end
end
section
open Go Ma Go.RowKit Go.Lib Go.ChangeShapes Go.WideShapes
set_option maxRecDepth 100000 in
theorem ANF{a0 a1 a2:Option Addr}{n0 c0 n1 c1 n2 c2:Nat}{s:ByteArray}{w:World}(h:2147483647<(n0:Int)\/1048576<(n1:Int)\/2147483647<(n2:Int)\/2147483647<(s.size:Int)):Calls Tryz.prog 5 #[.slice a0 n0 c0,.slice a1 n1 c1,.slice a2 n2 c2,.string s] w (AAK w):=by
 rcases h with _h|_h|_h|_h
 all_goals
  go_enter Tryz.func5,Tryz.ntmps5
  go_wp2
  all_goals go_ret
  all_goals exact⟨rfl,Below.refl _ _⟩
section
variable{GB:Nat}{GC:Nat->Nat->Option Value}{ad:Nat->Nat×Nat}(hG:GI GB GC ad)
include hG
set_option maxRecDepth 100000 in
theorem ARy {w:World} {a0 a1 a2:Option Addr} {n0 c0 n1 c1 n2 c2:Nat} {l m sg:List Int} {s:ByteArray} (ε:GW GC w) (δ:GB<=w.heap.size) (θ:Lib.TabIs Tryz.prog w "internal/strconv.uint64pow10" .u64 Lib.pow10Tab) (hS:DD w 5 0 bO) (hp:Ku w (.slice a0 n0 c0) l) (lp:l.length=n0) (zp:sV (.slice a0 n0 c0)) (hm:Ku w (.slice a1 n1 c1) m) (lm:m.length=n1) (zm:sV (.slice a1 n1 c1)) (hs:Ku w (.slice a2 n2 c2) sg) (ls:sg.length=n2) (zs:sV (.slice a2 n2 c2)) (h0:(n0:Int)<=2147483647) (h1:(n1:Int)<=1048576) (h2:(n2:Int)<=2147483647) (h3:(s.size:Int)<=2147483647):
  Calls Tryz.prog 5 #[.slice a0 n0 c0,.slice a1 n1 c1,.slice a2 n2 c2,.string s] w (AAK w):=by
 have k0:decide ((2147483647:Int)<((n0:Nat):Int))=false:=decide_eq_false (by omega);have k1:decide ((2147483647:Int)<((n1:Nat):Int))=false:=decide_eq_false (by omega);have k2:decide ((2147483647:Int)<((n2:Nat):Int))=false:=decide_eq_false (by omega);have k4:decide ((1048576:Int)<((n1:Nat):Int))=false:=decide_eq_false (by omega);have k3:decide ((2147483647:Int)<((s.size:Nat):Int))=false:=decide_eq_false (by omega);refine enter (args:=[.slice a0 n0 c0,.slice a1 n1 c1,.slice a2 n2 c2,.string s]) Tryz.func5 rfl (n:=70) rfl λa F=>?_
 refine AP (Aj F rfl λa F=>AJ ?_);refine wp_seq (AP (AA F rfl λa F=>AZ F rfl (Je (m:=n0) F.e) λa F=>AZ F rfl (MR F.e rfl) λa F=>AA F rfl λa F=>Ae (s:=14) F rfl rfl rfl rfl (CV Value.bool k0) rfl (Dk F.e) λa F=>Ae (s:=14) F rfl rfl rfl rfl (CV Value.bool k0) rfl (Je (m:=n1) F.e) λa F=>Ae (s:=14) F rfl rfl rfl rfl (CV Value.bool k0) rfl (MR F.e rfl) λa F=>AZ F rfl (NI (F.ev (CV Value.bool k0)) (F.ev (CV Value.bool k1))) λa F=>AA F rfl λa F=>Ae (s:=19) F rfl rfl rfl rfl (rfl) rfl (Dk F.e) λa F=>Ae (s:=19) F rfl rfl rfl rfl (rfl) rfl (Je (m:=n2) F.e) λa F=>Ae (s:=19) F rfl rfl rfl rfl (rfl) rfl (MR F.e rfl) λa F=>AZ F rfl (NI F.e (F.ev (CV Value.bool k2))) λa F=>AA F rfl λa F=>Ae (s:=24) F rfl rfl rfl rfl (rfl) rfl (Dk F.e) λa F=>Ae (s:=24) F rfl rfl rfl rfl (rfl) rfl (QD (s:=s) F.e) λa F=>Ae (s:=24) F rfl rfl rfl rfl (rfl) rfl (MR F.e rfl) λa F=>AZ F rfl (NI F.e (F.ev (CV Value.bool k3))) λa F=>AJ (wp_cond (t:=false) (F.ev (rfl)) (wp_skip ?_))));refine wp_seq (AP (AA F rfl λa F=>AZ F rfl (Je (m:=n1) F.e) λa F=>AZ F rfl (MR F.e rfl) λa F=>AJ (wp_cond (t:=false) (F.ev (CV Value.bool k4)) (wp_skip ?_))));show Code.wp _ _ _ _ _;obtain⟨f,F,e0,e1,e2,e3⟩:∃f,Fr a 70 f/\f 0= .slice a0 n0 c0/\f 1= .slice a1 n1 c1/\f 2= .slice a2 n2 c2/\f 3= .string s:=⟨_,F,rfl,rfl,rfl,rfl⟩;refine AP (AA F rfl λa F=>AA F rfl λa F=>AA F rfl λa F=>AA F rfl λa F=>EG F rfl (Rs rfl (F.ev (t:=33) e0) (F.ev (t:=34) e1) (F.ev (t:=35) e2) (F.ev (t:=36) e3) Tryz.call11) (AI7 hG ε δ θ hS hp (by omega) zp hm (by omega) zm hs (by omega) zs (by omega)) λe w1 h1=>?_);have g1:=h1.an;rcases h1.ex with⟨eM,b,he,hb⟩|⟨ij,he⟩
 ·refine⟨_,he,λa F=>AA F rfl λa F=>AZ F rfl (Ik F.e) λa F=>AZ F rfl (FZ F.e) λa F=>AB F rfl λa F=>AB F rfl λa F=>AJ ?_⟩;obtain⟨f,F,e0,e1,e2,e3,eb,et⟩:∃f,Fr a 70 f/\f 0= .slice a0 n0 c0/\f 1= .slice a1 n1 c1/\f 2= .slice a2 n2 c2/\f 3= .string s/\f 9= .bool b/\f 10= .bool true:=⟨_,F,e0,e1,e2,e3,rfl,rfl⟩;refine wp_seq (AP (AA F rfl λa F=>EG F rfl (BJ rfl (F.ev (t:=40) e0) Tryz.call7) (VT hG h1.gw (EX δ g1.1) (hp.cr g1)) λe w2 h2=>?_));obtain⟨bb,he,cV⟩:=h2.ex;have g2:=g1.trans h2.an;obtain rfl:=cV.2 eM;refine⟨_,he,λa F=>AZ F rfl (NZ F.e) λa F=>AJ (wp_cond (t:=false) F.e (wp_skip ?_))⟩;show Code.wp _ _ _ _ _;by_cases hc:s.size<=255/\n1=64
  ·have kc:decide (((s.size:Nat):Int)<=255)=true:=decide_eq_true (by omega);have kn:(((n1:Nat):Int) == 64)=true:=by rw[hc.2];rfl
   refine AP (AA F rfl λa F=>AA F rfl λa F=>Ae (s:=50) F rfl rfl rfl rfl (et) rfl (Dk (F.ev eb)) λa F=>Ae (s:=50) F rfl rfl rfl rfl (et) rfl (Dk (F.ev e3)) λa F=>Ae (s:=50) F rfl rfl rfl rfl (et) rfl (QD (s:=s) F.e) λa F=>Ae (s:=50) F rfl rfl rfl rfl (et) rfl (Zg F.e rfl) λa F=>Ae (s:=50) F rfl rfl rfl rfl (et) rfl (Dk F.e) λa F=>Ae (s:=55) F rfl rfl rfl rfl (CV Value.bool kc) rfl (Dk (F.ev e1)) λa F=>Ae (s:=55) F rfl rfl rfl rfl (CV Value.bool kc) rfl (Je (m:=n1) F.e) λa F=>Ae (s:=55) F rfl rfl rfl rfl (CV Value.bool kc) rfl (ZY F.e rfl) λa F=>Ae (s:=50) F rfl rfl rfl rfl (et) rfl (Nv (F.ev (CV Value.bool kc)) F.e) λa F=>Ae (s:=50) F rfl rfl rfl rfl (et) rfl (Dk F.e) λa F=>Ae (s:=60) F rfl rfl rfl rfl (CV Value.bool kn) rfl (Dk (F.ev e3)) λa F=>SC (s:=60) F rfl rfl rfl rfl (CV Value.bool kn) rfl (Zr rfl rfl F.e Tryz.call9) (wo (k:=1) hG h2.gw (EX δ g2.1) (by decide) (by omega)) λe w3 h3=>?_);obtain⟨vd,he,md⟩:=h3.ret;have g3:=g2.trans h3.an;refine⟨_,he,λa F=>Ae (s:=60) F rfl rfl rfl rfl (CV Value.bool kn) rfl (Dk (F.ev e0)) λa F=>Ae (s:=60) F rfl rfl rfl rfl (CV Value.bool kn) rfl (Dk (F.ev e1)) λa F=>Ae (s:=60) F rfl rfl rfl rfl (CV Value.bool kn) rfl (Dk (F.ev e2)) λa F=>SC (s:=60) F rfl rfl rfl rfl (CV Value.bool kn) rfl (Zo rfl (F.ev (t:=62) rfl) (F.ev (t:=63) rfl) (F.ev (t:=64) rfl) (F.ev (t:=65) rfl) Tryz.call8) (XC (d:=Xc 1 s) hG h3.gw (EX δ g3.1) md (hp.cr g3) (hm.cr g3) (hs.cr g3) (by rw[pJ];omega) (by omega)) λe w4 h4=>?_⟩;obtain⟨b4,he,xj⟩:=h4.ex;have e4:b=b4:=Bool.eq_iff_iff.2 (hb.trans ⟨λq=>xj.2 ⟨eM,q.2.2⟩,λq=>⟨by omega,hc.1,(xj.1 q).2⟩⟩);have ee:(b == b4)=true:=by rw[e4];exact beq_self_eq_true _
   have g4:=g3.trans h4.an;refine⟨_,he,λa F=>Ae (s:=50) F rfl rfl rfl rfl (et) rfl (Nv (F.ev (CV Value.bool kn)) F.e) λa F=>Ae (s:=50) F rfl rfl rfl rfl (et) rfl (Wy F.e F.e) λa F=>AZ F rfl (Nv (F.ev et) F.e) λa F=>AB F rfl λa F=>AJ ?_⟩;refine Cn ⟨F.df,.bool true,?_,rfl,J9 g4 λ_ _ h=>h⟩;simp[results,Tryz.results5,go_sem];exact F.gd (CV Value.bool ee)
  ·have ee:(b == false)=true:=by
    cases b with
    |false=>rfl
    |true=>exact absurd ⟨(hb.1 rfl).2.1,by have:=(hb.1 rfl).1;omega⟩ hc
   by_cases hc1:s.size<=255
   ·have kc:decide (((s.size:Nat):Int)<=255)=true:=decide_eq_true (by omega);have kn:(((n1:Nat):Int) == 64)=false:=by simpa using(by omega:¬((n1:Nat):Int)=64)
    refine AP (AA F rfl λa F=>AA F rfl λa F=>Ae (s:=50) F rfl rfl rfl rfl (et) rfl (Dk (F.ev eb)) λa F=>Ae (s:=50) F rfl rfl rfl rfl (et) rfl (Dk (F.ev e3)) λa F=>Ae (s:=50) F rfl rfl rfl rfl (et) rfl (QD (s:=s) F.e) λa F=>Ae (s:=50) F rfl rfl rfl rfl (et) rfl (Zg F.e rfl) λa F=>Ae (s:=50) F rfl rfl rfl rfl (et) rfl (Dk F.e) λa F=>Ae (s:=55) F rfl rfl rfl rfl (CV Value.bool kc) rfl (Dk (F.ev e1)) λa F=>Ae (s:=55) F rfl rfl rfl rfl (CV Value.bool kc) rfl (Je (m:=n1) F.e) λa F=>Ae (s:=55) F rfl rfl rfl rfl (CV Value.bool kc) rfl (ZY F.e rfl) λa F=>Ae (s:=50) F rfl rfl rfl rfl (et) rfl (Nv (F.ev (CV Value.bool kc)) F.e) λa F=>Ae (s:=50) F rfl rfl rfl rfl (et) rfl (Dk F.e) λa F=>GL (s:=60) F rfl rfl rfl rfl (CV Value.bool kn) rfl (by decide) λa F=>GL (s:=60) F rfl rfl rfl rfl (CV Value.bool kn) rfl (by decide) λa F=>GL (s:=60) F rfl rfl rfl rfl (CV Value.bool kn) rfl (by decide) λa F=>GL (s:=60) F rfl rfl rfl rfl (CV Value.bool kn) rfl (by decide) λa F=>GL (s:=60) F rfl rfl rfl rfl (CV Value.bool kn) rfl (by decide) λa F=>GL (s:=60) F rfl rfl rfl rfl (CV Value.bool kn) rfl (by decide) λa F=>Ae (s:=50) F rfl rfl rfl rfl (et) rfl (NI (F.ev (CV Value.bool kn)) rfl) λa F=>Ae (s:=50) F rfl rfl rfl rfl (et) rfl (Wy F.e F.e) λa F=>AZ F rfl (Nv (F.ev et) F.e) λa F=>AB F rfl λa F=>AJ ?_);refine Cn ⟨F.df,.bool true,?_,rfl,J9 g2 λ_ _ h=>h⟩;simp[results,Tryz.results5,go_sem];exact F.gd (CV Value.bool ee)
   ·have kc:decide (((s.size:Nat):Int)<=255)=false:=decide_eq_false (by omega);refine AP (AA F rfl λa F=>AA F rfl λa F=>Ae (s:=50) F rfl rfl rfl rfl (et) rfl (Dk (F.ev eb)) λa F=>Ae (s:=50) F rfl rfl rfl rfl (et) rfl (Dk (F.ev e3)) λa F=>Ae (s:=50) F rfl rfl rfl rfl (et) rfl (QD (s:=s) F.e) λa F=>Ae (s:=50) F rfl rfl rfl rfl (et) rfl (Zg F.e rfl) λa F=>Ae (s:=50) F rfl rfl rfl rfl (et) rfl (Dk F.e) λa F=>GL (s:=55) F rfl rfl rfl rfl (CV Value.bool kc) rfl (by decide) λa F=>GL (s:=55) F rfl rfl rfl rfl (CV Value.bool kc) rfl (by decide) λa F=>GL (s:=55) F rfl rfl rfl rfl (CV Value.bool kc) rfl (by decide) λa F=>Ae (s:=50) F rfl rfl rfl rfl (et) rfl (NI (F.ev (CV Value.bool kc)) rfl) λa F=>Ae (s:=50) F rfl rfl rfl rfl (et) rfl (Dk F.e) λa F=>GL (s:=60) F rfl rfl rfl rfl (rfl) rfl (by decide) λa F=>GL (s:=60) F rfl rfl rfl rfl (rfl) rfl (by decide) λa F=>GL (s:=60) F rfl rfl rfl rfl (rfl) rfl (by decide) λa F=>GL (s:=60) F rfl rfl rfl rfl (rfl) rfl (by decide) λa F=>GL (s:=60) F rfl rfl rfl rfl (rfl) rfl (by decide) λa F=>GL (s:=60) F rfl rfl rfl rfl (rfl) rfl (by decide) λa F=>Ae (s:=50) F rfl rfl rfl rfl (et) rfl (NI F.e rfl) λa F=>Ae (s:=50) F rfl rfl rfl rfl (et) rfl (Wy F.e F.e) λa F=>AZ F rfl (Nv (F.ev et) F.e) λa F=>AB F rfl λa F=>AJ ?_);refine Cn ⟨F.df,.bool true,?_,rfl,J9 g2 λ_ _ h=>h⟩;simp[results,Tryz.results5,go_sem];exact F.gd (CV Value.bool ee)
 ·refine⟨_,he,λa F=>AA F rfl λa F=>AZ F rfl (Ik F.e) λa F=>AZ F rfl (FZ F.e) λa F=>AB F rfl λa F=>AB F rfl λa F=>AJ ?_⟩;obtain⟨f,F,e0,eb,et⟩:∃f,Fr a 70 f/\f 0= .slice a0 n0 c0/\f 9= .bool false/\f 10= .bool false:=⟨_,F,e0,rfl,rfl⟩;refine wp_seq (AP (AA F rfl λa F=>EG F rfl (BJ rfl (F.ev (t:=40) e0) Tryz.call7) (VT hG h1.gw (EX δ g1.1) (hp.cr g1)) λe w2 h2=>?_));obtain⟨bb,he,cV⟩:=h2.ex;have g2:=g1.trans h2.an;have hbf:bb=false:=by
   cases bb with
   |false=>rfl
   |true=>exact absurd (cV.1 rfl) ij
  subst hbf;refine⟨_,he,λa F=>AZ F rfl (NZ F.e) λa F=>AJ (wp_cond (t:=true) F.e ?_)⟩;refine AP (AA F rfl λa F=>AZ F rfl (NZ (F.ev (t:=43) et)) λa F=>AA F rfl λa F=>Ae (s:=45) F rfl rfl rfl rfl (rfl) rfl (Dk (F.ev eb)) λa F=>Ae (s:=45) F rfl rfl rfl rfl (rfl) rfl (NZ F.e) λa F=>AZ F rfl (Nv F.e F.e) λa F=>AB F rfl λa F=>AJ ?_);refine Cn ⟨F.df,.bool true,?_,rfl,J9 g2 λ_ _ h=>h⟩;simp[results,Tryz.results5,go_sem];exact F.gd rfl
end
set_option maxRecDepth 100000 in
theorem UW {GB:Nat} {GC:Nat->Nat->Option Value} {ad:Nat->Nat×Nat} (hG:GI GB GC ad) {H:Type} {enc:TypeId×Value->H} {W:World} {FY:Nat} {v0 v1 v2 v3:Value} {d0 d1 d2 d3:DataW H} {p0 p1 p2 p3:List MemPlace} (θ:Lib.TabIs Tryz.prog W "internal/strconv.uint64pow10" .u64 Lib.pow10Tab) (hS:DD W 5 0 bO) (ε:GW GC W) (δ:GB<=W.heap.size)
  (hv0:Value.okWide Tryz.prog W .any FY 22 v0) (h0:DataW.Trod enc Tryz.prog W 0 (λ_=>true) true 22 v0 d0 p0) (hv1:Value.okWide Tryz.prog W .any FY 22 v1) (h1:DataW.Trod enc Tryz.prog W 0 (λ_=>true) true 22 v1 d1 p1) (Jx:Value.okWide Tryz.prog W .any FY 22 v2) (h2:DataW.Trod enc Tryz.prog W 0 (λ_=>true) true 22 v2 d2 p2) (hv3:Value.okWide Tryz.prog W .any FY 9 v3) (h3:DataW.Trod enc Tryz.prog W 0 (λ_=>true) true 9 v3 d3 p3):
  Calls Tryz.prog 5 #[v0,v1,v2,v3] W λe W'=>e= .returned (.bool true)/\Below W.heap.size W W':=by
 obtain⟨s,hs,-⟩:=ChangeMaps.open_string Tryz.underlying9 hv3 h3;subst hs;obtain⟨a0,n0,c0,l,rfl,hp,lp,zp⟩:=NA hv0 h0;obtain⟨a1,n1,c1,m,rfl,hm,lm,zm⟩:=NA hv1 h1;obtain⟨a2,n2,c2,sg,rfl,hs,ls,zs⟩:=NA Jx h2;by_cases cY:2147483647<(n0:Int)\/1048576<(n1:Int)\/2147483647<(n2:Int)\/2147483647<(s.size:Int)
 ·exact ANF cY
 ·exact ARy hG ε δ θ hS hp lp zp hm lm zm hs ls zs (by omega) (by omega) (by omega) (by omega)
end
end Go.Proofs.YtkbfdaoohhmgoaaGreatDoor
