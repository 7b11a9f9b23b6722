/- FnExactSign: every seed and every message. -/
import Derived.Test.YtloibefkijfdlaaGreatDoorLy
import Derived.Lib.AppendStr
import Derived.Lib.SlBytesConst
import Derived.ChangeMaps5
namespace Go.Proofs.YtloibefkijfdlaaGreatDoor
section
open Go Ma Go.RowKit Go.Lib Go.ChangeShapes Go.WideShapes
def NoP(w:World)(e:Ending)(w':World):Prop:=e= .returned (.tuple #[.slice none 0 0,.bool false])∧Below w.heap.size w w'
end
section
open Go Go.RowKit Go.Lib Ma
def pfL:List UInt8:=[83,105,103,69,100,50,53,53,49,57,32,110,111,32,69,100,50,53,53,49,57,32,99,111,108,108,105,115,105,111,110,115]
def pfX(k:UInt8):ByteArray:=⟨#[83,105,103,69,100,50,53,53,49,57,32,110,111,32,69,100,50,53,53,49,57,32,99,111,108,108,105,115,105,111,110,115,k]⟩
def jB:List Int:=pfL.map fun b=>(b.toNat:Int)
def Sg(k:UInt8)(c:ByteArray):List Int:=jB ++ [(k.toNat:Int),IntKind.u8.wrap (c.size:Int)]++TG c
theorem yx(k:UInt8)(c:ByteArray)(h:((pfX k).toList == ([]:List UInt8))=false):Qm (pfX k) c=Sg k c:=by
 unfold Qm Sg;rw[if_neg (by rw[h];decide)];have e:TG (pfX k)=jB ++ [(k.toNat:Int)]:=rfl;rw[e,zcn];simp only[YY,zcm,zcn]
theorem AOo(c:ByteArray):Qm (pfX 1) c=Sg 1 c:=yx 1 c (by decide +kernel)
theorem kT:jB.length=32:=rfl
theorem AAe:∀ z∈jB,0≤z∧z≤255:=by decide +kernel
theorem ni(k:UInt8)(c:ByteArray):(Sg k c).length=34+c.size:=by
 unfold Sg;simp only[K6,Kj,Oq,zcj,kT]
theorem AHx(s:ByteArray):strCells s=v8 (TG s):=by simp[strCells,v8,TG]
section
variable{ρ:Operand→Value}{d:Option Tmp}{x y z:Operand}{ty:TypeId}{pos:String}{af:Array Edge}{w:World}
theorem AS6{C:Array Value}{n c:Nat}(h:ρ x= .slice (some ⟨w.heap.size,0,none⟩) n c):(execOp ρ ⟨d,.convert 22 22 x,ty,pos,af,none⟩).run Tryz.prog (w.alloc (.cells C 5))= .ok (.value (.slice (some ⟨w.heap.size,0,none⟩) n c)) (w.alloc (.cells C 5 (C.size,C.size+1))):=by
 simp only[execOp,h,I1];rw[run_convert_bytes_const w 22 5 C n c Tryz.underlying22 Tryz.underlying5];rfl
theorem AKv{i:Int}(h:ρ x= .int .i64 i):(execOp ρ ⟨d,.convert 3 5 x,ty,pos,af,none⟩).run Tryz.prog w= .ok (.value (.int .u8 (IntKind.u8.wrap i))) w:=by
 simp[execOp,go_sem,h]
theorem ARW{i j:Int}(h:ρ x= .int .u8 i)(hy:ρ y= .int .u8 j):(execOp ρ ⟨d,.buildSlice 22 2 #[(0,x),(1,y)],ty,pos,af,none⟩).run Tryz.prog w= .ok (.value (.slice (some ⟨w.heap.size,0,none⟩) 2 2)) (w.alloc (.cells #[.int .u8 i,.int .u8 j] 5)):=by
 simp[execOp,go_sem,h,hy]
end
theorem AVp(w:World)(x y:Int)(hx:0≤x∧x≤255)(hy:0≤y∧y≤255):Fe (w.alloc (.cells #[.int .u8 x,.int .u8 y] 5)) w.heap.size 0 [x,y]:=by
 have h:=SA w [.u8,.u8] [x,y] 5 (by
  refine⟨rfl,fun i k z hk hz=>?_⟩
  match i,hk,hz with
  |0,hk,hz=>
   simp only[VT,Am] at hk hz;subst hk;subst hz;exact⟨hx.1,hx.2⟩
  |1,hk,hz=>
   simp only[zbv,VT,Am] at hk hz;subst hk;subst hz;exact⟨hy.1,hy.2⟩
  |i+2,hk,_=>simp at hk)
 refine⟨fun z hz=>?_,fun i hi=>(h.at8 (n:=2) (i:=i) (by simpa using hi)).1.1⟩;simp only[J4,List.not_mem_nil,or_false] at hz
 rcases hz with rfl|rfl
 ·exact hx
 ·exact hy
section
variable{Q:Exit→Act→World→Prop}{a:Act}{w:World}{n:Nat}{f:Nat→Value}
theorem AP6{ops:Array Oper}{rest:List Oper}{t x y B:Nat}{ty:TypeId}{pos:String}{af:Array Edge}{xs:List Int}{s:ByteArray}(F:Fr a n f)(ht:Nat.blt t n=true)(ξ:Ql w B (f x) xs)(hy:f y= .string s)(hb:xs.length+s.size≤140737488355328)(hB:B≤w.heap.size)
  (hn:∀ v' w' a',Ql w' B v' (xs++TG s)→Below B w w'→Fr a' n (SN f t v')→wpList Tryz.prog ops Q rest a' w'):wpList Tryz.prog ops Q (⟨some t,.call ⟨.builtin .append,#[.tmp x,.tmp y],#[22,9]⟩,ty,pos,af,none⟩::rest) a w:=by
 obtain⟨i0,hi,hz0,hz1,hz2⟩:=info_parts i8;refine wpList_append_own_string (o:=⟨some t,.call ⟨.builtin .append,#[.tmp x,.tmp y],#[22,9]⟩,ty,pos,af,none⟩) w rfl (.tmp x) (.tmp y) 22 9 rfl B 5 i0 Tryz.underlying22 Tryz.underlying9 hi hz0 hz1 hz2 (f x) xs.length (v8 xs) F.e ξ s (F.ev hy) (by unfold maxLen;omega) hb hB ?_
 intro v' w' ho hg _
 refine hn v' w' _ ?_ (NN ξ hg hB) (F.put ht v');show w'.ownsRow B 5 1 v' (xs++TG s).length (v8 (xs++TG s));have e:v8 (xs++TG s)=v8 xs++strCells s:=by rw[AHx];simp[v8]
 rw[K6,Kj,e];exact ho
end
theorem AG8(w:World)(xs:List Int)(hx:∀ z∈xs,0≤z∧z≤255)(fz:Nat×Nat):Fe (w.alloc (.cells (v8 xs).toArray 5 fz)) w.heap.size 0 xs:=by
 refine⟨hx,fun i hi=>?_⟩;have h3:=heap_alloc_new w (.cells (v8 xs).toArray 5 fz);have h8:(v8 xs).toArray[i]? = some (.int .u8 (xs.getD i 0)):=by simp[v8,List.getD,hi]
 simp only[World.cell?,h3,NU,h8];rfl
theorem ACU{w:World}{b o b2 o2 c:Nat}{ty:TypeId}{xs ys:List Int}(hx:Fe w b o xs)(hy:Fe w b2 o2 ys)(h0:0<ys.length)(hb:xs.length+ys.length≤140737488355328):
  ∃ v' w',(Builtin.append_ #[22,22] ty #[.slice (some ⟨b,o,none⟩) xs.length xs.length,.slice (some ⟨b2,o2,none⟩) ys.length c]).run Tryz.prog w= .ok v' w'∧Ql w' w.heap.size v' (xs++ys)∧Below w.heap.size w w':=by
 obtain⟨i0,hi,hz0,hz1,hz2⟩:=info_parts i8;have hr:=run_append_grow (P:=Tryz.prog) w 22 ty 5 i0 (.int .u8 0) Tryz.underlying22 hi hz0 ⟨b,o,none⟩ xs.length xs.length (v8 xs) (by rw[hz1];simp[v8]) hx.at ⟨b2,o2,none⟩ ys.length c (v8 ys) (by rw[hz1];simp[v8]) hy.at (by omega) (by omega) (growslice_fits (by omega) (by rw[hz2];omega));have hge:=grownCap_ge w (xs.length+ys.length) xs.length 5;have hcm:grownCap w (xs.length+ys.length) xs.length 5≤maxLen:=grownCap_le_maxLen w (xs.length+ys.length) xs.length 5 (by unfold maxLen;omega);have hv8:v8 (xs++ys)=v8 xs++v8 ys:=by simp[v8]
 refine⟨_,_,hr,⟨by simp[v8],.inr ⟨w.heap.size,_,_,by rw[K6],JP _,heap_alloc_new w.drew _,by rw[K6];exact hge,hcm,?_,?_⟩⟩,?_⟩
 ·simp only[Array.size_append,List.size_toArray,Builtin.zeroCells];simp[v8,Value.cells];omega
 ·rw[K6,hv8];simp only[Array.toList_append,YY];rw[← YY,List.take_left' (by simp[v8])]
 ·have hd:Below w.heap.size w w.drew:=(Below.refl _ w).drew;exact hd.alloc (JP _) _
theorem APW{Q:Exit→Act→World→Prop}{a:Act}{w:World}{n:Nat}{f:Nat→Value}{ops:Array Oper}{rest:List Oper}{t x y b o b2 o2 c:Nat}{ty:TypeId}{pos:String}{af:Array Edge}{xs ys:List Int}(F:Fr a n f)(ht:Nat.blt t n=true)(ex:f x= .slice (some ⟨b,o,none⟩) xs.length xs.length)(hx:Fe w b o xs)(ey:f y= .slice (some ⟨b2,o2,none⟩) ys.length c)(hy:Fe w b2 o2 ys)(h0:0<ys.length)(hb:xs.length+ys.length≤140737488355328)
  (hn:∀ v' w' a',Ql w' w.heap.size v' (xs++ys)→Below w.heap.size w w'→Fr a' n (SN f t v')→wpList Tryz.prog ops Q rest a' w'):wpList Tryz.prog ops Q (⟨some t,.call ⟨.builtin .append,#[.tmp x,.tmp y],#[22,22]⟩,ty,pos,af,none⟩::rest) a w:=by
 obtain⟨v',w',h1,h2,h3⟩:=ACU (ty:=ty) (c:=c) hx hy h0 hb;refine wpList_plain rfl fun _ hK=>?_
 unfold Oper.wp execOp;simp only[resolve,invoke,builtin,I1,KD,IB,List.map_toArray,NT,Vi,(F.ev (t:=x) rfl).trans ex,(F.ev (t:=y) rfl).trans ey,h1];exact hK _ _ (hn v' w' _ h2 h3 (F.put ht v'))
theorem AN3{a:Act}{d:Option Tmp}{ty:TypeId}{pos:String}{af:Array Edge}{w:World}:(execOp a.eval ⟨d,.buildSlice 22 32 #[(0,.const (.int .u8 83)),(1,.const (.int .u8 105)),(2,.const (.int .u8 103)),(3,.const (.int .u8 69)),(4,.const (.int .u8 100)),(5,.const (.int .u8 50)),(6,.const (.int .u8 53)),(7,.const (.int .u8 53)),(8,.const (.int .u8 49)),(9,.const (.int .u8 57)),(10,.const (.int .u8 32)),(11,.const (.int .u8 110)),(12,.const (.int .u8 111)),(13,.const (.int .u8 32)),(14,.const (.int .u8 69)),(15,.const (.int .u8 100)),(16,.const (.int .u8 50)),(17,.const (.int .u8 53)),(18,.const (.int .u8 53)),(19,.const (.int .u8 49)),(20,.const (.int .u8 57)),(21,.const (.int .u8 32)),(22,.const (.int .u8 99)),(23,.const (.int .u8 111)),(24,.const (.int .u8 108)),(25,.const (.int .u8 108)),(26,.const (.int .u8 105)),(27,.const (.int .u8 115)),(28,.const (.int .u8 105)),(29,.const (.int .u8 111)),(30,.const (.int .u8 110)),(31,.const (.int .u8 115))],ty,pos,af,none⟩).run Tryz.prog w= .ok (.value (.slice (some ⟨w.heap.size,0,none⟩) 32 32)) (w.alloc (.cells (v8 jB).toArray 5)):=by
 simp[execOp,go_sem,Act.eval];rfl
section
variable{GB:Nat}{GC:Nat→Nat→Option Value}{ad:Nat→Nat×Nat}(hG:Jk GB GC ad)
include hG
set_option maxRecDepth 100000 in
theorem xO{w:World}{k:UInt8}{c:ByteArray}(ε:GW GC w)(δ:GB≤w.heap.size)(hk:((k.toNat:Int))<128)(hc:c.size≤1000):Calls Tryz.prog 22 #[.int .i64 (k.toNat:Int),.string c] w (MsP GC (Sg k c) w):=by
 have hneg:decide (((k.toNat:Int))<0)=false:=decide_eq_false (by omega);have hkw:IntKind.u8.wrap (k.toNat:Int)=(k.toNat:Int):=by rw[uS];omega
 refine enter (args:=[.int .i64 (k.toNat:Int),.string c]) Tryz.func22 rfl (n:=18) rfl fun a F=>?_
 refine BQ (Bv F rfl fun a F=>Ae ?_);refine wp_seq (wp_seq (reg (AB F rfl fun a F=>Cm F rfl (YX (i:=(k.toNat:Int)) (j:=0) F.e rfl) fun a F=>Gv ?_)));refine wp_cond (t:=false) (F.ev (QL Value.bool hneg)) (wp_skip ?_);refine BQ (Cm F rfl AN3 fun a F=>Cm F rfl (AS6 (C:=(v8 jB).toArray) F.e) fun a F=>?_);have h1:=AG8 w jB AAe ((v8 jB).toArray.size,(v8 jB).toArray.size+1);have b1:=DD w (.cells (v8 jB).toArray 5 ((v8 jB).toArray.size,(v8 jB).toArray.size+1));have s1:w.heap.size<(w.alloc (.cells (v8 jB).toArray 5 ((v8 jB).toArray.size,(v8 jB).toArray.size+1))).heap.size:=by rw[XQ];omega
 generalize w.alloc (.cells (v8 jB).toArray 5 ((v8 jB).toArray.size,(v8 jB).toArray.size+1))=w1 at h1 b1 s1 ⊢;refine AB F rfl fun a F=>Cm F rfl (AKv F.e) fun a F=>AB F rfl fun a F=>Cm F rfl (d9 F.e) fun a F=>Cm F rfl (AKv F.e) fun a F=>Cm F rfl (ARW F.e F.e) fun a F=>?_
 have h1':Fe (w1.alloc (.cells #[.int .u8 (IntKind.u8.wrap (k.toNat:Int)),.int .u8 (IntKind.u8.wrap (c.size:Int))] 5)) w.heap.size 0 jB:=h1.below (DD w1 _) s1;have h2:=AVp w1 (IntKind.u8.wrap (k.toNat:Int)) (IntKind.u8.wrap (c.size:Int)) (Vy _) (Vy _);have b2:=b1.trans (Iu (DD w1 (.cells #[.int .u8 (IntKind.u8.wrap (k.toNat:Int)),.int .u8 (IntKind.u8.wrap (c.size:Int))] 5)) b1.size);generalize w1.alloc (.cells #[.int .u8 (IntKind.u8.wrap (k.toNat:Int)),.int .u8 (IntKind.u8.wrap (c.size:Int))] 5)=w2 at h1' h2 b2 ⊢;refine APW (xs:=jB) F rfl rfl h1' rfl h2 (Nat.succ_pos _) (by rw[kT];simp only[Oq,zcj];omega) fun v3 w3 a O3 b3 F=>AB F rfl fun a F=>?_
 replace b3:=Iu b3 b2.size;replace O3:=AFC O3 b2.size;have b3':=b2.trans b3;refine AP6 F rfl O3 rfl (by rw[K6,kT];simp only[Oq,zcj];omega) b3'.size fun v4 w4 a O4 b4 F=>AR F rfl fun a F=>Ae ?_
 have b4':=b3'.trans b4;have f4:CV w w4 (fun _ _=>False):=F9 b4';rw[hkw] at O4;have M4:=O4.msg (RL (RL AAe (fun z hz=>by
  simp only[J4,List.not_mem_nil,or_false] at hz
  rcases hz with rfl|rfl
  ·omega
  ·exact Vy _)) (qx c))
 refine Kh ⟨F.df,v4,?_,⟨v4,rfl,M4⟩,f4,Vv hG ε f4 δ⟩;have q:=F.tm 4;rw[Ti] at q;simp[results,Tryz.results22,go_sem];exact q
end
end
section
open Go Ma Go.RowKit Go.Lib
structure SnE (GC:Nat→Nat→Option Value) (l:List Int) (w:World) (e:Ending) (w':World):Prop where
 ret:∃ B,e= .returned (.tuple #[.slice (some ⟨B,0,none⟩) 64 64,.nilIface])∧Ar true w' (B,0) (List.replicate 64 .u8) l
 frm:CV w w' (fun _ _=>False)
 gw:GW GC w'
structure SgE (GC:Nat→Nat→Option Value) (bs os c:Nat) (l:List Int) (w:World) (e:Ending) (w':World):Prop where
 ret:e= .returned (.tuple #[.slice (some ⟨bs,os,none⟩) 64 c,.nilIface])
 mem:Ar true w' (bs,os) (List.replicate 64 .u8) l
 frm:CV w w' (fun b _=>b=bs)
 gw:GW GC w'
section
variable{ρ:Operand→Value}{d:Option Tmp}{x y z:Operand}{ty:TypeId}{pos:String}{af:Array Edge}{w:World}
theorem AMR{i j:Int}(h:ρ x= .int .i64 i)(hy:ρ y= .int .i64 j):(execOp ρ ⟨d,.binOp .neq 3 x y 3,ty,pos,af,none⟩).run Tryz.prog w= .ok (.value (.bool (i != j))) w:=by
 simp[execOp,go_sem,h,hy]
end
section
variable{GB:Nat}{GC:Nat→Nat→Option Value}{ad:Nat→Nat×Nat}(hG:Jk GB GC ad){w:World}(ε:GW GC w)(δ:GB≤w.heap.size)
include hG ε δ
set_option maxRecDepth 100000 in
theorem AIT{bs os cs bp op:Nat}{sg pk msg:List Int}{vm:Value}{c:ByteArray}(hsg:Ar true w (bs,os) (List.replicate 64 .u8) sg)(hbs:GB≤bs)(hcs:64≤cs)(hpk:Ar false w (bp,op) aS pk)(hne:bs≠bp)(hm:JI w vm msg)(hml:msg.length=64)(hc:c.size≤255):
  Calls Tryz.prog 73 #[.slice (some ⟨bs,os,none⟩) 64 cs,.pointer (some ⟨bp,op,none⟩),vm,.string c] w (SgE GC bs os cs (ZG (Sg 1 c) pk msg) w):=by
 have hb:decide ((255:Int)<(c.size:Int))=false:=decide_eq_false (by omega);obtain⟨b1,o1,c1,hvm,-, -⟩:=hm.has (by omega);subst hvm;refine enter (args:=[.slice (some ⟨bs,os,none⟩) 64 cs,.pointer (some ⟨bp,op,none⟩),.slice (some ⟨b1,o1,none⟩) msg.length c1,.string c]) Tryz.func73 rfl (n:=33) rfl fun a F=>?_
 have hb64:((msg.length:Int) != 64)=false:=by rw[hml];rfl
 refine BQ (Bv F rfl fun a F=>Bv F rfl fun a F=>Ae ?_);refine wp_seq (BQ (AB F rfl fun a F=>Cm F rfl (Ug (m:=msg.length) F.e) fun a F=>AR F rfl fun a F=>Ae ?_));refine BQ (AB F rfl fun a F=>Cm F rfl (AMR F.e rfl) fun a F=>Ae ?_);refine wp_cond (t:=false) (F.ev (QL Value.bool hb64)) (wp_skip ?_);refine wp_seq (BQ (AB F rfl fun a F=>Cm F rfl (d9 F.e) fun a F=>AR F rfl fun a F=>Ae ?_));refine BQ (AB F rfl fun a F=>Cm F rfl (AAO F.e rfl) fun a F=>Ae ?_);refine wp_cond (t:=false) (F.ev (QL Value.bool hb)) (wp_skip ?_);have h0:=jq (p:=pfX 1) (c:=c) hG ε δ hsg hbs hcs hpk hne hm (by omega) (by decide) (by omega);rw[AOo] at h0;refine BQ (AB F rfl fun a F=>AB F rfl fun a F=>AB F rfl fun a F=>AB F rfl fun a F=>Jr F rfl (kE rfl F.e F.e F.e rfl F.e Tryz.call91) h0 fun e w2 h2=>⟨_,h2.ret,fun a F=>AR F rfl fun a F=>Bv F rfl fun a F=>Ae ?_⟩);refine Kh ⟨F.df,.tuple #[.slice (some ⟨bs,os,none⟩) 64 cs,.nilIface],?_,rfl,h2.mem,h2.frm,h2.gw⟩;have q4:=F.tm 8;have q5:=F.tm 9;rw[Ti] at q4 q5;simp[results,Tryz.results73,go_sem];exact⟨q4,q5⟩
set_option maxRecDepth 100000 in
theorem AFt{bp op:Nat}{pk msg:List Int}{vm:Value}{c:ByteArray}(hpk:Ar false w (bp,op) aS pk)(hm:JI w vm msg)(hml:msg.length=64)(hc:c.size≤255):Calls Tryz.prog 48 #[.pointer (some ⟨bp,op,none⟩),vm,.string c] w (SnE GC (ZG (Sg 1 c) pk msg) w):=by
 have hbpl:bp<w.heap.size:=(hpk.2 0 .u8 _ (by decide) (Jo (by rw[hpk.1.1];decide))).lt;refine enter (args:=[.pointer (some ⟨bp,op,none⟩),vm,.string c]) Tryz.func48 rfl (n:=17) rfl fun a F=>?_
 refine BQ (Bv F rfl fun a F=>Bv F rfl fun a F=>Ae ?_);refine BQ (Cm F rfl (dW rfl rfl) fun a F=>AR F rfl fun a F=>Ae ?_);have N1:=Hq w 64 .u8 5 ⟨by decide,by decide⟩;have f1:CV w (w.alloc (.cells (Array.replicate 64 (.int .u8 0)) 5)) (fun _ _=>False):=Cs _ _ _;generalize w.alloc (.cells (Array.replicate 64 (.int .u8 0)) 5)=w1 at N1 f1 ⊢;have hcall:=AIT (c:=c) hG (PH hG ε f1) (G9 δ f1.1) N1 δ (JP 64) (hpk.frm f1 fun _ _ h=>h) (by omega) (hm.frm0 f1) hml hc;refine BQ (AB F rfl fun a F=>AB F rfl fun a F=>AB F rfl fun a F=>AB F rfl fun a F=>Jr F rfl (Uy rfl F.e F.e F.e F.e Tryz.call73) hcall fun e w2 h2=>⟨_,h2.ret,fun a F=>Cm F rfl (P5 F.e) fun a F=>Cm F rfl (MM F.e) fun a F=>AR F rfl fun a F=>AR F rfl fun a F=>Ae ?_⟩);refine Kh ⟨F.df,.tuple #[.slice (some ⟨w.heap.size,0,none⟩) 64 64,.nilIface],?_,⟨_,rfl,h2.mem⟩,f1.trans' h2.frm fun b i hb (h:b=w.heap.size)=>by omega,h2.gw⟩;have q4:=F.tm 6;have q5:=F.tm 7;rw[Ti] at q4 q5;simp[results,Tryz.results48,go_sem];exact⟨q4,q5⟩
set_option maxRecDepth 100000 in
theorem AJk{v vm:Value}{x msg:List Int}{c:ByteArray}(hx:JI w v x)(hl:x.length=32)(hm:JI w vm msg)(hml:msg.length=64)(hz:vm= .slice none 0 0∨∃ a n c,vm= .slice (some a) n c)(hc:c.size≤255):Calls Tryz.prog 24 #[v,vm,.string c] w (SoP GC (ZG (Sg 1 c) (Yw x) msg) w):=by
 obtain⟨b,o,c',rfl,ω,h8⟩:=hx.has (by omega);refine enter (args:=[.slice (some ⟨b,o,none⟩) x.length c',vm,.string c]) Tryz.func24 rfl (n:=31) rfl fun a F=>?_
 refine BQ (Bv F rfl fun a F=>Bv F rfl fun a F=>Ae ?_);refine BQ (AB F rfl fun a F=>Jr F rfl (Dn rfl F.e Tryz.call34) (JJ hx (by omega) (.inr ⟨_,_,_,rfl⟩)) fun e w1 h1=>?_);obtain⟨v1,he1,m1⟩:=h1.ret;have g1:=h1.frm;obtain⟨b1,o1,c1,rfl,hc1,h81⟩:=m1.has (by omega);refine⟨_,he1,fun a F=>Jr F rfl (Dn rfl F.e Tryz.call33) (by rw[hl];exact ak hG (PH hG ε g1) (G9 δ g1.1) h81 hl (by omega)) fun e w2 h2=>?_⟩;obtain⟨B,o2,he2,hB,M2⟩:=h2.ret;have g2:=g1.trans h2.frm;refine⟨_,he2,fun a F=>AB F rfl fun a F=>Cm F rfl (P5 F.e) fun a F=>Cm F rfl (MM F.e) fun a F=>AR F rfl fun a F=>AR F rfl fun a F=>Ae ?_⟩;refine wp_seq (BQ (AB F rfl fun a F=>Cm F rfl (Wx F.e rfl) fun a F=>Ae (wp_cond_false F.e (wp_skip ?_))));show Code.wp _ _ _ _ _;refine BQ (AB F rfl fun a F=>AB F rfl fun a F=>Jr F rfl (Dn rfl F.e Tryz.call34) (JJ (hm.frm0 g2) (by omega) hz) fun e w3 h3=>?_);obtain⟨v3,he3,m3⟩:=h3.ret;have g3:=g2.trans h3.frm;refine⟨_,he3,fun a F=>AB F rfl fun a F=>Jr F rfl (Uz rfl F.e F.e F.e Tryz.call48) (AFt hG (PH hG ε g3) (G9 δ g3.1) ((show Ar false w2 (B,o2) aS _ from ⟨M2.1,fun i k x a b=>(M2.2 i k x a b).weak⟩).frm h3.frm fun _ _ h=>h) m3 hml hc) fun e w4 h4=>?_⟩;obtain⟨B4,he4,m4⟩:=h4.ret;have g4:=g3.trans h4.frm;refine⟨_,he4,fun a F=>AB F rfl fun a F=>Cm F rfl (P5 F.e) fun a F=>Cm F rfl (MM F.e) fun a F=>AR F rfl fun a F=>AR F rfl fun a F=>Ae ?_⟩;refine wp_seq (BQ (AB F rfl fun a F=>Cm F rfl (Wx F.e rfl) fun a F=>Ae (wp_cond_false F.e (wp_skip ?_))));show Code.wp _ _ _ _ _;refine BQ (AB F rfl fun a F=>Jr F rfl (Dn rfl F.e Tryz.call34) (dH (Fe.of_mem m4) m4.len8 (by omega)) fun e w5 h5=>?_);obtain⟨v5,he5,m5⟩:=h5.ret;have g5:=g4.trans h5.frm;refine⟨_,he5,fun a F=>AR F rfl fun a F=>Bv F rfl fun a F=>Ae ?_⟩;refine Kh ⟨F.df,.tuple #[v5,.bool true],?_,⟨v5,rfl,m5⟩,m4.len8,g5,PH hG ε g5⟩;have q4:=F.tm 6;have q5:=F.tm 7;rw[Ti] at q4 q5;simp[results,Tryz.results24,go_sem];exact⟨q4,q5⟩
end
end
section
open Go Ma Go.RowKit Go.Lib Go.ChangeShapes Go.WideShapes
def ErS(w:World)(e:Ending)(w':World):Prop:=(∃ t x,e= .returned (.tuple #[.slice none 0 0,.iface t x]))∧Below w.heap.size w w'
section
variable{ρ:Operand→Value}{d:Option Tmp}{x y z:Operand}{ty:TypeId}{pos:String}{af:Array Edge}{w:World}
theorem AEH{t:TypeId}{v:Value}(h:ρ x= .iface t v)(hy:ρ (.const .nilIface)= .nilIface):(execOp ρ ⟨d,.binOp .neq 45 x (.const .nilIface) 45,ty,pos,af,none⟩).run Tryz.prog w= .ok (.value (.bool true)) w:=by
 simp[execOp,go_sem,h,hy]
end
set_option maxRecDepth 100000 in
set_option maxHeartbeats 2000000 in
theorem AGS (sv pv:Value) (a:Option Addr) (n c':Nat) (c:ByteArray) (w:World) (hn:((n:Int) != 64)=true) (hb:(n:Int)≤2147483647) (χ:Lib.TabIs Tryz.prog w "internal/strconv.uint64pow10" .u64 Lib.pow10Tab):
  Calls Tryz.prog 73 #[sv,pv,.slice a n c',.string c] w (ErS w):=by
 have mx:=mixed;have hlen:33+(Lib.itoa (n:Int)).length≤9223372036854775000:=by
  have:=Lib.itoa_length_le (n:Int) (by omega) (by omega);omega
 go_enter Tryz.func73,Tryz.ntmps73
 go_wp2_with (first
  |(go_at_call 82;refine (Tryz.strconv_Itoa _ (by omega) (by omega) _ χ).mono ?_;rintro e w' ⟨rfl,k,os,rfl⟩;have hb1:=Sr w k os)
  |go_in)
 go_ret2
 exact⟨⟨_,_,rfl⟩,hb1.alloc hb1.size _⟩
set_option maxRecDepth 100000 in
set_option maxHeartbeats 2000000 in
theorem AGT (sv pv:Value) (a:Option Addr) (c':Nat) (c:ByteArray) (w:World) (hc:255<(c.size:Int)) (hb:(c.size:Int)≤2147483647) (χ:Lib.TabIs Tryz.prog w "internal/strconv.uint64pow10" .u64 Lib.pow10Tab):
  Calls Tryz.prog 73 #[sv,pv,.slice a 64 c',.string c] w (ErS w):=by
 have mx:=mixed;have hlen:33+(Lib.itoa (c.size:Int)).length≤9223372036854775000:=by
  have:=Lib.itoa_length_le (c.size:Int) (by omega) (by omega);omega
 go_enter Tryz.func73,Tryz.ntmps73
 go_wp2_with (first
  |(go_at_call 82;refine (Tryz.strconv_Itoa _ (by omega) (by omega) _ χ).mono ?_;rintro e w' ⟨rfl,k,os,rfl⟩;have hb1:=Sr w k os)
  |go_in)
 go_ret2
 exact⟨⟨_,_,rfl⟩,hb1.alloc hb1.size _⟩
set_option maxRecDepth 100000 in
theorem qp(pv vm:Value)(c:ByteArray)(w:World)(aaQ:∀ sv w1,Below w.heap.size w w1→Calls Tryz.prog 73 #[sv,pv,vm,.string c] w1 (ErS w1)):Calls Tryz.prog 48 #[pv,vm,.string c] w (ErS w):=by
 refine enter (args:=[pv,vm,.string c]) Tryz.func48 rfl (n:=17) rfl fun a F=>?_
 refine BQ (Bv F rfl fun a F=>Bv F rfl fun a F=>Ae ?_);refine BQ (Cm F rfl (dW rfl rfl) fun a F=>AR F rfl fun a F=>Ae ?_);have b1:=DD w (.cells (Array.replicate 64 (.int .u8 0)) 5);generalize w.alloc (.cells (Array.replicate 64 (.int .u8 0)) 5)=w1 at b1 ⊢;refine BQ (AB F rfl fun a F=>AB F rfl fun a F=>AB F rfl fun a F=>AB F rfl fun a F=>Jr F rfl (Uy rfl F.e F.e F.e F.e Tryz.call73) (aaQ _ _ b1) fun e w2 h2=>?_);obtain⟨⟨t,x,he⟩,b2⟩:=h2;refine⟨_,he,fun a F=>Cm F rfl (P5 F.e) fun a F=>Cm F rfl (MM F.e) fun a F=>AR F rfl fun a F=>AR F rfl fun a F=>Ae ?_⟩;refine Kh ⟨F.df,.tuple #[.slice none 0 0,.iface t x],?_,⟨t,x,rfl⟩,b1.trans (Iu b2 b1.size)⟩;have q4:=F.tm 6;have q5:=F.tm 7;rw[Ti] at q4 q5;simp[results,Tryz.results48,go_sem];exact⟨q4,q5⟩
section
variable{GB:Nat}{GC:Nat→Nat→Option Value}{ad:Nat→Nat×Nat}(hG:Jk GB GC ad){w:World}(ε:GW GC w)(δ:GB≤w.heap.size)
include hG ε δ
set_option maxRecDepth 100000 in
theorem AAK{v vm:Value}{x msg:List Int}{c:ByteArray}(hx:JI w v x)(hl:x.length=32)(hm:JI w vm msg)(hml:msg.length<1099511627776)(hz:vm= .slice none 0 0∨∃ a n c,vm= .slice (some a) n c)(aaQ:∀ pv v3 w3,JI w3 v3 msg→Below w.heap.size w w3→Calls Tryz.prog 48 #[pv,v3,.string c] w3 (ErS w3)):Calls Tryz.prog 24 #[v,vm,.string c] w (NoP w):=by
 obtain⟨b,o,c',rfl,ω,h8⟩:=hx.has (by omega);refine enter (args:=[.slice (some ⟨b,o,none⟩) x.length c',vm,.string c]) Tryz.func24 rfl (n:=31) rfl fun a F=>?_
 refine BQ (Bv F rfl fun a F=>Bv F rfl fun a F=>Ae ?_);refine BQ (AB F rfl fun a F=>Jr F rfl (Dn rfl F.e Tryz.call34) (JJ hx (by omega) (.inr ⟨_,_,_,rfl⟩)) fun e w1 h1=>?_);obtain⟨v1,he1,m1⟩:=h1.ret;have g1:=h1.frm;obtain⟨b1,o1,c1,rfl,hc1,h81⟩:=m1.has (by omega);refine⟨_,he1,fun a F=>Jr F rfl (Dn rfl F.e Tryz.call33) (by rw[hl];exact ak hG (PH hG ε g1) (G9 δ g1.1) h81 hl (by omega)) fun e w2 h2=>?_⟩;obtain⟨B,o2,he2,hB,M2⟩:=h2.ret;have g2:=g1.trans h2.frm;refine⟨_,he2,fun a F=>AB F rfl fun a F=>Cm F rfl (P5 F.e) fun a F=>Cm F rfl (MM F.e) fun a F=>AR F rfl fun a F=>AR F rfl fun a F=>Ae ?_⟩;refine wp_seq (BQ (AB F rfl fun a F=>Cm F rfl (Wx F.e rfl) fun a F=>Ae (wp_cond_false F.e (wp_skip ?_))));show Code.wp _ _ _ _ _;refine BQ (AB F rfl fun a F=>AB F rfl fun a F=>Jr F rfl (Dn rfl F.e Tryz.call34) (JJ (hm.frm0 g2) (by omega) hz) fun e w3 h3=>?_);obtain⟨v3,he3,m3⟩:=h3.ret;have g3:=g2.trans h3.frm;have b3:=PG g3 fun _ _ h=>h
 refine⟨_,he3,fun a F=>AB F rfl fun a F=>Jr F rfl (Uz rfl F.e F.e F.e Tryz.call48) (aaQ _ _ _ m3 b3) fun e w4 h4=>?_⟩;obtain⟨⟨t,y,he4⟩,b4⟩:=h4;refine⟨_,he4,fun a F=>AB F rfl fun a F=>Cm F rfl (P5 F.e) fun a F=>Cm F rfl (MM F.e) fun a F=>AR F rfl fun a F=>AR F rfl fun a F=>Ae ?_⟩;refine wp_seq (BQ (AB F rfl fun a F=>Cm F rfl (AEH F.e rfl) fun a F=>Ae (wp_cond (t:=true) F.e ?_)));refine BQ (Bv F rfl fun a F=>Bv F rfl fun a F=>Ae ?_);refine Kh ⟨F.df,.tuple #[.slice none 0 0,.bool false],?_,rfl,b3.trans (Iu b4 b3.size)⟩;have q4:=F.tm 6;have q5:=F.tm 7;rw[Ti] at q4 q5;simp[results,Tryz.results24,go_sem];exact⟨q4,q5⟩
end
end
section
open Go Ma Go.RowKit Go.Lib Go.ChangeShapes Go.WideShapes
set_option maxRecDepth 100000 in
theorem APr(a a':Option Addr)(n c n' c':Nat)(s:ByteArray)(w:World)(_h1:¬ (n:Int)=32):Calls Tryz.prog 6 #[.slice a n c,.slice a' n' c',.string s] w (VN w):=by
 go_enter Tryz.func6,Tryz.ntmps6
 go_wp2
 all_goals go_ret
 all_goals exact⟨rfl,Below.refl _ _⟩
set_option maxRecDepth 100000 in
theorem AJ9(a a':Option Addr)(c n' c':Nat)(s:ByteArray)(w:World)(h1:1048576<(n':Int)):Calls Tryz.prog 6 #[.slice a 32 c,.slice a' n' c',.string s] w (VN w):=by
 go_enter Tryz.func6,Tryz.ntmps6
 go_wp2
 all_goals go_ret
 all_goals exact⟨rfl,Below.refl _ _⟩
set_option maxRecDepth 100000 in
theorem AIr(a a':Option Addr)(c n' c':Nat)(s:ByteArray)(w:World)(h1:(n':Int)≤1048576)(h2:2147483647<(s.size:Int)):Calls Tryz.prog 6 #[.slice a 32 c,.slice a' n' c',.string s] w (VN w):=by
 go_enter Tryz.func6,Tryz.ntmps6
 go_wp2
 all_goals go_ret
 all_goals exact⟨rfl,Below.refl _ _⟩
set_option maxRecDepth 100000 in
set_option maxHeartbeats 2000000 in
theorem AIu(a a':Option Addr)(c n' c':Nat)(s:ByteArray)(w:World)(hfs:Calls Tryz.prog 24 #[.slice a 32 c,.slice a' n' c',.string s] w (NoP w))(hm:(n':Int)≤1048576)(h1:((n':Int) != 64)=true)(h3:(s.size:Int)≤2147483647):Calls Tryz.prog 6 #[.slice a 32 c,.slice a' n' c',.string s] w (VN w):=by
 have mx:=mixed
 go_enter Tryz.func6,Tryz.ntmps6
 go_wp2_with (go_at_call 24;refine hfs.mono ?_;clear hfs;rintro e w1 ⟨rfl,hb1⟩)
 all_goals go_ret
 all_goals exact⟨rfl,hb1⟩
set_option maxRecDepth 100000 in
set_option maxHeartbeats 2000000 in
theorem AHQ(a a':Option Addr)(c c':Nat)(s:ByteArray)(w:World)(hfs:Calls Tryz.prog 24 #[.slice a 32 c,.slice a' 64 c',.string s] w (NoP w))(h2:255<(s.size:Int))(h3:(s.size:Int)≤2147483647):Calls Tryz.prog 6 #[.slice a 32 c,.slice a' 64 c',.string s] w (VN w):=by
 have mx:=mixed
 go_enter Tryz.func6,Tryz.ntmps6
 go_wp2_with (go_at_call 24;refine hfs.mono ?_;clear hfs;rintro e w1 ⟨rfl,hb1⟩)
 all_goals go_ret
 all_goals exact⟨rfl,hb1⟩
section
variable{GB:Nat}{GC:Nat→Nat→Option Value}{ad:Nat→Nat×Nat}(hG:Jk GB GC ad)
include hG
set_option maxRecDepth 100000 in
set_option maxHeartbeats 2000000 in
theorem ARd{w:World}{b0 o0 c0:Nat}{a':Option Addr}{c':Nat}{x m:List Int}{s:ByteArray}(ε:GW GC w)(δ:GB≤w.heap.size)(hx0:Fe w b0 o0 x)(hl:x.length=32)(hc0:32≤c0)(hm:JI w (.slice a' 64 c') m)(hml:m.length=64)(hz:(.slice a' 64 c':Value)= .slice none 0 0∨∃ a n c,(.slice a' 64 c':Value)= .slice (some a) n c)(h2:(s.size:Int)≤255):
  Calls Tryz.prog 6 #[.slice (some ⟨b0,o0,none⟩) 32 c0,.slice a' 64 c',.string s] w (VN w):=by
 have hx:JI w (.slice (some ⟨b0,o0,none⟩) 32 c0) x:=JI.of_has hx0 hl hc0;have hsg:=AJk (c:=s) hG ε δ hx hl hm hml hz (by omega);rw[lh (d:=Sg 1 s) hl] at hsg;have mx:=mixed;have hml2:m.length<1099511627776/2:=by omega
 have hdl:(Sg 1 s).length≤1000:=by rw[ni];omega
 have HZ:=Lib.hid hz;have HL:=Lib.hid hl;have HM:=Lib.hid hml;clear hz hl hml
 go_enter Tryz.func6,Tryz.ntmps6
 go_wp2_with (go_at_call 24;refine hsg.mono ?_;clear hsg;rintro e w1 h1;obtain⟨v0,he,m0⟩:=h1.ret;subst he)
 have g1:=h1.frm;have l64:=dS (Sg 1 s) x m;obtain⟨r0,s0,k0,e0,j0,n0⟩:=m0.has (by rw[l64];omega);rw[l64] at e0 j0;subst e0;clear m0;have hdm:=xO (k:=1) (c:=s) hG h1.gw (G9 δ g1.1) (by decide) (by omega);have hx1:=hx.frm0 g1;have hm1:=hm.frm0 g1
 go_wp2_with (first
  |(go_at_call 22;refine hdm.mono ?_;clear hdm;rintro e w2 h2;obtain⟨v2,he,m2⟩:=h2.ret;subst he;have hrs:=Xv hG h2.gw (G9 (G9 δ g1.1) h2.frm.1) m2 (hx1.frm0 h2.frm) HL.out (hm1.frm0 h2.frm) hdl hml2)
  |(go_at_call 21;refine hrs.mono ?_;clear hrs;rintro e w3 h3;obtain⟨v3,he,m3⟩:=h3.ret;subst he;obtain⟨r3,s3,k3,e3,j3,n3⟩:=m3.has (by rw[l64];omega);rw[l64] at e3 j3;subst e3;clear m3))
 have g3:=h2.frm.trans h3.frm;have y0:=n0.frm0 g3;have hb3:Below w.heap.size w w3:=PG (g1.trans g3) fun _ _ h=>h
 refine (eB w3 y0 n3 l64 l64).mono ?_
 rintro e w4 ⟨rfl,rfl⟩
 clear h1 h2 h3 g1 g3 n0 ε hx0 hx hm y0 n3 hx1 hm1 m2
 go_wp2
 all_goals go_ret
 all_goals exact⟨rfl,hb3⟩
end
set_option maxRecDepth 100000 in
theorem XA {GB:Nat} {GC:Nat→Nat→Option Value} {ad:Nat→Nat×Nat} (hG:Jk GB GC ad) {H:Type} {enc:TypeId×Value→H} {W:World} {Gw:Nat} {v0 v1 v2:Value} {d0 d1 d2:DataW H} {p0 p1 p2:List MemPlace} (χ:Lib.TabIs Tryz.prog W "internal/strconv.uint64pow10" .u64 Lib.pow10Tab) (ε:GW GC W) (δ:GB≤W.heap.size)
  (hv0:Value.okWide Tryz.prog W .any Gw 22 v0) (h0:DataW.Trod enc Tryz.prog W 0 (fun _=>true) true 22 v0 d0 p0) (hv1:Value.okWide Tryz.prog W .any Gw 22 v1) (h1:DataW.Trod enc Tryz.prog W 0 (fun _=>true) true 22 v1 d1 p1) (hv2:Value.okWide Tryz.prog W .any Gw 9 v2) (h2:DataW.Trod enc Tryz.prog W 0 (fun _=>true) true 9 v2 d2 p2):
  Calls Tryz.prog 6 #[v0,v1,v2] W fun e W'=>e= .returned (.bool true)∧Below W.heap.size W W':=by
 obtain⟨s,hs,-⟩:=ChangeMaps.open_string Tryz.underlying9 hv2 h2;subst hs;obtain⟨a1,n1,c1,m,hv,hm,hml,hz⟩:=Xe hv1 h1;subst hv
 rcases uf 32 (by omega) Tryz.underlying22 Tryz.underlying5 (by kernel_rfl) hv0 h0 with ⟨a,n,c,rfl,hn⟩|⟨b,o,c,xs,rfl,hc,hl,hx⟩
 ·exact APr _ _ _ _ _ _ _ W (by omega)
 ·by_cases hlong:1048576<(n1:Int)
  ·exact AJ9 _ _ _ _ _ _ W hlong
  ·by_cases hcb:2147483647<(s.size:Int)
   ·exact AIr _ _ _ _ _ _ W (by omega) hcb
   ·by_cases hd:n1=64
    ·subst hd
     by_cases hct:255<(s.size:Int)
     ·refine AHQ _ _ _ _ _ W (AAK hG ε δ (JI.of_has hx hl hc) hl hm (by omega) hz fun pv v3 w3 m3 hb3=>qp _ _ _ _ fun sv w4 hb4=>?_) hct (by omega);obtain⟨a3,c3,hv3,-⟩:=m3;rw[hml] at hv3;subst hv3;exact AGT _ _ _ _ _ _ hct (by omega) (NM (NM χ hb3) hb4)
     ·exact ARd hG ε δ hx hl hc hm hml hz (by omega)
    ·have hd':((n1:Int) == 64)=false:=wF hd;refine AIu _ _ _ _ _ _ W (AAK hG ε δ (JI.of_has hx hl hc) hl hm (by omega) hz fun pv v3 w3 m3 hb3=>qp _ _ _ _ fun sv w4 hb4=>?_) (by omega) (by simp[bne,hd']) (by omega);obtain⟨a3,c3,hv3,-⟩:=m3;rw[hml] at hv3;subst hv3;exact AGS _ _ _ _ _ _ _ (by simp[bne,hd']) (by omega) (NM (NM χ hb3) hb4)
end
end Go.Proofs.YtloibefkijfdlaaGreatDoor
