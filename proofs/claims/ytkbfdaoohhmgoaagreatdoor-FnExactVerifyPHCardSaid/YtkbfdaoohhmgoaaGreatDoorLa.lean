/- From the executor's contracts to the kit's words: what was there stays; a slice of bytes that came in. -/
import Derived.Test.YtkbfdaoohhmgoaaGreatDoorDa
import Derived.Below
import Derived.Carry
import Derived.ProofKit
import Derived.WalkKit
import Derived.Shelf.LaysM
import Derived.Shelf.Strconv.Itoa3
import Derived.Test.YtkbfdaoohhmgoaaGreatDoorProg
import Derived.LaidLaws
import Derived.Lib.LaidTab
import Derived.OpenShut
import Derived.ChangeSame
import Derived.ChangeVars
import Derived.WideKeyArgs
import Derived.ChangeBook
namespace Go.Proofs.YtkbfdaoohhmgoaaGreatDoor
section
open Go Go.RowKit Go.ChangeShapes Go.WideShapes
theorem J9{w w':World}{S:Nat->Nat->Prop}(h:BD w w' S)(hS:∀b o,¬S b o):Below w.heap.size w w':=by
 refine⟨h.2.2.1,h.2.2.2.2,h.2.2.2.1,h.1,λk hk=>?_⟩;obtain⟨y,hy,hb⟩:=h.2.1 k _ (Array.getElem?_eq_getElem hk);rw[hy,Array.getElem?_eq_getElem hk];rcases hb with e|⟨c,c',e,f,h1,h2,h3,h4⟩
 ·rw[e]
 ·rw[h1,h2];have:c'=c:=Array.ext_getElem? λi=>h4 i (hS k i)
  rw[this]
theorem AJF{H:Type}{enc:TypeId×Value->H}{P:Program}{W:World}{FY:Nat}{t e:TypeId}{v:Value}{d:DataW H}{p:List MemPlace}(ht:P.underlying t=some (.slice e))(he:P.underlying e=some (.int .u8))(hc:P.cellsOf e=1)
  (eJ:Value.okWide P W .any FY t v) (h:DataW.Trod enc P W 0 (λ_=>true) true t v d p):
  (v= .slice none 0 0/\d= .nil/\p= [])\/∃(a:Addr) (n c:Nat) (zs:List Int),v= .slice (some a) n c/\n<=c/\c<=maxLen/\zs.length=c/\d= .slice (lits .u8 (zs.take n)) (lits .u8 (zs.drop n))/\p=MemPlace.row a c/\
   (∀i,i<c->W.cell? (a.add i)=some (.int .u8 (zs.getD i 0)))/\(∀x∈zs,0<=x/\x<=255)/\(0<c->a.spot=none):=by
 obtain⟨a1,len,cap,rfl⟩:=okWide_slice ht eJ;obtain⟨fuel,hf⟩:=h;rcases open_ints ht he hc hf with⟨cS,hx⟩|⟨a,awZ,aCb,zs,cS,_,hl,hm,hz,hx,cR,hwz⟩
 ·simp only[Value.cells,List.cons.injEq,Value.slice.injEq,and_true] at cS;obtain⟨rfl,rfl,rfl⟩:=cS;simp only[Prod.mk.injEq] at hx;exact .inl ⟨rfl,hx.1,hx.2⟩
 ·simp only[Value.cells,List.cons.injEq,Value.slice.injEq,and_true] at cS;obtain⟨rfl,rfl,rfl⟩:=cS;simp only[Prod.mk.injEq] at hx;simp only[if_true] at hz;refine .inr ⟨a,len,cap,zs,rfl,hl,hm,hz,hx.1,by rw[hx.2,hz],λi hi=>cR i (by omega),λx hx=>?_,λh=>?_⟩
  ·have:=hwz x hx;simpa[Lit.wf,IntKind.min,IntKind.max,IntKind.bits,IntKind.signed] using this
  ·have:=World.cell?_spot (cR 0 (by omega));simpa[Addr.add] using this
theorem ARK{GB:Nat}{w:World}{b o n c g:Nat}{xs:List Int}(hl:xs.length=n)(hc:n<=c)(hx:∀x∈xs,0<=x/\x<=255)(hm:∀i,i<n->w.cell? ⟨b,o+i,none⟩=some (.int .u8 (xs.getD i 0))):
  PM GB w (.sl (List.replicate n .u8) g false) (.slice (some ⟨b,o,none⟩) n c) xs (b,o):=by
 refine⟨c,by rw[Rp],by rw[Rp];exact hc,⟨⟨by rw[Rp];exact hl,λi k x hk pn=>?_⟩,λi k x hk pn=>?_⟩,λh=>(by cases h)⟩
 ·have nB:=A6.1 (MB hk);rw[nB.2];have:=hx x (MB pn);exact⟨this.1,this.2⟩
 ·have nB:=A6.1 (MB hk);rw[nB.2];have hi:i<n:=by have:=(Oa.1 pn).1;omega
  refine⟨?_,λh=>(by cases h)⟩;show w.cell? ⟨b,o+i,none⟩=_;rw[hm i hi,List.getD,pn];rfl
end
section
open Go
def Rw(f:Nat->Value)(t:Nat)(v:Value):Nat->Value:=λu=>bif Nat.beq t u then v else f u
structure Fr (a:Act) (n:Nat) (f:Nat->Value):Prop where
 sz:a.tmps.size=n
 df:a.defers= []
 tm:∀t,a.tmps.getD t undef=f t
variable{P:Program}{ops:Array Oper}{Q:Exit->Act->World->Prop}{rest:List Oper}{a:Act}{w:World}{n:Nat}{f:Nat->Value}
theorem ZB{t:Nat}{v:Value}:Rw f t v t=v:=by simp[Rw]
theorem Kq{t u:Nat}{v:Value}(h:t≠u):Rw f t v u=f u:=by
 unfold Rw;cases hb:Nat.beq t u with
 |true=>exact absurd (Ca hb) h
 |false=>rfl
theorem Fr.put(F:Fr a n f){t:Nat}(ht:Nat.blt t n=true)(v:Value):Fr (a.put (some t) v) n (Rw f t v):=by
 have bj:t<a.tmps.size:=by rw[F.sz];exact Kv ht
 refine⟨by rw[OB];exact F.sz,by rw[TZ];exact F.df,λu=>?_⟩;rw[Wj bj];by_cases h:t=u
 ·subst h;rw[if_pos rfl,ZB]
 ·rw[if_neg h,Kq h];exact F.tm u
theorem Fr.adf(F:Fr a n f)(v:Value):Fr (a.put none v) n f:=F
theorem Fr.wi(F:Fr a n f){t:Nat}{v:Value}(h:f t=v):Fr a n (Rw f t v):=⟨F.sz,F.df,λu=>by
 by_cases e:t=u
 ·subst e;rw[ZB,F.tm,h]
 ·rw[Kq e];exact F.tm u⟩
theorem Fr.ev(F:Fr a n f){t:Nat}{v:Value}(h:f t=v):a.eval (.tmp t)=v:=(F.tm t).trans h
def fr0:List Value->Nat->Value
 | [],_=>undef
 |v::_,0=>v
 |_::r,n+1=>fr0 r n
theorem ACd:∀(l:List Value) (t:Nat),l.getD t undef=fr0 l t
 | [],t=>by simp[fr0]
 |v::r,0=>rfl
 |v::r,t+1=>by simpa[fr0] using ACd r t
theorem Fr.enter(args:List Value)(m:Nat):Fr { tmps:=args.toArray++Array.replicate (m-args.length) undef,defers:=[] } (args.length+(m-args.length)) (fr0 args):=by
 refine⟨by simp,rfl,λt=>?_⟩;rw[<- ACd];simp only[YJ,List.getD];by_cases h:t<args.length
 ·rw[Array.getElem?_append_left (by simpa using h)];simp
 ·rw[Array.getElem?_append_right (by simpa using h),List.getElem?_eq_none (by omega),Array.getElem?_replicate];split<;>rfl
theorem qB{o:Oper}{t:Nat}{v:Value}{w':World}(F:Fr a n f)(hg:o.guard=none)(hd:o.dst=some t)(ht:Nat.blt t n=true)(h:(execOp a.eval o).run P w= .ok (.value v) w')(hn:∀a',Fr a' n (Rw f t v)->wpList P ops Q rest a' w'):wpList P ops Q (o::rest) a w:=
 wpList_plain hg λK hK=>by
  unfold Oper.wp;rw[h];show K (a.put o.dst v) w';refine hK _ _ (hn _ ?_);rw[hd];exact F.put ht v
theorem FB{o:Oper}{w':World}(F:Fr a n f)(hg:o.guard=none)(hd:o.dst=none)(h:(execOp a.eval o).run P w= .ok .skip w')(hn:∀a',Fr a' n f->wpList P ops Q rest a' w'):wpList P ops Q (o::rest) a w:=
 wpList_plain hg λK hK=>by
  unfold Oper.wp;rw[h];show K (a.put o.dst undef) w';refine hK _ _ (hn _ ?_);rw[hd];exact F.adf undef
theorem AM3{o:Oper}{t g:Nat}{vs:Array Value}{w0:World}{R:Ending->World->Prop}(F:Fr a n f)(hg:o.guard=none)(hd:o.dst=some t)(ht:Nat.blt t n=true)(h:(execOp a.eval o).run P w= .ok (.enter g vs) w0)(hc:Calls P g vs w0 R)
  (hn:∀e w',R e w'->∃v,e= .returned v/\∀a',Fr a' n (Rw f t v)->wpList P ops Q rest a' w'):wpList P ops Q (o::rest) a w:=
 wpList_plain hg λK hK=>by
  unfold Oper.wp;rw[h];show Calls P g vs w0 _;refine hc.mono λe w' hR=>?_
  obtain⟨v,rfl,hv⟩:=hn e w' hR;show K (a.put o.dst v) w';refine hK _ _ (hv _ ?_);rw[hd];exact F.put ht v
theorem CY(h:Q .normal a w):wpList P ops Q [] a w:=h
theorem cp{id:Nat}{l:List Oper}(h:wpList P l.toArray Q l a w):(Code.region id l.toArray false).wp P Q a w:=wp_region_lit h
theorem enter{g:Nat}{fn:Func}{c:Code}{args:List Value}{R:Ending->World->Prop}(hf:P.funcs[g]? = some fn)(hb:fn.body=some c)(hn:args.length+(fn.ntmps-args.length)=n)
  (h:∀a,Fr a n (fr0 args)->c.wp P (bodyPost P fn R) a w):Calls P g args.toArray w R:=by
 refine calls_of_wp hf hb ?_;have:=h _ (hn ▸ Fr.enter args fn.ntmps);simpa using this
section
variable {P : Program} {ops : Array Oper} {Q : Exit -> Act -> World -> Prop} {rest : List Oper} {a : Act} {w : World} {n : Nat} {f : Nat -> Value}
theorem Fr.e {t : Nat} (F : Fr a n f) : a.eval (.tmp t) = f t := F.ev rfl
theorem AZ {o : Oper} {t : Nat} {v : Value} {w' : World} (F : Fr a n f) (hg : (o.guard,o.dst,Nat.blt t n) = (none,some t,true)) (h : (execOp a.eval o).run P w = .ok (.value v) w') (hn : ∀a',Fr a' n (Rw f t v) -> wpList P ops Q rest a' w') : wpList P ops Q (o :: rest) a w := by
 simp only[Prod.mk.injEq] at hg;exact qB F hg.1 hg.2.1 hg.2.2 h hn
theorem EG {o : Oper} {t g : Nat} {vs : Array Value} {w0 : World} {R : Ending -> World -> Prop} (F : Fr a n f) (hg : (o.guard,o.dst,Nat.blt t n) = (none,some t,true)) (h : (execOp a.eval o).run P w = .ok (.enter g vs) w0) (hc : Calls P g vs w0 R)
  (hn : ∀e w',R e w' -> ∃v,e = .returned v /\ ∀a',Fr a' n (Rw f t v) -> wpList P ops Q rest a' w') : wpList P ops Q (o :: rest) a w := by
 simp only[Prod.mk.injEq] at hg;exact AM3 F hg.1 hg.2.1 hg.2.2 h hc hn
end
end
end Go.Proofs.YtkbfdaoohhmgoaaGreatDoor
namespace Go.Proofs
open Go.Shelf
def Tryz.laysM171_ren:Go.Shelf.Ren:=⟨fun|171=>44|243=>52|246=>78|283=>112|284=>113|285=>114|286=>115|129=>145|317=>144|318=>146|319=>147|320=>148|337=>157|338=>158|n=>n,fun|3=>3|9=>9|2=>2|4=>4|171=>168|0=>0|53=>38|37=>22|5=>5|173=>171|212=>202|51=>203|20=>20|213=>204|46=>107|232=>45|233=>117|n=>n,fun|17=>6|18=>8|19=>9|n=>n⟩
theorem Tryz.laysM171:Go.Proofs.LaysM.n171 Tryz.prog Tryz.laysM171_ren:= {
 mixed:=by kernel_rfl
 f129:=Tryz.func145.trans (congrArg some (by kernel_rfl))
 f171:=Tryz.func44.trans (congrArg some (by kernel_rfl))
 f243:=Tryz.func52.trans (congrArg some (by kernel_rfl))
 f246:=Tryz.func78.trans (congrArg some (by kernel_rfl))
 f283:=Tryz.func112.trans (congrArg some (by kernel_rfl))
 f284:=Tryz.func113.trans (congrArg some (by kernel_rfl))
 f285:=Tryz.func114.trans (congrArg some (by kernel_rfl))
 f286:=Tryz.func115.trans (congrArg some (by kernel_rfl))
 f317:=Tryz.func144.trans (congrArg some (by kernel_rfl))
 f318:=Tryz.func146.trans (congrArg some (by kernel_rfl))
 f319:=Tryz.func147.trans (congrArg some (by kernel_rfl))
 f320:=Tryz.func148.trans (congrArg some (by kernel_rfl))
 f337:=Tryz.func157.trans (congrArg some (by kernel_rfl))
 f338:=Tryz.func158.trans (congrArg some (by kernel_rfl))
 t0:=Tryz.underlying0
 a0:=Tryz.isAgg0
 z0:=Tryz.sizeOf0
 v0:=Tryz.zeroValue0
 t2:=Tryz.underlying2
 a2:=Tryz.isAgg2
 z2:=Tryz.sizeOf2
 v2:=Tryz.zeroValue2
 t3:=Tryz.underlying3
 a3:=Tryz.isAgg3
 z3:=Tryz.sizeOf3
 v3:=Tryz.zeroValue3
 t4:=Tryz.underlying4
 a4:=Tryz.isAgg4
 z4:=Tryz.sizeOf4
 v4:=Tryz.zeroValue4
 t5:=Tryz.underlying5
 a5:=Tryz.isAgg5
 z5:=Tryz.sizeOf5
 v5:=Tryz.zeroValue5
 t9:=Tryz.underlying9
 a9:=Tryz.isAgg9
 z9:=Tryz.sizeOf9
 v9:=Tryz.zeroValue9
 t20:=Tryz.underlying20
 a20:=Tryz.isAgg20
 z20:=Tryz.sizeOf20
 v20:=Tryz.zeroValue20
 t37:=Tryz.underlying22
 a37:=Tryz.isAgg22
 z37:=Tryz.sizeOf22
 v37:=Tryz.zeroValue22
 t46:=Tryz.underlying107
 a46:=Tryz.isAgg107
 z46:=Tryz.sizeOf107
 v46:=Tryz.zeroValue107
 t51:=Tryz.underlying203
 a51:=Tryz.isAgg203
 z51:=Tryz.sizeOf203
 v51:=Tryz.zeroValue203
 t53:=Tryz.underlying38
 a53:=Tryz.isAgg38
 z53:=Tryz.sizeOf38
 v53:=Tryz.zeroValue38
 t171:=Tryz.underlying168
 a171:=Tryz.isAgg168
 z171:=Tryz.sizeOf168
 v171:=Tryz.zeroValue168
 t173:=Tryz.underlying171
 a173:=Tryz.isAgg171
 z173:=Tryz.sizeOf171
 v173:=Tryz.zeroValue171
 t212:=Tryz.underlying202
 a212:=Tryz.isAgg202
 z212:=Tryz.sizeOf202
 v212:=Tryz.zeroValue202
 t213:=Tryz.underlying204
 a213:=Tryz.isAgg204
 z213:=Tryz.sizeOf204
 t232:=Tryz.underlying45
 a232:=Tryz.isAgg45
 z232:=Tryz.sizeOf45
 v232:=Tryz.zeroValue45
 t233:=Tryz.underlying117
 a233:=Tryz.isAgg117
 z233:=Tryz.sizeOf117
 v233:=Tryz.zeroValue117
 g17:=by kernel_rfl
 g18:=by kernel_rfl
 g19:=by kernel_rfl
 i0:=by kernel_rfl
 i2:=by kernel_rfl
 i3:=by kernel_rfl
 i4:=by kernel_rfl
 i5:=by kernel_rfl
 i9:=by kernel_rfl
 i20:=by kernel_rfl
 i37:=by kernel_rfl
 i46:=by kernel_rfl
 i51:=by kernel_rfl
 i53:=by kernel_rfl
 i171:=by kernel_rfl
 i173:=by kernel_rfl
 i212:=by kernel_rfl
 i232:=by kernel_rfl
 i233:=by kernel_rfl
 m17:=by kernel_rfl
 m18:=by kernel_rfl
 m19:=by kernel_rfl }
open Go.RowKit Go.Sort Go.Lib in
theorem Tryz.strconv_Itoa (n:Int) (h0: -9223372036854775808≤n) (h1:n≤9223372036854775807) (w:World) (htab:Lib.TabIs Tryz.prog w "internal/strconv.uint64pow10" .u64 Lib.pow10Tab):
  Calls Tryz.prog 44 #[.int .i64 n] w fun e w'=>e= .returned (.string ⟨(Lib.itoa n).toArray⟩)∧∃ k os,w'=grow (w.drewN k) os:=Any.strconv_Itoa Tryz.laysM171 n h0 h1 w htab
end Go.Proofs
namespace Go.Proofs.YtkbfdaoohhmgoaaGreatDoor
section
open Go
def Hu{H:Type}:Nat->DataW H->List Int
 |0,_=>[]
 |n+1,d=>match d with
  | .lit (.int _ x)=>[x]
  | .agg ds=>ds.flatMap (Hu n)
  |_=>[]
def wN(P:Program):Nat->List Field->Nat->Bool
 |o,[],c=>Nat.beq o c
 |o,f::fs,c=>Nat.beq f.offset o&&wN P (o+P.cellsOf f.type) fs c
def Xv(P:Program)(k:IntKind):Nat->TypeId->Bool
 |0,_=>false
 |n+1,t=>match P.underlying t with
  |some (.int k')=>decide (k'=k)&&Nat.beq (P.cellsOf t) 1
  |some (.struct fs)=>wN P 0 fs.toList (P.cellsOf t)&&fs.toList.all λf=>Xv P k n f.type
  |some (.array m e)=>Nat.beq (P.cellsOf t) (m*P.cellsOf e)&&Xv P k n e
  |_=>false
def R9(k:IntKind)(l:List Int):List Value:=l.map λz=>.int k z
section
variable{H:Type}{enc:TypeId×Value->H}{P:Program}{k:IntKind}{w:World}{FY:Nat}{sp:Nat->Bool}{held:Bool}
theorem WI:∀ {n:Nat} {t:TypeId} {fuel:Nat} {cs:List Value} {d:DataW H} {p:List MemPlace},Xv P k n t=true->DataW.trod enc P w FY sp held fuel t cs=some (d,p)->cs=R9 k (Hu n d)/\cs.length=P.cellsOf t
 |0,t,fuel,cs,d,p,hk,h=>by cases hk
 | n + 1,t,fuel,cs,d,p,hk,h=>by
  unfold Xv at hk;split at hk
  ·rename_i k' ht;simp only[Bj,decide_eq_true_eq] at hk;obtain⟨rfl,hk⟩:=hk;obtain⟨z,rfl,hx,_⟩:=DataW.trod_int ht h;simp only[Prod.mk.injEq] at hx;rw[hx.1,Ca hk];exact⟨rfl,rfl⟩
  ·rename_i fs ht;simp only[Bj] at hk;obtain⟨xs,m,rfl,hx,hl,hxl,hi⟩:=DataW.trod_struct ht h;simp only[Prod.mk.injEq] at hx;rw[hx.1];refine⟨?_,hl⟩;have key:∀(l:List Field) (ys:List (DataW H×List MemPlace)) (o:Nat),o<=cs.length->wN P o l cs.length=true->(∀f∈l,Xv P k n f.type=true)->ys.length=l.length->
     (∀(i:Nat) (f:Field),l[i]? = some f->DataW.trod enc P w FY sp held m f.type ((cs.drop f.offset).take (P.cellsOf f.type))=ys[i]?)->cs.drop o=R9 k ((ys.map (·.1)).flatMap (Hu n)):=by
    intro l
    induction l with
    |nil=>
     intro ys o ho ht2 _ Ss _;have:ys= []:=HW Ss;subst this;have e:=Ca ht2;rw[e,List.drop_length];rfl
    | cons f l ih=>
     intro ys o ho ht2 hf Ss hi
     match ys,Ss with
     |y::ys,Ss=>
     simp only[wN,Bj] at ht2;have e:=Ca ht2.1;have h0:=hi 0 f rfl;obtain⟨g1,g2⟩:=WI (n:=n) (d:=y.1) (p:=y.2) (hf f Jv) (by rw[h0];rfl);rw[e] at g1 g2;have hle:o+P.cellsOf f.type<=cs.length:=by
      rw[Qw,VK] at g2;omega
     have h1:=ih ys (o+P.cellsOf f.type) hle ht2.2 (λg hg=>hf g (MN _ hg)) (by simpa using Ss) (λi g hg=>by have:=hi (i+1) g (by simpa using hg);simpa using this);rw[NM,List.flatMap_cons];unfold R9 at g1 h1 ⊢;rw[List.map_append, <- h1, <- g1, <- List.drop_drop,List.take_append_drop]
   have:=key fs.toList xs 0 (Nat.zero_le _) (by rw[hl];exact hk.1) (λf hf=>Kh.1 hk.2 f hf) (by simpa using hxl) (λi f hf=>hi i f (by simpa using hf));simpa[Hu] using this
  ·rename_i m e ht;simp only[Bj] at hk;obtain⟨xs,m',rfl,hx,hl,hxl,hi⟩:=DataW.trod_array ht h;simp only[Prod.mk.injEq] at hx;rw[hx.1];refine⟨?_,hl⟩;have hc:=Ca hk.1;have key:∀(ys:List (DataW H×List MemPlace)) (j:Nat),j+ys.length=m->(∀i,i<ys.length->DataW.trod enc P w FY sp held m' e ((cs.drop ((j+i)*P.cellsOf e)).take (P.cellsOf e))=ys[i]?)->cs.drop (j*P.cellsOf e)=R9 k ((ys.map (·.1)).flatMap (Hu n)):=by
    intro ys
    induction ys with
    |nil=>
     intro j nB _;have:j=m:=by simpa using nB
     rw[this, <- hc, <- hl,List.drop_length];rfl
    |cons y ys ih=>
     intro j nB hi;have h0:=hi 0 (by simp);obtain⟨g1,g2⟩:=WI (n:=n) (d:=y.1) (p:=y.2) hk.2 (by rw[QO] at h0;rw[h0];rfl);have h1:=ih (j+1) (by simp at nB;omega) (λi h=>by have:=hi (i+1) (by simp;omega);rw[show j+1+i=j+(i+1) by omega];simpa using this);rw[NM,List.flatMap_cons];unfold R9 at g1 h1 ⊢;rw[List.map_append, <- h1, <- g1,Nat.succ_mul, <- List.drop_drop,List.take_append_drop]
   have:=key xs 0 (by simpa using hxl) (λi h=>by rw[KN];exact hi i (by omega));simpa[Hu] using this
  ·cases hk
end
section
variable{P:Program}{k:IntKind}{W:World}
theorem Wm{name:String}{d:DataW Unit}{laid:List (String×DataW Unit)}{g n:Nat}{t:TypeId}(hg:P.globalNamed name=some g)(hty:(P.globals[g]?).map (·.type)=some t)(hf:Xv P k n t=true)
  (h:laidMet P laid W) (hm:(name,d)∈laid):∀i,i<P.cellsOf t->W.cell? ⟨g,i,none⟩=some (.int k ((Hu n d).getD i 0)):=by
 obtain⟨ps,h1,hnd,aaC⟩:=h;clear hnd aaC
 induction laid generalizing ps with
 |nil=>cases hm
 | cons x r ih=>
  obtain⟨nm,d'⟩:=x;obtain⟨g',t',cs,fuel,p,q,e1,e2,e3,e4,e5,e6⟩:=h1;rcases G9.1 hm with he|hm
  ·simp only[Prod.mk.injEq] at he;obtain⟨rfl,rfl⟩:=he;rw[hg] at e1;cases e1;rw[hty] at e2;cases e2;obtain⟨g1,g2⟩:=WI hf e4;intro i hi;rw[World.var?_cell hg e3 i];have:cs[i]? = (R9 k (Hu n d))[i]? := by rw[<- g1];simp
   rw[this];have hl:i<(Hu n d).length:=by
    have:(R9 k (Hu n d)).length=P.cellsOf t:=by rw[<- g1];exact g2
    simpa[R9] using(by omega:i<(R9 k (Hu n d)).length)
   simp[R9,List.getD,hl]
  ·exact ih hm q e5
theorem jv{name:String}{d:DataW Unit}{laid:List (String×DataW Unit)}{g n:Nat}{t:TypeId}(hg:P.globalNamed name=some g)(hty:(P.globals[g]?).map (·.type)=some t)(hf:Xv P k n t=true)
  (h:laidMet P laid W) (hm:(name,d)∈laid):W.var? P name=some (R9 k (Hu n d)).toArray:=by
 obtain⟨ps,h1,hnd,aaC⟩:=h;clear hnd aaC
 induction laid generalizing ps with
 |nil=>cases hm
 | cons x r ih=>
  obtain⟨nm,d'⟩:=x;obtain⟨g',t',cs,fuel,p,q,e1,e2,e3,e4,e5,e6⟩:=h1;rcases G9.1 hm with he|hm
  ·simp only[Prod.mk.injEq] at he;obtain⟨rfl,rfl⟩:=he;rw[hg] at e1;cases e1;rw[hty] at e2;cases e2;obtain⟨g1,_⟩:=WI hf e4;rw[e3, <- g1]
  ·exact ih hm q e5
theorem Vv{name:String}{d:DataW Unit}{laid:List (String×DataW Unit)}{g n:Nat}{t e:TypeId}(hg:P.globalNamed name=some g)(hty:(P.globals[g]?).map (·.type)=some t)(ht:P.underlying t=some (.pointer e))(hf:Xv P k n e=true)(h0:0<P.cellsOf e)
  (h:laidMet P laid W) (hm:(name,.ptr d)∈laid):∃b o,W.cell? ⟨g,0,none⟩=some (.pointer (some ⟨b,o,none⟩))/\∀i,i<P.cellsOf e->W.cell? ⟨b,o+i,none⟩=some (.int k ((Hu n d).getD i 0)):=by
 obtain⟨ps,h1,hnd,aaC⟩:=h;clear hnd aaC
 induction laid generalizing ps with
 |nil=>cases hm
 | cons x r ih=>
  obtain⟨nm,d'⟩:=x;obtain⟨g',t',cs,fuel,p,q,e1,e2,e3,e4,e5,e6⟩:=h1;rcases G9.1 hm with he|hm
  ·simp only[Prod.mk.injEq] at he;obtain⟨rfl,rfl⟩:=he;rw[hg] at e1;cases e1;rw[hty] at e2;cases e2;rcases DataW.trod_pointer ht e4 with⟨_,hx⟩|⟨a,uc,y,m,_,f2,f3,f4,f5⟩
   ·simp at hx
   ·simp only[Prod.mk.injEq,DataW.ptr.injEq] at f3;obtain⟨g1,g2⟩:=WI (d:=y.1) (p:=y.2) hf f5;have hc:=(World.cells?_some f4).2.2;have hl:(R9 k (Hu n d)).length=P.cellsOf e:=by rw[f3.1, <- g1];exact g2
    have e7:uc=R9 k (Hu n d):=by rw[f3.1];exact g1
    subst e7;have hc2:∀i,i<P.cellsOf e->W.cell? (a.add i)=some (.int k ((Hu n d).getD i 0)):=λi hi=>by
     rw[hc i hi];have DM:i<(Hu n d).length:=by simpa[R9] using(by omega:i<(R9 k (Hu n d)).length)
     simp[R9,List.getD,DM]
    have Mp:=World.cell?_spot (hc2 0 h0);obtain⟨b,o,s⟩:=a;have hs:s=none:=by simpa[Addr.add] using Mp
    subst hs;refine⟨b,o,?_,λi hi=>?_⟩
    ·rw[World.var?_cell hg e3 0];have:cs[0]? = cs.toList[0]? := by simp
     rw[this,f2];rfl
    ·have:=hc2 i hi;rwa [Addr.add_lit] at this
  ·exact ih hm q e5
end
end
section
open Go Go.RowKit Go.ChangeShapes Go.WideShapes
section
variable{H:Type}{enc:TypeId×Value->H}{P:Program}
def ak(P:Program)(t:TypeId):Bool:=P.readableRec t&&Nat.blt t P.types.size
def uy(P:Program)(ns:List String):Bool:=ns.all λn=>match P.globalNamed n with
 |some g=>(match (P.globals[g]?).map (·.type) with
  |some t=>ak P t
  |none=>true)
 |none=>true
theorem fJ{t:TypeId}(h:ak P t=true):P.readableRec t=true/\t<P.types.size:=by
 unfold ak at h;simp only[Bj] at h;exact⟨h.1,Nat.lt_of_succ_le (Kv h.2)⟩
theorem dn(hl:laidOutB P=true){W W':World}(hb:Below W.heap.size W W'){sp:Nat->Bool}:∀ {ts:List TypeId} {vs:List Value} {ds:List (DataW H)} {p:List MemPlace},ts.all (ak P)=true->DataW.TrodAll enc P W 0 (λ_=>true) true ts vs ds p->
  (∀x∈p,x.block<W.heap.size)->(∀x∈p,sp x.block=true)->DataW.TrodAll enc P W' 0 sp true ts vs ds p
 | [],vs,ds,p,_,h,_,_=>by
  cases vs<;>cases ds<;>first|exact h|exact absurd h (by intro h;cases h)
 |t::ts,vs,ds,p,ht,h,bj,hs=>by
  obtain⟨v,vs',d,ds',p',q',rfl,rfl,rfl,hd,aaC⟩:=trodAll_cons h;simp only[List.all_cons,Bj] at ht;obtain⟨r1,r2⟩:=fJ ht.1;refine trodAll_cons_mk (WideElems.Trod_stays hl r1 r2 hd (λx hx=>hb.same (bj x (List.mem_append_left _ hx))) (λx hx=>hs x (List.mem_append_left _ hx))) ?_;exact dn hl hb ht.2 aaC (λx hx=>bj x (kv _ hx)) (λx hx=>hs x (kv _ hx))
theorem fK(hl:laidOutB P=true){W W':World}(hb:Below W.heap.size W W'){sp:Nat->Bool}:∀ {ns:List String} {gs:List (DataW H)} {p:List MemPlace},uy P ns=true->DataW.TrodVars enc P W (λ_=>true) ns gs p->
  (∀x∈p,x.block<W.heap.size)->(∀x∈p,sp x.block=true)->DataW.TrodVars enc P W' sp ns gs p
 | [],gs,p,_,h,_,_=>by
  cases gs
  ·exact h
  ·exact absurd h (by intro h;cases h)
 |n::ns,[],p,_,h,_,_=>absurd h (by intro h;cases h)
 | n::ns,d::gs,p,hv,h,bj,hs=>by
  obtain⟨g,t,cs,fuel,p1,q,h1,h2,h3,h4,h5,rfl⟩:=h;simp only[uy,List.all_cons,Bj,h1,h2] at hv;obtain⟨r1,r2⟩:=fJ hv.1;refine⟨g,t,cs,fuel,p1,q,h1,h2,?_,?_,?_,rfl⟩
  ·have hg:g<W.heap.size:=by
    simp only[World.var?,h1,Option.bind_some] at h3;rcases kz g W.heap.size with h|h
    ·exact h
    ·simp[uM h] at h3
   simp only[World.var?,h1,Option.bind_some] at h3 ⊢;rw[hb.block g hg];exact h3
  ·have eE:∀x∈p1,x∈MemPlace.row ⟨g,0,none⟩ cs.size++p1++q:=λx hx=>List.mem_append_left _ (kv _ hx)
   exact DataW.trod_stays (kids_book hl r1) (book_sized r1) (λh=>by cases h) ⟨r2,book_self t⟩ h4 (λx hx=>hb.same (bj x (eE x hx))) (λx hx=>hs x (eE x hx))
  ·exact fK hl hb hv.2 h5 (λx hx=>bj x (kv _ hx)) (λx hx=>hs x (kv _ hx))
theorem aD{f:Func}{s:ChangeSpec}{W W':World}{args:Array Value}{ds gs:List (DataW H)}{before:List MemPlace}{tb:TypeId}
  (hl:laidOutB P=true) (hps:f.params.toList.all (ak P)=true) (n8:uy P s.vars=true) (hr:f.resultTypes= #[tb]) (htb:P.underlying tb=some .bool)
  (My:s.fn H (ds++gs)= { results:=[.lit (.bool true)],args:=ds,vars:=gs })
  (hW:DataW.Whole enc P f.params.toList s.vars false W args.toList ds gs before) (hb:Below W.heap.size W W'):s.post enc P f false true false false W args (.bool true) W':=by
 have bj:∀p∈before,p.block<W.heap.size:=λp hp=>hW.lt p hp
 have hold:∀p∈before,(λb=>decide (b<W.heap.size)) p.block=true:=λp hp=>by simpa using bj p hp
 have hW':=hW;obtain⟨pa,pv,hA,hV,rfl,hz,hn⟩:=hW;have eS:∀sp:Nat->Bool,(∀p∈pa++pv,sp p.block=true)->DataW.TrodAll enc P W' 0 sp true f.params.toList args.toList (s.fn H (ds++gs)).args pa:=λsp hs=>by
  rw[My];exact dn hl hb hps hA (λx hx=>bj x (List.mem_append_left _ hx)) (λx hx=>hs x (List.mem_append_left _ hx))
 have aes:∀sp:Nat->Bool,(∀p∈pa++pv,sp p.block=true)->DataW.TrodVars enc P W' sp s.vars (s.fn H (ds++gs)).vars pv:=λsp hs=>by
  rw[My];exact fK hl hb n8 hV (λx hx=>bj x (kv _ hx)) (λx hx=>hs x (kv _ hx))
 refine⟨ds,gs,pa++pv,[],pa,pv,hW',?_,eS _ hold,aes _ hold,World.keptBut_mono (λp hp=>⟨hp,Or.inr (qM.1 hp)⟩) (hb.frame (· ∈ pa++pv)),λh=>(by cases h)⟩;rw[My,hr];exact trodAll_mk1 (shut_bool htb true)
end
end
end Go.Proofs.YtkbfdaoohhmgoaaGreatDoor
