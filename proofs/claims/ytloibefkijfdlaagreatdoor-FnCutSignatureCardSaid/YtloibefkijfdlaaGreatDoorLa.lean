/- From the executor's contracts to the kit's words: what was there stays; a slice of bytes that came in. -/
import Derived.Test.YtloibefkijfdlaaGreatDoorDa
import Derived.Below
import Derived.Carry
import Derived.ProofKit
import Derived.WalkKit
import Derived.Shelf.LaysM
import Derived.Shelf.Strconv.Itoa3
import Derived.Test.YtloibefkijfdlaaGreatDoorProg
import Derived.LaidLaws
import Derived.Lib.LaidTab
import Derived.OpenShut
import Derived.ChangeSame
import Derived.ChangeVars
import Derived.WideKeyArgs
import Derived.ChangeBook
namespace Go.Proofs.YtloibefkijfdlaaGreatDoor
section
open Go Go.RowKit Go.ChangeShapes Go.WideShapes
theorem Pf{w w':World}{S:Nat->Nat->Prop}(h:BM w w' S)(hS:∀b o,¬S b o):Below w.heap.size w w':=by
 refine⟨h.2.2.1,h.2.2.2.2,h.2.2.2.1,h.1,λk hk=>?_⟩;obtain⟨y,hy,hb⟩:=h.2.1 k _ (Array.getElem?_eq_getElem hk);rw[hy,Array.getElem?_eq_getElem hk];rcases hb with e|⟨c,c',e,f,h1,h2,h3,h4⟩
 ·rw[e]
 ·rw[h1,h2];have:c'=c:=Array.ext_getElem? λi=>h4 i (hS k i)
  rw[this]
theorem sH{H:Type}{enc:TypeId×Value->H}{P:Program}{W:World}{EC:Nat}{t e:TypeId}{v:Value}{d:DataW H}{p:List MemPlace}(ht:P.underlying t=some (.slice e))(he:P.underlying e=some (.int .u8))(hc:P.cellsOf e=1)
  (cG:Value.okWide P W .any EC t v) (h:DataW.Trod enc P W 0 (λ_=>true) true t v d p):
  (v= .slice none 0 0/\d= .nil/\p= [])\/∃(a:Addr) (n c:Nat) (zs:List Int),v= .slice (some a) n c/\n<=c/\c<=maxLen/\zs.length=c/\d= .slice (lits .u8 (zs.take n)) (lits .u8 (zs.drop n))/\p=MemPlace.row a c/\
   (∀i,i<c->W.cell? (a.add i)=some (.int .u8 (zs.getD i 0)))/\(∀x∈zs,0<=x/\x<=255)/\(0<c->a.spot=none):=by
 obtain⟨a1,len,cap,rfl⟩:=okWide_slice ht cG;obtain⟨fuel,hf⟩:=h;rcases open_ints ht he hc hf with⟨cS,hx⟩|⟨a,avY,aDV,zs,cS,_,hl,hm,hz,hx,cY,hwz⟩
 ·simp only[Value.cells,List.cons.injEq,Value.slice.injEq,and_true] at cS;obtain⟨rfl,rfl,rfl⟩:=cS;simp only[Prod.mk.injEq] at hx;exact .inl ⟨rfl,hx.1,hx.2⟩
 ·simp only[Value.cells,List.cons.injEq,Value.slice.injEq,and_true] at cS;obtain⟨rfl,rfl,rfl⟩:=cS;simp only[Prod.mk.injEq] at hx;simp only[if_true] at hz;refine .inr ⟨a,len,cap,zs,rfl,hl,hm,hz,hx.1,by rw[hx.2,hz],λi hi=>cY i (by omega),λx hx=>?_,λh=>?_⟩
  ·have:=hwz x hx;simpa[Lit.wf,IntKind.min,IntKind.max,IntKind.bits,IntKind.signed] using this
  ·have:=World.cell?_spot (cY 0 (by omega));simpa[Addr.add] using this
theorem AOE{GB:Nat}{w:World}{b o n c g:Nat}{xs:List Int}(hl:xs.length=n)(hc:n<=c)(hx:∀x∈xs,0<=x/\x<=255)(hm:∀i,i<n->w.cell? ⟨b,o+i,none⟩=some (.int .u8 (xs.getD i 0))):
  PM GB w (.sl (List.replicate n .u8) g false) (.slice (some ⟨b,o,none⟩) n c) xs (b,o):=by
 refine⟨c,by rw[Qs],by rw[Qs];exact hc,⟨⟨by rw[Qs];exact hl,λi k x hk sX=>?_⟩,λi k x hk sX=>?_⟩,λh=>(by cases h)⟩
 ·have oX:=Hj.1 (Le hk);rw[oX.2];have:=hx x (Le sX);exact⟨this.1,this.2⟩
 ·have oX:=Hj.1 (Le hk);rw[oX.2];have hi:i<n:=by have:=(OQ.1 sX).1;omega
  refine⟨?_,λh=>(by cases h)⟩;show w.cell? ⟨b,o+i,none⟩=_;rw[hm i hi,List.getD,sX];rfl
end
section
open Go
def Ta(f:Nat->Value)(t:Nat)(v:Value):Nat->Value:=λu=>bif Nat.beq t u then v else f u
structure Fr (a:Act) (n:Nat) (f:Nat->Value):Prop where
 sz:a.tmps.size=n
 df:a.defers= []
 tm:∀t,a.tmps.getD t undef=f t
variable{P:Program}{ops:Array Oper}{Q:Exit->Act->World->Prop}{rest:List Oper}{a:Act}{w:World}{n:Nat}{f:Nat->Value}
theorem jM{t:Nat}{v:Value}:Ta f t v t=v:=by simp[Ta]
theorem Oa{t u:Nat}{v:Value}(h:t≠u):Ta f t v u=f u:=by
 unfold Ta;cases hb:Nat.beq t u with
 |true=>exact absurd (CR hb) h
 |false=>rfl
theorem Fr.put(F:Fr a n f){t:Nat}(ht:Nat.blt t n=true)(v:Value):Fr (a.put (some t) v) n (Ta f t v):=by
 have cf:t<a.tmps.size:=by rw[F.sz];exact MQ ht
 refine⟨by rw[OM];exact F.sz,by rw[SQ];exact F.df,λu=>?_⟩;rw[VU cf];by_cases h:t=u
 ·subst h;rw[if_pos rfl,jM]
 ·rw[if_neg h,Oa h];exact F.tm u
theorem Fr.akv(F:Fr a n f)(v:Value):Fr (a.put none v) n f:=F
theorem Fr.nB(F:Fr a n f){t:Nat}{v:Value}(h:f t=v):Fr a n (Ta f t v):=⟨F.sz,F.df,λu=>by
 by_cases e:t=u
 ·subst e;rw[jM,F.tm,h]
 ·rw[Oa e];exact F.tm u⟩
theorem Fr.ev(F:Fr a n f){t:Nat}{v:Value}(h:f t=v):a.eval (.tmp t)=v:=(F.tm t).trans h
def fr0:List Value->Nat->Value
 | [],_=>undef
 |v::_,0=>v
 |_::r,n+1=>fr0 r n
theorem ABp:∀(l:List Value) (t:Nat),l.getD t undef=fr0 l t
 | [],t=>by simp[fr0]
 |v::r,0=>rfl
 |v::r,t+1=>by simpa[fr0] using ABp r t
theorem Fr.enter(args:List Value)(m:Nat):Fr { tmps:=args.toArray++Array.replicate (m-args.length) undef,defers:=[] } (args.length+(m-args.length)) (fr0 args):=by
 refine⟨by simp,rfl,λt=>?_⟩;rw[<- ABp];simp only[Ti,List.getD];by_cases h:t<args.length
 ·rw[Array.getElem?_append_left (by simpa using h)];simp
 ·rw[Array.getElem?_append_right (by simpa using h),List.getElem?_eq_none (by omega),Array.getElem?_replicate];split<;>rfl
theorem jY{o:Oper}{t:Nat}{v:Value}{w':World}(F:Fr a n f)(hg:o.guard=none)(hd:o.dst=some t)(ht:Nat.blt t n=true)(h:(execOp a.eval o).run P w= .ok (.value v) w')(hn:∀a',Fr a' n (Ta f t v)->wpList P ops Q rest a' w'):wpList P ops Q (o::rest) a w:=
 wpList_plain hg λK hK=>by
  unfold Oper.wp;rw[h];show K (a.put o.dst v) w';refine hK _ _ (hn _ ?_);rw[hd];exact F.put ht v
theorem K9{o:Oper}{w':World}(F:Fr a n f)(hg:o.guard=none)(hd:o.dst=none)(h:(execOp a.eval o).run P w= .ok .skip w')(hn:∀a',Fr a' n f->wpList P ops Q rest a' w'):wpList P ops Q (o::rest) a w:=
 wpList_plain hg λK hK=>by
  unfold Oper.wp;rw[h];show K (a.put o.dst undef) w';refine hK _ _ (hn _ ?_);rw[hd];exact F.akv undef
theorem AKz{o:Oper}{t g:Nat}{vs:Array Value}{w0:World}{R:Ending->World->Prop}(F:Fr a n f)(hg:o.guard=none)(hd:o.dst=some t)(ht:Nat.blt t n=true)(h:(execOp a.eval o).run P w= .ok (.enter g vs) w0)(hc:Calls P g vs w0 R)
  (hn:∀e w',R e w'->∃v,e= .returned v/\∀a',Fr a' n (Ta f t v)->wpList P ops Q rest a' w'):wpList P ops Q (o::rest) a w:=
 wpList_plain hg λK hK=>by
  unfold Oper.wp;rw[h];show Calls P g vs w0 _;refine hc.mono λe w' hR=>?_
  obtain⟨v,rfl,hv⟩:=hn e w' hR;show K (a.put o.dst v) w';refine hK _ _ (hv _ ?_);rw[hd];exact F.put ht v
theorem EM(h:Q .normal a w):wpList P ops Q [] a w:=h
theorem cE{id:Nat}{l:List Oper}(h:wpList P l.toArray Q l a w):(Code.region id l.toArray false).wp P Q a w:=wp_region_lit h
theorem enter{g:Nat}{fn:Func}{c:Code}{args:List Value}{R:Ending->World->Prop}(hf:P.funcs[g]? = some fn)(hb:fn.body=some c)(hn:args.length+(fn.ntmps-args.length)=n)
  (h:∀a,Fr a n (fr0 args)->c.wp P (bodyPost P fn R) a w):Calls P g args.toArray w R:=by
 refine calls_of_wp hf hb ?_;have:=h _ (hn ▸ Fr.enter args fn.ntmps);simpa using this
section
variable {P : Program} {ops : Array Oper} {Q : Exit -> Act -> World -> Prop} {rest : List Oper} {a : Act} {w : World} {n : Nat} {f : Nat -> Value}
theorem Fr.e {t : Nat} (F : Fr a n f) : a.eval (.tmp t) = f t := F.ev rfl
theorem AZ {o : Oper} {t : Nat} {v : Value} {w' : World} (F : Fr a n f) (hg : (o.guard,o.dst,Nat.blt t n) = (none,some t,true)) (h : (execOp a.eval o).run P w = .ok (.value v) w') (hn : ∀a',Fr a' n (Ta f t v) -> wpList P ops Q rest a' w') : wpList P ops Q (o :: rest) a w := by
 simp only[Prod.mk.injEq] at hg;exact jY F hg.1 hg.2.1 hg.2.2 h hn
theorem DI {o : Oper} {t g : Nat} {vs : Array Value} {w0 : World} {R : Ending -> World -> Prop} (F : Fr a n f) (hg : (o.guard,o.dst,Nat.blt t n) = (none,some t,true)) (h : (execOp a.eval o).run P w = .ok (.enter g vs) w0) (hc : Calls P g vs w0 R)
  (hn : ∀e w',R e w' -> ∃v,e = .returned v /\ ∀a',Fr a' n (Ta f t v) -> wpList P ops Q rest a' w') : wpList P ops Q (o :: rest) a w := by
 simp only[Prod.mk.injEq] at hg;exact AKz F hg.1 hg.2.1 hg.2.2 h hc hn
end
end
end Go.Proofs.YtloibefkijfdlaaGreatDoor
namespace Go.Proofs
open Go.Shelf
def Tryz.laysM171_ren:Go.Shelf.Ren:=⟨fun|171=>82|243=>97|246=>123|283=>164|284=>165|285=>166|286=>167|129=>203|317=>202|318=>204|319=>205|320=>206|337=>213|338=>214|n=>n,fun|3=>3|9=>9|2=>2|4=>4|171=>206|0=>0|53=>50|37=>22|5=>5|173=>208|212=>246|51=>247|20=>20|213=>248|46=>131|232=>48|233=>137|n=>n,fun|17=>7|18=>8|19=>9|n=>n⟩
theorem Tryz.laysM171:Go.Proofs.LaysM.n171 Tryz.prog Tryz.laysM171_ren:= {
 mixed:=by kernel_rfl
 f129:=Tryz.func203.trans (congrArg some (by kernel_rfl))
 f171:=Tryz.func82.trans (congrArg some (by kernel_rfl))
 f243:=Tryz.func97.trans (congrArg some (by kernel_rfl))
 f246:=Tryz.func123.trans (congrArg some (by kernel_rfl))
 f283:=Tryz.func164.trans (congrArg some (by kernel_rfl))
 f284:=Tryz.func165.trans (congrArg some (by kernel_rfl))
 f285:=Tryz.func166.trans (congrArg some (by kernel_rfl))
 f286:=Tryz.func167.trans (congrArg some (by kernel_rfl))
 f317:=Tryz.func202.trans (congrArg some (by kernel_rfl))
 f318:=Tryz.func204.trans (congrArg some (by kernel_rfl))
 f319:=Tryz.func205.trans (congrArg some (by kernel_rfl))
 f320:=Tryz.func206.trans (congrArg some (by kernel_rfl))
 f337:=Tryz.func213.trans (congrArg some (by kernel_rfl))
 f338:=Tryz.func214.trans (congrArg some (by kernel_rfl))
 t0:=Tryz.underlying0
 a0:=Tryz.isAgg0
 z0:=Tryz.sizeOf0
 v0:=Tryz.zeroValue0
 t2:=Tryz.underlying2
 a2:=Tryz.isAgg2
 z2:=Tryz.sizeOf2
 v2:=Tryz.zeroValue2
 t3:=Tryz.underlying3
 a3:=Tryz.isAgg3
 z3:=Tryz.sizeOf3
 v3:=Tryz.zeroValue3
 t4:=Tryz.underlying4
 a4:=Tryz.isAgg4
 z4:=Tryz.sizeOf4
 v4:=Tryz.zeroValue4
 t5:=Tryz.underlying5
 a5:=Tryz.isAgg5
 z5:=Tryz.sizeOf5
 v5:=Tryz.zeroValue5
 t9:=Tryz.underlying9
 a9:=Tryz.isAgg9
 z9:=Tryz.sizeOf9
 v9:=Tryz.zeroValue9
 t20:=Tryz.underlying20
 a20:=Tryz.isAgg20
 z20:=Tryz.sizeOf20
 v20:=Tryz.zeroValue20
 t37:=Tryz.underlying22
 a37:=Tryz.isAgg22
 z37:=Tryz.sizeOf22
 v37:=Tryz.zeroValue22
 t46:=Tryz.underlying131
 a46:=Tryz.isAgg131
 z46:=Tryz.sizeOf131
 v46:=Tryz.zeroValue131
 t51:=Tryz.underlying247
 a51:=Tryz.isAgg247
 z51:=Tryz.sizeOf247
 v51:=Tryz.zeroValue247
 t53:=Tryz.underlying50
 a53:=Tryz.isAgg50
 z53:=Tryz.sizeOf50
 v53:=Tryz.zeroValue50
 t171:=Tryz.underlying206
 a171:=Tryz.isAgg206
 z171:=Tryz.sizeOf206
 v171:=Tryz.zeroValue206
 t173:=Tryz.underlying208
 a173:=Tryz.isAgg208
 z173:=Tryz.sizeOf208
 v173:=Tryz.zeroValue208
 t212:=Tryz.underlying246
 a212:=Tryz.isAgg246
 z212:=Tryz.sizeOf246
 v212:=Tryz.zeroValue246
 t213:=Tryz.underlying248
 a213:=Tryz.isAgg248
 z213:=Tryz.sizeOf248
 t232:=Tryz.underlying48
 a232:=Tryz.isAgg48
 z232:=Tryz.sizeOf48
 v232:=Tryz.zeroValue48
 t233:=Tryz.underlying137
 a233:=Tryz.isAgg137
 z233:=Tryz.sizeOf137
 v233:=Tryz.zeroValue137
 g17:=by kernel_rfl
 g18:=by kernel_rfl
 g19:=by kernel_rfl
 i0:=by kernel_rfl
 i2:=by kernel_rfl
 i3:=by kernel_rfl
 i4:=by kernel_rfl
 i5:=by kernel_rfl
 i9:=by kernel_rfl
 i20:=by kernel_rfl
 i37:=by kernel_rfl
 i46:=by kernel_rfl
 i51:=by kernel_rfl
 i53:=by kernel_rfl
 i171:=by kernel_rfl
 i173:=by kernel_rfl
 i212:=by kernel_rfl
 i232:=by kernel_rfl
 i233:=by kernel_rfl
 m17:=by kernel_rfl
 m18:=by kernel_rfl
 m19:=by kernel_rfl }
open Go.RowKit Go.Sort Go.Lib in
theorem Tryz.strconv_Itoa (n:Int) (h0: -9223372036854775808≤n) (h1:n≤9223372036854775807) (w:World) (htab:Lib.TabIs Tryz.prog w "internal/strconv.uint64pow10" .u64 Lib.pow10Tab):
  Calls Tryz.prog 82 #[.int .i64 n] w fun e w'=>e= .returned (.string ⟨(Lib.itoa n).toArray⟩)∧∃ k os,w'=grow (w.drewN k) os:=Any.strconv_Itoa Tryz.laysM171 n h0 h1 w htab
end Go.Proofs
namespace Go.Proofs.YtloibefkijfdlaaGreatDoor
section
open Go
def Gv{H:Type}:Nat->DataW H->List Int
 |0,_=>[]
 |n+1,d=>match d with
  | .lit (.int _ x)=>[x]
  | .agg ds=>ds.flatMap (Gv n)
  |_=>[]
def vQ(P:Program):Nat->List Field->Nat->Bool
 |o,[],c=>Nat.beq o c
 |o,f::fs,c=>Nat.beq f.offset o&&vQ P (o+P.cellsOf f.type) fs c
def XJ(P:Program)(k:IntKind):Nat->TypeId->Bool
 |0,_=>false
 |n+1,t=>match P.underlying t with
  |some (.int k')=>decide (k'=k)&&Nat.beq (P.cellsOf t) 1
  |some (.struct fs)=>vQ P 0 fs.toList (P.cellsOf t)&&fs.toList.all λf=>XJ P k n f.type
  |some (.array m e)=>Nat.beq (P.cellsOf t) (m*P.cellsOf e)&&XJ P k n e
  |_=>false
def Px(k:IntKind)(l:List Int):List Value:=l.map λz=>.int k z
section
variable{H:Type}{enc:TypeId×Value->H}{P:Program}{k:IntKind}{w:World}{EC:Nat}{sp:Nat->Bool}{held:Bool}
theorem Uo:∀ {n:Nat} {t:TypeId} {fuel:Nat} {cs:List Value} {d:DataW H} {p:List MemPlace},XJ P k n t=true->DataW.trod enc P w EC sp held fuel t cs=some (d,p)->cs=Px k (Gv n d)/\cs.length=P.cellsOf t
 |0,t,fuel,cs,d,p,hk,h=>by cases hk
 | n + 1,t,fuel,cs,d,p,hk,h=>by
  unfold XJ at hk;split at hk
  ·rename_i k' ht;simp only[Bl,decide_eq_true_eq] at hk;obtain⟨rfl,hk⟩:=hk;obtain⟨z,rfl,hx,_⟩:=DataW.trod_int ht h;simp only[Prod.mk.injEq] at hx;rw[hx.1,CR hk];exact⟨rfl,rfl⟩
  ·rename_i fs ht;simp only[Bl] at hk;obtain⟨xs,m,rfl,hx,hl,hxl,hi⟩:=DataW.trod_struct ht h;simp only[Prod.mk.injEq] at hx;rw[hx.1];refine⟨?_,hl⟩;have key:∀(l:List Field) (ys:List (DataW H×List MemPlace)) (o:Nat),o<=cs.length->vQ P o l cs.length=true->(∀f∈l,XJ P k n f.type=true)->ys.length=l.length->
     (∀(i:Nat) (f:Field),l[i]? = some f->DataW.trod enc P w EC sp held m f.type ((cs.drop f.offset).take (P.cellsOf f.type))=ys[i]?)->cs.drop o=Px k ((ys.map (·.1)).flatMap (Gv n)):=by
    intro l
    induction l with
    |nil=>
     intro ys o ho ht2 _ SP _;have:ys= []:=I3 SP;subst this;have e:=CR ht2;rw[e,List.drop_length];rfl
    | cons f l ih=>
     intro ys o ho ht2 hf SP hi
     match ys,SP with
     |y::ys,SP=>
     simp only[vQ,Bl] at ht2;have e:=CR ht2.1;have h0:=hi 0 f rfl;obtain⟨g1,g2⟩:=Uo (n:=n) (d:=y.1) (p:=y.2) (hf f Kh) (by rw[h0];rfl);rw[e] at g1 g2;have hle:o+P.cellsOf f.type<=cs.length:=by
      rw[Rk,Uj] at g2;omega
     have h1:=ih ys (o+P.cellsOf f.type) hle ht2.2 (λg hg=>hf g (Lv _ hg)) (by simpa using SP) (λi g hg=>by have:=hi (i+1) g (by simpa using hg);simpa using this);rw[NE,List.flatMap_cons];unfold Px at g1 h1 ⊢;rw[List.map_append, <- h1, <- g1, <- List.drop_drop,List.take_append_drop]
   have:=key fs.toList xs 0 (Nat.zero_le _) (by rw[hl];exact hk.1) (λf hf=>Mx.1 hk.2 f hf) (by simpa using hxl) (λi f hf=>hi i f (by simpa using hf));simpa[Gv] using this
  ·rename_i m e ht;simp only[Bl] at hk;obtain⟨xs,m',rfl,hx,hl,hxl,hi⟩:=DataW.trod_array ht h;simp only[Prod.mk.injEq] at hx;rw[hx.1];refine⟨?_,hl⟩;have hc:=CR hk.1;have key:∀(ys:List (DataW H×List MemPlace)) (j:Nat),j+ys.length=m->(∀i,i<ys.length->DataW.trod enc P w EC sp held m' e ((cs.drop ((j+i)*P.cellsOf e)).take (P.cellsOf e))=ys[i]?)->cs.drop (j*P.cellsOf e)=Px k ((ys.map (·.1)).flatMap (Gv n)):=by
    intro ys
    induction ys with
    |nil=>
     intro j oX _;have:j=m:=by simpa using oX
     rw[this, <- hc, <- hl,List.drop_length];rfl
    |cons y ys ih=>
     intro j oX hi;have h0:=hi 0 (by simp);obtain⟨g1,g2⟩:=Uo (n:=n) (d:=y.1) (p:=y.2) hk.2 (by rw[P5] at h0;rw[h0];rfl);have h1:=ih (j+1) (by simp at oX;omega) (λi h=>by have:=hi (i+1) (by simp;omega);rw[show j+1+i=j+(i+1) by omega];simpa using this);rw[NE,List.flatMap_cons];unfold Px at g1 h1 ⊢;rw[List.map_append, <- h1, <- g1,Nat.succ_mul, <- List.drop_drop,List.take_append_drop]
   have:=key xs 0 (by simpa using hxl) (λi h=>by rw[Km];exact hi i (by omega));simpa[Gv] using this
  ·cases hk
end
section
variable{P:Program}{k:IntKind}{W:World}
theorem PX{name:String}{d:DataW Unit}{laid:List (String×DataW Unit)}{g n:Nat}{t:TypeId}(hg:P.globalNamed name=some g)(hty:(P.globals[g]?).map (·.type)=some t)(hf:XJ P k n t=true)
  (h:laidMet P laid W) (hm:(name,d)∈laid):∀i,i<P.cellsOf t->W.cell? ⟨g,i,none⟩=some (.int k ((Gv n d).getD i 0)):=by
 obtain⟨ps,h1,X2,aaM⟩:=h;clear X2 aaM
 induction laid generalizing ps with
 |nil=>cases hm
 | cons x r ih=>
  obtain⟨nm,d'⟩:=x;obtain⟨g',t',cs,fuel,p,q,e1,e2,e3,e4,e5,e6⟩:=h1;rcases IR.1 hm with he|hm
  ·simp only[Prod.mk.injEq] at he;obtain⟨rfl,rfl⟩:=he;rw[hg] at e1;cases e1;rw[hty] at e2;cases e2;obtain⟨g1,g2⟩:=Uo hf e4;intro i hi;rw[World.var?_cell hg e3 i];have:cs[i]? = (Px k (Gv n d))[i]? := by rw[<- g1];simp
   rw[this];have hl:i<(Gv n d).length:=by
    have:(Px k (Gv n d)).length=P.cellsOf t:=by rw[<- g1];exact g2
    simpa[Px] using(by omega:i<(Px k (Gv n d)).length)
   simp[Px,List.getD,hl]
  ·exact ih hm q e5
theorem Td{name:String}{d:DataW Unit}{laid:List (String×DataW Unit)}{g n:Nat}{t:TypeId}(hg:P.globalNamed name=some g)(hty:(P.globals[g]?).map (·.type)=some t)(hf:XJ P k n t=true)
  (h:laidMet P laid W) (hm:(name,d)∈laid):W.var? P name=some (Px k (Gv n d)).toArray:=by
 obtain⟨ps,h1,X2,aaM⟩:=h;clear X2 aaM
 induction laid generalizing ps with
 |nil=>cases hm
 | cons x r ih=>
  obtain⟨nm,d'⟩:=x;obtain⟨g',t',cs,fuel,p,q,e1,e2,e3,e4,e5,e6⟩:=h1;rcases IR.1 hm with he|hm
  ·simp only[Prod.mk.injEq] at he;obtain⟨rfl,rfl⟩:=he;rw[hg] at e1;cases e1;rw[hty] at e2;cases e2;obtain⟨g1,_⟩:=Uo hf e4;rw[e3, <- g1]
  ·exact ih hm q e5
theorem Vi{name:String}{d:DataW Unit}{laid:List (String×DataW Unit)}{g n:Nat}{t e:TypeId}(hg:P.globalNamed name=some g)(hty:(P.globals[g]?).map (·.type)=some t)(ht:P.underlying t=some (.pointer e))(hf:XJ P k n e=true)(h0:0<P.cellsOf e)
  (h:laidMet P laid W) (hm:(name,.ptr d)∈laid):∃b o,W.cell? ⟨g,0,none⟩=some (.pointer (some ⟨b,o,none⟩))/\∀i,i<P.cellsOf e->W.cell? ⟨b,o+i,none⟩=some (.int k ((Gv n d).getD i 0)):=by
 obtain⟨ps,h1,X2,aaM⟩:=h;clear X2 aaM
 induction laid generalizing ps with
 |nil=>cases hm
 | cons x r ih=>
  obtain⟨nm,d'⟩:=x;obtain⟨g',t',cs,fuel,p,q,e1,e2,e3,e4,e5,e6⟩:=h1;rcases IR.1 hm with he|hm
  ·simp only[Prod.mk.injEq] at he;obtain⟨rfl,rfl⟩:=he;rw[hg] at e1;cases e1;rw[hty] at e2;cases e2;rcases DataW.trod_pointer ht e4 with⟨_,hx⟩|⟨a,vl,y,m,_,f2,f3,f4,f5⟩
   ·simp at hx
   ·simp only[Prod.mk.injEq,DataW.ptr.injEq] at f3;obtain⟨g1,g2⟩:=Uo (d:=y.1) (p:=y.2) hf f5;have hc:=(World.cells?_some f4).2.2;have hl:(Px k (Gv n d)).length=P.cellsOf e:=by rw[f3.1, <- g1];exact g2
    have e7:vl=Px k (Gv n d):=by rw[f3.1];exact g1
    subst e7;have Dd:∀i,i<P.cellsOf e->W.cell? (a.add i)=some (.int k ((Gv n d).getD i 0)):=λi hi=>by
     rw[hc i hi];have Of:i<(Gv n d).length:=by simpa[Px] using(by omega:i<(Px k (Gv n d)).length)
     simp[Px,List.getD,Of]
    have G0:=World.cell?_spot (Dd 0 h0);obtain⟨b,o,s⟩:=a;have hs:s=none:=by simpa[Addr.add] using G0
    subst hs;refine⟨b,o,?_,λi hi=>?_⟩
    ·rw[World.var?_cell hg e3 0];have:cs[0]? = cs.toList[0]? := by simp
     rw[this,f2];rfl
    ·have:=Dd i hi;rwa [Addr.add_lit] at this
  ·exact ih hm q e5
end
end
section
open Go Go.RowKit Go.ChangeShapes Go.WideShapes
section
variable{H:Type}{enc:TypeId×Value->H}{P:Program}
def YL(P:Program)(t:TypeId):Bool:=P.readableRec t&&Nat.blt t P.types.size
def nT(P:Program)(ns:List String):Bool:=ns.all λn=>match P.globalNamed n with
 |some g=>(match (P.globals[g]?).map (·.type) with
  |some t=>YL P t
  |none=>true)
 |none=>true
theorem aV{t:TypeId}(h:YL P t=true):P.readableRec t=true/\t<P.types.size:=by
 unfold YL at h;simp only[Bl] at h;exact⟨h.1,Nat.lt_of_succ_le (MQ h.2)⟩
theorem au(hl:laidOutB P=true){W W':World}(hb:Below W.heap.size W W'){sp:Nat->Bool}:∀ {ts:List TypeId} {vs:List Value} {ds:List (DataW H)} {p:List MemPlace},ts.all (YL P)=true->DataW.TrodAll enc P W 0 (λ_=>true) true ts vs ds p->
  (∀x∈p,x.block<W.heap.size)->(∀x∈p,sp x.block=true)->DataW.TrodAll enc P W' 0 sp true ts vs ds p
 | [],vs,ds,p,_,h,_,_=>by
  cases vs<;>cases ds<;>first|exact h|exact absurd h (by intro h;cases h)
 |t::ts,vs,ds,p,ht,h,cf,hs=>by
  obtain⟨v,vs',d,Fc,p',q',rfl,rfl,rfl,hd,aaM⟩:=trodAll_cons h;simp only[List.all_cons,Bl] at ht;obtain⟨r1,r2⟩:=aV ht.1;refine trodAll_cons_mk (WideElems.Trod_stays hl r1 r2 hd (λx hx=>hb.same (cf x (List.mem_append_left _ hx))) (λx hx=>hs x (List.mem_append_left _ hx))) ?_;exact au hl hb ht.2 aaM (λx hx=>cf x (iB _ hx)) (λx hx=>hs x (iB _ hx))
theorem aO(hl:laidOutB P=true){W W':World}(hb:Below W.heap.size W W'){sp:Nat->Bool}:∀ {ns:List String} {gs:List (DataW H)} {p:List MemPlace},nT P ns=true->DataW.TrodVars enc P W (λ_=>true) ns gs p->
  (∀x∈p,x.block<W.heap.size)->(∀x∈p,sp x.block=true)->DataW.TrodVars enc P W' sp ns gs p
 | [],gs,p,_,h,_,_=>by
  cases gs
  ·exact h
  ·exact absurd h (by intro h;cases h)
 |n::ns,[],p,_,h,_,_=>absurd h (by intro h;cases h)
 | n::ns,d::gs,p,hv,h,cf,hs=>by
  obtain⟨g,t,cs,fuel,p1,q,h1,h2,h3,h4,h5,rfl⟩:=h;simp only[nT,List.all_cons,Bl,h1,h2] at hv;obtain⟨r1,r2⟩:=aV hv.1;refine⟨g,t,cs,fuel,p1,q,h1,h2,?_,?_,?_,rfl⟩
  ·have hg:g<W.heap.size:=by
    simp only[World.var?,h1,Option.bind_some] at h3;rcases nE g W.heap.size with h|h
    ·exact h
    ·simp[ut h] at h3
   simp only[World.var?,h1,Option.bind_some] at h3 ⊢;rw[hb.block g hg];exact h3
  ·have eC:∀x∈p1,x∈MemPlace.row ⟨g,0,none⟩ cs.size++p1++q:=λx hx=>List.mem_append_left _ (iB _ hx)
   exact DataW.trod_stays (kids_book hl r1) (book_sized r1) (λh=>by cases h) ⟨r2,book_self t⟩ h4 (λx hx=>hb.same (cf x (eC x hx))) (λx hx=>hs x (eC x hx))
  ·exact aO hl hb hv.2 h5 (λx hx=>cf x (iB _ hx)) (λx hx=>hs x (iB _ hx))
theorem Qx{f:Func}{s:ChangeSpec}{W W':World}{args:Array Value}{ds gs:List (DataW H)}{before:List MemPlace}{tb:TypeId}
  (hl:laidOutB P=true) (hps:f.params.toList.all (YL P)=true) (oE:nT P s.vars=true) (hr:f.resultTypes= #[tb]) (htb:P.underlying tb=some .bool)
  (AE:s.fn H (ds++gs)= { results:=[.lit (.bool true)],args:=ds,vars:=gs })
  (hW:DataW.Whole enc P f.params.toList s.vars false W args.toList ds gs before) (hb:Below W.heap.size W W'):s.post enc P f false true false false W args (.bool true) W':=by
 have cf:∀p∈before,p.block<W.heap.size:=λp hp=>hW.lt p hp
 have hold:∀p∈before,(λb=>decide (b<W.heap.size)) p.block=true:=λp hp=>by simpa using cf p hp
 have C5:=hW;obtain⟨pa,pv,hA,hV,rfl,hz,hn⟩:=hW;have fg:∀sp:Nat->Bool,(∀p∈pa++pv,sp p.block=true)->DataW.TrodAll enc P W' 0 sp true f.params.toList args.toList (s.fn H (ds++gs)).args pa:=λsp hs=>by
  rw[AE];exact au hl hb hps hA (λx hx=>cf x (List.mem_append_left _ hx)) (λx hx=>hs x (List.mem_append_left _ hx))
 have ad3:∀sp:Nat->Bool,(∀p∈pa++pv,sp p.block=true)->DataW.TrodVars enc P W' sp s.vars (s.fn H (ds++gs)).vars pv:=λsp hs=>by
  rw[AE];exact aO hl hb oE hV (λx hx=>cf x (iB _ hx)) (λx hx=>hs x (iB _ hx))
 refine⟨ds,gs,pa++pv,[],pa,pv,C5,?_,fg _ hold,ad3 _ hold,World.keptBut_mono (λp hp=>⟨hp,Or.inr (jd.1 hp)⟩) (hb.frame (· ∈ pa++pv)),λh=>(by cases h)⟩;rw[AE,hr];exact trodAll_mk1 (shut_bool htb true)
end
end
end Go.Proofs.YtloibefkijfdlaaGreatDoor
