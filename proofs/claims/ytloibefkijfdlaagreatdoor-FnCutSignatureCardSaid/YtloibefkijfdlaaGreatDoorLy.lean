/- Bytes as a number, reduced: by hand. -/
import Derived.Test.YtloibefkijfdlaaGreatDoorLzx
import Derived.Laws.OwnMore
namespace Go.Proofs.YtloibefkijfdlaaGreatDoor
section
open Go Go.RowKit Go.Lib Ma
section
variable{ρ:Operand->Value}{d:Option Tmp}{x y:Operand}{ty:TypeId}{pos:String}{af:Array Edge}{w:World}{b o:Nat}
theorem uC{n c k:Nat}(h:ρ x= .slice (some ⟨b,o,none⟩) n c)(hy:ρ y= .int .i64 k)(hk:k<n):(execOp ρ ⟨d,.indexAddr 22 x y,ty,pos,af,none⟩).run Tryz.prog w= .ok (.value (.pointer (some ⟨b,o+k,none⟩))) w:=by
 simp[execOp,go_sem,h,hy,hk]
theorem tH{i:Int}(h:ρ x= .pointer (some ⟨b,o,none⟩))(hc:w.cell? ⟨b,o,none⟩=some (.int .u8 i)):(execOp ρ ⟨d,.load 5 x,ty,pos,af,none⟩).run Tryz.prog w= .ok (.value (.int .u8 i)) w:=by
 simp[execOp,go_sem,h,hc]
end
section
variable{GB:Nat}{GC:Nat->Nat->Option Value}{ad:Nat->Nat×Nat}(hG:Gw GB GC ad)
include hG
end
theorem ACa{x:List Int}{i:Nat}(h:i<x.length):Ct (x.drop i)=x.getD i 0+256*Ct (x.drop (i+1)):=by
 rw[List.drop_eq_getElem_cons h];have:x.getD i 0=x[i]:=by simp[List.getD,h]
 rw[this];rfl
structure RJ (GC:Nat->Nat->Option Value) (w:World) (B3 B4 B5 b o n c:Nat) (m x:List Int) (v:Int) (f:Nat->Value) (w':World):Prop where
 f0:f 0= .slice (some ⟨b,o,none⟩) n c
 f3:f 3= .pointer (some ⟨B3,0,none⟩)
 f4:f 4= .pointer (some ⟨B4,0,none⟩)
 f5:f 5= .pointer (some ⟨B5,0,none⟩)
 mo:∃out,AQ true w' (B5,0) U8 out/\N8 out v
 mr:AQ true w' (B4,0) U8 (List.replicate 8 0)
 mm:AQ true w' (B3,0) U8 m
 h8:C8 w' b o x
 fr:BM w w' (λ_ _=>False)
 gw:GW GC w'
theorem C8.ab8{w w':World}{b o B:Nat}{xs:List Int}(h:C8 w b o xs)(hf:BM w w' (λb _=>b=B))(hn:b≠B):C8 w' b o xs:=⟨h.1,λi hi=>(hf.fp (f:=false) ⟨h.2 i hi,λh=>(by cases h)⟩ hn).1⟩
theorem AQ.ro{w:World}{b:Nat×Nat}{ks:List IntKind}{xs:List Int}(h:AQ true w b ks xs):AQ false w b ks xs:=⟨h.1,λi k x hk hx=>⟨(h.2 i k x hk hx).1,λh=>by cases h⟩⟩
end
section
open Go Go.RowKit Go.Lib Ma
theorem Gr(w:World)(o:Obj):(w.alloc o).heap.size=w.heap.size+1:=by unfold World.alloc;exact Array.size_push _
theorem RJ.cT{GC:Nat->Nat->Option Value}{w:World}{B3 B4 B5 b o n c:Nat}{m x:List Int}{v:Int}{f f':Nat->Value}{w':World}(J:RJ GC w B3 B4 B5 b o n c m x v f w')(h0:f' 0=f 0)(h3:f' 3=f 3)(h4:f' 4=f 4)(h5:f' 5=f 5):RJ GC w B3 B4 B5 b o n c m x v f' w':=⟨h0.trans J.f0,h3.trans J.f3,h4.trans J.f4,h5.trans J.f5,J.mo,J.mr,J.mm,J.h8,J.fr,J.gw⟩
end
section
open Go Go.RowKit Go.Lib Ma
theorem Wx.msg{w:World}{B:Nat}{v:Value}{xs:List Int}(h:Wx w B v xs)(hx:∀x∈xs,0<=x/\x<=255):IX w v xs:=by
 rcases Nat.eq_zero_or_pos xs.length with h0|h0
 ·obtain⟨ap,c,hv⟩:=h.sl;rw[h0] at hv;exact IX.nil (I3 h0) hv
 ·obtain⟨b,c,hv,hc,-, -,h8⟩:=uK h h0 hx;rw[hv];exact IX.cR h8 rfl hc
theorem gJ{P:Program}{w:World}{EC:Nat}{t ty e:TypeId}{i:TypeInfo}{size:Nat}(ht:P.underlying t=some (.slice e))(hi:P.info? e=some i){v:Value}{n c:Nat}{xs:List Value}(vt:w.ownsRow EC e size v n xs):
  (Builtin.append_ #[t,t] ty #[v,.slice none 0 c]).run P w= .ok v w:=by
 rcases vt.2 with⟨rfl,rfl⟩|⟨g,cap,cur,rfl,_,_,F2,_⟩
 ·simp[Builtin.append_,run_underlying ht,sizeOf,typeInfo,hi,Builtin.lenOf,Builtin.firstCells]
 ·simp[Builtin.append_,run_underlying ht,sizeOf,typeInfo,hi,Builtin.lenOf,Builtin.firstCells,F2,storeCells]
theorem nD(w:World)(r:Option Nat):w.grownBy w r:=⟨rfl,rfl,rfl,KA _,λ_ _ _=>rfl⟩
theorem AEr{w:World}{B:Nat}{v u:Value}{ty:TypeId}{xs ys:List Int}(vt:Wx w B v xs)(hy:IX w u ys)(hb:xs.length+ys.length<=140737488355328)(hB:B<=w.heap.size):
  ∃v' w',(Builtin.append_ #[22,22] ty #[v,u]).run Tryz.prog w= .ok v' w'/\Wx w' B v' (xs++ys)/\w.grownBy w' v.ownBlock:=by
 obtain⟨i0,hi,hz0,zE,xl⟩:=info_parts i8;obtain⟨ap,c,hv,-,hr,hc⟩:=hy;have hv8:v8 (xs++ys)=v8 xs++v8 ys:=by simp[v8]
 cases ap with
 | none=>
  have h0:ys.length=0:=Nat.eq_zero_of_not_pos λh=>by
   obtain⟨b,o,e,-⟩:=hc h;cases e
  have hy0:ys= []:=I3 h0;subst hy0;rw[hv,Rw];exact⟨v,w,gJ Tryz.underlying22 hi vt,vt,nD w _⟩
 | some ad=>
  have ye:∀j x,(v8 ys)[j]? = some x->w.cell? (ad.add j)=some x:=λj x hj=>by
   have qv:j<ys.length:=by have:=(OQ.1 hj).1;simpa[v8] using this
   obtain⟨b,o,e,-,h8⟩:=hc (by omega);cases e;rw[Addr.add_lit,h8 j qv];have:(v8 ys)[j]? = some (.int .u8 (ys.getD j 0)):=by simp[v8,List.getD,qv]
   rw[this] at hj;exact hj
  obtain⟨v',w',h1,h2,h3,-⟩:=run_append_own (P:=Tryz.prog) w B 22 ty 5 i0 (.int .u8 0) 1 1 Tryz.underlying22 hi hz0 zE xl rfl (by decide) v xs.length (v8 xs) vt ad ys.length c (v8 ys) (by simp[v8]) ye WV (by unfold maxLen;omega) (by omega) hB;rw[hv];refine⟨v',w',h1,?_,h3⟩;show w'.ownsRow B 5 1 v' (xs++ys).length (v8 (xs++ys));rw[MN,hv8];exact h2
section
variable{P:Program}{Q:Exit->Act->World->Prop}{K:Act->World->Prop}{a:Act}{w:World}{n:Nat}{f:Nat->Value}
theorem Rj{o:Oper}{t:Nat}{v:Value}{w':World}(F:Fr a n f)(hd:o.dst=some t)(ht:Nat.blt t n=true)(h:(execOp a.eval o).run P w= .ok (.value v) w')(hn:∀a',Fr a' n (Ta f t v)->K a' w'):o.wp P a w K Q:=by
 unfold Oper.wp;rw[h];show K (a.put o.dst v) w';refine hn _ ?_;rw[hd];exact F.put ht v
theorem fZ{t x:Nat}{ty:TypeId}{pos:String}{af:Array Edge}(F:Fr a n f)(ht:Nat.blt t n=true)(hn:∀a',Fr a' n (Ta f t (f x))->K a' w):(⟨some t,.move (.tmp x),ty,pos,af,none⟩:Oper).wp P a w K Q:=
 Rj F rfl ht (by simp only[execOp,F.ev (t:=x) rfl];rfl) hn
theorem Xf{o:Oper}{t g:Nat}{vs:Array Value}{w0:World}{R:Ending->World->Prop}(F:Fr a n f)(hd:o.dst=some t)(ht:Nat.blt t n=true)(h:(execOp a.eval o).run P w= .ok (.enter g vs) w0)(hc:Calls P g vs w0 R)
  (hn:∀e w',R e w'->∃v,e= .returned v/\∀a',Fr a' n (Ta f t v)->K a' w'):o.wp P a w K Q:=by
 unfold Oper.wp;rw[h];show Calls P g vs w0 _;refine hc.mono λe w' hR=>?_
 obtain⟨v,rfl,hv⟩:=hn e w' hR;show K (a.put o.dst v) w';refine hv _ ?_;rw[hd];exact F.put ht v
theorem pW{t x y B:Nat}{ty:TypeId}{pos:String}{af:Array Edge}{xs ys:List Int}(F:Fr a n f)(ht:Nat.blt t n=true)(vt:Wx w B (f x) xs)(hy:IX w (f y) ys)(hb:xs.length+ys.length<=140737488355328)(hB:B<=w.heap.size)
  (hn:∀v' w' a',Wx w' B v' (xs++ys)->w.grownBy w' (f x).ownBlock->Fr a' n (Ta f t v')->K a' w'):(⟨some t,.call ⟨.builtin .append,#[.tmp x,.tmp y],#[22,22]⟩,ty,pos,af,none⟩:Oper).wp Tryz.prog a w K Q:=by
 obtain⟨v',w',h1,h2,h3⟩:=AEr (ty:=ty) vt hy hb hB;unfold Oper.wp execOp;simp only[resolve,invoke,builtin,IY,KT,Hm,List.map_toArray,NE,Uf,F.ev (t:=x) rfl,F.ev (t:=y) rfl,h1];exact hn v' w' _ h2 h3 (F.put ht v')
theorem fE{ops:Array Oper}{rest:List Oper}{t x y B:Nat}{ty:TypeId}{pos:String}{af:Array Edge}{xs ys:List Int}(F:Fr a n f)(ht:Nat.blt t n=true)(vt:Wx w B (f x) xs)(hy:IX w (f y) ys)(hb:xs.length+ys.length<=140737488355328)(hB:B<=w.heap.size)
  (hn:∀v' w' a',Wx w' B v' (xs++ys)->Below B w w'->Fr a' n (Ta f t v')->wpList Tryz.prog ops Q rest a' w'):wpList Tryz.prog ops Q (⟨some t,.call ⟨.builtin .append,#[.tmp x,.tmp y],#[22,22]⟩,ty,pos,af,none⟩::rest) a w:=
 wpList_plain rfl λ_ hK=>pW F ht vt hy hb hB λv' w' a' h1 h2 h3=>hK _ _ (hn v' w' a' h1 (WY vt h2 hB) h3)
end
section
variable{P:Program}{Q:Exit->Act->World->Prop}
def AA5(l:List Oper):Bool:=l.all λo=>o.guard.isNone
theorem eY{l:List Oper}(h:AA5 l=true){i:Nat}{o:Oper}(ho:l[i]? = some o)(y:Nat->Option Bool):Region.wanted o y=true:=by
 have:=Mx.1 h o (Le ho);have hg:o.guard=none:=by simpa using this
 simp[Region.wanted,hg]
theorem I6{l:List Oper}(hp:AA5 l=true){i:Nat}{o:Oper}(ho:l[i]? = some o){K:Act->World->Prop}{a:Act}{w:World}(h:o.wp P a w K Q):wpOp P l.toArray Q i K a w:=by
 unfold wpOp;have:l.toArray[i]? = some o:=by simpa using ho
 simp only[this];rw[if_pos (eY hp ho _)];exact .inl h
theorem PY{l:List Oper}{N id:Nat}{a:Act}{w:World}(hM:P.follows .mixedOrders=true)(hN:l.length=N)(h:wpAny P .any l.toArray Q N (Array.replicate N false) a { w with drawn:=w.drawn+1 }):(Code.region id l.toArray true).wp P Q a w:=by
 refine wp_region_any hM ?_;have e:l.toArray.size=N:=by simpa using hN
 rw[e];exact h
theorem aT(w:World):BM w { w with drawn:=w.drawn+1 } (λ_ _=>False):=(BM.refl _ _).of_heap rfl rfl rfl rfl
theorem F7{ops:Array Oper}{L:Array Bool}{i F:Nat}{a:Act}{w:World}(hr:Region.ready .any ops L= [i])(h:wpOp P ops Q i (wpAny P .any ops Q F (L.setIfInBounds i true)) a w):wpAny P .any ops Q (F+1) L a w:=
 wpAny_all hr (by simp) λj hj=>by
  rw[NB] at hj;subst hj;exact h
theorem yld{l:List Oper}{o:Oper}{v:Value}{a:Act}(hg:o.guard=none)(h:∀w,(execOp a.eval o).run P w= .ok (.value v) w):Yields P l.toArray o v a:=.inl ⟨by simp[Region.wanted,hg],h⟩
theorem Kq{l:List Oper}{i t n fuel:Nat}{oi:Oper}{v:Value}{L:Array Bool}{a:Act}{w:World}{f:Nat->Value}(hi:l[i]? = some oi)(F:Fr a n f)(hg:oi.guard=none)(hd:oi.dst=some t)(ht:Nat.blt t n=true)
  (hB:(Region.noSelect l.toArray&&Region.free .any l.toArray L i&&(Region.ready .any l.toArray L).contains i)=true) (hQ:∀c a w,¬Q (.panic c) a w) (h:∀w,(execOp a.eval oi).run P w= .ok (.value v) w)
  (hn:∀a',Fr a' n (Ta f t v)->wpAny P .any l.toArray Q fuel (L.setIfInBounds i true) a' w):wpAny P .any l.toArray Q (fuel+1) L a w:=by
 simp only[Bl] at hB;refine wpAny_take (by simpa using hi) hB.1.1 hB.1.2 hB.2 (λc a w h=>absurd h (hQ c _ w)) (yld hg h) (hn _ ?_);rw[hd];exact F.put ht v
end
end
section
open Go Go.RowKit Go.Lib Ma
def qm:Nat:=7237005577332262213973186563042994240857116359379907606001950938285454250989
theorem AN3:((qm:Nat):Int)=Qm:=rfl
theorem AOO:2*Qm<=pw 8:=by decide +kernel
section
variable{GB:Nat}{GC:Nat->Nat->Option Value}{ad:Nat->Nat×Nat}(hG:Gw GB GC ad){w:World}(ε:GW GC w)(δ:GB<=w.heap.size)
include hG ε δ
theorem xE:Calls Tryz.prog 43 #[] w (AgP GC U8 (J7.raw Jq 0 []) w):=by
 have:=Vn (F:=λa=>BK 8 (J7.raw Jq 0 a)) (ks:=U8) (args:=[]) (ins:=[]) (bs:=[]) ε δ (Zh hG) rfl rfl trivial trivial (λh=>absurd (show false=true from h) (by decide));rw[Bn Yp.len] at this;exact this
theorem mJ{a:List Int}{n:Nat}(ha:La U8 a)(hn:N8 a (n:Int)):Calls Tryz.prog 45 #[.agg (Aj U8 a).toArray] w (AgP GC XT (ck 32 n) w):=by
 have:=Vn (F:=λa=>BK 32 (MJ.raw Ll 0 a)) (ks:=XT) (args:=[.agg (Aj U8 a).toArray]) (ins:=[a]) (bs:=[(0,0)]) ε δ (ZU hG) rfl rfl ⟨⟨ha,rfl⟩,trivial⟩ pM (λh=>absurd (show false=true from h) (by decide));rw[(yM hn).ck,Bn (Je _ _)] at this;exact this
end
def hsN(m:List Int):Nat:=((Ct (MC m))%Qm).toNat
theorem AMH(m:List Int):((hsN m:Nat):Int)=Ct (MC m)%Qm:=Int.toNat_of_nonneg (Int.emod_nonneg _ (by decide +kernel))
theorem IX.jn{w:World}{v:Value}{xs:List Int}(h:IX w v xs):∀x∈xs,0<=x/\x<=255:=by
 obtain⟨_,_,_,_,h,_⟩:=h;exact h
theorem X0{x y:List Int}(hx:∀z∈x,0<=z/\z<=255)(hy:∀z∈y,0<=z/\z<=255):∀z∈x++y,0<=z/\z<=255:=λz h=>by
 rcases jd.1 h with h|h
 ·exact hx z h
 ·exact hy z h
end
noncomputable section
open Go Ma
def rfR(d x m:List Int):Nat:=hsN (d++(MC x).drop 32++m)
def xQ(d x m:List Int):List Int:=JD (JS.nm (rfR d x m))
def rfK(d x m:List Int):Nat:=hsN (d++xQ d x m++JD (JS.zm (WN x))++m)
def LS(d x m:List Int):Nat:=(((rfK d x m:Int)*WN x+(rfR d x m:Int))%Qm).toNat
def Pd(d x m:List Int):List Int:=xQ d x m++ck 32 (LS d x m)
theorem ou(d x m:List Int):((LS d x m:Nat):Int)=((rfK d x m:Int)*WN x+(rfR d x m:Int))%Qm:=Int.toNat_of_nonneg (Int.emod_nonneg _ (by decide +kernel))
theorem Pv(d x m:List Int):(Pd d x m).length=64:=by
 unfold Pd xQ;rw[MN,EN,Je]
theorem ALj(d x m:List Int):∀z∈Pd d x m,0<=z/\z<=255:=X0 (AAe _) (YQ _ _)
theorem gI:Qm=Mo:=rfl
theorem AJh(y:List Int):Mo ∣ ((hsN y:Nat):Int)-Ct (MC y):=by
 rw[AMH,gI];exact⟨-(Ct (MC y)/Mo),by have:=Int.emod_add_mul_ediv (Ct (MC y)) Mo;rw[Int.mul_neg];omega⟩
theorem ADB(y:List Int):MO (K0 (MC y)) ((hsN y:Nat):Int):=by
 have h:MO (K0 (MC y)) (Ct (MC y)):=zl EL (tN y) (J6 y);exact h.aiZ (AJh y)
theorem tC{x:List Int}(hl:x.length=32):cp (WO x) 68 32=(MC x).drop 32/\MO (cp (WO x) 64 4) (WN x):=by
 obtain⟨s,h,hs⟩:=vC hl;have e1:WO x=(x++JD (JS.zm (WN x))++s)++(MC x).drop 32:=by rw[h];simp only[bU]
 have e2:WO x=(x++JD (JS.zm (WN x)))++(s++(MC x).drop 32):=by rw[h];simp only[bU]
 constructor
 ·rw[e1];have:=sG (x:=x++JD (JS.zm (WN x))++s) (y:=(MC x).drop 32) (z:=[]) (o:=68) (n:=32) (by simp only[MN,hl,EN,hs.len]) (by rw[Uj,J6]);rw[Rw] at this;exact this
 ·rw[e2];have:=sG (x:=x++JD (JS.zm (WN x))) (y:=s) (z:=(MC x).drop 32) (o:=64) (n:=4) (by simp only[MN,hl,EN]) hs.len;rw[show cp ((x++JD (JS.zm (WN x)))++(s++(MC x).drop 32)) 64 4=s from this];exact hs
theorem AFa{d x m:List Int}(hl:x.length=32):MO (dm d (WO x) m) ((rfR d x m:Nat):Int)/\ABA d (WO x) m=xQ d x m:=by
 have h1:MO (dm d (WO x) m) ((rfR d x m:Nat):Int):=by
  unfold dm rfR;rw[(tC hl).1];exact ADB _
 refine⟨h1,?_⟩;unfold ABA pbF xQ;rw[<- AAm];exact dn AIS (zN (T:=[(105,.one Aa)]) EL h1)
theorem AMS:lk 106 yh.T=some (.one DX):=by kernel_rfl
theorem wG{y:List Int}{v:Int}{n:Nat}(h:MO y v)(hn:((n:Nat):Int)=v%Qm):sbF y=ck 32 n:=by
 have h5:=AMK AIE h;rw[<- gI, <- hn] at h5;exact h5.ck
theorem TM{d x m:List Int}(hl:x.length=32):XZ d (WO x) m=Pd d x m:=by
 obtain⟨h1,h2⟩:=AFa (d:=d) (m:=m) hl;have h3:MO (xy d (WO x) m) ((rfK d x m:Nat):Int):=by
  unfold xy rfK;rw[h2,(RG hl).2.2];exact ADB _
 have h4:MO (W8 (xy d (WO x) m) (cp (WO x) 64 4) (dm d (WO x) m)) ((rfK d x m:Int)*WN x+(rfR d x m:Int)):=by
  unfold W8;exact ALU AMS h3 (tC hl).2 h1
 unfold XZ Pd;rw[h2];generalize W8 (xy d (WO x) m) (cp (WO x) 64 4) (dm d (WO x) m)=y at h4;rw[Bn h4.len,wG h4 (ou d x m),ABf (Je _ _)]
end
section
open Go Go.RowKit Go.Lib Ma
section
variable{ρ:Operand->Value}{d:Option Tmp}{x y z:Operand}{ty:TypeId}{pos:String}{af:Array Edge}{w:World}
theorem QF{g:Nat}{p:Operand}{u v k m:Value}(hF:ρ (.func g)= .func (.func g) #[] #[])(h:ρ x=u)(hy:ρ y=v)(hz:ρ z=k)(hp:ρ p=m){at_:Array TypeId}(hc:∀(vs:Array Value) (w:World),(callFunc g vs).run Tryz.prog w= .ok (.enter g vs) w):(execOp ρ ⟨d,.call ⟨.value (.func g),#[x,y,z,p],at_⟩,ty,pos,af,none⟩).run Tryz.prog w= .ok (.enter g #[u,v,k,m]) w:=by
 simp[go_sem,hF,h,hy,hz,hp,hc]
end
section
variable{GB:Nat}{GC:Nat->Nat->Option Value}{ad:Nat->Nat×Nat}(hG:Gw GB GC ad)
include hG
end
section
variable{GB:Nat}{GC:Nat->Nat->Option Value}{ad:Nat->Nat×Nat}(hG:Gw GB GC ad)
include hG
end
end
section
open Go Go.RowKit Go.Lib Ma
theorem pI{ρ:Operand->Value}{d:Option Tmp}{x y:Operand}{ty:TypeId}{pos:String}{af:Array Edge}{w:World}{b o m c k:Nat}(hx:ρ x= .slice (some ⟨b,o,none⟩) m c)(hy:ρ y= .int .i64 (k:Int))(h1:k<m)(h2:m<=c):(execOp ρ ⟨d,.slice 22 x (some y) none none,ty,pos,af,none⟩).run Tryz.prog w= .ok (.value (.slice (some ⟨b,o+k,none⟩) (m-k) (c-k))) w:=by
 have hu:=run_underlying (w:=w) Tryz.underlying22;have tG:∀code,(Instr.sliceBound (.int .i64 (k:Int)) m code).run Tryz.prog w= .ok k w:=λcode=>CW _ w (by omega) code
 simp only[execOp,hx,hy,UA,Option.map_none,Instr.sliceAt,Instr.slice,IY,hu,Hm];simp only[Instr.sliceBounds,tG,sz8,IY,KT,Hm];have cq:¬(c=k):=by omega
 simp[cq,Cu]
section
end
structure S3 (w:World) (dv sv mv pv hv:Value) (b7 o7 c7:Nat) (f:Nat->Value) (w1:World):Prop where
 f0:f 0=dv
 f1:f 1=sv
 f2:f 2=mv
 f7:f 7=hv
 f8:f 8=pv
 f19:f 19=dv
 f22:f 22= .slice (some ⟨b7,o7+32,none⟩) 32 (c7-32)
 f24:f 24=mv
 fr:BM w w1 (λ_ _=>False)
def C3(B:Nat)(d h m:List Int):Nat->(Nat->Value)->World->Prop
 |0,_,_=>True
 |1,f,w1=>Wx w1 B (f 18) []
 |2,f,w1=>Wx w1 B (f 20) d
 |3,f,w1=>Wx w1 B (f 23) (d++h)
 |4,f,w1=>Wx w1 B (f 25) (d++h++m)
 |5,f,w1=>∃b o c,f 26= .slice (some ⟨b,o,none⟩) 64 c/\C8 w1 b o (MC (d++h++m))
 |6,f,w1=>(∃b o c,f 26= .slice (some ⟨b,o,none⟩) 64 c/\C8 w1 b o (MC (d++h++m)))/\f 27= .agg (Aj U8 (J7.raw Jq 0 [])).toArray/\La U8 (J7.raw Jq 0 [])
 |_,f,_=>∃l,f 28= .agg (Aj U8 l).toArray/\La U8 l/\N8 l (hsN (d++h++m):Nat)
def A3(B k:Nat)(f:Nat->Value)(w1:World):Prop:=∃g,f 9= .pointer (some ⟨g,0,none⟩)/\B<=g/\AQ true w1 (g,0) U8 (List.replicate 8 0)/\(k<=4->∃cur,w1.heap[g]? = some (.cells cur 52 (0,0)))
theorem A3.an{B k k':Nat}{f f':Nat->Value}{w1 w2:World}(h:A3 B k f w1)(hf:BM w1 w2 (λ_ _=>False))(h9:f' 9=f 9)(hk:k'<=4->k<=4/\∀g,g<w1.heap.size->w2.heap[g]? = w1.heap[g]?):A3 B k' f' w2:=by
 obtain⟨g,e,hB,m,hc⟩:=h;refine⟨g,h9.trans e,hB,m.an hf λ_ _ h=>h,λgE=>?_⟩;obtain⟨h1,h2⟩:=hk gE;obtain⟨cur,ae8⟩:=hc h1;refine⟨cur,?_⟩;rw[h2 g ((m.2 0 .u64 0 rfl rfl).lt)];exact ae8
theorem C3.alloc{B k:Nat}{d h m:List Int}{f f':Nat->Value}{w1:World}{o:Obj}(hc:C3 B d h m k f w1)(hf:∀t,t ∈ [18,20,23,25,26,27,28]->f' t=f t):C3 B d h m k f' (w1.alloc o):=by
 have hb:=OA w1 o;have AH:BM w1 (w1.alloc o) (λ_ _=>False):=BI _ _ _
 match k,hc with
 |0,_=>trivial
 |1,hc=>exact(show Wx _ _ _ _ by rw[hf 18 (by decide)];exact Wx.below hc hb)
 |2,hc=>exact(show Wx _ _ _ _ by rw[hf 20 (by decide)];exact Wx.below hc hb)
 |3,hc=>exact(show Wx _ _ _ _ by rw[hf 23 (by decide)];exact Wx.below hc hb)
 |4,hc=>exact(show Wx _ _ _ _ by rw[hf 25 (by decide)];exact Wx.below hc hb)
 |5,⟨b,o,c,h1,h2⟩=>exact⟨b,o,c,(hf 26 (by decide)).trans h1,h2.bc AH⟩
 |6,⟨⟨b,o,c,h1,h2⟩,h3,h4⟩=>exact⟨⟨b,o,c,(hf 26 (by decide)).trans h1,h2.bc AH⟩,(hf 27 (by decide)).trans h3,h4⟩
 |k+7,⟨l,h1,h2,h3⟩=>exact⟨l,(hf 28 (by decide)).trans h1,h2,h3⟩
def P3(w:World)(dv sv mv pv hv:Value)(b7 o7 c7:Nat)(d h m:List Int)(k:Nat)(fl:Bool)(a:Act)(w1:World):Prop:=
 ∃f,Fr a 56 f/\S3 w dv sv mv pv hv b7 o7 c7 f w1/\C3 w.heap.size d h m k f w1/\(fl=true->A3 w.heap.size k f w1)
theorem S3.cT{w:World}{dv sv mv pv hv:Value}{b7 o7 c7:Nat}{f f':Nat->Value}{w1 w2:World}(s:S3 w dv sv mv pv hv b7 o7 c7 f w1)(hf:∀t,t ∈ [0,1,2,7,8,19,22,24]->f' t=f t)(hr:BM w w2 (λ_ _=>False)):S3 w dv sv mv pv hv b7 o7 c7 f' w2:=
 ⟨(hf 0 (by decide)).trans s.f0,(hf 1 (by decide)).trans s.f1,(hf 2 (by decide)).trans s.f2,(hf 7 (by decide)).trans s.f7,(hf 8 (by decide)).trans s.f8,(hf 19 (by decide)).trans s.f19,(hf 22 (by decide)).trans s.f22,(hf 24 (by decide)).trans s.f24,hr⟩
section
variable{GB:Nat}{GC:Nat->Nat->Option Value}{ad:Nat->Nat×Nat}(hG:Gw GB GC ad)
include hG
end
end
section
open Go Go.RowKit Go.Lib Ma
theorem IX.cV{w:World}{B n:Nat}{xs:List Int}(h:AQ true w (B,0) (List.replicate n .u8) xs):IX w (.slice (some ⟨B,0,none⟩) n n) xs:=by
 have hl:xs.length=n:=by have:=h.1.1;rwa [Qs] at this
 exact IX.cR ⟨h.j9,λi hi=>(h.at8 (by rw[hl] at hi;exact hi)).1.1⟩ hl (KA _)
section
variable{GB:Nat}{GC:Nat->Nat->Option Value}{ad:Nat->Nat×Nat}(hG:Gw GB GC ad)
include hG
end
end
end Go.Proofs.YtloibefkijfdlaaGreatDoor
