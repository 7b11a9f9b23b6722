/- Bytes as a number, reduced: by hand. -/
import Derived.Test.YtkbfdaoohhmgoaaGreatDoorLzx
import Derived.Laws.OwnMore
namespace Go.Proofs.YtkbfdaoohhmgoaaGreatDoor
noncomputable section
open Go Go.RowKit Go.Lib Ma
section
variable{ρ:Operand->Value}{d:Option Tmp}{x y:Operand}{ty:TypeId}{pos:String}{af:Array Edge}{w:World}{b o:Nat}
theorem AMt{cs:Array Value}(h:ρ x= .agg cs):(execOp ρ ⟨d,.box 40 x,ty,pos,af,none⟩).run Tryz.prog w= .ok (.value (.pointer (some ⟨w.heap.size,0,none⟩))) (w.alloc (.cells cs 40)):=by
 simp[execOp,go_sem,h]
theorem AQY{a:Act}:(execOp a.eval ⟨d,.build 40 #[],ty,pos,af,none⟩).run Tryz.prog w= .ok (.value (.agg (AL U8 [0,0,0,0,0,0,0,0]).toArray)) w:=by
 simp[execOp,go_sem];rfl
theorem nE:(execOp ρ ⟨d,.alloc 40,ty,pos,af,none⟩).run Tryz.prog w= .ok (.value (.pointer (some ⟨w.heap.size,0,none⟩))) (w.alloc (.cells (Array.replicate 8 (.int .u64 0)) 40)):=by
 simp[execOp,go_sem];rfl
theorem mE{n c k:Nat}(h:ρ x= .slice (some ⟨b,o,none⟩) n c)(hy:ρ y= .int .i64 k)(hk:k<n):(execOp ρ ⟨d,.indexAddr 22 x y,ty,pos,af,none⟩).run Tryz.prog w= .ok (.value (.pointer (some ⟨b,o+k,none⟩))) w:=by
 simp[execOp,go_sem,h,hy,hk]
theorem lH{i:Int}(h:ρ x= .pointer (some ⟨b,o,none⟩))(hc:w.cell? ⟨b,o,none⟩=some (.int .u8 i)):(execOp ρ ⟨d,.load 5 x,ty,pos,af,none⟩).run Tryz.prog w= .ok (.value (.int .u8 i)) w:=by
 simp[execOp,go_sem,h,hc]
theorem AOB{v:Int}{k:Nat}(hx:ρ x= .int .u8 v)(hy:ρ y= .int .i64 (k:Int)):(execOp ρ ⟨d,.binOp .shr 5 x y 3,ty,pos,af,none⟩).run Tryz.prog w= .ok (.value (.int .u8 (Ak .shr .u8 v k))) w:=by
 simp[execOp,go_sem,hx,hy,Ak];rw[Int.fdiv_eq_ediv_of_nonneg _ (Int.le_of_lt (Int.pow_pos (by decide)))]
theorem AME{v:Int}(hx:ρ x= .int .u8 v)(hy:ρ y= .int .u8 2):(execOp ρ ⟨d,.binOp .rem 5 x y 5,ty,pos,af,none⟩).run Tryz.prog w= .ok (.value (.int .u8 (Ak .rem .u8 v 2))) w:=by
 simp[execOp,go_sem,hx,hy,Ak]
theorem AST{v j:Int}(hx:ρ x= .int .u8 v)(hy:ρ y= .int .u8 j):(execOp ρ ⟨d,.binOp .eql 5 x y 5,ty,pos,af,none⟩).run Tryz.prog w= .ok (.value (.bool (v == j))) w:=by
 simp[execOp,go_sem,hx,hy]
end
theorem AIa{GB:Nat}{w:World}{ks:List IntKind}{g:Nat}{v:Value}{vs:List Value}{ps:List Et}{b:Nat×Nat}{bs:List (Nat×Nat)}:∀ {q:List (List Int)},Jg GB w (.mem ks g true::ps) (v::vs) q (b::bs)->AO true w b ks (q.getD 0 [])
 |_::_,h=>h.1.2.1
 | [],h=>h.elim
def r10:Code:=Uk 10 (Ab Tryz.f39)
def g10:Xz:=⟨⟨6000,r10,Tryz.f39.ntmps,99,[],⟨[.mem U8 1 true,.mem U8 0 false],true,λ_=>True,[(0,U8,z1)],[],[]⟩,[5,3],(Tm r10).filter (λt=>Uw t [5,3]),λ_=>1⟩,[],[]⟩
def B2:Cx:=F7 [(36,.one G5),(34,.one DF)] []
theorem AIR:(g10.cN B2&&TF (g10.i.tree B2))=true:=by kernel_rfl
theorem ATc{T:Tb}{o m:List Int}:(g10.stepT T B2 [o,m]).map (λx=>x.1.getD 0 [])=some (gv T 36 0 [o,gv T 34 0 [[1]],m]):=by kernel_rfl
theorem ARd:Tryz.f39.ntmps=37:=by kernel_rfl
section
variable{GB:Nat}{GC:Nat->Nat->Option Value}{ad:Nat->Nat×Nat}(hG:GI GB GC ad)
include hG
theorem ANo:Ud Tryz.prog B2 GB GC:=PT hG (.cons (k:=36) rfl (PD hG) Tryz.call36 (Ac.len _ _) (.cons (k:=34) rfl (G7 hG) Tryz.call34 (Ac.len _ _) .nil)) UX.nil
theorem ALE{a:Act}{w:World}{f:Nat->Value}{bo bm:Nat}{o m:List Int}(F:Fr a 37 f)(ε:GW GC w)(δ:GB<=w.heap.size)(h5:f 5= .pointer (some ⟨bo,0,none⟩))(h3:f 3= .pointer (some ⟨bm,0,none⟩))(mo:AO true w (bo,0) U8 o)(hbo:GB<=bo)(mm:AO false w (bm,0) U8 m)(cj:bo≠bm):
  r10.wp Tryz.prog (λe a' w'=>e= .normal/\∃f',Fr a' 37 f'/\AO true w' (bo,0) U8 (gv B2.T 36 0 [o,gv B2.T 34 0 [[1]],m])/\BD w w' (λb _=>b=bo)/\GW GC w'/\f' 0=f 0/\f' 3=f 3/\f' 4=f 4/\f' 5=f 5/\f' 6=f 6/\f' 7=f 7) a w:=by
 have c:=AIR;simp only[Bj] at c;have hP:Jg GB w g10.i.s0.params (g10.i.ps.map λt=>a.tmps.getD t undef) [o,m] [(bo,0),(bm,0)]:=⟨⟨(F.tm 5).trans h5,mo,λ_=>hbo⟩,⟨(F.tm 3).trans h3,mm,λh=>(by cases h)⟩,trivial⟩;have hS:Ep g10.i.s0.params [(bo,0),(bm,0)]:=⟨λx hx=>by
   have eg:x=(Et.mem U8 0 false,(bm,0)):=NU.1 hx;subst eg;exact λ_=>.inr (.inl cj),λx hx=>(by cases hx),trivial⟩
 have hr:=Q5 (g:=g10) (ANo hG) c.1 (ER hG (.inl rfl)).1 (ER hG (.inl rfl)).2 (ATj (GB:=GB) (GC:=GC) rfl rfl _) ε δ hP hS (F.sz.trans ARd.symm) F.df (PK c.2);refine wp_mono hr ?_;rintro e a' w' ⟨q,q2,N0,hs,rfl,-,hm,hf,n1,n2,n3,n4,n5⟩;have hv:=@ATc B2.T o m;rw[nO g10 B2 [o,m]] at hs;rw[hs] at hv;have hv:=WT hv;refine⟨rfl,_,AF8 F (n1.trans ARd) n2,?_,hf.mono λb o _ hS=>?_,n5,?_,?_,?_,?_,?_,?_⟩
 ·have ur:=AIa (ps:=g10.i.s0.params.tail) hm;rw[show q.getD 0 []=_ from hv] at ur;exact ur
 ·obtain⟨p',eA,h1,h2,h3⟩:=hS;have oY:p' ∈ [((0:Nat),U8,(Go.Proofs.YtkbfdaoohhmgoaaGreatDoor.z1:PF))]:=eA;rw[NU] at oY;subst oY;exact h1
 ·rw[<- F.tm 0];exact n3 0 (Gm.1 (by kernel_rfl))
 ·rw[<- F.tm 3];exact n4 1 3 _ rfl (by simp[Et.cp]) rfl
 ·rw[<- F.tm 4];exact n3 4 (Gm.1 (by kernel_rfl))
 ·rw[<- F.tm 5];exact n4 0 5 _ rfl (by simp[Et.cp]) rfl
 ·rw[<- F.tm 6];exact n3 6 (Gm.1 (by kernel_rfl))
 ·rw[<- F.tm 7];exact n3 7 (Gm.1 (by kernel_rfl))
theorem ACC{w:World}(ε:GW GC w)(δ:GB<=w.heap.size){a b m:List Int}{x y q:Int}(h1:EP U8 a)(h2:EP U8 b)(h3:EP U8 m)(ha:N8 a x)(hb:N8 b y)(hm:N8 m q)(hx:x<q)(hy:y<q)(hq:2*q<=pw 8):
  Calls Tryz.prog 36 #[.agg (AL U8 a).toArray,.agg (AL U8 b).toArray,.agg (AL U8 m).toArray] w (ql GC U8 (Jz.raw J7 0 [a,b,m]) w):=by
 have:=Mc (F:=λa=>BF 8 (Jz.raw J7 0 a)) (ks:=U8) (args:=[.agg (AL U8 a).toArray,.agg (AL U8 b).toArray,.agg (AL U8 m).toArray]) (ins:=[a,b,m]) (bs:=[(0,0),(0,0),(0,0)]) ε δ (PD hG) rfl rfl ⟨⟨h1,rfl⟩,⟨h2,rfl⟩,⟨h3,rfl⟩,trivial⟩ (Z0 (Z0 Wx)) (λh=>absurd (show false=true from h) (by decide));rw[Ay (Yy ha hb hm hx hy hq).len] at this;exact this
end
theorem AHF{o m:List Int}{v q:Int}(ho:N8 o v)(hm:N8 m q)(hv:v<q)(h1:1<q)(hq:2*q<=pw 8):N8 (gv B2.T 36 0 [o,gv B2.T 34 0 [[1]],m]) ((v+1)%q):=by
 have T1:lk 36 B2.T=some (.one G5):=rfl;have T2:lk 34 B2.T=some (.one DF):=rfl;generalize B2.T=T at *
 exact AG1 T1 ho (uC T2 (n:=1) (by decide)) hm hv h1 hq
theorem AIC{A c q:Int}:(A%q+A%q+c)%q=(2*A+c)%q:=by
 have h:=Int.emod_add_mul_ediv A q;have e:2*A+c=(A%q+A%q+c)+q*(2*(A/q)):=by
  have:2*A=2*(A%q+q*(A/q)):=by rw[h]
  rw[this];grind
 rw[e,Int.add_mul_emod_self_left]
theorem ALZ{V X q:Int}{k:Nat}(hk:k<8):((V*2^(7-k)+X/2^(k+1))%q+(V*2^(7-k)+X/2^(k+1))%q+X/2^k%2)%q=(V*2^(8-k)+X/2^k)%q:=by
 rw[AIC];have e1:X/2^(k+1)=X/2^k/2:=by rw[Hi,Int.ediv_ediv_of_nonneg (Int.le_of_lt (Int.pow_pos (by decide)))]
 have e2:(2:Int)^(8-k)=2^(7-k)*2:=by rw[<- Hi,show(7-k).succ=8-k by omega]
 rw[e1,e2];generalize X/2^k=Y;generalize (2:Int)^(7-k)=t;have e3:2*(V*t+Y/2)+Y%2=V*(t*2)+Y:=by
  have:=Int.emod_add_mul_ediv Y 2;grind
 rw[e3]
theorem APy{v:Int}{k:Nat}(h:0<=v/\v<=255)(hk:k<8):(Ak .rem .u8 (Ak .shr .u8 v k) 2 == 1)=decide (v/2^k%2=1):=by
 have h2:(2:Int)^k=((2^k:Nat):Int):=by push_cast;rfl
 have hp:(1:Int)<=2^k:=Int.pow_pos (by decide);have h0:0<=v/2^k:=Int.ediv_nonneg h.1 (by omega);have e1:Ak .shr .u8 v k=v/2^k:=by
  show v.fdiv (2^(min ((k:Int)).toNat 8))=_;rw[Rh,Nat.min_eq_left (by omega),Int.fdiv_eq_ediv_of_nonneg _ (by omega)]
 rw[e1];have e2:Ak .rem .u8 (v/2^k) 2=v/2^k%2:=by
  show Int.tmod _ 2=_;rw[Int.tmod_eq_emod_of_nonneg h0]
 rw[e2];rcases Int.emod_two_eq (v/2^k) with h|h<;>rw[h]<;>rfl
theorem qG{x:List Int}{i:Nat}(h:i<x.length):Cm (x.drop i)=x.getD i 0+256*Cm (x.drop (i+1)):=by
 rw[List.drop_eq_getElem_cons h];have:x.getD i 0=x[i]:=by simp[List.getD,h]
 rw[this];rfl
structure RJ (GC:Nat->Nat->Option Value) (w:World) (B3 B4 B5 b o n c:Nat) (m x:List Int) (v:Int) (f:Nat->Value) (w':World):Prop where
 f0:f 0= .slice (some ⟨b,o,none⟩) n c
 f3:f 3= .pointer (some ⟨B3,0,none⟩)
 f4:f 4= .pointer (some ⟨B4,0,none⟩)
 f5:f 5= .pointer (some ⟨B5,0,none⟩)
 mo:∃out,AO true w' (B5,0) U8 out/\N8 out v
 mr:AO true w' (B4,0) U8 (List.replicate 8 0)
 mm:AO true w' (B3,0) U8 m
 h8:DD w' b o x
 fr:BD w w' (λ_ _=>False)
 gw:GW GC w'
theorem DD.LR{w w':World}{b o B:Nat}{xs:List Int}(h:DD w b o xs)(hf:BD w w' (λb _=>b=B))(hn:b≠B):DD w' b o xs:=⟨h.1,λi hi=>(hf.fk (f:=false) ⟨h.2 i hi,λh=>(by cases h)⟩ hn).1⟩
theorem AO.ro{w:World}{b:Nat×Nat}{ks:List IntKind}{xs:List Int}(h:AO true w b ks xs):AO false w b ks xs:=⟨h.1,λi k x hk hx=>⟨(h.2 i k x hk hx).1,λh=>by cases h⟩⟩
set_option maxRecDepth 100000 in
theorem ACx{GB:Nat}{GC:Nat->Nat->Option Value}{ad:Nat->Nat×Nat}(hG:GI GB GC ad){w:World}{B3 B4 B5 b o n c i:Nat}{m x:List Int}{q V:Int}(ε:GW GC w)(δ:GB<=w.heap.size)(h5:w.heap.size<=B5)(h35:B5≠B3)(h45:B5≠B4)(hb5:b<B5)(hx:x.length=n)(hi:i<n)(hm:N8 m q)(hq:2*q<=pw 8)(h1:1<q){X:Code}(hX:X=PU 2 (Ab Tryz.f39)):
  ∀k a w',(∃f,Fr a 37 f/\RJ GC w B3 B4 B5 b o n c m x ((V*2^(8-(k+1))+x.getD i 0/2^(k+1))%q) f w'/\f 6= .int .i64 (i:Int)/\f 7= .int .i64 (MJ (k+1))/\k+1<=8)->
   X.wp Tryz.prog (λe a' w'=>e= .normal/\∃f,Fr a' 37 f/\RJ GC w B3 B4 B5 b o n c m x ((V*2^(8-k)+x.getD i 0/2^k)%q) f w'/\f 6= .int .i64 (i:Int)/\f 7= .int .i64 (MJ k)/\k<=8) a w':=by
 intro k a w' ⟨f,F,J,e6,e7,hk⟩;subst hX;have hb:decide ((0:Int)<=MJ (k+1))=true:=decide_eq_true (nI k);have NX:0<=x.getD i 0/\x.getD i 0<=255:=J.h8.1 _ (by rw[List.getD,Io (by omega)];exact ku _);obtain⟨out,mo,ho⟩:=J.mo;have hq0:0<q:=by omega
 have bj:(V*2^(8-(k+1))+x.getD i 0/2^(k+1))%q<q:=Int.emod_lt_of_pos _ hq0;refine wp_seq (wp_seq (cp (AA F rfl λa F=>AZ F rfl (Np (F.ev e7) rfl) λa F=>CY ?_)));refine wp_cond (t:=true) (F.ev (CV Value.bool hb)) (wp_skip ?_);refine wp_seq (wp_block (AP ?_));have hol:(AL U8 out).length=8:=Cg mo.1.1;have wv:(AL U8 m).length=8:=Cg J.mm.1.1;refine AZ F rfl (OL (cs:=AL U8 out) (λw=>by simp[go_sem]) (λw=>by rw[hol];simp[go_sem]) (F.ev J.f5) mo.cJ) λa F=>AZ F rfl (OL (cs:=AL U8 out) (λw=>by simp[go_sem]) (λw=>by rw[hol];simp[go_sem]) (F.ev J.f5) mo.cJ) λa F=>AZ F rfl (OL (cs:=AL U8 m) (λw=>by simp[go_sem]) (λw=>by rw[wv];simp[go_sem]) (F.ev J.f3) J.mm.cJ) λa F=>?_
 refine EG F rfl (Hr rfl F.e F.e F.e Tryz.call36) (ACC hG J.gw (EX δ J.fr.1) mo.1 mo.1 J.mm.1 ho ho hm bj bj hq) λe w6 h6=>⟨_,h6.ret,λa F=>?_⟩
 have M6:=mo.an h6.an λ_ _ h=>h
 have ho2:=Yy ho ho hm bj bj hq;have Tr:=h6.fy;generalize Jz.raw J7 0 [out,out,m]=out2 at *
 have DM:(AL U8 out2).length=8:=Cg Tr.1;have Jx:((V*2^(8-(k+1))+x.getD i 0/2^(k+1))%q+(V*2^(8-(k+1))+x.getD i 0/2^(k+1))%q)%q<q:=Int.emod_lt_of_pos _ hq0;have abj:=ALZ (V:=V) (X:=x.getD i 0) (q:=q) (k:=k) (by omega);rw[show 7-k=8-(k+1) by omega] at abj;refine FB F rfl rfl (Kb (cs:=AL U8 out2) (λw=>by rw[DM];simp[go_sem]) (F.ev J.f5) F.e D7 (λj hj=>M6.ex j (by rw[DM] at hj;exact hj))) λa F=>AJ ?_
 have g7:BD w6 (w6.setCells B5 0 (AL U8 out2)) (λb _=>b=B5):=BG _ _ (BD.refl _ _) λ_ _=>.inr rfl
 have f7:BD w (w6.setCells B5 0 (AL U8 out2)) (λ_ _=>False):=BG _ _ (J.fr.trans h6.an) λ_ _=>.inl h5
 have M7:=Iw Tr M6.ex;have r7:=(J.mr.an h6.an λ_ _ h=>h).an g7 λ_ _ h=>h45 h.symm
 have m7:=(J.mm.an h6.an λ_ _ h=>h).an g7 λ_ _ h=>h35 h.symm
 have x7:=(J.h8.cr h6.an).LR g7 (Nat.ne_of_lt hb5);generalize w6.setCells B5 0 (AL U8 out2)=w7 at g7 f7 M7 r7 m7 x7 ⊢;have gw7:=F4 hG ε f7 δ;have cR:w7.cell? ⟨b,o+i,none⟩=some (.int .u8 (x.getD i 0)):=x7.2 i (by omega);refine AP (AA F rfl λa F=>AA F rfl λa F=>AZ F rfl (mE (F.ev J.f0) (F.ev e6) hi) λa F=>AZ F rfl (lH F.e cR) λa F=>AA F rfl λa F=>AZ F rfl (AOB (k:=k) F.e (F.ev e7)) λa F=>AZ F rfl (AME F.e rfl) λa F=>AZ F rfl (AST F.e rfl) λa F=>AJ ?_);have yy:∀ {a:Act} {w8:World} {f':Nat->Value} {v:Int},Fr a 37 f'->RJ GC w B3 B4 B5 b o n c m x v f' w8->f' 6= .int .i64 (i:Int)->f' 7= .int .i64 (MJ (k+1))->v=(V*2^(8-k)+x.getD i 0/2^k)%q->
   (Uk 7 (Ab Tryz.f39)).wp Tryz.prog (λe a' w'=>e= .normal/\∃f,Fr a' 37 f/\RJ GC w B3 B4 B5 b o n c m x ((V*2^(8-k)+x.getD i 0/2^k)%q) f w'/\f 6= .int .i64 (i:Int)/\f 7= .int .i64 (MJ k)/\k<=8) a w8:=by
  intro a w8 f' v F J6 e6 e7 hv;refine cp (AA F rfl λa F=>AZ F rfl (TQ (F.ev e7) rfl) λa F=>AB F rfl λa F=>CY ?_);subst hv;exact⟨rfl,_,F,⟨J6.f0,J6.f3,J6.f4,J6.f5,J6.mo,J6.mr,J6.mm,J6.h8,J6.fr,J6.gw⟩,e6,CV (Value.int .i64) (MQ (by omega)),by omega⟩
 by_cases hB:x.getD i 0/2^k%2=1
 ·have cV:(Ak .rem .u8 (Ak .shr .u8 (x.getD i 0) k) 2 == 1)=true:=by rw[APy NX (by omega)];exact decide_eq_true hB
  refine wp_cond (t:=true) (F.ev (CV Value.bool cV)) ?_;refine wp_mono (ALE hG F gw7 (EX δ f7.1) J.f5 J.f3 M7 (EX δ h5) m7.ro h35) ?_;rintro e a' w8 ⟨rfl,f',F,M8,g8,gw8,k0,k3,k4,k5,k6,k7⟩;have f8:=f7.trans' g8 λb' i vn (h:b'=B5)=>by omega
  refine yy F ⟨k0.trans J.f0,k3.trans J.f3,k4.trans J.f4,k5.trans J.f5,⟨_,M8,AHF ho2 hm Jx h1 hq⟩,r7.an g8 λ_ _ h=>h45 h.symm,m7.an g8 λ_ _ h=>h35 h.symm,x7.LR g8 (Nat.ne_of_lt hb5),f8,gw8⟩ (k6.trans e6) (k7.trans e7) ?_;rw[hB] at abj;rw[Int.emod_add_emod];exact abj
 ·have cV:(Ak .rem .u8 (Ak .shr .u8 (x.getD i 0) k) 2 == 1)=false:=by rw[APy NX (by omega)];exact decide_eq_false hB
  refine wp_cond (t:=false) (F.ev (CV Value.bool cV)) (wp_skip ?_);refine yy F ⟨J.f0,J.f3,J.f4,J.f5,⟨_,M7,ho2⟩,r7,m7,x7,f7,gw7⟩ e6 e7 ?_;have hB0:x.getD i 0/2^k%2=0:=by omega
  rw[hB0,Mb] at abj;exact abj
end
section
open Go Go.RowKit Go.Lib Ma
theorem EC(w:World)(o:Obj):(w.alloc o).heap.size=w.heap.size+1:=by unfold World.alloc;exact Array.size_push _
theorem AHr{x:List Int}{n:Nat}(h:x.length<=n):Cm (x.drop n)=0:=by rw[List.drop_of_length_le h];rfl
theorem RJ.cH{GC:Nat->Nat->Option Value}{w:World}{B3 B4 B5 b o n c:Nat}{m x:List Int}{v:Int}{f f':Nat->Value}{w':World}(J:RJ GC w B3 B4 B5 b o n c m x v f w')(h0:f' 0=f 0)(h3:f' 3=f 3)(h4:f' 4=f 4)(h5:f' 5=f 5):RJ GC w B3 B4 B5 b o n c m x v f' w':=⟨h0.trans J.f0,h3.trans J.f3,h4.trans J.f4,h5.trans J.f5,J.mo,J.mr,J.mm,J.h8,J.fr,J.gw⟩
set_option maxRecDepth 100000 in
theorem pV{GB:Nat}{GC:Nat->Nat->Option Value}{ad:Nat->Nat×Nat}(hG:GI GB GC ad){w:World}{b o n c:Nat}{m x:List Int}{q:Int}(ε:GW GC w)(δ:GB<=w.heap.size)(hb:b<w.heap.size)(h8:DD w b o x)(hx:x.length=n)(hn:n<1000)(hM:EP U8 m)(hm:N8 m q)(hq:2*q<=pw 8)(h1:1<q):
  Calls Tryz.prog 39 #[.slice (some ⟨b,o,none⟩) n c,.agg (AL U8 m).toArray] w (λe w'=>∃l,N8 l (Cm x%q)/\ql GC U8 l w e w'):=by
 refine enter (args:=[.slice (some ⟨b,o,none⟩) n c,.agg (AL U8 m).toArray]) Tryz.func39 rfl (n:=37) rfl λa F=>?_
 refine AP (AZ F rfl (AMt F.e) λa F=>?_);have M1:=Jr w U8 m 40 hM;have f1:BD w (w.alloc (.cells (AL U8 m).toArray 40)) (λ_ _=>False):=BC _ _ _;have s1:(w.alloc (.cells (AL U8 m).toArray 40)).heap.size=w.heap.size+1:=EC _ _;generalize w.alloc (.cells (AL U8 m).toArray 40)=w1 at M1 f1 s1 ⊢;refine AZ F rfl nE λa F=>AJ ?_
 have M2:=Dj w1 8 .u64 40 ⟨by decide,by decide⟩;have f2:BD w1 (w1.alloc (.cells (Array.replicate 8 (.int .u64 0)) 40)) (λ_ _=>False):=BC _ _ _;have s2:(w1.alloc (.cells (Array.replicate 8 (.int .u64 0)) 40)).heap.size=w1.heap.size+1:=EC _ _;generalize w1.alloc (.cells (Array.replicate 8 (.int .u64 0)) 40)=w2 at M2 f2 s2 ⊢;refine AP (AZ F rfl AQY λa F=>AZ F rfl nE λa F=>?_);have M3:=Dj w2 8 .u64 40 ⟨by decide,by decide⟩;have f3:BD w2 (w2.alloc (.cells (Array.replicate 8 (.int .u64 0)) 40)) (λ_ _=>False):=BC _ _ _;generalize w2.alloc (.cells (Array.replicate 8 (.int .u64 0)) 40)=w3 at M3 f3 ⊢;have f13:=(f1.trans f2).trans f3;have hz8:EP U8 [0,0,0,0,0,0,0,0]:=O8 (by decide);refine FB F rfl rfl (Kb (cs:=AL U8 [0,0,0,0,0,0,0,0]) (λw=>by simp[go_sem];rfl) F.e F.e D7 (λj hj=>M3.ex j hj)) λa F=>AJ ?_
 have g4:BD w3 (w3.setCells w2.heap.size 0 (AL U8 [0,0,0,0,0,0,0,0])) (λb _=>b=w2.heap.size):=BG _ _ (BD.refl _ _) λ_ _=>.inr rfl
 have f4:BD w (w3.setCells w2.heap.size 0 (AL U8 [0,0,0,0,0,0,0,0])) (λ_ _=>False):=BG _ _ f13 λ_ _=>.inl (by omega)
 have M4:=Iw hz8 M3.ex;have r4:=(M2.an f3 λ_ _ h=>h).an g4 λ_ _ h=>(by have:w1.heap.size=w2.heap.size:=h;omega)
 have m4:=(M1.an (f2.trans f3) λ_ _ h=>h).an g4 λ_ _ h=>(by have:w.heap.size=w2.heap.size:=h;omega)
 have x4:=h8.cr f4;generalize w3.setCells w2.heap.size 0 (AL U8 [0,0,0,0,0,0,0,0])=w4 at g4 f4 M4 r4 m4 x4 ⊢;obtain⟨f',F',e0,e3,e4,e5⟩:∃f',Fr a 37 f'/\f' 0= .slice (some ⟨b,o,none⟩) n c/\f' 3= .pointer (some ⟨w.heap.size,0,none⟩)/\f' 4= .pointer (some ⟨w1.heap.size,0,none⟩)/\f' 5= .pointer (some ⟨w2.heap.size,0,none⟩):=⟨_,F,rfl,rfl,rfl,rfl⟩;clear F;have J0:RJ GC w w.heap.size w1.heap.size w2.heap.size b o n c m x (Cm (x.drop n)%q) f' w4:=⟨e0,e3,e4,e5,⟨_,M4,by rw[AHr (Nat.le_of_eq hx),Int.zero_emod];exact AIw⟩,r4,m4,x4,f4,F4 hG ε f4 δ⟩;clear e0 e3 e4 e5 M4 r4 m4 x4 f4 g4;refine GM (J:=λa w'=>∃f,Fr a 37 f/\RJ GC w w.heap.size w1.heap.size w2.heap.size b o n c m x (Cm x%q) f w') (AP (AA F' rfl λa F=>AZ F rfl (OE (m:=n) (F.ev J0.f0)) λa F=>AZ F rfl (TQ (i:=(n:Int)) (j:=1) F.e rfl) λa F=>AB F rfl λa F=>AJ ?_)) ?_
 ·have hi0:IntKind.i64.wrap ((n:Int)-1)=MJ n:=by
   rcases n with _|n
   ·rfl
   ·rw[YB (by omega) (by omega),xD];omega
  have J1:RJ GC w w.heap.size w1.heap.size w2.heap.size b o n c m x (Cm (x.drop n)%q) _ w4:=J0.cH (f':=Rw (Rw (Rw (Rw f' 9 (f' 0)) 10 (.int .i64 n)) 11 (.int .i64 (IntKind.i64.wrap ((n:Int)-1)))) 6 (.int .i64 (IntKind.i64.wrap ((n:Int)-1)))) rfl rfl rfl rfl;refine(wp_block (wp_loop_rounds _ (Gj (J:=λi a w'=>∃f,Fr a 37 f/\RJ GC w w.heap.size w1.heap.size w2.heap.size b o n c m x (Cm (x.drop i)%q) f w'/\f 6= .int .i64 (MJ i)/\i<=n) ?_ ?_ n _ _ ⟨_,F,J1,CV (Value.int .i64) hi0,Ie _⟩)))
  ·intro a w' ⟨f,F,J,e6,_⟩;refine wp_seq (wp_seq (cp (AA F rfl λa F=>AZ F rfl (Np (F.ev e6) rfl) λa F=>CY ?_)));refine wp_cond (t:=false) F.e (wp_exit ?_);exact⟨rfl,_,F,J.cH rfl rfl rfl rfl⟩
  ·intro i a w' ⟨f,F,J,e6,hi⟩;have hb:decide ((0:Int)<=MJ (i+1))=true:=decide_eq_true (nI i);have pn:0<=x.getD i 0/\x.getD i 0<=255:=J.h8.1 _ (by rw[List.getD,Io (by omega)];exact ku _);refine wp_seq (wp_seq (cp (AA F rfl λa F=>AZ F rfl (Np (F.ev e6) rfl) λa F=>CY ?_)));refine wp_cond (t:=true) (F.ev (CV Value.bool hb)) (wp_skip ?_);have hV:Cm (x.drop (i+1))%q=(Cm (x.drop (i+1))*2^(8-8)+x.getD i 0/2^8)%q:=by
    have h0:x.getD i 0/2^8=0:=Int.ediv_eq_zero_of_lt pn.1 (by omega);rw[h0,HF,Int.pow_zero,zdc,Mb]
   have hE:(Cm (x.drop (i+1))*2^(8-0)+x.getD i 0/2^0)%q=Cm (x.drop i)%q:=by
    have Bs:(2:Int)^(8-0)=256:=by decide
    rw[qG (i:=i) (by omega),Int.pow_zero,Int.ediv_one,Bs]
    congr 1
    omega
   rw[hV] at J;refine GM (J:=λa w'=>∃f,Fr a 37 f/\RJ GC w w.heap.size w1.heap.size w2.heap.size b o n c m x (Cm (x.drop i)%q) f w'/\f 6= .int .i64 (i:Int)) (wp_block (AP (Aj F rfl λa F=>AJ ?_))) ?_
   ·refine wp_block (wp_loop_rounds _ (Gj (J:=λk a w'=>∃f,Fr a 37 f/\RJ GC w w.heap.size w1.heap.size w2.heap.size b o n c m x ((Cm (x.drop (i+1))*2^(8-k)+x.getD i 0/2^k)%q) f w'/\f 6= .int .i64 (i:Int)/\f 7= .int .i64 (MJ k)/\k<=8) ?_ (ACx hG ε δ (by omega) (by omega) (by omega) (by omega) hx (by omega) hm hq h1 rfl) 8 _ _ ⟨_,F,J.cH rfl rfl rfl rfl,e6,rfl,Ie _⟩));intro a w' ⟨f,F,J,e6,e7,_⟩;refine wp_seq (wp_seq (cp (AA F rfl λa F=>AZ F rfl (Np (F.ev e7) rfl) λa F=>CY ?_)));refine wp_cond (t:=false) F.e (wp_exit ?_);rw[hE] at J;exact⟨rfl,_,F,J.cH rfl rfl rfl rfl,e6⟩
   ·intro a w' ⟨f,F,J,e6⟩;refine cp (AA F rfl λa F=>AZ F rfl (TQ (i:=(i:Int)) (j:=1) (F.ev e6) rfl) λa F=>AB F rfl λa F=>CY ?_);exact⟨rfl,_,F,J.cH rfl rfl rfl rfl,CV (Value.int .i64) (MQ (n:=i) (by omega)),by omega⟩
 intro a w' ⟨f,F,J⟩;obtain⟨out,mo,ho⟩:=J.mo;have hol:(AL U8 out).length=8:=Cg mo.1.1;refine AP (AZ F rfl (OL (cs:=AL U8 out) (λw=>by simp[go_sem]) (λw=>by rw[hol];simp[go_sem]) (F.ev J.f5) mo.cJ) λa F=>FB F rfl rfl (Kb (cs:=AL U8 out) (λw=>by rw[hol];simp[go_sem]) (F.ev J.f4) F.e D7 (λj hj=>J.mr.ex j (by rw[hol] at hj;exact hj))) λa F=>AJ ?_);have M9:=Iw mo.1 J.mr.ex;have f9:BD w (w'.setCells w1.heap.size 0 (AL U8 out)) (λ_ _=>False):=BG _ _ J.fr λ_ _=>.inl (by omega)
 refine Cn ⟨F.df,.agg (AL U8 out).toArray,?_,out,ho,rfl,mo.1,f9,F4 hG ε f9 δ⟩;exact TH rfl ((F.tm 4).trans J.f4) (V6 (cs:=AL U8 out) (λw=>by simp[go_sem]) (λw=>by rw[hol];simp[go_sem]) M9.cJ)
end
section
open Go Go.RowKit Go.Lib Ma
theorem RX.msg{w:World}{B:Nat}{v:Value}{xs:List Int}(h:RX w B v xs)(hx:∀x∈xs,0<=x/\x<=255):Ku w v xs:=by
 rcases Nat.eq_zero_or_pos xs.length with h0|h0
 ·obtain⟨ap,c,hv⟩:=h.sl;rw[h0] at hv;exact Ku.nil (HW h0) hv
 ·obtain⟨b,c,hv,hc,-, -,h8⟩:=Ya h h0 hx;rw[hv];exact Ku.i6 h8 rfl hc
theorem jU{P:Program}{w:World}{FY:Nat}{t ty e:TypeId}{i:TypeInfo}{size:Nat}(ht:P.underlying t=some (.slice e))(hi:P.info? e=some i){v:Value}{n c:Nat}{xs:List Value}(τ:w.ownsRow FY e size v n xs):
  (Builtin.append_ #[t,t] ty #[v,.slice none 0 c]).run P w= .ok v w:=by
 rcases τ.2 with⟨rfl,rfl⟩|⟨g,cap,cur,rfl,_,_,Kf,_⟩
 ·simp[Builtin.append_,run_underlying ht,sizeOf,typeInfo,hi,Builtin.lenOf,Builtin.firstCells]
 ·simp[Builtin.append_,run_underlying ht,sizeOf,typeInfo,hi,Builtin.lenOf,Builtin.firstCells,Kf,storeCells]
theorem uO(w:World)(r:Option Nat):w.grownBy w r:=⟨rfl,rfl,rfl,Ie _,λ_ _ _=>rfl⟩
theorem AJP{w:World}{B:Nat}{v u:Value}{ty:TypeId}{xs ys:List Int}(τ:RX w B v xs)(hy:Ku w u ys)(hb:xs.length+ys.length<=140737488355328)(hB:B<=w.heap.size):
  ∃v' w',(Builtin.append_ #[22,22] ty #[v,u]).run Tryz.prog w= .ok v' w'/\RX w' B v' (xs++ys)/\w.grownBy w' v.ownBlock:=by
 obtain⟨i0,hi,F2,rL,rm⟩:=info_parts i8;obtain⟨ap,c,hv,-,hr,hc⟩:=hy;have hv8:v8 (xs++ys)=v8 xs++v8 ys:=by simp[v8]
 cases ap with
 | none=>
  have h0:ys.length=0:=Nat.eq_zero_of_not_pos λh=>by
   obtain⟨b,o,e,-⟩:=hc h;cases e
  have hy0:ys= []:=HW h0;subst hy0;rw[hv,RD];exact⟨v,w,jU Tryz.underlying22 hi τ,τ,uO w _⟩
 | some ad=>
  have ya:∀j x,(v8 ys)[j]? = some x->w.cell? (ad.add j)=some x:=λj x hj=>by
   have oE:j<ys.length:=by have:=(Oa.1 hj).1;simpa[v8] using this
   obtain⟨b,o,e,-,h8⟩:=hc (by omega);cases e;rw[Addr.add_lit,h8 j oE];have:(v8 ys)[j]? = some (.int .u8 (ys.getD j 0)):=by simp[v8,List.getD,oE]
   rw[this] at hj;exact hj
  obtain⟨v',w',h1,h2,h3,-⟩:=run_append_own (P:=Tryz.prog) w B 22 ty 5 i0 (.int .u8 0) 1 1 Tryz.underlying22 hi F2 rL rm rfl (by decide) v xs.length (v8 xs) τ ad ys.length c (v8 ys) (by simp[v8]) ya VN (by unfold maxLen;omega) (by omega) hB;rw[hv];refine⟨v',w',h1,?_,h3⟩;show w'.ownsRow B 5 1 v' (xs++ys).length (v8 (xs++ys));rw[NC,hv8];exact h2
section
variable{P:Program}{Q:Exit->Act->World->Prop}{K:Act->World->Prop}{a:Act}{w:World}{n:Nat}{f:Nat->Value}
theorem OW{o:Oper}{t:Nat}{v:Value}{w':World}(F:Fr a n f)(hd:o.dst=some t)(ht:Nat.blt t n=true)(h:(execOp a.eval o).run P w= .ok (.value v) w')(hn:∀a',Fr a' n (Rw f t v)->K a' w'):o.wp P a w K Q:=by
 unfold Oper.wp;rw[h];show K (a.put o.dst v) w';refine hn _ ?_;rw[hd];exact F.put ht v
theorem iX{t x:Nat}{ty:TypeId}{pos:String}{af:Array Edge}(F:Fr a n f)(ht:Nat.blt t n=true)(hn:∀a',Fr a' n (Rw f t (f x))->K a' w):(⟨some t,.move (.tmp x),ty,pos,af,none⟩:Oper).wp P a w K Q:=
 OW F rfl ht (by simp only[execOp,F.ev (t:=x) rfl];rfl) hn
theorem AHV{o:Oper}{w':World}(F:Fr a n f)(hd:o.dst=none)(h:(execOp a.eval o).run P w= .ok .skip w')(hn:∀a',Fr a' n f->K a' w'):o.wp P a w K Q:=by
 unfold Oper.wp;rw[h];show K (a.put o.dst undef) w';refine hn _ ?_;rw[hd];exact F.adf undef
theorem LF{o:Oper}{t g:Nat}{vs:Array Value}{w0:World}{R:Ending->World->Prop}(F:Fr a n f)(hd:o.dst=some t)(ht:Nat.blt t n=true)(h:(execOp a.eval o).run P w= .ok (.enter g vs) w0)(hc:Calls P g vs w0 R)
  (hn:∀e w',R e w'->∃v,e= .returned v/\∀a',Fr a' n (Rw f t v)->K a' w'):o.wp P a w K Q:=by
 unfold Oper.wp;rw[h];show Calls P g vs w0 _;refine hc.mono λe w' hR=>?_
 obtain⟨v,rfl,hv⟩:=hn e w' hR;show K (a.put o.dst v) w';refine hv _ ?_;rw[hd];exact F.put ht v
theorem AMq{t x y B:Nat}{ty:TypeId}{pos:String}{af:Array Edge}{xs ys:List Int}(F:Fr a n f)(ht:Nat.blt t n=true)(τ:RX w B (f x) xs)(hy:Ku w (f y) ys)(hb:xs.length+ys.length<=140737488355328)(hB:B<=w.heap.size)
  (hn:∀v' w' a',RX w' B v' (xs++ys)->w.grownBy w' (f x).ownBlock->Fr a' n (Rw f t v')->K a' w'):(⟨some t,.call ⟨.builtin .append,#[.tmp x,.tmp y],#[22,22]⟩,ty,pos,af,none⟩:Oper).wp Tryz.prog a w K Q:=by
 obtain⟨v',w',h1,h2,h3⟩:=AJP (ty:=ty) τ hy hb hB;unfold Oper.wp execOp;simp only[resolve,invoke,builtin,Gi,I4,Fb,List.map_toArray,NM,VW,F.ev (t:=x) rfl,F.ev (t:=y) rfl,h1];exact hn v' w' _ h2 h3 (F.put ht v')
theorem ja{ops:Array Oper}{rest:List Oper}{t x y B:Nat}{ty:TypeId}{pos:String}{af:Array Edge}{xs ys:List Int}(F:Fr a n f)(ht:Nat.blt t n=true)(τ:RX w B (f x) xs)(hy:Ku w (f y) ys)(hb:xs.length+ys.length<=140737488355328)(hB:B<=w.heap.size)
  (hn:∀v' w' a',RX w' B v' (xs++ys)->Below B w w'->Fr a' n (Rw f t v')->wpList Tryz.prog ops Q rest a' w'):wpList Tryz.prog ops Q (⟨some t,.call ⟨.builtin .append,#[.tmp x,.tmp y],#[22,22]⟩,ty,pos,af,none⟩::rest) a w:=
 wpList_plain rfl λ_ hK=>AMq F ht τ hy hb hB λv' w' a' h1 h2 h3=>hK _ _ (hn v' w' a' h1 (Wz τ h2 hB) h3)
end
section
variable{P:Program}{Q:Exit->Act->World->Prop}
def bg(l:List Oper)(i j:Nat):Bool:=match l[i]? with
 |some o=>o.after.any λe=>Region.binds .any e&&e.on == j
 |none=>false
def vG(l:List Oper):Bool:=l.all λo=>o.guard.isNone
def sP(l:List Oper)(m:Nat):Bool:=(l.length == m+1)&&vG l&&(List.range l.length).all λi=>(match l[i]? with
 |some o=>o.after.all λe=>decide (e.on<i)
 |none=>true)&&(if i<m then bg l m i else true)
theorem vX{l:List Oper}{i j:Nat}(h:bg l i j=true):∃o,l[i]? = some o/\∃e∈o.after,Region.binds .any e=true/\e.on=j:=by
 unfold bg at h;split at h
 ·rename_i o ho;obtain⟨e,he,hb⟩:=Array.any_eq_true'.1 h;simp only[Bj,beq_iff_eq] at hb;exact⟨o,ho,e,he,hb.1,hb.2⟩
 ·cases h
theorem jW{l:List Oper}(h:vG l=true){i:Nat}{o:Oper}(ho:l[i]? = some o)(y:Nat->Option Bool):Region.wanted o y=true:=by
 have:=Kh.1 h o (MB ho);have hg:o.guard=none:=by simpa using this
 simp[Region.wanted,hg]
theorem Ho{l:List Oper}(hp:vG l=true){i:Nat}{o:Oper}(ho:l[i]? = some o){K:Act->World->Prop}{a:Act}{w:World}(h:o.wp P a w K Q):wpOp P l.toArray Q i K a w:=by
 unfold wpOp;have:l.toArray[i]? = some o:=by simpa using ho
 simp only[this];rw[if_pos (jW hp ho _)];exact .inl h
theorem AAE {l:List Oper} {m:Nat} (hB:sP l m=true) {I:Array Bool->Act->World->Prop}
  (iS:∀i o L a w,l[i]? = some o->i<m->L.size=m+1->L.getD i true=false->(∀j,bg l i j=true->L.getD j false=true)->I L a w->o.wp P a w (λa' w'=>I (L.setIfInBounds i true) a' w') Q)
  (ZD:∀o L a w,l[m]? = some o->(∀j,j<m->L.getD j false=true)->I L a w->o.wp P a w (λa' w'=>Q .normal a' w') Q):
  ∀(fuel:Nat) (L:Array Bool) (a:Act) (w:World),L.toList.count false=fuel->L.size=m+1->L.getD m true=false->I L a w->wpAny P .any l.toArray Q fuel L a w:=by
 simp only[sP,Bj,beq_iff_eq] at hB;obtain⟨⟨hl,hp⟩,fS⟩:=hB;have hdag:∀(i:Nat) (o:Oper),l[i]? = some o->∀e∈o.after,e.on<i:=λi o ho e he=>by
  have h1:=Kh.1 fS i (fV.2 (Oa.1 ho).1);simp only[Bj] at h1;have h2:=h1.1;simp only[ho] at h2;have:=Array.all_eq_true_iff_forall_mem.1 h2 e he;simpa using this
 have hm:∀i,i<m->bg l m i=true:=λi hi=>by
  have h1:=Kh.1 fS i (fV.2 (by omega));simp only[Bj] at h1;have h2:=h1.2;rw[if_pos hi] at h2;exact h2
 have aek:∀ {L:Array Bool} {i:Nat},i∈Region.ready .any l.toArray L->L.getD i true=false/\∃o,l[i]? = some o/\∀j,bg l i j=true->L.getD j false=true:=λ{L i} hi=>by
  obtain⟨h0,o,ho,h1⟩:=mem_ready.1 hi;have i7:l[i]? = some o:=by simpa using ho
  refine⟨h0,o,i7,λj hj=>?_⟩;obtain⟨o',ho2,e,he,hb,hon⟩:=vX hj;have:o'=o:=WT (ho2.symm.trans i7);subst this;rw[<- hon];exact h1 e he hb
 have aa0:∀(L:Array Bool),L.size=m+1->L.getD m true=false->Region.ready .any l.toArray L ≠ []:=λL hs HN=>by
  have hex:∃i,i<=m/\L.getD i true=false/\∀j,j<i->L.getD j true=true:=by
   have : ∀k,k<=m->(∀j,j<k->L.getD j true=true)\/∃i,i<k/\L.getD i true=false/\∀j,j<i->L.getD j true=true:=by
    intro k
    induction k with
    |zero=>intro _;exact .inl λj hj=>by omega
    | succ k ih=>
     intro hk;rcases ih (by omega) with h|⟨i,hi,h1,h2⟩
     ·cases hv:L.getD k true with
      | true=>
       refine .inl λj hj=>?_
       rcases kz j k with h'|h'
       ·exact h j h'
       ·have:j=k:=by omega
        subst this;exact hv
      |false=>exact .inr ⟨k,by omega,hv,h⟩
     ·exact .inr ⟨i,by omega,h1,h2⟩
   rcases this m (Ie _) with h|⟨i,hi,h1,h2⟩
   ·exact⟨m,Ie _,HN,h⟩
   ·exact⟨i,by omega,h1,h2⟩
  obtain⟨i,GS,hi,bj⟩:=hex;have hil:i<l.length:=by omega
  have:i∈Region.ready .any l.toArray L:=mem_ready.2 ⟨hi,l[i],by simp[hil],λe he _=>by
   have h1:=bj e.on (hdag i l[i] (by simp[hil]) e he);have h2:=hdag i l[i] (by simp[hil]) e he;rw[YJ] at h1 ⊢;have hs2:e.on<L.size:=by omega
   simp[hs2] at h1 ⊢;exact h1⟩
  exact List.ne_nil_of_mem this
 have eE:∀ {L:Array Bool} {i:Nat},L.getD i true=false->∃h:i<L.size,L[i]=false:=λ{L i} h=>by
  rcases kz i L.size with h'|h'
  ·refine⟨h',?_⟩;simpa[YJ,h'] using h
  ·simp[uM h'] at h
 have adB:∀ {L:Array Bool} {i:Nat},L.getD i true=false->L.toList.count false=(L.setIfInBounds i true).toList.count false+1:=λ{L i} h=>by
  obtain⟨h1,h2⟩:=eE h;have h3:false∈L.toList:=by
   have:=Array.getElem_mem h1;rw[h2] at this;simpa using this
  have h4:=List.count_pos_iff.2 h3;rw[Array.toList_setIfInBounds,List.count_set (by simpa using h1)];have h5:L.toList[i]'(by simpa using h1)=false:=by simpa using h2
  rw[h5];show _=((L.toList.count false-1)+0)+1;omega
 intro fuel
 induction fuel with
 |zero=>
  intro L a w hc hs HN hI;have:=adB HN;omega
 | succ fuel ih=>
  intro L a w hc hs HN hI;refine⟨λh=>absurd h (aa0 L hs HN),λi hi=>?_⟩;obtain⟨h0,o,ho,hd⟩:=aek hi;have j8:=adB h0;have GS:i<m+1:=by
   obtain⟨h1,-⟩:=eE h0;omega
  by_cases bj:i=m
  ·subst bj;have fS:∀j,j<i->L.getD j false=true:=λj hj=>hd j (hm j hj)
   refine Ho hp ho (Oper.wp_mono (λa' w' hQ=>wpAny_done ?_ hQ fuel) (ZD o L a w ho fS hI));rw[List.eq_nil_iff_forall_not_mem];intro j hj;obtain⟨h1,o',i7,-⟩:=aek hj;by_cases hji:i=j
   ·subst hji;have cX:i<L.size:=by omega
    simp[cX] at h1
   ·rw[getD_set_ne true hji] at h1;obtain⟨h2,-⟩:=eE h1;have h3:=fS j (by omega);rw[getD_both h1] at h3;cases h3
  ·refine Ho hp ho (Oper.wp_mono (λa' w' hI'=>ih _ a' w' (by omega) (by simpa using hs) (by rw[getD_set_ne true bj];exact HN) hI') (iS i o L a w ho (by omega) hs h0 hd hI))
theorem bz{l:List Oper}{m id:Nat}(hM:P.follows .mixedOrders=true)(hB:sP l m=true){I:Array Bool->Act->World->Prop}{a:Act}{w:World}
  (iS:∀i o L a w,l[i]? = some o->i<m->L.size=m+1->L.getD i true=false->(∀j,bg l i j=true->L.getD j false=true)->I L a w->o.wp P a w (λa' w'=>I (L.setIfInBounds i true) a' w') Q)
  (ZD:∀o L a w,l[m]? = some o->(∀j,j<m->L.getD j false=true)->I L a w->o.wp P a w (λa' w'=>Q .normal a' w') Q)
  (h0:I (Array.replicate (m+1) false) a { w with drawn:=w.drawn+1 }):(Code.region id l.toArray true).wp P Q a w:=by
 have hl:l.length=m+1:=by
  simp only[sP,Bj,beq_iff_eq] at hB;exact hB.1.1
 refine wp_region_any hM ?_;have e:l.toArray.size=m+1:=by simpa using hl
 rw[e];exact AAE hB iS ZD (m+1) _ _ _ (by simp) (by simp) (by simp) h0
def Kr(l:List Oper)(i:Nat):Nat:=((l[i]?).bind (·.dst)).getD 0
def ANn(l:List Oper)(m:Nat):Bool:=(List.range m).all λi=>(List.range m).all λj=>i == j||Kr l i != Kr l j
theorem ANm{l:List Oper}{m i j:Nat}(h:ANn l m=true)(hi:i<m)(hj:j<m)(cj:i≠j):Kr l i≠Kr l j:=by
 have h1:=Kh.1 (Kh.1 h i (fV.2 hi)) j (fV.2 hj);simp only[Bool.or_eq_true,beq_iff_eq,cj,false_or,bne_iff_ne] at h1;exact h1
theorem YD{l:List Oper}{N m id:Nat}(hM:P.follows .mixedOrders=true)(hB:(sP l m&&ANn l m)=true){a:Act}{w:World}{f0:Nat->Value}(F0:Fr a N f0)
  (FV:Nat->Value->World->Prop) (eN:∀j v w1 w2,FV j v w1->BD w1 w2 (λ_ _=>False)->FV j v w2)
  (iS:∀i o f a w1 K,l[i]? = some o->i<m->Fr a N f->(∀t,(∀j,j<m->t≠Kr l j)->f t=f0 t)->BD w w1 (λ_ _=>False)->(∀j,bg l i j=true->FV j (f (Kr l j)) w1)->(∀v a' w2,Fr a' N (Rw f (Kr l i) v)->BD w1 w2 (λ_ _=>False)->FV i v w2->K a' w2)->o.wp P a w1 K Q)
  (ZD:∀o f a w1,l[m]? = some o->Fr a N f->(∀t,(∀j,j<m->t≠Kr l j)->f t=f0 t)->BD w w1 (λ_ _=>False)->(∀j,j<m->FV j (f (Kr l j)) w1)->o.wp P a w1 (λa' w'=>Q .normal a' w') Q):(Code.region id l.toArray true).wp P Q a w:=by
 rw[Bj] at hB;refine bz hM hB.1 (I:=λL a w1=>∃f,Fr a N f/\(∀t,(∀j,j<m->t≠Kr l j)->f t=f0 t)/\BD w w1 (λ_ _=>False)/\∀j,j<m->L.getD j false=true->FV j (f (Kr l j)) w1) ?_ ?_ ⟨f0,F0,λ_ _=>rfl,(BD.refl _ _).of_heap rfl rfl rfl rfl,λj _ h=>by rw[getD_replicate_false] at h;cases h⟩
 ·intro i o L a w1 ho GS hs HN hd ⟨f,F,hu,hf,hv⟩;have hdm:∀j,bg l i j=true->j<m:=λj hj=>by
   have hB1:=hB.1;simp only[sP,Bj,beq_iff_eq] at hB1;obtain⟨o',i7,e,he,-,hon⟩:=vX hj;have h1:=Kh.1 hB1.2 i (fV.2 (Oa.1 i7).1);simp only[Bj,i7] at h1;have h2:=Array.all_eq_true_iff_forall_mem.1 h1.1 e he;have h3:e.on<i:=by simpa using h2
   omega
  refine iS i o f a w1 _ ho GS F hu hf (λj hj=>hv j (hdm j hj) (hd j hj)) λv a' w2 F' zd hFV=>⟨_,F',λt ht=>?_,hf.trans zd,λj hj hL=>?_⟩
  ·rw[<- hu t ht];exact Kq (Ne.symm (ht i GS))
  ·by_cases hji:j=i
   ·subst hji;rw[ZB];exact hFV
   ·rw[Kq (ANm hB.2 GS hj (Ne.symm hji))];rw[getD_set_ne false (Ne.symm hji)] at hL;exact eN _ _ _ _ (hv j hj hL) zd
 ·intro o L a w1 ho fS ⟨f,F,hu,hf,hv⟩;exact ZD o f a w1 ho F hu hf λj hj=>hv j hj (fS j hj)
def AEt(l:List Oper)(m t:Nat):Bool:=(List.range m).all λj=>Kr l j != t
theorem zW{l:List Oper}{m t:Nat}(h:AEt l m t=true):∀j,j<m->t≠Kr l j:=λj hj=>by
 have:=Kh.1 h j (fV.2 hj);simp only[bne_iff_ne] at this;exact Ne.symm this
theorem Xe{l:List Oper}{N m id:Nat}(hM:P.follows .mixedOrders=true)(hB:(sP l m&&ANn l m)=true){a:Act}{w:World}{f0:Nat->Value}(F0:Fr a N f0)
  (FV:Nat->Value->World->Prop) (eN:∀j v w1 w2,FV j v w1->BD w1 w2 (λ_ _=>False)->FV j v w2)
  (iS:∀i o f a w1 K,l[i]? = some o->i<m->Fr a N f->(∀t,AEt l m t=true->f t=f0 t)->BD w w1 (λ_ _=>False)->(∀j,bg l i j=true->FV j (f (Kr l j)) w1)->(∀v a' w2,Fr a' N (Rw f (Kr l i) v)->BD w1 w2 (λ_ _=>False)->FV i v w2->K a' w2)->o.wp P a w1 K Q)
  (ZD:∀o f a w1,l[m]? = some o->Fr a N f->(∀t,AEt l m t=true->f t=f0 t)->BD w w1 (λ_ _=>False)->(∀j,j<m->FV j (f (Kr l j)) w1)->o.wp P a w1 (λa' w'=>Q .normal a' w') Q):(Code.region id l.toArray true).wp P Q a w:=
 YD hM hB F0 FV eN (λi o f a w1 K ho hi F hu=>iS i o f a w1 K ho hi F λt ht=>hu t (zW ht)) λo f a w1 ho F hu=>ZD o f a w1 ho F λt ht=>hu t (zW ht)
theorem AGx{l:List Oper}{m t:Nat}{ks:List Nat}(h:ks.all (AEt l m)=true)(ht:t∈ks):AEt l m t=true:=Kh.1 h t ht
theorem PS{l:List Oper}{N id:Nat}{a:Act}{w:World}(hM:P.follows .mixedOrders=true)(hN:l.length=N)(h:wpAny P .any l.toArray Q N (Array.replicate N false) a { w with drawn:=w.drawn+1 }):(Code.region id l.toArray true).wp P Q a w:=by
 refine wp_region_any hM ?_;have e:l.toArray.size=N:=by simpa using hN
 rw[e];exact h
theorem Xi(w:World):BD w { w with drawn:=w.drawn+1 } (λ_ _=>False):=(BD.refl _ _).of_heap rfl rfl rfl rfl
def fC(ops:Array Oper)(al:Nat):List Nat->Array Bool->Bool
 | [],L=>Region.ready .any ops L == [al]
 |c::cs,L=>((Region.ready .any ops L).all λi=>i == c||i == al) && !(Region.ready .any ops L).isEmpty&&(Region.ready .any ops (L.setIfInBounds al true) == [c])&&al != c&&fC ops al cs (L.setIfInBounds c true)
def ADr:List Nat->Array Bool->Array Bool
 | [],L=>L
 |c::cs,L=>ADr cs (L.setIfInBounds c true)
theorem FM{ops:Array Oper}{L:Array Bool}{i F:Nat}{a:Act}{w:World}(hr:Region.ready .any ops L= [i])(h:wpOp P ops Q i (wpAny P .any ops Q F (L.setIfInBounds i true)) a w):wpAny P .any ops Q (F+1) L a w:=
 wpAny_all hr (by simp) λj hj=>by
  rw[NU] at hj;subst hj;exact h
theorem gG{P:Program}{Q:Exit->Act->World->Prop}{ops:Array Oper}{Pk:Nat->Bool->Act->World->Prop}{c:Nat}{cs:List Nat}{k:Nat}(hs:∀j x,(c::cs)[j]? = some x->∀fl a w,Pk (k+j) fl a w->wpOp P ops Q x (Pk (k+j+1) fl) a w):∀j x,cs[j]? = some x->∀fl a w,Pk (k+1+j) fl a w->wpOp P ops Q x (Pk (k+1+j+1) fl) a w:=λj x hj fl a w hp=>by
 have:=hs (j+1) x (by simpa using hj) fl a w (by rw[show k+(j+1)=k+1+j by omega];exact hp);rwa [show k+(j+1)=k+1+j by omega] at this
theorem dw{ops:Array Oper}{al F:Nat}{Pk:Nat->Bool->Act->World->Prop}:∀(cs:List Nat) (k:Nat) (L:Array Bool) (a:Act) (w:World),fC ops al cs L=true->(∀j x,cs[j]? = some x->∀fl a w,Pk (k+j) fl a w->wpOp P ops Q x (Pk (k+j+1) fl) a w)->
  (∀a w,Pk (k+cs.length) true a w->wpAny P .any ops Q F ((ADr cs L).setIfInBounds al true) a w)->Pk k true a w->wpAny P .any ops Q (F+cs.length) (L.setIfInBounds al true) a w
 | [],k,L,a,w,_,_,he,h=>he a w h
 |c::cs,k,L,a,w,hB,hs,he,h=>by
  simp only[fC,Bj,beq_iff_eq,bne_iff_ne] at hB;rw[NY, <- WZ];refine FM hB.1.1.2 (wpOp_mono (λa' w' h'=>?_) (hs 0 c rfl true a w h));rw[Array.setIfInBounds_comm _ _ hB.1.2];exact dw cs (k+1) _ a' w' hB.2 (gG hs) (λa w h=>he a w (by rw[NY,show k+(cs.length+1)=k+1+cs.length by omega];exact h)) h'
theorem ZJ{ops:Array Oper}{al F:Nat}{Pk:Nat->Bool->Act->World->Prop}(hal:∀k a w,Pk k false a w->wpOp P ops Q al (Pk k true) a w):∀(cs:List Nat) (k:Nat) (L:Array Bool) (a:Act) (w:World),fC ops al cs L=true->(∀j x,cs[j]? = some x->∀fl a w,Pk (k+j) fl a w->wpOp P ops Q x (Pk (k+j+1) fl) a w)->
  (∀a w,Pk (k+cs.length) true a w->wpAny P .any ops Q F ((ADr cs L).setIfInBounds al true) a w)->Pk k false a w->wpAny P .any ops Q (F+cs.length+1) L a w
 | [],k,L,a,w,hB,_,he,h=>by
  simp only[fC,beq_iff_eq] at hB;exact FM hB (wpOp_mono (λa' w' h'=>he a' w' h') (hal k a w h))
 | c::cs,k,L,a,w,hB0,hs,he,h=>by
  have hB:=hB0;simp only[fC,Bj,beq_iff_eq,bne_iff_ne,Bool.not_eq_true',Kh,Bool.or_eq_true] at hB;refine⟨λh0=>(by rw[h0] at hB;exact absurd hB.1.1.1.2 (by simp)),λi hi=>?_⟩;rcases hB.1.1.1.1 i hi with rfl|rfl
  ·rw[NY];refine wpOp_mono (λa' w' h'=>?_) (hs 0 i rfl false a w h);exact ZJ hal cs (k+1) _ a' w' hB.2 (gG hs) (λa w h=>he a w (by rw[NY,show k+(cs.length+1)=k+1+cs.length by omega];exact h)) h'
  ·exact wpOp_mono (λa' w' h'=>dw (c::cs) k L a' w' hB0 hs he h') (hal k a w h)
theorem yld{l:List Oper}{o:Oper}{v:Value}{a:Act}(hg:o.guard=none)(h:∀w,(execOp a.eval o).run P w= .ok (.value v) w):Yields P l.toArray o v a:=.inl ⟨by simp[Region.wanted,hg],h⟩
theorem OI{l:List Oper}{i t n fuel:Nat}{oi:Oper}{v:Value}{L:Array Bool}{a:Act}{w:World}{f:Nat->Value}(hi:l[i]? = some oi)(F:Fr a n f)(hg:oi.guard=none)(hd:oi.dst=some t)(ht:Nat.blt t n=true)
  (hB:(Region.noSelect l.toArray&&Region.free .any l.toArray L i&&(Region.ready .any l.toArray L).contains i)=true) (hQ:∀c a w,¬Q (.panic c) a w) (h:∀w,(execOp a.eval oi).run P w= .ok (.value v) w)
  (hn:∀a',Fr a' n (Rw f t v)->wpAny P .any l.toArray Q fuel (L.setIfInBounds i true) a' w):wpAny P .any l.toArray Q (fuel+1) L a w:=by
 simp only[Bj] at hB;refine wpAny_take (by simpa using hi) hB.1.1 hB.1.2 hB.2 (λc a w h=>absurd h (hQ c _ w)) (yld hg h) (hn _ ?_);rw[hd];exact F.put ht v
end
end
section
open Go Go.RowKit Go.Lib Ma
theorem ASb:2*Vu<=pw 8:=by decide +kernel
theorem APT:1<Vu:=by decide +kernel
section
variable{GB:Nat}{GC:Nat->Nat->Option Value}{ad:Nat->Nat×Nat}(hG:GI GB GC ad){w:World}(ε:GW GC w)(δ:GB<=w.heap.size)
include hG ε δ
theorem eG:Calls Tryz.prog 19 #[] w (ql GC U8 (H8.raw IE 0 []) w):=by
 have:=Mc (F:=λa=>BF 8 (H8.raw IE 0 a)) (ks:=U8) (args:=[]) (ins:=[]) (bs:=[]) ε δ (dD hG) rfl rfl trivial trivial (λh=>absurd (show false=true from h) (by decide));rw[Ay Zu.len] at this;exact this
end
def hsN(m:List Int):Nat:=((Cm (Qt m))%Vu).toNat
theorem AMA(m:List Int):((hsN m:Nat):Int)=Cm (Qt m)%Vu:=Int.toNat_of_nonneg (Int.emod_nonneg _ (by decide +kernel))
theorem Ku.fy{w:World}{v:Value}{xs:List Int}(h:Ku w v xs):∀x∈xs,0<=x/\x<=255:=by
 obtain⟨_,_,_,_,h,_⟩:=h;exact h
structure NnP (GC:Nat->Nat->Option Value) (n:Nat) (w:World) (e:Ending) (w':World):Prop where
 ex:∃l,N8 l (n:Int)/\ql GC U8 l w e w'
theorem Va{x y:List Int}(hx:∀z∈x,0<=z/\z<=255)(hy:∀z∈y,0<=z/\z<=255):∀z∈x++y,0<=z/\z<=255:=λz h=>by
 rcases qM.1 h with h|h
 ·exact hx z h
 ·exact hy z h
set_option maxRecDepth 100000 in
theorem dJ{GB:Nat}{GC:Nat->Nat->Option Value}{ad:Nat->Nat×Nat}(hG:GI GB GC ad){w:World}(ε:GW GC w)(δ:GB<=w.heap.size){dv rv pv mv:Value}{d r p m:List Int}(hd:Ku w dv d)(hr:Ku w rv r)(hp:Ku w pv p)(hm:Ku w mv m)(h0:0<r.length)(ld:d.length<=1000)(lr:r.length<=1000)(lp:p.length<=1000)(lm:m.length<1099511627776/2):
  Calls Tryz.prog 21 #[dv,rv,pv,mv] w (NnP GC (hsN (d++r++p++m)) w):=by
 refine enter (args:=[dv,rv,pv,mv]) Tryz.func21 rfl (n:=23) rfl λa F=>?_
 refine AP (AZ F rfl nE λa F=>AJ ?_);have M1:=Dj w 8 .u64 40 ⟨by decide,by decide⟩;have f1:BD w (w.alloc (.cells (Array.replicate 8 (.int .u64 0)) 40)) (λ_ _=>False):=BC _ _ _;have s1:(w.alloc (.cells (Array.replicate 8 (.int .u64 0)) 40)).heap.size=w.heap.size+1:=EC _ _;generalize w.alloc (.cells (Array.replicate 8 (.int .u64 0)) 40)=w1 at M1 f1 s1 ⊢;refine AP (AZ F rfl ADm λa F=>AA F rfl λa F=>?_);have O2:=iD w1 #[] 0 (by omega) rfl;have b2:=DT w1 (.cells #[] 5);generalize w1.alloc (.cells #[] 5)=w2 at O2 b2 ⊢;have q2:BD w w2 (λ_ _=>False):=f1.trans (HY b2);refine ja F rfl O2 (hd.cr q2) (by rw[HM];omega) b2.size λv3 w3 a O3 b3 F=>AA F rfl λa F=>?_
 rw[MA] at O3;have b3':=b2.trans b3;refine ja F rfl O3 (hr.cr (f1.trans (HY b3'))) (by omega) b3'.size λv4 w4 a O4 b4 F=>AA F rfl λa F=>?_
 have MD:=b3'.trans b4;refine ja F rfl O4 (hp.cr (f1.trans (HY MD))) (by rw[NC];omega) MD.size λv5 w5 a O5 b5 F=>AA F rfl λa F=>?_
 have b5':=MD.trans b5;refine ja F rfl O5 (hm.cr (f1.trans (HY b5'))) (by simp only[NC];omega) b5'.size λv6 w6 a O6 b6 F=>AB F rfl λa F=>AJ ?_
 have b6':=b5'.trans b6;have f6:BD w w6 (λ_ _=>False):=f1.trans (HY b6');have M6:AO true w6 (w.heap.size,0) U8 (List.replicate 8 0):=M1.an (HY (S:=λ_ _=>False) b6') λ_ _ h=>h
 have hA:=O6.msg (Va (Va (Va hd.fy hr.fy) hp.fy) hm.fy);have hlen:(d++r++p++m).length=d.length+r.length+p.length+m.length:=by simp only[NC]
 have hN:=AMA (d++r++p++m);generalize d++r++p++m=A at *
 refine AP (AA F rfl λa F=>EG F rfl (BJ rfl F.e Tryz.call40) (ACW hG (F4 hG ε f6 δ) (EX δ f6.1) hA (by omega) (by omega)) λe w7 h7=>?_);obtain⟨v7,he7,m7⟩:=h7.ret;obtain⟨b,o,c,hv7,hc,h8⟩:=m7.has (by rw[JN];omega);rw[JN] at hv7 hc;subst hv7;have f7:=f6.trans h7.an;refine⟨_,he7,λa F=>EG F rfl (LG rfl Tryz.call19) (eG hG h7.gw (EX δ f7.1)) λe w8 h9=>⟨_,h9.ret,λa F=>?_⟩⟩;have f8:=f7.trans h9.an;have h88:=h8.cr h9.an;refine EG F rfl (Bg rfl F.e F.e Tryz.call39) (pV hG h9.gw (EX δ f8.1) (h88.lt (by rw[JN];omega)) h88 (JN _) (by omega) h9.fy Zu ASb APT) λe w9 iu=>?_
 obtain⟨l,hl,iu⟩:=iu;refine⟨_,iu.ret,λa F=>?_⟩;have f9:=f8.trans iu.an;have M9:AO true w9 (w.heap.size,0) U8 (List.replicate 8 0):=((M6.an h7.an λ_ _ h=>h).an h9.an λ_ _ h=>h).an iu.an λ_ _ h=>h
 have hll:(AL U8 l).length=8:=Cg iu.fy.1;refine FB F rfl rfl (Kb (cs:=AL U8 l) (λw=>by rw[hll];simp[go_sem]) F.e F.e D7 (λj hj=>M9.ex j (by rw[hll] at hj;exact hj))) λa F=>AJ ?_
 have M10:=Iw iu.fy M9.ex;have f10:BD w (w9.setCells w.heap.size 0 (AL U8 l)) (λ_ _=>False):=BG _ _ f9 λ_ _=>.inl (Ie _)
 rw[<- hN] at hl;refine Cn ⟨F.df,.agg (AL U8 l).toArray,?_,⟨l,hl,rfl,iu.fy,f10,F4 hG ε f10 δ⟩⟩;exact TH rfl ((F.tm 8).trans rfl) (V6 (cs:=AL U8 l) (λw=>by simp[go_sem]) (λw=>by rw[hll];simp[go_sem]) M10.cJ)
theorem AIG{w:World}{s:ByteArray}:Calls Tryz.prog 9 #[.int .i64 (-1),.string s] w (λe w'=>e= .returned (.slice none 0 0)/\w=w'):=by
 refine enter (args:=[.int .i64 (-1),.string s]) Tryz.func9 rfl (n:=18) rfl λa F=>?_
 refine AP (Aj F rfl λa F=>AJ ?_);refine wp_seq (wp_seq (cp (AA F rfl λa F=>AZ F rfl (Qc (i:= -1) (j:=0) F.e rfl) λa F=>CY ?_)));refine wp_cond (t:=true) F.e ?_;refine AP (Aj F rfl λa F=>AJ ?_);refine Cn ⟨F.df,.slice none 0 0,?_,rfl,rfl⟩;have q:=F.tm 4;rw[YJ] at q;simp[results,Tryz.results9,go_sem];exact q
end
section
open Go Ma
theorem AHm:Vu=Oq:=rfl
theorem AH0{y:List Int}{v:Int}{n:Nat}(h:Qu y v)(hn:((n:Nat):Int)=v%Vu):sbF y=cC 32 n:=by
 have h5:=AMC AJ6 h;rw[<- AHm, <- hn] at h5;exact h5.cC
end
section
open Go Go.RowKit Go.Lib Ma
section
variable{ρ:Operand->Value}{d:Option Tmp}{x y z:Operand}{ty:TypeId}{pos:String}{af:Array Edge}{w:World}
theorem Rs{g:Nat}{p:Operand}{u v k m:Value}(hF:ρ (.func g)= .func (.func g) #[] #[])(h:ρ x=u)(hy:ρ y=v)(hz:ρ z=k)(hp:ρ p=m){at_:Array TypeId}(hc:∀(vs:Array Value) (w:World),(callFunc g vs).run Tryz.prog w= .ok (.enter g vs) w):(execOp ρ ⟨d,.call ⟨.value (.func g),#[x,y,z,p],at_⟩,ty,pos,af,none⟩).run Tryz.prog w= .ok (.enter g #[u,v,k,m]) w:=by
 simp[go_sem,hF,h,hy,hz,hp,hc]
end
section
variable{GB:Nat}{GC:Nat->Nat->Option Value}{ad:Nat->Nat×Nat}(hG:GI GB GC ad)
include hG
end
section
variable{GB:Nat}{GC:Nat->Nat->Option Value}{ad:Nat->Nat×Nat}(hG:GI GB GC ad)
include hG
end
end
section
open Go Go.RowKit Go.Lib Ma
theorem AFM{ρ:Operand->Value}{d:Option Tmp}{x y:Operand}{ty:TypeId}{pos:String}{af:Array Edge}{w:World}{b o m c k:Nat}(hx:ρ x= .slice (some ⟨b,o,none⟩) m c)(hy:ρ y= .int .i64 (k:Int))(h1:k<m)(h2:m<=c):(execOp ρ ⟨d,.slice 22 x (some y) none none,ty,pos,af,none⟩).run Tryz.prog w= .ok (.value (.slice (some ⟨b,o+k,none⟩) (m-k) (c-k))) w:=by
 have hu:=run_underlying (w:=w) Tryz.underlying22;have rj:∀code,(Instr.sliceBound (.int .i64 (k:Int)) m code).run Tryz.prog w= .ok k w:=λcode=>Bn _ w (by omega) code
 simp only[execOp,hx,hy,UT,Option.map_none,Instr.sliceAt,Instr.slice,Gi,hu,Fb];simp only[Instr.sliceBounds,rj,sz8,Gi,I4,Fb];have cj:¬(c=k):=by omega
 simp[cj,Ce]
section
end
structure S3 (w:World) (dv sv mv pv hv:Value) (b7 o7 c7:Nat) (f:Nat->Value) (w1:World):Prop where
 f0:f 0=dv
 f1:f 1=sv
 f2:f 2=mv
 f7:f 7=hv
 f8:f 8=pv
 f19:f 19=dv
 f22:f 22= .slice (some ⟨b7,o7+32,none⟩) 32 (c7-32)
 f24:f 24=mv
 fr:BD w w1 (λ_ _=>False)
def C3(B:Nat)(d h m:List Int):Nat->(Nat->Value)->World->Prop
 |0,_,_=>True
 |1,f,w1=>RX w1 B (f 18) []
 |2,f,w1=>RX w1 B (f 20) d
 |3,f,w1=>RX w1 B (f 23) (d++h)
 |4,f,w1=>RX w1 B (f 25) (d++h++m)
 |5,f,w1=>∃b o c,f 26= .slice (some ⟨b,o,none⟩) 64 c/\DD w1 b o (Qt (d++h++m))
 |6,f,w1=>(∃b o c,f 26= .slice (some ⟨b,o,none⟩) 64 c/\DD w1 b o (Qt (d++h++m)))/\f 27= .agg (AL U8 (H8.raw IE 0 [])).toArray/\EP U8 (H8.raw IE 0 [])
 |_,f,_=>∃l,f 28= .agg (AL U8 l).toArray/\EP U8 l/\N8 l (hsN (d++h++m):Nat)
def A3(B k:Nat)(f:Nat->Value)(w1:World):Prop:=∃g,f 9= .pointer (some ⟨g,0,none⟩)/\B<=g/\AO true w1 (g,0) U8 (List.replicate 8 0)/\(k<=4->∃cur,w1.heap[g]? = some (.cells cur 40 (0,0)))
theorem A3.an{B k k':Nat}{f f':Nat->Value}{w1 w2:World}(h:A3 B k f w1)(hf:BD w1 w2 (λ_ _=>False))(h9:f' 9=f 9)(hk:k'<=4->k<=4/\∀g,g<w1.heap.size->w2.heap[g]? = w1.heap[g]?):A3 B k' f' w2:=by
 obtain⟨g,e,hB,m,hc⟩:=h;refine⟨g,h9.trans e,hB,m.an hf λ_ _ h=>h,λgj=>?_⟩;obtain⟨h1,h2⟩:=hk gj;obtain⟨cur,afm⟩:=hc h1;refine⟨cur,?_⟩;rw[h2 g ((m.2 0 .u64 0 rfl rfl).lt)];exact afm
theorem AOG{B C:Nat}{w:World}{v:Value}{xs:List Int}(h:RX w B v xs)(hc:C<=B):RX w C v xs:=by
 refine⟨h.1,?_⟩;rcases h.2 with h2|⟨g,cap,cur,h1,h2,h3⟩
 ·exact .inl h2
 ·exact .inr ⟨g,cap,cur,h1,by omega,h3⟩
theorem C3.alloc{B k:Nat}{d h m:List Int}{f f':Nat->Value}{w1:World}{o:Obj}(hc:C3 B d h m k f w1)(hf:∀t,t ∈ [18,20,23,25,26,27,28]->f' t=f t):C3 B d h m k f' (w1.alloc o):=by
 have hb:=DT w1 o;have Dd:BD w1 (w1.alloc o) (λ_ _=>False):=BC _ _ _
 match k,hc with
 |0,_=>trivial
 |1,hc=>exact(show RX _ _ _ _ by rw[hf 18 (by decide)];exact RX.below hc hb)
 |2,hc=>exact(show RX _ _ _ _ by rw[hf 20 (by decide)];exact RX.below hc hb)
 |3,hc=>exact(show RX _ _ _ _ by rw[hf 23 (by decide)];exact RX.below hc hb)
 |4,hc=>exact(show RX _ _ _ _ by rw[hf 25 (by decide)];exact RX.below hc hb)
 |5,⟨b,o,c,h1,h2⟩=>exact⟨b,o,c,(hf 26 (by decide)).trans h1,h2.cr Dd⟩
 |6,⟨⟨b,o,c,h1,h2⟩,h3,h4⟩=>exact⟨⟨b,o,c,(hf 26 (by decide)).trans h1,h2.cr Dd⟩,(hf 27 (by decide)).trans h3,h4⟩
 |k+7,⟨l,h1,h2,h3⟩=>exact⟨l,(hf 28 (by decide)).trans h1,h2,h3⟩
def P3(w:World)(dv sv mv pv hv:Value)(b7 o7 c7:Nat)(d h m:List Int)(k:Nat)(fl:Bool)(a:Act)(w1:World):Prop:=
 ∃f,Fr a 56 f/\S3 w dv sv mv pv hv b7 o7 c7 f w1/\C3 w.heap.size d h m k f w1/\(fl=true->A3 w.heap.size k f w1)
theorem S3.cH{w:World}{dv sv mv pv hv:Value}{b7 o7 c7:Nat}{f f':Nat->Value}{w1 w2:World}(s:S3 w dv sv mv pv hv b7 o7 c7 f w1)(hf:∀t,t ∈ [0,1,2,7,8,19,22,24]->f' t=f t)(hr:BD w w2 (λ_ _=>False)):S3 w dv sv mv pv hv b7 o7 c7 f' w2:=
 ⟨(hf 0 (by decide)).trans s.f0,(hf 1 (by decide)).trans s.f1,(hf 2 (by decide)).trans s.f2,(hf 7 (by decide)).trans s.f7,(hf 8 (by decide)).trans s.f8,(hf 19 (by decide)).trans s.f19,(hf 22 (by decide)).trans s.f22,(hf 24 (by decide)).trans s.f24,hr⟩
section
variable{GB:Nat}{GC:Nat->Nat->Option Value}{ad:Nat->Nat×Nat}(hG:GI GB GC ad)
include hG
end
end
section
open Go Go.RowKit Go.Lib Ma
section
variable{GB:Nat}{GC:Nat->Nat->Option Value}{ad:Nat->Nat×Nat}(hG:GI GB GC ad)
include hG
end
end
end Go.Proofs.YtkbfdaoohhmgoaaGreatDoor
