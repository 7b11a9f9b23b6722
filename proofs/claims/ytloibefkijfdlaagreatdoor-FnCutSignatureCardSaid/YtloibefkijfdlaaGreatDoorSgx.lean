/- signWithDom: the pieces that the executor walks. -/
import Derived.Test.YtloibefkijfdlaaGreatDoorWc
namespace Go.Proofs.YtloibefkijfdlaaGreatDoor
noncomputable section
open Go
def rS(k:Nat):Code:=YG k (Ak Tryz.f91)
def pcS(c:Code)(ps:List GD)(sl:List Nat)(outs:List (Nat×List IntKind×PF)):JJ:=⟨6000,c,Tryz.f91.ntmps,99,[],⟨ps,true,λ_=>True,outs,[],[]⟩,sl,(SF c).filter (λt=>T9 t sl),λ_=>1⟩
def We:List IntKind:=List.replicate 64 .u8++List.replicate 4 .u64++List.replicate 32 .u8
def U4:List IntKind:=List.replicate 4 .u64
def RE:V7:=⟨pcS (rS 27) [.mem U4 0 false,.mem We 0 false,.mem U4 0 false] [18,1,13] [],[19],[.mem U4 1 true]⟩
def Mz:V7:=⟨pcS (rS 28) [.sl (List.replicate 64 .u8) 1 true,.mem (List.replicate 20 .u64) 0 false] [0,15] [(0,List.replicate 64 .u8,z1)],[],[]⟩
def Mu:V7:=⟨pcS (rS 29) [.sl (List.replicate 64 .u8) 1 true,.mem U4 0 false] [0,19] [(0,List.replicate 64 .u8,z1)],[],[]⟩
def yh:Cx:=Ht [(98,.one G5),(106,.one DX)] []
def RK:Cx:=Ht [(104,.one BL)] []
def S7:Cx:=Ht [(107,.one BG)] []
theorem AGq:(RE.dc yh&&Sa (RE.i.tree yh))=true:=by kernel_rfl
theorem AGQ:Mz.dc RK=true:=by kernel_rfl
theorem AFJ:Mu.dc S7=true:=by kernel_rfl
def cp(l:List Int)(o n:Nat):List Int:=(List.range n).map λi=>l.getD (o+i) 0
theorem ARg{T:Tb}{k pk r:List Int}:(RE.stepT T yh [k,pk,r]).map (λx=>x.2)=some [gv T 106 0 [gv T 98 0 [],k,cp pk 64 4,r]]:=by kernel_rfl
theorem ASd{T:Tb}{s p:List Int}:(Mz.stepT T RK [s,p]).map (λx=>x.1.getD 0 [])=some (cp (gv T 104 0 [p]) 0 32++cp s 32 32):=by kernel_rfl
theorem AR1{T:Tb}{s p:List Int}:(Mu.stepT T S7 [s,p]).map (λx=>x.1.getD 0 [])=some (cp s 0 32++cp (gv T 107 0 [p]) 0 32):=by kernel_rfl
end
noncomputable section
open Go
def ob1(f:Nat)(t:Bz):Bool:=match Zk t with
 |some (_,[.pre g [.vec 1]],_,_)=>Nat.beq g f&&LU 2 t
 |_=>false
theorem ABD{T:Tb}{f:Nat}{t:Bz}{x y:List Int}(h:ob1 f t=true)(hp:LM T f [y]):EY T t (Ce [x,y]):=by
 unfold ob1 at h;split at h
 ·rename_i ds g e st hl;simp only[Bl] at h;have e1:=CR h.1;subst e1;obtain⟨k1,-, -, -,k5⟩:=OY (T:=T) (ρ:=Ce [x,y]) h.2 hl;refine k5 λq hq=>?_
  rw[NB] at hq;subst hq;obtain⟨s,hs,Zs⟩:=hp.pre;simp only[JU.den,hs];have:([IZ.vec 1].map (·.den (Dl T (Ce [x,y]) ds)))= [y]:=by
   show[Dl T (Ce [x,y]) ds 1]= [y];rw[k1 1 (by omega)];rfl
  rw[this];exact Zs
 ·cases h
theorem AM0:ob1 104 (Mz.i.tree RK)=true:=by kernel_rfl
theorem ALI:ob1 107 (Mu.i.tree S7)=true:=by kernel_rfl
section
variable{GB:Nat}{GC:Nat->Nat->Option Value}{ad:Nat->Nat×Nat}(hG:Gw GB GC ad)
include hG
theorem AIb:Vt Tryz.prog yh GB GC:=Sn hG (.cons (k:=98) rfl (LK hG) Tryz.call98 (Ad.len _ _) (.cons (k:=106) rfl (MV hG) Tryz.call106 (Ad.len _ _) .nil)) Sw.nil
theorem AKO:Vt Tryz.prog RK GB GC:=Sn hG (.cons (k:=104) rfl (IK hG) Tryz.call104 (Ad.cJ _ _) .nil) Sw.nil
theorem AL5:Vt Tryz.prog S7 GB GC:=Sn hG (.cons (k:=107) rfl (H9 hG) Tryz.call107 (Ad.cJ _ _) .nil) Sw.nil
omit hG in
theorem AJt{C:Cx}(h1:C.loops= [])(h2:C.inl= [])(c:Code)(E:En)(_:E.P=Tryz.prog)(h:E.C=C)(_:E.GB=GB)(_:E.GC=GC):J9 E c/\∀f j,lk f C.inl=some j->J9 E j.c:=
 ⟨J9.of_nil (by rw[h];exact h1) _,λf j hj=>by rw[h2] at hj;cases hj⟩
end
def yo:List Int:=[0,0,0,0]
theorem vw:Et.raw Eu 0 []= [0,0,0,0]:=by kernel_rfl
theorem AML:G5.pr 0= .l λa=>BK 4 (Et.raw Eu 0 a):=rfl
theorem ALk:lk 98 yh.T=some (.one G5):=by kernel_rfl
theorem AIS:lk 104 RK.T=some (.one BL):=by kernel_rfl
theorem AIE:lk 107 S7.T=some (.one BG):=by kernel_rfl
theorem AKF:gv yh.T 98 0 []=yo:=by
 rw[BQ ALk,AML];exact(EH (BK 4) vw).trans rfl
def W8(k s r:List Int):List Int:=gv yh.T 106 0 [yo,k,s,r]
def pbF(p:List Int):List Int:=gv RK.T 104 0 [p]
def sbF(s:List Int):List Int:=gv S7.T 107 0 [s]
theorem ABf{l:List Int}{n:Nat}(h:l.length=n):cp l 0 n=l:=by
 subst h;unfold cp;refine List.ext_getElem (by simp) λi h1 h2=>?_
 simp[List.getD,h2]
theorem PK(l:List Int)(o n:Nat):(cp l o n).length=n:=by simp[cp]
theorem nG{l r:List Int}{n:Nat}(h:l.length=n):cp (l++r) 0 n=l:=by
 subst h;unfold cp;refine List.ext_getElem (by simp) λi h1 h2=>?_
 simp[List.getD,Zm h2,h2]
theorem AEm{GB:Nat}{w:World}{ks:List IntKind}{g:Nat}{v:Value}{xs:List Int}:∀ {bs:List (Nat×Nat)},KH GB w [.mem ks g true] [v] [xs] bs->∃b:Nat×Nat,v= .pointer (some ⟨b.1,b.2,none⟩)/\AQ true w (b.1,b.2) ks xs/\GB<=b.1
 | [b],h=>⟨b,h.1.1,h.1.2.1,h.1.2.2 rfl⟩
 | [],h=>h.elim
 |_::_::_,h=>h.2.elim
theorem zn{GB:Nat}{w:World}{ks:List IntKind}{g:Nat}{v:Value}{vs:List Value}{ps:List GD}{b:Nat×Nat}{bs:List (Nat×Nat)}:∀ {q:List (List Int)},KH GB w (.sl ks g true::ps) (v::vs) q (b::bs)->AQ true w b ks (q.getD 0 [])
 |x::q,h=>by
  obtain⟨c,-, -,h1,-⟩:=h.1;exact h1
 | [],h=>h.elim
section
variable{GB:Nat}{GC:Nat->Nat->Option Value}{ad:Nat->Nat×Nat}
theorem gL{a a':Act}{n:Nat}{f:Nat->Value}(_F:Fr a n f)(hs:a'.tmps.size=n)(hd:a'.defers= []):Fr a' n (λt=>a'.tmps.getD t undef):=⟨hs,hd,λ_=>rfl⟩
theorem yL:Tryz.f91.ntmps=124:=by kernel_rfl
theorem AMk(hG:Gw GB GC ad){a:Act}{w:World}{f:Nat->Value}{bk ok bp op br or_:Nat}{k pk r:List Int}(F:Fr a 124 f)(ε:GW GC w)(δ:GB<=w.heap.size)(vA:f 18= .pointer (some ⟨bk,ok,none⟩))(h1:f 1= .pointer (some ⟨bp,op,none⟩))(h13:f 13= .pointer (some ⟨br,or_,none⟩))(mk:AQ false w (bk,ok) U4 k)(mp:AQ false w (bp,op) We pk)(mr:AQ false w (br,or_) U4 r):
  (rS 27).wp Tryz.prog (λe a' w'=>e= .normal/\∃f' b o,Fr a' 124 f'/\f' 19= .pointer (some ⟨b,o,none⟩)/\AQ true w' (b,o) U4 (BK 4 (W8 k (cp pk 64 4) r))/\GB<=b/\BM w w' (λ_ _=>False)/\GW GC w'/\f' 0=f 0/\f' 15=f 15) a w:=by
 have c:=AGq;simp only[Bl] at c;have hP:KH GB w RE.i.s0.params (RE.i.ps.map λt=>a.tmps.getD t undef) [k,pk,r] [(bk,ok),(bp,op),(br,or_)]:=⟨⟨(F.tm 18).trans vA,mk,λh=>(by cases h)⟩,⟨(F.tm 1).trans h1,mp,λh=>(by cases h)⟩,⟨(F.tm 13).trans h13,mr,λh=>(by cases h)⟩,trivial⟩;have hS:Fv RE.i.s0.params [(bk,ok),(bp,op),(br,or_)]:=⟨λx hx=>by
   have:=(List.of_mem_zip hx).1;simp only[IR,List.not_mem_nil,or_false] at this;unfold Rz;rcases this with h|h<;>(rw[h];simp[GD.cE]),λx hx=>by
   have:=(List.of_mem_zip hx).1;simp only[IR,List.not_mem_nil,or_false] at this;unfold Rz;rw[this];simp[GD.cE],λx hx=>(by cases hx),trivial⟩
 have hr:=OB (g:=RE) (AIb hG) c.1 (G6 hG (.inl rfl)).1 (G6 hG (.inl rfl)).2 (AJt (GB:=GB) (GC:=GC) rfl rfl _) ε δ hP hS (F.sz.trans yL.symm) F.df (O5 c.2);refine wp_mono hr ?_;rintro e a' w' ⟨q,q2,Fk,hs,rfl,hx,-,hf,n1,n2,n3,n4,n5⟩;have hv:=@ARg yh.T k pk r;rw[Vq RE yh [k,pk,r]] at hs;rw[hs] at hv;have hv:=XW hv;subst hv;have eV:KH GB w' [.mem U4 1 true] ([19].map λt=>a'.tmps.getD t undef) [gv yh.T 106 0 [gv yh.T 98 0 [],k,cp pk 64 4,r]] Fk:=hx;obtain⟨b,e1,e2,e3⟩:=AEm eV;have ez:=AKF;rw[ez] at e2;have aiu:BK 4 (W8 k (cp pk 64 4) r)=W8 k (cp pk 64 4) r:=Bn e2.1.1;refine⟨rfl,_,b.1,b.2,gL F (n1.trans yL) n2,e1,by rw[aiu];exact e2,e3,hf.mono λb o _ hS=>?_,n5,?_,?_⟩
 ·obtain⟨p,hp,_⟩:=hS;cases hp
 ·rw[<- F.tm 0];exact n3 0 (Gp.1 (by kernel_rfl))
 ·rw[<- F.tm 15];exact n3 15 (Gp.1 (by kernel_rfl))
theorem AKY(hG:Gw GB GC ad){a:Act}{w:World}{f:Nat->Value}{bs os c bp op:Nat}{s p:List Int}{P:Ma.Pt}(F:Fr a 124 f)(ε:GW GC w)(δ:GB<=w.heap.size)(h0:f 0= .slice (some ⟨bs,os,none⟩) 64 c)(hc:64<=c)(AG:f 15= .pointer (some ⟨bp,op,none⟩))(ms:AQ true w (bs,os) (List.replicate 64 .u8) s)(ij:GB<=bs)(mp:AQ false w (bp,op) (List.replicate 20 .u64) p)(cq:bs≠bp)(hp:R3 P p):
  (rS 28).wp Tryz.prog (λe a' w'=>e= .normal/\∃f',Fr a' 124 f'/\AQ true w' (bs,os) (List.replicate 64 .u8) (cp (pbF p) 0 32++cp s 32 32)/\BM w w' (λb _=>b=bs)/\GW GC w'/\f' 0=f 0/\f' 19=f 19) a w:=by
 have hP:KH GB w Mz.i.s0.params (Mz.i.ps.map λt=>a.tmps.getD t undef) [s,p] [(bs,os),(bp,op)]:=⟨⟨c,(F.tm 0).trans h0,hc,ms,λ_=>ij⟩,⟨(F.tm 15).trans AG,mp,λh=>(by cases h)⟩,trivial⟩;have hS:Fv Mz.i.s0.params [(bs,os),(bp,op)]:=⟨λx hx=>by
   have eV:x=(GD.mem (List.replicate 20 .u64) 0 false,(bp,op)):=NB.1 hx;subst eV;exact λ_=>.inr (.inl cq),λx hx=>(by cases hx),trivial⟩
 have hr:=OB (g:=Mz) (AKO hG) AGQ (G6 hG (.inl rfl)).1 (G6 hG (.inl rfl)).2 (AJt (GB:=GB) (GC:=GC) rfl rfl _) ε δ hP hS (F.sz.trans yL.symm) F.df (ABD AM0 (dD rfl hp));refine wp_mono hr ?_;rintro e a' w' ⟨q,q2,Fk,hs,rfl,-,hm,hf,n1,n2,n3,n4,n5⟩;have hv:=@ASd RK.T s p;rw[Vq Mz RK [s,p]] at hs;rw[hs] at hv;have hv:=XW hv;refine⟨rfl,_,gL F (n1.trans yL) n2,?_,hf.mono λb o _ hS=>?_,n5,?_,?_⟩
 ·have ta:=zn (ps:=Mz.i.s0.params.tail) hm;rw[show q.getD 0 []=_ from hv] at ta;exact ta
 ·obtain⟨p',eN,h1,h2,h3⟩:=hS;have ot:p' ∈ [((0:Nat),List.replicate 64 IntKind.u8,(Go.Proofs.YtloibefkijfdlaaGreatDoor.z1:PF))]:=eN;rw[NB] at ot;subst ot;exact h1
 ·rw[<- F.tm 0];exact n4 0 0 _ rfl (by simp[GD.cE]) rfl
 ·rw[<- F.tm 19];exact n3 19 (Gp.1 (by kernel_rfl))
theorem AIx(hG:Gw GB GC ad){a:Act}{w:World}{f:Nat->Value}{bs os c bp op:Nat}{s p:List Int}(F:Fr a 124 f)(ε:GW GC w)(δ:GB<=w.heap.size)(h0:f 0= .slice (some ⟨bs,os,none⟩) 64 c)(hc:64<=c)(DM:f 19= .pointer (some ⟨bp,op,none⟩))(ms:AQ true w (bs,os) (List.replicate 64 .u8) s)(ij:GB<=bs)(mp:AQ false w (bp,op) U4 p)(cq:bs≠bp):
  (rS 29).wp Tryz.prog (λe a' w'=>e= .normal/\∃f',Fr a' 124 f'/\AQ true w' (bs,os) (List.replicate 64 .u8) (cp s 0 32++cp (sbF p) 0 32)/\BM w w' (λb _=>b=bs)/\GW GC w'/\f' 0=f 0) a w:=by
 have hP:KH GB w Mu.i.s0.params (Mu.i.ps.map λt=>a.tmps.getD t undef) [s,p] [(bs,os),(bp,op)]:=⟨⟨c,(F.tm 0).trans h0,hc,ms,λ_=>ij⟩,⟨(F.tm 19).trans DM,mp,λh=>(by cases h)⟩,trivial⟩;have hS:Fv Mu.i.s0.params [(bs,os),(bp,op)]:=⟨λx hx=>by
   have eV:x=(GD.mem U4 0 false,(bp,op)):=NB.1 hx;subst eV;exact λ_=>.inr (.inl cq),λx hx=>(by cases hx),trivial⟩
 have hr:=OB (g:=Mu) (AL5 hG) AFJ (G6 hG (.inl rfl)).1 (G6 hG (.inl rfl)).2 (AJt (GB:=GB) (GC:=GC) rfl rfl _) ε δ hP hS (F.sz.trans yL.symm) F.df (ABD ALI (AEt rfl _));refine wp_mono hr ?_;rintro e a' w' ⟨q,q2,Fk,hs,rfl,-,hm,hf,n1,n2,n3,n4,n5⟩;have hv:=@AR1 S7.T s p;rw[Vq Mu S7 [s,p]] at hs;rw[hs] at hv;have hv:=XW hv;refine⟨rfl,_,gL F (n1.trans yL) n2,?_,hf.mono λb o _ hS=>?_,n5,?_⟩
 ·have ta:=zn (ps:=Mu.i.s0.params.tail) hm;rw[show q.getD 0 []=_ from hv] at ta;exact ta
 ·obtain⟨p',eN,h1,h2,h3⟩:=hS;have ot:p' ∈ [((0:Nat),List.replicate 64 IntKind.u8,(Go.Proofs.YtloibefkijfdlaaGreatDoor.z1:PF))]:=eN;rw[NB] at ot;subst ot;exact h1
 ·rw[<- F.tm 0];exact n4 0 0 _ rfl (by simp[GD.cE]) rfl
end
end
noncomputable section
open Go
theorem Nz{f:Nat}{s:BH}{ins:List (List Int)}(h:LM [(f,.one s)] f ins):s.pre ins:=by
 obtain⟨s',h1,h2⟩:=h.pre;have:lk f [(f,FE.one s)]=some (.one s):=by simp[lk]
 rw[this,Ai] at h1;subst h1;exact h2
theorem EL{f:Nat}{s:BH}:lk f [(f,FE.one s)]=some (.one s):=by simp[lk]
def K0(x:List Int):List Int:=gv [(99,.one BJ)] 99 0 [yo,x]
def Vs:List Int:=List.replicate 20 0
def bmF(x:List Int):List Int:=gv [(105,.one Aa)] 105 0 [Vs,x]
theorem AI2{x:List Int}(h:cM x)(hl:x.length=64):u4 (K0 x):=(AAJ EL yo x h hl).2
theorem AJy{x:List Int}(h:u4 x):∃P,R3 P (bmF x):=(nL EL h).2
theorem ADY{ins:List (List Int)}{v0 v1:Value}{fb:List (Nat×Nat)}{vs:List Value}(h:pg ins [v0,v1] fb [.cy 0,.eg] vs):vs= [v0,.nilIface]:=by
 match vs,h with
 | [a,b],h=>
  have h1:some v0=some a:=h.1;have h2:b= .nilIface:=h.2.1;rw[<- XW h1,h2]
theorem APZ{ins:List (List Int)}{v0 v1:Value}{fb:List (Nat×Nat)}{vs:List Value}(h:pg ins [v0,v1] fb [.cy 0] vs):vs= [v0]:=by
 match vs,h with
 | [a],h=>
  have h1:some v0=some a:=h.1;rw[<- XW h1]
theorem AOr:BJ.pr 0= .l λa=>BK 4 (Bf.raw Ac 0 a):=rfl
theorem IG{ks js:List IntKind}{g g':Nat}{wr wr':Bool}{b c:Nat×Nat}(h:b.1≠c.1):Rz (.mem ks g wr) (.mem js g' wr') b c:=λ_=>.inr (.inl h)
theorem APb:Aa.params= [.mem (List.replicate 20 .u64) 98 true,.mem (List.replicate 4 .u64) 83 false]:=by kernel_rfl
theorem ANB:Aa.outs= [(0,List.replicate 20 .u64,λa=>BK 20 (Ae.raw Af 0 a))]:=by kernel_rfl
theorem AK7:Aa.ret= [.cy 0]:=by kernel_rfl
theorem AQP:Aa.pr 0= .l λa=>BK 20 (Ae.raw Af 0 a):=rfl
theorem AQf:BL.pr 0= .l λa=>BK 32 (Aq.raw AY 0 a):=rfl
theorem AKq{x:List Int}(hx:u4 x):LM [(105,.one Aa)] 105 [Vs,x]:=(nL EL hx).1
theorem rC{f:Nat}{s:BH}{a b:List Int}(h:LM [(f,.one s)] f [a,b]):s.pre [a,b]:=Nz h
set_option maxRecDepth 100000 in
theorem AJC{x:List Int}(hx:u4 x):Aa.pre [Vs,x]:=rC (AKq hx)
structure AJl (GC:Nat->Nat->Option Value) (b o:Nat) (ks:List IntKind) (l:List Int) (v:Value) (w:World) (e:Ending) (w':World):Prop where
 ret:e= .returned v
 mem:AQ true w' (b,o) ks l
 an:BM w w' (λb' _=>b'=b)
 gw:GW GC w'
section
variable{GB:Nat}{GC:Nat->Nat->Option Value}{ad:Nat->Nat×Nat}(hG:Gw GB GC ad){w:World}(ε:GW GC w)(δ:GB<=w.heap.size)
structure ARl (GC:Nat->Nat->Option Value) (w:World) (e:Ending) (w':World):Prop where
 ret:∃B o,e= .returned (.pointer (some ⟨B,o,none⟩))/\w.heap.size<=B/\AQ true w' (B,o) U4 yo
 an:BM w w' (λ_ _=>False)
 gw:GW GC w'
include hG ε δ
theorem Xd:Calls Tryz.prog 98 #[] w (ARl GC w):=by
 have h:=LK hG true [] [] [] w ε δ trivial trivial (λh=>(by cases h)) rfl;refine h.mono λe w' ⟨fb,vs,he,hp⟩=>?_
 simp only[FE.ca] at hp;have hr:=hp.ret
 match vs,hr with
 | [v],hr=>
 obtain⟨b,hb,hv⟩:=hr.1;subst hv;have hm:=hp.fresh 0 (U4,λa=>BK 4 (Et.raw Eu 0 a)) b rfl hb;have jt:AQ true w' (b.1,b.2) U4 yo:=by rw[show yo=BK 4 (Et.raw Eu 0 []) from((EH (BK 4) vw).trans rfl).symm];exact hm
 refine⟨⟨b.1,b.2,he,hp.fr b (Le hb),jt⟩,hp.an.mono λb' o' _ hs=>?_,hp.gw⟩;obtain⟨p,eN,_⟩:=hs;cases eN
theorem VZ{f:Nat}{s:BH}{ks:List IntKind}{F:PF}{v0 v1:Value}{p0 p1:GD}{x0 x1:List Int}{b0 b1:Nat×Nat}{r:List Pw}{rv:List Value}(fS:Ck Tryz.prog GB GC f (.one s))(hp:s.params= [p0,p1])(ξ:s.outs= [(0,ks,F)])(zv:s.ret=r)(h0:PM GB w p0 v0 x0 b0)(h1:PM GB w p1 v1 x1 b1)(ki:Rz p0 p1 b0 b1)(Zs:s.pre [x0,x1])
  (hrv:∀fb vs,pg [x0,x1] [v0,v1] fb r vs->vs=rv):Calls Tryz.prog f #[v0,v1] w (AJl GC b0.1 b0.2 ks (F [x0,x1]) (PZ rv) w):=by
 have _:=hG;have hP:KH GB w (FE.ca (.one s) true).params [v0,v1] [x0,x1] [b0,b1]:=by
  show KH GB w s.params _ _ _;rw[hp];exact⟨h0,h1,trivial⟩
 have hS:Fv (FE.ca (.one s) true).params [b0,b1]:=by
  show Fv s.params _;rw[hp];refine⟨λx hx=>?_,λx hx=>(by cases hx),trivial⟩;rw[List.zip_cons_cons,List.zip_nil_left,NB] at hx;subst hx;exact ki
 refine(fS true [v0,v1] [x0,x1] [b0,b1] w ε δ hP hS (λ_=>Zs) rfl).mono λe w' ⟨fb,vs,he,hq⟩=>?_
 simp only[FE.ca] at hq;have hr:=hq.ret;rw[zv] at hr;have hv:=hrv fb vs hr;subst hv;have hm:=hq.outs;rw[ξ] at hm;refine⟨he,hm _ Kh,hq.an.mono λb i _ hS=>?_,hq.gw⟩;obtain⟨p,eN,e1,-, -⟩:=hS;rw[ξ,NB] at eN;subst eN;exact e1
theorem oM{bs os bx ox c:Nat}{x:List Int}(ms:AQ true w (bs,os) U4 yo)(ij:GB<=bs)(mx:AQ false w (bx,ox) (List.replicate 64 .u8) x)(hc:64<=c)(cq:bs≠bx):
  Calls Tryz.prog 99 #[.pointer (some ⟨bs,os,none⟩),.slice (some ⟨bx,ox,none⟩) 64 c] w (AJl GC bs os U4 (K0 x) (.tuple #[.pointer (some ⟨bs,os,none⟩),.nilIface]) w):=by
 have h:=VZ hG ε δ (rv:=[.pointer (some ⟨bs,os,none⟩),.nilIface]) (Ha hG) rfl rfl rfl (b0:=(bs,os)) (b1:=(bx,ox)) (x0:=yo) (x1:=x) ⟨rfl,ms,λ_=>ij⟩ ⟨c,rfl,hc,mx,λh=>(by cases h)⟩ (λ_=>.inr (.inl cq)) (Nz (AAJ EL yo x mx.j9 mx.len8).1) (λfb vs h=>ADY h);have e:K0 x=BK 4 (Bf.raw Ac 0 [yo,x]):=by
  unfold K0;rw[BQ EL,AOr];rfl
 rw[e];exact h
set_option maxRecDepth 100000 in
theorem AL4{bs os bx ox:Nat}{x:List Int}(ms:AQ true w (bs,os) (List.replicate 20 .u64) Vs)(ij:GB<=bs)(mx:AQ false w (bx,ox) U4 x)(cq:bs≠bx)(hx:u4 x):
  Calls Tryz.prog 105 #[.pointer (some ⟨bs,os,none⟩),.pointer (some ⟨bx,ox,none⟩)] w (AJl GC bs os (List.replicate 20 .u64) (bmF x) (.pointer (some ⟨bs,os,none⟩)) w):=by
 have q0:PM GB w (.mem (List.replicate 20 .u64) 98 true) (.pointer (some ⟨bs,os,none⟩)) Vs (bs,os):=⟨rfl,ms,λ_=>ij⟩;have q1:PM GB w (.mem (List.replicate 4 .u64) 83 false) (.pointer (some ⟨bx,ox,none⟩)) x (bx,ox):=⟨rfl,mx,λh=>(by cases h)⟩;have h:=VZ hG ε δ (rv:=[.pointer (some ⟨bs,os,none⟩)]) (IA hG) APb ANB AK7 q0 q1 (IG cq) (AJC hx) (λfb vs h=>APZ h);have e:bmF x=BK 20 (Ae.raw Af 0 [Vs,x]):=by
  unfold bmF;rw[BQ EL,AQP];rfl
 rw[e];exact h
structure PbP (GC:Nat->Nat->Option Value) (l:List Int) (w:World) (e:Ending) (w':World):Prop where
 ret:∃B o,e= .returned (.slice (some ⟨B,o,none⟩) 32 32)/\w.heap.size<=B/\AQ true w' (B,o) (List.replicate 32 .u8) l
 an:BM w w' (λ_ _=>False)
 gw:GW GC w'
theorem ze{bp op:Nat}{p:List Int}{P:Ma.Pt}(mp:AQ false w (bp,op) (List.replicate 20 .u64) p)(hp:R3 P p):Calls Tryz.prog 104 #[.pointer (some ⟨bp,op,none⟩)] w (PbP GC (pbF p) w):=by
 have h:=IK hG true [.pointer (some ⟨bp,op,none⟩)] [p] [(bp,op)] w ε δ ⟨⟨rfl,mp,λh=>(by cases h)⟩,trivial⟩ ⟨λ_ h=>(by cases h),trivial⟩ (λ_=>Nz (dD EL hp)) rfl;refine h.mono λe w' ⟨fb,vs,he,hq⟩=>?_
 simp only[FE.ca] at hq;have hr:=hq.ret
 match vs,hr with
 | [v],hr=>
 obtain⟨b,hb,hv⟩:=hr.1;subst hv;have hm:=hq.fresh 0 (List.replicate 32 .u8,λa=>BK 32 (Aq.raw AY 0 a)) b rfl hb;have e1:pbF p=BK 32 (Aq.raw AY 0 [p]):=by
  unfold pbF;rw[BQ (s:=BL) AIS,AQf];rfl
 refine⟨⟨b.1,b.2,he,hq.fr b (Le hb),by rw[e1];exact hm⟩,hq.an.mono λb' o' _ hs=>?_,hq.gw⟩;obtain⟨p,eN,_⟩:=hs;cases eN
end
end
section
open Go
section
variable{ρ:Operand->Value}{d:Option Tmp}{x y:Operand}{ty:TypeId}{pos:String}{af:Array Edge}{w:World}{b o:Nat}
theorem qW{s t:ByteArray}(h:ρ x= .string s)(hy:ρ y= .string t):(execOp ρ ⟨d,.binOp .neq 9 x y 9,ty,pos,af,none⟩).run Tryz.prog w= .ok (.value (.bool (!(s.toList == t.toList)))) w:=by
 simp[execOp,go_sem,h,hy]
theorem UC{s:ByteArray}(h:ρ x= .string s):(execOp ρ ⟨d,.call ⟨.builtin .len,#[x],#[9]⟩,ty,pos,af,none⟩).run Tryz.prog w= .ok (.value (.int .i64 s.size)) w:=by
 simp[go_sem,h]
theorem ADG{i:Int}(h:ρ x= .int .i64 i):(execOp ρ ⟨d,.convert 3 5 x,ty,pos,af,none⟩).run Tryz.prog w= .ok (.value (.int .u8 (IntKind.u8.wrap i))) w:=by
 simp[execOp,go_sem,h]
theorem ACN{i:Int}(h:ρ x= .int .u8 i):(execOp ρ ⟨d,.buildSlice 22 1 #[(0,x)],ty,pos,af,none⟩).run Tryz.prog w= .ok (.value (.slice (some ⟨w.heap.size,0,none⟩) 1 1)) (w.alloc (.cells #[.int .u8 i] 5)):=by
 simp[execOp,go_sem,h]
theorem AHh:IntKind.i64.wrap 64=64:=by decide
theorem ARn:IntKind.i64.wrap 0=0:=by decide
theorem AOV:Tryz.t5.bytes=1:=by kernel_rfl
theorem AIZ(h:ρ x= .int .i64 0)(hy:ρ y= .int .i64 64):(execOp ρ ⟨d,.makeSlice 22 x y,ty,pos,af,none⟩).run Tryz.prog w= .ok (.value (.slice (some ⟨w.heap.size,0,none⟩) 0 64)) (w.alloc (.cells (Array.replicate 64 (.int .u8 0)) 5)):=by
 simp[execOp,go_sem,h,hy,Instr.makeSlice,AHh,ARn,AOV];rfl
theorem mh(h:ρ x= .int .i64 64)(hy:ρ y= .int .i64 64):(execOp ρ ⟨d,.makeSlice 22 x y,ty,pos,af,none⟩).run Tryz.prog w= .ok (.value (.slice (some ⟨w.heap.size,0,none⟩) 64 64)) (w.alloc (.cells (Array.replicate 64 (.int .u8 0)) 5)):=by
 simp[execOp,go_sem,h,hy,Instr.makeSlice,AHh,AOV];rfl
theorem EZ{u v:Value}(h:ρ x= .tuple #[u,v]):(execOp ρ ⟨d,.extract x 0,ty,pos,af,none⟩).run Tryz.prog w= .ok (.value u) w:=by
 simp[execOp,go_sem,h]
theorem DW{u v:Value}(h:ρ x= .tuple #[u,v]):(execOp ρ ⟨d,.extract x 1,ty,pos,af,none⟩).run Tryz.prog w= .ok (.value v) w:=by
 simp[execOp,go_sem,h]
theorem Pm(h:ρ x= .nilIface)(hy:ρ (.const .nilIface)= .nilIface):(execOp ρ ⟨d,.binOp .neq 45 x (.const .nilIface) 45,ty,pos,af,none⟩).run Tryz.prog w= .ok (.value (.bool false)) w:=by
 simp[execOp,go_sem,h,hy]
 trace_state
theorem z20:(#[.int .u64 0,.int .u64 0,.int .u64 0,.int .u64 0,.int .u64 0,.int .u64 0,.int .u64 0,.int .u64 0,.int .u64 0,.int .u64 0,.int .u64 0,.int .u64 0,.int .u64 0,.int .u64 0,.int .u64 0,.int .u64 0,.int .u64 0,.int .u64 0,.int .u64 0,.int .u64 0]:Array Value)=(Aj (List.replicate 20 .u64) Vs).toArray:=rfl
theorem oI:(execOp ρ ⟨d,.build 97 #[],ty,pos,af,none⟩).run Tryz.prog w= .ok (.value (.agg (Aj (List.replicate 20 .u64) Vs).toArray)) w:=by
 rw[<- z20];simp[execOp,go_sem]
theorem qG{cs:Array Value}(h:ρ x= .agg cs):(execOp ρ ⟨d,.box 97 x,ty,pos,af,none⟩).run Tryz.prog w= .ok (.value (.pointer (some ⟨w.heap.size,0,none⟩))) (w.alloc (.cells cs 97)):=by
 simp[execOp,go_sem,h]
theorem ASb(h:ρ x= .pointer (some ⟨b,o,none⟩)):(execOp ρ ⟨d,.fieldAddr 84 x 3,ty,pos,af,none⟩).run Tryz.prog w= .ok (.value (.pointer (some ⟨b,o+68,none⟩))) w:=by
 simp[execOp,go_sem,h]
theorem AR8(h:ρ x= .pointer (some ⟨b,o,none⟩)):(execOp ρ ⟨d,.fieldAddr 84 x 1,ty,pos,af,none⟩).run Tryz.prog w= .ok (.value (.pointer (some ⟨b,o+32,none⟩))) w:=by
 simp[execOp,go_sem,h]
theorem jv(hx:ρ x= .pointer (some ⟨b,o,none⟩)):(execOp ρ ⟨d,.slice 48 x none none none,ty,pos,af,none⟩).run Tryz.prog w= .ok (.value (.slice (some ⟨b,o,none⟩) 32 32)) w:=by
 have hu:=run_underlying (w:=w) Tryz.underlying48;simp only[execOp,hx,Option.map_none,Instr.sliceAt,IY,hu,Hm];simp[Instr.sliceBounds,Instr.sureAddr,go_sem]
end
end
noncomputable section
open Go
def Ue(s:ByteArray):List Int:=s.data.toList.map λb=>(b.toNat:Int)
theorem JB(s:ByteArray):(Ue s).length=s.size:=by simp[Ue]
theorem zI(s:ByteArray):∀x∈Ue s,0<=x/\x<=255:=λx hx=>by
 obtain⟨b,_,rfl⟩:=UT.1 hx;have:=b.toNat_lt;omega
def Jg(p c:ByteArray):List Int:=if p.toList == ([]:List UInt8) then[] else([]++Ue p ++ [IntKind.u8.wrap (c.size:Int)])++Ue c
def IX(w:World)(v:Value)(xs:List Int):Prop:=∃(ap:Option Addr) (c:Nat),v= .slice ap xs.length c/\xs.length<=c/\(∀x∈xs,0<=x/\x<=255)/\(0<xs.length->∃b o,ap=some ⟨b,o,none⟩/\b<w.heap.size/\∀i,i<xs.length->w.cell? ⟨b,o+i,none⟩=some (.int .u8 (xs.getD i 0)))
theorem IX.psl{w w':World}{B:Nat}{v:Value}{xs:List Int}(h:IX w v xs)(hf:BM w w' (λ_ _=>False))(hB:w.heap.size<=B):XY w' B v xs:=by
 obtain⟨ap,c,h1,h2,h3,h4⟩:=h;refine⟨ap,c,h1,h2,h3,λh0=>?_⟩;obtain⟨b,o,e,hb,hc⟩:=h4 h0;exact⟨b,o,e,by omega,λi hi=>(hf.fp (f:=false) ⟨hc i hi,λh=>(by cases h)⟩ (λh=>h)).1⟩
theorem AQ.adb{f:Bool}{w:World}{b o k n:Nat}{ks:List IntKind}{xs:List Int}(h:AQ f w (b,o) ks xs)(hk:∀i,i<n->ks[k+i]? = some .u8):AQ f w (b,o+k) (List.replicate n .u8) (cp xs k n):=by
 have hx:∀i,i<n->xs[k+i]? = some (xs.getD (k+i) 0):=λi hi=>by
  have:=(OQ.1 (hk i hi)).1;have hl:=h.1.1;simp[List.getD,show k+i<xs.length by omega]
 have hg:∀i,i<n->(cp xs k n).getD i 0=xs.getD (k+i) 0:=λi hi=>by simp[cp,List.getD,hi]
 refine AAq (PK _ _ _) (λz hz=>?_) λi hi=>?_
 ·obtain⟨i,hi,rfl⟩:=UT.1 hz;have B8:=lZ.1 hi;have:=h.1.2 (k+i) .u8 _ (hk i B8) (hx i B8);exact⟨this.1,this.2⟩
 ·rw[hg i hi,Ve];exact h.2 (k+i) .u8 _ (hk i hi) (hx i hi)
theorem XY.cV{f:Bool}{w:World}{B b o n c:Nat}{xs:List Int}(h:AQ f w (b,o) (List.replicate n .u8) xs)(hc:n<=c)(hb:b≠B):XY w B (.slice (some ⟨b,o,none⟩) n c) xs:=
 ⟨_,c,by rw[h.len8],by rw[h.len8];exact hc,h.j9,λ_=>⟨b,o,rfl,hb,λi hi=>(h.at8 (by rw[h.len8] at hi;exact hi)).1.1⟩⟩
section
variable{ρ:Operand->Value}{d:Option Tmp}{x:Operand}{ty:TypeId}{pos:String}{af:Array Edge}{w:World}
def sW(w:World)(s:ByteArray):World:=w.drew.alloc (.cells (bytesRow s (grownCap w s.size 0 5)) 5 ((bytesRow s (grownCap w s.size 0 5)).size,(bytesRow s (grownCap w s.size 0 5)).size+1))
theorem aR{s:ByteArray}(h:ρ x= .string s):(execOp ρ ⟨d,.convert 9 22 x,ty,pos,af,none⟩).run Tryz.prog w= .ok (.value (.slice (some ⟨w.heap.size,0,none⟩) s.size (grownCap w s.size 0 5))) (sW w s):=by
 have hr:=run_bytes_of_string (P:=Tryz.prog) w 9 22 5 s Tryz.underlying9 Tryz.underlying22 Tryz.underlying5;simp only[execOp,h,IY,hr,Hm];rfl
theorem II(w:World)(s:ByteArray):BM w (sW w s) (λ_ _=>False):=(BM.refl w _).push (o:=.cells (bytesRow s (grownCap w s.size 0 5)) 5 ((bytesRow s (grownCap w s.size 0 5)).size,(bytesRow s (grownCap w s.size 0 5)).size+1)) rfl rfl rfl rfl
theorem WM{w:World}{s:ByteArray}{B:Nat}(hB:B<w.heap.size):XY (sW w s) B (.slice (some ⟨w.heap.size,0,none⟩) s.size (grownCap w s.size 0 5)) (Ue s):=by
 refine⟨_,grownCap w s.size 0 5,by rw[JB],by rw[JB];exact grownCap_ge w s.size 0 _,zI s,λ_=>⟨w.heap.size,0,rfl,by omega,λi hi=>?_⟩⟩;rw[JB] at hi;have B8:i<s.data.size:=hi;have hb:=bytesRow_at s (grownCap w s.size 0 5) i B8;have hh:(sW w s).heap[w.heap.size]? = some (.cells (bytesRow s (grownCap w s.size 0 5)) 5 ((bytesRow s (grownCap w s.size 0 5)).size,(bytesRow s (grownCap w s.size 0 5)).size+1)):=Array.getElem?_push_size;unfold World.cell?;simp only[hh,Km,hb,Option.isSome_none,RD,if_false];simp only[Ue,List.getD,Ng,Array.getElem?_toList,Array.getElem?_eq_getElem B8];rfl
end
theorem gY{w:World}{i:Int}{B:Nat}(hB:B<w.heap.size)(hi:0<=i/\i<=255):XY (w.alloc (.cells #[.int .u8 i] 5)) B (.slice (some ⟨w.heap.size,0,none⟩) 1 1) [i]:=by
 refine⟨_,1,rfl,by simp,λx hx=>by rw[NB] at hx;rw[hx];exact hi,λ_=>⟨w.heap.size,0,rfl,by omega,λj hj=>?_⟩⟩;have hj:j=0:=by simpa using hj
 subst hj;have hh:(w.alloc (.cells #[.int .u8 i] 5)).heap[w.heap.size]? = some (.cells #[.int .u8 i] 5):=Array.getElem?_push_size;unfold World.cell?;simp only[hh];rfl
theorem u8w(i:Int):0<=IntKind.u8.wrap i/\IntKind.u8.wrap i<=255:=by
 rw[KC (k:=.u8) rfl];show 0<=i%256/\i%256<=255;omega
def dm(Kx pk msg:List Int):List Int:=K0 (MC (Kx++cp pk 68 32++msg))
def ABA(Kx pk msg:List Int):List Int:=pbF (bmF (dm Kx pk msg))
def xy(Kx pk msg:List Int):List Int:=K0 (MC (Kx++ABA Kx pk msg++cp pk 32 32++msg))
def XZ(Kx pk msg:List Int):List Int:=ABA Kx pk msg++cp (sbF (BK 4 (W8 (xy Kx pk msg) (cp pk 64 4) (dm Kx pk msg)))) 0 32
structure SgP (GC:Nat->Nat->Option Value) (bs os c:Nat) (l:List Int) (w:World) (e:Ending) (w':World):Prop where
 ret:e= .returned (.slice (some ⟨bs,os,none⟩) 64 c)
 mem:AQ true w' (bs,os) (List.replicate 64 .u8) l
 an:BM w w' (λb _=>b=bs)
 gw:GW GC w'
structure Sl (bs os cs bp op:Nat) (vm:Value) (p c:ByteArray) (f:Nat->Value):Prop where
 f0:f 0= .slice (some ⟨bs,os,none⟩) 64 cs
 f1:f 1= .pointer (some ⟨bp,op,none⟩)
 f2:f 2=vm
 f3:f 3= .string p
 f4:f 4= .string c
theorem Sl.nB{bs os cs bp op:Nat}{vm:Value}{p c:ByteArray}{f:Nat->Value}{a:Act}(h:Sl bs os cs bp op vm p c f)(F:Fr a 124 f):Fr a 124 (Ta (Ta (Ta (Ta (Ta f 0 (.slice (some ⟨bs,os,none⟩) 64 cs)) 1 (.pointer (some ⟨bp,op,none⟩))) 2 vm) 3 (.string p)) 4 (.string c)):=by
 have F:=F.nB h.f0;have F:=F.nB (t:=1) (v:=.pointer (some ⟨bp,op,none⟩)) h.f1;have F:=F.nB (t:=2) (v:=vm) h.f2;have F:=F.nB (t:=3) (v:=.string p) h.f3;exact F.nB (t:=4) (v:=.string c) h.f4
end
section
open Go
theorem Kj{w w1 w2:World}{S:Nat->Nat->Prop}(h:BM w w1 (λ_ _=>False))(hf:BM w1 w2 S)(hS:∀b i,S b i->w.heap.size<=b):BM w w2 (λ_ _=>False):=h.trans' hf λb i hb hs=>by have:=hS b i hs;omega
theorem LF{GB:Nat}{GC:Nat->Nat->Option Value}{ad:Nat->Nat×Nat}(_hG:Gw GB GC ad){w w':World}(h:GW GC w)(hf:BM w w' (λ_ _=>False)):GW GC w':=λb o v hv=>(hf.fp (f:=false) ⟨h b o v hv,λh=>(by cases h)⟩ (λh=>h)).1
theorem Y9{w w':World}{S:Nat->Nat->Prop}(h:BM w w' (λ_ _=>False)):BM w w' S:=h.mono λ_ _ _ h=>h.elim
theorem Gw.mono{GB GB':Nat}{GC:Nat->Nat->Option Value}{ad:Nat->Nat×Nat}(h:Gw GB GC ad)(hle:GB<=GB'):Gw GB' GC ad:=⟨λb o v hv=>iH (h.lt b o v hv) hle,h.ok,λx hx=>iH (h.ob x hx) hle⟩
theorem QO:(⟨#[]⟩:ByteArray).toList= []:=by
 unfold ByteArray.toList ByteArray.toList.loop;rfl
set_option maxRecDepth 100000 in
set_option maxHeartbeats 4000000 in
theorem bf{GB:Nat}{GC:Nat->Nat->Option Value}{ad:Nat->Nat×Nat}(hG:Gw GB GC ad){w:World}{bs os cs bp op:Nat}{sg pk msg:List Int}{vm:Value}{p c:ByteArray}(ε:GW GC w)(δ:GB<=w.heap.size)(HC:AQ true w (bs,os) (List.replicate 64 .u8) sg)(ij:GB<=bs)(cS:64<=cs)(tj:AQ false w (bp,op) We pk)(_hne:bs≠bp)(hm:IX w vm msg)(gr:msg.length<1099511627776)(C2:p.size<1099511627776)(kj:c.size<1099511627776):
  Calls Tryz.prog 91 #[.slice (some ⟨bs,os,none⟩) 64 cs,.pointer (some ⟨bp,op,none⟩),vm,.string p,.string c] w (SgP GC bs os cs (XZ (Jg p c) pk msg) w):=by
 have aky:bs<w.heap.size:=(HC.at8 (i:=0) (by omega)).1.lt;have hdl:(Jg p c).length<3298534883328:=by
  unfold Jg;split
  ·simp
  ·simp only[MN,JB,Uk,SM];omega
 refine enter (args:=[.slice (some ⟨bs,os,none⟩) 64 cs,.pointer (some ⟨bp,op,none⟩),vm,.string p,.string c]) Tryz.func91 rfl (n:=124) rfl λa F=>?_
 refine AO (AX F rfl λa F=>AJ ?_);refine AO (DI F rfl (LJ rfl Tryz.call92) (bX hG ε δ) λe w1 h1=>?_);obtain⟨B,o,he,hB,PB⟩:=h1.ret;refine⟨_,he,λa F=>AB F rfl λa F=>AJ ?_⟩;have g1:=h1.an;have qk:GB<=B:=z8 δ hB;refine Jy (J:=λa w'=>∃f,Fr a 124 f/\Sl bs os cs bp op vm p c f/\f 11= .pointer (some ⟨B,o,none⟩)/\HG w' B o (Jg p c)/\BM w w' (λ_ _=>False)) ?_ ?_
 ·refine AO (AA F rfl λa F=>AZ F rfl (qW (t:=⟨#[]⟩) F.e rfl) λa F=>AJ (fw F rfl (λhb=>?_) λhb=>?_))
  ·have Hi:Jg p c=([]++Ue p ++ [IntKind.u8.wrap (c.size:Int)])++Ue c:=by
    unfold Jg;rw[if_neg];intro h;have e:=QO;rw[e,h] at hb;cases hb
   have D0:B<w1.heap.size:=by obtain⟨x,D,_⟩:=PB.ex;exact D.hs.lt
   refine AO (AA F rfl λa F=>AA F rfl λa F=>AZ F rfl (aR F.e) λa F=>
    DI F rfl (Au rfl F.e F.e Tryz.call93) (Eo hG (LF hG h1.gw (II _ _)) (z8 (z8 δ g1.1) (II w1 p).1) qk (PB.an (II _ _) λ_ h=>h) (WM D0) (by rw[JB];simp;omega)) λe w2 h2=>⟨_,h2.ret,λa F=>AJ ?_⟩)
   have g2:=Kj (g1.trans (II w1 p)) h2.an (λb _ h=>by omega);have GF:B<w2.heap.size:=by obtain⟨x,D,_⟩:=h2.ov.ex;exact D.hs.lt
   have f2:=BI w2 (.cells #[.int .u8 (IntKind.u8.wrap (c.size:Int))] 5) (λ_ _=>False);refine AO (AA F rfl λa F=>AA F rfl λa F=>AZ F rfl (UC F.e) λa F=>AZ F rfl (ADG F.e) λa F=>AZ F rfl (ACN F.e) λa F=>
    DI F rfl (Au rfl F.e F.e Tryz.call93) (Eo hG (LF hG h2.gw f2) (z8 (z8 δ g2.1) f2.1) qk (h2.ov.an f2 λ_ h=>h) (gY GF (u8w _)) (by simp[JB];omega)) λe w3 h3=>⟨_,h3.ret,λa F=>AJ ?_⟩)
   have g3:=Kj (g2.trans f2) h3.an (λb _ h=>by omega);have FG:B<w3.heap.size:=by obtain⟨x,D,_⟩:=h3.ov.ex;exact D.hs.lt
   refine cE (AA F rfl λa F=>AA F rfl λa F=>AZ F rfl (aR F.e) λa F=>
    DI F rfl (Au rfl F.e F.e Tryz.call93) (Eo hG (LF hG h3.gw (II _ _)) (z8 (z8 δ g3.1) (II w3 c).1) qk (h3.ov.an (II _ _) λ_ h=>h) (WM FG) (by simp[JB];omega)) λe w4 h4=>⟨_,h4.ret,λa F=>EM ?_⟩)
   have g4:=Kj (g3.trans (II w3 c)) h4.an (λb _ h=>by omega);exact⟨rfl,_,F,⟨rfl,rfl,rfl,rfl,rfl⟩,rfl,by rw[Hi];exact h4.ov,g4⟩
  ·have Hi:Jg p c= []:=by
    unfold Jg;rw[if_pos];have e:=QO;rw[e] at hb;simpa using hb
   exact Mg ⟨rfl,_,F,⟨rfl,rfl,rfl,rfl,rfl⟩,rfl,by rw[Hi];exact PB,g1⟩
 clear F g1 PB;rintro a w4 ⟨f4,F4,S4,xF,hD4,g4⟩;have F:=(S4.nB F4).nB (t:=11) (v:=.pointer (some ⟨B,o,none⟩)) xF;clear F4 S4 xF;have D5:∀ {w':World},BM w w' (λ_ _=>False)->AQ false w' (bp,op) We pk:=λhf=>tj.an hf λ_ _ h=>h
 have ai0:∀i,i<32->We[68+i]? = some .u8:=by decide
 have aiC:∀i,i<32->We[32+i]? = some .u8:=by decide
 have aai:bp<w.heap.size:=(tj.2 0 .u8 _ (by decide) (JC (by rw[tj.1.1];decide))).lt;refine AO (AA F rfl λa F=>AA F rfl λa F=>FI F rfl rfl λa F=>AZ F rfl (ASb F.e) λa F=>AZ F rfl (jv F.e) λa F=>
  DI F rfl (Au rfl F.e F.e Tryz.call93) (Eo hG (LF hG ε g4) (z8 δ g4.1) qk hD4 (XY.cV ((D5 g4).adb ai0) (KA _) (by omega)) (by rw[PK];omega)) λe w5 h5=>⟨_,h5.ret,λa F=>AJ ?_⟩)
 have g5:=Kj g4 h5.an (λb _ h=>by omega);refine AO (AA F rfl λa F=>AA F rfl λa F=>
  DI F rfl (Au rfl F.e F.e Tryz.call93) (Eo hG h5.gw (z8 δ g5.1) qk h5.ov (hm.psl g5 hB) (by rw[MN,PK];omega)) λe w6 h6=>⟨_,h6.ret,λa F=>AJ ?_⟩)
 have g6:=Kj g5 h6.an (λb _ h=>by omega);refine AO (AZ F rfl (AIZ rfl rfl) λa F=>AB F rfl λa F=>AJ ?_);have N7:=Ey w6 64 .u8 5 ⟨by decide,by decide⟩;have f7:BM w6 (w6.alloc (.cells (Array.replicate 64 (.int .u8 0)) 5)) (λ_ _=>False):=BI _ _ _;generalize w6.alloc (.cells (Array.replicate 64 (.int .u8 0)) 5)=w7 at N7 f7 ⊢;have g7:=g6.trans f7;have hs6:w.heap.size<=w6.heap.size:=g6.1;generalize hB7:w6.heap.size=B7 at N7 F hs6;refine AO (AA F rfl λa F=>AA F rfl λa F=>DI F rfl (Au rfl F.e F.e Tryz.call94) (gU hG (LF hG ε g7) (z8 δ g7.1) (h6.ov.an f7 λ_ h=>h) (by rw[MN,MN,PK];omega) (z8 δ hs6) N7 (KA _)) λe w8 h8=>⟨_,h8.ret,λa F=>AB F rfl λa F=>AJ ?_⟩);have g8:=Kj g7 h8.an (λb _ h=>by omega);refine AO (DI F rfl (LJ rfl Tryz.call98) (Xd hG h8.gw (z8 δ g8.1)) λe w9 h9=>?_);obtain⟨B9,o9,he9,hB9,hM9⟩:=h9.ret;have g9:=g8.trans h9.an;have aic:B7<w8.heap.size:=(h8.mem.at8 (i:=0) (by omega)).1.lt;refine⟨_,he9,λa F=>AA F rfl λa F=>DI F rfl (Au rfl F.e F.e Tryz.call99) (oM hG h9.gw (z8 δ g9.1) hM9 (by have:=g8.1;omega) ((show AQ true w9 (B7,0) (List.replicate 64 .u8) _ from h8.mem.an h9.an λ_ _ h=>h) |> λh=>⟨h.1,λi k x a b=>(h.2 i k x a b).gO⟩) (KA _) (by omega)) λe pZ lE=>⟨_,lE.ret,λa F=>?_⟩⟩;refine AA F rfl λa F=>AZ F rfl (EZ F.e) λa F=>AZ F rfl (DW F.e) λa F=>AB F rfl λa F=>AB F rfl λa F=>AJ ?_
 have awe:w.heap.size<=B9:=by have:=g8.1;omega
 have g10:=Kj g9 lE.an (λb _ h=>by omega);have hr4:u4 (dm (Jg p c) pk msg):=AI2 h8.mem.j9 (J6 _);have MR:AQ true pZ (B9,o9) U4 (dm (Jg p c) pk msg):=lE.mem;refine wp_seq (AO (AA F rfl λa F=>AZ F rfl (Pm F.e rfl) λa F=>AJ (wp_cond_false F.e (wp_skip ?_))));show Code.wp _ _ _ _ _;refine AO (AZ F rfl oI λa F=>AZ F rfl (qG F.e) λa F=>?_);have N11:=Lu pZ (List.replicate 20 .u64) Vs 97 (Ot (by decide));have f11:BM pZ (pZ.alloc (.cells (Aj (List.replicate 20 .u64) Vs).toArray 97)) (λ_ _=>False):=BI _ _ _;generalize pZ.alloc (.cells (Aj (List.replicate 20 .u64) Vs).toArray 97)=w11 at N11 f11 ⊢;have g11:=g10.trans f11;have adK:B9<pZ.heap.size:=(MR.kq (i:=0) (by omega)).1.lt;have adQ:w.heap.size<=pZ.heap.size:=g10.1;generalize art:pZ.heap.size=B11 at N11 F adQ adK;refine AA F rfl λa F=>DI F rfl (Au rfl F.e F.e Tryz.call105) (AL4 hG (LF hG ε g11) (z8 δ g11.1) N11 (z8 δ adQ) ((show AQ true w11 (B9,o9) U4 _ from MR.an f11 λ_ _ h=>h) |> λh=>⟨h.1,λi k x a b=>(h.2 i k x a b).gO⟩) (by omega) hr4) λe yb wv=>⟨_,wv.ret,λa F=>AB F rfl λa F=>AJ ?_⟩
 have g12:=Kj g11 wv.an (λb _ h=>by omega);have adg:=(MR.an f11 λ_ _ h=>h).an wv.an λ_ _ (h:B9=B11)=>by omega
 obtain⟨Pt,hPt⟩:=AJy hr4;refine AO (DI F rfl (LJ rfl Tryz.call92) (bX hG wv.gw (z8 δ g12.1)) λe SO h13=>?_);obtain⟨C,oc,hec,hC,aci⟩:=h13.ret;refine⟨_,hec,λa F=>AB F rfl λa F=>AJ ?_⟩;have g13:=g12.trans h13.an;have hCw:w.heap.size<=C:=z8 g12.1 hC;have B0:GB<=C:=z8 δ hCw;have aeO:=adg.an h13.an λ_ _ h=>h
 have ae6:=wv.mem.an h13.an λ_ _ h=>h
 have aEH:B9<C:=by have:=(adg.kq (i:=0) (by omega)).1.lt;omega
 have al4:B11<C:=by have:=(wv.mem.kq (i:=0) (by omega)).1.lt;omega
 refine Jy (J:=λa w'=>∃f,Fr a 124 f/\Sl bs os cs bp op vm p c f/\f 13= .pointer (some ⟨B9,o9,none⟩)/\f 15= .pointer (some ⟨B11,0,none⟩)/\f 16= .pointer (some ⟨C,oc,none⟩)/\HG w' C oc (Jg p c)/\BM SO w' (λb _=>b=C)) ?_ ?_
 ·refine AO (AA F rfl λa F=>AZ F rfl (qW (t:=⟨#[]⟩) F.e rfl) λa F=>AJ (fw F rfl (λhb=>?_) λhb=>?_))
  ·have Hi:Jg p c=([]++Ue p ++ [IntKind.u8.wrap (c.size:Int)])++Ue c:=by
    unfold Jg;rw[if_neg];intro h;have e:=QO;rw[e,h] at hb;cases hb
   have D0:C<SO.heap.size:=by obtain⟨x,D,_⟩:=aci.ex;exact D.hs.lt
   refine AO (AA F rfl λa F=>AA F rfl λa F=>AZ F rfl (aR F.e) λa F=>
    DI F rfl (Au rfl F.e F.e Tryz.call93) (Eo hG (LF hG h13.gw (II _ _)) (z8 (z8 δ g13.1) (II SO p).1) B0 (aci.an (II _ _) λ_ h=>h) (WM D0) (by rw[JB];simp;omega)) λe w2 h2=>⟨_,h2.ret,λa F=>AJ ?_⟩)
   have k2:BM SO w2 (λb _=>b=C):=(Y9 (II SO p)).trans h2.an;have GF:C<w2.heap.size:=by obtain⟨x,D,_⟩:=h2.ov.ex;exact D.hs.lt
   have f2:=BI w2 (.cells #[.int .u8 (IntKind.u8.wrap (c.size:Int))] 5) (λ_ _=>False);refine AO (AA F rfl λa F=>AA F rfl λa F=>AZ F rfl (UC F.e) λa F=>AZ F rfl (ADG F.e) λa F=>AZ F rfl (ACN F.e) λa F=>
    DI F rfl (Au rfl F.e F.e Tryz.call93) (Eo hG (LF hG h2.gw f2) (z8 (z8 (z8 δ g13.1) k2.1) f2.1) B0 (h2.ov.an f2 λ_ h=>h) (gY GF (u8w _)) (by simp[JB];omega)) λe w3 h3=>⟨_,h3.ret,λa F=>AJ ?_⟩)
   have k3:BM SO w3 (λb _=>b=C):=(k2.trans (Y9 f2)).trans h3.an;have FG:C<w3.heap.size:=by obtain⟨x,D,_⟩:=h3.ov.ex;exact D.hs.lt
   refine cE (AA F rfl λa F=>AA F rfl λa F=>AZ F rfl (aR F.e) λa F=>
    DI F rfl (Au rfl F.e F.e Tryz.call93) (Eo hG (LF hG h3.gw (II _ _)) (z8 (z8 (z8 δ g13.1) k3.1) (II w3 c).1) B0 (h3.ov.an (II _ _) λ_ h=>h) (WM FG) (by simp[JB];omega)) λe w4 h4=>⟨_,h4.ret,λa F=>EM ?_⟩)
   exact⟨rfl,_,F,⟨rfl,rfl,rfl,rfl,rfl⟩,rfl,rfl,rfl,by rw[Hi];exact h4.ov,(k3.trans (Y9 (II w3 c))).trans h4.an⟩
  ·have Hi:Jg p c= []:=by
    unfold Jg;rw[if_pos];have e:=QO;rw[e] at hb;simpa using hb
   exact Mg ⟨rfl,_,F,⟨rfl,rfl,rfl,rfl,rfl⟩,rfl,rfl,rfl,by rw[Hi];exact aci,BM.refl _ _⟩
 clear F;rintro a rm ⟨f14,F14,S14,adz,AG,nc,adF,k14⟩;have F:=(S14.nB F14).nB (t:=13) (v:=.pointer (some ⟨B9,o9,none⟩)) adz;have F:=F.nB (t:=15) (v:=.pointer (some ⟨B11,0,none⟩)) AG;have F:=F.nB (t:=16) (v:=.pointer (some ⟨C,oc,none⟩)) nc;clear F14 S14 adz AG nc;have g14:=Kj g13 k14 (λb _ h=>by omega);have ac3:=aeO.an k14 λ_ _ (h:B9=C)=>by omega
 have acw:=ae6.an k14 λ_ _ (h:B11=C)=>by omega
 have aea:=LF hG ε g14;have gO:∀ {w':World} {b o:Nat} {ks:List IntKind} {l:List Int},AQ true w' (b,o) ks l->AQ false w' (b,o) ks l:=λh=>⟨h.1,λi k x a b=>(h.2 i k x a b).gO⟩
 refine AO (AA F rfl λa F=>AA F rfl λa F=>DI F rfl (Ar rfl F.e Tryz.call104) (ze hG aea (z8 δ g14.1) (gO acw) hPt) λe w15 AG=>?_);obtain⟨B15,o15,afM,akQ,aa4⟩:=AG.ret;have g15:=g14.trans AG.an;have aFq:C<rm.heap.size:=by obtain⟨x,D,_⟩:=adF.ex;exact D.hs.lt
 refine⟨_,afM,λa F=>DI F rfl (Au rfl F.e F.e Tryz.call93) (Eo hG AG.gw (z8 δ g15.1) B0 (adF.an AG.an λ_ h=>h) (XY.cV aa4 (KA _) (by omega)) (by rw[aa4.len8];omega)) λe w16 nc=>⟨_,nc.ret,λa F=>AJ ?_⟩⟩;have g16:=Kj g15 nc.an (λb _ h=>by omega);have hPl:(ABA (Jg p c) pk msg).length=32:=aa4.len8;refine AO (AA F rfl λa F=>AA F rfl λa F=>FI F rfl rfl λa F=>AZ F rfl (AR8 F.e) λa F=>AZ F rfl (jv F.e) λa F=>
  DI F rfl (Au rfl F.e F.e Tryz.call93) (Eo hG nc.gw (z8 δ g16.1) B0 nc.ov (XY.cV ((D5 g16).adb aiC) (KA _) (by omega)) (by rw[MN,PK,aa4.len8];omega)) λe w17 DA=>⟨_,DA.ret,λa F=>AJ ?_⟩)
 have g17:=Kj g16 DA.an (λb _ h=>by omega);refine AO (AA F rfl λa F=>AA F rfl λa F=>
  DI F rfl (Au rfl F.e F.e Tryz.call93) (Eo hG DA.gw (z8 δ g17.1) B0 DA.ov (hm.psl g17 hCw) (by rw[MN,MN,PK,aa4.len8];omega)) λe S8 vA=>⟨_,vA.ret,λa F=>AJ ?_⟩)
 have g18:=Kj g17 vA.an (λb _ h=>by omega);have k18:BM rm S8 (λb _=>b=C):=(((Y9 AG.an).trans nc.an).trans DA.an).trans vA.an;refine AO (AZ F rfl (AIZ rfl rfl) λa F=>AB F rfl λa F=>AJ ?_);have N19:=Ey S8 64 .u8 5 ⟨by decide,by decide⟩;have f19:BM S8 (S8.alloc (.cells (Array.replicate 64 (.int .u8 0)) 5)) (λ_ _=>False):=BI _ _ _;generalize S8.alloc (.cells (Array.replicate 64 (.int .u8 0)) 5)=w19 at N19 f19 ⊢;have g19:=g18.trans f19;have aij:rm.heap.size<=S8.heap.size:=k18.1;have aaP:w.heap.size<=rm.heap.size:=g14.1;have aaC:B9<rm.heap.size:=(ac3.kq (i:=0) (by omega)).1.lt;have N2:B11<rm.heap.size:=(acw.kq (i:=0) (by omega)).1.lt;generalize aDr:S8.heap.size=B19 at N19 F aij;refine AO (AA F rfl λa F=>AA F rfl λa F=>DI F rfl (Au rfl F.e F.e Tryz.call94) (gU hG (LF hG ε g19) (z8 δ g19.1) (vA.ov.an f19 λ_ h=>h) (by rw[MN,MN,MN,PK,aa4.len8];omega) (by omega) N19 (KA _)) λe w20 vu=>⟨_,vu.ret,λa F=>AB F rfl λa F=>AJ ?_⟩);have g20:=Kj g19 vu.an (λb _ h=>by omega);refine AO (DI F rfl (LJ rfl Tryz.call98) (Xd hG vu.gw (z8 δ g20.1)) λe w21 C4=>?_);obtain⟨B21,o21,aeq,ahZ,afH⟩:=C4.ret;have g21:=g20.trans C4.an;have aoh:B19<w20.heap.size:=(vu.mem.at8 (i:=0) (by omega)).1.lt;refine⟨_,aeq,λa F=>AA F rfl λa F=>DI F rfl (Au rfl F.e F.e Tryz.call99) (oM hG C4.gw (z8 δ g21.1) afH (by have:=g20.1;omega) (gO (vu.mem.an C4.an λ_ _ h=>h)) (KA _) (by omega)) λe w22 h22=>⟨_,h22.ret,λa F=>?_⟩⟩;refine AA F rfl λa F=>AZ F rfl (EZ F.e) λa F=>AZ F rfl (DW F.e) λa F=>AB F rfl λa F=>AB F rfl λa F=>AJ ?_
 have alO:w.heap.size<=B21:=by have:=g20.1;omega
 have g22:=Kj g21 h22.an (λb _ h=>by omega);have MK:AQ true w22 (B21,o21) U4 (xy (Jg p c) pk msg):=h22.mem;have k22:∀ {b o:Nat} {ks:List IntKind} {l:List Int},b<rm.heap.size->b≠C->AQ true rm (b,o) ks l->AQ true w22 (b,o) ks l:=λ{b o ks l} hb hbC h=>by
  have e1:=h.an k18 λ_ _ (h:b=C)=>hbC h
  have e2:=(e1.an f19 λ_ _ h=>h).an vu.an λ_ _ (h:b=B19)=>by omega
  exact(e2.an C4.an λ_ _ h=>h).an h22.an λ_ _ (h:b=B21)=>by have:=vu.an.1;have:=f19.1;omega
 have afh:=k22 aaC (by omega) ac3;have afs:=k22 N2 (by omega) acw;refine wp_seq (AO (AA F rfl λa F=>AZ F rfl (Pm F.e rfl) λa F=>AJ (wp_cond_false F.e (wp_skip ?_))));show(Code.seq (rS 27) (Code.seq (rS 28) (Code.seq (rS 29) _))).wp _ _ _ _;refine wp_seq (wp_mono (AMk (hG.mono (z8 δ g22.1)) F h22.gw (KA _) rfl rfl rfl (gO MK) (D5 g22) (gO afh)) ?_);rintro e a w23 ⟨rfl,f23,B23,o23,F23,q19,M23,q23,h23,ael,q0,q15⟩;have g23:=g22.trans h23;show(Code.seq (rS 28) _).wp _ _ _ _;refine wp_seq (wp_mono (AKY hG F23 ael (z8 δ g23.1) (q0.trans rfl) cS (q15.trans rfl) (HC.an g23 λ_ _ h=>h) ij (gO (afs.an h23 λ_ _ h=>h)) (by omega) hPt) ?_);rintro e a w24 ⟨rfl,f24,F24,M24,k24,aeL,p0,p19⟩;have auJ:bs<B23:=by have:=g22.1;omega
 have afk:=M23.an k24 λ_ _ (h:B23=bs)=>by omega
 have aeh:BM w w24 (λb _=>b=bs):=(Y9 g23).trans k24;show(Code.seq (rS 29) _).wp _ _ _ _;refine wp_seq (wp_mono (AIx hG F24 aeL (z8 δ aeh.1) (p0.trans (q0.trans rfl)) cS (p19.trans q19) M24 ij (gO afk) (by omega)) ?_);rintro e a w25 ⟨rfl,f25,F25,M25,k25,afA,r0⟩;have F:=F25.nB (t:=0) (v:=.slice (some ⟨bs,os,none⟩) 64 cs) (r0.trans (p0.trans (q0.trans rfl)));refine AO (AA F rfl λa F=>AB F rfl λa F=>AJ ?_);refine DC ⟨F.df,.slice (some ⟨bs,os,none⟩) 64 cs,?_,rfl,?_,aeh.trans k25,afA⟩
 ·have lE:=F.tm 10;rw[Ti] at lE;simp[results,Tryz.results91,go_sem];exact lE
 ·rw[nG (PK _ _ _),ABf aa4.len8] at M25;exact M25
end
end Go.Proofs.YtloibefkijfdlaaGreatDoor
