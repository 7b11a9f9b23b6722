/- signWithDom: the pieces that the executor walks. -/
import Derived.Test.YtloibefkijfdlaaGreatDoorWc
namespace Go.Proofs.YtloibefkijfdlaaGreatDoor
noncomputable section
open Go
def rS(k:Nat):Code:=Yi k (Ab Tryz.f91)
def pcS(c:Code)(ps:List GG)(sl:List Nat)(outs:List (Nat×List IntKind×PF)):I7:=⟨6000,c,Tryz.f91.ntmps,99,[],⟨ps,true,fun _=>True,outs,[],[]⟩,sl,(Sv c).filter (fun t=>Tu t sl),fun _=>1⟩
def aS:List IntKind:=List.replicate 64 .u8++List.replicate 4 .u64++List.replicate 32 .u8
def U4:List IntKind:=List.replicate 4 .u64
def g27:XG:=⟨pcS (rS 27) [.mem U4 0 false,.mem aS 0 false,.mem U4 0 false] [18,1,13] [],[19],[.mem U4 1 true]⟩
def g28:XG:=⟨pcS (rS 28) [.sl (List.replicate 64 .u8) 1 true,.mem (List.replicate 20 .u64) 0 false] [0,15] [(0,List.replicate 64 .u8,z1)],[],[]⟩
def g29:XG:=⟨pcS (rS 29) [.sl (List.replicate 64 .u8) 1 true,.mem U4 0 false] [0,19] [(0,List.replicate 64 .u8,z1)],[],[]⟩
def C27:Cx:=GJ [(98,.one Ha),(106,.one DI)] []
def C28:Cx:=GJ [(104,.one BL)] []
def C29:Cx:=GJ [(107,.one BM)] []
theorem AHq:(g27.chk C27&&Sw (g27.i.tree C27))=true:=by kernel_rfl
theorem AIN:g28.chk C28=true:=by kernel_rfl
theorem AGk:g29.chk C29=true:=by kernel_rfl
def cp(l:List Int)(o n:Nat):List Int:=(List.range n).map fun i=>l.getD (o+i) 0
theorem AVT{T:Tb}{k pk r:List Int}:(g27.stepT T C27 [k,pk,r]).map (fun x=>x.2)=some [gv T 106 0 [gv T 98 0 [],k,cp pk 64 4,r]]:=by kernel_rfl
theorem AVv{T:Tb}{s p:List Int}:(g28.stepT T C28 [s,p]).map (fun x=>x.1.getD 0 [])=some (cp (gv T 104 0 [p]) 0 32++cp s 32 32):=by kernel_rfl
theorem AUl{T:Tb}{s p:List Int}:(g29.stepT T C29 [s,p]).map (fun x=>x.1.getD 0 [])=some (cp s 0 32++cp (gv T 107 0 [p]) 0 32):=by kernel_rfl
end
noncomputable section
open Go
def ob1(f:Nat)(t:Bc):Bool:=match gQ t with
 |some (_,[.pre g [.vec 1]],_,_)=>Nat.beq g f&&Lp 2 t
 |_=>false
theorem ACa{T:Tb}{f:Nat}{t:Bc}{x y:List Int}(h:ob1 f t=true)(hp:OU T f [y]):Cn T t (A8 [x,y]):=by
 unfold ob1 at h
 split at h
 ·rename_i ds g e st hl
  simp only[Bd] at h;have e1:=CL h.1;subst e1;obtain⟨k1,-, -, -,k5⟩:=Pp (T:=T) (ρ:=A8 [x,y]) h.2 hl;refine k5 fun q hq=>?_
  rw[Nc] at hq;subst hq;obtain⟨s,hs,aaM⟩:=hp.pre;simp only[JM.den,hs];have:([Iq.vec 1].map (·.den (Dc T (A8 [x,y]) ds)))= [y]:=by
   show [Dc T (A8 [x,y]) ds 1]= [y];rw[k1 1 (by omega)];rfl
  rw[this];exact aaM
 ·cases h
theorem AQB:ob1 104 (g28.i.tree C28)=true:=by kernel_rfl
theorem APu:ob1 107 (g29.i.tree C29)=true:=by kernel_rfl
section
variable{GB:Nat}{GC:Nat→Nat→Option Value}{ad:Nat→Nat×Nat}(hG:Jk GB GC ad)
include hG
theorem AMP:Sb Tryz.prog C27 GB GC:=OJ hG (.cons (k:=98) rfl (Lt hG) Tryz.call98 (AQ.len _ _) (.cons (k:=106) rfl (Mv hG) Tryz.call106 (AQ.len _ _) .nil)) Su.nil
theorem AO8:Sb Tryz.prog C28 GB GC:=OJ hG (.cons (k:=104) rfl (Ib hG) Tryz.call104 (AQ.lenP _ _) .nil) Su.nil
theorem AM7:Sb Tryz.prog C29 GB GC:=OJ hG (.cons (k:=107) rfl (KZ hG) Tryz.call107 (AQ.lenP _ _) .nil) Su.nil
omit hG in
theorem AIm{C:Cx}(h1:C.loops= [])(h2:C.inl= [])(c:Code)(E:En)(_:E.P=Tryz.prog)(h:E.C=C)(_:E.GB=GB)(_:E.GC=GC):Ju E c∧∀ f j,lk f C.inl=some j→Ju E j.c:=
 ⟨Ju.of_nil (by rw[h];exact h1) _,fun f j hj=>by rw[h2] at hj;cases hj⟩
end
def su0:List Int:=[0,0,0,0]
theorem AAZ:E9.raw Ez 0 []= [0,0,0,0]:=by kernel_rfl
theorem APL:Ha.pr 0= .l fun a=>Aw 4 (E9.raw Ez 0 a):=rfl
theorem APz:lk 98 C27.T=some (.one Ha):=by kernel_rfl
theorem ALM:lk 104 C28.T=some (.one BL):=by kernel_rfl
theorem ATY:lk 107 C29.T=some (.one BM):=by kernel_rfl
theorem AOe:gv C27.T 98 0 []=su0:=by
 rw[Bg APz,APL];exact (QL (Aw 4) AAZ).trans rfl
def maF(k s r:List Int):List Int:=gv C27.T 106 0 [su0,k,s,r]
def pbF(p:List Int):List Int:=gv C28.T 104 0 [p]
def sbF(s:List Int):List Int:=gv C29.T 107 0 [s]
theorem AFm{l:List Int}{n:Nat}(h:l.length=n):cp l 0 n=l:=by
 subst h;unfold cp;refine List.ext_getElem (by simp) fun i h1 h2=>?_
 simp[List.getD,h2]
theorem UW(l:List Int)(o n:Nat):(cp l o n).length=n:=by simp[cp]
theorem um{l r:List Int}{n:Nat}(h:l.length=n):cp (l++r) 0 n=l:=by
 subst h;unfold cp;refine List.ext_getElem (by simp) fun i h1 h2=>?_
 simp[List.getD,gI h2,h2]
theorem AJI{GB:Nat}{w:World}{ks:List IntKind}{g:Nat}{v:Value}{xs:List Int}:∀ {bs:List (Nat×Nat)},Kt GB w [.mem ks g true] [v] [xs] bs→∃ b:Nat×Nat,v= .pointer (some ⟨b.1,b.2,none⟩)∧Ar true w (b.1,b.2) ks xs∧GB≤b.1
 | [b],h=>⟨b,h.1.1,h.1.2.1,h.1.2.2 rfl⟩
 | [],h=>h.elim
 |_::_::_,h=>h.2.elim
theorem ACJ{GB:Nat}{w:World}{ks:List IntKind}{g:Nat}{v:Value}{vs:List Value}{ps:List GG}{b:Nat×Nat}{bs:List (Nat×Nat)}:∀ {q:List (List Int)},Kt GB w (.sl ks g true::ps) (v::vs) q (b::bs)→Ar true w b ks (q.getD 0 [])
 |x::q,h=>by
  obtain⟨c,-, -,h1,-⟩:=h.1;exact h1
 | [],h=>h.elim
section
variable{GB:Nat}{GC:Nat→Nat→Option Value}{ad:Nat→Nat×Nat}
theorem Zd{a a':Act}{n:Nat}{f:Nat→Value}(_F:Fr a n f)(hs:a'.tmps.size=n)(hd:a'.defers= []):Fr a' n (fun t=>a'.tmps.getD t undef):=⟨hs,hd,fun _=>rfl⟩
theorem ABR:Tryz.f91.ntmps=124:=by kernel_rfl
theorem AOL(hG:Jk GB GC ad){a:Act}{w:World}{f:Nat→Value}{bk ok bp op br or_:Nat}{k pk r:List Int}(F:Fr a 124 f)(ε:GW GC w)(δ:GB≤w.heap.size)(h18:f 18= .pointer (some ⟨bk,ok,none⟩))(h1:f 1= .pointer (some ⟨bp,op,none⟩))(h13:f 13= .pointer (some ⟨br,or_,none⟩))(mk:Ar false w (bk,ok) U4 k)(mp:Ar false w (bp,op) aS pk)(mr:Ar false w (br,or_) U4 r):
  (rS 27).wp Tryz.prog (fun e a' w'=>e= .normal∧∃ f' b o,Fr a' 124 f'∧f' 19= .pointer (some ⟨b,o,none⟩)∧Ar true w' (b,o) U4 (Aw 4 (maF k (cp pk 64 4) r))∧GB≤b∧CV w w' (fun _ _=>False)∧GW GC w'∧f' 0=f 0∧f' 15=f 15) a w:=by
 have c:=AHq;simp only[Bd] at c;have hP:Kt GB w g27.i.s0.params (g27.i.ps.map fun t=>a.tmps.getD t undef) [k,pk,r] [(bk,ok),(bp,op),(br,or_)]:=⟨⟨(F.tm 18).trans h18,mk,fun h=>(by cases h)⟩,⟨(F.tm 1).trans h1,mp,fun h=>(by cases h)⟩,⟨(F.tm 13).trans h13,mr,fun h=>(by cases h)⟩,trivial⟩;have hS:G8 g27.i.s0.params [(bk,ok),(bp,op),(br,or_)]:=⟨fun x hx=>by
   have:=(List.of_mem_zip hx).1;simp only[J4,List.not_mem_nil,or_false] at this;unfold YR
   rcases this with h|h<;>(rw[h];simp[GG.reg]),fun x hx=>by
   have:=(List.of_mem_zip hx).1;simp only[J4,List.not_mem_nil,or_false] at this;unfold YR;rw[this];simp[GG.reg],fun x hx=>(by cases hx),trivial⟩
 have hr:=Nj (g:=g27) (AMP hG) c.1 (EE hG (.inl rfl)).1 (EE hG (.inl rfl)).2 (AIm (GB:=GB) (GC:=GC) rfl rfl _) ε δ hP hS (F.sz.trans ABR.symm) F.df (Og c.2);refine wp_mono hr ?_
 rintro e a' w' ⟨q,q2,bs2,hs,rfl,hx,-,hf,n1,n2,n3,n4,n5⟩
 have hv:=@AVT C27.T k pk r;rw[Tz g27 C27 [k,pk,r]] at hs;rw[hs] at hv;have hv:=SY hv;subst hv;have hx':Kt GB w' [.mem U4 1 true] ([19].map fun t=>a'.tmps.getD t undef) [gv C27.T 106 0 [gv C27.T 98 0 [],k,cp pk 64 4,r]] bs2:=hx;obtain⟨b,e1,e2,e3⟩:=AJI hx';have ez:=AOe;rw[ez] at e2;have hfix:Aw 4 (maF k (cp pk 64 4) r)=maF k (cp pk 64 4) r:=Au e2.1.1;refine⟨rfl,_,b.1,b.2,Zd F (n1.trans ABR) n2,e1,by rw[hfix];exact e2,e3,hf.mono fun b o _ hS=>?_,n5,?_,?_⟩
 ·obtain⟨p,hp,_⟩:=hS
  cases hp
 ·rw[← F.tm 0];exact n3 0 (Eh.1 (by kernel_rfl))
 ·rw[← F.tm 15];exact n3 15 (Eh.1 (by kernel_rfl))
theorem AMq(hG:Jk GB GC ad){a:Act}{w:World}{f:Nat→Value}{bs os c bp op:Nat}{s p:List Int}{P:Ma.Pt}(F:Fr a 124 f)(ε:GW GC w)(δ:GB≤w.heap.size)(h0:f 0= .slice (some ⟨bs,os,none⟩) 64 c)(hc:64≤c)(h15:f 15= .pointer (some ⟨bp,op,none⟩))(ms:Ar true w (bs,os) (List.replicate 64 .u8) s)(hbs:GB≤bs)(mp:Ar false w (bp,op) (List.replicate 20 .u64) p)(hne:bs≠bp)(hp:R3 P p):
  (rS 28).wp Tryz.prog (fun e a' w'=>e= .normal∧∃ f',Fr a' 124 f'∧Ar true w' (bs,os) (List.replicate 64 .u8) (cp (pbF p) 0 32++cp s 32 32)∧CV w w' (fun b _=>b=bs)∧GW GC w'∧f' 0=f 0∧f' 19=f 19) a w:=by
 have hP:Kt GB w g28.i.s0.params (g28.i.ps.map fun t=>a.tmps.getD t undef) [s,p] [(bs,os),(bp,op)]:=⟨⟨c,(F.tm 0).trans h0,hc,ms,fun _=>hbs⟩,⟨(F.tm 15).trans h15,mp,fun h=>(by cases h)⟩,trivial⟩;have hS:G8 g28.i.s0.params [(bs,os),(bp,op)]:=⟨fun x hx=>by
   have hx':x=(GG.mem (List.replicate 20 .u64) 0 false,(bp,op)):=Nc.1 hx;subst hx';exact fun _=>.inr (.inl hne),fun x hx=>(by cases hx),trivial⟩
 have hr:=Nj (g:=g28) (AO8 hG) AIN (EE hG (.inl rfl)).1 (EE hG (.inl rfl)).2 (AIm (GB:=GB) (GC:=GC) rfl rfl _) ε δ hP hS (F.sz.trans ABR.symm) F.df (ACa AQB (l5 rfl hp));refine wp_mono hr ?_
 rintro e a' w' ⟨q,q2,bs2,hs,rfl,-,hm,hf,n1,n2,n3,n4,n5⟩
 have hv:=@AVv C28.T s p;rw[Tz g28 C28 [s,p]] at hs;rw[hs] at hv;have hv:=SY hv;refine⟨rfl,_,Zd F (n1.trans ABR) n2,?_,hf.mono fun b o _ hS=>?_,n5,?_,?_⟩
 ·have hm1:=ACJ (ps:=g28.i.s0.params.tail) hm;rw[show q.getD 0 []=_ from hv] at hm1;exact hm1
 ·obtain⟨p',hp',h1,h2,h3⟩:=hS;have hp2:p' ∈ [((0:Nat),List.replicate 64 IntKind.u8,(Go.Proofs.YtloibefkijfdlaaGreatDoor.z1:PF))]:=hp';rw[Nc] at hp2;subst hp2;exact h1
 ·rw[← F.tm 0];exact n4 0 0 _ rfl (by simp[GG.reg]) rfl
 ·rw[← F.tm 19];exact n3 19 (Eh.1 (by kernel_rfl))
theorem AOj(hG:Jk GB GC ad){a:Act}{w:World}{f:Nat→Value}{bs os c bp op:Nat}{s p:List Int}(F:Fr a 124 f)(ε:GW GC w)(δ:GB≤w.heap.size)(h0:f 0= .slice (some ⟨bs,os,none⟩) 64 c)(hc:64≤c)(h19:f 19= .pointer (some ⟨bp,op,none⟩))(ms:Ar true w (bs,os) (List.replicate 64 .u8) s)(hbs:GB≤bs)(mp:Ar false w (bp,op) U4 p)(hne:bs≠bp):
  (rS 29).wp Tryz.prog (fun e a' w'=>e= .normal∧∃ f',Fr a' 124 f'∧Ar true w' (bs,os) (List.replicate 64 .u8) (cp s 0 32++cp (sbF p) 0 32)∧CV w w' (fun b _=>b=bs)∧GW GC w'∧f' 0=f 0) a w:=by
 have hP:Kt GB w g29.i.s0.params (g29.i.ps.map fun t=>a.tmps.getD t undef) [s,p] [(bs,os),(bp,op)]:=⟨⟨c,(F.tm 0).trans h0,hc,ms,fun _=>hbs⟩,⟨(F.tm 19).trans h19,mp,fun h=>(by cases h)⟩,trivial⟩;have hS:G8 g29.i.s0.params [(bs,os),(bp,op)]:=⟨fun x hx=>by
   have hx':x=(GG.mem U4 0 false,(bp,op)):=Nc.1 hx;subst hx';exact fun _=>.inr (.inl hne),fun x hx=>(by cases hx),trivial⟩
 have hr:=Nj (g:=g29) (AM7 hG) AGk (EE hG (.inl rfl)).1 (EE hG (.inl rfl)).2 (AIm (GB:=GB) (GC:=GC) rfl rfl _) ε δ hP hS (F.sz.trans ABR.symm) F.df (ACa APu (AJP rfl _));refine wp_mono hr ?_
 rintro e a' w' ⟨q,q2,bs2,hs,rfl,-,hm,hf,n1,n2,n3,n4,n5⟩
 have hv:=@AUl C29.T s p;rw[Tz g29 C29 [s,p]] at hs;rw[hs] at hv;have hv:=SY hv;refine⟨rfl,_,Zd F (n1.trans ABR) n2,?_,hf.mono fun b o _ hS=>?_,n5,?_⟩
 ·have hm1:=ACJ (ps:=g29.i.s0.params.tail) hm;rw[show q.getD 0 []=_ from hv] at hm1;exact hm1
 ·obtain⟨p',hp',h1,h2,h3⟩:=hS;have hp2:p' ∈ [((0:Nat),List.replicate 64 IntKind.u8,(Go.Proofs.YtloibefkijfdlaaGreatDoor.z1:PF))]:=hp';rw[Nc] at hp2;subst hp2;exact h1
 ·rw[← F.tm 0];exact n4 0 0 _ rfl (by simp[GG.reg]) rfl
end
end
noncomputable section
open Go
theorem kC{f:Nat}{s:Az}{ins:List (List Int)}(h:OU [(f,.one s)] f ins):s.pre ins:=by
 obtain⟨s',h1,h2⟩:=h.pre;have:lk f [(f,FE.one s)]=some (.one s):=by simp[lk]
 rw[this,Am] at h1;subst h1;exact h2
theorem UX{f:Nat}{s:Az}:lk f [(f,FE.one s)]=some (.one s):=by simp[lk]
def suF(x:List Int):List Int:=gv [(99,.one Bh)] 99 0 [su0,x]
def pt0:List Int:=List.replicate 20 0
def bmF(x:List Int):List Int:=gv [(105,.one AY)] 105 0 [pt0,x]
theorem ALu{x:List Int}(h:by8 x)(hl:x.length=64):u4 (suF x):=(AEB UX su0 x h hl).2
theorem APe{x:List Int}(h:u4 x):∃ P,R3 P (bmF x):=(sO UX h).2
theorem ACt{ins:List (List Int)}{v0 v1:Value}{fb:List (Nat×Nat)}{vs:List Value}(h:RVs ins [v0,v1] fb [.ptrP 0,.nilI] vs):vs= [v0,.nilIface]:=by
 match vs,h with
 | [a,b],h=>
  have h1:some v0=some a:=h.1;have h2:b= .nilIface:=h.2.1;rw[← SY h1,h2]
theorem ARg{ins:List (List Int)}{v0 v1:Value}{fb:List (Nat×Nat)}{vs:List Value}(h:RVs ins [v0,v1] fb [.ptrP 0] vs):vs= [v0]:=by
 match vs,h with
 | [a],h=>
  have h1:some v0=some a:=h.1;rw[← SY h1]
theorem ATO:Bh.pr 0= .l fun a=>Aw 4 (Be.raw Ah 0 a):=rfl
theorem AHc{ks js:List IntKind}{g g':Nat}{wr wr':Bool}{b c:Nat×Nat}(h:b.1≠c.1):YR (.mem ks g wr) (.mem js g' wr') b c:=fun _=>.inr (.inl h)
theorem ARh:AY.params= [.mem (List.replicate 20 .u64) 98 true,.mem (List.replicate 4 .u64) 83 false]:=by kernel_rfl
theorem AMc:AY.outs= [(0,List.replicate 20 .u64,fun a=>Aw 20 (Al.raw Ak 0 a))]:=by kernel_rfl
theorem ANw:AY.ret= [.ptrP 0]:=by kernel_rfl
theorem ARA:AY.pr 0= .l fun a=>Aw 20 (Al.raw Ak 0 a):=rfl
theorem ATi:BL.pr 0= .l fun a=>Aw 32 (Aq.raw AU 0 a):=rfl
theorem ANT{x:List Int}(hx:u4 x):OU [(105,.one AY)] 105 [pt0,x]:=(sO UX hx).1
theorem AAT{f:Nat}{s:Az}{a b:List Int}(h:OU [(f,.one s)] f [a,b]):s.pre [a,b]:=kC h
set_option maxRecDepth 100000 in
theorem ANv{x:List Int}(hx:u4 x):AY.pre [pt0,x]:=AAT (ANT hx)
structure ANb (GC:Nat→Nat→Option Value) (b o:Nat) (ks:List IntKind) (l:List Int) (v:Value) (w:World) (e:Ending) (w':World):Prop where
 ret:e= .returned v
 mem:Ar true w' (b,o) ks l
 frm:CV w w' (fun b' _=>b'=b)
 gw:GW GC w'
section
variable{GB:Nat}{GC:Nat→Nat→Option Value}{ad:Nat→Nat×Nat}(hG:Jk GB GC ad){w:World}(ε:GW GC w)(δ:GB≤w.heap.size)
structure AUe (GC:Nat→Nat→Option Value) (w:World) (e:Ending) (w':World):Prop where
 ret:∃ B o,e= .returned (.pointer (some ⟨B,o,none⟩))∧w.heap.size≤B∧Ar true w' (B,o) U4 su0
 frm:CV w w' (fun _ _=>False)
 gw:GW GC w'
include hG ε δ
theorem xK:Calls Tryz.prog 98 #[] w (AUe GC w):=by
 have h:=Lt hG true [] [] [] w ε δ trivial trivial (fun h=>(by cases h)) rfl;refine h.mono fun e w' ⟨fb,vs,he,hp⟩=>?_
 simp only[FE.sel] at hp;have hr:=hp.ret
 match vs,hr with
 | [v],hr=>
 obtain⟨b,hb,hv⟩:=hr.1;subst hv;have hm:=hp.fresh 0 (U4,fun a=>Aw 4 (E9.raw Ez 0 a)) b rfl hb;have hm':Ar true w' (b.1,b.2) U4 su0:=by rw[show su0=Aw 4 (E9.raw Ez 0 []) from ((QL (Aw 4) AAZ).trans rfl).symm];exact hm
 refine⟨⟨b.1,b.2,he,hp.fr b (OZ hb),hm'⟩,hp.frm.mono fun b' o' _ hs=>?_,hp.gw⟩;obtain⟨p,hp',_⟩:=hs
 cases hp'
theorem l6{f:Nat}{s:Az}{ks:List IntKind}{F:PF}{v0 v1:Value}{p0 p1:GG}{x0 x1:List Int}{b0 b1:Nat×Nat}{r:List Qr}{rv:List Value}(hok:Bp Tryz.prog GB GC f (.one s))(hp:s.params= [p0,p1])(hout:s.outs= [(0,ks,F)])(aa7:s.ret=r)(h0:PM GB w p0 v0 x0 b0)(h1:PM GB w p1 v1 x1 b1)(hsep:YR p0 p1 b0 b1)(aaM:s.pre [x0,x1])
  (hrv:∀ fb vs,RVs [x0,x1] [v0,v1] fb r vs→vs=rv):Calls Tryz.prog f #[v0,v1] w (ANb GC b0.1 b0.2 ks (F [x0,x1]) (TU rv) w):=by
 have _:=hG;have hP:Kt GB w (FE.sel (.one s) true).params [v0,v1] [x0,x1] [b0,b1]:=by
  show Kt GB w s.params _ _ _;rw[hp];exact⟨h0,h1,trivial⟩
 have hS:G8 (FE.sel (.one s) true).params [b0,b1]:=by
  show G8 s.params _;rw[hp];refine⟨fun x hx=>?_,fun x hx=>(by cases hx),trivial⟩;rw[List.zip_cons_cons,List.zip_nil_left,Nc] at hx;subst hx;exact hsep
 refine (hok true [v0,v1] [x0,x1] [b0,b1] w ε δ hP hS (fun _=>aaM) rfl).mono fun e w' ⟨fb,vs,he,hq⟩=>?_
 simp only[FE.sel] at hq;have hr:=hq.ret;rw[aa7] at hr;have hv:=hrv fb vs hr;subst hv;have hm:=hq.outs;rw[hout] at hm;refine⟨he,hm _ LA,hq.frm.mono fun b i _ hS=>?_,hq.gw⟩;obtain⟨p,hp',e1,-, -⟩:=hS;rw[hout,Nc] at hp';subst hp';exact e1
theorem AE5{bs os bx ox c:Nat}{x:List Int}(ms:Ar true w (bs,os) U4 su0)(hbs:GB≤bs)(mx:Ar false w (bx,ox) (List.replicate 64 .u8) x)(hc:64≤c)(hne:bs≠bx):
  Calls Tryz.prog 99 #[.pointer (some ⟨bs,os,none⟩),.slice (some ⟨bx,ox,none⟩) 64 c] w (ANb GC bs os U4 (suF x) (.tuple #[.pointer (some ⟨bs,os,none⟩),.nilIface]) w):=by
 have h:=l6 hG ε δ (rv:=[.pointer (some ⟨bs,os,none⟩),.nilIface]) (Hu hG) rfl rfl rfl (b0:=(bs,os)) (b1:=(bx,ox)) (x0:=su0) (x1:=x) ⟨rfl,ms,fun _=>hbs⟩ ⟨c,rfl,hc,mx,fun h=>(by cases h)⟩ (fun _=>.inr (.inl hne)) (kC (AEB UX su0 x mx.rng8 mx.len8).1) (fun fb vs h=>ACt h);have e:suF x=Aw 4 (Be.raw Ah 0 [su0,x]):=by
  unfold suF;rw[Bg UX,ATO];rfl
 rw[e];exact h
set_option maxRecDepth 100000 in
theorem AO4{bs os bx ox:Nat}{x:List Int}(ms:Ar true w (bs,os) (List.replicate 20 .u64) pt0)(hbs:GB≤bs)(mx:Ar false w (bx,ox) U4 x)(hne:bs≠bx)(hx:u4 x):
  Calls Tryz.prog 105 #[.pointer (some ⟨bs,os,none⟩),.pointer (some ⟨bx,ox,none⟩)] w (ANb GC bs os (List.replicate 20 .u64) (bmF x) (.pointer (some ⟨bs,os,none⟩)) w):=by
 have q0:PM GB w (.mem (List.replicate 20 .u64) 98 true) (.pointer (some ⟨bs,os,none⟩)) pt0 (bs,os):=⟨rfl,ms,fun _=>hbs⟩;have q1:PM GB w (.mem (List.replicate 4 .u64) 83 false) (.pointer (some ⟨bx,ox,none⟩)) x (bx,ox):=⟨rfl,mx,fun h=>(by cases h)⟩;have h:=l6 hG ε δ (rv:=[.pointer (some ⟨bs,os,none⟩)]) (IW hG) ARh AMc ANw q0 q1 (AHc hne) (ANv hx) (fun fb vs h=>ARg h);have e:bmF x=Aw 20 (Al.raw Ak 0 [pt0,x]):=by
  unfold bmF;rw[Bg UX,ARA];rfl
 rw[e];exact h
structure PbP (GC:Nat→Nat→Option Value) (l:List Int) (w:World) (e:Ending) (w':World):Prop where
 ret:∃ B o,e= .returned (.slice (some ⟨B,o,none⟩) 32 32)∧w.heap.size≤B∧Ar true w' (B,o) (List.replicate 32 .u8) l
 frm:CV w w' (fun _ _=>False)
 gw:GW GC w'
theorem AOv{bp op:Nat}{p:List Int}{P:Ma.Pt}(mp:Ar false w (bp,op) (List.replicate 20 .u64) p)(hp:R3 P p):Calls Tryz.prog 104 #[.pointer (some ⟨bp,op,none⟩)] w (PbP GC (pbF p) w):=by
 have h:=Ib hG true [.pointer (some ⟨bp,op,none⟩)] [p] [(bp,op)] w ε δ ⟨⟨rfl,mp,fun h=>(by cases h)⟩,trivial⟩ ⟨fun _ h=>(by cases h),trivial⟩ (fun _=>kC (l5 UX hp)) rfl;refine h.mono fun e w' ⟨fb,vs,he,hq⟩=>?_
 simp only[FE.sel] at hq;have hr:=hq.ret
 match vs,hr with
 | [v],hr=>
 obtain⟨b,hb,hv⟩:=hr.1;subst hv;have hm:=hq.fresh 0 (List.replicate 32 .u8,fun a=>Aw 32 (Aq.raw AU 0 a)) b rfl hb;have e1:pbF p=Aw 32 (Aq.raw AU 0 [p]):=by
  unfold pbF;rw[Bg (s:=BL) ALM,ATi];rfl
 refine⟨⟨b.1,b.2,he,hq.fr b (OZ hb),by rw[e1];exact hm⟩,hq.frm.mono fun b' o' _ hs=>?_,hq.gw⟩;obtain⟨p,hp',_⟩:=hs
 cases hp'
end
end
section
open Go
section
variable{ρ:Operand→Value}{d:Option Tmp}{x y:Operand}{ty:TypeId}{pos:String}{af:Array Edge}{w:World}{b o:Nat}
theorem AEb{s t:ByteArray}(h:ρ x= .string s)(hy:ρ y= .string t):(execOp ρ ⟨d,.binOp .neq 9 x y 9,ty,pos,af,none⟩).run Tryz.prog w= .ok (.value (.bool (!(s.toList == t.toList)))) w:=by
 simp[execOp,go_sem,h,hy]
theorem d9{s:ByteArray}(h:ρ x= .string s):(execOp ρ ⟨d,.call ⟨.builtin .len,#[x],#[9]⟩,ty,pos,af,none⟩).run Tryz.prog w= .ok (.value (.int .i64 s.size)) w:=by
 simp[go_sem,h]
theorem AKi{i:Int}(h:ρ x= .int .i64 i):(execOp ρ ⟨d,.convert 3 5 x,ty,pos,af,none⟩).run Tryz.prog w= .ok (.value (.int .u8 (IntKind.u8.wrap i))) w:=by
 simp[execOp,go_sem,h]
theorem iy{i:Int}(h:ρ x= .int .u8 i):(execOp ρ ⟨d,.buildSlice 22 1 #[(0,x)],ty,pos,af,none⟩).run Tryz.prog w= .ok (.value (.slice (some ⟨w.heap.size,0,none⟩) 1 1)) (w.alloc (.cells #[.int .u8 i] 5)):=by
 simp[execOp,go_sem,h]
theorem ALU:IntKind.i64.wrap 64=64:=by decide
theorem AVS:IntKind.i64.wrap 0=0:=by decide
theorem ASO:Tryz.t5.bytes=1:=by kernel_rfl
theorem ASc(h:ρ x= .int .i64 0)(hy:ρ y= .int .i64 64):(execOp ρ ⟨d,.makeSlice 22 x y,ty,pos,af,none⟩).run Tryz.prog w= .ok (.value (.slice (some ⟨w.heap.size,0,none⟩) 0 64)) (w.alloc (.cells (Array.replicate 64 (.int .u8 0)) 5)):=by
 simp[execOp,go_sem,h,hy,Instr.makeSlice,ALU,AVS,ASO];rfl
theorem dW(h:ρ x= .int .i64 64)(hy:ρ y= .int .i64 64):(execOp ρ ⟨d,.makeSlice 22 x y,ty,pos,af,none⟩).run Tryz.prog w= .ok (.value (.slice (some ⟨w.heap.size,0,none⟩) 64 64)) (w.alloc (.cells (Array.replicate 64 (.int .u8 0)) 5)):=by
 simp[execOp,go_sem,h,hy,Instr.makeSlice,ALU,ASO];rfl
theorem P5{u v:Value}(h:ρ x= .tuple #[u,v]):(execOp ρ ⟨d,.extract x 0,ty,pos,af,none⟩).run Tryz.prog w= .ok (.value u) w:=by
 simp[execOp,go_sem,h]
theorem MM{u v:Value}(h:ρ x= .tuple #[u,v]):(execOp ρ ⟨d,.extract x 1,ty,pos,af,none⟩).run Tryz.prog w= .ok (.value v) w:=by
 simp[execOp,go_sem,h]
theorem Wx(h:ρ x= .nilIface)(hy:ρ (.const .nilIface)= .nilIface):(execOp ρ ⟨d,.binOp .neq 45 x (.const .nilIface) 45,ty,pos,af,none⟩).run Tryz.prog w= .ok (.value (.bool false)) w:=by
 simp[execOp,go_sem,h,hy]
 trace_state
theorem z20:(#[.int .u64 0,.int .u64 0,.int .u64 0,.int .u64 0,.int .u64 0,.int .u64 0,.int .u64 0,.int .u64 0,.int .u64 0,.int .u64 0,.int .u64 0,.int .u64 0,.int .u64 0,.int .u64 0,.int .u64 0,.int .u64 0,.int .u64 0,.int .u64 0,.int .u64 0,.int .u64 0]:Array Value)=(AZ (List.replicate 20 .u64) pt0).toArray:=rfl
theorem ALz:(execOp ρ ⟨d,.build 97 #[],ty,pos,af,none⟩).run Tryz.prog w= .ok (.value (.agg (AZ (List.replicate 20 .u64) pt0).toArray)) w:=by
 rw[← z20];simp[execOp,go_sem]
theorem AMn{cs:Array Value}(h:ρ x= .agg cs):(execOp ρ ⟨d,.box 97 x,ty,pos,af,none⟩).run Tryz.prog w= .ok (.value (.pointer (some ⟨w.heap.size,0,none⟩))) (w.alloc (.cells cs 97)):=by
 simp[execOp,go_sem,h]
theorem AVw(h:ρ x= .pointer (some ⟨b,o,none⟩)):(execOp ρ ⟨d,.fieldAddr 84 x 3,ty,pos,af,none⟩).run Tryz.prog w= .ok (.value (.pointer (some ⟨b,o+68,none⟩))) w:=by
 simp[execOp,go_sem,h]
theorem AWH(h:ρ x= .pointer (some ⟨b,o,none⟩)):(execOp ρ ⟨d,.fieldAddr 84 x 1,ty,pos,af,none⟩).run Tryz.prog w= .ok (.value (.pointer (some ⟨b,o+32,none⟩))) w:=by
 simp[execOp,go_sem,h]
theorem bf(hx:ρ x= .pointer (some ⟨b,o,none⟩)):(execOp ρ ⟨d,.slice 48 x none none none,ty,pos,af,none⟩).run Tryz.prog w= .ok (.value (.slice (some ⟨b,o,none⟩) 32 32)) w:=by
 have hu:=run_underlying (w:=w) Tryz.underlying48;simp only[execOp,hx,Option.map_none,Instr.sliceAt,I1,hu,IB];simp[Instr.sliceBounds,Instr.sureAddr,go_sem]
end
end
noncomputable section
open Go
def TG(s:ByteArray):List Int:=s.data.toList.map fun b=>(b.toNat:Int)
theorem Kj(s:ByteArray):(TG s).length=s.size:=by simp[TG]
theorem qx(s:ByteArray):∀ x∈TG s,0≤x∧x≤255:=fun x hx=>by
 obtain⟨b,_,rfl⟩:=VI.1 hx;have:=b.toNat_lt;omega
def Qm(p c:ByteArray):List Int:=if p.toList == ([]:List UInt8) then [] else ([]++TG p ++ [IntKind.u8.wrap (c.size:Int)])++TG c
def JI(w:World)(v:Value)(xs:List Int):Prop:=∃ (ap:Option Addr) (c:Nat),v= .slice ap xs.length c∧xs.length≤c∧(∀ x∈xs,0≤x∧x≤255)∧(0<xs.length→∃ b o,ap=some ⟨b,o,none⟩∧b<w.heap.size∧∀ i,i<xs.length→w.cell? ⟨b,o+i,none⟩=some (.int .u8 (xs.getD i 0)))
theorem JI.psl{w w':World}{B:Nat}{v:Value}{xs:List Int}(h:JI w v xs)(hf:CV w w' (fun _ _=>False))(hB:w.heap.size≤B):aX w' B v xs:=by
 obtain⟨ap,c,h1,h2,h3,h4⟩:=h;refine⟨ap,c,h1,h2,h3,fun h0=>?_⟩;obtain⟨b,o,e,hb,hc⟩:=h4 h0;exact⟨b,o,e,by omega,fun i hi=>(hf.hasC (f:=false) ⟨hc i hi,fun h=>(by cases h)⟩ (fun h=>h)).1⟩
theorem Ar.sub8{f:Bool}{w:World}{b o k n:Nat}{ks:List IntKind}{xs:List Int}(h:Ar f w (b,o) ks xs)(hk:∀ i,i<n→ks[k+i]? = some .u8):Ar f w (b,o+k) (List.replicate n .u8) (cp xs k n):=by
 have hx:∀ i,i<n→xs[k+i]? = some (xs.getD (k+i) 0):=fun i hi=>by
  have:=(Pi.1 (hk i hi)).1;have hl:=h.1.1;simp[List.getD,show k+i<xs.length by omega]
 have hg:∀ i,i<n→(cp xs k n).getD i 0=xs.getD (k+i) 0:=fun i hi=>by simp[cp,List.getD,hi]
 refine AF8 (UW _ _ _) (fun z hz=>?_) fun i hi=>?_
 ·obtain⟨i,hi,rfl⟩:=VI.1 hz;have hi':=fD.1 hi;have:=h.1.2 (k+i) .u8 _ (hk i hi') (hx i hi');exact⟨this.1,this.2⟩
 ·rw[hg i hi,XN];exact h.2 (k+i) .u8 _ (hk i hi) (hx i hi)
theorem aX.of_mem{f:Bool}{w:World}{B b o n c:Nat}{xs:List Int}(h:Ar f w (b,o) (List.replicate n .u8) xs)(hc:n≤c)(hb:b≠B):aX w B (.slice (some ⟨b,o,none⟩) n c) xs:=
 ⟨_,c,by rw[h.len8],by rw[h.len8];exact hc,h.rng8,fun _=>⟨b,o,rfl,hb,fun i hi=>(h.at8 (by rw[h.len8] at hi;exact hi)).1.1⟩⟩
section
variable{ρ:Operand→Value}{d:Option Tmp}{x:Operand}{ty:TypeId}{pos:String}{af:Array Edge}{w:World}
def sW(w:World)(s:ByteArray):World:=w.drew.alloc (.cells (bytesRow s (grownCap w s.size 0 5)) 5 ((bytesRow s (grownCap w s.size 0 5)).size,(bytesRow s (grownCap w s.size 0 5)).size+1))
theorem zx{s:ByteArray}(h:ρ x= .string s):(execOp ρ ⟨d,.convert 9 22 x,ty,pos,af,none⟩).run Tryz.prog w= .ok (.value (.slice (some ⟨w.heap.size,0,none⟩) s.size (grownCap w s.size 0 5))) (sW w s):=by
 have hr:=run_bytes_of_string (P:=Tryz.prog) w 9 22 5 s Tryz.underlying9 Tryz.underlying22 Tryz.underlying5;simp only[execOp,h,I1,hr,IB];rfl
theorem L9(w:World)(s:ByteArray):CV w (sW w s) (fun _ _=>False):=(CV.refl w _).push (o:=.cells (bytesRow s (grownCap w s.size 0 5)) 5 ((bytesRow s (grownCap w s.size 0 5)).size,(bytesRow s (grownCap w s.size 0 5)).size+1)) rfl rfl rfl rfl
theorem mJ{w:World}{s:ByteArray}{B:Nat}(hB:B<w.heap.size):aX (sW w s) B (.slice (some ⟨w.heap.size,0,none⟩) s.size (grownCap w s.size 0 5)) (TG s):=by
 refine⟨_,grownCap w s.size 0 5,by rw[Kj],by rw[Kj];exact grownCap_ge w s.size 0 _,qx s,fun _=>⟨w.heap.size,0,rfl,by omega,fun i hi=>?_⟩⟩;rw[Kj] at hi;have hi':i<s.data.size:=hi;have hb:=bytesRow_at s (grownCap w s.size 0 5) i hi';have hh:(sW w s).heap[w.heap.size]? = some (.cells (bytesRow s (grownCap w s.size 0 5)) 5 ((bytesRow s (grownCap w s.size 0 5)).size,(bytesRow s (grownCap w s.size 0 5)).size+1)):=Array.getElem?_push_size;unfold World.cell?;simp only[hh,NU,hb,Option.isSome_none,Rc,if_false];simp only[TG,List.getD,OX,Array.getElem?_toList,Array.getElem?_eq_getElem hi'];rfl
end
theorem AAX{w:World}{i:Int}{B:Nat}(hB:B<w.heap.size)(hi:0≤i∧i≤255):aX (w.alloc (.cells #[.int .u8 i] 5)) B (.slice (some ⟨w.heap.size,0,none⟩) 1 1) [i]:=by
 refine⟨_,1,rfl,by simp,fun x hx=>by rw[Nc] at hx;rw[hx];exact hi,fun _=>⟨w.heap.size,0,rfl,by omega,fun j hj=>?_⟩⟩;have hj:j=0:=by simpa using hj
 subst hj;have hh:(w.alloc (.cells #[.int .u8 i] 5)).heap[w.heap.size]? = some (.cells #[.int .u8 i] 5):=Array.getElem?_push_size;unfold World.cell?;simp only[hh];rfl
theorem u8w(i:Int):0≤IntKind.u8.wrap i∧IntKind.u8.wrap i≤255:=by
 rw[SQ (k:=.u8) rfl];show 0≤i%256∧i%256≤255;omega
def lU(dom pk msg:List Int):List Int:=suF (Kn (dom++cp pk 68 32++msg))
def AD1(dom pk msg:List Int):List Int:=pbF (bmF (lU dom pk msg))
def AAo(dom pk msg:List Int):List Int:=suF (Kn (dom++AD1 dom pk msg++cp pk 32 32++msg))
def ZG(dom pk msg:List Int):List Int:=AD1 dom pk msg++cp (sbF (Aw 4 (maF (AAo dom pk msg) (cp pk 64 4) (lU dom pk msg)))) 0 32
structure SgP (GC:Nat→Nat→Option Value) (bs os c:Nat) (l:List Int) (w:World) (e:Ending) (w':World):Prop where
 ret:e= .returned (.slice (some ⟨bs,os,none⟩) 64 c)
 mem:Ar true w' (bs,os) (List.replicate 64 .u8) l
 frm:CV w w' (fun b _=>b=bs)
 gw:GW GC w'
structure Sl (bs os cs bp op:Nat) (vm:Value) (p c:ByteArray) (f:Nat→Value):Prop where
 f0:f 0= .slice (some ⟨bs,os,none⟩) 64 cs
 f1:f 1= .pointer (some ⟨bp,op,none⟩)
 f2:f 2=vm
 f3:f 3= .string p
 f4:f 4= .string c
theorem Sl.pin{bs os cs bp op:Nat}{vm:Value}{p c:ByteArray}{f:Nat→Value}{a:Act}(h:Sl bs os cs bp op vm p c f)(F:Fr a 124 f):Fr a 124 (SN (SN (SN (SN (SN f 0 (.slice (some ⟨bs,os,none⟩) 64 cs)) 1 (.pointer (some ⟨bp,op,none⟩))) 2 vm) 3 (.string p)) 4 (.string c)):=by
 have F:=F.pin h.f0;have F:=F.pin (t:=1) (v:=.pointer (some ⟨bp,op,none⟩)) h.f1;have F:=F.pin (t:=2) (v:=vm) h.f2;have F:=F.pin (t:=3) (v:=.string p) h.f3;exact F.pin (t:=4) (v:=.string c) h.f4
end
section
open Go
theorem Q0{w w1 w2:World}{S:Nat→Nat→Prop}(h:CV w w1 (fun _ _=>False))(hf:CV w1 w2 S)(hS:∀ b i,S b i→w.heap.size≤b):CV w w2 (fun _ _=>False):=h.trans' hf fun b i hb hs=>by have:=hS b i hs;omega
theorem PH{GB:Nat}{GC:Nat→Nat→Option Value}{ad:Nat→Nat×Nat}(_hG:Jk GB GC ad){w w':World}(h:GW GC w)(hf:CV w w' (fun _ _=>False)):GW GC w':=fun b o v hv=>(hf.hasC (f:=false) ⟨h b o v hv,fun h=>(by cases h)⟩ (fun h=>h)).1
theorem fF{w w':World}{S:Nat→Nat→Prop}(h:CV w w' (fun _ _=>False)):CV w w' S:=h.mono fun _ _ _ h=>h.elim
theorem Jk.mono{GB GB':Nat}{GC:Nat→Nat→Option Value}{ad:Nat→Nat×Nat}(h:Jk GB GC ad)(hle:GB≤GB'):Jk GB' GC ad:=⟨fun b o v hv=>zcg (h.lt b o v hv) hle,h.ok,fun x hx=>zcg (h.ob x hx) hle⟩
theorem WT:(⟨#[]⟩:ByteArray).toList= []:=by
 unfold ByteArray.toList ByteArray.toList.loop;rfl
set_option maxRecDepth 100000 in
set_option maxHeartbeats 4000000 in
theorem jq{GB:Nat}{GC:Nat→Nat→Option Value}{ad:Nat→Nat×Nat}(hG:Jk GB GC ad){w:World}{bs os cs bp op:Nat}{sg pk msg:List Int}{vm:Value}{p c:ByteArray}(ε:GW GC w)(δ:GB≤w.heap.size)(hsg:Ar true w (bs,os) (List.replicate 64 .u8) sg)(hbs:GB≤bs)(hcs:64≤cs)(hpk:Ar false w (bp,op) aS pk)(_hne:bs≠bp)(hm:JI w vm msg)(hml:msg.length<1099511627776)(hpl:p.size<1099511627776)(hcl:c.size<1099511627776):
  Calls Tryz.prog 91 #[.slice (some ⟨bs,os,none⟩) 64 cs,.pointer (some ⟨bp,op,none⟩),vm,.string p,.string c] w (SgP GC bs os cs (ZG (Qm p c) pk msg) w):=by
 have hbsl:bs<w.heap.size:=(hsg.at8 (i:=0) (by omega)).1.lt;have hdl:(Qm p c).length<3298534883328:=by
  unfold Qm
  split
  ·simp
  ·simp only[K6,Kj,Oq,zcj];omega
 refine enter (args:=[.slice (some ⟨bs,os,none⟩) 64 cs,.pointer (some ⟨bp,op,none⟩),vm,.string p,.string c]) Tryz.func91 rfl (n:=124) rfl fun a F=>?_
 refine BQ (Bv F rfl fun a F=>Ae ?_);refine BQ (Jr F rfl (O1 rfl Tryz.call92) (zZ hG ε δ) fun e w1 h1=>?_);obtain⟨B,o,he,hB,hD1⟩:=h1.ret;refine⟨_,he,fun a F=>AR F rfl fun a F=>Ae ?_⟩;have g1:=h1.frm;have hGBB:GB≤B:=G9 δ hB;refine KT (J:=fun a w'=>∃ f,Fr a 124 f∧Sl bs os cs bp op vm p c f∧f 11= .pointer (some ⟨B,o,none⟩)∧Dig w' B o (Qm p c)∧CV w w' (fun _ _=>False)) ?_ ?_
 ·refine BQ (AB F rfl fun a F=>Cm F rfl (AEb (t:=⟨#[]⟩) F.e rfl) fun a F=>Ae (tL F rfl (fun hb=>?_) fun hb=>?_))
  ·have aaP:Qm p c=([]++TG p ++ [IntKind.u8.wrap (c.size:Int)])++TG c:=by
    unfold Qm;rw[if_neg]
    intro h
    have e:=WT;rw[e,h] at hb
    cases hb
   have hBl1:B<w1.heap.size:=by obtain⟨x,D,_⟩:=hD1.ex;exact D.hs.lt
   refine BQ (AB F rfl fun a F=>AB F rfl fun a F=>Cm F rfl (zx F.e) fun a F=>
    Jr F rfl (Cz rfl F.e F.e Tryz.call93) (JK hG (PH hG h1.gw (L9 _ _)) (G9 (G9 δ g1.1) (L9 w1 p).1) hGBB (hD1.frm (L9 _ _) fun _ h=>h) (mJ hBl1) (by rw[Kj];simp;omega)) fun e w2 h2=>⟨_,h2.ret,fun a F=>Ae ?_⟩)
   have g2:=Q0 (g1.trans (L9 w1 p)) h2.frm (fun b _ h=>by omega);have hBl2:B<w2.heap.size:=by obtain⟨x,D,_⟩:=h2.dig.ex;exact D.hs.lt
   have f2:=Cs w2 (.cells #[.int .u8 (IntKind.u8.wrap (c.size:Int))] 5) (fun _ _=>False);refine BQ (AB F rfl fun a F=>AB F rfl fun a F=>Cm F rfl (d9 F.e) fun a F=>Cm F rfl (AKi F.e) fun a F=>Cm F rfl (iy F.e) fun a F=>
    Jr F rfl (Cz rfl F.e F.e Tryz.call93) (JK hG (PH hG h2.gw f2) (G9 (G9 δ g2.1) f2.1) hGBB (h2.dig.frm f2 fun _ h=>h) (AAX hBl2 (u8w _)) (by simp[Kj];omega)) fun e w3 h3=>⟨_,h3.ret,fun a F=>Ae ?_⟩)
   have g3:=Q0 (g2.trans f2) h3.frm (fun b _ h=>by omega);have hBl3:B<w3.heap.size:=by obtain⟨x,D,_⟩:=h3.dig.ex;exact D.hs.lt
   refine reg (AB F rfl fun a F=>AB F rfl fun a F=>Cm F rfl (zx F.e) fun a F=>
    Jr F rfl (Cz rfl F.e F.e Tryz.call93) (JK hG (PH hG h3.gw (L9 _ _)) (G9 (G9 δ g3.1) (L9 w3 c).1) hGBB (h3.dig.frm (L9 _ _) fun _ h=>h) (mJ hBl3) (by simp[Kj];omega)) fun e w4 h4=>⟨_,h4.ret,fun a F=>Gv ?_⟩)
   have g4:=Q0 (g3.trans (L9 w3 c)) h4.frm (fun b _ h=>by omega);exact⟨rfl,_,F,⟨rfl,rfl,rfl,rfl,rfl⟩,rfl,by rw[aaP];exact h4.dig,g4⟩
  ·have aaP:Qm p c= []:=by
    unfold Qm;rw[if_pos];have e:=WT;rw[e] at hb
    simpa using hb
   exact Ot ⟨rfl,_,F,⟨rfl,rfl,rfl,rfl,rfl⟩,rfl,by rw[aaP];exact hD1,g1⟩
 clear F g1 hD1
 rintro a w4 ⟨f4,F4,S4,h11,hD4,g4⟩
 have F:=(S4.pin F4).pin (t:=11) (v:=.pointer (some ⟨B,o,none⟩)) h11;clear F4 S4 h11;have D5:∀ {w':World},CV w w' (fun _ _=>False)→Ar false w' (bp,op) aS pk:=fun hf=>hpk.frm hf fun _ _ h=>h
 have hk68:∀ i,i<32→aS[68+i]? = some .u8:=by decide
 have hk32:∀ i,i<32→aS[32+i]? = some .u8:=by decide
 have hbpl:bp<w.heap.size:=(hpk.2 0 .u8 _ (by decide) (Jo (by rw[hpk.1.1];decide))).lt;refine BQ (AB F rfl fun a F=>AB F rfl fun a F=>Kr F rfl rfl fun a F=>Cm F rfl (AVw F.e) fun a F=>Cm F rfl (bf F.e) fun a F=>
  Jr F rfl (Cz rfl F.e F.e Tryz.call93) (JK hG (PH hG ε g4) (G9 δ g4.1) hGBB hD4 (aX.of_mem ((D5 g4).sub8 hk68) (JP _) (by omega)) (by rw[UW];omega)) fun e w5 h5=>⟨_,h5.ret,fun a F=>Ae ?_⟩)
 have g5:=Q0 g4 h5.frm (fun b _ h=>by omega);refine BQ (AB F rfl fun a F=>AB F rfl fun a F=>
  Jr F rfl (Cz rfl F.e F.e Tryz.call93) (JK hG h5.gw (G9 δ g5.1) hGBB h5.dig (hm.psl g5 hB) (by rw[K6,UW];omega)) fun e w6 h6=>⟨_,h6.ret,fun a F=>Ae ?_⟩)
 have g6:=Q0 g5 h6.frm (fun b _ h=>by omega);refine BQ (Cm F rfl (ASc rfl rfl) fun a F=>AR F rfl fun a F=>Ae ?_);have N7:=Hq w6 64 .u8 5 ⟨by decide,by decide⟩;have f7:CV w6 (w6.alloc (.cells (Array.replicate 64 (.int .u8 0)) 5)) (fun _ _=>False):=Cs _ _ _;generalize w6.alloc (.cells (Array.replicate 64 (.int .u8 0)) 5)=w7 at N7 f7 ⊢;have g7:=g6.trans f7;have hs6:w.heap.size≤w6.heap.size:=g6.1;generalize hB7:w6.heap.size=B7 at N7 F hs6;refine BQ (AB F rfl fun a F=>AB F rfl fun a F=>Jr F rfl (Cz rfl F.e F.e Tryz.call94) (AAP hG (PH hG ε g7) (G9 δ g7.1) (h6.dig.frm f7 fun _ h=>h) (by rw[K6,K6,UW];omega) (G9 δ hs6) N7 (JP _)) fun e w8 h8=>⟨_,h8.ret,fun a F=>AR F rfl fun a F=>Ae ?_⟩);have g8:=Q0 g7 h8.frm (fun b _ h=>by omega);refine BQ (Jr F rfl (O1 rfl Tryz.call98) (xK hG h8.gw (G9 δ g8.1)) fun e w9 h9=>?_);obtain⟨B9,o9,he9,hB9,hM9⟩:=h9.ret;have g9:=g8.trans h9.frm;have hB7l:B7<w8.heap.size:=(h8.mem.at8 (i:=0) (by omega)).1.lt;refine⟨_,he9,fun a F=>AB F rfl fun a F=>Jr F rfl (Cz rfl F.e F.e Tryz.call99) (AE5 hG h9.gw (G9 δ g9.1) hM9 (by have:=g8.1;omega) ((show Ar true w9 (B7,0) (List.replicate 64 .u8) _ from h8.mem.frm h9.frm fun _ _ h=>h) |> fun h=>⟨h.1,fun i k x a b=>(h.2 i k x a b).weak⟩) (JP _) (by omega)) fun e w10 h10=>⟨_,h10.ret,fun a F=>?_⟩⟩;refine AB F rfl fun a F=>Cm F rfl (P5 F.e) fun a F=>Cm F rfl (MM F.e) fun a F=>AR F rfl fun a F=>AR F rfl fun a F=>Ae ?_
 have hB9w:w.heap.size≤B9:=by have:=g8.1;omega
 have zo:=Q0 g9 h10.frm (fun b _ h=>by omega);have hr4:u4 (lU (Qm p c) pk msg):=ALu h8.mem.rng8 (Du _);have MR:Ar true w10 (B9,o9) U4 (lU (Qm p c) pk msg):=h10.mem;refine wp_seq (BQ (AB F rfl fun a F=>Cm F rfl (Wx F.e rfl) fun a F=>Ae (wp_cond_false F.e (wp_skip ?_))));show Code.wp _ _ _ _ _;refine BQ (Cm F rfl ALz fun a F=>Cm F rfl (AMn F.e) fun a F=>?_);have N11:=SA w10 (List.replicate 20 .u64) pt0 97 (Ws (by decide));have f11:CV w10 (w10.alloc (.cells (AZ (List.replicate 20 .u64) pt0).toArray 97)) (fun _ _=>False):=Cs _ _ _;generalize w10.alloc (.cells (AZ (List.replicate 20 .u64) pt0).toArray 97)=w11 at N11 f11 ⊢;have g11:=zo.trans f11;have hB9l:B9<w10.heap.size:=(MR.at64 (i:=0) (by omega)).1.lt;have hs10:w.heap.size≤w10.heap.size:=zo.1;generalize hB11:w10.heap.size=B11 at N11 F hs10 hB9l;refine AB F rfl fun a F=>Jr F rfl (Cz rfl F.e F.e Tryz.call105) (AO4 hG (PH hG ε g11) (G9 δ g11.1) N11 (G9 δ hs10) ((show Ar true w11 (B9,o9) U4 _ from MR.frm f11 fun _ _ h=>h) |> fun h=>⟨h.1,fun i k x a b=>(h.2 i k x a b).weak⟩) (by omega) hr4) fun e w12 h12=>⟨_,h12.ret,fun a F=>AR F rfl fun a F=>Ae ?_⟩
 have g12:=Q0 g11 h12.frm (fun b _ h=>by omega);have acW:=(MR.frm f11 fun _ _ h=>h).frm h12.frm fun _ _ (h:B9=B11)=>by omega
 obtain⟨Pt,hPt⟩:=APe hr4;refine BQ (Jr F rfl (O1 rfl Tryz.call92) (zZ hG h12.gw (G9 δ g12.1)) fun e w13 h13=>?_);obtain⟨C,oc,hec,hC,ab7⟩:=h13.ret;refine⟨_,hec,fun a F=>AR F rfl fun a F=>Ae ?_⟩;have g13:=g12.trans h13.frm;have hCw:w.heap.size≤C:=G9 g12.1 hC;have hGBC:GB≤C:=G9 δ hCw;have ad1:=acW.frm h13.frm fun _ _ h=>h
 have aeV:=h12.mem.frm h13.frm fun _ _ h=>h
 have hB9C:B9<C:=by have:=(acW.at64 (i:=0) (by omega)).1.lt;omega
 have hB11C:B11<C:=by have:=(h12.mem.at64 (i:=0) (by omega)).1.lt;omega
 refine KT (J:=fun a w'=>∃ f,Fr a 124 f∧Sl bs os cs bp op vm p c f∧f 13= .pointer (some ⟨B9,o9,none⟩)∧f 15= .pointer (some ⟨B11,0,none⟩)∧f 16= .pointer (some ⟨C,oc,none⟩)∧Dig w' C oc (Qm p c)∧CV w13 w' (fun b _=>b=C)) ?_ ?_
 ·refine BQ (AB F rfl fun a F=>Cm F rfl (AEb (t:=⟨#[]⟩) F.e rfl) fun a F=>Ae (tL F rfl (fun hb=>?_) fun hb=>?_))
  ·have aaP:Qm p c=([]++TG p ++ [IntKind.u8.wrap (c.size:Int)])++TG c:=by
    unfold Qm;rw[if_neg]
    intro h
    have e:=WT;rw[e,h] at hb
    cases hb
   have hBl1:C<w13.heap.size:=by obtain⟨x,D,_⟩:=ab7.ex;exact D.hs.lt
   refine BQ (AB F rfl fun a F=>AB F rfl fun a F=>Cm F rfl (zx F.e) fun a F=>
    Jr F rfl (Cz rfl F.e F.e Tryz.call93) (JK hG (PH hG h13.gw (L9 _ _)) (G9 (G9 δ g13.1) (L9 w13 p).1) hGBC (ab7.frm (L9 _ _) fun _ h=>h) (mJ hBl1) (by rw[Kj];simp;omega)) fun e w2 h2=>⟨_,h2.ret,fun a F=>Ae ?_⟩)
   have k2:CV w13 w2 (fun b _=>b=C):=(fF (L9 w13 p)).trans h2.frm;have hBl2:C<w2.heap.size:=by obtain⟨x,D,_⟩:=h2.dig.ex;exact D.hs.lt
   have f2:=Cs w2 (.cells #[.int .u8 (IntKind.u8.wrap (c.size:Int))] 5) (fun _ _=>False);refine BQ (AB F rfl fun a F=>AB F rfl fun a F=>Cm F rfl (d9 F.e) fun a F=>Cm F rfl (AKi F.e) fun a F=>Cm F rfl (iy F.e) fun a F=>
    Jr F rfl (Cz rfl F.e F.e Tryz.call93) (JK hG (PH hG h2.gw f2) (G9 (G9 (G9 δ g13.1) k2.1) f2.1) hGBC (h2.dig.frm f2 fun _ h=>h) (AAX hBl2 (u8w _)) (by simp[Kj];omega)) fun e w3 h3=>⟨_,h3.ret,fun a F=>Ae ?_⟩)
   have k3:CV w13 w3 (fun b _=>b=C):=(k2.trans (fF f2)).trans h3.frm;have hBl3:C<w3.heap.size:=by obtain⟨x,D,_⟩:=h3.dig.ex;exact D.hs.lt
   refine reg (AB F rfl fun a F=>AB F rfl fun a F=>Cm F rfl (zx F.e) fun a F=>
    Jr F rfl (Cz rfl F.e F.e Tryz.call93) (JK hG (PH hG h3.gw (L9 _ _)) (G9 (G9 (G9 δ g13.1) k3.1) (L9 w3 c).1) hGBC (h3.dig.frm (L9 _ _) fun _ h=>h) (mJ hBl3) (by simp[Kj];omega)) fun e w4 h4=>⟨_,h4.ret,fun a F=>Gv ?_⟩)
   exact⟨rfl,_,F,⟨rfl,rfl,rfl,rfl,rfl⟩,rfl,rfl,rfl,by rw[aaP];exact h4.dig,(k3.trans (fF (L9 w3 c))).trans h4.frm⟩
  ·have aaP:Qm p c= []:=by
    unfold Qm;rw[if_pos];have e:=WT;rw[e] at hb
    simpa using hb
   exact Ot ⟨rfl,_,F,⟨rfl,rfl,rfl,rfl,rfl⟩,rfl,rfl,rfl,by rw[aaP];exact ab7,CV.refl _ _⟩
 clear F
 rintro a w14 ⟨f14,F14,S14,acO,h15,h16,acw,k14⟩
 have F:=(S14.pin F14).pin (t:=13) (v:=.pointer (some ⟨B9,o9,none⟩)) acO;have F:=F.pin (t:=15) (v:=.pointer (some ⟨B11,0,none⟩)) h15;have F:=F.pin (t:=16) (v:=.pointer (some ⟨C,oc,none⟩)) h16;clear F14 S14 acO h15 h16;have g14:=Q0 g13 k14 (fun b _ h=>by omega);have ac7:=ad1.frm k14 fun _ _ (h:B9=C)=>by omega
 have acd:=aeV.frm k14 fun _ _ (h:B11=C)=>by omega
 have aeR:=PH hG ε g14;have weak:∀ {w':World} {b o:Nat} {ks:List IntKind} {l:List Int},Ar true w' (b,o) ks l→Ar false w' (b,o) ks l:=fun h=>⟨h.1,fun i k x a b=>(h.2 i k x a b).weak⟩
 refine BQ (AB F rfl fun a F=>AB F rfl fun a F=>Jr F rfl (Dn rfl F.e Tryz.call104) (AOv hG aeR (G9 δ g14.1) (weak acd) hPt) fun e w15 h15=>?_);obtain⟨B15,o15,adR,ahb,aaN⟩:=h15.ret;have g15:=g14.trans h15.frm;have hC14:C<w14.heap.size:=by obtain⟨x,D,_⟩:=acw.ex;exact D.hs.lt
 refine⟨_,adR,fun a F=>Jr F rfl (Cz rfl F.e F.e Tryz.call93) (JK hG h15.gw (G9 δ g15.1) hGBC (acw.frm h15.frm fun _ h=>h) (aX.of_mem aaN (JP _) (by omega)) (by rw[aaN.len8];omega)) fun e w16 h16=>⟨_,h16.ret,fun a F=>Ae ?_⟩⟩;have g16:=Q0 g15 h16.frm (fun b _ h=>by omega);have hPl:(AD1 (Qm p c) pk msg).length=32:=aaN.len8;refine BQ (AB F rfl fun a F=>AB F rfl fun a F=>Kr F rfl rfl fun a F=>Cm F rfl (AWH F.e) fun a F=>Cm F rfl (bf F.e) fun a F=>
  Jr F rfl (Cz rfl F.e F.e Tryz.call93) (JK hG h16.gw (G9 δ g16.1) hGBC h16.dig (aX.of_mem ((D5 g16).sub8 hk32) (JP _) (by omega)) (by rw[K6,UW,aaN.len8];omega)) fun e w17 h17=>⟨_,h17.ret,fun a F=>Ae ?_⟩)
 have g17:=Q0 g16 h17.frm (fun b _ h=>by omega);refine BQ (AB F rfl fun a F=>AB F rfl fun a F=>
  Jr F rfl (Cz rfl F.e F.e Tryz.call93) (JK hG h17.gw (G9 δ g17.1) hGBC h17.dig (hm.psl g17 hCw) (by rw[K6,K6,UW,aaN.len8];omega)) fun e w18 h18=>⟨_,h18.ret,fun a F=>Ae ?_⟩)
 have g18:=Q0 g17 h18.frm (fun b _ h=>by omega);have k18:CV w14 w18 (fun b _=>b=C):=(((fF h15.frm).trans h16.frm).trans h17.frm).trans h18.frm;refine BQ (Cm F rfl (ASc rfl rfl) fun a F=>AR F rfl fun a F=>Ae ?_);have N19:=Hq w18 64 .u8 5 ⟨by decide,by decide⟩;have f19:CV w18 (w18.alloc (.cells (Array.replicate 64 (.int .u8 0)) 5)) (fun _ _=>False):=Cs _ _ _;generalize w18.alloc (.cells (Array.replicate 64 (.int .u8 0)) 5)=w19 at N19 f19 ⊢;have g19:=g18.trans f19;have hs18:w14.heap.size≤w18.heap.size:=k18.1;have hs14:w.heap.size≤w14.heap.size:=g14.1;have hB9l14:B9<w14.heap.size:=(ac7.at64 (i:=0) (by omega)).1.lt;have hB11l14:B11<w14.heap.size:=(acd.at64 (i:=0) (by omega)).1.lt;generalize hB19:w18.heap.size=B19 at N19 F hs18;refine BQ (AB F rfl fun a F=>AB F rfl fun a F=>Jr F rfl (Cz rfl F.e F.e Tryz.call94) (AAP hG (PH hG ε g19) (G9 δ g19.1) (h18.dig.frm f19 fun _ h=>h) (by rw[K6,K6,K6,UW,aaN.len8];omega) (by omega) N19 (JP _)) fun e w20 h20=>⟨_,h20.ret,fun a F=>AR F rfl fun a F=>Ae ?_⟩);have g20:=Q0 g19 h20.frm (fun b _ h=>by omega);refine BQ (Jr F rfl (O1 rfl Tryz.call98) (xK hG h20.gw (G9 δ g20.1)) fun e w21 h21=>?_);obtain⟨B21,o21,adB,agv,ad7⟩:=h21.ret;have g21:=g20.trans h21.frm;have hB19l:B19<w20.heap.size:=(h20.mem.at8 (i:=0) (by omega)).1.lt;refine⟨_,adB,fun a F=>AB F rfl fun a F=>Jr F rfl (Cz rfl F.e F.e Tryz.call99) (AE5 hG h21.gw (G9 δ g21.1) ad7 (by have:=g20.1;omega) (weak (h20.mem.frm h21.frm fun _ _ h=>h)) (JP _) (by omega)) fun e w22 h22=>⟨_,h22.ret,fun a F=>?_⟩⟩;refine AB F rfl fun a F=>Cm F rfl (P5 F.e) fun a F=>Cm F rfl (MM F.e) fun a F=>AR F rfl fun a F=>AR F rfl fun a F=>Ae ?_
 have hB21w:w.heap.size≤B21:=by have:=g20.1;omega
 have g22:=Q0 g21 h22.frm (fun b _ h=>by omega);have MK:Ar true w22 (B21,o21) U4 (AAo (Qm p c) pk msg):=h22.mem;have k22:∀ {b o:Nat} {ks:List IntKind} {l:List Int},b<w14.heap.size→b≠C→Ar true w14 (b,o) ks l→Ar true w22 (b,o) ks l:=fun {b o ks l} hb hbC h=>by
  have e1:=h.frm k18 fun _ _ (h:b=C)=>hbC h
  have e2:=(e1.frm f19 fun _ _ h=>h).frm h20.frm fun _ _ (h:b=B19)=>by omega
  exact (e2.frm h21.frm fun _ _ h=>h).frm h22.frm fun _ _ (h:b=B21)=>by have:=h20.frm.1;have:=f19.1;omega
 have adV:=k22 hB9l14 (by omega) ac7;have aeQ:=k22 hB11l14 (by omega) acd;refine wp_seq (BQ (AB F rfl fun a F=>Cm F rfl (Wx F.e rfl) fun a F=>Ae (wp_cond_false F.e (wp_skip ?_))));show (Code.seq (rS 27) (Code.seq (rS 28) (Code.seq (rS 29) _))).wp _ _ _ _;refine wp_seq (wp_mono (AOL (hG.mono (G9 δ g22.1)) F h22.gw (JP _) rfl rfl rfl (weak MK) (D5 g22) (weak adV)) ?_)
 rintro e a w23 ⟨rfl,f23,B23,o23,F23,q19,M23,q23,h23,aey,q0,q15⟩
 have g23:=g22.trans h23;show (Code.seq (rS 28) _).wp _ _ _ _;refine wp_seq (wp_mono (AMq hG F23 aey (G9 δ g23.1) (q0.trans rfl) hcs (q15.trans rfl) (hsg.frm g23 fun _ _ h=>h) hbs (weak (aeQ.frm h23 fun _ _ h=>h)) (by omega) hPt) ?_)
 rintro e a w24 ⟨rfl,f24,F24,M24,k24,adC,p0,p19⟩
 have hb23:bs<B23:=by have:=g22.1;omega
 have aem:=M23.frm k24 fun _ _ (h:B23=bs)=>by omega
 have gg24:CV w w24 (fun b _=>b=bs):=(fF g23).trans k24;show (Code.seq (rS 29) _).wp _ _ _ _;refine wp_seq (wp_mono (AOj hG F24 adC (G9 δ gg24.1) (p0.trans (q0.trans rfl)) hcs (p19.trans q19) M24 hbs (weak aem) (by omega)) ?_)
 rintro e a w25 ⟨rfl,f25,F25,M25,k25,ad9,r0⟩
 have F:=F25.pin (t:=0) (v:=.slice (some ⟨bs,os,none⟩) 64 cs) (r0.trans (p0.trans (q0.trans rfl)));refine BQ (AB F rfl fun a F=>AR F rfl fun a F=>Ae ?_);refine Kh ⟨F.df,.slice (some ⟨bs,os,none⟩) 64 cs,?_,rfl,?_,gg24.trans k25,ad9⟩
 ·have h10:=F.tm 10;rw[Ti] at h10;simp[results,Tryz.results91,go_sem];exact h10
 ·rw[um (UW _ _ _),AFm aaN.len8] at M25;exact M25
end
end Go.Proofs.YtloibefkijfdlaaGreatDoor
