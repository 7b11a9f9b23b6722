/- blockGeneric on any number of blocks: one round. -/
import Derived.Test.YtloibefkijfdlaaGreatDoorHb1
import Derived.Test.YtloibefkijfdlaaGreatDoorLa
namespace Go.Proofs.YtloibefkijfdlaaGreatDoor
section
open Go
theorem APj:W9 Ri AL 8 80 80=true:=by kernel_rfl
theorem AR6:xI (1000000+154) (Zk (g4.i.tree lg))=true:=by kernel_rfl
theorem AP5:LU 10 (g4.i.tree lg)=true:=by kernel_rfl
theorem rE:lk (1000000+154) lg.T=some (.one (Ri.sum AL (Ri.pre AL))):=by kernel_rfl
theorem AGh{t:Bz}{C:Cx}{l:JJ}{Cb:Cx}{f n:Nat}(hl:lk f C.T=some (.one (l.sum Cb (l.pre Cb))))(ht:xI f (Zk t)=true){np:Nat}(hk:LU np t=true)(hq:8<l.s0.params.length)(ha:W9 l Cb 8 n n=true)(hf:∀a,l.fuel a=n+1)(ρ0:Br):EY C.T t ρ0:=by
 unfold xI at ht;split at ht
 ·rename_i ds g al e st acC;simp only[Bl] at ht;have e1:=CR ht.1;subst e1;obtain⟨k1,k2,k3,k4,k5⟩:=OY (T:=C.T) (ρ:=ρ0) hk acC;refine k5 λq xj=>?_
  rw[NB] at xj;subst xj;refine Xn hl rfl (JJ.vf (JJ.Ax (hf _) (ZP hq ha ?_ (by omega))));have h2:=ht.2;split at h2
  ·rename_i r h8;have h9:al[8]? = some (.xs [.lit (.ofNat 0)]):=by
    have:(al.drop 8)[0]? = some (.xs [.lit (.ofNat 0)]):=by rw[h8];rfl
    rw[List.getElem?_drop] at this;exact this
   rw[List.getD,Ng,h9];show[(0:Int)]= [(n:Int)-(n:Int)];rw[Int.sub_self]
  ·cases h2
 ·cases ht
theorem ACt(a:List (List Int)):Ri.fuel a=80+1:=by
 have:Ri.fuel=λ_=>80+1:=by kernel_rfl
 rw[this]
theorem AJ3:Nat.ble 9 Ri.s0.params.length=true:=by kernel_rfl
set_option maxRecDepth 100000 in
theorem ANe(ρ0:Br):EY lg.T (g4.i.tree lg) ρ0:=AGh rE AR6 AP5 (MQ AJ3) APj ACt ρ0
end
noncomputable section
open Go
def s3(h:List (List Int)):List (List Int)×List (List Int):=match g3.step bL h with
 |some r=>r
 |none=>([],[])
def s4(v:List (List Int))(ws blk:List Int):List (List Int):=match g4.step lg (v ++ [ws,blk]) with
 |some r=>r.1
 |none=>[]
def sA(k:Nat)(x y:List Int):List Int:=match (gA k).step bL [x,y] with
 |some r=>r.1.getD 0 []
 |none=>[]
def xS(h:List (List Int))(ws blk:List Int):List (List Int)×List Int:=
 let v:=s4 (s3 h).2 ws blk
 ((List.range 8).map λk=>sA k ((s3 h).1.getD k []) (v.getD k []),v.getD 8 [])
def IV(v:Value)(xs:List Int):Prop:=∃x,xs= [x]/\v= .int .u64 x/\IU .u64 x
theorem VC{GB:Nat}{w:World}:∀ {n:Nat} {vs:List Value} {xs:List (List Int)} {bs:List (Nat×Nat)},KH GB w (List.replicate n (.int .u64)) vs xs bs->∀j,j<n->IV (vs.getD j undef) (xs.getD j [])
 |0,_,_,_,_,j,hj=>by omega
 |n+1,v::vs,x::xs,b::bs,h,0,_=>h.1
 |n+1,v::vs,x::xs,b::bs,h,j+1,hj=>VC (n:=n) h.2 j (by omega)
 |n+1,[],_,_,h,_,_=>h.elim
 |n+1,_::_,[],_,h,_,_=>h.elim
 |n+1,_::_,_::_,[],h,_,_=>h.elim
theorem Xj{GB:Nat}{w:World}:∀ {n:Nat} {vs:List Value} {xs:List (List Int)} {bs:List (Nat×Nat)},vs.length=n->xs.length=n->bs.length=n->(∀j,j<n->IV (vs.getD j undef) (xs.getD j []))->KH GB w (List.replicate n (.int .u64)) vs xs bs
 |0,[],[],[],_,_,_,_=>trivial
 |n+1,v::vs,x::xs,b::bs,h1,h2,h3,h=>⟨h 0 (by omega),Xj (n:=n) (by simpa using h1) (by simpa using h2) (by simpa using h3) λj hj=>h (j+1) (by omega)⟩
 |0,_::_,_,_,h,_,_,_=>by simp at h
 |0,_,_::_,_,_,h,_,_=>by simp at h
 |0,_,_,_::_,_,_,h,_=>by simp at h
 |n+1,[],_,_,h,_,_,_=>by simp at h
 |n+1,_,[],_,_,h,_,_=>by simp at h
 |n+1,_,_,[],_,_,h,_=>by simp at h
theorem uk{GB:Nat}{w:World}{qs:List GD}{us:List Value}{ys:List (List Int)}{cs:List (Nat×Nat)}(h':KH GB w qs us ys cs):∀ {ps:List GD} {vs:List Value} {xs:List (List Int)} {bs:List (Nat×Nat)},KH GB w ps vs xs bs->KH GB w (ps++qs) (vs++us) (xs++ys) (bs++cs)
 | [],[],[],[],_=>h'
 |_::_,_::_,_::_,_::_,h=>⟨h.1,uk h' h.2⟩
 | [],_::_,_,_,h=>h.elim
 | [],[],_::_,_,h=>h.elim
 | [],[],[],_::_,h=>h.elim
 |_::_,[],_,_,h=>h.elim
 |_::_,_::_,[],_,h=>h.elim
 |_::_,_::_,_::_,[],h=>h.elim
theorem TP{qs:List GD}{cs:List (Nat×Nat)}(h':Fv qs cs):∀ {n:Nat} {bs:List (Nat×Nat)},bs.length=n->Fv (List.replicate n (.int .u64)++qs) (bs++cs)
 |0,[],_=>h'
 |n+1,_::_,h=>⟨λ_ _=>trivial,TP h' (n:=n) (by simpa using h)⟩
 |0,_::_,h=>by simp at h
 |n+1,[],h=>by simp at h
theorem aG:Fv [] []:=trivial
section
variable{GB:Nat}{GC:Nat->Nat->Option Value}{ad:Nat->Nat×Nat}(hG:Gw GB GC ad)
include hG
theorem fH:Vt Tryz.prog bL GB GC:=Sn hG iF.nil Sw.nil
omit hG in
theorem AES(c:Code)(E:En)(_:E.P=Tryz.prog)(h:E.C=bL)(_:E.GB=GB)(_:E.GC=GC):J9 E c/\∀f j,lk f bL.inl=some j->J9 E j.c:=
 ⟨J9.of_nil (by rw[h];rfl) _,λ_ _ hj=>(by cases hj)⟩
end
section
variable{GB:Nat}{GC:Nat->Nat->Option Value}{ad:Nat->Nat×Nat}
theorem AGj{k:Nat}(hk:k<8):(gA k).dc bL=true/\Sa ((gA k).i.tree bL)=true:=by
 have:=Mx.1 AMY k (lZ.2 hk);simpa only[Bl] using this
theorem AEd:((List.range 8).all λk=>([0,1,4]++hS++vS).all λt=>Nat.beq t (5+k)||Nat.beq t (13+k)||ED t (gA k).i.cT)=true:=by kernel_rfl
theorem ADU{k t:Nat}(hk:k<8)(ht:t ∈ [0,1,4]++hS++vS)(h1:t≠5+k)(h2:t≠13+k):t∈(gA k).i.cT:=by
 have:=Mx.1 (Mx.1 AEd k (lZ.2 hk)) t ht;simp only[Bool.or_eq_true] at this;rcases this with(h|h)|h
 ·exact absurd (CR h) h1
 ·exact absurd (CR h) h2
 ·exact Gp.1 h
theorem AP1(hG:Gw GB GC ad){k:Nat}(hk:k<8){a:Act}{w:World}{x y:List Int}(ε:GW GC w)(δ:GB<=w.heap.size)(hx:IV (a.tmps.getD (5+k) undef) x)(hy:IV (a.tmps.getD (13+k) undef) y)(eA:a.tmps.size=g3.i.nt)(qq:a.defers= []):
  (rB (26+k)).wp Tryz.prog (λe a' w'=>e= .normal/\IV (a'.tmps.getD (5+k) undef) (sA k x y)/\(∀t,t ∈ [0,1,4]++hS++vS->t≠5+k->t≠13+k->a'.tmps.getD t undef=a.tmps.getD t undef)/\BM w w' (λ_ _=>False)/\a'.tmps.size=g3.i.nt/\a'.defers= []/\GW GC w') a w:=by
 obtain⟨c1,c2⟩:=AGj hk;have hP:KH GB w (gA k).i.s0.params ((gA k).i.ps.map λt=>a.tmps.getD t undef) [x,y] [(0,0),(0,0)]:=⟨hx,hy,trivial⟩;have hr:=OB (g:=gA k) (fH hG) c1 (G6 hG (.inl rfl)).1 (G6 hG (.inl rfl)).2 (AES (GB:=GB) (GC:=GC) _) ε δ hP ⟨λ_ _=>trivial,λ_ h=>(by cases h),trivial⟩ eA qq (O5 c2);refine wp_mono hr ?_;rintro e a' w' ⟨r,r2,Fk,hs,rfl,-,hm,hf,h1,h2,h3,-,h5⟩;have jt:KH GB w' (List.replicate 2 (.int .u64)) ((gA k).i.ps.map λt=>a'.tmps.getD t undef) r [(0,0),(0,0)]:=hm;refine⟨rfl,?_,λt ht n1 n2=>h3 t (ADU hk ht n1 n2),hf.mono λb o _ hS=>?_,h1,h2,h5⟩
 ·have:=VC jt 0 (by omega);unfold sA;rw[hs];exact this
 ·obtain⟨p,hp,_⟩:=hS;cases hp
end
end
section
open Go
noncomputable def tlB:Nat->Code
 |0=>rB 34
 |m+1=>.seq (rB (26+(7-m))) (tlB m)
theorem AOL:xB= .seq (rB 3) (.seq c4B (tlB 8)):=rfl
theorem AHk{j:Nat}(h:j<8):5+j ∈ [0,1,4]++hS++vS:=by
 have:∀j,j<8->5+j ∈ [0,1,4]++hS++vS:=by decide
 exact this j h
theorem APA{j:Nat}(h:j<8):13+j ∈ [0,1,4]++hS++vS:=by
 have:∀j,j<8->13+j ∈ [0,1,4]++hS++vS:=by decide
 exact this j h
theorem ASa{t:Nat}(h:t=0\/t=1\/t=4):t ∈ [0,1,4]++hS++vS:=by
 rcases h with rfl|rfl|rfl<;>decide
section
variable{GB:Nat}{GC:Nat->Nat->Option Value}{ad:Nat->Nat×Nat}
theorem AHu(hG:Gw GB GC ad){h v:List (List Int)}{Q:Exit->Act->World->Prop}:∀ {m:Nat} {a:Act} {w:World},m<=8->GW GC w->GB<=w.heap.size->
  (∀j,j<8-m->IV (a.tmps.getD (5+j) undef) (sA j (h.getD j []) (v.getD j [])))->(∀j,8-m<=j->j<8->IV (a.tmps.getD (5+j) undef) (h.getD j []))->(∀j,8-m<=j->j<8->IV (a.tmps.getD (13+j) undef) (v.getD j []))->
  a.tmps.size=g3.i.nt->a.defers= []->
  (∀a' w',(∀j,j<8->IV (a'.tmps.getD (5+j) undef) (sA j (h.getD j []) (v.getD j [])))->(∀t,t=0\/t=1\/t=4->a'.tmps.getD t undef=a.tmps.getD t undef)->BM w w' (λ_ _=>False)->a'.tmps.size=g3.i.nt->a'.defers= []->GW GC w'->(rB 34).wp Tryz.prog Q a' w')->
  (tlB m).wp Tryz.prog Q a w
 |0,a,w,_,ε,_,h1,_,_,eA,qq,hQ=>hQ a w (λj hj=>h1 j hj) (λ_ _=>rfl) (BM.refl _ _) eA qq ε
 | m+1,a,w,hm,ε,δ,h1,h2,h3,eA,qq,hQ=>by
  have hk:7-m<8:=by omega
  refine wp_seq (wp_mono (AP1 hG hk ε δ (h2 _ (by omega) hk) (h3 _ (by omega) hk) eA qq) ?_);rintro e a' w' ⟨rfl,q1,q2,q3,q4,q5,q6⟩;show(tlB m).wp _ _ _ _;refine AHu hG (h:=h) (v:=v) (by omega) q6 (z8 δ q3.1) (λj hj=>?_) (λj hj qv=>?_) (λj hj qv=>?_) q4 q5 λa2 w2 k1 k2 k3 k4 k5 k6=>?_
  ·by_cases hjk:j=7-m
   ·subst hjk;exact q1
   ·rw[q2 _ (AHk (by omega)) (by omega) (by omega)];exact h1 j (by omega)
  ·rw[q2 _ (AHk qv) (by omega) (by omega)];exact h2 j (by omega) qv
  ·rw[q2 _ (APA qv) (by omega) (by omega)];exact h3 j (by omega) qv
  ·refine hQ a2 w2 k1 (λt ht=>?_) (q3.trans k3) k4 k5 k6;rw[k2 t ht,q2 t (ASa ht) (by omega) (by omega)]
theorem AGb:([0,1,4].all λt=>ED t g3.i.cT)=true:=by kernel_rfl
theorem AFT:((0::hS).all λt=>ED t g4.i.cT)=true:=by kernel_rfl
theorem AMU{t:Nat}(h:t=0\/t=1\/t=4):t∈g3.i.cT:=Gp.1 (Mx.1 AGb t (by rcases h with rfl|rfl|rfl<;>decide))
theorem ALM{t:Nat}(h:t∈0::hS):t∈g4.i.cT:=Gp.1 (Mx.1 AFT t h)
theorem bg(a:Act){j:Nat}(h:j<8):(hS.map λt=>a.tmps.getD t undef).getD j undef=a.tmps.getD (5+j) undef:=by
 match j,h with
 |0,_|1,_|2,_|3,_|4,_|5,_|6,_|7,_=>rfl
theorem nI(a:Act){j:Nat}(h:j<8):(vS.map λt=>a.tmps.getD t undef).getD j undef=a.tmps.getD (13+j) undef:=by
 match j,h with
 |0,_|1,_|2,_|3,_|4,_|5,_|6,_|7,_=>rfl
theorem AOf(hG:Gw GB GC ad){a:Act}{w:World}{h:List (List Int)}(ε:GW GC w)(δ:GB<=w.heap.size)(hl:h.length=8)(hh:∀j,j<8->IV (a.tmps.getD (5+j) undef) (h.getD j []))(eA:a.tmps.size=g3.i.nt)(qq:a.defers= []):
  (rB 3).wp Tryz.prog (λe a' w'=>e= .normal/\(∀j,j<8->IV (a'.tmps.getD (5+j) undef) ((s3 h).1.getD j []))/\(∀j,j<8->IV (a'.tmps.getD (13+j) undef) ((s3 h).2.getD j []))/\(s3 h).2.length=8/\(∀t,t=0\/t=1\/t=4->a'.tmps.getD t undef=a.tmps.getD t undef)/\BM w w' (λ_ _=>False)/\a'.tmps.size=g3.i.nt/\a'.defers= []/\GW GC w') a w:=by
 have c:=AMv;simp only[Bl] at c;have hP:KH GB w g3.i.s0.params (g3.i.ps.map λt=>a.tmps.getD t undef) h (List.replicate 8 (0,0)):=Xj (n:=8) (vs:=hS.map λt=>a.tmps.getD t undef) rfl hl (by simp) λj hj=>by rw[bg a hj];exact hh j hj
 have eM:Fv g3.i.s0.params (List.replicate 8 (0,0)):=by
  have:=TP aG (n:=8) (bs:=List.replicate 8 (0,0)) (by simp);rw[Rw,Rw] at this;exact this
 have hr:=OB (g:=g3) (fH hG) c.1 (G6 hG (.inl rfl)).1 (G6 hG (.inl rfl)).2 (AES (GB:=GB) (GC:=GC) _) ε δ hP eM eA qq (O5 c.2);refine wp_mono hr ?_;rintro e a' w' ⟨r,r2,Fk,hs,rfl,hx,hm,hf,h1,h2,h3,-,h5⟩;have e3:s3 h=(r,r2):=by unfold s3;rw[hs]
 have jt:KH GB w' (List.replicate 8 (.int .u64)) (hS.map λt=>a'.tmps.getD t undef) r (List.replicate 8 (0,0)):=hm;have eV:KH GB w' (List.replicate 8 (.int .u64)) (vS.map λt=>a'.tmps.getD t undef) r2 Fk:=hx;rw[e3];refine⟨rfl,λj hj=>?_,λj hj=>?_,?_,λt ht=>h3 t (AMU ht),hf.mono λb o _ hS=>?_,h1,h2,h5⟩
 ·have:=VC jt j hj;rwa [bg a' hj] at this
 ·have:=VC eV j hj;rwa [nI a' hj] at this
 ·have:=(SX eV).2.1;simpa using this
 ·obtain⟨p,hp,_⟩:=hS;cases hp
theorem AAC(hG:Gw GB GC ad):iF GB GC [(191,.one Eg)]:=.cons (k:=191) rfl (K3 hG) Tryz.call191 (Ad.len _ _) .nil
theorem AJS(hG:Gw GB GC ad):Vt Tryz.prog lg GB GC:=bz hG (iF.T6 (by decide) (λb=>by cases b<;>exact iX _ _ _) (AAC hG)) Sw.nil _
theorem AIz:MI Ri.id c4B= [.loop Ri.c]:=by kernel_rfl
theorem ASv(hG:Gw GB GC ad)(E:En)(e1:E.P=Tryz.prog)(e2:E.C=lg)(e3:E.GB=GB)(e4:E.GC=GC):J9 E g4.i.c/\∀f j,lk f lg.inl=some j->J9 E j.c:=by
 have wj:∀fe,lk (1000000+154) lg.T=some fe->fe= .one (Ri.sum AL (Ri.pre AL)):=λfe h=>by
  rw[rE] at h;exact(XW h).symm
 refine⟨?_,λ_ _ hj=>(by cases hj)⟩;refine J9.one (d:=⟨1000000+154,Ri.ps,Ri.ss,Ri.cl,Ri.nt⟩) (by rw[e2];rfl) AIz ?_ ?_
 ·exact JJ.ok (Sn hG (AAC hG) Sw.nil) AFv (G6 hG (.inr rfl)).1 (G6 hG (.inr rfl)).2 (λE' _ c2 _ _=>⟨J9.of_nil (by rw[c2];rfl) _,λ_ _ _=>J9.of_nil (by rw[c2];rfl) _⟩) e1 e3 e4 rfl rfl rfl rfl (λfe h=>wj fe (by rw[e2] at h;exact h)) (λ_ _ h=>h)
 ·intro fe h x;rw[e2] at h;rw[wj fe h];rfl
end
end
section
open Go
theorem aS{GB:Nat}{w:World}{qs:List GD}:∀ {n:Nat} {vs us:List Value} {xs:List (List Int)} {bs cs:List (Nat×Nat)},vs.length=n->bs.length=n->KH GB w (List.replicate n (.int .u64)++qs) (vs++us) xs (bs++cs)->
  (∀j,j<n->IV (vs.getD j undef) (xs.getD j []))/\KH GB w qs us (xs.drop n) cs
 |0,[],us,xs,[],cs,_,_,h=>⟨λ_ hj=>by omega,h⟩
 | n+1,v::vs,us,x::xs,b::bs,cs,h1,h2,h=>by
  obtain⟨k1,k2⟩:=aS (n:=n) (vs:=vs) (bs:=bs) (by simpa using h1) (by simpa using h2) h.2;exact⟨λj hj=>(match j,hj with
   |0,_=>h.1
   |j+1,hj=>k1 j (by omega)),k2⟩
 |n+1,_::_,_,[],_::_,_,_,_,h=>h.elim
 |0,_::_,_,_,_,_,h,_,_=>by simp at h
 |0,[],_,_,_::_,_,_,h,_=>by simp at h
 |n+1,[],_,_,_,_,h,_,_=>by simp at h
 |n+1,_::_,_,_,[],_,_,h,_=>by simp at h
section
variable{GB:Nat}{GC:Nat->Nat->Option Value}{ad:Nat->Nat×Nat}
set_option maxRecDepth 100000 in
theorem AQK(hG:Gw GB GC ad){a:Act}{w:World}{v:List (List Int)}{ws blk:List Int}{B pb po m c:Nat}(ε:GW GC w)(δ:GB<=w.heap.size)(hl:v.length=8)(hv:∀j,j<8->IV (a.tmps.getD (13+j) undef) (v.getD j []))
  (h4:a.tmps.getD 4 undef= .pointer (some ⟨B,0,none⟩)) (h1:a.tmps.getD 1 undef= .slice (some ⟨pb,po,none⟩) m c) (hm:128<=m) (hW:AQ true w (B,0) (List.replicate 80 .u64) ws) (hB:GB<=B) (hb:AQ false w (pb,po) (List.replicate 128 .u8) blk) (cq:B≠pb)
  (eA:a.tmps.size=g3.i.nt) (qq:a.defers= []):
  c4B.wp Tryz.prog (λe a' w'=>e= .normal/\(∀j,j<8->IV (a'.tmps.getD (13+j) undef) ((s4 v ws blk).getD j []))/\AQ true w' (B,0) (List.replicate 80 .u64) ((s4 v ws blk).getD 8 [])/\a'.tmps.getD 4 undef=a.tmps.getD 4 undef/\a'.tmps.getD 1 undef=a.tmps.getD 1 undef/\(∀t,t∈0::hS->a'.tmps.getD t undef=a.tmps.getD t undef)/\BM w w' (λb _=>b=B)/\a'.tmps.size=g3.i.nt/\a'.defers= []/\GW GC w') a w:=by
 have hP:KH GB w g4.i.s0.params (g4.i.ps.map λt=>a.tmps.getD t undef) (v ++ [ws,blk]) (List.replicate 8 (0,0) ++ [(B,0),(pb,po)]):=by
  show KH GB w (List.replicate 8 (.int .u64) ++ [.mem (List.replicate 80 .u64) 1 true,.fy (List.replicate 128 .u8) 0 false]) ((vS.map λt=>a.tmps.getD t undef) ++ [a.tmps.getD 4 undef,a.tmps.getD 1 undef]) _ _;have hq:KH GB w [.mem (List.replicate 80 .u64) 1 true,.fy (List.replicate 128 .u8) 0 false] [a.tmps.getD 4 undef,a.tmps.getD 1 undef] [ws,blk] [(B,0),(pb,po)]:=
   ⟨⟨h4,hW,λ_=>hB⟩,⟨m,c,h1,by simpa using hm,hb,λh=>(by cases h)⟩,trivial⟩
  refine uk hq (Xj (n:=8) rfl hl (by simp) λj hj=>?_);rw[nI a hj];exact hv j hj
 have eM:Fv g4.i.s0.params (List.replicate 8 (0,0) ++ [(B,0),(pb,po)]):=by
  show Fv (List.replicate 8 (.int .u64) ++ [.mem (List.replicate 80 .u64) 1 true,.fy (List.replicate 128 .u8) 0 false]) _;have hq:Fv [.mem (List.replicate 80 .u64) 1 true,.fy (List.replicate 128 .u8) 0 false] [(B,0),(pb,po)]:=
   ⟨λx hx=>by rw[NB.1 hx];exact λ_=>.inr (.inl cq),λx hx=>(by cases hx),trivial⟩
  exact TP hq (by simp)
 have hr:=OB (g:=g4) (AJS hG) AMh (G6 hG (.inl rfl)).1 (G6 hG (.inl rfl)).2 (ASv (GB:=GB) (GC:=GC) hG) ε δ hP eM eA qq (ANe _);refine wp_mono hr ?_;rintro e a' w' ⟨r,r2,Fk,hs,rfl,-,jt,hf,k1,k2,k3,k4,k5⟩;have e3:s4 v ws blk=r:=by unfold s4;rw[hs]
 have W6:KH GB w' (List.replicate 8 (.int .u64) ++ [.mem (List.replicate 80 .u64) 1 true,.fy (List.replicate 128 .u8) 0 false]) ((vS.map λt=>a'.tmps.getD t undef) ++ [a'.tmps.getD 4 undef,a'.tmps.getD 1 undef]) r (List.replicate 8 (0,0) ++ [(B,0),(pb,po)]):=jt;obtain⟨z1,z2⟩:=aS (n:=8) (bs:=List.replicate 8 (0,0)) (vs:=vS.map λt=>a'.tmps.getD t undef) rfl rfl W6;rw[e3];refine⟨rfl,λj hj=>?_,?_,k4 8 4 (.mem (List.replicate 80 .u64) 1 true) rfl (by simp[GD.cE]) rfl,k4 9 1 (.fy (List.replicate 128 .u8) 0 false) rfl (by simp[GD.cE]) rfl,λt ht=>k3 t (ALM ht),hf.mono λb o _ hS=>?_,k1,k2,k5⟩
 ·have:=z1 j hj;rwa [nI a' hj] at this
 ·have e8:r.getD 8 []=(r.drop 8).getD 0 []:=by simp[List.getD]
  rw[e8]
  match hq:r.drop 8 with
  | []=>rw[hq] at z2;exact z2.elim
  |y::ys=>
   rw[hq] at z2;exact z2.1.2.1
 ·obtain⟨p,hp,tG,_⟩:=hS;rw[NB.1 hp] at tG;exact tG
set_option maxRecDepth 100000 in
theorem AQH(hG:Gw GB GC ad){a:Act}{w:World}{h:List (List Int)}{ws blk:List Int}{B pb po m c:Nat}{Q:Exit->Act->World->Prop}(ε:GW GC w)(δ:GB<=w.heap.size)(hl:h.length=8)(hv:∀j,j<8->IV (a.tmps.getD (5+j) undef) (h.getD j []))
  (h4:a.tmps.getD 4 undef= .pointer (some ⟨B,0,none⟩)) (h1:a.tmps.getD 1 undef= .slice (some ⟨pb,po,none⟩) m c) (hm:128<=m) (hW:AQ true w (B,0) (List.replicate 80 .u64) ws) (hB:GB<=B) (hb:AQ false w (pb,po) (List.replicate 128 .u8) blk) (cq:B≠pb)
  (eA:a.tmps.size=g3.i.nt) (qq:a.defers= [])
  (hQ:∀a' w',(∀j,j<8->IV (a'.tmps.getD (5+j) undef) ((xS h ws blk).1.getD j []))->AQ true w' (B,0) (List.replicate 80 .u64) (xS h ws blk).2->(∀t,t=0\/t=1\/t=4->a'.tmps.getD t undef=a.tmps.getD t undef)->BM w w' (λb _=>b=B)->a'.tmps.size=g3.i.nt->a'.defers= []->GW GC w'->(rB 34).wp Tryz.prog Q a' w'):
  xB.wp Tryz.prog Q a w:=by
 rw[AOL];have hfb:∀ {w1 w2:World},BM w1 w2 (λ_ _=>False)->BM w1 w2 (λb _=>b=B):=λh=>h.mono λ_ _ _ hh=>hh.elim
 refine wp_seq (wp_mono (AOf hG ε δ hl hv eA qq) ?_);rintro e a1 w1 ⟨rfl,p1,p2,p3,p4,p5,p6,p7,p8⟩;show(Code.seq c4B (tlB 8)).wp _ _ _ _;have hW1:AQ true w1 (B,0) (List.replicate 80 .u64) ws:=⟨hW.1,λi k x hk hx=>p5.fp (hW.2 i k x hk hx) (λh=>h)⟩;have tG:AQ false w1 (pb,po) (List.replicate 128 .u8) blk:=⟨hb.1,λi k x hk hx=>p5.fp (hb.2 i k x hk hx) (λh=>h)⟩;refine wp_seq (wp_mono (AQK hG p8 (z8 δ p5.1) p3 p2 ((p4 4 (.inr (.inr rfl))).trans h4) ((p4 1 (.inr (.inl rfl))).trans h1) hm hW1 hB tG cq p6 p7) ?_);rintro e a2 w2 ⟨rfl,q1,q2,q3,q4,q5,q6,q7,q8,q9⟩;show(tlB 8).wp _ _ _ _;refine AHu hG (h:=(s3 h).1) (v:=s4 (s3 h).2 ws blk) (KA 8) q9 (z8 (z8 δ p5.1) q6.1) (λj hj=>by omega) (λj _ hj=>?_) (λj _ hj=>q1 j hj) q7 q8 λa3 w3 k1 k2 k3 k4 k5 k6=>?_
 ·have:5+j∈0::hS:=by
   have:∀j,j<8->5+j∈0::hS:=by decide
   exact this j hj
  rw[q5 _ this];exact p1 j hj
 ·refine hQ a3 w3 (λj hj=>?_) ⟨q2.1,λi k x hk hx=>k3.fp (q2.2 i k x hk hx) (λh=>h)⟩ (λt ht=>?_) (((hfb p5).trans q6).trans (hfb k3)) k4 k5 k6
  ·have e1:(xS h ws blk).1.getD j []=sA j ((s3 h).1.getD j []) ((s4 (s3 h).2 ws blk).getD j []):=by
    simp[xS,List.getD,hj]
   rw[e1];exact k1 j hj
  ·rw[k2 t ht, <- p4 t ht];rcases ht with rfl|rfl|rfl
   ·exact q5 0 (Kh)
   ·exact q4
   ·exact q3
end
end
noncomputable section
open Go
def AIA:Code->Array Oper
 | .region _ o _=>o
 |_=>#[]
def gp(k i:Nat):String:=match (AIA (rB k)).toList[i]? with
 |some o=>o.pos
 |none=> ""
def ga(k i:Nat):=match (AIA (rB k)).toList[i]? with
 |some o=>o.after
 |none=>#[]
theorem wpl{P:Program}{ops:Array Oper}{Q:Exit->Act->World->Prop}{o:Oper}{rest:List Oper}{a:Act}{w w':World}{v:Value}(hg:o.guard=none)(h:(execOp a.eval o).run P w= .ok (.value v) w')(hn:wpList P ops Q rest (a.put o.dst v) w'):wpList P ops Q (o::rest) a w:=
 wpList_plain hg λ_ hK=>Gu h (hK _ _ hn)
theorem AQv:rB 0= .region 0 [⟨some 4,.alloc 109,0,gp 0 0,ga 0 0,none⟩].toArray false:=by kernel_rfl
theorem APE:rB 2= .region 2 [⟨some 69,.move (.tmp 1),22,gp 2 0,ga 2 0,none⟩,⟨some 70,.call ⟨.builtin .len,#[.tmp 69],#[22]⟩,3,gp 2 1,ga 2 1,none⟩,⟨some 71,.binOp .geq 3 (.tmp 70) (.const (.int .i64 128)) 3,4,gp 2 2,ga 2 2,none⟩].toArray false:=by kernel_rfl
theorem AJk:rB 34= .region 34 [⟨some 273,.move (.tmp 1),22,gp 34 0,ga 34 0,none⟩,⟨some 274,.slice 22 (.tmp 273) (some (.const (.int .i64 128))) none none,22,gp 34 1,ga 34 1,none⟩,⟨some 1,.assign (.tmp 274),22,gp 34 2,ga 34 2,none⟩].toArray false:=by kernel_rfl
theorem sS{P:Program}{ρ:Operand->Value}{d:Option Tmp}{x:Operand}{ty:TypeId}{pos:String}{af:Array Edge}{g:Option (Nat×Bool)}{w:World}:(execOp ρ ⟨d,.move x,ty,pos,af,g⟩).run P w= .ok (.value (ρ x)) w:=by simp[execOp,go_sem]
theorem wZ{P:Program}{ρ:Operand->Value}{d:Option Tmp}{x:Operand}{ty:TypeId}{pos:String}{af:Array Edge}{g:Option (Nat×Bool)}{w:World}:(execOp ρ ⟨d,.assign x,ty,pos,af,g⟩).run P w= .ok (.value (ρ x)) w:=by simp[execOp,go_sem]
theorem AJP{ρ:Operand->Value}{d:Option Tmp}{x:Operand}{pos:String}{af:Array Edge}{g:Option (Nat×Bool)}{w:World}{p:Option Addr}{m c:Nat}(h:ρ x= .slice p m c):(execOp ρ ⟨d,.call ⟨.builtin .len,#[x],#[22]⟩,3,pos,af,g⟩).run Tryz.prog w= .ok (.value (.int .i64 m)) w:=by
 simp[go_sem,h]
theorem AJ8{ρ:Operand->Value}{d:Option Tmp}{x y:Operand}{pos:String}{af:Array Edge}{g:Option (Nat×Bool)}{w:World}{i j:Int}(hx:ρ x= .int .i64 i)(hy:ρ y= .int .i64 j):(execOp ρ ⟨d,.binOp .geq 3 x y 3,4,pos,af,g⟩).run Tryz.prog w= .ok (.value (.bool (decide (j<=i)))) w:=by
 simp[execOp,go_sem,hx,hy]
theorem ADE{ρ:Operand->Value}{d:Option Tmp}{x y:Operand}{pos:String}{af:Array Edge}{g:Option (Nat×Bool)}{w:World}{b o m c:Nat}(hx:ρ x= .slice (some ⟨b,o,none⟩) m c)(hy:ρ y= .int .i64 128)(h1:128<=m)(h2:m<=c):(execOp ρ ⟨d,.slice 22 x (some y) none none,22,pos,af,g⟩).run Tryz.prog w= .ok (.value (.slice (if c-128=0 then some ⟨b,o,none⟩ else some ⟨b,o+128,none⟩) (m-128) (c-128))) w:=by
 have hu:=run_underlying (w:=w) Tryz.underlying22;have hs:∀w:World,(sizeOf 5).run Tryz.prog w= .ok 1 w:=λw=>by simp[go_sem]
 have hb:∀code,(Instr.sliceBound (.int .i64 128) m code).run Tryz.prog w= .ok 128 w:=λcode=>CW _ w (k:=.i64) (n:=128) h1 code
 simp only[execOp,hx,hy,UA,Option.map_none,Instr.sliceAt,Instr.slice,IY,hu,Hm];have hc:(c-128=0)=(c=128):=propext (by omega);simp[Instr.sliceBounds,hb,hs,Cu,hc]
theorem SE{a:Act}{t:Nat}:a.eval (.tmp t)=a.tmps.getD t undef:=rfl
theorem mf:g3.i.nt=315:=by kernel_rfl
theorem AHR{a:Act}{w:World}{p:Option Addr}{m c:Nat}{Q:Exit->Act->World->Prop}(h1:a.tmps.getD 1 undef= .slice p m c)(eA:a.tmps.size=g3.i.nt)
  (hQ:∀a',a'.tmps.getD 71 undef= .bool (decide ((128:Int)<=m))->(∀t,t≠69->t≠70->t≠71->a'.tmps.getD t undef=a.tmps.getD t undef)->a'.tmps.size=g3.i.nt->a'.defers=a.defers->Q .normal a' w):(rB 2).wp Tryz.prog Q a w:=by
 rw[APE];have As:=mf;have tp:∀ {b:Act} {t u:Nat} {v:Value},b.tmps.size=315->t<315->(b.put (some t) v).tmps.getD u undef=if t=u then v else b.tmps.getD u undef:=λhb ht=>VU (by omega)
 rw[As] at eA hQ;refine wp_region_lit (wpl rfl sS ?_);rw[SE,h1];generalize hb:a.put (some 69) (.slice p m c)=b;have b1:b.tmps.size=315:=by rw[<- hb,OM];exact eA
 have b2:∀u,b.tmps.getD u undef=if 69=u then .slice p m c else a.tmps.getD u undef:=λu=>by rw[<- hb];exact tp eA (by omega)
 have b3:b.defers=a.defers:=by rw[<- hb,SQ]
 refine wpl rfl (AJP (p:=p) (m:=m) (c:=c) (by rw[SE,b2];rfl)) ?_;generalize hd:b.put (some 70) (.int .i64 m)=d;have d1:d.tmps.size=315:=by rw[<- hd,OM];exact b1
 have d2:∀u,d.tmps.getD u undef=if 70=u then .int .i64 m else b.tmps.getD u undef:=λu=>by rw[<- hd];exact tp b1 (by omega)
 have d3:d.defers=a.defers:=by rw[<- hd,SQ,b3]
 refine wpl rfl (AJ8 (i:=m) (j:=128) (by rw[SE,d2];rfl) rfl) ?_;refine wpList_nil (hQ _ ?_ (λt n1 n2 n3=>?_) (by rw[OM];exact d1) (by rw[SQ,d3]))
 ·rw[tp d1 (by omega)];rfl
 ·rw[tp d1 (by omega),if_neg (λh=>n3 h.symm),d2,if_neg (λh=>n2 h.symm),b2,if_neg (λh=>n1 h.symm)]
theorem AKS{a:Act}{w:World}{b0 o m c:Nat}{Q:Exit->Act->World->Prop}(h1:a.tmps.getD 1 undef= .slice (some ⟨b0,o,none⟩) m c)(hm:128<=m)(hc:m<=c)(eA:a.tmps.size=g3.i.nt)
  (hQ:∀a',a'.tmps.getD 1 undef= .slice (if c-128=0 then some ⟨b0,o,none⟩ else some ⟨b0,o+128,none⟩) (m-128) (c-128)->(∀t,t≠273->t≠274->t≠1->a'.tmps.getD t undef=a.tmps.getD t undef)->a'.tmps.size=g3.i.nt->a'.defers=a.defers->Q .normal a' w):(rB 34).wp Tryz.prog Q a w:=by
 rw[AJk];have As:=mf;have tp:∀ {b:Act} {t u:Nat} {v:Value},b.tmps.size=315->t<315->(b.put (some t) v).tmps.getD u undef=if t=u then v else b.tmps.getD u undef:=λhb ht=>VU (by omega)
 rw[As] at eA hQ;generalize hv:Value.slice (if c-128=0 then some ⟨b0,o,none⟩ else some ⟨b0,o+128,none⟩) (m-128) (c-128)=v at hQ;refine wp_region_lit (wpl rfl sS ?_);rw[SE,h1];generalize hb:a.put (some 273) (.slice (some ⟨b0,o,none⟩) m c)=b;have b1:b.tmps.size=315:=by rw[<- hb,OM];exact eA
 have b2:∀u,b.tmps.getD u undef=if 273=u then .slice (some ⟨b0,o,none⟩) m c else a.tmps.getD u undef:=λu=>by rw[<- hb];exact tp eA (by omega)
 have b3:b.defers=a.defers:=by rw[<- hb,SQ]
 refine wpl rfl (ADE (b:=b0) (o:=o) (m:=m) (c:=c) (by rw[SE,b2];rfl) rfl hm hc) ?_;rw[hv];generalize hd:b.put (some 274) v=d;have d1:d.tmps.size=315:=by rw[<- hd,OM];exact b1
 have d2:∀u,d.tmps.getD u undef=if 274=u then v else b.tmps.getD u undef:=λu=>by rw[<- hd];exact tp b1 (by omega)
 have d3:d.defers=a.defers:=by rw[<- hd,SQ,b3]
 refine wpl rfl wZ ?_;rw[SE,d2,if_pos rfl];refine wpList_nil (hQ _ ?_ (λt n1 n2 n3=>?_) (by rw[OM];exact d1) (by rw[SQ,d3]))
 ·rw[tp d1 (by omega)];rfl
 ·rw[tp d1 (by omega),if_neg (λh=>n3 h.symm),d2,if_neg (λh=>n2 h.symm),b2,if_neg (λh=>n1 h.symm)]
end
noncomputable section
open Go
def Wg:Nat->List (List Int)->List Int->List Int->List (List Int)
 |0,h,_,_=>h
 |n+1,h,ws,xs=>Wg n (xS h ws (xs.take 128)).1 (xS h ws (xs.take 128)).2 (xs.drop 128)
theorem AQ.take{f:Bool}{w:World}{b:Nat×Nat}{n m:Nat}{xs:List Int}(h:AQ f w b (List.replicate m .u8) xs)(hn:n<=m):AQ f w b (List.replicate n .u8) (xs.take n):=by
 obtain⟨⟨h1,h2⟩,h3⟩:=h;rw[Qs] at h1;have hk:∀ {i:Nat} {k:IntKind},(List.replicate n IntKind.u8)[i]? = some k->i<n/\(List.replicate m IntKind.u8)[i]? = some k:=λ{i k} hi=>by
  rw[iD] at hi ⊢;split at hi
  ·rename_i cf;exact⟨cf,by rw[if_pos (by omega)];exact hi⟩
  ·cases hi
 refine⟨⟨by rw[Rk,Qs];omega,λi k x hi hx=>?_⟩,λi k x hi hx=>?_⟩
 ·obtain⟨k1,k2⟩:=hk hi;exact h2 i k x k2 (by rwa [List.getElem?_take_of_lt k1] at hx)
 ·obtain⟨k1,k2⟩:=hk hi;exact h3 i k x k2 (by rwa [List.getElem?_take_of_lt k1] at hx)
theorem AQ.drop{f:Bool}{w:World}{b o n m:Nat}{xs:List Int}(h:AQ f w (b,o) (List.replicate m .u8) xs)(hn:n<=m):AQ f w (b,o+n) (List.replicate (m-n) .u8) (xs.drop n):=by
 obtain⟨⟨h1,h2⟩,h3⟩:=h;rw[Qs] at h1;have hk:∀ {i:Nat} {k:IntKind},(List.replicate (m-n) IntKind.u8)[i]? = some k->(List.replicate m IntKind.u8)[n+i]? = some k:=λ{i k} hi=>by
  rw[iD] at hi ⊢;split at hi
  ·rw[if_pos (by omega)];exact hi
  ·cases hi
 refine⟨⟨by rw[Uj,Qs];omega,λi k x hi hx=>?_⟩,λi k x hi hx=>?_⟩
 ·exact h2 (n+i) k x (hk hi) (by rwa [List.getElem?_drop] at hx)
 ·have:=h3 (n+i) k x (hk hi) (by rwa [List.getElem?_drop] at hx);rwa [<- Ve] at this
theorem AQ.an{f:Bool}{w w':World}{S:Nat->Nat->Prop}{b:Nat×Nat}{ks:List IntKind}{xs:List Int}(h:AQ f w b ks xs)(hf:BM w w' S)(hn:∀i,i<ks.length->¬S b.1 (b.2+i)):AQ f w' b ks xs:=
 ⟨h.1,λi k x hk hx=>hf.fp (h.2 i k x hk hx) (hn i (OQ.1 hk).1)⟩
theorem AMf(h:List (List Int))(ws blk:List Int):(xS h ws blk).1.length=8:=by simp[xS]
def oB:Code:=.seq (.seq (rB 2) (.cond (.tmp 71) .skip (.exit 0))) (.block 1 xB)
section
variable{GB:Nat}{GC:Nat->Nat->Option Value}{ad:Nat->Nat×Nat}
theorem AIV(hG:Gw GB GC ad){B pb:Nat}{Q:Exit->Act->World->Prop}(hB:GB<=B)(cq:B≠pb):∀(n:Nat) {a:Act} {w:World} {h:List (List Int)} {ws xs:List Int} {p:Option Addr} {po c:Nat},GW GC w->GB<=w.heap.size->h.length=8->(∀j,j<8->IV (a.tmps.getD (5+j) undef) (h.getD j []))->
  a.tmps.getD 4 undef= .pointer (some ⟨B,0,none⟩)->a.tmps.getD 1 undef= .slice p (n*128) c->(0<n->p=some ⟨pb,po,none⟩)->n*128<=c->AQ true w (B,0) (List.replicate 80 .u64) ws->AQ false w (pb,po) (List.replicate (n*128) .u8) xs->
  a.tmps.size=g3.i.nt->a.defers= []->
  (∀a' w',(∀j,j<8->IV (a'.tmps.getD (5+j) undef) ((Wg n h ws xs).getD j []))->(Wg n h ws xs).length=8->a'.tmps.getD 0 undef=a.tmps.getD 0 undef->BM w w' (λb _=>b=B)->a'.tmps.size=g3.i.nt->a'.defers= []->GW GC w'->Q .normal a' w')->
  Code.rounds Tryz.prog oB (Exit.inBlock 0 Q) (n+1) a w
 |0,a,w,h,ws,xs,p,po,c,ε,δ,hl,hv,h4,h1,hp,hc,hW,hb,eA,qq,hQ=>by
  rw[rounds_succ];refine wp_seq (wp_seq (AHR h1 eA λa1 e1 e2 e3 e4=>?_));refine wp_cond (t:=false) (by rw[SE,e1];rfl) (wp_exit ?_);show Q .normal a1 w;exact hQ a1 w (λj hj=>by rw[e2 _ (by omega) (by omega) (by omega)];exact hv j hj) hl (e2 0 (by omega) (by omega) (by omega)) (BM.refl _ _) e3 (e4.trans qq) ε
 |n+1,a,w,h,ws,xs,p,po,c,ε,δ,hl,hv,h4,h1,hp,hc,hW,hb,eA,qq,hQ=>by
  rw[rounds_succ];have eN:=hp (by omega);subst eN;refine wp_seq (wp_seq (AHR h1 eA λa1 e1 e2 e3 e4=>?_));refine wp_cond (t:=true) (by rw[SE,e1];congr 1;simp;omega) (wp_skip ?_);show(Code.block 1 xB).wp _ _ _ _;refine wp_block (AQH hG (B:=B) (pb:=pb) (po:=po) (m:=(n+1)*128) (c:=c) (blk:=xs.take 128) ε δ hl (λj hj=>by rw[e2 _ (by omega) (by omega) (by omega)];exact hv j hj) ((e2 4 (by omega) (by omega) (by omega)).trans h4) ((e2 1 (by omega) (by omega) (by omega)).trans h1) (by omega) hW hB (hb.take (by omega)) cq e3 (e4.trans qq) ?_);intro a2 w2 k1 k2 k3 k4 k5 k6 k7;refine AKS ((k3 1 (.inr (.inl rfl))).trans ((e2 1 (by omega) (by omega) (by omega)).trans h1)) (by omega) hc k5 λa3 q1 q2 q3 q4=>?_
  show Code.rounds Tryz.prog oB (Exit.inBlock 0 Q) (n+1) a3 w2;have hm:(n+1)*128-128=n*128:=by omega
  have fx:=(hb.an k4 λi _ (hh:pb=B)=>cq hh.symm).drop (show 128<=(n+1)*128 by omega);rw[hm] at q1 fx;refine AIV hG hB cq n (po:=po+128) k7 (z8 δ k4.1) (AMf _ _ _) (λj hj=>by rw[q2 _ (by omega) (by omega) (by omega)];exact k1 j hj) ?_ q1 (λh0=>if_neg (by omega)) (by omega) k2 fx q3 (q4.trans k6) λa' w' y1 y1' y2 y3 y4 y5 y6=>hQ a' w' y1 y1' ?_ (k4.trans y3) y4 y5 y6
  ·rw[q2 4 (by omega) (by omega) (by omega),k3 4 (.inr (.inr rfl)),e2 4 (by omega) (by omega) (by omega)];exact h4
  ·rw[y2,q2 0 (by omega) (by omega) (by omega),k3 0 (.inl rfl),e2 0 (by omega) (by omega) (by omega)]
end
end
section
open Go
theorem z80:Tryz.zeroCells109=Array.replicate 80 (.int .u64 0):=by kernel_rfl
theorem AFi{ρ:Operand->Value}{ty:TypeId}{pos:String}{af:Array Edge}{w:World}:(execOp ρ ⟨some 4,.alloc 109,ty,pos,af,none⟩).run Tryz.prog w= .ok (.value (.pointer (some ⟨w.heap.size,0,none⟩))) (w.alloc (.cells (Array.replicate 80 (.int .u64 0)) 109)):=by
 simp[execOp,go_sem,z80]
theorem Ey(w:World)(n:Nat)(k:IntKind)(e:TypeId)(h0:IU k 0):AQ true (w.alloc (.cells (Array.replicate n (.int k 0)) e)) (w.heap.size,0) (List.replicate n k) (List.replicate n 0):=by
 have hk:∀(i:Nat) (k':IntKind) (x:Int),(List.replicate n k)[i]? = some k'->(List.replicate n (0:Int))[i]? = some x->i<n/\k'=k/\x=0:=λi k' x h1 h2=>by
  rw[iD] at h1 h2;split at h1
  ·rename_i hi;rw[if_pos hi] at h2;exact⟨hi,by simpa using h1.symm,by simpa using h2.symm⟩
  ·cases h1
 refine⟨⟨by simp,λi k' x h1 h2=>?_⟩,λi k' x h1 h2=>?_⟩
 ·obtain⟨_,rfl,rfl⟩:=hk i k' x h1 h2;exact h0
 ·obtain⟨hi,rfl,rfl⟩:=hk i k' x h1 h2;refine CY.fh (c:=Array.replicate n (.int k' 0)) (e:=e) (lo:=0) (hi:=0) ?_ ?_ (λ_=>by omega)
  ·show(w.heap.push _)[w.heap.size]? = _;exact Array.getElem?_push_size
  ·rw[Km,Array.getElem?_replicate,if_pos hi]
theorem BI(w:World)(o:Obj)(S:Nat->Nat->Prop):BM w (w.alloc o) S:=(BM.refl w S).push (o:=o) rfl rfl rfl rfl
def wl(h:List Int):List (List Int):=h.map λx=>[x]
def kv(l:List (List Int)):List Int:=l.map λx=>x.getD 0 0
theorem AHD(h:List Int):kv (wl h)=h:=by
 unfold kv wl;rw[List.map_map];exact(Zx λ_ _=>rfl).trans (List.map_id _)
theorem AHB:(ED 4 g1.i.cT&&ED 1 g1.i.cT)=true:=by kernel_rfl
theorem AMV{a b c d e f g i:Int}:g1.step bL [[a,b,c,d,e,f,g,i]]=some ([[a,b,c,d,e,f,g,i]],[[a],[b],[c],[d],[e],[f],[g],[i]]):=by kernel_rfl
theorem AOx{h:List Int}(hl:h.length=8):g1.step bL [h]=some ([h],wl h):=by
 match h,hl with
 | [a,b,c,d,e,f,g,i],_=>exact AMV
theorem ALu{a b c d e f g i:Int}{c8:List Int}:(TO.step bL [c8,[a],[b],[c],[d],[e],[f],[g],[i]]).map (λr=>r.1.getD 0 [])=some [a,b,c,d,e,f,g,i]:=by kernel_rfl
theorem AMt{l:List (List Int)}{a:Act}(hl:l.length=8)(h:∀j,j<8->IV (a.tmps.getD (5+j) undef) (l.getD j [])):l=wl (kv l)/\(kv l).length=8/\∀x∈kv l,IU .u64 x:=by
 have hx:∀j,j<8->∃x,l.getD j []= [x]/\IU .u64 x:=λj hj=>by
  obtain⟨x,h1,_,h3⟩:=h j hj;exact⟨x,h1,h3⟩
 refine⟨?_,by simp[kv,hl],?_⟩
 ·unfold wl kv;rw[List.map_map];refine List.ext_getElem (by simp) λj h1 h2=>?_
  obtain⟨x,e,_⟩:=hx j (by omega);simp only[List.getElem_map,Function.comp];have:l[j]= [x]:=by rw[<- e];simp[List.getD,h1]
  rw[this];rfl
 ·intro x eV;obtain⟨y,hy,rfl⟩:=UT.1 eV;obtain⟨j,hj,rfl⟩:=dX hy;obtain⟨x,e,h3⟩:=hx j (by omega);have:l[j]= [x]:=by rw[<- e];simp[List.getD,hj]
  rw[this];exact h3
noncomputable def blk(n:Nat)(h xs:List Int):List Int:=kv (Wg n (wl h) (List.replicate 80 0) xs)
structure AQd (GC:Nat->Nat->Option Value) (B o n:Nat) (h xs:List Int) (w:World) (e:Ending) (w':World):Prop where
 ret:e= .returned (.tuple #[])
 mem:AQ true w' (B,o) (List.replicate 8 .u64) (blk n h xs)
 an:BM w w' (λb i=>b=B/\o<=i/\i<o+8)
 gw:GW GC w'
theorem AI5:Tryz.f154.body=some bB:=by kernel_rfl
theorem AN6:Tryz.f154.ntmps=315:=by kernel_rfl
section
variable{GB:Nat}{GC:Nat->Nat->Option Value}{ad:Nat->Nat×Nat}
theorem AFD(hG:Gw GB GC ad){w:World}{B o n pb po c:Nat}{h xs:List Int}(ε:GW GC w)(δ:GB<=w.heap.size)(hB:GB<=B)(hh:AQ true w (B,o) (List.replicate 8 .u64) h)(hp:AQ false w (pb,po) (List.replicate (n*128) .u8) xs)(hn:0<n)(hc:n*128<=c):
  Calls Tryz.prog 154 #[.pointer (some ⟨B,o,none⟩),.slice (some ⟨pb,po,none⟩) (n*128) c] w (AQd GC B o n h xs w):=by
 have hl:h.length=8:=by have:=hh.1.1;simpa using this
 have hpb:pb<w.heap.size:=by
  have Of:xs.length=n*128:=by have:=hp.1.1;simpa using this
  have hk:(List.replicate (n*128) IntKind.u8)[0]? = some .u8:=by simp[iD];omega
  exact(hp.2 0 .u8 _ hk (JC (by omega))).lt
 refine enter (args:=[.pointer (some ⟨B,o,none⟩),.slice (some ⟨pb,po,none⟩) (n*128) c]) Tryz.func154 AI5 (n:=315) (by rw[AN6];rfl) λa F=>?_
 rw[AOz];have As:=mf;refine wp_seq ?_;rw[AQv];refine cE (AZ F rfl AFi λa1 F1=>EM ?_);show(Code.seq (rB 1) _).wp _ _ _ _;generalize CC:w.alloc (.cells (Array.replicate 80 (.int .u64 0)) 109)=w1;have hW:AQ true w1 (w.heap.size,0) (List.replicate 80 .u64) (List.replicate 80 0):=by rw[<- CC];exact Ey w 80 .u64 _ ⟨by decide,by decide⟩
 have A6:BM w w1 (λ_ _=>False):=by rw[<- CC];exact BI _ _ _
 have MD:GW GC w1:=λb o v hv=>(A6.fp (f:=false) ⟨ε b o v hv,λh=>(by cases h)⟩ (λh=>h)).1
 have hh1:=hh.an A6 λ_ _ h=>h
 have AW:=hp.an A6 λ_ _ h=>h
 have aaJ:GB<=w1.heap.size:=z8 δ A6.1;have k1:=AIa;simp only[Bl] at k1;have hP:KH GB w1 g1.i.s0.params (g1.i.ps.map λt=>a1.tmps.getD t undef) [h] [(B,o)]:=⟨⟨(F1.tm 0).trans rfl,⟨hh1.1,λi k x hk hx=>(hh1.2 i k x hk hx).gO⟩,λh=>(by cases h)⟩,trivial⟩;have hr:=OB (g:=g1) (fH hG) k1.1 (G6 hG (.inl rfl)).1 (G6 hG (.inl rfl)).2 (AES (GB:=GB) (GC:=GC) _) MD aaJ hP ⟨λ_ h=>(by cases h),trivial⟩ (F1.sz.trans As.symm) F1.df (O5 k1.2);refine wp_seq (wp_mono hr ?_);rintro e a2 w2 ⟨r,r2,Fk,hs,rfl,hm,-,hf,q1,q2,q3,q4,q5⟩;rw[AOx hl] at hs;simp only[Ai,Prod.mk.injEq] at hs;obtain⟨rfl,rfl⟩:=hs;have jt:KH GB w2 (List.replicate 8 (.int .u64)) (hS.map λt=>a2.tmps.getD t undef) (wl h) Fk:=hm;have DE:BM w1 w2 (λ_ _=>False):=hf.mono λb o _ hS=>by
  obtain⟨p,hp,_⟩:=hS;cases hp
 have k2:=AHB;simp only[Bl] at k2;show(Code.seq (.block 0 (.loop oB)) _).wp _ _ _ _;have e0:a2.tmps.getD 0 undef= .pointer (some ⟨B,o,none⟩):=by
  rw[q4 0 0 _ rfl (by simp[GD.cE]) rfl];exact(F1.tm 0).trans rfl
 refine wp_seq (wp_block (wp_loop_rounds (n+1) (AIV hG (B:=w.heap.size) (pb:=pb) (po:=po) (p:=some ⟨pb,po,none⟩) (c:=c) (h:=wl h) (ws:=List.replicate 80 0) (xs:=xs) δ (by omega) n q5 (z8 aaJ DE.1) (by simp[wl,hl]) (λj hj=>by
  have:=VC jt j hj;rwa [bg a2 hj] at this) ?_ ?_ (λ_=>rfl) hc (hW.an DE λ_ _ h=>h) (AW.an DE λ_ _ h=>h) q1 q2 ?_)))
 ·rw[q3 4 (Gp.1 k2.1)];exact(F1.tm 4).trans rfl
 ·rw[q3 1 (Gp.1 k2.2)];exact(F1.tm 1).trans rfl
 intro a3 w3 y1 y2 y3 y4 y5 y6 y7;show(rB 35).wp _ _ _ _;obtain⟨z1,z2,z3⟩:=AMt y2 y1;have hB3:AQ true w3 (B,o) (List.replicate 8 .u64) h:=(hh1.an DE λ_ _ h=>h).an y4 λi _ (hh':B=w.heap.size)=>by
  have cf:B<w.heap.size:=by
   have hk:(List.replicate 8 IntKind.u64)[0]? = some .u64:=rfl;exact(hh.2 0 .u64 _ hk (JC (by omega))).lt
  omega
 have k35:=AGp;simp only[Bl] at k35;have hP3:KH GB w3 TO.i.s0.params (TO.i.ps.map λt=>a3.tmps.getD t undef) (h::Wg n (wl h) (List.replicate 80 0) xs) ((B,o)::List.replicate 8 (0,0)):=⟨⟨y3.trans e0,hB3,λ_=>hB⟩,Xj (n:=8) (vs:=hS.map λt=>a3.tmps.getD t undef) rfl y2 (by simp) λj hj=>by rw[bg a3 hj];exact y1 j hj⟩;have hS3:Fv TO.i.s0.params ((B,o)::List.replicate 8 (0,0)):=by
  refine⟨λx hx=>?_,?_⟩
  ·have iS:=List.of_mem_zip hx;have:x.1=GD.int .u64:=(Hj.1 iS.1).2;unfold Rz;rw[this];simp[GD.cE]
  ·have:=TP aG (n:=8) (bs:=List.replicate 8 (0,0)) (by simp);rw[Rw,Rw] at this;exact this
 have hr3:=OB (g:=TO) (fH hG) k35.1 (G6 hG (.inl rfl)).1 (G6 hG (.inl rfl)).2 (AES (GB:=GB) (GC:=GC) _) y7 (z8 (z8 aaJ DE.1) y4.1) hP3 hS3 y5 y6 (O5 k35.2);refine wp_mono hr3 ?_;rintro e a4 w4 ⟨r,r2,bs4,hs,rfl,-,hm4,WD,u1,u2,u3,-,u5⟩;have td:r.getD 0 []=blk n h xs:=by
  have hb:Wg n (wl h) (List.replicate 80 0) xs=wl (blk n h xs):=z1;have SJ:(blk n h xs).length=8:=z2;rw[hb] at hs;generalize blk n h xs=l at hs SJ
  match l,SJ with
  | [a,b,c,d,e,f,g,i],_=>
   have:=@ALu a b c d e f g i h;rw[show[h,[a],[b],[c],[d],[e],[f],[g],[i]]=h::wl [a,b,c,d,e,f,g,i] from rfl,hs] at this;simpa using this
 refine⟨u2,.tuple #[],by simp[results,go_sem],rfl,?_,?_,u5⟩
 ·have hm5:KH GB w4 TO.i.s0.params _ r _:=hm4
  match r,hm5 with
  |x::r,hm5=>
   have:x=blk n h xs:=td;subst this;exact hm5.1.2.1
 ·have h3:BM w w3 (λ_ _=>False):=((A6.trans DE).trans' y4 λb i hb (hh':b=w.heap.size)=>by omega);refine(h3.mono λ_ _ _ h=>h.elim).trans' WD λb i _ hS=>?_
  obtain⟨p,hp,h1,h2,h4⟩:=hS;have eN:p ∈ [((0:Nat),List.replicate 8 IntKind.u64,(Go.Proofs.YtloibefkijfdlaaGreatDoor.z1:PF))]:=hp;rw[NB] at eN;subst eN;exact⟨h1,h2,h4⟩
end
end
section
open Go
def yg(T:Tb):Bz->List Bool->Br->Option ((Br×Ex×St)×List (Int×Bool))
 | .leaf e st,_,ρ=>some ((ρ,e,st),[])
 | .fz ds _ t,bs,ρ=>yg T t bs (Dl T ρ ds)
 | .br x t f,bs,ρ=>match bs with
  |b::r=>(match (bif b then yg T t r ρ else yg T f r ρ) with
   |some (z,cs)=>some (z,(x.den ρ,b)::cs)
   |none=>none)
  | []=>none
 | .dc _ k,bs,ρ=>yg T k bs ρ
 | .j8 _ _ _ _,_,_=>none
 | .bad _,_,_=>none
def ADV(cs:List (Int×Bool)):Prop:=∀c∈cs,(c.1=0↔c.2=false)
theorem Yt{T:Tb}:∀ {t:Bz} {bs:List Bool} {ρ:Br} {z:Br×Ex×St} {cs:List (Int×Bool)},yg T t bs ρ=some (z,cs)->ADV cs->Wz T t ρ=some z
 | .leaf e st,bs,ρ,z,cs,h,_=>by
  unfold yg at h;simp only[Ai,Prod.mk.injEq] at h;rw[<- h.1];rfl
 | .fz ds ob t,bs,ρ,z,cs,h,hc=>by
  unfold yg at h;exact Yt (t:=t) h hc
 | .br x t f,[],ρ,z,cs,h,_=>by
  unfold yg at h;cases h
 | .br x t f,b::bs,ρ,z,cs,h,hc=>by
  unfold yg at h;simp only at h;split at h
  ·rename_i z' vl h';simp only[Ai,Prod.mk.injEq] at h;obtain⟨rfl,rfl⟩:=h;have h0:=hc (x.den ρ,b) Kh;have hr:ADV vl:=λc hm=>hc c (Lv _ hm)
   unfold Wz;cases b with
   |true=>
    rw[if_neg (λe=>by have:=h0.1 e;cases this)];exact Yt (t:=t) h' hr
   |false=>
    rw[if_pos (h0.2 rfl)];exact Yt (t:=f) h' hr
  ·cases h
 | .j8 f ar t e,bs,ρ,z,cs,h,_=>by
  unfold yg at h;cases h
 | .dc c k,bs,ρ,z,cs,h,hc=>by
  unfold yg at h;exact Yt (t:=k) h hc
 | .bad s,bs,ρ,z,cs,h,_=>by
  unfold yg at h;cases h
def JJ.pL(i:JJ)(C:Cx)(bs:List Bool)(ins:List (List Int)):Option ((Bool×List (List Int))×List (Int×Bool)):=
 match yg C.T (i.tree C) bs (Ce ins) with
 |some ((ρ,e,st),cs)=>(match i.leaf e st with
  |some (b,al)=>some ((b,al.map (·.den ρ)),cs)
  |none=>none)
 |none=>none
theorem JJ.hO{i:JJ}{C:Cx}{bs:List Bool}{ins:List (List Int)}{z:Bool×List (List Int)}{cs:List (Int×Bool)}(h:i.pL C bs ins=some (z,cs))(hc:ADV cs):i.step C ins=some z:=by
 unfold JJ.pL at h;split at h
 ·rename_i ρ e st vl hv;split at h
  ·rename_i b al hl;simp only[Ai,Prod.mk.injEq] at h;obtain⟨rfl,rfl⟩:=h;unfold JJ.step;rw[Yt hv hc];simp only[hl]
  ·cases h
 ·cases h
abbrev KN (op:BinOp) (x y:Int):Int:=Ah op .u64 x y
def rl(x k:Int):Int:=KN .or (KN .shl x k) (KN .shr x (64-k))
def S1(e:Int):Int:=KN .xor (KN .xor (rl e 50) (rl e 46)) (rl e 23)
def S0(a:Int):Int:=KN .xor (KN .xor (rl a 36) (rl a 30)) (rl a 25)
def s1w(v:Int):Int:=KN .xor (KN .xor (rl v 45) (rl v 3)) (KN .shr v 6)
def s0w(v:Int):Int:=KN .xor (KN .xor (rl v 63) (rl v 56)) (KN .shr v 7)
def Ch(e f g:Int):Int:=KN .xor (KN .and e f) (KN .and (KN .xor 18446744073709551615 e) g)
def Mj(a b c:Int):Int:=KN .xor (KN .xor (KN .and a b) (KN .and a c)) (KN .and b c)
def b8(bl:List Int)(j:Int):Int:=IntKind.u64.wrap (bl.getD j.toNat 0)
def ai(i j:Int):Int:=Ah .add .i64 i j
def si(i j:Int):Int:=Ah .sub .i64 i j
def wd(bl:List Int)(j:Int):Int:=
 KN .or (KN .or (KN .or (KN .or (KN .or (KN .or (KN .or (KN .shl (b8 bl j) 56) (KN .shl (b8 bl (ai j 1)) 48)) (KN .shl (b8 bl (ai j 2)) 40)) (KN .shl (b8 bl (ai j 3)) 32)) (KN .shl (b8 bl (ai j 4)) 24)) (KN .shl (b8 bl (ai j 5)) 16)) (KN .shl (b8 bl (ai j 6)) 8)) (b8 bl (ai j 7))
def yK(ws:List Int)(j:Int):Int:=ws.getD j.toNat 0
def nw(ws:List Int)(i:Int):Int:=KN .add (KN .add (KN .add (s1w (yK ws (si i 2))) (yK ws (si i 7))) (s0w (yK ws (si i 15)))) (yK ws (si i 16))
def T1(k e f g h w:Int):Int:=KN .add (KN .add (KN .add (KN .add h (S1 e)) (Ch e f g)) k) w
def T2(a b c:Int):Int:=KN .add (S0 a) (Mj a b c)
def lvI:LV->Int
 | .int _ (.lit n)=>n
 |_=>0
def AA0:List Int:=match SA.find? (λp=>Nat.beq p.2.length 80) with
 |some p=>p.2.map lvI
 |none=>[]
def xW(bl ws:List Int)(i w a b c d e f g h:Int):List (List Int):=
 let ws':=ws.set i.toNat w
 let t:=T1 (yK AA0 i) e f g h (yK ws' i)
 [[KN .add t (T2 a b c)],[a],[b],[c],[KN .add d t],[e],[f],[g],[ai i 1],ws',bl]
theorem AFM{a b c d e f g h i:Int}{ws bl:List Int}:Ri.pL AL [true,true] [[a],[b],[c],[d],[e],[f],[g],[h],[i],ws,bl]=some ((true,xW bl ws i (wd bl (Ah .mul .i64 i 8)) a b c d e f g h),[(Ah .lss .i64 i 80,true),(Ah .lss .i64 i 16,true)]):=by kernel_rfl
theorem AEb{a b c d e f g h i:Int}{ws bl:List Int}:Ri.pL AL [true,false] [[a],[b],[c],[d],[e],[f],[g],[h],[i],ws,bl]=some ((true,xW bl ws i (nw ws i) a b c d e f g h),[(Ah .lss .i64 i 80,true),(Ah .lss .i64 i 16,false)]):=by kernel_rfl
theorem zw{a b c d e f g h i:Int}{ws bl:List Int}:Ri.pL AL [false] [[a],[b],[c],[d],[e],[f],[g],[h],[i],ws,bl]=some ((false,[[a],[b],[c],[d],[e],[f],[g],[h],[i],ws,bl]),[(Ah .lss .i64 i 80,false)]):=by kernel_rfl
end
section
open Go
structure V8 where
 a:Int
 b:Int
 c:Int
 d:Int
 e:Int
 f:Int
 g:Int
 h:Int
def V8.l(v:V8):List Int:=[v.a,v.b,v.c,v.d,v.e,v.f,v.g,v.h]
def V8.ls(v:V8):List (List Int):=[[v.a],[v.b],[v.c],[v.d],[v.e],[v.f],[v.g],[v.h]]
def V8.of(l:List Int):V8:=⟨l.getD 0 0,l.getD 1 0,l.getD 2 0,l.getD 3 0,l.getD 4 0,l.getD 5 0,l.getD 6 0,l.getD 7 0⟩
def AEA(v:V8)(k w:Int):V8:=
 let t:=T1 k v.e v.f v.g v.h w
 ⟨KN .add t (T2 v.a v.b v.c),v.a,v.b,v.c,KN .add v.d t,v.e,v.f,v.g⟩
def bN(bl:List Int)(j:Nat):Int:=IntKind.u64.wrap (bl.getD j 0)
def wdN(bl:List Int)(j:Nat):Int:=
 KN .or (KN .or (KN .or (KN .or (KN .or (KN .or (KN .or (KN .shl (bN bl j) 56) (KN .shl (bN bl (j+1)) 48)) (KN .shl (bN bl (j+2)) 40)) (KN .shl (bN bl (j+3)) 32)) (KN .shl (bN bl (j+4)) 24)) (KN .shl (bN bl (j+5)) 16)) (KN .shl (bN bl (j+6)) 8)) (bN bl (j+7))
def nwN(ws:List Int)(i:Nat):Int:=KN .add (KN .add (KN .add (s1w (ws.getD (i-2) 0)) (ws.getD (i-7) 0)) (s0w (ws.getD (i-15) 0))) (ws.getD (i-16) 0)
def ak(bl ws:List Int)(n:Nat):Int:=if n<16 then wdN bl (n*8) else nwN ws n
def Og(bl:List Int):Nat->List Int
 |0=>[]
 |n+1=>Og bl n ++ [ak bl (Og bl n) n]
theorem Oo(bl:List Int):∀n,(Og bl n).length=n
 |0=>rfl
 |n+1=>by simp[Og,Oo bl n]
def rV(bl:List Int)(v:V8):Nat->V8
 |0=>v
 |n+1=>AEA (rV bl v n) (AA0.getD n 0) (ak bl (Og bl n) n)
def yC(h bl:List Int):List Int:=List.zipWith (KN .add) h (rV bl (V8.of h) 80).l
def Qi:Nat->List Int->List Int->List Int
 |0,h,_=>h
 |n+1,h,xs=>Qi n (yC h (xs.take 128)) (xs.drop 128)
theorem xG{x:Int}(h: -9223372036854775808<=x)(h2:x<=9223372036854775807):IntKind.i64.wrap x=x:=JZ (k:=.i64) ⟨h,h2⟩
theorem AA8{j k:Nat}(h:j+k<1000000):ai (j:Int) (k:Int)=((j+k:Nat):Int):=by
 show IntKind.i64.wrap ((j:Int)+k)=_;rw[xG (by omega) (by omega)];omega
theorem AKA{j k:Nat}(h:j<1000000)(hk:k<=j):si (j:Int) (k:Int)=((j-k:Nat):Int):=by
 show IntKind.i64.wrap ((j:Int)-k)=_;rw[xG (by omega) (by omega)];omega
theorem AAU{j k:Nat}(h:j*k<1000000):Ah .mul .i64 (j:Int) (k:Int)=((j*k:Nat):Int):=by
 show IntKind.i64.wrap ((j:Int)*k)=_;have e:(j:Int)*k=((j*k:Nat):Int):=by push_cast;rfl
 rw[e,xG (by omega) (by omega)]
theorem AAT(bl:List Int)(j:Nat):b8 bl (j:Int)=bN bl j:=by simp[b8,bN]
theorem ACk(bl:List Int){j:Nat}(h:j<1000):wd bl (j:Int)=wdN bl j:=by
 unfold wd wdN;have e:∀k:Nat,k<8->b8 bl (ai (j:Int) (k:Int))=bN bl (j+k):=λk hk=>by
  rw[AA8 (by omega),AAT]
 have e1:b8 bl (ai (j:Int) 1)=bN bl (j+1):=e 1 (by omega);have e2:b8 bl (ai (j:Int) 2)=bN bl (j+2):=e 2 (by omega);have e3:b8 bl (ai (j:Int) 3)=bN bl (j+3):=e 3 (by omega);have e4:b8 bl (ai (j:Int) 4)=bN bl (j+4):=e 4 (by omega);have e5:b8 bl (ai (j:Int) 5)=bN bl (j+5):=e 5 (by omega);have e6:b8 bl (ai (j:Int) 6)=bN bl (j+6):=e 6 (by omega);have e7:b8 bl (ai (j:Int) 7)=bN bl (j+7):=e 7 (by omega);rw[AAT,e1,e2,e3,e4,e5,e6,e7]
theorem tK(ws:List Int)(j:Nat):yK ws (j:Int)=ws.getD j 0:=by simp[yK]
theorem ABo{ws ys:List Int}{n:Nat}(h:16<=n)(h2:n<80)(hl:ws.length=n):nw (ws++ys) (n:Int)=nwN ws n:=by
 unfold nw nwN;have e:∀k:Nat,0<k->k<=16->yK (ws++ys) (si (n:Int) (k:Int))=ws.getD (n-k) 0:=λk h0 hk=>by
  rw[AKA (by omega) (by omega),tK];simp only[List.getD];rw[Zm (by omega)]
 have e2:yK (ws++ys) (si (n:Int) 2)=ws.getD (n-2) 0:=e 2 (by omega) (by omega);have e7:yK (ws++ys) (si (n:Int) 7)=ws.getD (n-7) 0:=e 7 (by omega) (by omega);have CH:yK (ws++ys) (si (n:Int) 15)=ws.getD (n-15) 0:=e 15 (by omega) (by omega);have OK:yK (ws++ys) (si (n:Int) 16)=ws.getD (n-16) 0:=e 16 (by omega) (by omega);rw[e2,e7,CH,OK]
theorem ABF{ws ys:List Int}{n:Nat}{x:Int}(hl:ws.length=n)(hy:0<ys.length):(ws++ys).set n x=(ws ++ [x])++ys.drop 1:=by
 subst hl;rw[List.set_append_right _ _ (KA _),zcy,bU]
 match ys,hy with
 |y::ys,_=>rfl
theorem rq{i j:Nat}(h:i<j):Ah .lss .i64 (i:Int) (j:Int)=1:=by
 show XH (decide ((i:Int)<j))=1;rw[decide_eq_true (by omega)];rfl
theorem AIK{i j:Nat}(h:j<=i):Ah .lss .i64 (i:Int) (j:Int)=0:=by
 show XH (decide ((i:Int)<j))=0;rw[decide_eq_false (by omega)];rfl
theorem Xr{bl ws ys:List Int}{n:Nat}{x:Int}{v:V8}(hn:n<80)(hl:ws.length=n)(hy:0<ys.length):xW bl (ws++ys) (n:Int) x v.a v.b v.c v.d v.e v.f v.g v.h=(AEA v (AA0.getD n 0) x).ls ++ [[((n+1:Nat):Int)],(ws ++ [x])++ys.drop 1,bl]:=by
 have e1:ai (n:Int) 1=((n+1:Nat):Int):=AA8 (j:=n) (k:=1) (by omega);unfold xW;simp only[e1,tK,SN,ABF hl hy];have e2:(ws ++ [x]++ys.drop 1).getD n 0=x:=by
  simp only[List.getD,bU];rw[dh (by omega),hl,zcy];rfl
 rw[e2];rfl
theorem AKv{bl ys:List Int}{n:Nat}{v:V8}(hn:n<80)(hy:0<ys.length):Ri.step AL (v.ls ++ [[(n:Int)],Og bl n++ys,bl])=some (true,(AEA v (AA0.getD n 0) (ak bl (Og bl n) n)).ls ++ [[((n+1:Nat):Int)],Og bl (n+1)++ys.drop 1,bl]):=by
 have h80:Ah .lss .i64 (n:Int) 80=1:=rq (j:=80) hn;by_cases h:n<16
 ·have nc:Ah .lss .i64 (n:Int) 16=1:=rq (j:=16) h;have:=JJ.hO (@AFM v.a v.b v.c v.d v.e v.f v.g v.h (n:Int) (Og bl n++ys) bl) (λc hc=>by
   simp only[IR,List.not_mem_nil,or_false] at hc;rcases hc with rfl|rfl
   ·simp[h80]
   ·simp[nc])
  have e8:Ah .mul .i64 (n:Int) 8=((n*8:Nat):Int):=AAU (j:=n) (k:=8) (by omega);rw[e8,ACk bl (by omega),Xr hn (Oo bl n) hy] at this;rw[show ak bl (Og bl n) n=wdN bl (n*8) by unfold ak;rw[if_pos h]];rw[show Og bl (n+1)=Og bl n ++ [wdN bl (n*8)] by show Og bl n ++ [ak bl (Og bl n) n]=_;unfold ak;rw[if_pos h]];exact this
 ·have nc:Ah .lss .i64 (n:Int) 16=0:=AIK (j:=16) (by omega);have:=JJ.hO (@AEb v.a v.b v.c v.d v.e v.f v.g v.h (n:Int) (Og bl n++ys) bl) (λc hc=>by
   simp only[IR,List.not_mem_nil,or_false] at hc;rcases hc with rfl|rfl
   ·simp[h80]
   ·simp[nc])
  rw[ABo (by omega) hn (Oo bl n),Xr hn (Oo bl n) hy] at this;rw[show ak bl (Og bl n) n=nwN (Og bl n) n by unfold ak;rw[if_neg h]];rw[show Og bl (n+1)=Og bl n ++ [nwN (Og bl n) n] by show Og bl n ++ [ak bl (Og bl n) n]=_;unfold ak;rw[if_neg h]];exact this
theorem AFw{bl ws:List Int}{v:V8}:Ri.step AL (v.ls ++ [[80],ws,bl])=some (false,v.ls ++ [[80],ws,bl]):=
 JJ.hO (@zw v.a v.b v.c v.d v.e v.f v.g v.h 80 ws bl) (λc hc=>by
  simp only[NB] at hc;subst hc;exact⟨λ_=>rfl,λ_=>by decide⟩)
theorem AIW{bl:List Int}{v0:V8}:∀(m n:Nat) {ys:List Int},n+m=80->ys.length=m->K6 (Ri.step AL) (m+1) ((rV bl v0 n).ls ++ [[(n:Int)],Og bl n++ys,bl])=(rV bl v0 80).ls ++ [[80],Og bl 80,bl]
 |0,n,ys,hn,hy=>by
  have:n=80:=by omega
  subst this;have:ys= []:=I3 hy;subst this;rw[Rw];unfold K6;rw[show((80:Nat):Int)=80 from rfl,AFw]
 |m+1,n,ys,hn,hy=>by
  unfold K6;rw[AKv (by omega) (by omega)];exact AIW m (n+1) (by omega) (by simp[hy])
theorem rJ{bl ws:List Int}{v:V8}(h:ws.length=80):K6 (Ri.step AL) 81 (v.ls ++ [[0],ws,bl])=(rV bl v 80).ls ++ [[80],Og bl 80,bl]:=
 AIW (bl:=bl) (v0:=v) 80 0 (by omega) h
end
section
open Go
theorem AOG{a b c d e f g h:Int}:g3.step bL [[a],[b],[c],[d],[e],[f],[g],[h]]=some ([[a],[b],[c],[d],[e],[f],[g],[h]],[[a],[b],[c],[d],[e],[f],[g],[h]]):=by kernel_rfl
theorem AOH{x y:Int}:((List.range 8).map λk=>(gA k).step bL [[x],[y]])=(List.range 8).map λ_=>some ([[KN .add x y],[y]],[]):=by kernel_rfl
def V7.stepT(g:V7)(T:Tb)(C:Cx)(ins:List (List Int)):Option (List (List Int)×List (List Int)):=
 match Wz T (g.i.tree C) (Ce ins) with
 |some (ρ,e,st)=>(match g.leaf e st with
  |some (al,al2)=>some (al.map (·.den ρ),al2.map (·.den ρ))
  |none=>none)
 |none=>none
theorem Vq(g:V7)(C:Cx)(ins:List (List Int)):g.step C ins=g.stepT C.T C ins:=rfl
theorem ASO{T:Tb}{a b c d e f g h:Int}{ws bl:List Int}:(g4.stepT T lg [[a],[b],[c],[d],[e],[f],[g],[h],ws,bl]).map (λr=>r.1.take 9)=(let A:=[[a],[b],[c],[d],[e],[f],[g],[h],[0],ws,bl]
  some ((List.range 8).map (λk=>[(gv T (1000000+154) (k+1) A).getD 0 0]) ++ [gv T (1000000+154) 0 A])):=by kernel_rfl
end
end Go.Proofs.YtloibefkijfdlaaGreatDoor
