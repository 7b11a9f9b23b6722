/- blockGeneric on any number of blocks: one round. -/
import Derived.Test.YtkbfdaoohhmgoaaGreatDoorHb1
import Derived.Test.YtkbfdaoohhmgoaaGreatDoorLa
namespace Go.Proofs.YtkbfdaoohhmgoaaGreatDoor
section
open Go
theorem AQG:dZ Rt Aa 8 80 80=true:=by kernel_rfl
theorem ATa:AOV (1000000+116) (mf (g4.i.tree qw))=true:=by kernel_rfl
theorem AQ1:OO 10 (g4.i.tree qw)=true:=by kernel_rfl
theorem xP:lk (1000000+116) qw.T=some (.one (Rt.sum Aa (Rt.pre Aa))):=by kernel_rfl
theorem AGj{t:Be}{C:Cx}{l:Ih}{Cb:Cx}{f n:Nat}(hl:lk f C.T=some (.one (l.sum Cb (l.pre Cb))))(ht:AOV f (mf t)=true){np:Nat}(hk:OO np t=true)(hq:8<l.s0.params.length)(ha:dZ l Cb 8 n n=true)(hf:∀a,l.fuel a=n+1)(ρ0:Bu):Cv C.T t ρ0:=by
 unfold AOV at ht;split at ht
 ·rename_i ds g al e st aff;simp only[Bj] at ht;have e1:=Ca ht.1;subst e1;obtain⟨k1,k2,k3,k4,k5⟩:=Rc (T:=C.T) (ρ:=ρ0) hk aff;refine k5 λq BT=>?_
  rw[NU] at BT;subst BT;refine yN hl rfl (Ih.An (Ih.Fi (hf _) (pR hq ha ?_ (by omega))));have h2:=ht.2;split at h2
  ·rename_i r h8;have h9:al[8]? = some (.xs [.lit (.ofNat 0)]):=by
    have:(al.drop 8)[0]? = some (.xs [.lit (.ofNat 0)]):=by rw[h8];rfl
    rw[List.getElem?_drop] at this;exact this
   rw[List.getD,Ng,h9];show[(0:Int)]= [(n:Int)-(n:Int)];rw[Int.sub_self]
  ·cases h2
 ·cases ht
theorem ADW(a:List (List Int)):Rt.fuel a=80+1:=by
 have:Rt.fuel=λ_=>80+1:=by kernel_rfl
 rw[this]
theorem ALY:Nat.ble 9 Rt.s0.params.length=true:=by kernel_rfl
set_option maxRecDepth 100000 in
theorem ARQ(ρ0:Bu):Cv qw.T (g4.i.tree qw) ρ0:=AGj xP ATa AQ1 (Kv ALY) AQG ADW ρ0
end
noncomputable section
open Go
def s1(h:List Int):List (List Int):=match g1.step bu [h] with
 |some r=>r.2
 |none=>[]
def s3(h:List (List Int)):List (List Int)×List (List Int):=match g3.step bu h with
 |some r=>r
 |none=>([],[])
def s4(v:List (List Int))(ws blk:List Int):List (List Int):=match g4.step qw (v ++ [ws,blk]) with
 |some r=>r.1
 |none=>[]
def sA(k:Nat)(x y:List Int):List Int:=match (gA k).step bu [x,y] with
 |some r=>r.1.getD 0 []
 |none=>[]
def xS(h:List (List Int))(ws blk:List Int):List (List Int)×List Int:=
 let v:=s4 (s3 h).2 ws blk
 ((List.range 8).map λk=>sA k ((s3 h).1.getD k []) (v.getD k []),v.getD 8 [])
def IV(v:Value)(xs:List Int):Prop:=∃x,xs= [x]/\v= .int .u64 x/\IJ .u64 x
theorem Vx{GB:Nat}{w:World}:∀ {n:Nat} {vs:List Value} {xs:List (List Int)} {bs:List (Nat×Nat)},Jg GB w (List.replicate n (.int .u64)) vs xs bs->∀j,j<n->IV (vs.getD j undef) (xs.getD j [])
 |0,_,_,_,_,j,hj=>by omega
 |n+1,v::vs,x::xs,b::bs,h,0,_=>h.1
 |n+1,v::vs,x::xs,b::bs,h,j+1,hj=>Vx (n:=n) h.2 j (by omega)
 |n+1,[],_,_,h,_,_=>h.elim
 |n+1,_::_,[],_,h,_,_=>h.elim
 |n+1,_::_,_::_,[],h,_,_=>h.elim
theorem Yd{GB:Nat}{w:World}:∀ {n:Nat} {vs:List Value} {xs:List (List Int)} {bs:List (Nat×Nat)},vs.length=n->xs.length=n->bs.length=n->(∀j,j<n->IV (vs.getD j undef) (xs.getD j []))->Jg GB w (List.replicate n (.int .u64)) vs xs bs
 |0,[],[],[],_,_,_,_=>trivial
 |n+1,v::vs,x::xs,b::bs,h1,h2,h3,h=>⟨h 0 (by omega),Yd (n:=n) (by simpa using h1) (by simpa using h2) (by simpa using h3) λj hj=>h (j+1) (by omega)⟩
 |0,_::_,_,_,h,_,_,_=>by simp at h
 |0,_,_::_,_,_,h,_,_=>by simp at h
 |0,_,_,_::_,_,_,h,_=>by simp at h
 |n+1,[],_,_,h,_,_,_=>by simp at h
 |n+1,_,[],_,_,h,_,_=>by simp at h
 |n+1,_,_,[],_,_,h,_=>by simp at h
theorem yz{GB:Nat}{w:World}{qs:List Et}{us:List Value}{ys:List (List Int)}{cs:List (Nat×Nat)}(h':Jg GB w qs us ys cs):∀ {ps:List Et} {vs:List Value} {xs:List (List Int)} {bs:List (Nat×Nat)},Jg GB w ps vs xs bs->Jg GB w (ps++qs) (vs++us) (xs++ys) (bs++cs)
 | [],[],[],[],_=>h'
 |_::_,_::_,_::_,_::_,h=>⟨h.1,yz h' h.2⟩
 | [],_::_,_,_,h=>h.elim
 | [],[],_::_,_,h=>h.elim
 | [],[],[],_::_,h=>h.elim
 |_::_,[],_,_,h=>h.elim
 |_::_,_::_,[],_,h=>h.elim
 |_::_,_::_,_::_,[],h=>h.elim
theorem UB{qs:List Et}{cs:List (Nat×Nat)}(h':Ep qs cs):∀ {n:Nat} {bs:List (Nat×Nat)},bs.length=n->Ep (List.replicate n (.int .u64)++qs) (bs++cs)
 |0,[],_=>h'
 |n+1,_::_,h=>⟨λ_ _=>trivial,UB h' (n:=n) (by simpa using h)⟩
 |0,_::_,h=>by simp at h
 |n+1,[],h=>by simp at h
theorem dR:Ep [] []:=trivial
section
variable{GB:Nat}{GC:Nat->Nat->Option Value}{ad:Nat->Nat×Nat}(hG:GI GB GC ad)
include hG
theorem jd:Ud Tryz.prog bu GB GC:=PT hG iq.nil UX.nil
omit hG in
theorem AI2(c:Code)(E:En)(_:E.P=Tryz.prog)(h:E.C=bu)(_:E.GB=GB)(_:E.GC=GC):Ip E c/\∀f j,lk f bu.inl=some j->Ip E j.c:=
 ⟨Ip.of_nil (by rw[h];rfl) _,λ_ _ hj=>(by cases hj)⟩
end
section
variable{GB:Nat}{GC:Nat->Nat->Option Value}{ad:Nat->Nat×Nat}
theorem AIx{k:Nat}(hk:k<8):(gA k).cN bu=true/\TF ((gA k).i.tree bu)=true:=by
 have:=Kh.1 AMa k (fV.2 hk);simpa only[Bj] using this
theorem AIZ:((List.range 8).all λk=>([0,1,4]++hS++vS).all λt=>Nat.beq t (5+k)||Nat.beq t (13+k)||Dz t (gA k).i.cH)=true:=by kernel_rfl
theorem ADe{k t:Nat}(hk:k<8)(ht:t ∈ [0,1,4]++hS++vS)(h1:t≠5+k)(h2:t≠13+k):t∈(gA k).i.cH:=by
 have:=Kh.1 (Kh.1 AIZ k (fV.2 hk)) t ht;simp only[Bool.or_eq_true] at this;rcases this with(h|h)|h
 ·exact absurd (Ca h) h1
 ·exact absurd (Ca h) h2
 ·exact Gm.1 h
theorem AR9(hG:GI GB GC ad){k:Nat}(hk:k<8){a:Act}{w:World}{x y:List Int}(ε:GW GC w)(δ:GB<=w.heap.size)(hx:IV (a.tmps.getD (5+k) undef) x)(hy:IV (a.tmps.getD (13+k) undef) y)(cX:a.tmps.size=g3.i.nt)(oX:a.defers= []):
  (rB (26+k)).wp Tryz.prog (λe a' w'=>e= .normal/\IV (a'.tmps.getD (5+k) undef) (sA k x y)/\(∀t,t ∈ [0,1,4]++hS++vS->t≠5+k->t≠13+k->a'.tmps.getD t undef=a.tmps.getD t undef)/\BD w w' (λ_ _=>False)/\a'.tmps.size=g3.i.nt/\a'.defers= []/\GW GC w') a w:=by
 obtain⟨c1,c2⟩:=AIx hk;have hP:Jg GB w (gA k).i.s0.params ((gA k).i.ps.map λt=>a.tmps.getD t undef) [x,y] [(0,0),(0,0)]:=⟨hx,hy,trivial⟩;have hr:=Q5 (g:=gA k) (jd hG) c1 (ER hG (.inl rfl)).1 (ER hG (.inl rfl)).2 (AI2 (GB:=GB) (GC:=GC) _) ε δ hP ⟨λ_ _=>trivial,λ_ h=>(by cases h),trivial⟩ cX oX (PK c2);refine wp_mono hr ?_;rintro e a' w' ⟨r,r2,N0,hs,rfl,-,hm,hf,h1,h2,h3,-,h5⟩;have gO:Jg GB w' (List.replicate 2 (.int .u64)) ((gA k).i.ps.map λt=>a'.tmps.getD t undef) r [(0,0),(0,0)]:=hm;refine⟨rfl,?_,λt ht n1 n2=>h3 t (ADe hk ht n1 n2),hf.mono λb o _ hS=>?_,h1,h2,h5⟩
 ·have:=Vx gO 0 (by omega);unfold sA;rw[hs];exact this
 ·obtain⟨p,hp,_⟩:=hS;cases hp
end
end
section
open Go
noncomputable def tlB:Nat->Code
 |0=>rB 34
 |m+1=>.seq (rB (26+(7-m))) (tlB m)
theorem ARL:xB= .seq (rB 3) (.seq c4B (tlB 8)):=rfl
theorem AK1{j:Nat}(h:j<8):5+j ∈ [0,1,4]++hS++vS:=by
 have:∀j,j<8->5+j ∈ [0,1,4]++hS++vS:=by decide
 exact this j h
theorem ARC{j:Nat}(h:j<8):13+j ∈ [0,1,4]++hS++vS:=by
 have:∀j,j<8->13+j ∈ [0,1,4]++hS++vS:=by decide
 exact this j h
theorem AT3{t:Nat}(h:t=0\/t=1\/t=4):t ∈ [0,1,4]++hS++vS:=by
 rcases h with rfl|rfl|rfl<;>decide
section
variable{GB:Nat}{GC:Nat->Nat->Option Value}{ad:Nat->Nat×Nat}
theorem AKP(hG:GI GB GC ad){h v:List (List Int)}{Q:Exit->Act->World->Prop}:∀ {m:Nat} {a:Act} {w:World},m<=8->GW GC w->GB<=w.heap.size->
  (∀j,j<8-m->IV (a.tmps.getD (5+j) undef) (sA j (h.getD j []) (v.getD j [])))->(∀j,8-m<=j->j<8->IV (a.tmps.getD (5+j) undef) (h.getD j []))->(∀j,8-m<=j->j<8->IV (a.tmps.getD (13+j) undef) (v.getD j []))->
  a.tmps.size=g3.i.nt->a.defers= []->
  (∀a' w',(∀j,j<8->IV (a'.tmps.getD (5+j) undef) (sA j (h.getD j []) (v.getD j [])))->(∀t,t=0\/t=1\/t=4->a'.tmps.getD t undef=a.tmps.getD t undef)->BD w w' (λ_ _=>False)->a'.tmps.size=g3.i.nt->a'.defers= []->GW GC w'->(rB 34).wp Tryz.prog Q a' w')->
  (tlB m).wp Tryz.prog Q a w
 |0,a,w,_,ε,_,h1,_,_,cX,oX,hQ=>hQ a w (λj hj=>h1 j hj) (λ_ _=>rfl) (BD.refl _ _) cX oX ε
 | m+1,a,w,hm,ε,δ,h1,h2,h3,cX,oX,hQ=>by
  have hk:7-m<8:=by omega
  refine wp_seq (wp_mono (AR9 hG hk ε δ (h2 _ (by omega) hk) (h3 _ (by omega) hk) cX oX) ?_);rintro e a' w' ⟨rfl,q1,q2,q3,q4,q5,q6⟩;show(tlB m).wp _ _ _ _;refine AKP hG (h:=h) (v:=v) (by omega) q6 (EX δ q3.1) (λj hj=>?_) (λj hj oE=>?_) (λj hj oE=>?_) q4 q5 λa2 w2 k1 k2 k3 k4 k5 k6=>?_
  ·by_cases hjk:j=7-m
   ·subst hjk;exact q1
   ·rw[q2 _ (AK1 (by omega)) (by omega) (by omega)];exact h1 j (by omega)
  ·rw[q2 _ (AK1 oE) (by omega) (by omega)];exact h2 j (by omega) oE
  ·rw[q2 _ (ARC oE) (by omega) (by omega)];exact h3 j (by omega) oE
  ·refine hQ a2 w2 k1 (λt ht=>?_) (q3.trans k3) k4 k5 k6;rw[k2 t ht,q2 t (AT3 ht) (by omega) (by omega)]
theorem AHe:([0,1,4].all λt=>Dz t g3.i.cH)=true:=by kernel_rfl
theorem AHs:((0::hS).all λt=>Dz t g4.i.cH)=true:=by kernel_rfl
theorem AOR{t:Nat}(h:t=0\/t=1\/t=4):t∈g3.i.cH:=Gm.1 (Kh.1 AHe t (by rcases h with rfl|rfl|rfl<;>decide))
theorem AM9{t:Nat}(h:t∈0::hS):t∈g4.i.cH:=Gm.1 (Kh.1 AHs t h)
theorem iJ(a:Act){j:Nat}(h:j<8):(hS.map λt=>a.tmps.getD t undef).getD j undef=a.tmps.getD (5+j) undef:=by
 match j,h with
 |0,_|1,_|2,_|3,_|4,_|5,_|6,_|7,_=>rfl
theorem rX(a:Act){j:Nat}(h:j<8):(vS.map λt=>a.tmps.getD t undef).getD j undef=a.tmps.getD (13+j) undef:=by
 match j,h with
 |0,_|1,_|2,_|3,_|4,_|5,_|6,_|7,_=>rfl
theorem AQJ(hG:GI GB GC ad){a:Act}{w:World}{h:List (List Int)}(ε:GW GC w)(δ:GB<=w.heap.size)(hl:h.length=8)(hh:∀j,j<8->IV (a.tmps.getD (5+j) undef) (h.getD j []))(cX:a.tmps.size=g3.i.nt)(oX:a.defers= []):
  (rB 3).wp Tryz.prog (λe a' w'=>e= .normal/\(∀j,j<8->IV (a'.tmps.getD (5+j) undef) ((s3 h).1.getD j []))/\(∀j,j<8->IV (a'.tmps.getD (13+j) undef) ((s3 h).2.getD j []))/\(s3 h).2.length=8/\(∀t,t=0\/t=1\/t=4->a'.tmps.getD t undef=a.tmps.getD t undef)/\BD w w' (λ_ _=>False)/\a'.tmps.size=g3.i.nt/\a'.defers= []/\GW GC w') a w:=by
 have c:=ALP;simp only[Bj] at c;have hP:Jg GB w g3.i.s0.params (g3.i.ps.map λt=>a.tmps.getD t undef) h (List.replicate 8 (0,0)):=Yd (n:=8) (vs:=hS.map λt=>a.tmps.getD t undef) rfl hl (by simp) λj hj=>by rw[iJ a hj];exact hh j hj
 have eC:Ep g3.i.s0.params (List.replicate 8 (0,0)):=by
  have:=UB dR (n:=8) (bs:=List.replicate 8 (0,0)) (by simp);rw[RD,RD] at this;exact this
 have hr:=Q5 (g:=g3) (jd hG) c.1 (ER hG (.inl rfl)).1 (ER hG (.inl rfl)).2 (AI2 (GB:=GB) (GC:=GC) _) ε δ hP eC cX oX (PK c.2);refine wp_mono hr ?_;rintro e a' w' ⟨r,r2,N0,hs,rfl,hx,hm,hf,h1,h2,h3,-,h5⟩;have e3:s3 h=(r,r2):=by unfold s3;rw[hs]
 have gO:Jg GB w' (List.replicate 8 (.int .u64)) (hS.map λt=>a'.tmps.getD t undef) r (List.replicate 8 (0,0)):=hm;have eg:Jg GB w' (List.replicate 8 (.int .u64)) (vS.map λt=>a'.tmps.getD t undef) r2 N0:=hx;rw[e3];refine⟨rfl,λj hj=>?_,λj hj=>?_,?_,λt ht=>h3 t (AOR ht),hf.mono λb o _ hS=>?_,h1,h2,h5⟩
 ·have:=Vx gO j hj;rwa [iJ a' hj] at this
 ·have:=Vx eg j hj;rwa [rX a' hj] at this
 ·have:=(TJ eg).2.1;simpa using this
 ·obtain⟨p,hp,_⟩:=hS;cases hp
theorem ADH(hG:GI GB GC ad):iq GB GC [(149,.one Iq)]:=.cons (k:=149) rfl (TB hG) Tryz.call149 (Ac.len _ _) .nil
theorem ALK(hG:GI GB GC ad):Ud Tryz.prog qw GB GC:=iG hG (iq.Se (by decide) (λb=>by cases b<;>exact lJ _ _ _) (ADH hG)) UX.nil _
theorem AN7:K5 Rt.id c4B= [.loop Rt.c]:=by kernel_rfl
theorem ATR(hG:GI GB GC ad)(E:En)(e1:E.P=Tryz.prog)(e2:E.C=qw)(e3:E.GB=GB)(e4:E.GC=GC):Ip E g4.i.c/\∀f j,lk f qw.inl=some j->Ip E j.c:=by
 have vx:∀fe,lk (1000000+116) qw.T=some fe->fe= .one (Rt.sum Aa (Rt.pre Aa)):=λfe h=>by
  rw[xP] at h;exact(WT h).symm
 refine⟨?_,λ_ _ hj=>(by cases hj)⟩;refine Ip.one (d:=⟨1000000+116,Rt.ps,Rt.ss,Rt.cl,Rt.nt⟩) (by rw[e2];rfl) AN7 ?_ ?_
 ·exact Ih.ok (PT hG (ADH hG) UX.nil) AIA (ER hG (.inr rfl)).1 (ER hG (.inr rfl)).2 (λE' _ c2 _ _=>⟨Ip.of_nil (by rw[c2];rfl) _,λ_ _ _=>Ip.of_nil (by rw[c2];rfl) _⟩) e1 e3 e4 rfl rfl rfl rfl (λfe h=>vx fe (by rw[e2] at h;exact h)) (λ_ _ h=>h)
 ·intro fe h x;rw[e2] at h;rw[vx fe h];rfl
end
end
section
open Go
theorem ek{GB:Nat}{w:World}{qs:List Et}:∀ {n:Nat} {vs us:List Value} {xs:List (List Int)} {bs cs:List (Nat×Nat)},vs.length=n->bs.length=n->Jg GB w (List.replicate n (.int .u64)++qs) (vs++us) xs (bs++cs)->
  (∀j,j<n->IV (vs.getD j undef) (xs.getD j []))/\Jg GB w qs us (xs.drop n) cs
 |0,[],us,xs,[],cs,_,_,h=>⟨λ_ hj=>by omega,h⟩
 | n+1,v::vs,us,x::xs,b::bs,cs,h1,h2,h=>by
  obtain⟨k1,k2⟩:=ek (n:=n) (vs:=vs) (bs:=bs) (by simpa using h1) (by simpa using h2) h.2;exact⟨λj hj=>(match j,hj with
   |0,_=>h.1
   |j+1,hj=>k1 j (by omega)),k2⟩
 |n+1,_::_,_,[],_::_,_,_,_,h=>h.elim
 |0,_::_,_,_,_,_,h,_,_=>by simp at h
 |0,[],_,_,_::_,_,_,h,_=>by simp at h
 |n+1,[],_,_,_,_,h,_,_=>by simp at h
 |n+1,_::_,_,_,[],_,_,h,_=>by simp at h
section
variable{GB:Nat}{GC:Nat->Nat->Option Value}{ad:Nat->Nat×Nat}
set_option maxRecDepth 100000 in
theorem APr(hG:GI GB GC ad){a:Act}{w:World}{v:List (List Int)}{ws blk:List Int}{B pb po m c:Nat}(ε:GW GC w)(δ:GB<=w.heap.size)(hl:v.length=8)(hv:∀j,j<8->IV (a.tmps.getD (13+j) undef) (v.getD j []))
  (h4:a.tmps.getD 4 undef= .pointer (some ⟨B,0,none⟩)) (h1:a.tmps.getD 1 undef= .slice (some ⟨pb,po,none⟩) m c) (hm:128<=m) (hW:AO true w (B,0) (List.replicate 80 .u64) ws) (hB:GB<=B) (hb:AO false w (pb,po) (List.replicate 128 .u8) blk) (cj:B≠pb)
  (cX:a.tmps.size=g3.i.nt) (oX:a.defers= []):
  c4B.wp Tryz.prog (λe a' w'=>e= .normal/\(∀j,j<8->IV (a'.tmps.getD (13+j) undef) ((s4 v ws blk).getD j []))/\AO true w' (B,0) (List.replicate 80 .u64) ((s4 v ws blk).getD 8 [])/\a'.tmps.getD 4 undef=a.tmps.getD 4 undef/\a'.tmps.getD 1 undef=a.tmps.getD 1 undef/\(∀t,t∈0::hS->a'.tmps.getD t undef=a.tmps.getD t undef)/\BD w w' (λb _=>b=B)/\a'.tmps.size=g3.i.nt/\a'.defers= []/\GW GC w') a w:=by
 have hP:Jg GB w g4.i.s0.params (g4.i.ps.map λt=>a.tmps.getD t undef) (v ++ [ws,blk]) (List.replicate 8 (0,0) ++ [(B,0),(pb,po)]):=by
  show Jg GB w (List.replicate 8 (.int .u64) ++ [.mem (List.replicate 80 .u64) 1 true,.fL (List.replicate 128 .u8) 0 false]) ((vS.map λt=>a.tmps.getD t undef) ++ [a.tmps.getD 4 undef,a.tmps.getD 1 undef]) _ _;have hq:Jg GB w [.mem (List.replicate 80 .u64) 1 true,.fL (List.replicate 128 .u8) 0 false] [a.tmps.getD 4 undef,a.tmps.getD 1 undef] [ws,blk] [(B,0),(pb,po)]:=
   ⟨⟨h4,hW,λ_=>hB⟩,⟨m,c,h1,by simpa using hm,hb,λh=>(by cases h)⟩,trivial⟩
  refine yz hq (Yd (n:=8) rfl hl (by simp) λj hj=>?_);rw[rX a hj];exact hv j hj
 have eC:Ep g4.i.s0.params (List.replicate 8 (0,0) ++ [(B,0),(pb,po)]):=by
  show Ep (List.replicate 8 (.int .u64) ++ [.mem (List.replicate 80 .u64) 1 true,.fL (List.replicate 128 .u8) 0 false]) _;have hq:Ep [.mem (List.replicate 80 .u64) 1 true,.fL (List.replicate 128 .u8) 0 false] [(B,0),(pb,po)]:=
   ⟨λx hx=>by rw[NU.1 hx];exact λ_=>.inr (.inl cj),λx hx=>(by cases hx),trivial⟩
  exact UB hq (by simp)
 have hr:=Q5 (g:=g4) (ALK hG) AK5 (ER hG (.inl rfl)).1 (ER hG (.inl rfl)).2 (ATR (GB:=GB) (GC:=GC) hG) ε δ hP eC cX oX (ARQ _);refine wp_mono hr ?_;rintro e a' w' ⟨r,r2,N0,hs,rfl,-,gO,hf,k1,k2,k3,k4,k5⟩;have e3:s4 v ws blk=r:=by unfold s4;rw[hs]
 have Wa:Jg GB w' (List.replicate 8 (.int .u64) ++ [.mem (List.replicate 80 .u64) 1 true,.fL (List.replicate 128 .u8) 0 false]) ((vS.map λt=>a'.tmps.getD t undef) ++ [a'.tmps.getD 4 undef,a'.tmps.getD 1 undef]) r (List.replicate 8 (0,0) ++ [(B,0),(pb,po)]):=gO;obtain⟨z1,z2⟩:=ek (n:=8) (bs:=List.replicate 8 (0,0)) (vs:=vS.map λt=>a'.tmps.getD t undef) rfl rfl Wa;rw[e3];refine⟨rfl,λj hj=>?_,?_,k4 8 4 (.mem (List.replicate 80 .u64) 1 true) rfl (by simp[Et.cp]) rfl,k4 9 1 (.fL (List.replicate 128 .u8) 0 false) rfl (by simp[Et.cp]) rfl,λt ht=>k3 t (AM9 ht),hf.mono λb o _ hS=>?_,k1,k2,k5⟩
 ·have:=z1 j hj;rwa [rX a' hj] at this
 ·have e8:r.getD 8 []=(r.drop 8).getD 0 []:=by simp[List.getD]
  rw[e8]
  match hq:r.drop 8 with
  | []=>rw[hq] at z2;exact z2.elim
  |y::ys=>
   rw[hq] at z2;exact z2.1.2.1
 ·obtain⟨p,hp,rj,_⟩:=hS;rw[NU.1 hp] at rj;exact rj
set_option maxRecDepth 100000 in
theorem ARJ(hG:GI GB GC ad){a:Act}{w:World}{h:List (List Int)}{ws blk:List Int}{B pb po m c:Nat}{Q:Exit->Act->World->Prop}(ε:GW GC w)(δ:GB<=w.heap.size)(hl:h.length=8)(hv:∀j,j<8->IV (a.tmps.getD (5+j) undef) (h.getD j []))
  (h4:a.tmps.getD 4 undef= .pointer (some ⟨B,0,none⟩)) (h1:a.tmps.getD 1 undef= .slice (some ⟨pb,po,none⟩) m c) (hm:128<=m) (hW:AO true w (B,0) (List.replicate 80 .u64) ws) (hB:GB<=B) (hb:AO false w (pb,po) (List.replicate 128 .u8) blk) (cj:B≠pb)
  (cX:a.tmps.size=g3.i.nt) (oX:a.defers= [])
  (hQ:∀a' w',(∀j,j<8->IV (a'.tmps.getD (5+j) undef) ((xS h ws blk).1.getD j []))->AO true w' (B,0) (List.replicate 80 .u64) (xS h ws blk).2->(∀t,t=0\/t=1\/t=4->a'.tmps.getD t undef=a.tmps.getD t undef)->BD w w' (λb _=>b=B)->a'.tmps.size=g3.i.nt->a'.defers= []->GW GC w'->(rB 34).wp Tryz.prog Q a' w'):
  xB.wp Tryz.prog Q a w:=by
 rw[ARL];have hfb:∀ {w1 w2:World},BD w1 w2 (λ_ _=>False)->BD w1 w2 (λb _=>b=B):=λh=>h.mono λ_ _ _ hh=>hh.elim
 refine wp_seq (wp_mono (AQJ hG ε δ hl hv cX oX) ?_);rintro e a1 w1 ⟨rfl,p1,p2,p3,p4,p5,p6,p7,p8⟩;show(Code.seq c4B (tlB 8)).wp _ _ _ _;have hW1:AO true w1 (B,0) (List.replicate 80 .u64) ws:=⟨hW.1,λi k x hk hx=>p5.fk (hW.2 i k x hk hx) (λh=>h)⟩;have rj:AO false w1 (pb,po) (List.replicate 128 .u8) blk:=⟨hb.1,λi k x hk hx=>p5.fk (hb.2 i k x hk hx) (λh=>h)⟩;refine wp_seq (wp_mono (APr hG p8 (EX δ p5.1) p3 p2 ((p4 4 (.inr (.inr rfl))).trans h4) ((p4 1 (.inr (.inl rfl))).trans h1) hm hW1 hB rj cj p6 p7) ?_);rintro e a2 w2 ⟨rfl,q1,q2,q3,q4,q5,q6,q7,q8,q9⟩;show(tlB 8).wp _ _ _ _;refine AKP hG (h:=(s3 h).1) (v:=s4 (s3 h).2 ws blk) (Ie 8) q9 (EX (EX δ p5.1) q6.1) (λj hj=>by omega) (λj _ hj=>?_) (λj _ hj=>q1 j hj) q7 q8 λa3 w3 k1 k2 k3 k4 k5 k6=>?_
 ·have:5+j∈0::hS:=by
   have:∀j,j<8->5+j∈0::hS:=by decide
   exact this j hj
  rw[q5 _ this];exact p1 j hj
 ·refine hQ a3 w3 (λj hj=>?_) ⟨q2.1,λi k x hk hx=>k3.fk (q2.2 i k x hk hx) (λh=>h)⟩ (λt ht=>?_) (((hfb p5).trans q6).trans (hfb k3)) k4 k5 k6
  ·have e1:(xS h ws blk).1.getD j []=sA j ((s3 h).1.getD j []) ((s4 (s3 h).2 ws blk).getD j []):=by
    simp[xS,List.getD,hj]
   rw[e1];exact k1 j hj
  ·rw[k2 t ht, <- p4 t ht];rcases ht with rfl|rfl|rfl
   ·exact q5 0 (Jv)
   ·exact q4
   ·exact q3
end
end
noncomputable section
open Go
def AKF:Code->Array Oper
 | .region _ o _=>o
 |_=>#[]
def gp(k i:Nat):String:=match (AKF (rB k)).toList[i]? with
 |some o=>o.pos
 |none=> ""
def ga(k i:Nat):=match (AKF (rB k)).toList[i]? with
 |some o=>o.after
 |none=>#[]
theorem wpl{P:Program}{ops:Array Oper}{Q:Exit->Act->World->Prop}{o:Oper}{rest:List Oper}{a:Act}{w w':World}{v:Value}(hg:o.guard=none)(h:(execOp a.eval o).run P w= .ok (.value v) w')(hn:wpList P ops Q rest (a.put o.dst v) w'):wpList P ops Q (o::rest) a w:=
 wpList_plain hg λ_ hK=>Fq h (hK _ _ hn)
theorem ARf:rB 0= .region 0 [⟨some 4,.alloc 108,0,gp 0 0,ga 0 0,none⟩].toArray false:=by kernel_rfl
theorem APf:rB 2= .region 2 [⟨some 69,.move (.tmp 1),22,gp 2 0,ga 2 0,none⟩,⟨some 70,.call ⟨.builtin .len,#[.tmp 69],#[22]⟩,3,gp 2 1,ga 2 1,none⟩,⟨some 71,.binOp .geq 3 (.tmp 70) (.const (.int .i64 128)) 3,4,gp 2 2,ga 2 2,none⟩].toArray false:=by kernel_rfl
theorem AMv:rB 34= .region 34 [⟨some 273,.move (.tmp 1),22,gp 34 0,ga 34 0,none⟩,⟨some 274,.slice 22 (.tmp 273) (some (.const (.int .i64 128))) none none,22,gp 34 1,ga 34 1,none⟩,⟨some 1,.assign (.tmp 274),22,gp 34 2,ga 34 2,none⟩].toArray false:=by kernel_rfl
theorem vg{P:Program}{ρ:Operand->Value}{d:Option Tmp}{x:Operand}{ty:TypeId}{pos:String}{af:Array Edge}{g:Option (Nat×Bool)}{w:World}:(execOp ρ ⟨d,.move x,ty,pos,af,g⟩).run P w= .ok (.value (ρ x)) w:=by simp[execOp,go_sem]
theorem AAv{P:Program}{ρ:Operand->Value}{d:Option Tmp}{x:Operand}{ty:TypeId}{pos:String}{af:Array Edge}{g:Option (Nat×Bool)}{w:World}:(execOp ρ ⟨d,.assign x,ty,pos,af,g⟩).run P w= .ok (.value (ρ x)) w:=by simp[execOp,go_sem]
theorem AOu{ρ:Operand->Value}{d:Option Tmp}{x:Operand}{pos:String}{af:Array Edge}{g:Option (Nat×Bool)}{w:World}{p:Option Addr}{m c:Nat}(h:ρ x= .slice p m c):(execOp ρ ⟨d,.call ⟨.builtin .len,#[x],#[22]⟩,3,pos,af,g⟩).run Tryz.prog w= .ok (.value (.int .i64 m)) w:=by
 simp[go_sem,h]
theorem AM4{ρ:Operand->Value}{d:Option Tmp}{x y:Operand}{pos:String}{af:Array Edge}{g:Option (Nat×Bool)}{w:World}{i j:Int}(hx:ρ x= .int .i64 i)(hy:ρ y= .int .i64 j):(execOp ρ ⟨d,.binOp .geq 3 x y 3,4,pos,af,g⟩).run Tryz.prog w= .ok (.value (.bool (decide (j<=i)))) w:=by
 simp[execOp,go_sem,hx,hy]
theorem ACP{ρ:Operand->Value}{d:Option Tmp}{x y:Operand}{pos:String}{af:Array Edge}{g:Option (Nat×Bool)}{w:World}{b o m c:Nat}(hx:ρ x= .slice (some ⟨b,o,none⟩) m c)(hy:ρ y= .int .i64 128)(h1:128<=m)(h2:m<=c):(execOp ρ ⟨d,.slice 22 x (some y) none none,22,pos,af,g⟩).run Tryz.prog w= .ok (.value (.slice (if c-128=0 then some ⟨b,o,none⟩ else some ⟨b,o+128,none⟩) (m-128) (c-128))) w:=by
 have hu:=run_underlying (w:=w) Tryz.underlying22;have hs:∀w:World,(sizeOf 5).run Tryz.prog w= .ok 1 w:=λw=>by simp[go_sem]
 have hb:∀code,(Instr.sliceBound (.int .i64 128) m code).run Tryz.prog w= .ok 128 w:=λcode=>Bn _ w (k:=.i64) (n:=128) h1 code
 simp only[execOp,hx,hy,UT,Option.map_none,Instr.sliceAt,Instr.slice,Gi,hu,Fb];have hc:(c-128=0)=(c=128):=propext (by omega);simp[Instr.sliceBounds,hb,hs,Ce,hc]
theorem Tp{a:Act}{t:Nat}:a.eval (.tmp t)=a.tmps.getD t undef:=rfl
theorem vM:g3.i.nt=315:=by kernel_rfl
theorem AJ3{a:Act}{w:World}{p:Option Addr}{m c:Nat}{Q:Exit->Act->World->Prop}(h1:a.tmps.getD 1 undef= .slice p m c)(cX:a.tmps.size=g3.i.nt)
  (hQ:∀a',a'.tmps.getD 71 undef= .bool (decide ((128:Int)<=m))->(∀t,t≠69->t≠70->t≠71->a'.tmps.getD t undef=a.tmps.getD t undef)->a'.tmps.size=g3.i.nt->a'.defers=a.defers->Q .normal a' w):(rB 2).wp Tryz.prog Q a w:=by
 rw[APf];have xd:=vM;have tp:∀ {b:Act} {t u:Nat} {v:Value},b.tmps.size=315->t<315->(b.put (some t) v).tmps.getD u undef=if t=u then v else b.tmps.getD u undef:=λhb ht=>Wj (by omega)
 rw[xd] at cX hQ;refine wp_region_lit (wpl rfl vg ?_);rw[Tp,h1];generalize hb:a.put (some 69) (.slice p m c)=b;have b1:b.tmps.size=315:=by rw[<- hb,OB];exact cX
 have b2:∀u,b.tmps.getD u undef=if 69=u then .slice p m c else a.tmps.getD u undef:=λu=>by rw[<- hb];exact tp cX (by omega)
 have b3:b.defers=a.defers:=by rw[<- hb,TZ]
 refine wpl rfl (AOu (p:=p) (m:=m) (c:=c) (by rw[Tp,b2];rfl)) ?_;generalize hd:b.put (some 70) (.int .i64 m)=d;have d1:d.tmps.size=315:=by rw[<- hd,OB];exact b1
 have d2:∀u,d.tmps.getD u undef=if 70=u then .int .i64 m else b.tmps.getD u undef:=λu=>by rw[<- hd];exact tp b1 (by omega)
 have d3:d.defers=a.defers:=by rw[<- hd,TZ,b3]
 refine wpl rfl (AM4 (i:=m) (j:=128) (by rw[Tp,d2];rfl) rfl) ?_;refine wpList_nil (hQ _ ?_ (λt n1 n2 n3=>?_) (by rw[OB];exact d1) (by rw[TZ,d3]))
 ·rw[tp d1 (by omega)];rfl
 ·rw[tp d1 (by omega),if_neg (λh=>n3 h.symm),d2,if_neg (λh=>n2 h.symm),b2,if_neg (λh=>n1 h.symm)]
theorem AOs{a:Act}{w:World}{b0 o m c:Nat}{Q:Exit->Act->World->Prop}(h1:a.tmps.getD 1 undef= .slice (some ⟨b0,o,none⟩) m c)(hm:128<=m)(hc:m<=c)(cX:a.tmps.size=g3.i.nt)
  (hQ:∀a',a'.tmps.getD 1 undef= .slice (if c-128=0 then some ⟨b0,o,none⟩ else some ⟨b0,o+128,none⟩) (m-128) (c-128)->(∀t,t≠273->t≠274->t≠1->a'.tmps.getD t undef=a.tmps.getD t undef)->a'.tmps.size=g3.i.nt->a'.defers=a.defers->Q .normal a' w):(rB 34).wp Tryz.prog Q a w:=by
 rw[AMv];have xd:=vM;have tp:∀ {b:Act} {t u:Nat} {v:Value},b.tmps.size=315->t<315->(b.put (some t) v).tmps.getD u undef=if t=u then v else b.tmps.getD u undef:=λhb ht=>Wj (by omega)
 rw[xd] at cX hQ;generalize hv:Value.slice (if c-128=0 then some ⟨b0,o,none⟩ else some ⟨b0,o+128,none⟩) (m-128) (c-128)=v at hQ;refine wp_region_lit (wpl rfl vg ?_);rw[Tp,h1];generalize hb:a.put (some 273) (.slice (some ⟨b0,o,none⟩) m c)=b;have b1:b.tmps.size=315:=by rw[<- hb,OB];exact cX
 have b2:∀u,b.tmps.getD u undef=if 273=u then .slice (some ⟨b0,o,none⟩) m c else a.tmps.getD u undef:=λu=>by rw[<- hb];exact tp cX (by omega)
 have b3:b.defers=a.defers:=by rw[<- hb,TZ]
 refine wpl rfl (ACP (b:=b0) (o:=o) (m:=m) (c:=c) (by rw[Tp,b2];rfl) rfl hm hc) ?_;rw[hv];generalize hd:b.put (some 274) v=d;have d1:d.tmps.size=315:=by rw[<- hd,OB];exact b1
 have d2:∀u,d.tmps.getD u undef=if 274=u then v else b.tmps.getD u undef:=λu=>by rw[<- hd];exact tp b1 (by omega)
 have d3:d.defers=a.defers:=by rw[<- hd,TZ,b3]
 refine wpl rfl AAv ?_;rw[Tp,d2,if_pos rfl];refine wpList_nil (hQ _ ?_ (λt n1 n2 n3=>?_) (by rw[OB];exact d1) (by rw[TZ,d3]))
 ·rw[tp d1 (by omega)];rfl
 ·rw[tp d1 (by omega),if_neg (λh=>n3 h.symm),d2,if_neg (λh=>n2 h.symm),b2,if_neg (λh=>n1 h.symm)]
end
noncomputable section
open Go
def Of:Nat->List (List Int)->List Int->List Int->List (List Int)
 |0,h,_,_=>h
 |n+1,h,ws,xs=>Of n (xS h ws (xs.take 128)).1 (xS h ws (xs.take 128)).2 (xs.drop 128)
theorem AO.take{f:Bool}{w:World}{b:Nat×Nat}{n m:Nat}{xs:List Int}(h:AO f w b (List.replicate m .u8) xs)(hn:n<=m):AO f w b (List.replicate n .u8) (xs.take n):=by
 obtain⟨⟨h1,h2⟩,h3⟩:=h;rw[Rp] at h1;have hk:∀ {i:Nat} {k:IntKind},(List.replicate n IntKind.u8)[i]? = some k->i<n/\(List.replicate m IntKind.u8)[i]? = some k:=λ{i k} hi=>by
  rw[iF] at hi ⊢;split at hi
  ·rename_i bj;exact⟨bj,by rw[if_pos (by omega)];exact hi⟩
  ·cases hi
 refine⟨⟨by rw[Qw,Rp];omega,λi k x hi hx=>?_⟩,λi k x hi hx=>?_⟩
 ·obtain⟨k1,k2⟩:=hk hi;exact h2 i k x k2 (by rwa [List.getElem?_take_of_lt k1] at hx)
 ·obtain⟨k1,k2⟩:=hk hi;exact h3 i k x k2 (by rwa [List.getElem?_take_of_lt k1] at hx)
theorem AO.drop{f:Bool}{w:World}{b o n m:Nat}{xs:List Int}(h:AO f w (b,o) (List.replicate m .u8) xs)(hn:n<=m):AO f w (b,o+n) (List.replicate (m-n) .u8) (xs.drop n):=by
 obtain⟨⟨h1,h2⟩,h3⟩:=h;rw[Rp] at h1;have hk:∀ {i:Nat} {k:IntKind},(List.replicate (m-n) IntKind.u8)[i]? = some k->(List.replicate m IntKind.u8)[n+i]? = some k:=λ{i k} hi=>by
  rw[iF] at hi ⊢;split at hi
  ·rw[if_pos (by omega)];exact hi
  ·cases hi
 refine⟨⟨by rw[VK,Rp];omega,λi k x hi hx=>?_⟩,λi k x hi hx=>?_⟩
 ·exact h2 (n+i) k x (hk hi) (by rwa [List.getElem?_drop] at hx)
 ·have:=h3 (n+i) k x (hk hi) (by rwa [List.getElem?_drop] at hx);rwa [<- WZ] at this
theorem AO.an{f:Bool}{w w':World}{S:Nat->Nat->Prop}{b:Nat×Nat}{ks:List IntKind}{xs:List Int}(h:AO f w b ks xs)(hf:BD w w' S)(hn:∀i,i<ks.length->¬S b.1 (b.2+i)):AO f w' b ks xs:=
 ⟨h.1,λi k x hk hx=>hf.fk (h.2 i k x hk hx) (hn i (Oa.1 hk).1)⟩
theorem ANd(h:List (List Int))(ws blk:List Int):(xS h ws blk).1.length=8:=by simp[xS]
def oB:Code:=.seq (.seq (rB 2) (.cond (.tmp 71) .skip (.exit 0))) (.block 1 xB)
section
variable{GB:Nat}{GC:Nat->Nat->Option Value}{ad:Nat->Nat×Nat}
theorem AKL(hG:GI GB GC ad){B pb:Nat}{Q:Exit->Act->World->Prop}(hB:GB<=B)(cj:B≠pb):∀(n:Nat) {a:Act} {w:World} {h:List (List Int)} {ws xs:List Int} {p:Option Addr} {po c:Nat},GW GC w->GB<=w.heap.size->h.length=8->(∀j,j<8->IV (a.tmps.getD (5+j) undef) (h.getD j []))->
  a.tmps.getD 4 undef= .pointer (some ⟨B,0,none⟩)->a.tmps.getD 1 undef= .slice p (n*128) c->(0<n->p=some ⟨pb,po,none⟩)->n*128<=c->AO true w (B,0) (List.replicate 80 .u64) ws->AO false w (pb,po) (List.replicate (n*128) .u8) xs->
  a.tmps.size=g3.i.nt->a.defers= []->
  (∀a' w',(∀j,j<8->IV (a'.tmps.getD (5+j) undef) ((Of n h ws xs).getD j []))->(Of n h ws xs).length=8->a'.tmps.getD 0 undef=a.tmps.getD 0 undef->BD w w' (λb _=>b=B)->a'.tmps.size=g3.i.nt->a'.defers= []->GW GC w'->Q .normal a' w')->
  Code.rounds Tryz.prog oB (Exit.inBlock 0 Q) (n+1) a w
 |0,a,w,h,ws,xs,p,po,c,ε,δ,hl,hv,h4,h1,hp,hc,hW,hb,cX,oX,hQ=>by
  rw[rounds_succ];refine wp_seq (wp_seq (AJ3 h1 cX λa1 e1 e2 e3 e4=>?_));refine wp_cond (t:=false) (by rw[Tp,e1];rfl) (wp_exit ?_);show Q .normal a1 w;exact hQ a1 w (λj hj=>by rw[e2 _ (by omega) (by omega) (by omega)];exact hv j hj) hl (e2 0 (by omega) (by omega) (by omega)) (BD.refl _ _) e3 (e4.trans oX) ε
 |n+1,a,w,h,ws,xs,p,po,c,ε,δ,hl,hv,h4,h1,hp,hc,hW,hb,cX,oX,hQ=>by
  rw[rounds_succ];have eA:=hp (by omega);subst eA;refine wp_seq (wp_seq (AJ3 h1 cX λa1 e1 e2 e3 e4=>?_));refine wp_cond (t:=true) (by rw[Tp,e1];congr 1;simp;omega) (wp_skip ?_);show(Code.block 1 xB).wp _ _ _ _;refine wp_block (ARJ hG (B:=B) (pb:=pb) (po:=po) (m:=(n+1)*128) (c:=c) (blk:=xs.take 128) ε δ hl (λj hj=>by rw[e2 _ (by omega) (by omega) (by omega)];exact hv j hj) ((e2 4 (by omega) (by omega) (by omega)).trans h4) ((e2 1 (by omega) (by omega) (by omega)).trans h1) (by omega) hW hB (hb.take (by omega)) cj e3 (e4.trans oX) ?_);intro a2 w2 k1 k2 k3 k4 k5 k6 k7;refine AOs ((k3 1 (.inr (.inl rfl))).trans ((e2 1 (by omega) (by omega) (by omega)).trans h1)) (by omega) hc k5 λa3 q1 q2 q3 q4=>?_
  show Code.rounds Tryz.prog oB (Exit.inBlock 0 Q) (n+1) a3 w2;have hm:(n+1)*128-128=n*128:=by omega
  have cV:=(hb.an k4 λi _ (hh:pb=B)=>cj hh.symm).drop (show 128<=(n+1)*128 by omega);rw[hm] at q1 cV;refine AKL hG hB cj n (po:=po+128) k7 (EX δ k4.1) (ANd _ _ _) (λj hj=>by rw[q2 _ (by omega) (by omega) (by omega)];exact k1 j hj) ?_ q1 (λh0=>if_neg (by omega)) (by omega) k2 cV q3 (q4.trans k6) λa' w' y1 y1' y2 y3 y4 y5 y6=>hQ a' w' y1 y1' ?_ (k4.trans y3) y4 y5 y6
  ·rw[q2 4 (by omega) (by omega) (by omega),k3 4 (.inr (.inr rfl)),e2 4 (by omega) (by omega) (by omega)];exact h4
  ·rw[y2,q2 0 (by omega) (by omega) (by omega),k3 0 (.inl rfl),e2 0 (by omega) (by omega) (by omega)]
end
end
section
open Go
theorem z80:Tryz.zeroCells108=Array.replicate 80 (.int .u64 0):=by kernel_rfl
theorem AGy{ρ:Operand->Value}{ty:TypeId}{pos:String}{af:Array Edge}{w:World}:(execOp ρ ⟨some 4,.alloc 108,ty,pos,af,none⟩).run Tryz.prog w= .ok (.value (.pointer (some ⟨w.heap.size,0,none⟩))) (w.alloc (.cells (Array.replicate 80 (.int .u64 0)) 108)):=by
 simp[execOp,go_sem,z80]
theorem Dj(w:World)(n:Nat)(k:IntKind)(e:TypeId)(h0:IJ k 0):AO true (w.alloc (.cells (Array.replicate n (.int k 0)) e)) (w.heap.size,0) (List.replicate n k) (List.replicate n 0):=by
 have hk:∀(i:Nat) (k':IntKind) (x:Int),(List.replicate n k)[i]? = some k'->(List.replicate n (0:Int))[i]? = some x->i<n/\k'=k/\x=0:=λi k' x h1 h2=>by
  rw[iF] at h1 h2;split at h1
  ·rename_i hi;rw[if_pos hi] at h2;exact⟨hi,by simpa using h1.symm,by simpa using h2.symm⟩
  ·cases h1
 refine⟨⟨by simp,λi k' x h1 h2=>?_⟩,λi k' x h1 h2=>?_⟩
 ·obtain⟨_,rfl,rfl⟩:=hk i k' x h1 h2;exact h0
 ·obtain⟨hi,rfl,rfl⟩:=hk i k' x h1 h2;refine CP.fh (c:=Array.replicate n (.int k' 0)) (e:=e) (lo:=0) (hi:=0) ?_ ?_ (λ_=>by omega)
  ·show(w.heap.push _)[w.heap.size]? = _;exact Array.getElem?_push_size
  ·rw[KN,Array.getElem?_replicate,if_pos hi]
theorem BC(w:World)(o:Obj)(S:Nat->Nat->Prop):BD w (w.alloc o) S:=(BD.refl w S).push (o:=o) rfl rfl rfl rfl
def wl(h:List Int):List (List Int):=h.map λx=>[x]
def lX(l:List (List Int)):List Int:=l.map λx=>x.getD 0 0
theorem AIq(h:List Int):lX (wl h)=h:=by
 unfold lX wl;rw[List.map_map];exact(fT λ_ _=>rfl).trans (List.map_id _)
theorem AIW:(Dz 4 g1.i.cH&&Dz 1 g1.i.cH)=true:=by kernel_rfl
theorem AMV{a b c d e f g i:Int}:g1.step bu [[a,b,c,d,e,f,g,i]]=some ([[a,b,c,d,e,f,g,i]],[[a],[b],[c],[d],[e],[f],[g],[i]]):=by kernel_rfl
theorem ASV{h:List Int}(hl:h.length=8):g1.step bu [h]=some ([h],wl h):=by
 match h,hl with
 | [a,b,c,d,e,f,g,i],_=>exact AMV
theorem AMd{a b c d e f g i:Int}{dc:List Int}:(SU.step bu [dc,[a],[b],[c],[d],[e],[f],[g],[i]]).map (λr=>r.1.getD 0 [])=some [a,b,c,d,e,f,g,i]:=by kernel_rfl
theorem AL6{l:List (List Int)}{a:Act}(hl:l.length=8)(h:∀j,j<8->IV (a.tmps.getD (5+j) undef) (l.getD j [])):l=wl (lX l)/\(lX l).length=8/\∀x∈lX l,IJ .u64 x:=by
 have hx:∀j,j<8->∃x,l.getD j []= [x]/\IJ .u64 x:=λj hj=>by
  obtain⟨x,h1,_,h3⟩:=h j hj;exact⟨x,h1,h3⟩
 refine⟨?_,by simp[lX,hl],?_⟩
 ·unfold wl lX;rw[List.map_map];refine List.ext_getElem (by simp) λj h1 h2=>?_
  obtain⟨x,e,_⟩:=hx j (by omega);simp only[List.getElem_map,Function.comp];have:l[j]= [x]:=by rw[<- e];simp[List.getD,h1]
  rw[this];rfl
 ·intro x eg;obtain⟨y,hy,rfl⟩:=Us.1 eg;obtain⟨j,hj,rfl⟩:=kY hy;obtain⟨x,e,h3⟩:=hx j (by omega);have:l[j]= [x]:=by rw[<- e];simp[List.getD,hj]
  rw[this];exact h3
noncomputable def blk(n:Nat)(h xs:List Int):List Int:=lX (Of n (wl h) (List.replicate 80 0) xs)
structure APJ (GC:Nat->Nat->Option Value) (B o n:Nat) (h xs:List Int) (w:World) (e:Ending) (w':World):Prop where
 ret:e= .returned (.tuple #[])
 mem:AO true w' (B,o) (List.replicate 8 .u64) (blk n h xs)
 an:BD w w' (λb i=>b=B/\o<=i/\i<o+8)
 gw:GW GC w'
theorem AOa:Tryz.f116.body=some bB:=by kernel_rfl
theorem APp:Tryz.f116.ntmps=315:=by kernel_rfl
section
variable{GB:Nat}{GC:Nat->Nat->Option Value}{ad:Nat->Nat×Nat}
theorem AHg(hG:GI GB GC ad){w:World}{B o n pb po c:Nat}{h xs:List Int}(ε:GW GC w)(δ:GB<=w.heap.size)(hB:GB<=B)(hh:AO true w (B,o) (List.replicate 8 .u64) h)(hp:AO false w (pb,po) (List.replicate (n*128) .u8) xs)(hn:0<n)(hc:n*128<=c):
  Calls Tryz.prog 116 #[.pointer (some ⟨B,o,none⟩),.slice (some ⟨pb,po,none⟩) (n*128) c] w (APJ GC B o n h xs w):=by
 have hl:h.length=8:=by have:=hh.1.1;simpa using this
 have hpb:pb<w.heap.size:=by
  have DM:xs.length=n*128:=by have:=hp.1.1;simpa using this
  have hk:(List.replicate (n*128) IntKind.u8)[0]? = some .u8:=by simp[iF];omega
  exact(hp.2 0 .u8 _ hk (Io (by omega))).lt
 refine enter (args:=[.pointer (some ⟨B,o,none⟩),.slice (some ⟨pb,po,none⟩) (n*128) c]) Tryz.func116 AOa (n:=315) (by rw[APp];rfl) λa F=>?_
 rw[AQw];have xd:=vM;refine wp_seq ?_;rw[ARf];refine cp (AZ F rfl AGy λa1 F1=>CY ?_);show(Code.seq (rB 1) _).wp _ _ _ _;generalize AD:w.alloc (.cells (Array.replicate 80 (.int .u64 0)) 108)=w1;have hW:AO true w1 (w.heap.size,0) (List.replicate 80 .u64) (List.replicate 80 0):=by rw[<- AD];exact Dj w 80 .u64 _ ⟨by decide,by decide⟩
 have AE:BD w w1 (λ_ _=>False):=by rw[<- AD];exact BC _ _ _
 have qT:GW GC w1:=λb o v hv=>(AE.fk (f:=false) ⟨ε b o v hv,λh=>(by cases h)⟩ (λh=>h)).1
 have hh1:=hh.an AE λ_ _ h=>h
 have zE:=hp.an AE λ_ _ h=>h
 have rN:GB<=w1.heap.size:=EX δ AE.1;have k1:=AOm;simp only[Bj] at k1;have hP:Jg GB w1 g1.i.s0.params (g1.i.ps.map λt=>a1.tmps.getD t undef) [h] [(B,o)]:=⟨⟨(F1.tm 0).trans rfl,⟨hh1.1,λi k x hk hx=>(hh1.2 i k x hk hx).xT⟩,λh=>(by cases h)⟩,trivial⟩;have hr:=Q5 (g:=g1) (jd hG) k1.1 (ER hG (.inl rfl)).1 (ER hG (.inl rfl)).2 (AI2 (GB:=GB) (GC:=GC) _) qT rN hP ⟨λ_ h=>(by cases h),trivial⟩ (F1.sz.trans xd.symm) F1.df (PK k1.2);refine wp_seq (wp_mono hr ?_);rintro e a2 w2 ⟨r,r2,N0,hs,rfl,hm,-,hf,q1,q2,q3,q4,q5⟩;rw[ASV hl] at hs;simp only[Ai,Prod.mk.injEq] at hs;obtain⟨rfl,rfl⟩:=hs;have gO:Jg GB w2 (List.replicate 8 (.int .u64)) (hS.map λt=>a2.tmps.getD t undef) (wl h) N0:=hm;have zd:BD w1 w2 (λ_ _=>False):=hf.mono λb o _ hS=>by
  obtain⟨p,hp,_⟩:=hS;cases hp
 have k2:=AIW;simp only[Bj] at k2;show(Code.seq (.block 0 (.loop oB)) _).wp _ _ _ _;have e0:a2.tmps.getD 0 undef= .pointer (some ⟨B,o,none⟩):=by
  rw[q4 0 0 _ rfl (by simp[Et.cp]) rfl];exact(F1.tm 0).trans rfl
 refine wp_seq (wp_block (wp_loop_rounds (n+1) (AKL hG (B:=w.heap.size) (pb:=pb) (po:=po) (p:=some ⟨pb,po,none⟩) (c:=c) (h:=wl h) (ws:=List.replicate 80 0) (xs:=xs) δ (by omega) n q5 (EX rN zd.1) (by simp[wl,hl]) (λj hj=>by
  have:=Vx gO j hj;rwa [iJ a2 hj] at this) ?_ ?_ (λ_=>rfl) hc (hW.an zd λ_ _ h=>h) (zE.an zd λ_ _ h=>h) q1 q2 ?_)))
 ·rw[q3 4 (Gm.1 k2.1)];exact(F1.tm 4).trans rfl
 ·rw[q3 1 (Gm.1 k2.2)];exact(F1.tm 1).trans rfl
 intro a3 w3 y1 y2 y3 y4 y5 y6 y7;show(rB 35).wp _ _ _ _;obtain⟨z1,z2,z3⟩:=AL6 y2 y1;have hB3:AO true w3 (B,o) (List.replicate 8 .u64) h:=(hh1.an zd λ_ _ h=>h).an y4 λi _ (hh':B=w.heap.size)=>by
  have bj:B<w.heap.size:=by
   have hk:(List.replicate 8 IntKind.u64)[0]? = some .u64:=rfl;exact(hh.2 0 .u64 _ hk (Io (by omega))).lt
  omega
 have k35:=AHo;simp only[Bj] at k35;have hP3:Jg GB w3 SU.i.s0.params (SU.i.ps.map λt=>a3.tmps.getD t undef) (h::Of n (wl h) (List.replicate 80 0) xs) ((B,o)::List.replicate 8 (0,0)):=⟨⟨y3.trans e0,hB3,λ_=>hB⟩,Yd (n:=8) (vs:=hS.map λt=>a3.tmps.getD t undef) rfl y2 (by simp) λj hj=>by rw[iJ a3 hj];exact y1 j hj⟩;have hS3:Ep SU.i.s0.params ((B,o)::List.replicate 8 (0,0)):=by
  refine⟨λx hx=>?_,?_⟩
  ·have nF:=List.of_mem_zip hx;have:x.1=Et.int .u64:=(A6.1 nF.1).2;unfold U9;rw[this];simp[Et.cp]
  ·have:=UB dR (n:=8) (bs:=List.replicate 8 (0,0)) (by simp);rw[RD,RD] at this;exact this
 have hr3:=Q5 (g:=SU) (jd hG) k35.1 (ER hG (.inl rfl)).1 (ER hG (.inl rfl)).2 (AI2 (GB:=GB) (GC:=GC) _) y7 (EX (EX rN zd.1) y4.1) hP3 hS3 y5 y6 (PK k35.2);refine wp_mono hr3 ?_;rintro e a4 w4 ⟨r,r2,bs4,hs,rfl,-,W6,hf4,u1,u2,u3,-,u5⟩;have ud:r.getD 0 []=blk n h xs:=by
  have hb:Of n (wl h) (List.replicate 80 0) xs=wl (blk n h xs):=z1;have Th:(blk n h xs).length=8:=z2;rw[hb] at hs;generalize blk n h xs=l at hs Th
  match l,Th with
  | [a,b,c,d,e,f,g,i],_=>
   have:=@AMd a b c d e f g i h;rw[show[h,[a],[b],[c],[d],[e],[f],[g],[i]]=h::wl [a,b,c,d,e,f,g,i] from rfl,hs] at this;simpa using this
 refine⟨u2,.tuple #[],by simp[results,go_sem],rfl,?_,?_,u5⟩
 ·have hm5:Jg GB w4 SU.i.s0.params _ r _:=W6
  match r,hm5 with
  |x::r,hm5=>
   have:x=blk n h xs:=ud;subst this;exact hm5.1.2.1
 ·have h3:BD w w3 (λ_ _=>False):=((AE.trans zd).trans' y4 λb i hb (hh':b=w.heap.size)=>by omega);refine(h3.mono λ_ _ _ h=>h.elim).trans' hf4 λb i _ hS=>?_
  obtain⟨p,hp,h1,h2,h4⟩:=hS;have eA:p ∈ [((0:Nat),List.replicate 8 IntKind.u64,(Go.Proofs.YtkbfdaoohhmgoaaGreatDoor.z1:PF))]:=hp;rw[NU] at eA;subst eA;exact⟨h1,h2,h4⟩
end
end
section
open Go
def AW(T:Tb):Be->List Bool->Bu->Option ((Bu×Ex×St)×List (Int×Bool))
 | .leaf e st,_,ρ=>some ((ρ,e,st),[])
 | .ep ds _ t,bs,ρ=>AW T t bs (Df T ρ ds)
 | .br x t f,bs,ρ=>match bs with
  |b::r=>(match (bif b then AW T t r ρ else AW T f r ρ) with
   |some (z,cs)=>some (z,(x.den ρ,b)::cs)
   |none=>none)
  | []=>none
 | .cN _ k,bs,ρ=>AW T k bs ρ
 | .gr _ _ _ _,_,_=>none
 | .bad _,_,_=>none
def ADK(cs:List (Int×Bool)):Prop:=∀c∈cs,(c.1=0↔c.2=false)
theorem Y6{T:Tb}:∀ {t:Be} {bs:List Bool} {ρ:Bu} {z:Bu×Ex×St} {cs:List (Int×Bool)},AW T t bs ρ=some (z,cs)->ADK cs->WS T t ρ=some z
 | .leaf e st,bs,ρ,z,cs,h,_=>by
  unfold AW at h;simp only[Ai,Prod.mk.injEq] at h;rw[<- h.1];rfl
 | .ep ds ob t,bs,ρ,z,cs,h,hc=>by
  unfold AW at h;exact Y6 (t:=t) h hc
 | .br x t f,[],ρ,z,cs,h,_=>by
  unfold AW at h;cases h
 | .br x t f,b::bs,ρ,z,cs,h,hc=>by
  unfold AW at h;simp only at h;split at h
  ·rename_i z' uc h';simp only[Ai,Prod.mk.injEq] at h;obtain⟨rfl,rfl⟩:=h;have h0:=hc (x.den ρ,b) Jv;have hr:ADK uc:=λc hm=>hc c (MN _ hm)
   unfold WS;cases b with
   |true=>
    rw[if_neg (λe=>by have:=h0.1 e;cases this)];exact Y6 (t:=t) h' hr
   |false=>
    rw[if_pos (h0.2 rfl)];exact Y6 (t:=f) h' hr
  ·cases h
 | .gr f ar t e,bs,ρ,z,cs,h,_=>by
  unfold AW at h;cases h
 | .cN c k,bs,ρ,z,cs,h,hc=>by
  unfold AW at h;exact Y6 (t:=k) h hc
 | .bad s,bs,ρ,z,cs,h,_=>by
  unfold AW at h;cases h
def Ih.vy(i:Ih)(C:Cx)(bs:List Bool)(ins:List (List Int)):Option ((Bool×List (List Int))×List (Int×Bool)):=
 match AW C.T (i.tree C) bs (BK ins) with
 |some ((ρ,e,st),cs)=>(match i.leaf e st with
  |some (b,al)=>some ((b,al.map (·.den ρ)),cs)
  |none=>none)
 |none=>none
theorem Ih.pT{i:Ih}{C:Cx}{bs:List Bool}{ins:List (List Int)}{z:Bool×List (List Int)}{cs:List (Int×Bool)}(h:i.vy C bs ins=some (z,cs))(hc:ADK cs):i.step C ins=some z:=by
 unfold Ih.vy at h;split at h
 ·rename_i ρ e st uc hv;split at h
  ·rename_i b al hl;simp only[Ai,Prod.mk.injEq] at h;obtain⟨rfl,rfl⟩:=h;unfold Ih.step;rw[Y6 hv hc];simp only[hl]
  ·cases h
 ·cases h
abbrev DR (op:BinOp) (x y:Int):Int:=Ak op .u64 x y
def rl(x k:Int):Int:=DR .or (DR .shl x k) (DR .shr x (64-k))
def S1(e:Int):Int:=DR .xor (DR .xor (rl e 50) (rl e 46)) (rl e 23)
def S0(a:Int):Int:=DR .xor (DR .xor (rl a 36) (rl a 30)) (rl a 25)
def s1w(v:Int):Int:=DR .xor (DR .xor (rl v 45) (rl v 3)) (DR .shr v 6)
def s0w(v:Int):Int:=DR .xor (DR .xor (rl v 63) (rl v 56)) (DR .shr v 7)
def Ch(e f g:Int):Int:=DR .xor (DR .and e f) (DR .and (DR .xor 18446744073709551615 e) g)
def Mj(a b c:Int):Int:=DR .xor (DR .xor (DR .and a b) (DR .and a c)) (DR .and b c)
def b8(bl:List Int)(j:Int):Int:=IntKind.u64.wrap (bl.getD j.toNat 0)
def ai(i j:Int):Int:=Ak .add .i64 i j
def si(i j:Int):Int:=Ak .sub .i64 i j
def wd(bl:List Int)(j:Int):Int:=
 DR .or (DR .or (DR .or (DR .or (DR .or (DR .or (DR .or (DR .shl (b8 bl j) 56) (DR .shl (b8 bl (ai j 1)) 48)) (DR .shl (b8 bl (ai j 2)) 40)) (DR .shl (b8 bl (ai j 3)) 32)) (DR .shl (b8 bl (ai j 4)) 24)) (DR .shl (b8 bl (ai j 5)) 16)) (DR .shl (b8 bl (ai j 6)) 8)) (b8 bl (ai j 7))
def XV(ws:List Int)(j:Int):Int:=ws.getD j.toNat 0
def nw(ws:List Int)(i:Int):Int:=DR .add (DR .add (DR .add (s1w (XV ws (si i 2))) (XV ws (si i 7))) (s0w (XV ws (si i 15)))) (XV ws (si i 16))
def T1(k e f g h w:Int):Int:=DR .add (DR .add (DR .add (DR .add h (S1 e)) (Ch e f g)) k) w
def T2(a b c:Int):Int:=DR .add (S0 a) (Mj a b c)
def lvI:LV->Int
 | .int _ (.lit n)=>n
 |_=>0
def ah:List Int:=match Uc.find? (λp=>Nat.beq p.2.length 80) with
 |some p=>p.2.map lvI
 |none=>[]
def AJQ(bl ws:List Int)(i w a b c d e f g h:Int):List (List Int):=
 let ws':=ws.set i.toNat w
 let t:=T1 (XV ah i) e f g h (XV ws' i)
 [[DR .add t (T2 a b c)],[a],[b],[c],[DR .add d t],[e],[f],[g],[ai i 1],ws',bl]
theorem AGD{a b c d e f g h i:Int}{ws bl:List Int}:Rt.vy Aa [true,true] [[a],[b],[c],[d],[e],[f],[g],[h],[i],ws,bl]=some ((true,AJQ bl ws i (wd bl (Ak .mul .i64 i 8)) a b c d e f g h),[(Ak .lss .i64 i 80,true),(Ak .lss .i64 i 16,true)]):=by kernel_rfl
theorem AGQ{a b c d e f g h i:Int}{ws bl:List Int}:Rt.vy Aa [true,false] [[a],[b],[c],[d],[e],[f],[g],[h],[i],ws,bl]=some ((true,AJQ bl ws i (nw ws i) a b c d e f g h),[(Ak .lss .i64 i 80,true),(Ak .lss .i64 i 16,false)]):=by kernel_rfl
theorem AFp{a b c d e f g h i:Int}{ws bl:List Int}:Rt.vy Aa [false] [[a],[b],[c],[d],[e],[f],[g],[h],[i],ws,bl]=some ((false,[[a],[b],[c],[d],[e],[f],[g],[h],[i],ws,bl]),[(Ak .lss .i64 i 80,false)]):=by kernel_rfl
end
section
open Go
structure V8 where
 a:Int
 b:Int
 c:Int
 d:Int
 e:Int
 f:Int
 g:Int
 h:Int
def V8.l(v:V8):List Int:=[v.a,v.b,v.c,v.d,v.e,v.f,v.g,v.h]
def V8.ls(v:V8):List (List Int):=[[v.a],[v.b],[v.c],[v.d],[v.e],[v.f],[v.g],[v.h]]
def V8.of(l:List Int):V8:=⟨l.getD 0 0,l.getD 1 0,l.getD 2 0,l.getD 3 0,l.getD 4 0,l.getD 5 0,l.getD 6 0,l.getD 7 0⟩
theorem V8.aac{l:List Int}(h:l.length=8):(V8.of l).l=l:=by
 match l,h with
 | [a,b,c,d,e,f,g,i],_=>rfl
def ABE(v:V8)(k w:Int):V8:=
 let t:=T1 k v.e v.f v.g v.h w
 ⟨DR .add t (T2 v.a v.b v.c),v.a,v.b,v.c,DR .add v.d t,v.e,v.f,v.g⟩
def bN(bl:List Int)(j:Nat):Int:=IntKind.u64.wrap (bl.getD j 0)
def Up(bl:List Int)(j:Nat):Int:=
 DR .or (DR .or (DR .or (DR .or (DR .or (DR .or (DR .or (DR .shl (bN bl j) 56) (DR .shl (bN bl (j+1)) 48)) (DR .shl (bN bl (j+2)) 40)) (DR .shl (bN bl (j+3)) 32)) (DR .shl (bN bl (j+4)) 24)) (DR .shl (bN bl (j+5)) 16)) (DR .shl (bN bl (j+6)) 8)) (bN bl (j+7))
def nwN(ws:List Int)(i:Nat):Int:=DR .add (DR .add (DR .add (s1w (ws.getD (i-2) 0)) (ws.getD (i-7) 0)) (s0w (ws.getD (i-15) 0))) (ws.getD (i-16) 0)
def oP(bl ws:List Int)(n:Nat):Int:=if n<16 then Up bl (n*8) else nwN ws n
def OD(bl:List Int):Nat->List Int
 |0=>[]
 |n+1=>OD bl n ++ [oP bl (OD bl n) n]
theorem Jj(bl:List Int):∀n,(OD bl n).length=n
 |0=>rfl
 |n+1=>by simp[OD,Jj bl n]
def rV(bl:List Int)(v:V8):Nat->V8
 |0=>v
 |n+1=>ABE (rV bl v n) (ah.getD n 0) (oP bl (OD bl n) n)
def ru(h bl:List Int):List Int:=List.zipWith (DR .add) h (rV bl (V8.of h) 80).l
def Oz:Nat->List Int->List Int->List Int
 |0,h,_=>h
 |n+1,h,xs=>Oz n (ru h (xs.take 128)) (xs.drop 128)
theorem YB{x:Int}(h: -9223372036854775808<=x)(h2:x<=9223372036854775807):IntKind.i64.wrap x=x:=H7 (k:=.i64) ⟨h,h2⟩
theorem uS{j k:Nat}(h:j+k<1000000):ai (j:Int) (k:Int)=((j+k:Nat):Int):=by
 show IntKind.i64.wrap ((j:Int)+k)=_;rw[YB (by omega) (by omega)];omega
theorem AFk{j k:Nat}(h:j<1000000)(hk:k<=j):si (j:Int) (k:Int)=((j-k:Nat):Int):=by
 show IntKind.i64.wrap ((j:Int)-k)=_;rw[YB (by omega) (by omega)];omega
theorem AMz{j k:Nat}(h:j*k<1000000):Ak .mul .i64 (j:Int) (k:Int)=((j*k:Nat):Int):=by
 show IntKind.i64.wrap ((j:Int)*k)=_;have e:(j:Int)*k=((j*k:Nat):Int):=by push_cast;rfl
 rw[e,YB (by omega) (by omega)]
theorem AFB(bl:List Int)(j:Nat):b8 bl (j:Int)=bN bl j:=by simp[b8,bN]
theorem AM2(bl:List Int){j:Nat}(h:j<1000):wd bl (j:Int)=Up bl j:=by
 unfold wd Up;have e:∀k:Nat,k<8->b8 bl (ai (j:Int) (k:Int))=bN bl (j+k):=λk hk=>by
  rw[uS (by omega),AFB]
 have e1:b8 bl (ai (j:Int) 1)=bN bl (j+1):=e 1 (by omega);have e2:b8 bl (ai (j:Int) 2)=bN bl (j+2):=e 2 (by omega);have e3:b8 bl (ai (j:Int) 3)=bN bl (j+3):=e 3 (by omega);have e4:b8 bl (ai (j:Int) 4)=bN bl (j+4):=e 4 (by omega);have e5:b8 bl (ai (j:Int) 5)=bN bl (j+5):=e 5 (by omega);have e6:b8 bl (ai (j:Int) 6)=bN bl (j+6):=e 6 (by omega);have e7:b8 bl (ai (j:Int) 7)=bN bl (j+7):=e 7 (by omega);rw[AFB,e1,e2,e3,e4,e5,e6,e7]
theorem Yn(ws:List Int)(j:Nat):XV ws (j:Int)=ws.getD j 0:=by simp[XV]
theorem AFC{ws ys:List Int}{n:Nat}(h:16<=n)(h2:n<80)(hl:ws.length=n):nw (ws++ys) (n:Int)=nwN ws n:=by
 unfold nw nwN;have e:∀k:Nat,0<k->k<=16->XV (ws++ys) (si (n:Int) (k:Int))=ws.getD (n-k) 0:=λk h0 hk=>by
  rw[AFk (by omega) (by omega),Yn];simp only[List.getD];rw[gZ (by omega)]
 have e2:XV (ws++ys) (si (n:Int) 2)=ws.getD (n-2) 0:=e 2 (by omega) (by omega);have e7:XV (ws++ys) (si (n:Int) 7)=ws.getD (n-7) 0:=e 7 (by omega) (by omega);have e15:XV (ws++ys) (si (n:Int) 15)=ws.getD (n-15) 0:=e 15 (by omega) (by omega);have Zs:XV (ws++ys) (si (n:Int) 16)=ws.getD (n-16) 0:=e 16 (by omega) (by omega);rw[e2,e7,e15,Zs]
theorem oC{ws ys:List Int}{n:Nat}{x:Int}(hl:ws.length=n)(hy:0<ys.length):(ws++ys).set n x=(ws ++ [x])++ys.drop 1:=by
 subst hl;rw[List.set_append_right _ _ (Ie _),HF,Yt]
 match ys,hy with
 |y::ys,_=>rfl
theorem AJq{i j:Nat}(h:i<j):Ak .lss .i64 (i:Int) (j:Int)=1:=by
 show KQ (decide ((i:Int)<j))=1;rw[decide_eq_true (by omega)];rfl
theorem AQM{i j:Nat}(h:j<=i):Ak .lss .i64 (i:Int) (j:Int)=0:=by
 show KQ (decide ((i:Int)<j))=0;rw[decide_eq_false (by omega)];rfl
theorem xG{bl ws ys:List Int}{n:Nat}{x:Int}{v:V8}(hn:n<80)(hl:ws.length=n)(hy:0<ys.length):AJQ bl (ws++ys) (n:Int) x v.a v.b v.c v.d v.e v.f v.g v.h=(ABE v (ah.getD n 0) x).ls ++ [[((n+1:Nat):Int)],(ws ++ [x])++ys.drop 1,bl]:=by
 have e1:ai (n:Int) 1=((n+1:Nat):Int):=uS (j:=n) (k:=1) (by omega);unfold AJQ;simp only[e1,Yn,Rh,oC hl hy];have e2:(ws ++ [x]++ys.drop 1).getD n 0=x:=by
  simp only[List.getD,Yt];rw[fQ (by omega),hl,HF];rfl
 rw[e2];rfl
theorem ALQ{bl ys:List Int}{n:Nat}{v:V8}(hn:n<80)(hy:0<ys.length):Rt.step Aa (v.ls ++ [[(n:Int)],OD bl n++ys,bl])=some (true,(ABE v (ah.getD n 0) (oP bl (OD bl n) n)).ls ++ [[((n+1:Nat):Int)],OD bl (n+1)++ys.drop 1,bl]):=by
 have h80:Ak .lss .i64 (n:Int) 80=1:=AJq (j:=80) hn;by_cases h:n<16
 ·have wq:Ak .lss .i64 (n:Int) 16=1:=AJq (j:=16) h;have:=Ih.pT (@AGD v.a v.b v.c v.d v.e v.f v.g v.h (n:Int) (OD bl n++ys) bl) (λc hc=>by
   simp only[G9,List.not_mem_nil,or_false] at hc;rcases hc with rfl|rfl
   ·simp[h80]
   ·simp[wq])
  have e8:Ak .mul .i64 (n:Int) 8=((n*8:Nat):Int):=AMz (j:=n) (k:=8) (by omega);rw[e8,AM2 bl (by omega),xG hn (Jj bl n) hy] at this;rw[show oP bl (OD bl n) n=Up bl (n*8) by unfold oP;rw[if_pos h]];rw[show OD bl (n+1)=OD bl n ++ [Up bl (n*8)] by show OD bl n ++ [oP bl (OD bl n) n]=_;unfold oP;rw[if_pos h]];exact this
 ·have wq:Ak .lss .i64 (n:Int) 16=0:=AQM (j:=16) (by omega);have:=Ih.pT (@AGQ v.a v.b v.c v.d v.e v.f v.g v.h (n:Int) (OD bl n++ys) bl) (λc hc=>by
   simp only[G9,List.not_mem_nil,or_false] at hc;rcases hc with rfl|rfl
   ·simp[h80]
   ·simp[wq])
  rw[AFC (by omega) hn (Jj bl n),xG hn (Jj bl n) hy] at this;rw[show oP bl (OD bl n) n=nwN (OD bl n) n by unfold oP;rw[if_neg h]];rw[show OD bl (n+1)=OD bl n ++ [nwN (OD bl n) n] by show OD bl n ++ [oP bl (OD bl n) n]=_;unfold oP;rw[if_neg h]];exact this
theorem AGh{bl ws:List Int}{v:V8}:Rt.step Aa (v.ls ++ [[80],ws,bl])=some (false,v.ls ++ [[80],ws,bl]):=
 Ih.pT (@AFp v.a v.b v.c v.d v.e v.f v.g v.h 80 ws bl) (λc hc=>by
  simp only[NU] at hc;subst hc;exact⟨λ_=>rfl,λ_=>by decide⟩)
theorem AKo{bl:List Int}{v0:V8}:∀(m n:Nat) {ys:List Int},n+m=80->ys.length=m->Ht (Rt.step Aa) (m+1) ((rV bl v0 n).ls ++ [[(n:Int)],OD bl n++ys,bl])=(rV bl v0 80).ls ++ [[80],OD bl 80,bl]
 |0,n,ys,hn,hy=>by
  have:n=80:=by omega
  subst this;have:ys= []:=HW hy;subst this;rw[RD];unfold Ht;rw[show((80:Nat):Int)=80 from rfl,AGh]
 |m+1,n,ys,hn,hy=>by
  unfold Ht;rw[ALQ (by omega) (by omega)];exact AKo m (n+1) (by omega) (by simp[hy])
theorem yM{bl ws:List Int}{v:V8}(h:ws.length=80):Ht (Rt.step Aa) 81 (v.ls ++ [[0],ws,bl])=(rV bl v 80).ls ++ [[80],OD bl 80,bl]:=
 AKo (bl:=bl) (v0:=v) 80 0 (by omega) h
end
section
open Go
theorem AQb{a b c d e f g h:Int}:g3.step bu [[a],[b],[c],[d],[e],[f],[g],[h]]=some ([[a],[b],[c],[d],[e],[f],[g],[h]],[[a],[b],[c],[d],[e],[f],[g],[h]]):=by kernel_rfl
theorem ARr{x y:Int}:((List.range 8).map λk=>(gA k).step bu [[x],[y]])=(List.range 8).map λ_=>some ([[DR .add x y],[y]],[]):=by kernel_rfl
def Xz.stepT(g:Xz)(T:Tb)(C:Cx)(ins:List (List Int)):Option (List (List Int)×List (List Int)):=
 match WS T (g.i.tree C) (BK ins) with
 |some (ρ,e,st)=>(match g.leaf e st with
  |some (al,C6)=>some (al.map (·.den ρ),C6.map (·.den ρ))
  |none=>none)
 |none=>none
theorem nO(g:Xz)(C:Cx)(ins:List (List Int)):g.step C ins=g.stepT C.T C ins:=rfl
theorem ATZ{T:Tb}{a b c d e f g h:Int}{ws bl:List Int}:(g4.stepT T qw [[a],[b],[c],[d],[e],[f],[g],[h],ws,bl]).map (λr=>r.1.take 9)=(let A:=[[a],[b],[c],[d],[e],[f],[g],[h],[0],ws,bl]
  some ((List.range 8).map (λk=>[(gv T (1000000+116) (k+1) A).getD 0 0]) ++ [gv T (1000000+116) 0 A])):=by kernel_rfl
end
end Go.Proofs.YtkbfdaoohhmgoaaGreatDoor
