/- blockGeneric on any number of blocks: one round. -/
import Derived.Test.YtloibefkijfdlaaGreatDoorHb1
import Derived.Test.YtloibefkijfdlaaGreatDoorLa
namespace Go.Proofs.YtloibefkijfdlaaGreatDoor
section
open Go
theorem AQo:Yr Sd AA 8 80 80=true:=by kernel_rfl
theorem AUf:AAs (1000000+154) (gQ (g4.i.tree rz))=true:=by kernel_rfl
theorem ASL:Lp 10 (g4.i.tree rz)=true:=by kernel_rfl
theorem zq:lk (1000000+154) rz.T=some (.one (Sd.sum AA (Sd.pre AA))):=by kernel_rfl
theorem AKN{t:Bc}{C:Cx}{l:I7}{Cb:Cx}{f n:Nat}(hl:lk f C.T=some (.one (l.sum Cb (l.pre Cb))))(ht:AAs f (gQ t)=true){np:Nat}(hk:Lp np t=true)(hq:8<l.s0.params.length)(ha:Yr l Cb 8 n n=true)(hf:∀ a,l.fuel a=n+1)(ρ0:Bl):Cn C.T t ρ0:=by
 unfold AAs at ht
 split at ht
 ·rename_i ds g al e st abY
  simp only[Bd] at ht;have e1:=CL ht.1;subst e1;obtain⟨k1,k2,k3,k4,k5⟩:=Pp (T:=C.T) (ρ:=ρ0) hk abY;refine k5 fun q hq'=>?_
  rw[Nc] at hq';subst hq';refine Zp hl rfl (I7.sum_pre (I7.pre_of (hf _) (dA hq ha ?_ (by omega))));have h2:=ht.2
  split at h2
  ·rename_i r h8
   have h9:al[8]? = some (.xs [.lit (.ofNat 0)]):=by
    have:(al.drop 8)[0]? = some (.xs [.lit (.ofNat 0)]):=by rw[h8];rfl
    rw[List.getElem?_drop] at this;exact this
   rw[List.getD,OX,h9];show [(0:Int)]= [(n:Int)-(n:Int)];rw[Int.sub_self]
  ·cases h2
 ·cases ht
theorem AE1(a:List (List Int)):Sd.fuel a=80+1:=by
 have:Sd.fuel=fun _=>80+1:=by kernel_rfl
 rw[this]
theorem AMd:Nat.ble 9 Sd.s0.params.length=true:=by kernel_rfl
set_option maxRecDepth 100000 in
theorem AQd(ρ0:Bl):Cn rz.T (g4.i.tree rz) ρ0:=AKN zq AUf ASL (Na AMd) AQo AE1 ρ0
end
noncomputable section
open Go
def s1(h:List Int):List (List Int):=match g1.step fq [h] with
 |some r=>r.2
 |none=>[]
def s3(h:List (List Int)):List (List Int)×List (List Int):=match g3.step fq h with
 |some r=>r
 |none=>([],[])
def s4(v:List (List Int))(ws blk:List Int):List (List Int):=match g4.step rz (v ++ [ws,blk]) with
 |some r=>r.1
 |none=>[]
def sA(k:Nat)(x y:List Int):List Int:=match (gA k).step fq [x,y] with
 |some r=>r.1.getD 0 []
 |none=>[]
def xS(h:List (List Int))(ws blk:List Int):List (List Int)×List Int:=
 let v:=s4 (s3 h).2 ws blk
 ((List.range 8).map fun k=>sA k ((s3 h).1.getD k []) (v.getD k []),v.getD 8 [])
def IV(v:Value)(xs:List Int):Prop:=∃ x,xs= [x]∧v= .int .u64 x∧JC .u64 x
theorem Wd{GB:Nat}{w:World}:∀ {n:Nat} {vs:List Value} {xs:List (List Int)} {bs:List (Nat×Nat)},Kt GB w (List.replicate n (.int .u64)) vs xs bs→∀ j,j<n→IV (vs.getD j undef) (xs.getD j [])
 |0,_,_,_,_,j,hj=>by omega
 |n+1,v::vs,x::xs,b::bs,h,0,_=>h.1
 |n+1,v::vs,x::xs,b::bs,h,j+1,hj=>Wd (n:=n) h.2 j (by omega)
 |n+1,[],_,_,h,_,_=>h.elim
 |n+1,_::_,[],_,h,_,_=>h.elim
 |n+1,_::_,_::_,[],h,_,_=>h.elim
theorem ZW{GB:Nat}{w:World}:∀ {n:Nat} {vs:List Value} {xs:List (List Int)} {bs:List (Nat×Nat)},vs.length=n→xs.length=n→bs.length=n→(∀ j,j<n→IV (vs.getD j undef) (xs.getD j []))→Kt GB w (List.replicate n (.int .u64)) vs xs bs
 |0,[],[],[],_,_,_,_=>trivial
 |n+1,v::vs,x::xs,b::bs,h1,h2,h3,h=>⟨h 0 (by omega),ZW (n:=n) (by simpa using h1) (by simpa using h2) (by simpa using h3) fun j hj=>h (j+1) (by omega)⟩
 |0,_::_,_,_,h,_,_,_=>by simp at h
 |0,_,_::_,_,_,h,_,_=>by simp at h
 |0,_,_,_::_,_,_,h,_=>by simp at h
 |n+1,[],_,_,h,_,_,_=>by simp at h
 |n+1,_,[],_,_,h,_,_=>by simp at h
 |n+1,_,_,[],_,_,h,_=>by simp at h
theorem zA{GB:Nat}{w:World}{qs:List GG}{us:List Value}{ys:List (List Int)}{cs:List (Nat×Nat)}(h':Kt GB w qs us ys cs):∀ {ps:List GG} {vs:List Value} {xs:List (List Int)} {bs:List (Nat×Nat)},Kt GB w ps vs xs bs→Kt GB w (ps++qs) (vs++us) (xs++ys) (bs++cs)
 | [],[],[],[],_=>h'
 |_::_,_::_,_::_,_::_,h=>⟨h.1,zA h' h.2⟩
 | [],_::_,_,_,h=>h.elim
 | [],[],_::_,_,h=>h.elim
 | [],[],[],_::_,h=>h.elim
 |_::_,[],_,_,h=>h.elim
 |_::_,_::_,[],_,h=>h.elim
 |_::_,_::_,_::_,[],h=>h.elim
theorem VC{qs:List GG}{cs:List (Nat×Nat)}(h':G8 qs cs):∀ {n:Nat} {bs:List (Nat×Nat)},bs.length=n→G8 (List.replicate n (.int .u64)++qs) (bs++cs)
 |0,[],_=>h'
 |n+1,_::_,h=>⟨fun _ _=>trivial,VC h' (n:=n) (by simpa using h)⟩
 |0,_::_,h=>by simp at h
 |n+1,[],h=>by simp at h
theorem jM:G8 [] []:=trivial
section
variable{GB:Nat}{GC:Nat→Nat→Option Value}{ad:Nat→Nat×Nat}(hG:Jk GB GC ad)
include hG
theorem kP:Sb Tryz.prog fq GB GC:=OJ hG kJ.nil Su.nil
omit hG in
theorem AKA(c:Code)(E:En)(_:E.P=Tryz.prog)(h:E.C=fq)(_:E.GB=GB)(_:E.GC=GC):Ju E c∧∀ f j,lk f fq.inl=some j→Ju E j.c:=
 ⟨Ju.of_nil (by rw[h];rfl) _,fun _ _ hj=>(by cases hj)⟩
end
section
variable{GB:Nat}{GC:Nat→Nat→Option Value}{ad:Nat→Nat×Nat}
theorem AI8{k:Nat}(hk:k<8):(gA k).chk fq=true∧Sw ((gA k).i.tree fq)=true:=by
 have:=Ll.1 ALo k (fD.2 hk)
 simpa only[Bd] using this
theorem AGw:((List.range 8).all fun k=>([0,1,4]++hS++vS).all fun t=>Nat.beq t (5+k)||Nat.beq t (13+k)||EH t (gA k).i.keep)=true:=by kernel_rfl
theorem AC1{k t:Nat}(hk:k<8)(ht:t ∈ [0,1,4]++hS++vS)(h1:t≠5+k)(h2:t≠13+k):t∈(gA k).i.keep:=by
 have:=Ll.1 (Ll.1 AGw k (fD.2 hk)) t ht;simp only[Bool.or_eq_true] at this
 rcases this with (h|h)|h
 ·exact absurd (CL h) h1
 ·exact absurd (CL h) h2
 ·exact Eh.1 h
theorem AS1(hG:Jk GB GC ad){k:Nat}(hk:k<8){a:Act}{w:World}{x y:List Int}(ε:GW GC w)(δ:GB≤w.heap.size)(hx:IV (a.tmps.getD (5+k) undef) x)(hy:IV (a.tmps.getD (13+k) undef) y)(hsz:a.tmps.size=g3.i.nt)(hdf:a.defers= []):
  (rB (26+k)).wp Tryz.prog (fun e a' w'=>e= .normal∧IV (a'.tmps.getD (5+k) undef) (sA k x y)∧(∀ t,t ∈ [0,1,4]++hS++vS→t≠5+k→t≠13+k→a'.tmps.getD t undef=a.tmps.getD t undef)∧CV w w' (fun _ _=>False)∧a'.tmps.size=g3.i.nt∧a'.defers= []∧GW GC w') a w:=by
 obtain⟨c1,c2⟩:=AI8 hk;have hP:Kt GB w (gA k).i.s0.params ((gA k).i.ps.map fun t=>a.tmps.getD t undef) [x,y] [(0,0),(0,0)]:=⟨hx,hy,trivial⟩;have hr:=Nj (g:=gA k) (kP hG) c1 (EE hG (.inl rfl)).1 (EE hG (.inl rfl)).2 (AKA (GB:=GB) (GC:=GC) _) ε δ hP ⟨fun _ _=>trivial,fun _ h=>(by cases h),trivial⟩ hsz hdf (Og c2);refine wp_mono hr ?_
 rintro e a' w' ⟨r,r2,bs2,hs,rfl,-,hm,hf,h1,h2,h3,-,h5⟩
 have hm':Kt GB w' (List.replicate 2 (.int .u64)) ((gA k).i.ps.map fun t=>a'.tmps.getD t undef) r [(0,0),(0,0)]:=hm;refine⟨rfl,?_,fun t ht n1 n2=>h3 t (AC1 hk ht n1 n2),hf.mono fun b o _ hS=>?_,h1,h2,h5⟩
 ·have:=Wd hm' 0 (by omega);unfold sA;rw[hs];exact this
 ·obtain⟨p,hp,_⟩:=hS
  cases hp
end
end
section
open Go
noncomputable def tlB:Nat→Code
 |0=>rB 34
 |m+1=>.seq (rB (26+(7-m))) (tlB m)
theorem ATx:xB= .seq (rB 3) (.seq c4B (tlB 8)):=rfl
theorem ALf{j:Nat}(h:j<8):5+j ∈ [0,1,4]++hS++vS:=by
 have:∀ j,j<8→5+j ∈ [0,1,4]++hS++vS:=by decide
 exact this j h
theorem AQt{j:Nat}(h:j<8):13+j ∈ [0,1,4]++hS++vS:=by
 have:∀ j,j<8→13+j ∈ [0,1,4]++hS++vS:=by decide
 exact this j h
theorem AU8{t:Nat}(h:t=0∨t=1∨t=4):t ∈ [0,1,4]++hS++vS:=by
 rcases h with rfl|rfl|rfl<;>decide
section
variable{GB:Nat}{GC:Nat→Nat→Option Value}{ad:Nat→Nat×Nat}
theorem AKl(hG:Jk GB GC ad){h v:List (List Int)}{Q:Exit→Act→World→Prop}:∀ {m:Nat} {a:Act} {w:World},m≤8→GW GC w→GB≤w.heap.size→
  (∀ j,j<8-m→IV (a.tmps.getD (5+j) undef) (sA j (h.getD j []) (v.getD j [])))→(∀ j,8-m≤j→j<8→IV (a.tmps.getD (5+j) undef) (h.getD j []))→(∀ j,8-m≤j→j<8→IV (a.tmps.getD (13+j) undef) (v.getD j []))→
  a.tmps.size=g3.i.nt→a.defers= []→
  (∀ a' w',(∀ j,j<8→IV (a'.tmps.getD (5+j) undef) (sA j (h.getD j []) (v.getD j [])))→(∀ t,t=0∨t=1∨t=4→a'.tmps.getD t undef=a.tmps.getD t undef)→CV w w' (fun _ _=>False)→a'.tmps.size=g3.i.nt→a'.defers= []→GW GC w'→(rB 34).wp Tryz.prog Q a' w')→
  (tlB m).wp Tryz.prog Q a w
 |0,a,w,_,ε,_,h1,_,_,hsz,hdf,hQ=>hQ a w (fun j hj=>h1 j hj) (fun _ _=>rfl) (CV.refl _ _) hsz hdf ε
 | m+1,a,w,hm,ε,δ,h1,h2,h3,hsz,hdf,hQ=>by
  have hk:7-m<8:=by omega
  refine wp_seq (wp_mono (AS1 hG hk ε δ (h2 _ (by omega) hk) (h3 _ (by omega) hk) hsz hdf) ?_)
  rintro e a' w' ⟨rfl,q1,q2,q3,q4,q5,q6⟩
  show (tlB m).wp _ _ _ _;refine AKl hG (h:=h) (v:=v) (by omega) q6 (G9 δ q3.1) (fun j hj=>?_) (fun j hj hj'=>?_) (fun j hj hj'=>?_) q4 q5 fun a2 w2 k1 k2 k3 k4 k5 k6=>?_
  ·by_cases hjk:j=7-m
   ·subst hjk;exact q1
   ·rw[q2 _ (ALf (by omega)) (by omega) (by omega)];exact h1 j (by omega)
  ·rw[q2 _ (ALf hj') (by omega) (by omega)];exact h2 j (by omega) hj'
  ·rw[q2 _ (AQt hj') (by omega) (by omega)];exact h3 j (by omega) hj'
  ·refine hQ a2 w2 k1 (fun t ht=>?_) (q3.trans k3) k4 k5 k6;rw[k2 t ht,q2 t (AU8 ht) (by omega) (by omega)]
theorem AJF:([0,1,4].all fun t=>EH t g3.i.keep)=true:=by kernel_rfl
theorem AKD:((0::hS).all fun t=>EH t g4.i.keep)=true:=by kernel_rfl
theorem AOA{t:Nat}(h:t=0∨t=1∨t=4):t∈g3.i.keep:=Eh.1 (Ll.1 AJF t (by rcases h with rfl|rfl|rfl<;>decide))
theorem AOP{t:Nat}(h:t∈0::hS):t∈g4.i.keep:=Eh.1 (Ll.1 AKD t h)
theorem lV(a:Act){j:Nat}(h:j<8):(hS.map fun t=>a.tmps.getD t undef).getD j undef=a.tmps.getD (5+j) undef:=by
 match j,h with
 |0,_|1,_|2,_|3,_|4,_|5,_|6,_|7,_=>rfl
theorem tY(a:Act){j:Nat}(h:j<8):(vS.map fun t=>a.tmps.getD t undef).getD j undef=a.tmps.getD (13+j) undef:=by
 match j,h with
 |0,_|1,_|2,_|3,_|4,_|5,_|6,_|7,_=>rfl
theorem ATZ(hG:Jk GB GC ad){a:Act}{w:World}{h:List (List Int)}(ε:GW GC w)(δ:GB≤w.heap.size)(hl:h.length=8)(hh:∀ j,j<8→IV (a.tmps.getD (5+j) undef) (h.getD j []))(hsz:a.tmps.size=g3.i.nt)(hdf:a.defers= []):
  (rB 3).wp Tryz.prog (fun e a' w'=>e= .normal∧(∀ j,j<8→IV (a'.tmps.getD (5+j) undef) ((s3 h).1.getD j []))∧(∀ j,j<8→IV (a'.tmps.getD (13+j) undef) ((s3 h).2.getD j []))∧(s3 h).2.length=8∧(∀ t,t=0∨t=1∨t=4→a'.tmps.getD t undef=a.tmps.getD t undef)∧CV w w' (fun _ _=>False)∧a'.tmps.size=g3.i.nt∧a'.defers= []∧GW GC w') a w:=by
 have c:=AMa;simp only[Bd] at c;have hP:Kt GB w g3.i.s0.params (g3.i.ps.map fun t=>a.tmps.getD t undef) h (List.replicate 8 (0,0)):=ZW (n:=8) (vs:=hS.map fun t=>a.tmps.getD t undef) rfl hl (by simp) fun j hj=>by rw[lV a hj];exact hh j hj
 have hS':G8 g3.i.s0.params (List.replicate 8 (0,0)):=by
  have:=VC jM (n:=8) (bs:=List.replicate 8 (0,0)) (by simp);rw[TL,TL] at this;exact this
 have hr:=Nj (g:=g3) (kP hG) c.1 (EE hG (.inl rfl)).1 (EE hG (.inl rfl)).2 (AKA (GB:=GB) (GC:=GC) _) ε δ hP hS' hsz hdf (Og c.2);refine wp_mono hr ?_
 rintro e a' w' ⟨r,r2,bs2,hs,rfl,hx,hm,hf,h1,h2,h3,-,h5⟩
 have e3:s3 h=(r,r2):=by unfold s3;rw[hs]
 have hm':Kt GB w' (List.replicate 8 (.int .u64)) (hS.map fun t=>a'.tmps.getD t undef) r (List.replicate 8 (0,0)):=hm;have hx':Kt GB w' (List.replicate 8 (.int .u64)) (vS.map fun t=>a'.tmps.getD t undef) r2 bs2:=hx;rw[e3];refine⟨rfl,fun j hj=>?_,fun j hj=>?_,?_,fun t ht=>h3 t (AOA ht),hf.mono fun b o _ hS=>?_,h1,h2,h5⟩
 ·have:=Wd hm' j hj
  rwa [lV a' hj] at this
 ·have:=Wd hx' j hj
  rwa [tY a' hj] at this
 ·have:=(UU hx').2.1
  simpa using this
 ·obtain⟨p,hp,_⟩:=hS
  cases hp
theorem ADN(hG:Jk GB GC ad):kJ GB GC [(191,.one Ej)]:=.cons (k:=191) rfl (LQ hG) Tryz.call191 (AQ.len _ _) .nil
theorem AM3(hG:Jk GB GC ad):Sb Tryz.prog rz GB GC:=lX hG (kJ.consL (by decide) (fun b=>by cases b<;>exact ng _ _ _) (ADN hG)) Su.nil _
theorem AOZ:Me Sd.id c4B= [.loop Sd.c]:=by kernel_rfl
theorem AUk(hG:Jk GB GC ad)(E:En)(e1:E.P=Tryz.prog)(e2:E.C=rz)(e3:E.GB=GB)(e4:E.GC=GC):Ju E g4.i.c∧∀ f j,lk f rz.inl=some j→Ju E j.c:=by
 have hone:∀ fe,lk (1000000+154) rz.T=some fe→fe= .one (Sd.sum AA (Sd.pre AA)):=fun fe h=>by
  rw[zq] at h;exact (SY h).symm
 refine⟨?_,fun _ _ hj=>(by cases hj)⟩;refine Ju.one (d:=⟨1000000+154,Sd.ps,Sd.ss,Sd.cl,Sd.nt⟩) (by rw[e2];rfl) AOZ ?_ ?_
 ·exact I7.ok (OJ hG (ADN hG) Su.nil) AH4 (EE hG (.inr rfl)).1 (EE hG (.inr rfl)).2 (fun E' _ c2 _ _=>⟨Ju.of_nil (by rw[c2];rfl) _,fun _ _ _=>Ju.of_nil (by rw[c2];rfl) _⟩) e1 e3 e4 rfl rfl rfl rfl (fun fe h=>hone fe (by rw[e2] at h;exact h)) (fun _ _ h=>h)
 ·intro fe h x
  rw[e2] at h;rw[hone fe h];rfl
end
end
section
open Go
theorem jG{GB:Nat}{w:World}{qs:List GG}:∀ {n:Nat} {vs us:List Value} {xs:List (List Int)} {bs cs:List (Nat×Nat)},vs.length=n→bs.length=n→Kt GB w (List.replicate n (.int .u64)++qs) (vs++us) xs (bs++cs)→
  (∀ j,j<n→IV (vs.getD j undef) (xs.getD j []))∧Kt GB w qs us (xs.drop n) cs
 |0,[],us,xs,[],cs,_,_,h=>⟨fun _ hj=>by omega,h⟩
 | n+1,v::vs,us,x::xs,b::bs,cs,h1,h2,h=>by
  obtain⟨k1,k2⟩:=jG (n:=n) (vs:=vs) (bs:=bs) (by simpa using h1) (by simpa using h2) h.2;exact⟨fun j hj=>(match j,hj with
   |0,_=>h.1
   |j+1,hj=>k1 j (by omega)),k2⟩
 |n+1,_::_,_,[],_::_,_,_,_,h=>h.elim
 |0,_::_,_,_,_,_,h,_,_=>by simp at h
 |0,[],_,_,_::_,_,_,h,_=>by simp at h
 |n+1,[],_,_,_,_,h,_,_=>by simp at h
 |n+1,_::_,_,_,[],_,_,h,_=>by simp at h
section
variable{GB:Nat}{GC:Nat→Nat→Option Value}{ad:Nat→Nat×Nat}
set_option maxRecDepth 100000 in
theorem ARZ(hG:Jk GB GC ad){a:Act}{w:World}{v:List (List Int)}{ws blk:List Int}{B pb po m c:Nat}(ε:GW GC w)(δ:GB≤w.heap.size)(hl:v.length=8)(hv:∀ j,j<8→IV (a.tmps.getD (13+j) undef) (v.getD j []))
  (h4:a.tmps.getD 4 undef= .pointer (some ⟨B,0,none⟩)) (h1:a.tmps.getD 1 undef= .slice (some ⟨pb,po,none⟩) m c) (hm:128≤m) (hW:Ar true w (B,0) (List.replicate 80 .u64) ws) (hB:GB≤B) (hb:Ar false w (pb,po) (List.replicate 128 .u8) blk) (hne:B≠pb)
  (hsz:a.tmps.size=g3.i.nt) (hdf:a.defers= []):
  c4B.wp Tryz.prog (fun e a' w'=>e= .normal∧(∀ j,j<8→IV (a'.tmps.getD (13+j) undef) ((s4 v ws blk).getD j []))∧Ar true w' (B,0) (List.replicate 80 .u64) ((s4 v ws blk).getD 8 [])∧a'.tmps.getD 4 undef=a.tmps.getD 4 undef∧a'.tmps.getD 1 undef=a.tmps.getD 1 undef∧(∀ t,t∈0::hS→a'.tmps.getD t undef=a.tmps.getD t undef)∧CV w w' (fun b _=>b=B)∧a'.tmps.size=g3.i.nt∧a'.defers= []∧GW GC w') a w:=by
 have hP:Kt GB w g4.i.s0.params (g4.i.ps.map fun t=>a.tmps.getD t undef) (v ++ [ws,blk]) (List.replicate 8 (0,0) ++ [(B,0),(pb,po)]):=by
  show Kt GB w (List.replicate 8 (.int .u64) ++ [.mem (List.replicate 80 .u64) 1 true,.slm (List.replicate 128 .u8) 0 false]) ((vS.map fun t=>a.tmps.getD t undef) ++ [a.tmps.getD 4 undef,a.tmps.getD 1 undef]) _ _;have hq:Kt GB w [.mem (List.replicate 80 .u64) 1 true,.slm (List.replicate 128 .u8) 0 false] [a.tmps.getD 4 undef,a.tmps.getD 1 undef] [ws,blk] [(B,0),(pb,po)]:=
   ⟨⟨h4,hW,fun _=>hB⟩,⟨m,c,h1,by simpa using hm,hb,fun h=>(by cases h)⟩,trivial⟩
  refine zA hq (ZW (n:=8) rfl hl (by simp) fun j hj=>?_);rw[tY a hj];exact hv j hj
 have hS':G8 g4.i.s0.params (List.replicate 8 (0,0) ++ [(B,0),(pb,po)]):=by
  show G8 (List.replicate 8 (.int .u64) ++ [.mem (List.replicate 80 .u64) 1 true,.slm (List.replicate 128 .u8) 0 false]) _;have hq:G8 [.mem (List.replicate 80 .u64) 1 true,.slm (List.replicate 128 .u8) 0 false] [(B,0),(pb,po)]:=
   ⟨fun x hx=>by rw[Nc.1 hx];exact fun _=>.inr (.inl hne),fun x hx=>(by cases hx),trivial⟩
  exact VC hq (by simp)
 have hr:=Nj (g:=g4) (AM3 hG) AN9 (EE hG (.inl rfl)).1 (EE hG (.inl rfl)).2 (AUk (GB:=GB) (GC:=GC) hG) ε δ hP hS' hsz hdf (AQd _);refine wp_mono hr ?_
 rintro e a' w' ⟨r,r2,bs2,hs,rfl,-,hm',hf,k1,k2,k3,k4,k5⟩
 have e3:s4 v ws blk=r:=by unfold s4;rw[hs]
 have hm2:Kt GB w' (List.replicate 8 (.int .u64) ++ [.mem (List.replicate 80 .u64) 1 true,.slm (List.replicate 128 .u8) 0 false]) ((vS.map fun t=>a'.tmps.getD t undef) ++ [a'.tmps.getD 4 undef,a'.tmps.getD 1 undef]) r (List.replicate 8 (0,0) ++ [(B,0),(pb,po)]):=hm';obtain⟨z1,z2⟩:=jG (n:=8) (bs:=List.replicate 8 (0,0)) (vs:=vS.map fun t=>a'.tmps.getD t undef) rfl rfl hm2;rw[e3];refine⟨rfl,fun j hj=>?_,?_,k4 8 4 (.mem (List.replicate 80 .u64) 1 true) rfl (by simp[GG.reg]) rfl,k4 9 1 (.slm (List.replicate 128 .u8) 0 false) rfl (by simp[GG.reg]) rfl,fun t ht=>k3 t (AOP ht),hf.mono fun b o _ hS=>?_,k1,k2,k5⟩
 ·have:=z1 j hj
  rwa [tY a' hj] at this
 ·have e8:r.getD 8 []=(r.drop 8).getD 0 []:=by simp[List.getD]
  rw[e8]
  match hq:r.drop 8 with
  | []=>rw[hq] at z2;exact z2.elim
  |y::ys=>
   rw[hq] at z2;exact z2.1.2.1
 ·obtain⟨p,hp,hb1,_⟩:=hS;rw[Nc.1 hp] at hb1;exact hb1
set_option maxRecDepth 100000 in
theorem ATW(hG:Jk GB GC ad){a:Act}{w:World}{h:List (List Int)}{ws blk:List Int}{B pb po m c:Nat}{Q:Exit→Act→World→Prop}(ε:GW GC w)(δ:GB≤w.heap.size)(hl:h.length=8)(hv:∀ j,j<8→IV (a.tmps.getD (5+j) undef) (h.getD j []))
  (h4:a.tmps.getD 4 undef= .pointer (some ⟨B,0,none⟩)) (h1:a.tmps.getD 1 undef= .slice (some ⟨pb,po,none⟩) m c) (hm:128≤m) (hW:Ar true w (B,0) (List.replicate 80 .u64) ws) (hB:GB≤B) (hb:Ar false w (pb,po) (List.replicate 128 .u8) blk) (hne:B≠pb)
  (hsz:a.tmps.size=g3.i.nt) (hdf:a.defers= [])
  (hQ:∀ a' w',(∀ j,j<8→IV (a'.tmps.getD (5+j) undef) ((xS h ws blk).1.getD j []))→Ar true w' (B,0) (List.replicate 80 .u64) (xS h ws blk).2→(∀ t,t=0∨t=1∨t=4→a'.tmps.getD t undef=a.tmps.getD t undef)→CV w w' (fun b _=>b=B)→a'.tmps.size=g3.i.nt→a'.defers= []→GW GC w'→(rB 34).wp Tryz.prog Q a' w'):
  xB.wp Tryz.prog Q a w:=by
 rw[ATx];have hfb:∀ {w1 w2:World},CV w1 w2 (fun _ _=>False)→CV w1 w2 (fun b _=>b=B):=fun h=>h.mono fun _ _ _ hh=>hh.elim
 refine wp_seq (wp_mono (ATZ hG ε δ hl hv hsz hdf) ?_)
 rintro e a1 w1 ⟨rfl,p1,p2,p3,p4,p5,p6,p7,p8⟩
 show (Code.seq c4B (tlB 8)).wp _ _ _ _;have hW1:Ar true w1 (B,0) (List.replicate 80 .u64) ws:=⟨hW.1,fun i k x hk hx=>p5.hasC (hW.2 i k x hk hx) (fun h=>h)⟩;have hb1:Ar false w1 (pb,po) (List.replicate 128 .u8) blk:=⟨hb.1,fun i k x hk hx=>p5.hasC (hb.2 i k x hk hx) (fun h=>h)⟩;refine wp_seq (wp_mono (ARZ hG p8 (G9 δ p5.1) p3 p2 ((p4 4 (.inr (.inr rfl))).trans h4) ((p4 1 (.inr (.inl rfl))).trans h1) hm hW1 hB hb1 hne p6 p7) ?_)
 rintro e a2 w2 ⟨rfl,q1,q2,q3,q4,q5,q6,q7,q8,q9⟩
 show (tlB 8).wp _ _ _ _;refine AKl hG (h:=(s3 h).1) (v:=s4 (s3 h).2 ws blk) (JP 8) q9 (G9 (G9 δ p5.1) q6.1) (fun j hj=>by omega) (fun j _ hj=>?_) (fun j _ hj=>q1 j hj) q7 q8 fun a3 w3 k1 k2 k3 k4 k5 k6=>?_
 ·have:5+j∈0::hS:=by
   have:∀ j,j<8→5+j∈0::hS:=by decide
   exact this j hj
  rw[q5 _ this];exact p1 j hj
 ·refine hQ a3 w3 (fun j hj=>?_) ⟨q2.1,fun i k x hk hx=>k3.hasC (q2.2 i k x hk hx) (fun h=>h)⟩ (fun t ht=>?_) (((hfb p5).trans q6).trans (hfb k3)) k4 k5 k6
  ·have e1:(xS h ws blk).1.getD j []=sA j ((s3 h).1.getD j []) ((s4 (s3 h).2 ws blk).getD j []):=by
    simp[xS,List.getD,hj]
   rw[e1];exact k1 j hj
  ·rw[k2 t ht, ← p4 t ht]
   rcases ht with rfl|rfl|rfl
   ·exact q5 0 (LA)
   ·exact q4
   ·exact q3
end
end
noncomputable section
open Go
def ALN:Code→Array Oper
 | .region _ o _=>o
 |_=>#[]
def gp(k i:Nat):String:=match (ALN (rB k)).toList[i]? with
 |some o=>o.pos
 |none=> ""
def ga(k i:Nat):=match (ALN (rB k)).toList[i]? with
 |some o=>o.after
 |none=>#[]
theorem wpl{P:Program}{ops:Array Oper}{Q:Exit→Act→World→Prop}{o:Oper}{rest:List Oper}{a:Act}{w w':World}{v:Value}(hg:o.guard=none)(h:(execOp a.eval o).run P w= .ok (.value v) w')(hn:wpList P ops Q rest (a.put o.dst v) w'):wpList P ops Q (o::rest) a w:=
 wpList_plain hg fun _ hK=>Gz h (hK _ _ hn)
theorem ATw:rB 0= .region 0 [⟨some 4,.alloc 109,0,gp 0 0,ga 0 0,none⟩].toArray false:=by kernel_rfl
theorem ARr:rB 2= .region 2 [⟨some 69,.move (.tmp 1),22,gp 2 0,ga 2 0,none⟩,⟨some 70,.call ⟨.builtin .len,#[.tmp 69],#[22]⟩,3,gp 2 1,ga 2 1,none⟩,⟨some 71,.binOp .geq 3 (.tmp 70) (.const (.int .i64 128)) 3,4,gp 2 2,ga 2 2,none⟩].toArray false:=by kernel_rfl
theorem AO3:rB 34= .region 34 [⟨some 273,.move (.tmp 1),22,gp 34 0,ga 34 0,none⟩,⟨some 274,.slice 22 (.tmp 273) (some (.const (.int .i64 128))) none none,22,gp 34 1,ga 34 1,none⟩,⟨some 1,.assign (.tmp 274),22,gp 34 2,ga 34 2,none⟩].toArray false:=by kernel_rfl
theorem zu{P:Program}{ρ:Operand→Value}{d:Option Tmp}{x:Operand}{ty:TypeId}{pos:String}{af:Array Edge}{g:Option (Nat×Bool)}{w:World}:(execOp ρ ⟨d,.move x,ty,pos,af,g⟩).run P w= .ok (.value (ρ x)) w:=by simp[execOp,go_sem]
theorem AAu{P:Program}{ρ:Operand→Value}{d:Option Tmp}{x:Operand}{ty:TypeId}{pos:String}{af:Array Edge}{g:Option (Nat×Bool)}{w:World}:(execOp ρ ⟨d,.assign x,ty,pos,af,g⟩).run P w= .ok (.value (ρ x)) w:=by simp[execOp,go_sem]
theorem AM6{ρ:Operand→Value}{d:Option Tmp}{x:Operand}{pos:String}{af:Array Edge}{g:Option (Nat×Bool)}{w:World}{p:Option Addr}{m c:Nat}(h:ρ x= .slice p m c):(execOp ρ ⟨d,.call ⟨.builtin .len,#[x],#[22]⟩,3,pos,af,g⟩).run Tryz.prog w= .ok (.value (.int .i64 m)) w:=by
 simp[go_sem,h]
theorem APx{ρ:Operand→Value}{d:Option Tmp}{x y:Operand}{pos:String}{af:Array Edge}{g:Option (Nat×Bool)}{w:World}{i j:Int}(hx:ρ x= .int .i64 i)(hy:ρ y= .int .i64 j):(execOp ρ ⟨d,.binOp .geq 3 x y 3,4,pos,af,g⟩).run Tryz.prog w= .ok (.value (.bool (decide (j≤i)))) w:=by
 simp[execOp,go_sem,hx,hy]
theorem AE4{ρ:Operand→Value}{d:Option Tmp}{x y:Operand}{pos:String}{af:Array Edge}{g:Option (Nat×Bool)}{w:World}{b o m c:Nat}(hx:ρ x= .slice (some ⟨b,o,none⟩) m c)(hy:ρ y= .int .i64 128)(h1:128≤m)(h2:m≤c):(execOp ρ ⟨d,.slice 22 x (some y) none none,22,pos,af,g⟩).run Tryz.prog w= .ok (.value (.slice (if c-128=0 then some ⟨b,o,none⟩ else some ⟨b,o+128,none⟩) (m-128) (c-128))) w:=by
 have hu:=run_underlying (w:=w) Tryz.underlying22;have hs:∀ w:World,(sizeOf 5).run Tryz.prog w= .ok 1 w:=fun w=>by simp[go_sem]
 have hb:∀ code,(Instr.sliceBound (.int .i64 128) m code).run Tryz.prog w= .ok 128 w:=fun code=>CR _ w (k:=.i64) (n:=128) h1 code
 simp only[execOp,hx,hy,Xa,Option.map_none,Instr.sliceAt,Instr.slice,I1,hu,IB];have hc:(c-128=0)=(c=128):=propext (by omega);simp[Instr.sliceBounds,hb,hs,DZ,hc]
theorem UI{a:Act}{t:Nat}:a.eval (.tmp t)=a.tmps.getD t undef:=rfl
theorem uV:g3.i.nt=315:=by kernel_rfl
theorem ALi{a:Act}{w:World}{p:Option Addr}{m c:Nat}{Q:Exit→Act→World→Prop}(h1:a.tmps.getD 1 undef= .slice p m c)(hsz:a.tmps.size=g3.i.nt)
  (hQ:∀ a',a'.tmps.getD 71 undef= .bool (decide ((128:Int)≤m))→(∀ t,t≠69→t≠70→t≠71→a'.tmps.getD t undef=a.tmps.getD t undef)→a'.tmps.size=g3.i.nt→a'.defers=a.defers→Q .normal a' w):(rB 2).wp Tryz.prog Q a w:=by
 rw[ARr];have hnt:=uV;have tp:∀ {b:Act} {t u:Nat} {v:Value},b.tmps.size=315→t<315→(b.put (some t) v).tmps.getD u undef=if t=u then v else b.tmps.getD u undef:=fun hb ht=>Wn (by omega)
 rw[hnt] at hsz hQ;refine wp_region_lit (wpl rfl zu ?_);rw[UI,h1];generalize hb:a.put (some 69) (.slice p m c)=b;have b1:b.tmps.size=315:=by rw[← hb,PO];exact hsz
 have b2:∀ u,b.tmps.getD u undef=if 69=u then .slice p m c else a.tmps.getD u undef:=fun u=>by rw[← hb];exact tp hsz (by omega)
 have b3:b.defers=a.defers:=by rw[← hb,Tp]
 refine wpl rfl (AM6 (p:=p) (m:=m) (c:=c) (by rw[UI,b2];rfl)) ?_;generalize hd:b.put (some 70) (.int .i64 m)=d;have d1:d.tmps.size=315:=by rw[← hd,PO];exact b1
 have d2:∀ u,d.tmps.getD u undef=if 70=u then .int .i64 m else b.tmps.getD u undef:=fun u=>by rw[← hd];exact tp b1 (by omega)
 have d3:d.defers=a.defers:=by rw[← hd,Tp,b3]
 refine wpl rfl (APx (i:=m) (j:=128) (by rw[UI,d2];rfl) rfl) ?_;refine wpList_nil (hQ _ ?_ (fun t n1 n2 n3=>?_) (by rw[PO];exact d1) (by rw[Tp,d3]))
 ·rw[tp d1 (by omega)];rfl
 ·rw[tp d1 (by omega),if_neg (fun h=>n3 h.symm),d2,if_neg (fun h=>n2 h.symm),b2,if_neg (fun h=>n1 h.symm)]
theorem ANe{a:Act}{w:World}{b0 o m c:Nat}{Q:Exit→Act→World→Prop}(h1:a.tmps.getD 1 undef= .slice (some ⟨b0,o,none⟩) m c)(hm:128≤m)(hc:m≤c)(hsz:a.tmps.size=g3.i.nt)
  (hQ:∀ a',a'.tmps.getD 1 undef= .slice (if c-128=0 then some ⟨b0,o,none⟩ else some ⟨b0,o+128,none⟩) (m-128) (c-128)→(∀ t,t≠273→t≠274→t≠1→a'.tmps.getD t undef=a.tmps.getD t undef)→a'.tmps.size=g3.i.nt→a'.defers=a.defers→Q .normal a' w):(rB 34).wp Tryz.prog Q a w:=by
 rw[AO3];have hnt:=uV;have tp:∀ {b:Act} {t u:Nat} {v:Value},b.tmps.size=315→t<315→(b.put (some t) v).tmps.getD u undef=if t=u then v else b.tmps.getD u undef:=fun hb ht=>Wn (by omega)
 rw[hnt] at hsz hQ;generalize hv:Value.slice (if c-128=0 then some ⟨b0,o,none⟩ else some ⟨b0,o+128,none⟩) (m-128) (c-128)=v at hQ;refine wp_region_lit (wpl rfl zu ?_);rw[UI,h1];generalize hb:a.put (some 273) (.slice (some ⟨b0,o,none⟩) m c)=b;have b1:b.tmps.size=315:=by rw[← hb,PO];exact hsz
 have b2:∀ u,b.tmps.getD u undef=if 273=u then .slice (some ⟨b0,o,none⟩) m c else a.tmps.getD u undef:=fun u=>by rw[← hb];exact tp hsz (by omega)
 have b3:b.defers=a.defers:=by rw[← hb,Tp]
 refine wpl rfl (AE4 (b:=b0) (o:=o) (m:=m) (c:=c) (by rw[UI,b2];rfl) rfl hm hc) ?_;rw[hv];generalize hd:b.put (some 274) v=d;have d1:d.tmps.size=315:=by rw[← hd,PO];exact b1
 have d2:∀ u,d.tmps.getD u undef=if 274=u then v else b.tmps.getD u undef:=fun u=>by rw[← hd];exact tp b1 (by omega)
 have d3:d.defers=a.defers:=by rw[← hd,Tp,b3]
 refine wpl rfl AAu ?_;rw[UI,d2,if_pos rfl];refine wpList_nil (hQ _ ?_ (fun t n1 n2 n3=>?_) (by rw[PO];exact d1) (by rw[Tp,d3]))
 ·rw[tp d1 (by omega)];rfl
 ·rw[tp d1 (by omega),if_neg (fun h=>n3 h.symm),d2,if_neg (fun h=>n2 h.symm),b2,if_neg (fun h=>n1 h.symm)]
end
noncomputable section
open Go
def bks:Nat→List (List Int)→List Int→List Int→List (List Int)
 |0,h,_,_=>h
 |n+1,h,ws,xs=>bks n (xS h ws (xs.take 128)).1 (xS h ws (xs.take 128)).2 (xs.drop 128)
theorem Ar.take{f:Bool}{w:World}{b:Nat×Nat}{n m:Nat}{xs:List Int}(h:Ar f w b (List.replicate m .u8) xs)(hn:n≤m):Ar f w b (List.replicate n .u8) (xs.take n):=by
 obtain⟨⟨h1,h2⟩,h3⟩:=h;rw[SX] at h1;have hk:∀ {i:Nat} {k:IntKind},(List.replicate n IntKind.u8)[i]? = some k→i<n∧(List.replicate m IntKind.u8)[i]? = some k:=fun {i k} hi=>by
  rw[zby] at hi ⊢
  split at hi
  ·rename_i hlt
   exact⟨hlt,by rw[if_pos (by omega)];exact hi⟩
  ·cases hi
 refine⟨⟨by rw[Y3,SX];omega,fun i k x hi hx=>?_⟩,fun i k x hi hx=>?_⟩
 ·obtain⟨k1,k2⟩:=hk hi;exact h2 i k x k2 (by rwa [List.getElem?_take_of_lt k1] at hx)
 ·obtain⟨k1,k2⟩:=hk hi;exact h3 i k x k2 (by rwa [List.getElem?_take_of_lt k1] at hx)
theorem Ar.drop{f:Bool}{w:World}{b o n m:Nat}{xs:List Int}(h:Ar f w (b,o) (List.replicate m .u8) xs)(hn:n≤m):Ar f w (b,o+n) (List.replicate (m-n) .u8) (xs.drop n):=by
 obtain⟨⟨h1,h2⟩,h3⟩:=h;rw[SX] at h1;have hk:∀ {i:Nat} {k:IntKind},(List.replicate (m-n) IntKind.u8)[i]? = some k→(List.replicate m IntKind.u8)[n+i]? = some k:=fun {i k} hi=>by
  rw[zby] at hi ⊢
  split at hi
  ·rw[if_pos (by omega)];exact hi
  ·cases hi
 refine⟨⟨by rw[nO,SX];omega,fun i k x hi hx=>?_⟩,fun i k x hi hx=>?_⟩
 ·exact h2 (n+i) k x (hk hi) (by rwa [List.getElem?_drop] at hx)
 ·have:=h3 (n+i) k x (hk hi) (by rwa [List.getElem?_drop] at hx)
  rwa [← XN] at this
theorem Ar.frm{f:Bool}{w w':World}{S:Nat→Nat→Prop}{b:Nat×Nat}{ks:List IntKind}{xs:List Int}(h:Ar f w b ks xs)(hf:CV w w' S)(hn:∀ i,i<ks.length→¬ S b.1 (b.2+i)):Ar f w' b ks xs:=
 ⟨h.1,fun i k x hk hx=>hf.hasC (h.2 i k x hk hx) (hn i (Pi.1 hk).1)⟩
theorem ANc(h:List (List Int))(ws blk:List Int):(xS h ws blk).1.length=8:=by simp[xS]
def oB:Code:=.seq (.seq (rB 2) (.cond (.tmp 71) .skip (.exit 0))) (.block 1 xB)
section
variable{GB:Nat}{GC:Nat→Nat→Option Value}{ad:Nat→Nat×Nat}
theorem AKj(hG:Jk GB GC ad){B pb:Nat}{Q:Exit→Act→World→Prop}(hB:GB≤B)(hne:B≠pb):∀ (n:Nat) {a:Act} {w:World} {h:List (List Int)} {ws xs:List Int} {p:Option Addr} {po c:Nat},GW GC w→GB≤w.heap.size→h.length=8→(∀ j,j<8→IV (a.tmps.getD (5+j) undef) (h.getD j []))→
  a.tmps.getD 4 undef= .pointer (some ⟨B,0,none⟩)→a.tmps.getD 1 undef= .slice p (n*128) c→(0<n→p=some ⟨pb,po,none⟩)→n*128≤c→Ar true w (B,0) (List.replicate 80 .u64) ws→Ar false w (pb,po) (List.replicate (n*128) .u8) xs→
  a.tmps.size=g3.i.nt→a.defers= []→
  (∀ a' w',(∀ j,j<8→IV (a'.tmps.getD (5+j) undef) ((bks n h ws xs).getD j []))→(bks n h ws xs).length=8→a'.tmps.getD 0 undef=a.tmps.getD 0 undef→CV w w' (fun b _=>b=B)→a'.tmps.size=g3.i.nt→a'.defers= []→GW GC w'→Q .normal a' w')→
  Code.rounds Tryz.prog oB (Exit.inBlock 0 Q) (n+1) a w
 |0,a,w,h,ws,xs,p,po,c,ε,δ,hl,hv,h4,h1,hp,hc,hW,hb,hsz,hdf,hQ=>by
  rw[rounds_succ];refine wp_seq (wp_seq (ALi h1 hsz fun a1 e1 e2 e3 e4=>?_));refine wp_cond (t:=false) (by rw[UI,e1];rfl) (wp_exit ?_);show Q .normal a1 w;exact hQ a1 w (fun j hj=>by rw[e2 _ (by omega) (by omega) (by omega)];exact hv j hj) hl (e2 0 (by omega) (by omega) (by omega)) (CV.refl _ _) e3 (e4.trans hdf) ε
 |n+1,a,w,h,ws,xs,p,po,c,ε,δ,hl,hv,h4,h1,hp,hc,hW,hb,hsz,hdf,hQ=>by
  rw[rounds_succ];have hp':=hp (by omega);subst hp';refine wp_seq (wp_seq (ALi h1 hsz fun a1 e1 e2 e3 e4=>?_));refine wp_cond (t:=true) (by rw[UI,e1];congr 1;simp;omega) (wp_skip ?_);show (Code.block 1 xB).wp _ _ _ _;refine wp_block (ATW hG (B:=B) (pb:=pb) (po:=po) (m:=(n+1)*128) (c:=c) (blk:=xs.take 128) ε δ hl (fun j hj=>by rw[e2 _ (by omega) (by omega) (by omega)];exact hv j hj) ((e2 4 (by omega) (by omega) (by omega)).trans h4) ((e2 1 (by omega) (by omega) (by omega)).trans h1) (by omega) hW hB (hb.take (by omega)) hne e3 (e4.trans hdf) ?_)
  intro a2 w2 k1 k2 k3 k4 k5 k6 k7
  refine ANe ((k3 1 (.inr (.inl rfl))).trans ((e2 1 (by omega) (by omega) (by omega)).trans h1)) (by omega) hc k5 fun a3 q1 q2 q3 q4=>?_
  show Code.rounds Tryz.prog oB (Exit.inBlock 0 Q) (n+1) a3 w2;have hm:(n+1)*128-128=n*128:=by omega
  have hb2:=(hb.frm k4 fun i _ (hh:pb=B)=>hne hh.symm).drop (show 128≤(n+1)*128 by omega);rw[hm] at q1 hb2;refine AKj hG hB hne n (po:=po+128) k7 (G9 δ k4.1) (ANc _ _ _) (fun j hj=>by rw[q2 _ (by omega) (by omega) (by omega)];exact k1 j hj) ?_ q1 (fun h0=>if_neg (by omega)) (by omega) k2 hb2 q3 (q4.trans k6) fun a' w' y1 y1' y2 y3 y4 y5 y6=>hQ a' w' y1 y1' ?_ (k4.trans y3) y4 y5 y6
  ·rw[q2 4 (by omega) (by omega) (by omega),k3 4 (.inr (.inr rfl)),e2 4 (by omega) (by omega) (by omega)];exact h4
  ·rw[y2,q2 0 (by omega) (by omega) (by omega),k3 0 (.inl rfl),e2 0 (by omega) (by omega) (by omega)]
end
end
section
open Go
theorem z80:Tryz.zeroCells109=Array.replicate 80 (.int .u64 0):=by kernel_rfl
theorem AHR{ρ:Operand→Value}{ty:TypeId}{pos:String}{af:Array Edge}{w:World}:(execOp ρ ⟨some 4,.alloc 109,ty,pos,af,none⟩).run Tryz.prog w= .ok (.value (.pointer (some ⟨w.heap.size,0,none⟩))) (w.alloc (.cells (Array.replicate 80 (.int .u64 0)) 109)):=by
 simp[execOp,go_sem,z80]
theorem Hq(w:World)(n:Nat)(k:IntKind)(e:TypeId)(h0:JC k 0):Ar true (w.alloc (.cells (Array.replicate n (.int k 0)) e)) (w.heap.size,0) (List.replicate n k) (List.replicate n 0):=by
 have hk:∀ (i:Nat) (k':IntKind) (x:Int),(List.replicate n k)[i]? = some k'→(List.replicate n (0:Int))[i]? = some x→i<n∧k'=k∧x=0:=fun i k' x h1 h2=>by
  rw[zby] at h1 h2
  split at h1
  ·rename_i hi
   rw[if_pos hi] at h2;exact⟨hi,by simpa using h1.symm,by simpa using h2.symm⟩
  ·cases h1
 refine⟨⟨by simp,fun i k' x h1 h2=>?_⟩,fun i k' x h1 h2=>?_⟩
 ·obtain⟨_,rfl,rfl⟩:=hk i k' x h1 h2;exact h0
 ·obtain⟨hi,rfl,rfl⟩:=hk i k' x h1 h2;refine Ci.of_obj (c:=Array.replicate n (.int k' 0)) (e:=e) (lo:=0) (hi:=0) ?_ ?_ (fun _=>by omega)
  ·show (w.heap.push _)[w.heap.size]? = _;exact Array.getElem?_push_size
  ·rw[NU,Array.getElem?_replicate,if_pos hi]
theorem Cs(w:World)(o:Obj)(S:Nat→Nat→Prop):CV w (w.alloc o) S:=(CV.refl w S).push (o:=o) rfl rfl rfl rfl
def wl(h:List Int):List (List Int):=h.map fun x=>[x]
def rD(l:List (List Int)):List Int:=l.map fun x=>x.getD 0 0
theorem AJu(h:List Int):rD (wl h)=h:=by
 unfold rD wl;rw[List.map_map];exact (fU fun _ _=>rfl).trans (List.map_id _)
theorem AKK:(EH 4 g1.i.keep&&EH 1 g1.i.keep)=true:=by kernel_rfl
theorem APT{a b c d e f g i:Int}:g1.step fq [[a,b,c,d,e,f,g,i]]=some ([[a,b,c,d,e,f,g,i]],[[a],[b],[c],[d],[e],[f],[g],[i]]):=by kernel_rfl
theorem ATn{h:List Int}(hl:h.length=8):g1.step fq [h]=some ([h],wl h):=by
 match h,hl with
 | [a,b,c,d,e,f,g,i],_=>exact APT
theorem APZ{a b c d e f g i:Int}{old:List Int}:(g35.step fq [old,[a],[b],[c],[d],[e],[f],[g],[i]]).map (fun r=>r.1.getD 0 [])=some [a,b,c,d,e,f,g,i]:=by kernel_rfl
theorem ANR{l:List (List Int)}{a:Act}(hl:l.length=8)(h:∀ j,j<8→IV (a.tmps.getD (5+j) undef) (l.getD j [])):l=wl (rD l)∧(rD l).length=8∧∀ x∈rD l,JC .u64 x:=by
 have hx:∀ j,j<8→∃ x,l.getD j []= [x]∧JC .u64 x:=fun j hj=>by
  obtain⟨x,h1,_,h3⟩:=h j hj;exact⟨x,h1,h3⟩
 refine⟨?_,by simp[rD,hl],?_⟩
 ·unfold wl rD;rw[List.map_map];refine List.ext_getElem (by simp) fun j h1 h2=>?_
  obtain⟨x,e,_⟩:=hx j (by omega);simp only[List.getElem_map,Function.comp];have:l[j]= [x]:=by rw[← e];simp[List.getD,h1]
  rw[this];rfl
 ·intro x hx'
  obtain⟨y,hy,rfl⟩:=VI.1 hx';obtain⟨j,hj,rfl⟩:=lu hy;obtain⟨x,e,h3⟩:=hx j (by omega);have:l[j]= [x]:=by rw[← e];simp[List.getD,hj]
  rw[this];exact h3
noncomputable def blk(n:Nat)(h xs:List Int):List Int:=rD (bks n (wl h) (List.replicate 80 0) xs)
structure ASS (GC:Nat→Nat→Option Value) (B o n:Nat) (h xs:List Int) (w:World) (e:Ending) (w':World):Prop where
 ret:e= .returned (.tuple #[])
 mem:Ar true w' (B,o) (List.replicate 8 .u64) (blk n h xs)
 frm:CV w w' (fun b i=>b=B∧o≤i∧i<o+8)
 gw:GW GC w'
theorem ALy:Tryz.f154.body=some bB:=by kernel_rfl
theorem AQq:Tryz.f154.ntmps=315:=by kernel_rfl
section
variable{GB:Nat}{GC:Nat→Nat→Option Value}{ad:Nat→Nat×Nat}
theorem AGh(hG:Jk GB GC ad){w:World}{B o n pb po c:Nat}{h xs:List Int}(ε:GW GC w)(δ:GB≤w.heap.size)(hB:GB≤B)(hh:Ar true w (B,o) (List.replicate 8 .u64) h)(hp:Ar false w (pb,po) (List.replicate (n*128) .u8) xs)(hn:0<n)(hc:n*128≤c):
  Calls Tryz.prog 154 #[.pointer (some ⟨B,o,none⟩),.slice (some ⟨pb,po,none⟩) (n*128) c] w (ASS GC B o n h xs w):=by
 have hl:h.length=8:=by have:=hh.1.1;simpa using this
 have hpb:pb<w.heap.size:=by
  have hl2:xs.length=n*128:=by have:=hp.1.1;simpa using this
  have hk:(List.replicate (n*128) IntKind.u8)[0]? = some .u8:=by simp[zby];omega
  exact (hp.2 0 .u8 _ hk (Jo (by omega))).lt
 refine enter (args:=[.pointer (some ⟨B,o,none⟩),.slice (some ⟨pb,po,none⟩) (n*128) c]) Tryz.func154 ALy (n:=315) (by rw[AQq];rfl) fun a F=>?_
 rw[ARD];have hnt:=uV;refine wp_seq ?_;rw[ATw];refine reg (Cm F rfl AHR fun a1 F1=>Gv ?_);show (Code.seq (rB 1) _).wp _ _ _ _;generalize hw1:w.alloc (.cells (Array.replicate 80 (.int .u64 0)) 109)=w1;have hW:Ar true w1 (w.heap.size,0) (List.replicate 80 .u64) (List.replicate 80 0):=by rw[← hw1];exact Hq w 80 .u64 _ ⟨by decide,by decide⟩
 have hf1:CV w w1 (fun _ _=>False):=by rw[← hw1];exact Cs _ _ _
 have hgw1:GW GC w1:=fun b o v hv=>(hf1.hasC (f:=false) ⟨ε b o v hv,fun h=>(by cases h)⟩ (fun h=>h)).1
 have hh1:=hh.frm hf1 fun _ _ h=>h
 have hp1:=hp.frm hf1 fun _ _ h=>h
 have hGB1:GB≤w1.heap.size:=G9 δ hf1.1;have k1:=AOh;simp only[Bd] at k1;have hP:Kt GB w1 g1.i.s0.params (g1.i.ps.map fun t=>a1.tmps.getD t undef) [h] [(B,o)]:=⟨⟨(F1.tm 0).trans rfl,⟨hh1.1,fun i k x hk hx=>(hh1.2 i k x hk hx).weak⟩,fun h=>(by cases h)⟩,trivial⟩;have hr:=Nj (g:=g1) (kP hG) k1.1 (EE hG (.inl rfl)).1 (EE hG (.inl rfl)).2 (AKA (GB:=GB) (GC:=GC) _) hgw1 hGB1 hP ⟨fun _ h=>(by cases h),trivial⟩ (F1.sz.trans hnt.symm) F1.df (Og k1.2);refine wp_seq (wp_mono hr ?_)
 rintro e a2 w2 ⟨r,r2,bs2,hs,rfl,hm,-,hf,q1,q2,q3,q4,q5⟩
 rw[ATn hl] at hs;simp only[Am,Prod.mk.injEq] at hs;obtain⟨rfl,rfl⟩:=hs;have hm':Kt GB w2 (List.replicate 8 (.int .u64)) (hS.map fun t=>a2.tmps.getD t undef) (wl h) bs2:=hm;have hf2:CV w1 w2 (fun _ _=>False):=hf.mono fun b o _ hS=>by
  obtain⟨p,hp,_⟩:=hS
  cases hp
 have k2:=AKK;simp only[Bd] at k2;show (Code.seq (.block 0 (.loop oB)) _).wp _ _ _ _;have e0:a2.tmps.getD 0 undef= .pointer (some ⟨B,o,none⟩):=by
  rw[q4 0 0 _ rfl (by simp[GG.reg]) rfl];exact (F1.tm 0).trans rfl
 refine wp_seq (wp_block (wp_loop_rounds (n+1) (AKj hG (B:=w.heap.size) (pb:=pb) (po:=po) (p:=some ⟨pb,po,none⟩) (c:=c) (h:=wl h) (ws:=List.replicate 80 0) (xs:=xs) δ (by omega) n q5 (G9 hGB1 hf2.1) (by simp[wl,hl]) (fun j hj=>by
  have:=Wd hm' j hj
  rwa [lV a2 hj] at this) ?_ ?_ (fun _=>rfl) hc (hW.frm hf2 fun _ _ h=>h) (hp1.frm hf2 fun _ _ h=>h) q1 q2 ?_)))
 ·rw[q3 4 (Eh.1 k2.1)];exact (F1.tm 4).trans rfl
 ·rw[q3 1 (Eh.1 k2.2)];exact (F1.tm 1).trans rfl
 intro a3 w3 y1 y2 y3 y4 y5 y6 y7
 show (rB 35).wp _ _ _ _;obtain⟨z1,z2,z3⟩:=ANR y2 y1;have hB3:Ar true w3 (B,o) (List.replicate 8 .u64) h:=(hh1.frm hf2 fun _ _ h=>h).frm y4 fun i _ (hh':B=w.heap.size)=>by
  have hlt:B<w.heap.size:=by
   have hk:(List.replicate 8 IntKind.u64)[0]? = some .u64:=rfl;exact (hh.2 0 .u64 _ hk (Jo (by omega))).lt
  omega
 have k35:=AHC;simp only[Bd] at k35;have hP3:Kt GB w3 g35.i.s0.params (g35.i.ps.map fun t=>a3.tmps.getD t undef) (h::bks n (wl h) (List.replicate 80 0) xs) ((B,o)::List.replicate 8 (0,0)):=⟨⟨y3.trans e0,hB3,fun _=>hB⟩,ZW (n:=8) (vs:=hS.map fun t=>a3.tmps.getD t undef) rfl y2 (by simp) fun j hj=>by rw[lV a3 hj];exact y1 j hj⟩;have hS3:G8 g35.i.s0.params ((B,o)::List.replicate 8 (0,0)):=by
  refine⟨fun x hx=>?_,?_⟩
  ·have hx1:=List.of_mem_zip hx;have:x.1=GG.int .u64:=(zcc.1 hx1.1).2;unfold YR;rw[this];simp[GG.reg]
  ·have:=VC jM (n:=8) (bs:=List.replicate 8 (0,0)) (by simp);rw[TL,TL] at this;exact this
 have hr3:=Nj (g:=g35) (kP hG) k35.1 (EE hG (.inl rfl)).1 (EE hG (.inl rfl)).2 (AKA (GB:=GB) (GC:=GC) _) y7 (G9 (G9 hGB1 hf2.1) y4.1) hP3 hS3 y5 y6 (Og k35.2);refine wp_mono hr3 ?_
 rintro e a4 w4 ⟨r,r2,bs4,hs,rfl,-,hm4,hf4,u1,u2,u3,-,u5⟩
 have hr0:r.getD 0 []=blk n h xs:=by
  have hb:bks n (wl h) (List.replicate 80 0) xs=wl (blk n h xs):=z1;have hbl:(blk n h xs).length=8:=z2;rw[hb] at hs;generalize blk n h xs=l at hs hbl
  match l,hbl with
  | [a,b,c,d,e,f,g,i],_=>
   have:=@APZ a b c d e f g i h;rw[show [h,[a],[b],[c],[d],[e],[f],[g],[i]]=h::wl [a,b,c,d,e,f,g,i] from rfl,hs] at this
   simpa using this
 refine⟨u2,.tuple #[],by simp[results,go_sem],rfl,?_,?_,u5⟩
 ·have hm5:Kt GB w4 g35.i.s0.params _ r _:=hm4
  match r,hm5 with
  |x::r,hm5=>
   have:x=blk n h xs:=hr0;subst this;exact hm5.1.2.1
 ·have h3:CV w w3 (fun _ _=>False):=((hf1.trans hf2).trans' y4 fun b i hb (hh':b=w.heap.size)=>by omega);refine (h3.mono fun _ _ _ h=>h.elim).trans' hf4 fun b i _ hS=>?_
  obtain⟨p,hp,h1,h2,h4⟩:=hS;have hp':p ∈ [((0:Nat),List.replicate 8 IntKind.u64,(Go.Proofs.YtloibefkijfdlaaGreatDoor.z1:PF))]:=hp;rw[Nc] at hp';subst hp';exact⟨h1,h2,h4⟩
end
end
section
open Go
def evP(T:Tb):Bc→List Bool→Bl→Option ((Bl×Ex×St)×List (Int×Bool))
 | .leaf e st,_,ρ=>some ((ρ,e,st),[])
 | .evs ds _ t,bs,ρ=>evP T t bs (Dc T ρ ds)
 | .br x t f,bs,ρ=>match bs with
  |b::r=>(match (bif b then evP T t r ρ else evP T f r ρ) with
   |some (z,cs)=>some (z,(x.den ρ,b)::cs)
   |none=>none)
  | []=>none
 | .chk _ k,bs,ρ=>evP T k bs ρ
 | .brc _ _ _ _,_,_=>none
 | .bad _,_,_=>none
def AEa(cs:List (Int×Bool)):Prop:=∀ c∈cs,(c.1=0↔c.2=false)
theorem aC{T:Tb}:∀ {t:Bc} {bs:List Bool} {ρ:Bl} {z:Bl×Ex×St} {cs:List (Int×Bool)},evP T t bs ρ=some (z,cs)→AEa cs→XR T t ρ=some z
 | .leaf e st,bs,ρ,z,cs,h,_=>by
  unfold evP at h;simp only[Am,Prod.mk.injEq] at h;rw[← h.1];rfl
 | .evs ds ob t,bs,ρ,z,cs,h,hc=>by
  unfold evP at h;exact aC (t:=t) h hc
 | .br x t f,[],ρ,z,cs,h,_=>by
  unfold evP at h;cases h
 | .br x t f,b::bs,ρ,z,cs,h,hc=>by
  unfold evP at h;simp only at h
  split at h
  ·rename_i z' cs' h'
   simp only[Am,Prod.mk.injEq] at h;obtain⟨rfl,rfl⟩:=h;have h0:=hc (x.den ρ,b) LA;have hr:AEa cs':=fun c hm=>hc c (MQ _ hm)
   unfold XR
   cases b with
   |true=>
    rw[if_neg (fun e=>by have:=h0.1 e;cases this)];exact aC (t:=t) h' hr
   |false=>
    rw[if_pos (h0.2 rfl)];exact aC (t:=f) h' hr
  ·cases h
 | .brc f ar t e,bs,ρ,z,cs,h,_=>by
  unfold evP at h;cases h
 | .chk c k,bs,ρ,z,cs,h,hc=>by
  unfold evP at h;exact aC (t:=k) h hc
 | .bad s,bs,ρ,z,cs,h,_=>by
  unfold evP at h;cases h
def I7.stepP(i:I7)(C:Cx)(bs:List Bool)(ins:List (List Int)):Option ((Bool×List (List Int))×List (Int×Bool)):=
 match evP C.T (i.tree C) bs (A8 ins) with
 |some ((ρ,e,st),cs)=>(match i.leaf e st with
  |some (b,al)=>some ((b,al.map (·.den ρ)),cs)
  |none=>none)
 |none=>none
theorem I7.stepP_ok{i:I7}{C:Cx}{bs:List Bool}{ins:List (List Int)}{z:Bool×List (List Int)}{cs:List (Int×Bool)}(h:i.stepP C bs ins=some (z,cs))(hc:AEa cs):i.step C ins=some z:=by
 unfold I7.stepP at h
 split at h
 ·rename_i ρ e st cs' hv
  split at h
  ·rename_i b al hl
   simp only[Am,Prod.mk.injEq] at h;obtain⟨rfl,rfl⟩:=h;unfold I7.step;rw[aC hv hc];simp only[hl]
  ·cases h
 ·cases h
abbrev Di (op:BinOp) (x y:Int):Int:=Ao op .u64 x y
def rl(x k:Int):Int:=Di .or (Di .shl x k) (Di .shr x (64-k))
def S1(e:Int):Int:=Di .xor (Di .xor (rl e 50) (rl e 46)) (rl e 23)
def S0(a:Int):Int:=Di .xor (Di .xor (rl a 36) (rl a 30)) (rl a 25)
def s1w(v:Int):Int:=Di .xor (Di .xor (rl v 45) (rl v 3)) (Di .shr v 6)
def s0w(v:Int):Int:=Di .xor (Di .xor (rl v 63) (rl v 56)) (Di .shr v 7)
def Ch(e f g:Int):Int:=Di .xor (Di .and e f) (Di .and (Di .xor 18446744073709551615 e) g)
def Mj(a b c:Int):Int:=Di .xor (Di .xor (Di .and a b) (Di .and a c)) (Di .and b c)
def b8(bl:List Int)(j:Int):Int:=IntKind.u64.wrap (bl.getD j.toNat 0)
def ai(i j:Int):Int:=Ao .add .i64 i j
def si(i j:Int):Int:=Ao .sub .i64 i j
def wd(bl:List Int)(j:Int):Int:=
 Di .or (Di .or (Di .or (Di .or (Di .or (Di .or (Di .or (Di .shl (b8 bl j) 56) (Di .shl (b8 bl (ai j 1)) 48)) (Di .shl (b8 bl (ai j 2)) 40)) (Di .shl (b8 bl (ai j 3)) 32)) (Di .shl (b8 bl (ai j 4)) 24)) (Di .shl (b8 bl (ai j 5)) 16)) (Di .shl (b8 bl (ai j 6)) 8)) (b8 bl (ai j 7))
def Xz(ws:List Int)(j:Int):Int:=ws.getD j.toNat 0
def nw(ws:List Int)(i:Int):Int:=Di .add (Di .add (Di .add (s1w (Xz ws (si i 2))) (Xz ws (si i 7))) (s0w (Xz ws (si i 15)))) (Xz ws (si i 16))
def T1(k e f g h w:Int):Int:=Di .add (Di .add (Di .add (Di .add h (S1 e)) (Ch e f g)) k) w
def T2(a b c:Int):Int:=Di .add (S0 a) (Mj a b c)
def lvI:LV→Int
 | .int _ (.lit n)=>n
 |_=>0
def Y0:List Int:=match UG.find? (fun p=>Nat.beq p.2.length 80) with
 |some p=>p.2.map lvI
 |none=>[]
def ABg(bl ws:List Int)(i w a b c d e f g h:Int):List (List Int):=
 let ws':=ws.set i.toNat w
 let t:=T1 (Xz Y0 i) e f g h (Xz ws' i)
 [[Di .add t (T2 a b c)],[a],[b],[c],[Di .add d t],[e],[f],[g],[ai i 1],ws',bl]
theorem AJf{a b c d e f g h i:Int}{ws bl:List Int}:Sd.stepP AA [true,true] [[a],[b],[c],[d],[e],[f],[g],[h],[i],ws,bl]=some ((true,ABg bl ws i (wd bl (Ao .mul .i64 i 8)) a b c d e f g h),[(Ao .lss .i64 i 80,true),(Ao .lss .i64 i 16,true)]):=by kernel_rfl
theorem AHY{a b c d e f g h i:Int}{ws bl:List Int}:Sd.stepP AA [true,false] [[a],[b],[c],[d],[e],[f],[g],[h],[i],ws,bl]=some ((true,ABg bl ws i (nw ws i) a b c d e f g h),[(Ao .lss .i64 i 80,true),(Ao .lss .i64 i 16,false)]):=by kernel_rfl
theorem ACc{a b c d e f g h i:Int}{ws bl:List Int}:Sd.stepP AA [false] [[a],[b],[c],[d],[e],[f],[g],[h],[i],ws,bl]=some ((false,[[a],[b],[c],[d],[e],[f],[g],[h],[i],ws,bl]),[(Ao .lss .i64 i 80,false)]):=by kernel_rfl
end
section
open Go
structure V8 where
 a:Int
 b:Int
 c:Int
 d:Int
 e:Int
 f:Int
 g:Int
 h:Int
def V8.l(v:V8):List Int:=[v.a,v.b,v.c,v.d,v.e,v.f,v.g,v.h]
def V8.ls(v:V8):List (List Int):=[[v.a],[v.b],[v.c],[v.d],[v.e],[v.f],[v.g],[v.h]]
def V8.of(l:List Int):V8:=⟨l.getD 0 0,l.getD 1 0,l.getD 2 0,l.getD 3 0,l.getD 4 0,l.getD 5 0,l.getD 6 0,l.getD 7 0⟩
theorem V8.of_l{l:List Int}(h:l.length=8):(V8.of l).l=l:=by
 match l,h with
 | [a,b,c,d,e,f,g,i],_=>rfl
def wJ(v:V8)(k w:Int):V8:=
 let t:=T1 k v.e v.f v.g v.h w
 ⟨Di .add t (T2 v.a v.b v.c),v.a,v.b,v.c,Di .add v.d t,v.e,v.f,v.g⟩
def bN(bl:List Int)(j:Nat):Int:=IntKind.u64.wrap (bl.getD j 0)
def wdN(bl:List Int)(j:Nat):Int:=
 Di .or (Di .or (Di .or (Di .or (Di .or (Di .or (Di .or (Di .shl (bN bl j) 56) (Di .shl (bN bl (j+1)) 48)) (Di .shl (bN bl (j+2)) 40)) (Di .shl (bN bl (j+3)) 32)) (Di .shl (bN bl (j+4)) 24)) (Di .shl (bN bl (j+5)) 16)) (Di .shl (bN bl (j+6)) 8)) (bN bl (j+7))
def nwN(ws:List Int)(i:Nat):Int:=Di .add (Di .add (Di .add (s1w (ws.getD (i-2) 0)) (ws.getD (i-7) 0)) (s0w (ws.getD (i-15) 0))) (ws.getD (i-16) 0)
def Yz(bl ws:List Int)(n:Nat):Int:=if n<16 then wdN bl (n*8) else nwN ws n
def K7(bl:List Int):Nat→List Int
 |0=>[]
 |n+1=>K7 bl n ++ [Yz bl (K7 bl n) n]
theorem JQ(bl:List Int):∀ n,(K7 bl n).length=n
 |0=>rfl
 |n+1=>by simp[K7,JQ bl n]
def rV(bl:List Int)(v:V8):Nat→V8
 |0=>v
 |n+1=>wJ (rV bl v n) (Y0.getD n 0) (Yz bl (K7 bl n) n)
def mO(h bl:List Int):List Int:=List.zipWith (Di .add) h (rV bl (V8.of h) 80).l
def QQ:Nat→List Int→List Int→List Int
 |0,h,_=>h
 |n+1,h,xs=>QQ n (mO h (xs.take 128)) (xs.drop 128)
theorem gL{x:Int}(h: -9223372036854775808≤x)(h2:x≤9223372036854775807):IntKind.i64.wrap x=x:=JV (k:=.i64) ⟨h,h2⟩
theorem vO{j k:Nat}(h:j+k<1000000):ai (j:Int) (k:Int)=((j+k:Nat):Int):=by
 show IntKind.i64.wrap ((j:Int)+k)=_;rw[gL (by omega) (by omega)];omega
theorem ADx{j k:Nat}(h:j<1000000)(hk:k≤j):si (j:Int) (k:Int)=((j-k:Nat):Int):=by
 show IntKind.i64.wrap ((j:Int)-k)=_;rw[gL (by omega) (by omega)];omega
theorem ADh{j k:Nat}(h:j*k<1000000):Ao .mul .i64 (j:Int) (k:Int)=((j*k:Nat):Int):=by
 show IntKind.i64.wrap ((j:Int)*k)=_;have e:(j:Int)*k=((j*k:Nat):Int):=by push_cast;rfl
 rw[e,gL (by omega) (by omega)]
theorem ADY(bl:List Int)(j:Nat):b8 bl (j:Int)=bN bl j:=by simp[b8,bN]
theorem ADj(bl:List Int){j:Nat}(h:j<1000):wd bl (j:Int)=wdN bl j:=by
 unfold wd wdN;have e:∀ k:Nat,k<8→b8 bl (ai (j:Int) (k:Int))=bN bl (j+k):=fun k hk=>by
  rw[vO (by omega),ADY]
 have e1:b8 bl (ai (j:Int) 1)=bN bl (j+1):=e 1 (by omega);have e2:b8 bl (ai (j:Int) 2)=bN bl (j+2):=e 2 (by omega);have e3:b8 bl (ai (j:Int) 3)=bN bl (j+3):=e 3 (by omega);have e4:b8 bl (ai (j:Int) 4)=bN bl (j+4):=e 4 (by omega);have e5:b8 bl (ai (j:Int) 5)=bN bl (j+5):=e 5 (by omega);have e6:b8 bl (ai (j:Int) 6)=bN bl (j+6):=e 6 (by omega);have e7:b8 bl (ai (j:Int) 7)=bN bl (j+7):=e 7 (by omega);rw[ADY,e1,e2,e3,e4,e5,e6,e7]
theorem Zn(ws:List Int)(j:Nat):Xz ws (j:Int)=ws.getD j 0:=by simp[Xz]
theorem vB{ws ys:List Int}{n:Nat}(h:16≤n)(h2:n<80)(hl:ws.length=n):nw (ws++ys) (n:Int)=nwN ws n:=by
 unfold nw nwN;have e:∀ k:Nat,0<k→k≤16→Xz (ws++ys) (si (n:Int) (k:Int))=ws.getD (n-k) 0:=fun k h0 hk=>by
  rw[ADx (by omega) (by omega),Zn];simp only[List.getD];rw[gI (by omega)]
 have e2:Xz (ws++ys) (si (n:Int) 2)=ws.getD (n-2) 0:=e 2 (by omega) (by omega);have e7:Xz (ws++ys) (si (n:Int) 7)=ws.getD (n-7) 0:=e 7 (by omega) (by omega);have e15:Xz (ws++ys) (si (n:Int) 15)=ws.getD (n-15) 0:=e 15 (by omega) (by omega);have e16:Xz (ws++ys) (si (n:Int) 16)=ws.getD (n-16) 0:=e 16 (by omega) (by omega);rw[e2,e7,e15,e16]
theorem oL{ws ys:List Int}{n:Nat}{x:Int}(hl:ws.length=n)(hy:0<ys.length):(ws++ys).set n x=(ws ++ [x])++ys.drop 1:=by
 subst hl;rw[List.set_append_right _ _ (JP _),zcu,YY]
 match ys,hy with
 |y::ys,_=>rfl
theorem yD{i j:Nat}(h:i<j):Ao .lss .i64 (i:Int) (j:Int)=1:=by
 show K9 (decide ((i:Int)<j))=1;rw[decide_eq_true (by omega)];rfl
theorem AKT{i j:Nat}(h:j≤i):Ao .lss .i64 (i:Int) (j:Int)=0:=by
 show K9 (decide ((i:Int)<j))=0;rw[decide_eq_false (by omega)];rfl
theorem ZZ{bl ws ys:List Int}{n:Nat}{x:Int}{v:V8}(hn:n<80)(hl:ws.length=n)(hy:0<ys.length):ABg bl (ws++ys) (n:Int) x v.a v.b v.c v.d v.e v.f v.g v.h=(wJ v (Y0.getD n 0) x).ls ++ [[((n+1:Nat):Int)],(ws ++ [x])++ys.drop 1,bl]:=by
 have e1:ai (n:Int) 1=((n+1:Nat):Int):=vO (j:=n) (k:=1) (by omega);unfold ABg;simp only[e1,Zn,TJ,oL hl hy];have e2:(ws ++ [x]++ys.drop 1).getD n 0=x:=by
  simp only[List.getD,YY];rw[mH (by omega),hl,zcu];rfl
 rw[e2];rfl
theorem AMz{bl ys:List Int}{n:Nat}{v:V8}(hn:n<80)(hy:0<ys.length):Sd.step AA (v.ls ++ [[(n:Int)],K7 bl n++ys,bl])=some (true,(wJ v (Y0.getD n 0) (Yz bl (K7 bl n) n)).ls ++ [[((n+1:Nat):Int)],K7 bl (n+1)++ys.drop 1,bl]):=by
 have h80:Ao .lss .i64 (n:Int) 80=1:=yD (j:=80) hn
 by_cases h:n<16
 ·have h16:Ao .lss .i64 (n:Int) 16=1:=yD (j:=16) h;have:=I7.stepP_ok (@AJf v.a v.b v.c v.d v.e v.f v.g v.h (n:Int) (K7 bl n++ys) bl) (fun c hc=>by
   simp only[J4,List.not_mem_nil,or_false] at hc
   rcases hc with rfl|rfl
   ·simp[h80]
   ·simp[h16])
  have e8:Ao .mul .i64 (n:Int) 8=((n*8:Nat):Int):=ADh (j:=n) (k:=8) (by omega);rw[e8,ADj bl (by omega),ZZ hn (JQ bl n) hy] at this;rw[show Yz bl (K7 bl n) n=wdN bl (n*8) by unfold Yz;rw[if_pos h]];rw[show K7 bl (n+1)=K7 bl n ++ [wdN bl (n*8)] by show K7 bl n ++ [Yz bl (K7 bl n) n]=_;unfold Yz;rw[if_pos h]];exact this
 ·have h16:Ao .lss .i64 (n:Int) 16=0:=AKT (j:=16) (by omega);have:=I7.stepP_ok (@AHY v.a v.b v.c v.d v.e v.f v.g v.h (n:Int) (K7 bl n++ys) bl) (fun c hc=>by
   simp only[J4,List.not_mem_nil,or_false] at hc
   rcases hc with rfl|rfl
   ·simp[h80]
   ·simp[h16])
  rw[vB (by omega) hn (JQ bl n),ZZ hn (JQ bl n) hy] at this;rw[show Yz bl (K7 bl n) n=nwN (K7 bl n) n by unfold Yz;rw[if_neg h]];rw[show K7 bl (n+1)=K7 bl n ++ [nwN (K7 bl n) n] by show K7 bl n ++ [Yz bl (K7 bl n) n]=_;unfold Yz;rw[if_neg h]];exact this
theorem AIs{bl ws:List Int}{v:V8}:Sd.step AA (v.ls ++ [[80],ws,bl])=some (false,v.ls ++ [[80],ws,bl]):=
 I7.stepP_ok (@ACc v.a v.b v.c v.d v.e v.f v.g v.h 80 ws bl) (fun c hc=>by
  simp only[Nc] at hc;subst hc;exact⟨fun _=>rfl,fun _=>by decide⟩)
theorem AKt{bl:List Int}{v0:V8}:∀ (m n:Nat) {ys:List Int},n+m=80→ys.length=m→Gf (Sd.step AA) (m+1) ((rV bl v0 n).ls ++ [[(n:Int)],K7 bl n++ys,bl])=(rV bl v0 80).ls ++ [[80],K7 bl 80,bl]
 |0,n,ys,hn,hy=>by
  have:n=80:=by omega
  subst this;have:ys= []:=zbx hy;subst this;rw[TL];unfold Gf;rw[show ((80:Nat):Int)=80 from rfl,AIs]
 |m+1,n,ys,hn,hy=>by
  unfold Gf;rw[AMz (by omega) (by omega)];exact AKt m (n+1) (by omega) (by simp[hy])
theorem AAM{bl ws:List Int}{v:V8}(h:ws.length=80):Gf (Sd.step AA) 81 (v.ls ++ [[0],ws,bl])=(rV bl v 80).ls ++ [[80],K7 bl 80,bl]:=
 AKt (bl:=bl) (v0:=v) 80 0 (by omega) h
end
section
open Go
theorem ATe{a b c d e f g h:Int}:g3.step fq [[a],[b],[c],[d],[e],[f],[g],[h]]=some ([[a],[b],[c],[d],[e],[f],[g],[h]],[[a],[b],[c],[d],[e],[f],[g],[h]]):=by kernel_rfl
theorem AT6{x y:Int}:((List.range 8).map fun k=>(gA k).step fq [[x],[y]])=(List.range 8).map fun _=>some ([[Di .add x y],[y]],[]):=by kernel_rfl
def XG.stepT(g:XG)(T:Tb)(C:Cx)(ins:List (List Int)):Option (List (List Int)×List (List Int)):=
 match XR T (g.i.tree C) (A8 ins) with
 |some (ρ,e,st)=>(match g.leaf e st with
  |some (al,al2)=>some (al.map (·.den ρ),al2.map (·.den ρ))
  |none=>none)
 |none=>none
theorem Tz(g:XG)(C:Cx)(ins:List (List Int)):g.step C ins=g.stepT C.T C ins:=rfl
theorem AVP{T:Tb}{a b c d e f g h:Int}{ws bl:List Int}:(g4.stepT T rz [[a],[b],[c],[d],[e],[f],[g],[h],ws,bl]).map (fun r=>r.1.take 9)=(let A:=[[a],[b],[c],[d],[e],[f],[g],[h],[0],ws,bl]
  some ((List.range 8).map (fun k=>[(gv T (1000000+154) (k+1) A).getD 0 0]) ++ [gv T (1000000+154) 0 A])):=by kernel_rfl
end
end Go.Proofs.YtloibefkijfdlaaGreatDoor
