/- Lists of numbers of five limbs, and functions on them. -/
import Derived.Test.YtloibefkijfdlaaGreatDoorMa
namespace Go.Proofs.YtloibefkijfdlaaGreatDoor
section
open Go Ma
def OQ:List Fp→List Int→Prop
 | [],l=>l= []
 |x::xs,l=>∃ u w,l=u++w∧Js x u∧OQ xs w
theorem OQ.len:∀ {xs:List Fp} {l:List Int},OQ xs l→l.length=5*xs.length
 | [],l,h=>by rw[show l= [] from h];rfl
 |x::xs,l,⟨u,w,h1,h2,h3⟩=>by
  have h4:=h3.len;have h5:u.length=5:=h2.1.1;rw[h1,K6,h4,h5,Oq];omega
inductive fK {A:Type} (γ:A→List Int→Prop):List (Option (List (Nat×A)))→List (List Int)→Prop where
 |nil:fK γ [] []
 |no {l:List Int} {bs:List (Option (List (Nat×A)))} {ls:List (List Int)}:fK γ bs ls→fK γ (none::bs) (l::ls)
 |yes {b:List (Nat×A)} {l:List Int} {bs:List (Option (List (Nat×A)))} {ls:List (List Int)}:Em γ b l→fK γ bs ls→fK γ (some b::bs) (l::ls)
theorem fK.get{A:Type}{γ:A→List Int→Prop}:∀ {bs:List (Option (List (Nat×A)))} {ls:List (List Int)},fK γ bs ls→∀ (j:Nat) (b:List (Nat×A)),bs[j]? = some (some b)→Em γ b (ls.getD j [])
 |_,_,.nil,j,b,h=>by simp at h
 |_,_,.no h1,0,b,h=>by simp at h
 |_,_,.no h1,j+1,b,h=>by
  have:=h1.get j b (by simpa using h)
  simpa using this
 |_,_,.yes h0 h1,0,b,h=>by
  simp only[VT,Am] at h;subst h
  simpa using h0
 |_,_,.yes h0 h1,j+1,b,h=>by
  have:=h1.get j b (by simpa using h)
  simpa using this
def fb(es:List FX):List (Nat×FX):=es.map fun e=>(5,e)
def noB(es:List FX):Bool:=es.all fun e=> !e.isB
theorem OQ.bl{ρ:FV}:∀ {es:List FX} {l:List Int},noB es=true→OQ (es.map (·.ev ρ)) l→Em (γF ρ) (fb es) l
 | [],l,_,h=>h
 |e::es,l,hb,⟨u,w,h1,h2,h3⟩=>by
  simp only[noB,List.all_cons,Bd,Bool.not_eq_true'] at hb;exact⟨u,w,h1,h2.1.1,by unfold γF;rw[hb.1];exact h2,OQ.bl (es:=es) hb.2 h3⟩
theorem OQ.of{ρ:FV}{ρe:Bl}:∀ {es:List FX} {l:List Int},noB es=true→H6 (γF ρ) ρe (es.map fun e=>.a 5 e) l→OQ (es.map (·.ev ρ)) l
 | [],l,_,h=>h
 |e::es,l,hb,⟨u,w,h1,h2,h3⟩=>by
  simp only[noB,List.all_cons,Bd,Bool.not_eq_true'] at hb;exact⟨u,w,h1,γF_fe h2.2 hb.1,OQ.of (es:=es) hb.2 h3⟩
theorem ALe{ρ:FV}{n:Nat}{c:Bool}(h:ρ.b n=c):Em (γF ρ) [(1,.b n)] [bif c then 1 else 0]:=
 ⟨[bif c then 1 else 0],[],rfl,rfl,by subst h;rfl,rfl⟩
def Zg{A:Type}:List (Nat×FR)→BS A→JM→Bool:=fun _ _ _=>false
theorem WB{A:Type}{γ:A→List Int→Prop}{T:Tb}(ds:List (Nat×FR)):nL γ T ds (Zg ds):=fun _ _ _ _ _ h=>by cases h
theorem Xu{M:List (Nat×KF)}{i:AQ}{C:Cx}{bin:List (Option (List (Nat×FX)))}{es:List FX}(hM:MF C.T M)(h:Ow (vG M) Zg i C bin=some [es.map fun e=>.a 5 e])(hB:noB es=true)(ρ:FV){ins:List (List Int)}(hin:fK (γF ρ) bin ins):
  Cn C.T (i.tree C) (A8 ins)∧OQ (es.map (·.ev ρ)) (i.raw C 0 ins):=by
 obtain⟨h1,ρe,h2,h3⟩:=TE (γF ρ) (aB hM ρ) (fun ds=>WB ds) h hin.get;exact⟨h1,OQ.of hB (h3 0 _ rfl)⟩
theorem ARU{M:List (Nat×KF)}{i:AQ}{C:Cx}{n:Nat}{es:List FX}(hM:MF C.T M)(h:Ow (vG M) Zg i C (List.replicate n none)=some [es.map fun e=>.a 5 e])(hB:noB es=true)(ρ:FV)(ins:List (List Int)):
  Cn C.T (i.tree C) (A8 ins)∧OQ (es.map (·.ev ρ)) (i.raw C 0 ins):=by
 obtain⟨h1,ρe,h2,h3⟩:=TE (ins:=ins) (γF ρ) (aB hM ρ) (fun ds=>WB ds) h (fun j b hj=>by
  rw[zby] at hj
  split at hj<;>cases hj)
 exact⟨h1,OQ.of hB (h3 0 _ rfl)⟩
theorem OQ.fix{xs:List Fp}{l:List Int}{n:Nat}(h:OQ xs l)(hn:5*xs.length=n):Aw n l=l:=by
 subst hn;rw[← h.len];exact Au rfl
def R3(P:Pt)(l:List Int):Prop:=∃ X Y Z T,OQ [X,Y,Z,T] l∧P3 X Y Z T P
def R11(P:Pt)(l:List Int):Prop:=∃ X Y Z T,OQ [X,Y,Z,T] l∧P11 X Y Z T P
def R2(P:Pt)(l:List Int):Prop:=∃ X Y Z,OQ [X,Y,Z] l∧P2 X Y Z P
def RC(P:Pt)(l:List Int):Prop:=∃ A B C E,OQ [A,B,C,E] l∧PC A B C E P
def RA(P:Pt)(l:List Int):Prop:=∃ A B E,OQ [A,B,E] l∧AC A B E P
inductive V9 where
 |p3|p11|p2|pc|pa
def V9.n:V9→Nat
 | .p3=>20
 | .p11=>20
 | .p2=>15
 | .pc=>20
 | .pa=>15
def RR:V9→Pt→List Int→Prop
 | .p3=>R3
 | .p11=>R11
 | .p2=>R2
 | .pc=>RC
 | .pa=>RA
theorem RR.len:∀ {r:V9} {P:Pt} {l:List Int},RR r P l→l.length=r.n
 | .p3,_,_,⟨_,_,_,_,h,_⟩=>h.len
 | .p11,_,_,⟨_,_,_,_,h,_⟩=>h.len
 | .p2,_,_,⟨_,_,_,h,_⟩=>h.len
 | .pc,_,_,⟨_,_,_,_,h,_⟩=>h.len
 | .pa,_,_,⟨_,_,_,h,_⟩=>h.len
def V9.beq:V9→V9→Bool
 | .p3,.p3=>true
 | .p11,.p11=>true
 | .p2,.p2=>true
 | .pc,.pc=>true
 | .pa,.pa=>true
 |_,_=>false
theorem V9.beq_ok:∀ {a b:V9},a.beq b=true→a=b
 | .p3,.p3,_=>rfl
 | .p11,.p11,_=>rfl
 | .p2,.p2,_=>rfl
 | .pc,.pc,_=>rfl
 | .pa,.pa,_=>rfl
inductive ZX where
 |k (c:Int)
 |d (n:Nat)
 |add (a b:ZX)
 |mul (a b:ZX)
structure GV where
 P:Pt
 Q:Pt
 d:Nat→Int
 s:List Int
def ZX.ev(ρ:GV):ZX→Int
 | .k c=>c
 | .d n=>ρ.d n
 | .add x y=>x.ev ρ+y.ev ρ
 | .mul x y=>x.ev ρ*y.ev ρ
def ZX.sadd:ZX→ZX→ZX
 | .k x,.k y=>.k (x+y)
 |x,y=>.add x y
def ZX.smul:ZX→ZX→ZX
 | .k x,.k y=>.k (x*y)
 |x,y=>.mul x y
theorem ZX.sadd_ev(ρ:GV)(x y:ZX):(x.sadd y).ev ρ=x.ev ρ+y.ev ρ:=by
 unfold ZX.sadd;split<;>rfl
theorem ZX.smul_ev(ρ:GV)(x y:ZX):(x.smul y).ev ρ=x.ev ρ*y.ev ρ:=by
 unfold ZX.smul;split<;>rfl
def Le(a b:Int):Bool:=Bj a b&&Bj b a
def ZX.beq:ZX→ZX→Bool
 | .k x,.k y=>Le x y
 | .d x,.d y=>Nat.beq x y
 | .add x y,.add z w=>x.beq z&&y.beq w
 | .mul x y,.mul z w=>x.beq z&&y.beq w
 |_,_=>false
theorem ZX.beq_ok(ρ:GV):∀ {x y:ZX},x.beq y=true→x.ev ρ=y.ev ρ:=by
 intro x
 induction x with
 |k c=>intro y h;cases y<;>simp only[ZX.beq,Le,Bd,Rc] at h;exact Int.le_antisymm (BB h.1) (BB h.2)
 |d n=>intro y h;cases y<;>simp only[ZX.beq,Rc] at h;have:=CL h;subst this;rfl
 |add a b iha ihb=>intro y h;cases y<;>simp only[ZX.beq,Bd,Rc] at h;show _+_=_+_;rw[iha h.1,ihb h.2]
 |mul a b iha ihb=>intro y h;cases y<;>simp only[ZX.beq,Bd,Rc] at h;show _*_=_*_;rw[iha h.1,ihb h.2]
theorem zS(A B C D:Pt):(A.add B).add (C.add D)=(A.add C).add (B.add D):=by
 rw[Pt.add_assoc,Pt.add_assoc, ← Pt.add_assoc B,Pt.add_comm B C,Pt.add_assoc C]
theorem WC(P:Pt)(n:Nat):P.nm (n+1)=(P.nm n).add P:=rfl
theorem WK(P:Pt):P.nm 0=Pt.zero:=rfl
theorem Qa(P Q:Pt)(n:Nat):(P.add Q).nm n=(P.nm n).add (Q.nm n):=by
 induction n with
 |zero=>rw[WK,WK,WK,Pt.add_zero]
 |succ n ih=>rw[WC,WC,WC,ih];exact zS _ _ _ _
theorem aM(P:Pt)(n:Nat):P.zm (.ofNat n)=P.nm n:=rfl
theorem ek(P:Pt)(n:Nat):P.zm (.negSucc n)=(P.nm (n+1)).neg:=rfl
theorem vw(P Q:Pt)(z:Int):(P.add Q).zm z=(P.zm z).add (Q.zm z):=by
 cases z with
 |ofNat n=>rw[aM,aM,aM];exact Qa P Q n
 |negSucc n=>rw[ek,ek,ek,Qa,Pt.neg_add]
structure Z2 where
 z:ZX
 w:ZX
def Z2.ev(ρ:GV)(a:Z2):Pt:=(ρ.P.zm (a.z.ev ρ)).add (ρ.Q.zm (a.w.ev ρ))
def Z2.sadd(a b:Z2):Z2:=⟨a.z.sadd b.z,a.w.sadd b.w⟩
def Z2.smul(x:ZX)(a:Z2):Z2:=⟨x.smul a.z,x.smul a.w⟩
def Z2.c(c:Int):Z2:=⟨.k c,.k 0⟩
theorem Z2.c_ev(ρ:GV)(c:Int):(Z2.c c).ev ρ=ρ.P.zm c:=by
 show (ρ.P.zm c).add (ρ.Q.zm 0)=_;rw[Pt.zm_zero,Pt.add_zero]
theorem Z2.sadd_ev(ρ:GV)(a b:Z2):(a.sadd b).ev ρ=(a.ev ρ).add (b.ev ρ):=by
 simp only[Z2.ev,Z2.sadd,ZX.sadd_ev,Pt.zm_add];exact zS _ _ _ _
theorem Z2.smul_ev(ρ:GV)(x:ZX)(a:Z2):(Z2.smul x a).ev ρ=(a.ev ρ).zm (x.ev ρ):=by
 simp only[Z2.ev,Z2.smul,ZX.smul_ev];rw[vw,Y6,Pt.zm_mul,Y6,Pt.zm_mul]
def Z2.beq(a b:Z2):Bool:=a.z.beq b.z&&a.w.beq b.w
theorem Z2.beq_ok(ρ:GV){a b:Z2}(h:a.beq b=true):a.ev ρ=b.ev ρ:=by
 simp only[Z2.beq,Bd] at h;simp only[Z2.ev];rw[ZX.beq_ok ρ h.1,ZX.beq_ok ρ h.2]
inductive GX where
 |pt (r:V9) (z:Z2)
 |dg (n:Nat)
 |sc
 |num (c:Int)
def γG(ρ:GV):GX→List Int→Prop
 | .pt r z,l=>RR r (z.ev ρ) l
 | .dg n,l=>l= [ρ.d n]∧ -8≤ρ.d n∧ρ.d n≤8
 | .sc,l=>l=ρ.s
 | .num c,l=>l= [c]
def Te(r:V9):List Pt→List Int→Prop
 | [],l=>l= []
 |P::Ps,l=>∃ u w,l=u++w∧RR r P u∧Te r Ps w
def AP3(r:V9)(z:Z2)(n:Nat):List (Nat×GX):=(List.range n).map fun k=>(r.n,.pt r (Z2.smul (.k (k+1:Nat)) z))
theorem Te.bl{ρ:GV}{r:V9}{f:Nat→Z2}{g:Nat→Pt}(hg:∀ k,g k=(f k).ev ρ):∀ {ks:List Nat} {l:List Int},Te r (ks.map g) l↔Em (γG ρ) (ks.map fun k=>(r.n,.pt r (f k))) l
 | [],l=>Iff.rfl
 | k::ks,l=>by
  constructor
  ·intro ⟨u,w,h1,h2,h3⟩
   exact⟨u,w,h1,h2.len,by show RR r _ u;rw[← hg k];exact h2,(Te.bl hg).1 h3⟩
  ·intro ⟨u,w,h1,h2,h3,h4⟩
   exact⟨u,w,h1,by rw[hg k];exact h3,(Te.bl hg).2 h4⟩
def gJ(r:V9):List (Bk GX)→Option Z2
 | [.a _ (.pt r' z)]=>bif r.beq r' then some z else none
 |_=>none
theorem Qy{r:V9}{ρ:GV}{ρe:Bl}{b:List (Bk GX)}{l:List Int}{z:Z2}(h:H6 (γG ρ) ρe b l)(hx:gJ r b=some z):RR r (z.ev ρ) l:=by
 unfold gJ at hx
 split at hx
 ·rename_i n r' y
  cases hb:r.beq r' with
  |false=>rw[hb] at hx;cases hx
  |true=>
   rw[hb,cond_true,Am] at hx;subst hx;have:=V9.beq_ok hb;subst this;obtain⟨u,w,h1,h2,h3⟩:=h;have hw:w= []:=h3;rw[hw,TL] at h1;subst h1;exact h2.2
 ·cases hx
def qg(r:V9)(z:Z2):Nat→Nat→List (Bk GX)→Bool
 |0,_,[]=>true
 |n+1,k,.a _ (.pt r' y)::bs=>r.beq r'&&y.beq (Z2.smul (.k (k+1:Nat)) z)&&qg r z n (k+1) bs
 |_,_,_=>false
theorem oW{r:V9}{z:Z2}{ρ:GV}{ρe:Bl}:∀ {n k:Nat} {bs:List (Bk GX)} {l:List Int},qg r z n k bs=true→H6 (γG ρ) ρe bs l→Te r ((List.range n).map fun j=>(z.ev ρ).zm ((k+j+1:Nat):Int)) l
 |0,k,[],l,_,h=>h
 |0,k,_::_,l,hb,h=>by cases hb
 | n + 1,k,bs,l,hb,h=>by
  match bs,hb with
  | .a m (.pt r' y)::bs',hb=>
   unfold qg at hb;simp only[Bd] at hb;obtain⟨⟨h1,h2⟩,h3⟩:=hb;have:=V9.beq_ok h1;subst this;obtain⟨u,w,g1,g2,g3⟩:=h;rw[List.range_succ_eq_map,NT,List.map_map];refine⟨u,w,g1,?_,?_⟩
   ·have e:=Z2.beq_ok ρ h2;have g:=g2.2;simp only[γG] at g;rw[e,Z2.smul_ev] at g;exact g
   ·have:=oW h3 g3;have e:((fun j=>(z.ev ρ).zm ((k+j+1:Nat):Int)) ∘ Nat.succ)=fun j=>(z.ev ρ).zm ((k+1+j+1:Nat):Int):=by
     funext j;simp only[Function.comp];congr 1;omega
    rw[e];exact this
def AM0:List (Bk GX)→Option Nat
 | [.a _ (.dg n)]=>some n
 |_=>none
theorem AIZ{ρ:GV}{ρe:Bl}{b:List (Bk GX)}{l:List Int}{n:Nat}(h:H6 (γG ρ) ρe b l)(hx:AM0 b=some n):l= [ρ.d n]∧ -8≤ρ.d n∧ρ.d n≤8:=by
 unfold AM0 at hx
 split at hx
 ·simp only[Am] at hx;subst hx;obtain⟨u,w,h1,h2,h3⟩:=h;have hw:w= []:=h3;rw[hw,TL] at h1;subst h1;exact h2.2
 ·cases hx
def AKF:List (Bk GX)→Bool
 | [.a _ .sc]=>true
 |_=>false
theorem AG2{ρ:GV}{ρe:Bl}{b:List (Bk GX)}{l:List Int}(h:H6 (γG ρ) ρe b l)(hx:AKF b=true):l=ρ.s:=by
 unfold AKF at hx
 split at hx
 ·obtain⟨u,w,h1,h2,h3⟩:=h;have hw:w= []:=h3;rw[hw,TL] at h1;subst h1;exact h2.2
 ·cases hx
theorem KV{a b:Int}(h:Le a b=true):a=b:=by
 simp only[Le,Bd] at h;exact Int.le_antisymm (BB h.1) (BB h.2)
def AHS:List (Bk GX)→Option Bool
 | [.lit c]=>bif Le c 1 then some true else bif Le c 0 then some false else none
 | [.a _ (.num c)]=>bif Le c 1 then some true else bif Le c 0 then some false else none
 |_=>none
theorem AGR{c:Int}{b:Bool}(h:(bif Le c 1 then some true else bif Le c 0 then some false else none)=some b):c=bif b then 1 else 0:=by
 cases h1:Le c 1 with
 |true=>rw[h1,cond_true,Am] at h;subst h;exact KV h1
 |false=>
  rw[h1,cond_false] at h
  cases h0:Le c 0 with
  |true=>rw[h0,cond_true,Am] at h;subst h;exact KV h0
  |false=>rw[h0] at h;cases h
theorem wZ{ρ:GV}{ρe:Bl}{b:List (Bk GX)}{l:List Int}{c:Bool}(h:H6 (γG ρ) ρe b l)(hx:AHS b=some c):l= [bif c then 1 else 0]:=by
 unfold AHS at hx
 split at hx
 ·obtain⟨u,w,h1,h2,h3⟩:=h;have hw:w= []:=h3;rw[hw,TL] at h1;subst h1;rw[← AGR hx];exact h2
 ·obtain⟨u,w,h1,h2,h3⟩:=h;have hw:w= []:=h3;rw[hw,TL] at h1;subst h1;rw[← AGR hx];exact h2.2
 ·cases hx
inductive KP where
 |selc (r:V9)
 |cneg (r:V9)
 |op1 (ra rb:V9)
 |dbl
 |op2 (ra rb rc:V9)
 |cst (r:V9) (c:Int)
 |tab (r:V9) (n:Nat)
 |sel (r:V9) (n:Nat)
 |rad (n:Nat)
 |tab32
def wI(r:V9)(n:Nat):Nat→Int→List (Nat×GX)
 |0,_=>[]
 |m+1,c=>AP3 r (.c c) n++wI r n m (256*c)
def KP.tf:KP→Nat→List (List (Bk GX))→Option (List (Nat×GX))
 | .selc r,0,[_,a,b,c]=>(match gJ r a,gJ r b,AHS c with
  |some x,some y,some n=>some [(r.n,.pt r (bif n then x else y))]
  |_,_,_=>none)
 | .cneg r,0,[a,c]=>(match gJ r a,AHS c with
  |some x,some n=>some [(r.n,.pt r (bif n then Z2.smul (.k (-1)) x else x))]
  |_,_=>none)
 | .op1 ra rb,0,[_,a]=>(match gJ ra a with
  |some x=>some [(rb.n,.pt rb x)]
  |none=>none)
 | .dbl,0,[_,a]=>(match gJ .p2 a with
  |some x=>some [(20,.pt .p11 (x.sadd x))]
  |none=>none)
 | .op2 ra rb rc,0,[_,a,b]=>(match gJ ra a,gJ rb b with
  |some x,some y=>some [(rc.n,.pt rc (x.sadd y))]
  |_,_=>none)
 | .cst r c,0,_=>some [(r.n,.pt r (.c c))]
 | .tab r n,0,[_,a]=>(match gJ .p3 a with
  |some x=>some (AP3 r x n)
  |none=>none)
 | .sel r n,0,[t,_,d]=>(match t,AM0 d with
  | .a m (.pt r' z)::bs,some k=>bif qg r z n 0 (.a m (.pt r' z)::bs) then some [(r.n,.pt r (Z2.smul (.d k) z))] else none
  |_,_=>none)
 | .rad n,0,[s]=>bif AKF s then some ((List.range n).map fun k=>(1,.dg k)) else none
 | .tab32,0,[]=>some (wI .pa 8 32 1)
 |_,_,_=>none
def AG5(d:Nat→Int)(n:Nat)(l:List Int):Prop:=l=(List.range n).map d∧∀ k,k<n→ -8≤d k∧d k≤8
def AAG(P:Pt):Nat→Int→List Int→Prop
 |0,_,l=>l= []
 |m+1,c,l=>∃ u w,l=u++w∧Te .pa ((List.range 8).map fun j=>(P.zm c).zm ((j+1:Nat):Int)) u∧AAG P m (256*c) w
def KP.Ok(T:Tb)(f:Nat)(ρ:GV):KP→Prop
 | .selc r=>∀ (v a b:List Int) (P Q:Pt) (c:Bool),RR r P a→RR r Q b→OU T f [v,a,b,[bif c then 1 else 0]]∧RR r (bif c then P else Q) (gv T f 0 [v,a,b,[bif c then 1 else 0]])
 | .cneg r=>∀ (a:List Int) (P:Pt) (c:Bool),RR r P a→OU T f [a,[bif c then 1 else 0]]∧RR r (bif c then P.neg else P) (gv T f 0 [a,[bif c then 1 else 0]])
 | .op1 ra rb=>∀ (v a:List Int) (P:Pt),RR ra P a→OU T f [v,a]∧RR rb P (gv T f 0 [v,a])
 | .dbl=>∀ (v a:List Int) (P:Pt),R2 P a→OU T f [v,a]∧R11 (P.add P) (gv T f 0 [v,a])
 | .op2 ra rb rc=>∀ (v a b:List Int) (P Q:Pt),RR ra P a→RR rb Q b→OU T f [v,a,b]∧RR rc (P.add Q) (gv T f 0 [v,a,b])
 | .cst r c=>∀ (args:List (List Int)),OU T f args∧RR r (ρ.P.zm c) (gv T f 0 args)
 | .tab r n=>∀ (v a:List Int) (P:Pt),R3 P a→OU T f [v,a]∧Te r ((List.range n).map fun j=>P.zm ((j+1:Nat):Int)) (gv T f 0 [v,a])
 | .sel r n=>∀ (t v:List Int) (d:Int) (P:Pt),Te r ((List.range n).map fun j=>P.zm ((j+1:Nat):Int)) t→ -8≤d→d≤8→OU T f [t,v,[d]]∧RR r (P.zm d) (gv T f 0 [t,v,[d]])
 | .rad n=>OU T f [ρ.s]∧AG5 ρ.d n (gv T f 0 [ρ.s])
 | .tab32=>OU T f []∧AAG ρ.P 32 1 (gv T f 0 [])
section
variable{γ:GX→List Int→Prop}
theorem TB{ρe:Bl}{a:List (Bk GX)}{as:List (List (Bk GX))}{ins:List (List Int)}(h:iK γ ρe (a::as) ins):∃ x xs,ins=x::xs∧H6 γ ρe a x∧iK γ ρe as xs:=by
 match ins,h with
 |x::xs,h=>exact⟨x,xs,rfl,h.1,h.2⟩
theorem kF{ρe:Bl}{ins:List (List Int)}(h:iK γ ρe [] ins):ins= []:=by
 match ins,h with
 | [],h=>rfl
end
theorem GX.c1{ρ:GV}{x:GX}{n:Nat}{l:List Int}(hl:l.length=n)(h:γG ρ x l):Em (γG ρ) [(n,x)] l:=⟨l,[],by simp,hl,h,rfl⟩
theorem AEx{ρ:GV}:∀ {ks:List Nat},(∀ k,k∈ks→ -8≤ρ.d k∧ρ.d k≤8)→Em (γG ρ) (ks.map fun k=>(1,.dg k)) (ks.map ρ.d)
 | [],_=>rfl
 |k::ks,h=>⟨[ρ.d k],ks.map ρ.d,rfl,rfl,⟨rfl,h k LA⟩,AEx fun j hj=>h j (MQ _ hj)⟩
theorem AAI{A:Type}{γ:A→List Int→Prop}:∀ {b c:List (Nat×A)} {l m:List Int},Em γ b l→Em γ c m→Em γ (b++c) (l++m)
 | [],c,l,m,h,g=>by rw[show l= [] from h];exact g
 |(n,x)::b,c,l,m,⟨u,w,h1,h2,h3,h4⟩,g=>⟨u,w++m,by rw[h1,YY],h2,h3,AAI h4 g⟩
theorem zO{ρ:GV}:∀ {m:Nat} {c:Int} {l:List Int},AAG ρ.P m c l→Em (γG ρ) (wI .pa 8 m c) l
 |0,c,l,h=>h
 | m+1,c,l,⟨u,w,h1,h2,h3⟩=>by
  rw[h1];refine AAI ?_ (zO h3);exact (Te.bl (f:=fun k=>Z2.smul (.k (k+1:Nat)) (.c c)) (fun k=>by
   rw[Z2.smul_ev,Z2.c_ev];rfl)).1 h2
theorem KP.sound{T:Tb}{f:Nat}{ρ:GV}{κ:KP}(hk:κ.Ok T f ρ){o:Nat}{pa:List (List (Bk GX))}{r:List (Nat×GX)}(h:κ.tf o pa=some r){ρe:Bl}{ins:List (List Int)}(hp:iK (γG ρ) ρe pa ins):OU T f ins∧Em (γG ρ) r (gv T f o ins):=by
 unfold KP.tf at h
 split at h
 ·obtain⟨v,_,rfl,_,hp⟩:=TB hp;obtain⟨a,_,rfl,ha,hp⟩:=TB hp;obtain⟨b,_,rfl,hb,hp⟩:=TB hp;obtain⟨c,_,rfl,hc,hp⟩:=TB hp
  cases kF hp
  split at h
  ·rename_i x y n hx hy hn
   simp only[Am] at h;subst h;have:=wZ hc hn;subst this;have:=hk v a b _ _ n (Qy ha hx) (Qy hb hy);refine⟨this.1,GX.c1 this.2.len ?_⟩
   cases n<;>exact this.2
  ·cases h
 ·obtain⟨a,_,rfl,ha,hp⟩:=TB hp;obtain⟨c,_,rfl,hc,hp⟩:=TB hp
  cases kF hp
  split at h
  ·rename_i x n hx hn
   simp only[Am] at h;subst h;have:=wZ hc hn;subst this;have:=hk a _ n (Qy ha hx);refine⟨this.1,GX.c1 this.2.len ?_⟩
   cases n with
   |false=>exact this.2
   |true=>
    show RR _ ((Z2.smul (.k (-1)) x).ev ρ) _;rw[Z2.smul_ev];show RR _ ((x.ev ρ).zm (-1)) _;rw[Pt.zm_neg (x.ev ρ) 1,Pt.zm_one];exact this.2
  ·cases h
 ·obtain⟨v,_,rfl,_,hp⟩:=TB hp;obtain⟨a,_,rfl,ha,hp⟩:=TB hp
  cases kF hp
  split at h
  ·rename_i x hx
   simp only[Am] at h;subst h;have:=hk v a _ (Qy ha hx);exact⟨this.1,GX.c1 this.2.len this.2⟩
  ·cases h
 ·obtain⟨v,_,rfl,_,hp⟩:=TB hp;obtain⟨a,_,rfl,ha,hp⟩:=TB hp
  cases kF hp
  split at h
  ·rename_i x hx
   simp only[Am] at h;subst h;have:=hk v a _ (Qy (r:=.p2) ha hx);exact⟨this.1,GX.c1 (RR.len (r:=.p11) this.2) (by show R11 _ _;rw[Z2.sadd_ev];exact this.2)⟩
  ·cases h
 ·obtain⟨v,_,rfl,_,hp⟩:=TB hp;obtain⟨a,_,rfl,ha,hp⟩:=TB hp;obtain⟨b,_,rfl,hb,hp⟩:=TB hp
  cases kF hp
  split at h
  ·rename_i x y hx hy
   simp only[Am] at h;subst h;have:=hk v a b _ _ (Qy ha hx) (Qy hb hy);exact⟨this.1,GX.c1 this.2.len (by show RR _ _ _;rw[Z2.sadd_ev];exact this.2)⟩
  ·cases h
 ·simp only[Am] at h;subst h;have:=hk ins;exact⟨this.1,GX.c1 this.2.len (by show RR _ _ _;rw[Z2.c_ev];exact this.2)⟩
 ·obtain⟨v,_,rfl,_,hp⟩:=TB hp;obtain⟨a,_,rfl,ha,hp⟩:=TB hp
  cases kF hp
  split at h
  ·rename_i x hx
   simp only[Am] at h;subst h;have:=hk v a _ (Qy (r:=.p3) ha hx);refine⟨this.1,(Te.bl (f:=fun k=>Z2.smul (.k (k+1:Nat)) x) fun k=>?_).1 this.2⟩;rw[Z2.smul_ev];rfl
  ·cases h
 ·rename_i r0 n0 t0 v0 d0
  obtain⟨t,_,rfl,ht,hp⟩:=TB hp;obtain⟨v,_,rfl,_,hp⟩:=TB hp;obtain⟨d,_,rfl,hd,hp⟩:=TB hp
  cases kF hp
  split at h
  ·rename_i m r' z bs k hk'
   cases hc:qg r0 z n0 0 (.a m (.pt r' z)::bs) with
   |false=>rw[hc] at h;cases h
   | true=>
    rw[hc,cond_true,Am] at h;subst h;have h1:=oW hc ht;obtain⟨rfl,h2,h3⟩:=AIZ hd hk';have e:(List.range n0).map (fun j=>(z.ev ρ).zm ((0+j+1:Nat):Int))=(List.range n0).map (fun j=>(z.ev ρ).zm ((j+1:Nat):Int)):=by
     congr 1;funext j;congr 1;omega
    rw[e] at h1;have:=hk t v _ _ h1 h2 h3;refine⟨this.1,GX.c1 this.2.len ?_⟩;show RR _ _ _;rw[Z2.smul_ev];exact this.2
  ·cases h
 ·rename_i n s'
  obtain⟨s,_,rfl,hs,hp⟩:=TB hp
  cases kF hp
  cases hb:AKF s' with
  |false=>rw[hb] at h;cases h
  |true=>
   rw[hb,cond_true,Am] at h;subst h;have:=AG2 hs hb;subst this;refine⟨hk.1,?_⟩;rw[hk.2.1];exact AEx fun k hk'=>hk.2.2 k (fD.1 hk')
 ·cases kF hp
  simp only[Am] at h;subst h;exact⟨hk.1,zO hk.2⟩
 ·cases h
def tfG(M:List (Nat×KP)):Tf GX where
 o _ _:=none
 f f o pa:=match lk f M with
  |some κ=>κ.tf o pa
  |none=>none
 p f pa:=match lk f M with
  |some κ=>(κ.tf 0 pa).isSome
  |none=>false
inductive MG (T:Tb) (ρ:GV):List (Nat×KP)→Prop where
 |nil:MG T ρ []
 |cons {f:Nat} {κ:KP} {M:List (Nat×KP)}:κ.Ok T f ρ→MG T ρ M→MG T ρ ((f,κ)::M)
theorem MG.get{T:Tb}{ρ:GV}:∀ {M:List (Nat×KP)},MG T ρ M→∀ {f:Nat} {κ:KP},lk f M=some κ→κ.Ok T f ρ
 |_,.nil,f,κ,h=>by cases h
 | _,.cons (f:=g) h1 h2,f,κ,h=>by
  simp only[lk] at h
  cases hb:Nat.beq g f with
  |true=>
   rw[hb,cond_true,Am] at h;have:=CL hb;subst this;subst h;exact h1
  |false=>rw[hb] at h;exact h2.get h
theorem APO{T:Tb}{ρ:GV}{M:List (Nat×KP)}(hM:MG T ρ M):fT (γG ρ) T (tfG M) where
 o op pa r h:=by cases h
 f f o pa r h ρe ins hp:=by
  simp only[tfG] at h
  split at h
  ·rename_i κ hk
   have hq:∀ {ρe:Bl} {ins:List (List Int)},iK (γG ρ) ρe pa ins→Em (γG ρ) r (gv T f o ins):=fun hp=>(KP.sound (hM.get hk) h hp).2
   exact hq hp
  ·cases h
 p f pa h ρe ins hp:=by
  simp only[tfG] at h
  split at h
  ·rename_i κ hk
   obtain⟨r,hr⟩:=Option.isSome_iff_exists.1 h;exact (KP.sound (hM.get hk) hr hp).1.pre
  ·cases h
theorem gp1{ρ:GV}{ρe:Bl}{r:V9}{z:Z2}{n:Nat}{l:List Int}(h:H6 (γG ρ) ρe [.a n (.pt r z)] l):RR r (z.ev ρ) l:=by
 obtain⟨u,w,h1,h2,h3⟩:=h;have hw:w= []:=h3;rw[hw,TL] at h1;subst h1;exact h2.2
theorem gpT{ρ:GV}{ρe:Bl}{r:V9}{f:Nat→Z2}{g:Nat→Pt}(hg:∀ k,g k=(f k).ev ρ):∀ {ks:List Nat} {l:List Int},H6 (γG ρ) ρe (ks.map fun k=>.a r.n (.pt r (f k))) l→Te r (ks.map g) l
 | [],l,h=>h
 |k::ks,l,⟨u,w,h1,h2,h3⟩=>⟨u,w,h1,by rw[hg k];exact h2.2,gpT hg h3⟩
theorem Te.len{r:V9}:∀ {Ps:List Pt} {l:List Int},Te r Ps l→l.length=r.n*Ps.length
 | [],l,h=>by rw[show l= [] from h];rfl
 |P::Ps,l,⟨u,w,h1,h2,h3⟩=>by
  have h4:=h3.len;have h5:=h2.len;rw[h1,K6,h4,h5,Oq,Nat.mul_succ];omega
theorem GX.p1{ρ:GV}{r:V9}{z:Z2}{P:Pt}{l:List Int}(hz:z.ev ρ=P)(h:RR r P l):Em (γG ρ) [(r.n,.pt r z)] l:=GX.c1 h.len (by show RR r (z.ev ρ) l;rw[hz];exact h)
theorem AQ1(ρ:GV):(⟨.k 1,.k 0⟩:Z2).ev ρ=ρ.P:=(Z2.c_ev ρ 1).trans (Pt.zm_one _)
theorem AUb(ρ:GV):(⟨.k 0,.k 1⟩:Z2).ev ρ=ρ.Q:=by
 show (ρ.P.zm 0).add (ρ.Q.zm 1)=_;rw[Pt.zm_zero,Pt.zero_add,Pt.zm_one]
theorem ATv(ρ:GV):(⟨.k 1,.k 1⟩:Z2).ev ρ=ρ.P.add ρ.Q:=by
 show (ρ.P.zm 1).add (ρ.Q.zm 1)=_;rw[Pt.zm_one,Pt.zm_one]
end
section
open Go Ma
abbrev KS:=List (Nat×List Int)
def gF(lo:Nat)(ρ:Bl)(K:KS):Prop:=∀ i l,lk i K=some l→i<lo∧ρ i=l
def kX(K:KS):X→Option Int
 | .lit c=>some c
 | .v i k=>(match lk i K with
  |some l=>some (l.getD k 0)
  |none=>none)
theorem aT{lo:Nat}{ρ:Bl}{K:KS}(h:gF lo ρ K){x:X}{c:Int}(hx:kX K x=some c):x.den ρ=c:=by
 cases x with
 |lit n=>simp only[kX,Am] at hx;exact hx
 | v i k=>
  simp only[kX] at hx
  split at hx
  ·rename_i l hl
   simp only[Am] at hx;show (ρ i).getD k 0=c;rw[(h i l hl).2,hx]
  ·cases hx
def kXs(K:KS):List X→Option (List Int)
 | []=>some []
 |x::r=>(match kX K x,kXs K r with
  |some c,some l=>some (c::l)
  |_,_=>none)
theorem AC9{lo:Nat}{ρ:Bl}{K:KS}(h:gF lo ρ K):∀ {xs:List X} {l:List Int},kXs K xs=some l→xs.map (·.den ρ)=l
 | [],l,hx=>by simp only[kXs,Am] at hx;subst hx;rfl
 | x::r,l,hx=>by
  unfold kXs at hx
  split at hx
  ·rename_i c l' h1 h2
   simp only[Am] at hx;subst hx;rw[NT,aT h h1,AC9 h h2]
  ·cases hx
def AOu(K:KS):Iq→Option (List Int)
 | .vec j=>lk j K
 | .xs l=>kXs K l
theorem yM{lo:Nat}{ρ:Bl}{K:KS}(h:gF lo ρ K){a:Iq}{l:List Int}(hx:AOu K a=some l):a.den ρ=l:=by
 cases a with
 |vec j=>exact (h j l hx).2
 |xs xs=>exact AC9 h hx
def rX(K:KS):List Iq→Option (List (List Int))
 | []=>some []
 |x::r=>(match AOu K x,rX K r with
  |some c,some l=>some (c::l)
  |_,_=>none)
theorem qZ{lo:Nat}{ρ:Bl}{K:KS}(h:gF lo ρ K):∀ {xs:List Iq} {l:List (List Int)},rX K xs=some l→xs.map (·.den ρ)=l
 | [],l,hx=>by simp only[rX,Am] at hx;subst hx;rfl
 | x::r,l,hx=>by
  unfold rX at hx
  split at hx
  ·rename_i c l' h1 h2
   simp only[Am] at hx;subst hx;rw[NT,yM h h1,qZ h h2]
  ·cases hx
def kOp(op:OP)(as:List (List Int)):Option (List Int):=
 match op with
 | .fn _ _ _=>none
 |op=>some (op.den [] as)
theorem AOm{T:Tb}{op:OP}{as:List (List Int)}{l:List Int}(h:kOp op as=some l):op.den T as=l:=by
 cases op<;>simp only[kOp,Am,reduceCtorEq] at h<;>exact h
def AFS(d:FR):Option (List Int):=match d.op,d.args with
 | .eqv,[a,b]=>bif a.beq b then some [1] else none
 |_,_=>none
theorem AD5{T:Tb}{ρ:Bl}{d:FR}{l:List Int}(h:AFS d=some l):d.den T ρ=l:=by
 obtain⟨op,args⟩:=d;unfold AFS at h
 split at h
 ·rename_i a b e1 e2
  simp only at e1 e2;subst e1;subst e2
  cases hb:a.beq b with
  |false=>rw[hb] at h;cases h
  |true=>
   rw[hb,cond_true,Am] at h;subst h;have e:=Iq.beq_eq hb;subst e;simp[FR.den,OP.den,K9]
 ·cases h
def AL6(K:KS)(d:FR):Option (List Int):=match rX K d.args with
 |some as=>kOp d.op as
 |none=>AFS d
theorem AJQ{T:Tb}{lo:Nat}{ρ:Bl}{K:KS}(h:gF lo ρ K){d:FR}{l:List Int}(hl:AL6 K d=some l):d.den T ρ=l:=by
 unfold AL6 at hl
 split at hl
 ·rename_i as1 has
  rw[FR.den,qZ h has,AOm hl]
 ·exact AD5 hl
def gu:KS→List (Nat×FR)→KS
 |K,[]=>K
 |K,(n,d)::r=>gu (match AL6 K d with
  |some l=>(n,l)::K
  |none=>K) r
theorem gF.mono{lo lo':Nat}{ρ:Bl}{K:KS}(h:gF lo ρ K)(hl:lo≤lo'):gF lo' ρ K:=fun i l hi=>⟨by have:=(h i l hi).1;omega,(h i l hi).2⟩
theorem gF.ag{lo:Nat}{ρ ρ':Bl}{K:KS}(h:gF lo ρ K)(ha:Jt lo ρ ρ'):gF lo ρ' K:=fun i l hi=>⟨(h i l hi).1,by rw[ha i (h i l hi).1];exact (h i l hi).2⟩
theorem pI{T:Tb}{hi:Nat}{ρ:Bl}:∀ {ds:List (Nat×FR)} {lo:Nat} {K:KS},GM lo hi ds=true→gF lo ρ K→VJ T ρ ds→gF (nC lo ds) ρ (gu K ds)
 | [],lo,K,_,hK,_=>hK
 | (n,d)::r,lo,K,h,hK,hd=>by
  simp only[GM,Bd] at h;have h1:=Na h.1.1.1;have hd1:=hd (n,d) LA;unfold gu;show gF (nC (n+1) r) ρ (gu _ r);refine pI (ds:=r) h.2 ?_ (fun p hp=>hd p (MQ _ hp));have hK':=hK.mono (lo':=n+1) (by omega)
  split
  ·rename_i l hl
   intro i l' hi
   simp only[lk] at hi
   cases hb:Nat.beq n i with
   |true=>
    rw[hb,cond_true,Am] at hi;have:=CL hb;subst this;subst hi;refine⟨by omega,?_⟩;have e:ρ n=d.den T ρ:=hd1;rw[e,AJQ hK hl]
   |false=>rw[hb,cond_false] at hi;exact hK' i l' hi
  ·exact hK'
structure Pth where
 ds:List (Nat×FR)
 ob:List JM
 cs:List Bc
 e:Ex
 st:St
 K:KS
def ZF:KS→Bc→Option Pth
 |K,.leaf e st=>some ⟨[],[],[],e,st,K⟩
 |K,.evs ds ob t=>(match ZF (gu K ds) t with
  |some p=>some ⟨ds++p.ds,ob++p.ob,p.cs,p.e,p.st,p.K⟩
  |none=>none)
 |K,.br x t f=>(match kX K x with
  |some c=>bif Le c 0 then ZF K f else ZF K t
  |none=>none)
 |K,.chk c t=>(match ZF K t with
  |some p=>some ⟨p.ds,p.ob,c::p.cs,p.e,p.st,p.K⟩
  |none=>none)
 |_,_=>none
def Oj:Nat→KS→Bc→Bool
 |_,_,.leaf _ _=>true
 |lo,K,.evs ds ob t=>GM lo (nC lo ds) ds&&J7 (nC lo ds) ob&&Oj (nC lo ds) (gu K ds) t
 |lo,K,.br x t f=>(match kX K x with
  |some c=>bif Le c 0 then Oj lo K f else Oj lo K t
  |none=>false)
 |lo,K,.chk _ t=>Oj lo K t
 |_,_,_=>false
theorem xC{a:Int}(h:Le a 0=false):a≠0:=by
 intro e;subst e;cases h
theorem Sm{T:Tb}{np:Nat}{ρ0:Bl}:∀ {t:Bc} {lo:Nat} {K:KS} {ρ:Bl} {p:Pth},np≤lo→Jt np ρ0 ρ→gF lo ρ K→Oj lo K t=true→ZF K t=some p→
  Jt lo ρ (Dc T ρ p.ds)∧VJ T (Dc T ρ p.ds) p.ds∧XR T t ρ=some (Dc T ρ p.ds,p.e,p.st)∧Xq T t ρ=some (Dc T ρ p.ds,p.st)∧(∃ hi,gF hi (Dc T ρ p.ds) p.K)∧
   ((∀ q∈p.ob,q.den T (Dc T ρ p.ds))→(∀ c∈p.cs,∀ ρ',Jt np ρ0 ρ'→Cn T c ρ')→Cn T t ρ)
 | .leaf e st,lo,K,ρ,p,_,_,hK,_,h=>by
  simp only[ZF,Am] at h;subst h;exact⟨Jt.refl _ _,fun p hp=>(by cases hp),rfl,rfl,⟨lo,hK⟩,fun _ _=>trivial⟩
 | .evs ds0 ob0 t,lo,K,ρ,p,hnp,ha,hK,hk,h=>by
  simp only[Oj,Bd] at hk;unfold ZF at h
  split at h
  ·rename_i p' ht
   simp only[Am] at h;subst h;obtain⟨g1,g2⟩:=WZ T ρ hk.1.1;have hle:=cB hk.1.1;have ha':Jt np ρ0 (Dc T ρ ds0):=ha.trans g1 hnp;obtain⟨k1,k2,k3,k4,k5,k6⟩:=Sm (T:=T) (ρ:=Dc T ρ ds0) (by omega) ha' (pI hk.1.1 (hK.ag g1) g2) hk.2 ht;simp only;rw[Q9];refine⟨g1.trans k1 hle,fun p hp=>?_,k3,k4,k5,fun ho hc=>⟨fun q hq=>?_,k6 (fun q hq=>ho q (vH _ hq)) hc⟩⟩
   ·rcases iQ.1 hp with hp|hp
    ·exact (g2.agE hk.1.1 k1) p hp
    ·exact k2 p hp
   ·exact (JM.den_agE k1 hk.1.2 q hq).1 (ho q (List.mem_append_left _ hq))
  ·cases h
 | .br x t f,lo,K,ρ,p,hnp,ha,hK,hk,h=>by
  unfold Oj at hk;unfold ZF at h
  split at h
  ·rename_i c hc
   rw[hc] at hk;simp only at hk;have hx:=aT hK hc
   cases hb:Le c 0 with
   |true=>
    rw[hb,cond_true] at h hk;have e:=KV hb;obtain⟨k1,k2,k3,k4,k5,k6⟩:=Sm (T:=T) hnp ha hK hk h;have hx0:x.den ρ=0:=by rw[hx,e]
    refine⟨k1,k2,by unfold XR;rw[if_pos hx0];exact k3,by unfold Xq;rw[if_pos hx0];exact k4,k5,fun ho hc=>⟨fun _=>k6 ho hc,fun hn=>absurd hx0 hn⟩⟩
   |false=>
    rw[hb,cond_false] at h hk;have e:=xC hb;obtain⟨k1,k2,k3,k4,k5,k6⟩:=Sm (T:=T) hnp ha hK hk h;have hx0:x.den ρ≠0:=by rw[hx];exact e
    refine⟨k1,k2,by unfold XR;rw[if_neg hx0];exact k3,by unfold Xq;rw[if_neg hx0];exact k4,k5,fun ho hc=>⟨fun hn=>absurd hn hx0,fun _=>k6 ho hc⟩⟩
  ·cases h
 | .chk c t,lo,K,ρ,p,hnp,ha,hK,hk,h=>by
  unfold Oj at hk;unfold ZF at h
  split at h
  ·rename_i p' ht
   simp only[Am] at h;subst h;obtain⟨k1,k2,k3,k4,k5,k6⟩:=Sm (T:=T) hnp ha hK hk ht;exact⟨k1,k2,k3,k4,k5,fun ho hc=>⟨hc c LA ρ ha,k6 ho fun c' h'=>hc c' (MQ _ h')⟩⟩
  ·cases h
 | .brc _ _ _ _,_,_,_,_,_,_,_,hk,_=>by cases hk
 | .bad _,_,_,_,_,_,_,_,hk,_=>by cases hk
section
variable{A:Type}(γ:A→List Int→Prop)
def nmS(nm:Int→Option A):KS→BS A→BS A
 | [],s=>s
 |(i,[c])::r,s=>(match nm c with
  |some x=>(i,[(1,x)])::nmS nm r s
  |none=>nmS nm r s)
 |_::r,s=>nmS nm r s
theorem AEA{nm:Int→Option A}(hn:∀ c x,nm c=some x→γ x [c]){ρ:Bl}{s:BS A}(hs:Xg γ ρ s):∀ {K:KS},(∀ p∈K,ρ p.1=p.2)→Xg γ ρ (nmS nm K s)
 | [],_=>hs
 | (j,l)::r,hK=>by
  have ih:=AEA hn hs (K:=r) fun p hp=>hK p (MQ _ hp)
  unfold nmS
  split
  ·rename_i h;cases h
  ·rename_i j' c r' he
   cases he
   have hj:=hK (j,[c]) LA
   split
   ·rename_i x hx
    intro i bs hi
    simp only[lk] at hi
    cases hb:Nat.beq j i with
    |true=>
     rw[hb,cond_true,Am] at hi;have:=CL hb;subst this;subst hi;exact⟨[c],[],hj,rfl,hn c x hx,rfl⟩
    |false=>rw[hb,cond_false] at hi;exact ih i bs hi
   ·exact ih
  ·rename_i p r' _ he
   cases he
   exact ih
def nQ:Nat→List (Option (List Int))→KS
 |_,[]=>[]
 |j,none::r=>nQ (j+1) r
 |j,some l::r=>(j,l)::nQ (j+1) r
theorem Xk:∀ {l:List (Option (List Int))} {j i:Nat} {b:List Int},lk i (nQ j l)=some b→∃ k,i=j+k∧l[k]? = some (some b)
 | [],j,i,bs,h=>by simp[nQ,lk] at h
 |none::r,j,i,bs,h=>by
  simp only[nQ] at h;obtain⟨k,h1,h2⟩:=Xk h;exact⟨k+1,by omega,by simpa using h2⟩
 | some b::r,j,i,bs,h=>by
  simp only[nQ,lk] at h
  cases hb:Nat.beq j i with
  |true=>
   rw[hb,cond_true,Am] at h;have:=CL hb;exact⟨0,by omega,by rw[← h];rfl⟩
  |false=>
   rw[hb,cond_false] at h;obtain⟨k,h1,h2⟩:=Xk h;exact⟨k+1,by omega,by simpa using h2⟩
def oZ:KS→Bool
 | []=>true
 |(i,_)::r=>(match lk i r with
  |some _=>false
  |none=>true)&&oZ r
theorem pV:∀ {K:KS},oZ K=true→∀ p∈K,lk p.1 K=some p.2
 | [],_,p,hp=>by cases hp
 | (i,l)::r,h,p,hp=>by
  simp only[oZ,Bd] at h
  rcases J4.1 hp with rfl|hp
  ·simp only[lk,Nat.beq_refl,cond_true]
  ·have ih:=pV h.2 p hp;simp only[lk]
   cases hb:Nat.beq i p.1 with
   |true=>
    have:=CL hb;subst this;rw[ih] at h
    cases h.1
   |false=>rw[cond_false];exact ih
def ADl (t:Tf A) (nm:Int→Option A) (oth:List (Nat×FR)→BS A→JM→Bool) (tr:Bc) (C:Cx) (s0:Az) (rvs:List ResultVar) (kin:List (Option (List Int))) (bin:List (Option (List (Nat×A)))):Option (List Bc×List (List (Bk A))):=
 match ZF (nQ 0 kin) tr with
 | some p=>bif Oj s0.params.length (nQ 0 kin) tr&&Nat.beq bin.length s0.params.length&&Nat.beq kin.length s0.params.length&&oZ p.K then
   (let s:=eO t (nmS nm p.K (YW 0 bin)) p.ds
     bif p.ob.all (ABs t (oth p.ds) s) then (match Lr C s0 rvs p.st with
   |some es=>(match Um s es with
    |some r=>some (p.cs,r)
    |none=>none)
   |none=>none) else none) else none
 |none=>none
theorem ADv{t:Tf A}{nm:Int→Option A}{oth:List (Nat×FR)→BS A→JM→Bool}{i:AQ}{C:Cx}{kin:List (Option (List Int))}{bin:List (Option (List (Nat×A)))}{cs:List Bc}{r:List (List (Bk A))}(hn:∀ c x,nm c=some x→γ x [c])(ht:fT γ C.T t)(ho:∀ ds,nL γ C.T ds (oth ds))(h:ADl t nm oth (i.tree C) C i.s0 i.rvs kin bin=some (cs,r)){ins:List (List Int)}(hk:∀ (j:Nat) (l:List Int),kin[j]? = some (some l)→ins.getD j []=l)(hb:∀ (j:Nat) (b:List (Nat×A)),bin[j]? = some (some b)→Em γ b (ins.getD j [])):
  ((∀ c∈cs,∀ ρ',Jt i.s0.params.length (A8 ins) ρ'→Cn C.T c ρ')→Cn C.T (i.tree C) (A8 ins))∧∃ ρ:Bl,(∀ j,j<i.s0.params.length→ρ j=ins.getD j [])∧∀ (k:Nat) (b:List (Bk A)),r[k]? = some b→H6 γ ρ b (i.raw C k ins):=by
 unfold ADl at h
 split at h
 ·rename_i p hl
  cases hc:(Oj i.s0.params.length (nQ 0 kin) (i.tree C)&&Nat.beq bin.length i.s0.params.length&&Nat.beq kin.length i.s0.params.length&&oZ p.K) with
  |false=>rw[hc] at h;cases h
  |true=>
  rw[hc,cond_true] at h;simp only[Bd] at hc;have hlen:=CL hc.1.1.2;have ac5:=CL hc.1.2;have hK0:gF i.s0.params.length (A8 ins) (nQ 0 kin):=fun j l hj=>by
   obtain⟨k,h1,h2⟩:=Xk hj;rw[NU] at h1;subst h1;have hlt:j<kin.length:=(Pi.1 h2).1;exact⟨by omega,hk j l h2⟩
  obtain⟨k1,k2,k3,k4,⟨hi,k5⟩,k6⟩:=Sm (T:=C.T) (np:=i.s0.params.length) (ρ0:=A8 ins) (ρ:=A8 ins) (JP _) (Jt.refl _ _) hK0 hc.1.1.1 hl;have hρ:∀ j,j<i.s0.params.length→Dc C.T (A8 ins) p.ds j=ins.getD j []:=fun j hj=>by rw[k1 j hj];rfl
  have hin:Xg γ (Dc C.T (A8 ins) p.ds) (YW 0 bin):=fun j bs hj=>by
   obtain⟨k,h1,h2⟩:=XV hj;rw[NU] at h1;subst h1;have hlt:j<bin.length:=(Pi.1 h2).1;rw[hρ j (by omega)];exact hb j bs h2
  have hin':Xg γ (Dc C.T (A8 ins) p.ds) (nmS nm p.K (YW 0 bin)):=AEA γ hn hin fun q hq=>(k5 q.1 q.2 (pV hc.2 q hq)).2
  have hS:=di γ ht hin' k2;simp only at h
  cases hob:p.ob.all (ABs t (oth p.ds) (eO t (nmS nm p.K (YW 0 bin)) p.ds)) with
  |false=>rw[hob] at h;cases h
  |true=>
  rw[hob,cond_true] at h
  split at h
  ·rename_i es Θ
   split at h
   ·rename_i r' hr
    simp only[Am,Prod.mk.injEq] at h;obtain⟨rfl,rfl⟩:=h;refine⟨k6 fun q hq=>AAY γ ht (ho p.ds) k2 hS (Ll.1 hob q hq),Dc C.T (A8 ins) p.ds,hρ,fun k b hk=>?_⟩;obtain⟨e',g1,g2⟩:=UD hr k b hk;have:i.raw C k ins=e'.1.map (·.den (Dc C.T (A8 ins) p.ds)):=by
     unfold AQ.raw SF;rw[k4];simp only[Θ,g1]
    rw[this];exact QU γ hS _ _ _ g2
   ·cases h
  ·cases h
 ·cases h
end
end
section
open Go Ma
def Px(l:List Int)(o:Nat):Prop:=∀ k,k<5→l.getD (o+k) 0=0
def AEL:FR→Option (Nat×Nat)
 |⟨.eqv,[.xs (.v j o::r),.xs [.lit a,.lit b,.lit c,.lit d,.lit e]]⟩=>bif Qd j o (.v j o::r)&&Nat.beq r.length 4&&Le a 0&&Le b 0&&Le c 0&&Le d 0&&Le e 0 then some (j,o) else none
 |_=>none
theorem AMN{b:Bool}(h:K9 b≠0):b=true:=by
 cases b with
 |true=>rfl
 |false=>exact absurd rfl h
theorem ACj{T:Tb}{ρ:Bl}{d:FR}{p:Nat×Nat}(h:AEL d=some p)(hd:(d.den T ρ).getD 0 0≠0):Px (ρ p.1) p.2:=by
 unfold AEL at h
 split at h
 ·rename_i j o r a b c d e
  cases hb:(Qd j o (.v j o::r)&&Nat.beq r.length 4&&Le a 0&&Le b 0&&Le c 0&&Le d 0&&Le e 0) with
  |false=>rw[hb] at h;cases h
  |true=>
   rw[hb,cond_true,Am] at h;subst h;simp only[Bd] at hb;obtain⟨⟨⟨⟨⟨⟨h1,h2⟩,ha⟩,hb⟩,hc⟩,hd'⟩,he⟩:=hb;have ha:=KV ha;have hb:=KV hb;have hc:=KV hc;have hd':=KV hd';have he:=KV he;subst ha;subst hb;subst hc;subst hd';subst he;have h2:=CL h2;have h3:((X.v j o::r).map (·.den ρ) == [0,0,0,0,0])=true:=AMN hd;have h4:=eq_of_beq h3;rw[ZU h1,Oq,h2] at h4
   intro k hk
   have:=QL (fun l=>l[k]?) h4;simp only[OX] at this;rw[List.getElem?_range (by omega)] at this;simp only[Xa] at this
   match k,hk with
   |0,_=>simpa using this
   |1,_=>simpa using this
   |2,_=>simpa using this
   |3,_=>simpa using this
   |4,_=>simpa using this
 ·cases h
abbrev PN:=Nat×Nat
def pnB(a b:PN):Bool:=Nat.beq a.1 b.1&&Nat.beq a.2 b.2
def ACI(p:PN):List PN→Bool
 | []=>false
 |q::r=>pnB p q||ACI p r
theorem j4{p:PN}:∀ {l:List PN},ACI p l=true→p∈l
 | [],h=>by cases h
 | q::r,h=>by
  simp only[ACI,Bool.or_eq_true,pnB,Bd] at h
  rcases h with h|h
  ·have e:p=q:=Prod.ext (CL h.1) (CL h.2);rw[e];exact LA
  ·exact MQ _ (j4 h)
def Xw(np:Nat):List (Nat×PN)→List (Nat×FR)→List (Nat×PN)
 |K,[]=>K
 |K,(n,d)::r=>Xw np (match AEL d with
  |some p=>bif Nat.blt p.1 np then (n,p)::K else K
  |none=>K) r
def ATL(pts:List PN)(K:List (Nat×PN))(tr:List PN):JM→Bool
 | .zr (.v n 0)=>(match lk n K with
  |some (j,o)=>Nat.ble 5 o&&ACI (j,o-5) pts&&ACI (j,o-5) tr
  |none=>false)
 |_=>false
def lL(np:Nat)(pts:List PN):Nat→List (Nat×PN)→List PN→Bc→Bool
 |_,_,_,.leaf _ _=>true
 |lo,K,tr,.evs ds ob t=>GM lo (nC lo ds) ds&&ob.all (ATL pts (Xw np K ds) tr)&&lL np pts (nC lo ds) (Xw np K ds) tr t
 |lo,K,tr,.br (.v n 0) t f=>(match lk n K with
  |some p=>lL np pts lo K (p::tr) t
  |none=>lL np pts lo K tr t)&&lL np pts lo K tr f
 |_,_,_,_=>false
def AAr(np lo:Nat)(ρ:Bl)(K:List (Nat×PN)):Prop:=∀ n p,lk n K=some p→n<lo∧p.1<np∧((ρ n).getD 0 0≠0→Px (ρ p.1) p.2)
theorem jE{T:Tb}{np hi:Nat}{ρ:Bl}:∀ {ds:List (Nat×FR)} {lo:Nat} {K:List (Nat×PN)},GM lo hi ds=true→AAr np lo ρ K→VJ T ρ ds→AAr np (nC lo ds) ρ (Xw np K ds)
 | [],lo,K,_,hK,_=>hK
 | (n,d)::r,lo,K,h,hK,hd=>by
  simp only[GM,Bd] at h;have h1:=Na h.1.1.1;have hd1:ρ n=d.den T ρ:=hd (n,d) LA;unfold Xw;show AAr np (nC (n+1) r) ρ (Xw np _ r);refine jE (ds:=r) h.2 ?_ (fun p hp=>hd p (MQ _ hp));have hK':AAr np (n+1) ρ K:=fun m p hm=>⟨by have:=(hK m p hm).1;omega,(hK m p hm).2⟩
  split
  ·rename_i p hp
   cases hb:Nat.blt p.1 np with
   |false=>exact hK'
   | true=>
    rw[cond_true]
    intro m q hm
    simp only[lk] at hm
    cases hbb:Nat.beq n m with
    |true=>
     rw[hbb,cond_true,Am] at hm;have:=CL hbb;subst this;subst hm;exact⟨by omega,Na hb,fun hne=>ACj hp (hd1 ▸ hne)⟩
    |false=>rw[hbb,cond_false] at hm;exact hK' m q hm
  ·exact hK'
theorem XY{T:Tb}{np:Nat}{pts:List PN}{ρ0:Bl}(hp:∀ p∈pts,¬(Px (ρ0 p.1) p.2∧Px (ρ0 p.1) (p.2+5))):∀ {t:Bc} {lo:Nat} {K:List (Nat×PN)} {tr:List PN} {ρ:Bl},np≤lo→Jt np ρ0 ρ→AAr np lo ρ K→(∀ p∈tr,Px (ρ0 p.1) p.2)→lL np pts lo K tr t=true→Cn T t ρ
 | .leaf _ _,_,_,_,_,_,_,_,_,_=>trivial
 | .evs ds ob t,lo,K,tr,ρ,hnp,ha,hK,htr,h=>by
  unfold lL at h;simp only[Bd] at h;obtain⟨g1,g2⟩:=WZ T ρ h.1.1;have hle:=cB h.1.1;have ha':Jt np ρ0 (Dc T ρ ds):=ha.trans g1 hnp;have hK1:AAr np lo (Dc T ρ ds) K:=fun n p hn=>⟨(hK n p hn).1,(hK n p hn).2.1,by
   have h1:=hK n p hn;rw[g1 n h1.1,g1 p.1 (by omega)];exact h1.2.2⟩
  have hK2:=jE h.1.1 hK1 g2;refine⟨fun q hq=>?_,XY hp (by omega) ha' hK2 htr h.2⟩;have hq:=Ll.1 h.1.2 q hq;unfold ATL at hq
  split at hq
  ·rename_i n hmem
   split at hq
   ·rename_i j o hn
    simp only[Bd] at hq;obtain⟨⟨h5,h6⟩,h7⟩:=hq;have h5:=Na h5;have h6:=hp _ (j4 h6);have h7:=htr _ (j4 h7);obtain⟨k1,k2,k3⟩:=hK2 n (j,o) hn;show (Dc T ρ ds n).getD 0 0=0;refine Classical.byContradiction fun hne=>h6 ⟨h7,?_⟩
    have:=k3 hne;simp only at this;rw[ha' j k2] at this;have e:o-5+5=o:=by omega
    show Px (ρ0 j) (o-5+5);rw[e];exact this
   ·cases hq
  ·cases hq
 | .br (.v n 0) t f,lo,K,tr,ρ,hnp,ha,hK,htr,h=>by
  unfold lL at h;simp only[Bd] at h;refine⟨fun _=>XY hp hnp ha hK htr h.2,fun hne=>?_⟩;have h1:=h.1
  split at h1
  ·rename_i p hn
   obtain⟨k1,k2,k3⟩:=hK n p hn;refine XY hp hnp ha hK ?_ h1
   intro q hq
   rcases J4.1 hq with rfl|hq
   ·have:=k3 hne;rw[ha q.1 k2] at this;exact this
   ·exact htr q hq
  ·exact XY hp hnp ha hK htr h1
 | .br (.lit _) _ _,_,_,_,_,_,_,_,_,h=>by cases h
 | .br (.v _ (_+1)) _ _,_,_,_,_,_,_,_,_,h=>by cases h
 | .brc _ _ _ _,_,_,_,_,_,_,_,_,h=>by cases h
 | .chk _ _,_,_,_,_,_,_,_,_,h=>by cases h
 | .bad _,_,_,_,_,_,_,_,_,h=>by cases h
theorem AC6{P:Pt}{l:List Int}(h:R3 P l):¬(Px l 0∧Px l 5):=by
 obtain⟨X,Y,Z,T,⟨u,w,h1,h2,u2,w2,h3,h4,_⟩,hP⟩:=h
 intro ⟨g1,g2⟩
 have hu:u.length=5:=h2.1.1;have hu2:u2.length=5:=h4.1.1;have e0:∀ k,k<5→u.getD k 0=0:=fun k hk=>by
  have:=g1 k hk;rw[h1,List.getD,gI (by omega),NU] at this;exact this
 have e1:∀ k,k<5→u2.getD k 0=0:=fun k hk=>by
  have:=g2 k hk;rw[h1,h3,List.getD,mH (by omega),hu,Nat.add_sub_cancel_left,gI (by omega)] at this;exact this
 have x0:X=0:=by
  rw[← h2.2,show Nk u=0 by unfold Nk;rw[e0 0 (by omega),e0 1 (by omega),e0 2 (by omega),e0 3 (by omega),e0 4 (by omega)];rfl,LW]
 have y0:Y=0:=by
  rw[← h4.2,show Nk u2=0 by unfold Nk;rw[e1 0 (by omega),e1 1 (by omega),e1 2 (by omega),e1 3 (by omega),e1 4 (by omega)];rfl,LW]
 have hx:=hP.x;have hy:=hP.y;have hz:=hP.z;rw[x0] at hx;rw[y0] at hy;have hc:=P.h;unfold Ph at hc;have px:P.x=0:=Om hz (by rw[← hx];grind);have py:P.y=0:=Om hz (by rw[← hy];grind);rw[px,py] at hc;exact absurd (show (0:Fp)=1 by grind) (by decide +kernel)
inductive InK:List (Option (List Int))→List (List Int)→Prop where
 |nil:InK [] []
 |no {l:List Int} {bs:List (Option (List Int))} {ls:List (List Int)}:InK bs ls→InK (none::bs) (l::ls)
 |yes {l:List Int} {bs:List (Option (List Int))} {ls:List (List Int)}:InK bs ls→InK (some l::bs) (l::ls)
theorem InK.get:∀ {bs:List (Option (List Int))} {ls:List (List Int)},InK bs ls→∀ (j:Nat) (b:List Int),bs[j]? = some (some b)→ls.getD j []=b
 |_,_,.nil,j,b,h=>by simp at h
 |_,_,.no h1,0,b,h=>by simp at h
 |_,_,.no h1,j+1,b,h=>by
  have:=h1.get j b (by simpa using h)
  simpa using this
 |_,_,.yes h1,0,b,h=>by
  simp only[VT,Am] at h;subst h;rfl
 |_,_,.yes h1,j+1,b,h=>by
  have:=h1.get j b (by simpa using h)
  simpa using this
section
variable{A:Type}{γ:A→List Int→Prop}
def TT(t:Tf A)(nm:Int→Option A)(tr:Bc)(C:Cx)(s0:Az)(rvs:List ResultVar)(kin:List (Option (List Int)))(bin:List (Option (List (Nat×A))))(pts:List PN):Option (List (List (Bk A))):=
 match ADl t nm Zg tr C s0 rvs kin bin with
 |some (cs,r)=>bif cs.all (lL s0.params.length pts s0.params.length [] []) then some r else none
 |none=>none
theorem nY{t:Tf A}{nm:Int→Option A}{i:AQ}{C:Cx}{kin:List (Option (List Int))}{bin:List (Option (List (Nat×A)))}{pts:List PN}{r:List (List (Bk A))}(hn:∀ c x,nm c=some x→γ x [c])(ht:fT γ C.T t)(h:TT t nm (i.tree C) C i.s0 i.rvs kin bin pts=some r){ins:List (List Int)}(hk:InK kin ins)(hb:fK γ bin ins)(hp:∀ p∈pts,¬(Px (ins.getD p.1 []) p.2∧Px (ins.getD p.1 []) (p.2+5))):
  Cn C.T (i.tree C) (A8 ins)∧∃ ρ:Bl,(∀ j,j<i.s0.params.length→ρ j=ins.getD j [])∧∀ (k:Nat) (b:List (Bk A)),r[k]? = some b→H6 γ ρ b (i.raw C k ins):=by
 unfold TT at h
 split at h
 ·rename_i cs r' hr
  cases hc:cs.all (lL i.s0.params.length pts i.s0.params.length [] []) with
  |false=>rw[hc] at h;cases h
  |true=>
   rw[hc,cond_true,Am] at h;subst h;obtain⟨h1,h2⟩:=ADv γ hn ht (fun ds=>WB ds) hr hk.get hb.get;exact⟨h1 fun c hcc ρ' ha=>XY (ρ0:=A8 ins) hp (JP _) ha (fun n p hn=>by cases hn) (fun p hp=>by cases hp) (Ll.1 hc c hcc),h2⟩
 ·cases h
end
def nmG(c:Int):Option GX:=some (.num c)
theorem AOW{ρ:GV}(c:Int)(x:GX)(h:nmG c=some x):γG ρ x [c]:=by
 simp only[nmG,Am] at h;subst h;rfl
def nmF(_:Int):Option FX:=none
theorem AL1{ρ:FV}(c:Int)(x:FX)(h:nmF c=some x):γF ρ x [c]:=by cases h
theorem AK6{M:List (Nat×KP)}{i:AQ}{C:Cx}{ρ:GV}{kin:List (Option (List Int))}{bin:List (Option (List (Nat×GX)))}{pts:List PN}{r:List (List (Bk GX))}(hM:MG C.T ρ M)(h:TT (tfG M) nmG (i.tree C) C i.s0 i.rvs kin bin pts=some r){ins:List (List Int)}(hk:InK kin ins)(hin:fK (γG ρ) bin ins)(hp:∀ p∈pts,¬(Px (ins.getD p.1 []) p.2∧Px (ins.getD p.1 []) (p.2+5))):
  Cn C.T (i.tree C) (A8 ins)∧∃ ρe:Bl,∀ (k:Nat) (b:List (Bk GX)),r[k]? = some b→H6 (γG ρ) ρe b (i.raw C k ins):=by
 obtain⟨h1,ρe,h2,h3⟩:=nY AOW (APO hM) h hk hin hp;exact⟨h1,ρe,h3⟩
theorem xX{T:Tb}{f o:Nat}{s:Az}(h:lk f T=some (.one s))(args:List (List Int)):gv T f o args=(s.pr o).den args:=by
 simp only[gv,OP.den,h];rfl
theorem ACC{T:Tb}{f n:Nat}{M:List (Nat×KP)}{i:AQ}{C:Cx}{ρ:GV}{kin:List (Option (List Int))}{bin:List (Option (List (Nat×GX)))}{pts:List PN}{b:List (Bk GX)}(hs:lk f T=some (.one (i.sumP C)))(ho:(i.sumP C).pr 0= .l fun a=>Aw n (i.raw C 0 a))(hM:MG C.T ρ M)(h:TT (tfG M) nmG (i.tree C) C i.s0 i.rvs kin bin pts=some [b]){ins:List (List Int)}(hk:InK kin ins)(hin:fK (γG ρ) bin ins)(hp:∀ p∈pts,¬(Px (ins.getD p.1 []) p.2∧Px (ins.getD p.1 []) (p.2+5)))(hl:∀ ρe l,H6 (γG ρ) ρe b l→l.length=n):
  OU T f ins∧∃ ρe:Bl,H6 (γG ρ) ρe b (gv T f 0 ins):=by
 obtain⟨h1,ρe,h2⟩:=AK6 hM h hk hin hp;refine⟨⟨⟨_,hs,h1⟩⟩,ρe,?_⟩;have h3:=h2 0 b rfl;rw[xX hs,ho];show H6 (γG ρ) ρe b (Aw n (i.raw C 0 ins));rw[Au (hl ρe _ h3)];exact h3
end
section
open Go
def kOb(K:KS):JM→Bool
 | .rng x n=>(match kX K x with
  |some c=>Bj 0 c&&Bj c ((n:Int)-1)
  |none=>false)
 | .ge0 x=>(match kX K x with
  |some c=>Bj 0 c
  |none=>false)
 | .c01 x=>(match kX K x with
  |some c=>Le c 0||Le c 1
  |none=>false)
 | .zr x=>(match kX K x with
  |some c=>Le c 0
  |none=>false)
 | .nz x=>(match kX K x with
  |some c=> !(Le c 0)
  |none=>false)
 | .pre _ _=>false
theorem ANM{T:Tb}{lo:Nat}{ρ:Bl}{K:KS}(hK:gF lo ρ K){q:JM}(h:kOb K q=true):q.den T ρ:=by
 cases q with
 | rng x n=>
  simp only[kOb] at h
  split at h
  ·rename_i c hc
   simp only[Bd] at h;have h1:=BB h.1;have h2:=BB h.2;show 0≤x.den ρ∧x.den ρ<n;rw[aT hK hc];omega
  ·cases h
 | ge0 x=>
  simp only[kOb] at h
  split at h
  ·rename_i c hc
   show 0≤x.den ρ;rw[aT hK hc];exact BB h
  ·cases h
 | c01 x=>
  simp only[kOb] at h
  split at h
  ·rename_i c hc
   simp only[Bool.or_eq_true] at h;show x.den ρ=0∨x.den ρ=1;rw[aT hK hc]
   rcases h with h|h
   ·exact .inl (KV h)
   ·exact .inr (KV h)
  ·cases h
 | zr x=>
  simp only[kOb] at h
  split at h
  ·rename_i c hc
   show x.den ρ=0;rw[aT hK hc];exact KV h
  ·cases h
 | nz x=>
  simp only[kOb] at h
  split at h
  ·rename_i c hc
   show x.den ρ≠0;rw[aT hK hc];simp only[Bool.not_eq_true'] at h;exact xC h
  ·cases h
 |pre f l=>cases h
def kAt(q np:Nat)(c:Int):List (Option (List Int)):=List.replicate q none++some [c]::List.replicate (np-q-1) none
theorem AJK{q np:Nat}{c:Int}{j:Nat}{l:List Int}(h:(kAt q np c)[j]? = some (some l)):j=q∧l= [c]:=by
 unfold kAt at h
 rcases Nat.lt_trichotomy j q with hj|hj|hj
 ·rw[gI (by simpa using hj),zby] at h
  split at h<;>cases h
 ·subst hj;rw[mH (by simp)] at h;simp only[SX,zcu,VT,Am] at h;exact⟨rfl,h.symm⟩
 ·rw[mH (by simp;omega)] at h;simp only[SX] at h;have:j-q=(j-q-1)+1:=by omega
  rw[this,zbv,zby] at h
  split at h<;>cases h
def AH9 (i:I7) (C:Cx) (q:Nat) (c:Int):Option (Bool×Int):=
 match ZF (nQ 0 (kAt q i.s0.params.length c)) (i.tree C) with
 | some p=>bif Oj i.s0.params.length (nQ 0 (kAt q i.s0.params.length c)) (i.tree C)&&(match p.cs with
   | []=>true
   |_=>false)&&p.ob.all (kOb p.K) then (match i.leaf p.e p.st with
   | some (b,al)=>(match al[q]? with
    |some a=>(match AOu p.K a with
     |some [d]=>some (b,d)
     |_=>none)
    |none=>none)
   |none=>none) else none
 |none=>none
theorem wu{i:I7}{C:Cx}{q:Nat}{c d:Int}{b:Bool}(hq:q<i.s0.params.length)(h:AH9 i C q c=some (b,d)){ins:List (List Int)}(hi:ins.getD q []= [c]):
  Cn C.T (i.tree C) (A8 ins)∧∃ r,i.step C ins=some (b,r)∧r.getD q []= [d]:=by
 unfold AH9 at h
 split at h
 ·rename_i p hl
  cases hc:(Oj i.s0.params.length (nQ 0 (kAt q i.s0.params.length c)) (i.tree C)&&(match p.cs with
   | []=>true
   |_=>false)&&p.ob.all (kOb p.K)) with
  |false=>rw[hc] at h;cases h
  | true=>
   rw[hc,cond_true] at h;simp only[Bd] at hc;obtain⟨⟨c1,c2⟩,c3⟩:=hc;have hK0:gF i.s0.params.length (A8 ins) (nQ 0 (kAt q i.s0.params.length c)):=fun j l hj=>by
    obtain⟨k,h1,h2⟩:=Xk hj;rw[NU] at h1;subst h1;obtain⟨rfl,rfl⟩:=AJK h2;exact⟨hq,hi⟩
   obtain⟨k1,k2,k3,k4,⟨hi',k5⟩,k6⟩:=Sm (T:=C.T) (np:=i.s0.params.length) (ρ0:=A8 ins) (ρ:=A8 ins) (JP _) (Jt.refl _ _) hK0 c1 hl
   split at h
   ·rename_i b' al hlf
    split at h
    ·rename_i a ha
     split at h
     ·rename_i d' hd
      simp only[Am,Prod.mk.injEq] at h;obtain⟨rfl,rfl⟩:=h;refine⟨k6 (fun o ho=>ANM k5 (Ll.1 c3 o ho)) (fun c' ω=>?_),al.map (·.den (Dc C.T (A8 ins) p.ds)),?_,?_⟩
      ·split at c2
       ·rename_i he;rw[he] at ω;cases ω
       ·cases c2
      ·unfold I7.step;rw[k3];simp only[hlf]
      ·rw[List.getD,OX,ha];exact yM k5 hd
     ·cases h
    ·cases h
   ·cases h
 ·cases h
def Yr(i:I7)(C:Cx)(q:Nat)(n:Nat):Nat→Bool
 |0=>(match AH9 i C q (n:Int) with
  |some (b,_)=> !b
  |none=>false)
 |m+1=>(match AH9 i C q ((n:Int)-(m+1:Nat)) with
  |some (b,d)=>b&&Le d ((n:Int)-(m:Nat))
  |none=>false)&&Yr i C q n m
theorem dA{i:I7}{C:Cx}{q n:Nat}(hq:q<i.s0.params.length):∀ {m:Nat} {ins:List (List Int)} {f:Nat},Yr i C q n m=true→ins.getD q []= [(n:Int)-(m:Nat)]→m<f→Rj (i.step C) (fun ins=>Cn C.T (i.tree C) (A8 ins)) f ins
 |0,ins,0,h,hi,hf=>by omega
 | 0,ins,f+1,h,hi,hf=>by
  unfold Yr at h;rw[show ((n:Int)-((0:Nat):Int))=n by omega] at hi
  split at h
  ·rename_i b d hd
   obtain⟨h1,r,h2,h3⟩:=wu hq hd hi;simp only[Bool.not_eq_true'] at h;subst h;refine⟨h1,?_⟩;rw[h2];trivial
  ·cases h
 |m+1,ins,0,h,hi,hf=>by omega
 | m+1,ins,f+1,h,hi,hf=>by
  unfold Yr at h;simp only[Bd] at h;obtain⟨h0,hr⟩:=h
  split at h0
  ·rename_i b d hd
   simp only[Bd] at h0;obtain⟨h1,r,h2,h3⟩:=wu hq hd hi;have hb:=h0.1;subst hb;have hd':=KV h0.2;subst hd';refine⟨h1,?_⟩;rw[h2];exact dA hq hr h3 (by omega)
  ·cases h0
end
end Go.Proofs.YtloibefkijfdlaaGreatDoor
