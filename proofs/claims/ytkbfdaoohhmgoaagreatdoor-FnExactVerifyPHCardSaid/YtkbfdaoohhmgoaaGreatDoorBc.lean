/- Lists of numbers of five limbs, and functions on them. -/
import Derived.Test.YtkbfdaoohhmgoaaGreatDoorMa
namespace Go.Proofs.YtkbfdaoohhmgoaaGreatDoor
section
open Go Ma
def MM:List Fp->List Int->Prop
 | [],l=>l= []
 |x::xs,l=>∃u w,l=u++w/\Gl x u/\MM xs w
theorem MM.len:∀ {xs:List Fp} {l:List Int},MM xs l->l.length=5*xs.length
 | [],l,h=>by rw[show l= [] from h];rfl
 |x::xs,l,⟨u,w,h1,h2,h3⟩=>by
  have h4:=h3.len;have h5:u.length=5:=h2.1.1;rw[h1,NC,h4,h5,NY];omega
inductive qp {A:Type} (γ:A->List Int->Prop):List (Option (List (Nat×A)))->List (List Int)->Prop where
 |nil:qp γ [] []
 |no {l:List Int} {bs:List (Option (List (Nat×A)))} {ls:List (List Int)}:qp γ bs ls->qp γ (none::bs) (l::ls)
 |yes {b:List (Nat×A)} {l:List Int} {bs:List (Option (List (Nat×A)))} {ls:List (List Int)}:Fw γ b l->qp γ bs ls->qp γ (some b::bs) (l::ls)
theorem qp.get{A:Type}{γ:A->List Int->Prop}:∀ {bs:List (Option (List (Nat×A)))} {ls:List (List Int)},qp γ bs ls->∀(j:Nat) (b:List (Nat×A)),bs[j]? = some (some b)->Fw γ b (ls.getD j [])
 |_,_,.nil,j,b,h=>by simp at h
 |_,_,.no h1,0,b,h=>by simp at h
 |_,_,.no h1,j+1,b,h=>by
  have:=h1.get j b (by simpa using h);simpa using this
 |_,_,.yes h0 h1,0,b,h=>by
  simp only[UV,Ai] at h;subst h;simpa using h0
 |_,_,.yes h0 h1,j+1,b,h=>by
  have:=h1.get j b (by simpa using h);simpa using this
def fb(es:List FX):List (Nat×FX):=es.map λe=>(5,e)
def noB(es:List FX):Bool:=es.all λe=> !e.vr
theorem MM.bl{ρ:FV}:∀ {es:List FX} {l:List Int},noB es=true->MM (es.map (·.ev ρ)) l->Fw (γF ρ) (fb es) l
 | [],l,_,h=>h
 |e::es,l,hb,⟨u,w,h1,h2,h3⟩=>by
  simp only[noB,List.all_cons,Bj,Bool.not_eq_true'] at hb;exact⟨u,w,h1,h2.1.1,by unfold γF;rw[hb.1];exact h2,MM.bl (es:=es) hb.2 h3⟩
theorem MM.of{ρ:FV}{ρe:Bu}:∀ {es:List FX} {l:List Int},noB es=true->GK (γF ρ) ρe (es.map λe=>.a 5 e) l->MM (es.map (·.ev ρ)) l
 | [],l,_,h=>h
 |e::es,l,hb,⟨u,w,h1,h2,h3⟩=>by
  simp only[noB,List.all_cons,Bj,Bool.not_eq_true'] at hb;exact⟨u,w,h1,γF_fe h2.2 hb.1,MM.of (es:=es) hb.2 h3⟩
def C2{A:Type}:List (Nat×FT)->BS A->I1->Bool:=λ_ _ _=>false
theorem Z5{A:Type}{γ:A->List Int->Prop}{T:Tb}(ds:List (Nat×FT)):nK γ T ds (C2 ds):=λ_ _ _ _ _ h=>by cases h
theorem YI{M:List (Nat×KF)}{i:Ac}{C:Cx}{bin:List (Option (List (Nat×FX)))}{es:List FX}(hM:MF C.T M)(h:WG (xu M) C2 i C bin=some [es.map λe=>.a 5 e])(hB:noB es=true)(ρ:FV){ins:List (List Int)}(eE:qp (γF ρ) bin ins):
  Cv C.T (i.tree C) (BK ins)/\MM (es.map (·.ev ρ)) (i.raw C 0 ins):=by
 obtain⟨h1,ρe,h2,h3⟩:=V5 (γF ρ) (bR hM ρ) (λds=>Z5 ds) h eE.get;exact⟨h1,MM.of hB (h3 0 _ rfl)⟩
theorem AQV{M:List (Nat×KF)}{i:Ac}{C:Cx}{n:Nat}{es:List FX}(hM:MF C.T M)(h:WG (xu M) C2 i C (List.replicate n none)=some [es.map λe=>.a 5 e])(hB:noB es=true)(ρ:FV)(ins:List (List Int)):
  Cv C.T (i.tree C) (BK ins)/\MM (es.map (·.ev ρ)) (i.raw C 0 ins):=by
 obtain⟨h1,ρe,h2,h3⟩:=V5 (ins:=ins) (γF ρ) (bR hM ρ) (λds=>Z5 ds) h (λj b hj=>by
  rw[iF] at hj;split at hj<;>cases hj)
 exact⟨h1,MM.of hB (h3 0 _ rfl)⟩
theorem MM.fix{xs:List Fp}{l:List Int}{n:Nat}(h:MM xs l)(hn:5*xs.length=n):BF n l=l:=by
 subst hn;rw[<- h.len];exact Ay rfl
def R3(P:Pt)(l:List Int):Prop:=∃X Y Z T,MM [X,Y,Z,T] l/\P3 X Y Z T P
def zx(P:Pt)(l:List Int):Prop:=∃X Y Z T,MM [X,Y,Z,T] l/\K2 X Y Z T P
def R2(P:Pt)(l:List Int):Prop:=∃X Y Z,MM [X,Y,Z] l/\P2 X Y Z P
def RC(P:Pt)(l:List Int):Prop:=∃A B C E,MM [A,B,C,E] l/\PC A B C E P
def RA(P:Pt)(l:List Int):Prop:=∃A B E,MM [A,B,E] l/\AC A B E P
inductive SI where
 |p3|oe|p2|pc|pa
def SI.n:SI->Nat
 | .p3=>20
 | .oe=>20
 | .p2=>15
 | .pc=>20
 | .pa=>15
def RR:SI->Pt->List Int->Prop
 | .p3=>R3
 | .oe=>zx
 | .p2=>R2
 | .pc=>RC
 | .pa=>RA
theorem RR.len:∀ {r:SI} {P:Pt} {l:List Int},RR r P l->l.length=r.n
 | .p3,_,_,⟨_,_,_,_,h,_⟩=>h.len
 | .oe,_,_,⟨_,_,_,_,h,_⟩=>h.len
 | .p2,_,_,⟨_,_,_,h,_⟩=>h.len
 | .pc,_,_,⟨_,_,_,_,h,_⟩=>h.len
 | .pa,_,_,⟨_,_,_,h,_⟩=>h.len
def SI.beq:SI->SI->Bool
 | .p3,.p3=>true
 | .oe,.oe=>true
 | .p2,.p2=>true
 | .pc,.pc=>true
 | .pa,.pa=>true
 |_,_=>false
theorem SI.ef:∀ {a b:SI},a.beq b=true->a=b
 | .p3,.p3,_=>rfl
 | .oe,.oe,_=>rfl
 | .p2,.p2,_=>rfl
 | .pc,.pc,_=>rfl
 | .pa,.pa,_=>rfl
inductive ZX where
 |k (c:Int)
 |d (n:Nat)
 |add (a b:ZX)
 |mul (a b:ZX)
structure GV where
 P:Pt
 Q:Pt
 d:Nat->Int
 s:List Int
def ZX.ev(ρ:GV):ZX->Int
 | .k c=>c
 | .d n=>ρ.d n
 | .add x y=>x.ev ρ+y.ev ρ
 | .mul x y=>x.ev ρ*y.ev ρ
def ZX.tA:ZX->ZX->ZX
 | .k x,.k y=>.k (x+y)
 |x,y=>.add x y
def ZX.smul:ZX->ZX->ZX
 | .k x,.k y=>.k (x*y)
 |x,y=>.mul x y
theorem ZX.pA(ρ:GV)(x y:ZX):(x.tA y).ev ρ=x.ev ρ+y.ev ρ:=by
 unfold ZX.tA;split<;>rfl
theorem ZX.gC(ρ:GV)(x y:ZX):(x.smul y).ev ρ=x.ev ρ*y.ev ρ:=by
 unfold ZX.smul;split<;>rfl
def LM(a b:Int):Bool:=Bl a b&&Bl b a
def ZX.beq:ZX->ZX->Bool
 | .k x,.k y=>LM x y
 | .d x,.d y=>Nat.beq x y
 | .add x y,.add z w=>x.beq z&&y.beq w
 | .mul x y,.mul z w=>x.beq z&&y.beq w
 |_,_=>false
theorem ZX.ef(ρ:GV):∀ {x y:ZX},x.beq y=true->x.ev ρ=y.ev ρ:=by
 intro x
 induction x with
 |k c=>intro y h;cases y<;>simp only[ZX.beq,LM,Bj,Qo] at h;exact Int.le_antisymm (A8 h.1) (A8 h.2)
 |d n=>intro y h;cases y<;>simp only[ZX.beq,Qo] at h;have:=Ca h;subst this;rfl
 |add a b iha ye=>intro y h;cases y<;>simp only[ZX.beq,Bj,Qo] at h;show _+_=_+_;rw[iha h.1,ye h.2]
 |mul a b iha ye=>intro y h;cases y<;>simp only[ZX.beq,Bj,Qo] at h;show _*_=_*_;rw[iha h.1,ye h.2]
theorem zI(A B C D:Pt):(A.add B).add (C.add D)=(A.add C).add (B.add D):=by
 rw[Pt.add_assoc,Pt.add_assoc, <- Pt.add_assoc B,Pt.add_comm B C,Pt.add_assoc C]
theorem U7(P:Pt)(n:Nat):P.nm (n+1)=(P.nm n).add P:=rfl
theorem VU(P:Pt):P.nm 0=Pt.zero:=rfl
theorem PV(P Q:Pt)(n:Nat):(P.add Q).nm n=(P.nm n).add (Q.nm n):=by
 induction n with
 |zero=>rw[VU,VU,VU,Pt.add_zero]
 |succ n ih=>rw[U7,U7,U7,ih];exact zI _ _ _ _
theorem Y3(P:Pt)(n:Nat):P.zm (.ofNat n)=P.nm n:=rfl
theorem aW(P:Pt)(n:Nat):P.zm (.negSucc n)=(P.nm (n+1)).neg:=rfl
theorem rY(P Q:Pt)(z:Int):(P.add Q).zm z=(P.zm z).add (Q.zm z):=by
 cases z with
 |ofNat n=>rw[Y3,Y3,Y3];exact PV P Q n
 |negSucc n=>rw[aW,aW,aW,PV,Pt.neg_add]
structure Z2 where
 z:ZX
 w:ZX
def Z2.ev(ρ:GV)(a:Z2):Pt:=(ρ.P.zm (a.z.ev ρ)).add (ρ.Q.zm (a.w.ev ρ))
def Z2.tA(a b:Z2):Z2:=⟨a.z.tA b.z,a.w.tA b.w⟩
def Z2.smul(x:ZX)(a:Z2):Z2:=⟨x.smul a.z,x.smul a.w⟩
def Z2.c(c:Int):Z2:=⟨.k c,.k 0⟩
theorem Z2.G4(ρ:GV)(c:Int):(Z2.c c).ev ρ=ρ.P.zm c:=by
 show(ρ.P.zm c).add (ρ.Q.zm 0)=_;rw[Pt.gh,Pt.add_zero]
theorem Z2.pA(ρ:GV)(a b:Z2):(a.tA b).ev ρ=(a.ev ρ).add (b.ev ρ):=by
 simp only[Z2.ev,Z2.tA,ZX.pA,Pt.kj];exact zI _ _ _ _
theorem Z2.gC(ρ:GV)(x:ZX)(a:Z2):(Z2.smul x a).ev ρ=(a.ev ρ).zm (x.ev ρ):=by
 simp only[Z2.ev,Z2.smul,ZX.gC];rw[rY,bf,Pt.DQ,bf,Pt.DQ]
def Z2.beq(a b:Z2):Bool:=a.z.beq b.z&&a.w.beq b.w
theorem Z2.ef(ρ:GV){a b:Z2}(h:a.beq b=true):a.ev ρ=b.ev ρ:=by
 simp only[Z2.beq,Bj] at h;simp only[Z2.ev];rw[ZX.ef ρ h.1,ZX.ef ρ h.2]
inductive GX where
 |pt (r:SI) (z:Z2)
 |dg (n:Nat)
 |sc
 |num (c:Int)
def γG(ρ:GV):GX->List Int->Prop
 | .pt r z,l=>RR r (z.ev ρ) l
 | .dg n,l=>l= [ρ.d n]/\ -8<=ρ.d n/\ρ.d n<=8
 | .sc,l=>l=ρ.s
 | .num c,l=>l= [c]
def NE(r:SI):List Pt->List Int->Prop
 | [],l=>l= []
 |P::Ps,l=>∃u w,l=u++w/\RR r P u/\NE r Ps w
def ASR(r:SI)(z:Z2)(n:Nat):List (Nat×GX):=(List.range n).map λk=>(r.n,.pt r (Z2.smul (.k (k+1:Nat)) z))
theorem NE.bl{ρ:GV}{r:SI}{f:Nat->Z2}{g:Nat->Pt}(hg:∀k,g k=(f k).ev ρ):∀ {ks:List Nat} {l:List Int},NE r (ks.map g) l↔Fw (γG ρ) (ks.map λk=>(r.n,.pt r (f k))) l
 | [],l=>Iff.rfl
 | k::ks,l=>by
  constructor
  ·intro⟨u,w,h1,h2,h3⟩;exact⟨u,w,h1,h2.len,by show RR r _ u;rw[<- hg k];exact h2,(NE.bl hg).1 h3⟩
  ·intro⟨u,w,h1,h2,h3,h4⟩;exact⟨u,w,h1,by rw[hg k];exact h3,(NE.bl hg).2 h4⟩
def dF(r:SI):List (Bk GX)->Option Z2
 | [.a _ (.pt r' z)]=>bif r.beq r' then some z else none
 |_=>none
theorem P9{r:SI}{ρ:GV}{ρe:Bu}{b:List (Bk GX)}{l:List Int}{z:Z2}(h:GK (γG ρ) ρe b l)(hx:dF r b=some z):RR r (z.ev ρ) l:=by
 unfold dF at hx;split at hx
 ·rename_i n r' y;cases hb:r.beq r' with
  |false=>rw[hb] at hx;cases hx
  |true=>
   rw[hb,cond_true,Ai] at hx;subst hx;have:=SI.ef hb;subst this;obtain⟨u,w,h1,h2,h3⟩:=h;have hw:w= []:=h3;rw[hw,RD] at h1;subst h1;exact h2.2
 ·cases hx
def pY(r:SI)(z:Z2):Nat->Nat->List (Bk GX)->Bool
 |0,_,[]=>true
 |n+1,k,.a _ (.pt r' y)::bs=>r.beq r'&&y.beq (Z2.smul (.k (k+1:Nat)) z)&&pY r z n (k+1) bs
 |_,_,_=>false
theorem nS{r:SI}{z:Z2}{ρ:GV}{ρe:Bu}:∀ {n k:Nat} {bs:List (Bk GX)} {l:List Int},pY r z n k bs=true->GK (γG ρ) ρe bs l->NE r ((List.range n).map λj=>(z.ev ρ).zm ((k+j+1:Nat):Int)) l
 |0,k,[],l,_,h=>h
 |0,k,_::_,l,hb,h=>by cases hb
 | n + 1,k,bs,l,hb,h=>by
  match bs,hb with
  | .a m (.pt r' y)::DH,hb=>
   unfold pY at hb;simp only[Bj] at hb;obtain⟨⟨h1,h2⟩,h3⟩:=hb;have:=SI.ef h1;subst this;obtain⟨u,w,g1,g2,g3⟩:=h;rw[List.range_succ_eq_map,NM,List.map_map];refine⟨u,w,g1,?_,?_⟩
   ·have e:=Z2.ef ρ h2;have g:=g2.2;simp only[γG] at g;rw[e,Z2.gC] at g;exact g
   ·have:=nS h3 g3;have e:((λj=>(z.ev ρ).zm ((k+j+1:Nat):Int)) ∘ Nat.succ)=λj=>(z.ev ρ).zm ((k+1+j+1:Nat):Int):=by
     funext j;simp only[Function.comp];congr 1;omega
    rw[e];exact this
def AOD:List (Bk GX)->Option Nat
 | [.a _ (.dg n)]=>some n
 |_=>none
theorem AJT{ρ:GV}{ρe:Bu}{b:List (Bk GX)}{l:List Int}{n:Nat}(h:GK (γG ρ) ρe b l)(hx:AOD b=some n):l= [ρ.d n]/\ -8<=ρ.d n/\ρ.d n<=8:=by
 unfold AOD at hx;split at hx
 ·simp only[Ai] at hx;subst hx;obtain⟨u,w,h1,h2,h3⟩:=h;have hw:w= []:=h3;rw[hw,RD] at h1;subst h1;exact h2.2
 ·cases hx
def AIk:List (Bk GX)->Bool
 | [.a _ .sc]=>true
 |_=>false
theorem AIH{ρ:GV}{ρe:Bu}{b:List (Bk GX)}{l:List Int}(h:GK (γG ρ) ρe b l)(hx:AIk b=true):l=ρ.s:=by
 unfold AIk at hx;split at hx
 ·obtain⟨u,w,h1,h2,h3⟩:=h;have hw:w= []:=h3;rw[hw,RD] at h1;subst h1;exact h2.2
 ·cases hx
theorem LB{a b:Int}(h:LM a b=true):a=b:=by
 simp only[LM,Bj] at h;exact Int.le_antisymm (A8 h.1) (A8 h.2)
def AHz:List (Bk GX)->Option Bool
 | [.lit c]=>bif LM c 1 then some true else bif LM c 0 then some false else none
 | [.a _ (.num c)]=>bif LM c 1 then some true else bif LM c 0 then some false else none
 |_=>none
theorem ACw{c:Int}{b:Bool}(h:(bif LM c 1 then some true else bif LM c 0 then some false else none)=some b):c=bif b then 1 else 0:=by
 cases h1:LM c 1 with
 |true=>rw[h1,cond_true,Ai] at h;subst h;exact LB h1
 |false=>
  rw[h1,cond_false] at h;cases h0:LM c 0 with
  |true=>rw[h0,cond_true,Ai] at h;subst h;exact LB h0
  |false=>rw[h0] at h;cases h
theorem yA{ρ:GV}{ρe:Bu}{b:List (Bk GX)}{l:List Int}{c:Bool}(h:GK (γG ρ) ρe b l)(hx:AHz b=some c):l= [bif c then 1 else 0]:=by
 unfold AHz at hx;split at hx
 ·obtain⟨u,w,h1,h2,h3⟩:=h;have hw:w= []:=h3;rw[hw,RD] at h1;subst h1;rw[<- ACw hx];exact h2
 ·obtain⟨u,w,h1,h2,h3⟩:=h;have hw:w= []:=h3;rw[hw,RD] at h1;subst h1;rw[<- ACw hx];exact h2.2
 ·cases hx
inductive KP where
 |ado (r:SI)
 |aeB (r:SI)
 |DO (ra rb:SI)
 |dbl
 |HC (ra rb rc:SI)
 |cst (r:SI) (c:Int)
 |tab (r:SI) (n:Nat)
 |cf (r:SI) (n:Nat)
 |rad (n:Nat)
 |Q2
def ANH(r:SI)(n:Nat):Nat->Int->List (Nat×GX)
 |0,_=>[]
 |m+1,c=>ASR r (.c c) n++ANH r n m (256*c)
def KP.tf:KP->Nat->List (List (Bk GX))->Option (List (Nat×GX))
 | .ado r,0,[_,a,b,c]=>(match dF r a,dF r b,AHz c with
  |some x,some y,some n=>some [(r.n,.pt r (bif n then x else y))]
  |_,_,_=>none)
 | .aeB r,0,[a,c]=>(match dF r a,AHz c with
  |some x,some n=>some [(r.n,.pt r (bif n then Z2.smul (.k (-1)) x else x))]
  |_,_=>none)
 | .DO ra rb,0,[_,a]=>(match dF ra a with
  |some x=>some [(rb.n,.pt rb x)]
  |none=>none)
 | .dbl,0,[_,a]=>(match dF .p2 a with
  |some x=>some [(20,.pt .oe (x.tA x))]
  |none=>none)
 | .HC ra rb rc,0,[_,a,b]=>(match dF ra a,dF rb b with
  |some x,some y=>some [(rc.n,.pt rc (x.tA y))]
  |_,_=>none)
 | .cst r c,0,_=>some [(r.n,.pt r (.c c))]
 | .tab r n,0,[_,a]=>(match dF .p3 a with
  |some x=>some (ASR r x n)
  |none=>none)
 | .cf r n,0,[t,_,d]=>(match t,AOD d with
  | .a m (.pt r' z)::bs,some k=>bif pY r z n 0 (.a m (.pt r' z)::bs) then some [(r.n,.pt r (Z2.smul (.d k) z))] else none
  |_,_=>none)
 | .rad n,0,[s]=>bif AIk s then some ((List.range n).map λk=>(1,.dg k)) else none
 | .Q2,0,[]=>some (ANH .pa 8 32 1)
 |_,_,_=>none
def ATu(d:Nat->Int)(n:Nat)(l:List Int):Prop:=l=(List.range n).map d/\∀k,k<n-> -8<=d k/\d k<=8
def AFj(P:Pt):Nat->Int->List Int->Prop
 |0,_,l=>l= []
 |m+1,c,l=>∃u w,l=u++w/\NE .pa ((List.range 8).map λj=>(P.zm c).zm ((j+1:Nat):Int)) u/\AFj P m (256*c) w
def KP.Ok(T:Tb)(f:Nat)(ρ:GV):KP->Prop
 | .ado r=>∀(v a b:List Int) (P Q:Pt) (c:Bool),RR r P a->RR r Q b->NB T f [v,a,b,[bif c then 1 else 0]]/\RR r (bif c then P else Q) (gv T f 0 [v,a,b,[bif c then 1 else 0]])
 | .aeB r=>∀(a:List Int) (P:Pt) (c:Bool),RR r P a->NB T f [a,[bif c then 1 else 0]]/\RR r (bif c then P.neg else P) (gv T f 0 [a,[bif c then 1 else 0]])
 | .DO ra rb=>∀(v a:List Int) (P:Pt),RR ra P a->NB T f [v,a]/\RR rb P (gv T f 0 [v,a])
 | .dbl=>∀(v a:List Int) (P:Pt),R2 P a->NB T f [v,a]/\zx (P.add P) (gv T f 0 [v,a])
 | .HC ra rb rc=>∀(v a b:List Int) (P Q:Pt),RR ra P a->RR rb Q b->NB T f [v,a,b]/\RR rc (P.add Q) (gv T f 0 [v,a,b])
 | .cst r c=>∀(args:List (List Int)),NB T f args/\RR r (ρ.P.zm c) (gv T f 0 args)
 | .tab r n=>∀(v a:List Int) (P:Pt),R3 P a->NB T f [v,a]/\NE r ((List.range n).map λj=>P.zm ((j+1:Nat):Int)) (gv T f 0 [v,a])
 | .cf r n=>∀(t v:List Int) (d:Int) (P:Pt),NE r ((List.range n).map λj=>P.zm ((j+1:Nat):Int)) t-> -8<=d->d<=8->NB T f [t,v,[d]]/\RR r (P.zm d) (gv T f 0 [t,v,[d]])
 | .rad n=>NB T f [ρ.s]/\ATu ρ.d n (gv T f 0 [ρ.s])
 | .Q2=>NB T f []/\AFj ρ.P 32 1 (gv T f 0 [])
section
variable{γ:GX->List Int->Prop}
theorem Rj{ρe:Bu}{a:List (Bk GX)}{as:List (List (Bk GX))}{ins:List (List Int)}(h:fU γ ρe (a::as) ins):∃x xs,ins=x::xs/\GK γ ρe a x/\fU γ ρe as xs:=by
 match ins,h with
 |x::xs,h=>exact⟨x,xs,rfl,h.1,h.2⟩
theorem iQ{ρe:Bu}{ins:List (List Int)}(h:fU γ ρe [] ins):ins= []:=by
 match ins,h with
 | [],h=>rfl
end
theorem GX.c1{ρ:GV}{x:GX}{n:Nat}{l:List Int}(hl:l.length=n)(h:γG ρ x l):Fw (γG ρ) [(n,x)] l:=⟨l,[],by simp,hl,h,rfl⟩
theorem ACH{ρ:GV}:∀ {ks:List Nat},(∀k,k∈ks-> -8<=ρ.d k/\ρ.d k<=8)->Fw (γG ρ) (ks.map λk=>(1,.dg k)) (ks.map ρ.d)
 | [],_=>rfl
 |k::ks,h=>⟨[ρ.d k],ks.map ρ.d,rfl,rfl,⟨rfl,h k Jv⟩,ACH λj hj=>h j (MN _ hj)⟩
theorem zK{A:Type}{γ:A->List Int->Prop}:∀ {b c:List (Nat×A)} {l m:List Int},Fw γ b l->Fw γ c m->Fw γ (b++c) (l++m)
 | [],c,l,m,h,g=>by rw[show l= [] from h];exact g
 |(n,x)::b,c,l,m,⟨u,w,h1,h2,h3,h4⟩,g=>⟨u,w++m,by rw[h1,Yt],h2,h3,zK h4 g⟩
theorem zw{ρ:GV}:∀ {m:Nat} {c:Int} {l:List Int},AFj ρ.P m c l->Fw (γG ρ) (ANH .pa 8 m c) l
 |0,c,l,h=>h
 | m+1,c,l,⟨u,w,h1,h2,h3⟩=>by
  rw[h1];refine zK ?_ (zw h3);exact(NE.bl (f:=λk=>Z2.smul (.k (k+1:Nat)) (.c c)) (λk=>by
   rw[Z2.gC,Z2.G4];rfl)).1 h2
theorem KP.sound{T:Tb}{f:Nat}{ρ:GV}{κ:KP}(hk:κ.Ok T f ρ){o:Nat}{pa:List (List (Bk GX))}{r:List (Nat×GX)}(h:κ.tf o pa=some r){ρe:Bu}{ins:List (List Int)}(hp:fU (γG ρ) ρe pa ins):NB T f ins/\Fw (γG ρ) r (gv T f o ins):=by
 unfold KP.tf at h;split at h
 ·obtain⟨v,_,rfl,_,hp⟩:=Rj hp;obtain⟨a,_,rfl,ha,hp⟩:=Rj hp;obtain⟨b,_,rfl,hb,hp⟩:=Rj hp;obtain⟨c,_,rfl,hc,hp⟩:=Rj hp;cases iQ hp;split at h
  ·rename_i x y n hx hy hn;simp only[Ai] at h;subst h;have:=yA hc hn;subst this;have:=hk v a b _ _ n (P9 ha hx) (P9 hb hy);refine⟨this.1,GX.c1 this.2.len ?_⟩;cases n<;>exact this.2
  ·cases h
 ·obtain⟨a,_,rfl,ha,hp⟩:=Rj hp;obtain⟨c,_,rfl,hc,hp⟩:=Rj hp;cases iQ hp;split at h
  ·rename_i x n hx hn;simp only[Ai] at h;subst h;have:=yA hc hn;subst this;have:=hk a _ n (P9 ha hx);refine⟨this.1,GX.c1 this.2.len ?_⟩;cases n with
   |false=>exact this.2
   |true=>
    show RR _ ((Z2.smul (.k (-1)) x).ev ρ) _;rw[Z2.gC];show RR _ ((x.ev ρ).zm (-1)) _;rw[Pt.tD (x.ev ρ) 1,Pt.ke];exact this.2
  ·cases h
 ·obtain⟨v,_,rfl,_,hp⟩:=Rj hp;obtain⟨a,_,rfl,ha,hp⟩:=Rj hp;cases iQ hp;split at h
  ·rename_i x hx;simp only[Ai] at h;subst h;have:=hk v a _ (P9 ha hx);exact⟨this.1,GX.c1 this.2.len this.2⟩
  ·cases h
 ·obtain⟨v,_,rfl,_,hp⟩:=Rj hp;obtain⟨a,_,rfl,ha,hp⟩:=Rj hp;cases iQ hp;split at h
  ·rename_i x hx;simp only[Ai] at h;subst h;have:=hk v a _ (P9 (r:=.p2) ha hx);exact⟨this.1,GX.c1 (RR.len (r:=.oe) this.2) (by show zx _ _;rw[Z2.pA];exact this.2)⟩
  ·cases h
 ·obtain⟨v,_,rfl,_,hp⟩:=Rj hp;obtain⟨a,_,rfl,ha,hp⟩:=Rj hp;obtain⟨b,_,rfl,hb,hp⟩:=Rj hp;cases iQ hp;split at h
  ·rename_i x y hx hy;simp only[Ai] at h;subst h;have:=hk v a b _ _ (P9 ha hx) (P9 hb hy);exact⟨this.1,GX.c1 this.2.len (by show RR _ _ _;rw[Z2.pA];exact this.2)⟩
  ·cases h
 ·simp only[Ai] at h;subst h;have:=hk ins;exact⟨this.1,GX.c1 this.2.len (by show RR _ _ _;rw[Z2.G4];exact this.2)⟩
 ·obtain⟨v,_,rfl,_,hp⟩:=Rj hp;obtain⟨a,_,rfl,ha,hp⟩:=Rj hp;cases iQ hp;split at h
  ·rename_i x hx;simp only[Ai] at h;subst h;have:=hk v a _ (P9 (r:=.p3) ha hx);refine⟨this.1,(NE.bl (f:=λk=>Z2.smul (.k (k+1:Nat)) x) λk=>?_).1 this.2⟩;rw[Z2.gC];rfl
  ·cases h
 ·rename_i r0 n0 t0 v0 d0;obtain⟨t,_,rfl,ht,hp⟩:=Rj hp;obtain⟨v,_,rfl,_,hp⟩:=Rj hp;obtain⟨d,_,rfl,hd,hp⟩:=Rj hp;cases iQ hp;split at h
  ·rename_i m r' z bs k gj;cases hc:pY r0 z n0 0 (.a m (.pt r' z)::bs) with
   |false=>rw[hc] at h;cases h
   | true=>
    rw[hc,cond_true,Ai] at h;subst h;have h1:=nS hc ht;obtain⟨rfl,h2,h3⟩:=AJT hd gj;have e:(List.range n0).map (λj=>(z.ev ρ).zm ((0+j+1:Nat):Int))=(List.range n0).map (λj=>(z.ev ρ).zm ((j+1:Nat):Int)):=by
     congr 1;funext j;congr 1;omega
    rw[e] at h1;have:=hk t v _ _ h1 h2 h3;refine⟨this.1,GX.c1 this.2.len ?_⟩;show RR _ _ _;rw[Z2.gC];exact this.2
  ·cases h
 ·rename_i n s';obtain⟨s,_,rfl,hs,hp⟩:=Rj hp;cases iQ hp;cases hb:AIk s' with
  |false=>rw[hb] at h;cases h
  |true=>
   rw[hb,cond_true,Ai] at h;subst h;have:=AIH hs hb;subst this;refine⟨hk.1,?_⟩;rw[hk.2.1];exact ACH λk gj=>hk.2.2 k (fV.1 gj)
 ·cases iQ hp;simp only[Ai] at h;subst h;exact⟨hk.1,zw hk.2⟩
 ·cases h
def SR(M:List (Nat×KP)):Tf GX where
 o _ _:=none
 f f o pa:=match lk f M with
  |some κ=>κ.tf o pa
  |none=>none
 p f pa:=match lk f M with
  |some κ=>(κ.tf 0 pa).isSome
  |none=>false
inductive MG (T:Tb) (ρ:GV):List (Nat×KP)->Prop where
 |nil:MG T ρ []
 |cons {f:Nat} {κ:KP} {M:List (Nat×KP)}:κ.Ok T f ρ->MG T ρ M->MG T ρ ((f,κ)::M)
theorem MG.get{T:Tb}{ρ:GV}:∀ {M:List (Nat×KP)},MG T ρ M->∀ {f:Nat} {κ:KP},lk f M=some κ->κ.Ok T f ρ
 |_,.nil,f,κ,h=>by cases h
 | _,.cons (f:=g) h1 h2,f,κ,h=>by
  simp only[lk] at h;cases hb:Nat.beq g f with
  |true=>
   rw[hb,cond_true,Ai] at h;have:=Ca hb;subst this;subst h;exact h1
  |false=>rw[hb] at h;exact h2.get h
theorem AOL{T:Tb}{ρ:GV}{M:List (Nat×KP)}(hM:MG T ρ M):cu (γG ρ) T (SR M) where
 o op pa r h:=by cases h
 f f o pa r h ρe ins hp:=by
  simp only[SR] at h;split at h
  ·rename_i κ hk;have hq:∀ {ρe:Bu} {ins:List (List Int)},fU (γG ρ) ρe pa ins->Fw (γG ρ) r (gv T f o ins):=λhp=>(KP.sound (hM.get hk) h hp).2
   exact hq hp
  ·cases h
 p f pa h ρe ins hp:=by
  simp only[SR] at h;split at h
  ·rename_i κ hk;obtain⟨r,hr⟩:=Option.isSome_iff_exists.1 h;exact(KP.sound (hM.get hk) hr hp).1.pre
  ·cases h
theorem gp1{ρ:GV}{ρe:Bu}{r:SI}{z:Z2}{n:Nat}{l:List Int}(h:GK (γG ρ) ρe [.a n (.pt r z)] l):RR r (z.ev ρ) l:=by
 obtain⟨u,w,h1,h2,h3⟩:=h;have hw:w= []:=h3;rw[hw,RD] at h1;subst h1;exact h2.2
theorem gpT{ρ:GV}{ρe:Bu}{r:SI}{f:Nat->Z2}{g:Nat->Pt}(hg:∀k,g k=(f k).ev ρ):∀ {ks:List Nat} {l:List Int},GK (γG ρ) ρe (ks.map λk=>.a r.n (.pt r (f k))) l->NE r (ks.map g) l
 | [],l,h=>h
 |k::ks,l,⟨u,w,h1,h2,h3⟩=>⟨u,w,h1,by rw[hg k];exact h2.2,gpT hg h3⟩
theorem NE.len{r:SI}:∀ {Ps:List Pt} {l:List Int},NE r Ps l->l.length=r.n*Ps.length
 | [],l,h=>by rw[show l= [] from h];rfl
 |P::Ps,l,⟨u,w,h1,h2,h3⟩=>by
  have h4:=h3.len;have h5:=h2.len;rw[h1,NC,h4,h5,NY,Nat.mul_succ];omega
theorem GX.p1{ρ:GV}{r:SI}{z:Z2}{P:Pt}{l:List Int}(hz:z.ev ρ=P)(h:RR r P l):Fw (γG ρ) [(r.n,.pt r z)] l:=GX.c1 h.len (by show RR r (z.ev ρ) l;rw[hz];exact h)
theorem AR0(ρ:GV):(⟨.k 1,.k 0⟩:Z2).ev ρ=ρ.P:=(Z2.G4 ρ 1).trans (Pt.ke _)
theorem AUg(ρ:GV):(⟨.k 0,.k 1⟩:Z2).ev ρ=ρ.Q:=by
 show(ρ.P.zm 0).add (ρ.Q.zm 1)=_;rw[Pt.gh,Pt.zero_add,Pt.ke]
theorem APg(ρ:GV):(⟨.k 1,.k 1⟩:Z2).ev ρ=ρ.P.add ρ.Q:=by
 show(ρ.P.zm 1).add (ρ.Q.zm 1)=_;rw[Pt.ke,Pt.ke]
end
section
open Go Ma
abbrev KS:=List (Nat×List Int)
def bi(lo:Nat)(ρ:Bu)(K:KS):Prop:=∀i l,lk i K=some l->i<lo/\ρ i=l
def kX(K:KS):X->Option Int
 | .lit c=>some c
 | .v i k=>(match lk i K with
  |some l=>some (l.getD k 0)
  |none=>none)
theorem Zt{lo:Nat}{ρ:Bu}{K:KS}(h:bi lo ρ K){x:X}{c:Int}(hx:kX K x=some c):x.den ρ=c:=by
 cases x with
 |lit n=>simp only[kX,Ai] at hx;exact hx
 | v i k=>
  simp only[kX] at hx;split at hx
  ·rename_i l hl;simp only[Ai] at hx;show(ρ i).getD k 0=c;rw[(h i l hl).2,hx]
  ·cases hx
def kXs(K:KS):List X->Option (List Int)
 | []=>some []
 |x::r=>(match kX K x,kXs K r with
  |some c,some l=>some (c::l)
  |_,_=>none)
theorem AEY{lo:Nat}{ρ:Bu}{K:KS}(h:bi lo ρ K):∀ {xs:List X} {l:List Int},kXs K xs=some l->xs.map (·.den ρ)=l
 | [],l,hx=>by simp only[kXs,Ai] at hx;subst hx;rfl
 | x::r,l,hx=>by
  unfold kXs at hx;split at hx
  ·rename_i c l' h1 h2;simp only[Ai] at hx;subst hx;rw[NM,Zt h h1,AEY h h2]
  ·cases hx
def ALy(K:KS):Hy->Option (List Int)
 | .vec j=>lk j K
 | .xs l=>kXs K l
theorem zu{lo:Nat}{ρ:Bu}{K:KS}(h:bi lo ρ K){a:Hy}{l:List Int}(hx:ALy K a=some l):a.den ρ=l:=by
 cases a with
 |vec j=>exact(h j l hx).2
 |xs xs=>exact AEY h hx
def qN(K:KS):List Hy->Option (List (List Int))
 | []=>some []
 |x::r=>(match ALy K x,qN K r with
  |some c,some l=>some (c::l)
  |_,_=>none)
theorem lK{lo:Nat}{ρ:Bu}{K:KS}(h:bi lo ρ K):∀ {xs:List Hy} {l:List (List Int)},qN K xs=some l->xs.map (·.den ρ)=l
 | [],l,hx=>by simp only[qN,Ai] at hx;subst hx;rfl
 | x::r,l,hx=>by
  unfold qN at hx;split at hx
  ·rename_i c l' h1 h2;simp only[Ai] at hx;subst hx;rw[NM,zu h h1,lK h h2]
  ·cases hx
def kOp(op:NR)(as:List (List Int)):Option (List Int):=
 match op with
 | .fn _ _ _=>none
 |op=>some (op.den [] as)
theorem AK8{T:Tb}{op:NR}{as:List (List Int)}{l:List Int}(h:kOp op as=some l):op.den T as=l:=by
 cases op<;>simp only[kOp,Ai,reduceCtorEq] at h<;>exact h
def AEA(d:FT):Option (List Int):=match d.op,d.args with
 | .eqv,[a,b]=>bif a.beq b then some [1] else none
 |_,_=>none
theorem ADN{T:Tb}{ρ:Bu}{d:FT}{l:List Int}(h:AEA d=some l):d.den T ρ=l:=by
 obtain⟨op,args⟩:=d;unfold AEA at h;split at h
 ·rename_i a b e1 e2;simp only at e1 e2;subst e1;subst e2;cases hb:a.beq b with
  |false=>rw[hb] at h;cases h
  |true=>
   rw[hb,cond_true,Ai] at h;subst h;have e:=Hy.beq_eq hb;subst e;simp[FT.den,NR.den,KQ]
 ·cases h
def ANE(K:KS)(d:FT):Option (List Int):=match qN K d.args with
 |some as=>kOp d.op as
 |none=>AEA d
theorem AJJ{T:Tb}{lo:Nat}{ρ:Bu}{K:KS}(h:bi lo ρ K){d:FT}{l:List Int}(hl:ANE K d=some l):d.den T ρ=l:=by
 unfold ANE at hl;split at hl
 ·rename_i as1 has;rw[FT.den,lK h has,AK8 hl]
 ·exact ADN hl
def eO:KS->List (Nat×FT)->KS
 |K,[]=>K
 |K,(n,d)::r=>eO (match ANE K d with
  |some l=>(n,l)::K
  |none=>K) r
theorem bi.mono{lo lo':Nat}{ρ:Bu}{K:KS}(h:bi lo ρ K)(hl:lo<=lo'):bi lo' ρ K:=λi l hi=>⟨by have:=(h i l hi).1;omega,(h i l hi).2⟩
theorem bi.ag{lo:Nat}{ρ ρ':Bu}{K:KS}(h:bi lo ρ K)(ha:Im lo ρ ρ'):bi lo ρ' K:=λi l hi=>⟨(h i l hi).1,by rw[ha i (h i l hi).1];exact(h i l hi).2⟩
theorem oD{T:Tb}{hi:Nat}{ρ:Bu}:∀ {ds:List (Nat×FT)} {lo:Nat} {K:KS},FL lo hi ds=true->bi lo ρ K->Vg T ρ ds->bi (lC lo ds) ρ (eO K ds)
 | [],lo,K,_,hK,_=>hK
 | (n,d)::r,lo,K,h,hK,hd=>by
  simp only[FL,Bj] at h;have h1:=Kv h.1.1.1;have hd1:=hd (n,d) Jv;unfold eO;show bi (lC (n+1) r) ρ (eO _ r);refine oD (ds:=r) h.2 ?_ (λp hp=>hd p (MN _ hp));have hK':=hK.mono (lo':=n+1) (by omega);split
  ·rename_i l hl;intro i l' hi;simp only[lk] at hi;cases hb:Nat.beq n i with
   |true=>
    rw[hb,cond_true,Ai] at hi;have:=Ca hb;subst this;subst hi;refine⟨by omega,?_⟩;have e:ρ n=d.den T ρ:=hd1;rw[e,AJJ hK hl]
   |false=>rw[hb,cond_false] at hi;exact hK' i l' hi
  ·exact hK'
structure Vc where
 ds:List (Nat×FT)
 ob:List I1
 cs:List Be
 e:Ex
 st:St
 K:KS
def X9:KS->Be->Option Vc
 |K,.leaf e st=>some ⟨[],[],[],e,st,K⟩
 |K,.ep ds ob t=>(match X9 (eO K ds) t with
  |some p=>some ⟨ds++p.ds,ob++p.ob,p.cs,p.e,p.st,p.K⟩
  |none=>none)
 |K,.br x t f=>(match kX K x with
  |some c=>bif LM c 0 then X9 K f else X9 K t
  |none=>none)
 |K,.cN c t=>(match X9 K t with
  |some p=>some ⟨p.ds,p.ob,c::p.cs,p.e,p.st,p.K⟩
  |none=>none)
 |_,_=>none
def Na:Nat->KS->Be->Bool
 |_,_,.leaf _ _=>true
 |lo,K,.ep ds ob t=>FL lo (lC lo ds) ds&&I6 (lC lo ds) ob&&Na (lC lo ds) (eO K ds) t
 |lo,K,.br x t f=>(match kX K x with
  |some c=>bif LM c 0 then Na lo K f else Na lo K t
  |none=>false)
 |lo,K,.cN _ t=>Na lo K t
 |_,_,_=>false
theorem xE{a:Int}(h:LM a 0=false):a≠0:=by
 intro e;subst e;cases h
theorem Rk{T:Tb}{np:Nat}{ρ0:Bu}:∀ {t:Be} {lo:Nat} {K:KS} {ρ:Bu} {p:Vc},np<=lo->Im np ρ0 ρ->bi lo ρ K->Na lo K t=true->X9 K t=some p->
  Im lo ρ (Df T ρ p.ds)/\Vg T (Df T ρ p.ds) p.ds/\WS T t ρ=some (Df T ρ p.ds,p.e,p.st)/\Wu T t ρ=some (Df T ρ p.ds,p.st)/\(∃hi,bi hi (Df T ρ p.ds) p.K)/\
   ((∀q∈p.ob,q.den T (Df T ρ p.ds))->(∀c∈p.cs,∀ ρ',Im np ρ0 ρ'->Cv T c ρ')->Cv T t ρ)
 | .leaf e st,lo,K,ρ,p,_,_,hK,_,h=>by
  simp only[X9,Ai] at h;subst h;exact⟨Im.refl _ _,λp hp=>(by cases hp),rfl,rfl,⟨lo,hK⟩,λ_ _=>trivial⟩
 | .ep L7 ob0 t,lo,K,ρ,p,gE,ha,hK,hk,h=>by
  simp only[Na,Bj] at hk;unfold X9 at h;split at h
  ·rename_i p' ht;simp only[Ai] at h;subst h;obtain⟨g1,g2⟩:=Wt T ρ hk.1.1;have hle:=Zj hk.1.1;have oA:Im np ρ0 (Df T ρ L7):=ha.trans g1 gE;obtain⟨k1,k2,k3,k4,k5,k6⟩:=Rk (T:=T) (ρ:=Df T ρ L7) (by omega) oA (oD hk.1.1 (hK.ag g1) g2) hk.2 ht;simp only;rw[QJ];refine⟨g1.trans k1 hle,λp hp=>?_,k3,k4,k5,λho hc=>⟨λq hq=>?_,k6 (λq hq=>ho q (kv _ hq)) hc⟩⟩
   ·rcases qM.1 hp with hp|hp
    ·exact(g2.agE hk.1.1 k1) p hp
    ·exact k2 p hp
   ·exact(I1.cg k1 hk.1.2 q hq).1 (ho q (List.mem_append_left _ hq))
  ·cases h
 | .br x t f,lo,K,ρ,p,gE,ha,hK,hk,h=>by
  unfold Na at hk;unfold X9 at h;split at h
  ·rename_i c hc;rw[hc] at hk;simp only at hk;have hx:=Zt hK hc;cases hb:LM c 0 with
   |true=>
    rw[hb,cond_true] at h hk;have e:=LB hb;obtain⟨k1,k2,k3,k4,k5,k6⟩:=Rk (T:=T) gE ha hK hk h;have ua:x.den ρ=0:=by rw[hx,e]
    refine⟨k1,k2,by unfold WS;rw[if_pos ua];exact k3,by unfold Wu;rw[if_pos ua];exact k4,k5,λho hc=>⟨λ_=>k6 ho hc,λhn=>absurd ua hn⟩⟩
   |false=>
    rw[hb,cond_false] at h hk;have e:=xE hb;obtain⟨k1,k2,k3,k4,k5,k6⟩:=Rk (T:=T) gE ha hK hk h;have ua:x.den ρ≠0:=by rw[hx];exact e
    refine⟨k1,k2,by unfold WS;rw[if_neg ua];exact k3,by unfold Wu;rw[if_neg ua];exact k4,k5,λho hc=>⟨λhn=>absurd hn ua,λ_=>k6 ho hc⟩⟩
  ·cases h
 | .cN c t,lo,K,ρ,p,gE,ha,hK,hk,h=>by
  unfold Na at hk;unfold X9 at h;split at h
  ·rename_i p' ht;simp only[Ai] at h;subst h;obtain⟨k1,k2,k3,k4,k5,k6⟩:=Rk (T:=T) gE ha hK hk ht;exact⟨k1,k2,k3,k4,k5,λho hc=>⟨hc c Jv ρ ha,k6 ho λc' h'=>hc c' (MN _ h')⟩⟩
  ·cases h
 | .gr _ _ _ _,_,_,_,_,_,_,_,hk,_=>by cases hk
 | .bad _,_,_,_,_,_,_,_,hk,_=>by cases hk
section
variable{A:Type}(γ:A->List Int->Prop)
def SW(nm:Int->Option A):KS->BS A->BS A
 | [],s=>s
 |(i,[c])::r,s=>(match nm c with
  |some x=>(i,[(1,x)])::SW nm r s
  |none=>SW nm r s)
 |_::r,s=>SW nm r s
theorem ACN{nm:Int->Option A}(hn:∀c x,nm c=some x->γ x [c]){ρ:Bu}{s:BS A}(hs:WH γ ρ s):∀ {K:KS},(∀p∈K,ρ p.1=p.2)->WH γ ρ (SW nm K s)
 | [],_=>hs
 | (j,l)::r,hK=>by
  have ih:=ACN hn hs (K:=r) λp hp=>hK p (MN _ hp)
  unfold SW;split
  ·rename_i h;cases h
  ·rename_i j' c r' he;cases he;have hj:=hK (j,[c]) Jv;split
   ·rename_i x hx;intro i bs hi;simp only[lk] at hi;cases hb:Nat.beq j i with
    |true=>
     rw[hb,cond_true,Ai] at hi;have:=Ca hb;subst this;subst hi;exact⟨[c],[],hj,rfl,hn c x hx,rfl⟩
    |false=>rw[hb,cond_false] at hi;exact ih i bs hi
   ·exact ih
  ·rename_i p r' _ he;cases he;exact ih
def pK:Nat->List (Option (List Int))->KS
 |_,[]=>[]
 |j,none::r=>pK (j+1) r
 |j,some l::r=>(j,l)::pK (j+1) r
theorem WJ:∀ {l:List (Option (List Int))} {j i:Nat} {b:List Int},lk i (pK j l)=some b->∃k,i=j+k/\l[k]? = some (some b)
 | [],j,i,bs,h=>by simp[pK,lk] at h
 |none::r,j,i,bs,h=>by
  simp only[pK] at h;obtain⟨k,h1,h2⟩:=WJ h;exact⟨k+1,by omega,by simpa using h2⟩
 | some b::r,j,i,bs,h=>by
  simp only[pK,lk] at h;cases hb:Nat.beq j i with
  |true=>
   rw[hb,cond_true,Ai] at h;have:=Ca hb;exact⟨0,by omega,by rw[<- h];rfl⟩
  |false=>
   rw[hb,cond_false] at h;obtain⟨k,h1,h2⟩:=WJ h;exact⟨k+1,by omega,by simpa using h2⟩
def mO:KS->Bool
 | []=>true
 |(i,_)::r=>(match lk i r with
  |some _=>false
  |none=>true)&&mO r
theorem mg:∀ {K:KS},mO K=true->∀p∈K,lk p.1 K=some p.2
 | [],_,p,hp=>by cases hp
 | (i,l)::r,h,p,hp=>by
  simp only[mO,Bj] at h;rcases G9.1 hp with rfl|hp
  ·simp only[lk,Nat.beq_refl,cond_true]
  ·have ih:=mg h.2 p hp;simp only[lk];cases hb:Nat.beq i p.1 with
   |true=>
    have:=Ca hb;subst this;rw[ih] at h;cases h.1
   |false=>rw[cond_false];exact ih
def AER (t:Tf A) (nm:Int->Option A) (uv:List (Nat×FT)->BS A->I1->Bool) (tr:Be) (C:Cx) (s0:Az) (cA:List ResultVar) (jn:List (Option (List Int))) (bin:List (Option (List (Nat×A)))):Option (List Be×List (List (Bk A))):=
 match X9 (pK 0 jn) tr with
 | some p=>bif Na s0.params.length (pK 0 jn) tr&&Nat.beq bin.length s0.params.length&&Nat.beq jn.length s0.params.length&&mO p.K then
   (let s:=Zz t (SW nm p.K (XZ 0 bin)) p.ds
     bif p.ob.all (AA1 t (uv p.ds) s) then(match Ky C s0 cA p.st with
   |some es=>(match Tx s es with
    |some r=>some (p.cs,r)
    |none=>none)
   |none=>none) else none) else none
 |none=>none
theorem ACg{t:Tf A}{nm:Int->Option A}{uv:List (Nat×FT)->BS A->I1->Bool}{i:Ac}{C:Cx}{jn:List (Option (List Int))}{bin:List (Option (List (Nat×A)))}{cs:List Be}{r:List (List (Bk A))}(hn:∀c x,nm c=some x->γ x [c])(ht:cu γ C.T t)(ho:∀ds,nK γ C.T ds (uv ds))(h:AER t nm uv (i.tree C) C i.s0 i.cA jn bin=some (cs,r)){ins:List (List Int)}(hk:∀(j:Nat) (l:List Int),jn[j]? = some (some l)->ins.getD j []=l)(hb:∀(j:Nat) (b:List (Nat×A)),bin[j]? = some (some b)->Fw γ b (ins.getD j [])):
  ((∀c∈cs,∀ ρ',Im i.s0.params.length (BK ins) ρ'->Cv C.T c ρ')->Cv C.T (i.tree C) (BK ins))/\∃ ρ:Bu,(∀j,j<i.s0.params.length->ρ j=ins.getD j [])/\∀(k:Nat) (b:List (Bk A)),r[k]? = some b->GK γ ρ b (i.raw C k ins):=by
 unfold AER at h;split at h
 ·rename_i p hl;cases hc:(Na i.s0.params.length (pK 0 jn) (i.tree C)&&Nat.beq bin.length i.s0.params.length&&Nat.beq jn.length i.s0.params.length&&mO p.K) with
  |false=>rw[hc] at h;cases h
  |true=>
  rw[hc,cond_true] at h;simp only[Bj] at hc;have hlen:=Ca hc.1.1.2;have acU:=Ca hc.1.2;have hK0:bi i.s0.params.length (BK ins) (pK 0 jn):=λj l hj=>by
   obtain⟨k,h1,h2⟩:=WJ hj;rw[KN] at h1;subst h1;have bj:j<jn.length:=(Oa.1 h2).1;exact⟨by omega,hk j l h2⟩
  obtain⟨k1,k2,k3,k4,⟨hi,k5⟩,k6⟩:=Rk (T:=C.T) (np:=i.s0.params.length) (ρ0:=BK ins) (ρ:=BK ins) (Ie _) (Im.refl _ _) hK0 hc.1.1.1 hl;have hρ:∀j,j<i.s0.params.length->Df C.T (BK ins) p.ds j=ins.getD j []:=λj hj=>by rw[k1 j hj];rfl
  have eE:WH γ (Df C.T (BK ins) p.ds) (XZ 0 bin):=λj bs hj=>by
   obtain⟨k,h1,h2⟩:=Vs hj;rw[KN] at h1;subst h1;have bj:j<bin.length:=(Oa.1 h2).1;rw[hρ j (by omega)];exact hb j bs h2
  have aan:WH γ (Df C.T (BK ins) p.ds) (SW nm p.K (XZ 0 bin)):=ACN γ hn eE λq hq=>(k5 q.1 q.2 (mg hc.2 q hq)).2
  have hS:=ZU γ ht aan k2;simp only at h;cases mj:p.ob.all (AA1 t (uv p.ds) (Zz t (SW nm p.K (XZ 0 bin)) p.ds)) with
  |false=>rw[mj] at h;cases h
  |true=>
  rw[mj,cond_true] at h;split at h
  ·rename_i es nh;split at h
   ·rename_i r' hr;simp only[Ai,Prod.mk.injEq] at h;obtain⟨rfl,rfl⟩:=h;refine⟨k6 λq hq=>zk γ ht (ho p.ds) k2 hS (Kh.1 mj q hq),Df C.T (BK ins) p.ds,hρ,λk b hk=>?_⟩;obtain⟨e',g1,g2⟩:=Sn hr k b hk;have:i.raw C k ins=e'.1.map (·.den (Df C.T (BK ins) p.ds)):=by
     unfold Ac.raw Ru;rw[k4];simp only[nh,g1]
    rw[this];exact PH γ hS _ _ _ g2
   ·cases h
  ·cases h
 ·cases h
end
end
section
open Go Ma
def Mv(l:List Int)(o:Nat):Prop:=∀k,k<5->l.getD (o+k) 0=0
def AEl:FT->Option (Nat×Nat)
 |⟨.eqv,[.xs (.v j o::r),.xs [.lit a,.lit b,.lit c,.lit d,.lit e]]⟩=>bif PX j o (.v j o::r)&&Nat.beq r.length 4&&LM a 0&&LM b 0&&LM c 0&&LM d 0&&LM e 0 then some (j,o) else none
 |_=>none
theorem AOv{b:Bool}(h:KQ b≠0):b=true:=by
 cases b with
 |true=>rfl
 |false=>exact absurd rfl h
theorem AEI{T:Tb}{ρ:Bu}{d:FT}{p:Nat×Nat}(h:AEl d=some p)(hd:(d.den T ρ).getD 0 0≠0):Mv (ρ p.1) p.2:=by
 unfold AEl at h;split at h
 ·rename_i j o r a b c d e;cases hb:(PX j o (.v j o::r)&&Nat.beq r.length 4&&LM a 0&&LM b 0&&LM c 0&&LM d 0&&LM e 0) with
  |false=>rw[hb] at h;cases h
  |true=>
   rw[hb,cond_true,Ai] at h;subst h;simp only[Bj] at hb;obtain⟨⟨⟨⟨⟨⟨h1,h2⟩,ha⟩,hb⟩,hc⟩,pL⟩,he⟩:=hb;have ha:=LB ha;have hb:=LB hb;have hc:=LB hc;have pL:=LB pL;have he:=LB he;subst ha;subst hb;subst hc;subst pL;subst he;have h2:=Ca h2;have h3:((X.v j o::r).map (·.den ρ) == [0,0,0,0,0])=true:=AOv hd;have h4:=eq_of_beq h3;rw[Yv h1,NY,h2] at h4;intro k hk;have:=CV (λl=>l[k]?) h4;simp only[Ng] at this;rw[List.getElem?_range (by omega)] at this;simp only[UT] at this
   match k,hk with
   |0,_=>simpa using this
   |1,_=>simpa using this
   |2,_=>simpa using this
   |3,_=>simpa using this
   |4,_=>simpa using this
 ·cases h
abbrev PN:=Nat×Nat
def pnB(a b:PN):Bool:=Nat.beq a.1 b.1&&Nat.beq a.2 b.2
def AFg(p:PN):List PN->Bool
 | []=>false
 |q::r=>pnB p q||AFg p r
theorem iO{p:PN}:∀ {l:List PN},AFg p l=true->p∈l
 | [],h=>by cases h
 | q::r,h=>by
  simp only[AFg,Bool.or_eq_true,pnB,Bj] at h;rcases h with h|h
  ·have e:p=q:=Prod.ext (Ca h.1) (Ca h.2);rw[e];exact Jv
  ·exact MN _ (iO h)
def XR(np:Nat):List (Nat×PN)->List (Nat×FT)->List (Nat×PN)
 |K,[]=>K
 |K,(n,d)::r=>XR np (match AEl d with
  |some p=>bif Nat.blt p.1 np then(n,p)::K else K
  |none=>K) r
def ARv(pts:List PN)(K:List (Nat×PN))(tr:List PN):I1->Bool
 | .zr (.v n 0)=>(match lk n K with
  |some (j,o)=>Nat.ble 5 o&&AFg (j,o-5) pts&&AFg (j,o-5) tr
  |none=>false)
 |_=>false
def j6(np:Nat)(pts:List PN):Nat->List (Nat×PN)->List PN->Be->Bool
 |_,_,_,.leaf _ _=>true
 |lo,K,tr,.ep ds ob t=>FL lo (lC lo ds) ds&&ob.all (ARv pts (XR np K ds) tr)&&j6 np pts (lC lo ds) (XR np K ds) tr t
 |lo,K,tr,.br (.v n 0) t f=>(match lk n K with
  |some p=>j6 np pts lo K (p::tr) t
  |none=>j6 np pts lo K tr t)&&j6 np pts lo K tr f
 |_,_,_,_=>false
def AAf(np lo:Nat)(ρ:Bu)(K:List (Nat×PN)):Prop:=∀n p,lk n K=some p->n<lo/\p.1<np/\((ρ n).getD 0 0≠0->Mv (ρ p.1) p.2)
theorem dU{T:Tb}{np hi:Nat}{ρ:Bu}:∀ {ds:List (Nat×FT)} {lo:Nat} {K:List (Nat×PN)},FL lo hi ds=true->AAf np lo ρ K->Vg T ρ ds->AAf np (lC lo ds) ρ (XR np K ds)
 | [],lo,K,_,hK,_=>hK
 | (n,d)::r,lo,K,h,hK,hd=>by
  simp only[FL,Bj] at h;have h1:=Kv h.1.1.1;have hd1:ρ n=d.den T ρ:=hd (n,d) Jv;unfold XR;show AAf np (lC (n+1) r) ρ (XR np _ r);refine dU (ds:=r) h.2 ?_ (λp hp=>hd p (MN _ hp));have hK':AAf np (n+1) ρ K:=λm p hm=>⟨by have:=(hK m p hm).1;omega,(hK m p hm).2⟩
  split
  ·rename_i p hp;cases hb:Nat.blt p.1 np with
   |false=>exact hK'
   | true=>
    rw[cond_true];intro m q hm;simp only[lk] at hm;cases we:Nat.beq n m with
    |true=>
     rw[we,cond_true,Ai] at hm;have:=Ca we;subst this;subst hm;exact⟨by omega,Kv hb,λcj=>AEI hp (hd1 ▸ cj)⟩
    |false=>rw[we,cond_false] at hm;exact hK' m q hm
  ·exact hK'
theorem V4{T:Tb}{np:Nat}{pts:List PN}{ρ0:Bu}(hp:∀p∈pts,¬(Mv (ρ0 p.1) p.2/\Mv (ρ0 p.1) (p.2+5))):∀ {t:Be} {lo:Nat} {K:List (Nat×PN)} {tr:List PN} {ρ:Bu},np<=lo->Im np ρ0 ρ->AAf np lo ρ K->(∀p∈tr,Mv (ρ0 p.1) p.2)->j6 np pts lo K tr t=true->Cv T t ρ
 | .leaf _ _,_,_,_,_,_,_,_,_,_=>trivial
 | .ep ds ob t,lo,K,tr,ρ,gE,ha,hK,htr,h=>by
  unfold j6 at h;simp only[Bj] at h;obtain⟨g1,g2⟩:=Wt T ρ h.1.1;have hle:=Zj h.1.1;have oA:Im np ρ0 (Df T ρ ds):=ha.trans g1 gE;have hK1:AAf np lo (Df T ρ ds) K:=λn p hn=>⟨(hK n p hn).1,(hK n p hn).2.1,by
   have h1:=hK n p hn;rw[g1 n h1.1,g1 p.1 (by omega)];exact h1.2.2⟩
  have hK2:=dU h.1.1 hK1 g2;refine⟨λq hq=>?_,V4 hp (by omega) oA hK2 htr h.2⟩;have hq:=Kh.1 h.1.2 q hq;unfold ARv at hq;split at hq
  ·rename_i n de;split at hq
   ·rename_i j o hn;simp only[Bj] at hq;obtain⟨⟨h5,h6⟩,h7⟩:=hq;have h5:=Kv h5;have h6:=hp _ (iO h6);have h7:=htr _ (iO h7);obtain⟨k1,k2,k3⟩:=hK2 n (j,o) hn;show(Df T ρ ds n).getD 0 0=0;refine Classical.byContradiction λcj=>h6 ⟨h7,?_⟩
    have:=k3 cj;simp only at this;rw[oA j k2] at this;have e:o-5+5=o:=by omega
    show Mv (ρ0 j) (o-5+5);rw[e];exact this
   ·cases hq
  ·cases hq
 | .br (.v n 0) t f,lo,K,tr,ρ,gE,ha,hK,htr,h=>by
  unfold j6 at h;simp only[Bj] at h;refine⟨λ_=>V4 hp gE ha hK htr h.2,λcj=>?_⟩;have h1:=h.1;split at h1
  ·rename_i p hn;obtain⟨k1,k2,k3⟩:=hK n p hn;refine V4 hp gE ha hK ?_ h1;intro q hq;rcases G9.1 hq with rfl|hq
   ·have:=k3 cj;rw[ha q.1 k2] at this;exact this
   ·exact htr q hq
  ·exact V4 hp gE ha hK htr h1
 | .br (.lit _) _ _,_,_,_,_,_,_,_,_,h=>by cases h
 | .br (.v _ (_+1)) _ _,_,_,_,_,_,_,_,_,h=>by cases h
 | .gr _ _ _ _,_,_,_,_,_,_,_,_,h=>by cases h
 | .cN _ _,_,_,_,_,_,_,_,_,h=>by cases h
 | .bad _,_,_,_,_,_,_,_,_,h=>by cases h
theorem qg{P:Pt}{l:List Int}(h:R3 P l):¬(Mv l 0/\Mv l 5):=by
 obtain⟨X,Y,Z,T,⟨u,w,h1,h2,u2,w2,h3,h4,_⟩,hP⟩:=h;intro⟨g1,g2⟩;have hu:u.length=5:=h2.1.1;have rI:u2.length=5:=h4.1.1;have e0:∀k,k<5->u.getD k 0=0:=λk hk=>by
  have:=g1 k hk;rw[h1,List.getD,gZ (by omega),KN] at this;exact this
 have e1:∀k,k<5->u2.getD k 0=0:=λk hk=>by
  have:=g2 k hk;rw[h1,h3,List.getD,fQ (by omega),hu,Nat.add_sub_cancel_left,gZ (by omega)] at this;exact this
 have x0:X=0:=by
  rw[<- h2.2,show Oe u=0 by unfold Oe;rw[e0 0 (by omega),e0 1 (by omega),e0 2 (by omega),e0 3 (by omega),e0 4 (by omega)];rfl,Kz]
 have y0:Y=0:=by
  rw[<- h4.2,show Oe u2=0 by unfold Oe;rw[e1 0 (by omega),e1 1 (by omega),e1 2 (by omega),e1 3 (by omega),e1 4 (by omega)];rfl,Kz]
 have hx:=hP.x;have hy:=hP.y;have hz:=hP.z;rw[x0] at hx;rw[y0] at hy;have hc:=P.h;unfold Md at hc;have px:P.x=0:=Ph hz (by rw[<- hx];grind);have py:P.y=0:=Ph hz (by rw[<- hy];grind);rw[px,py] at hc;exact absurd (show(0:Fp)=1 by grind) (by decide +kernel)
inductive GF:List (Option (List Int))->List (List Int)->Prop where
 |nil:GF [] []
 |no {l:List Int} {bs:List (Option (List Int))} {ls:List (List Int)}:GF bs ls->GF (none::bs) (l::ls)
 |yes {l:List Int} {bs:List (Option (List Int))} {ls:List (List Int)}:GF bs ls->GF (some l::bs) (l::ls)
theorem GF.get:∀ {bs:List (Option (List Int))} {ls:List (List Int)},GF bs ls->∀(j:Nat) (b:List Int),bs[j]? = some (some b)->ls.getD j []=b
 |_,_,.nil,j,b,h=>by simp at h
 |_,_,.no h1,0,b,h=>by simp at h
 |_,_,.no h1,j+1,b,h=>by
  have:=h1.get j b (by simpa using h);simpa using this
 |_,_,.yes h1,0,b,h=>by
  simp only[UV,Ai] at h;subst h;rfl
 |_,_,.yes h1,j+1,b,h=>by
  have:=h1.get j b (by simpa using h);simpa using this
section
variable{A:Type}{γ:A->List Int->Prop}
def Wl(t:Tf A)(nm:Int->Option A)(tr:Be)(C:Cx)(s0:Az)(cA:List ResultVar)(jn:List (Option (List Int)))(bin:List (Option (List (Nat×A))))(pts:List PN):Option (List (List (Bk A))):=
 match AER t nm C2 tr C s0 cA jn bin with
 |some (cs,r)=>bif cs.all (j6 s0.params.length pts s0.params.length [] []) then some r else none
 |none=>none
theorem nL{t:Tf A}{nm:Int->Option A}{i:Ac}{C:Cx}{jn:List (Option (List Int))}{bin:List (Option (List (Nat×A)))}{pts:List PN}{r:List (List (Bk A))}(hn:∀c x,nm c=some x->γ x [c])(ht:cu γ C.T t)(h:Wl t nm (i.tree C) C i.s0 i.cA jn bin pts=some r){ins:List (List Int)}(hk:GF jn ins)(hb:qp γ bin ins)(hp:∀p∈pts,¬(Mv (ins.getD p.1 []) p.2/\Mv (ins.getD p.1 []) (p.2+5))):
  Cv C.T (i.tree C) (BK ins)/\∃ ρ:Bu,(∀j,j<i.s0.params.length->ρ j=ins.getD j [])/\∀(k:Nat) (b:List (Bk A)),r[k]? = some b->GK γ ρ b (i.raw C k ins):=by
 unfold Wl at h;split at h
 ·rename_i cs r' hr;cases hc:cs.all (j6 i.s0.params.length pts i.s0.params.length [] []) with
  |false=>rw[hc] at h;cases h
  |true=>
   rw[hc,cond_true,Ai] at h;subst h;obtain⟨h1,h2⟩:=ACg γ hn ht (λds=>Z5 ds) hr hk.get hb.get;exact⟨h1 λc hcc ρ' ha=>V4 (ρ0:=BK ins) hp (Ie _) ha (λn p hn=>by cases hn) (λp hp=>by cases hp) (Kh.1 hc c hcc),h2⟩
 ·cases h
end
def nmG(c:Int):Option GX:=some (.num c)
theorem ANX{ρ:GV}(c:Int)(x:GX)(h:nmG c=some x):γG ρ x [c]:=by
 simp only[nmG,Ai] at h;subst h;rfl
def nmF(_:Int):Option FX:=none
theorem AMG{ρ:FV}(c:Int)(x:FX)(h:nmF c=some x):γF ρ x [c]:=by cases h
theorem AKn{M:List (Nat×KP)}{i:Ac}{C:Cx}{ρ:GV}{jn:List (Option (List Int))}{bin:List (Option (List (Nat×GX)))}{pts:List PN}{r:List (List (Bk GX))}(hM:MG C.T ρ M)(h:Wl (SR M) nmG (i.tree C) C i.s0 i.cA jn bin pts=some r){ins:List (List Int)}(hk:GF jn ins)(eE:qp (γG ρ) bin ins)(hp:∀p∈pts,¬(Mv (ins.getD p.1 []) p.2/\Mv (ins.getD p.1 []) (p.2+5))):
  Cv C.T (i.tree C) (BK ins)/\∃ ρe:Bu,∀(k:Nat) (b:List (Bk GX)),r[k]? = some b->GK (γG ρ) ρe b (i.raw C k ins):=by
 obtain⟨h1,ρe,h2,h3⟩:=nL ANX (AOL hM) h hk eE hp;exact⟨h1,ρe,h3⟩
theorem AIL{T:Tb}{f o:Nat}{s:Az}(h:lk f T=some (.one s))(args:List (List Int)):gv T f o args=(s.pr o).den args:=by
 simp only[gv,NR.den,h];rfl
theorem AUB{T:Tb}{f n:Nat}{M:List (Nat×KP)}{i:Ac}{C:Cx}{ρ:GV}{jn:List (Option (List Int))}{bin:List (Option (List (Nat×GX)))}{pts:List PN}{b:List (Bk GX)}(hs:lk f T=some (.one (i.cQ C)))(ho:(i.cQ C).pr 0= .l λa=>BF n (i.raw C 0 a))(hM:MG C.T ρ M)(h:Wl (SR M) nmG (i.tree C) C i.s0 i.cA jn bin pts=some [b]){ins:List (List Int)}(hk:GF jn ins)(eE:qp (γG ρ) bin ins)(hp:∀p∈pts,¬(Mv (ins.getD p.1 []) p.2/\Mv (ins.getD p.1 []) (p.2+5)))(hl:∀ ρe l,GK (γG ρ) ρe b l->l.length=n):
  NB T f ins/\∃ ρe:Bu,GK (γG ρ) ρe b (gv T f 0 ins):=by
 obtain⟨h1,ρe,h2⟩:=AKn hM h hk eE hp;refine⟨⟨⟨_,hs,h1⟩⟩,ρe,?_⟩;have h3:=h2 0 b rfl;rw[AIL hs,ho];show GK (γG ρ) ρe b (BF n (i.raw C 0 ins));rw[Ay (hl ρe _ h3)];exact h3
end
section
open Go
def Ts(K:KS):I1->Bool
 | .fy x n=>(match kX K x with
  |some c=>Bl 0 c&&Bl c ((n:Int)-1)
  |none=>false)
 | .u9 x=>(match kX K x with
  |some c=>Bl 0 c
  |none=>false)
 | .ux x=>(match kX K x with
  |some c=>LM c 0||LM c 1
  |none=>false)
 | .zr x=>(match kX K x with
  |some c=>LM c 0
  |none=>false)
 | .nz x=>(match kX K x with
  |some c=> !(LM c 0)
  |none=>false)
 | .pre _ _=>false
theorem ANq{T:Tb}{lo:Nat}{ρ:Bu}{K:KS}(hK:bi lo ρ K){q:I1}(h:Ts K q=true):q.den T ρ:=by
 cases q with
 | fy x n=>
  simp only[Ts] at h;split at h
  ·rename_i c hc;simp only[Bj] at h;have h1:=A8 h.1;have h2:=A8 h.2;show 0<=x.den ρ/\x.den ρ<n;rw[Zt hK hc];omega
  ·cases h
 | u9 x=>
  simp only[Ts] at h;split at h
  ·rename_i c hc;show 0<=x.den ρ;rw[Zt hK hc];exact A8 h
  ·cases h
 | ux x=>
  simp only[Ts] at h;split at h
  ·rename_i c hc;simp only[Bool.or_eq_true] at h;show x.den ρ=0\/x.den ρ=1;rw[Zt hK hc];rcases h with h|h
   ·exact .inl (LB h)
   ·exact .inr (LB h)
  ·cases h
 | zr x=>
  simp only[Ts] at h;split at h
  ·rename_i c hc;show x.den ρ=0;rw[Zt hK hc];exact LB h
  ·cases h
 | nz x=>
  simp only[Ts] at h;split at h
  ·rename_i c hc;show x.den ρ≠0;rw[Zt hK hc];simp only[Bool.not_eq_true'] at h;exact xE h
  ·cases h
 |pre f l=>cases h
def kAt(q np:Nat)(c:Int):List (Option (List Int)):=List.replicate q none++some [c]::List.replicate (np-q-1) none
theorem AIp{q np:Nat}{c:Int}{j:Nat}{l:List Int}(h:(kAt q np c)[j]? = some (some l)):j=q/\l= [c]:=by
 unfold kAt at h;rcases Nat.lt_trichotomy j q with hj|hj|hj
 ·rw[gZ (by simpa using hj),iF] at h;split at h<;>cases h
 ·subst hj;rw[fQ (by simp)] at h;simp only[Rp,HF,UV,Ai] at h;exact⟨rfl,h.symm⟩
 ·rw[fQ (by simp;omega)] at h;simp only[Rp] at h;have:j-q=(j-q-1)+1:=by omega
  rw[this,Cp,iF] at h;split at h<;>cases h
def AJH (i:Ih) (C:Cx) (q:Nat) (c:Int):Option (Bool×Int):=
 match X9 (pK 0 (kAt q i.s0.params.length c)) (i.tree C) with
 | some p=>bif Na i.s0.params.length (pK 0 (kAt q i.s0.params.length c)) (i.tree C)&&(match p.cs with
   | []=>true
   |_=>false)&&p.ob.all (Ts p.K) then(match i.leaf p.e p.st with
   | some (b,al)=>(match al[q]? with
    |some a=>(match ALy p.K a with
     |some [d]=>some (b,d)
     |_=>none)
    |none=>none)
   |none=>none) else none
 |none=>none
theorem xJ{i:Ih}{C:Cx}{q:Nat}{c d:Int}{b:Bool}(hq:q<i.s0.params.length)(h:AJH i C q c=some (b,d)){ins:List (List Int)}(hi:ins.getD q []= [c]):
  Cv C.T (i.tree C) (BK ins)/\∃r,i.step C ins=some (b,r)/\r.getD q []= [d]:=by
 unfold AJH at h;split at h
 ·rename_i p hl;cases hc:(Na i.s0.params.length (pK 0 (kAt q i.s0.params.length c)) (i.tree C)&&(match p.cs with
   | []=>true
   |_=>false)&&p.ob.all (Ts p.K)) with
  |false=>rw[hc] at h;cases h
  | true=>
   rw[hc,cond_true] at h;simp only[Bj] at hc;obtain⟨⟨c1,c2⟩,c3⟩:=hc;have hK0:bi i.s0.params.length (BK ins) (pK 0 (kAt q i.s0.params.length c)):=λj l hj=>by
    obtain⟨k,h1,h2⟩:=WJ hj;rw[KN] at h1;subst h1;obtain⟨rfl,rfl⟩:=AIp h2;exact⟨hq,hi⟩
   obtain⟨k1,k2,k3,k4,⟨ID,k5⟩,k6⟩:=Rk (T:=C.T) (np:=i.s0.params.length) (ρ0:=BK ins) (ρ:=BK ins) (Ie _) (Im.refl _ _) hK0 c1 hl;split at h
   ·rename_i b' al hlf;split at h
    ·rename_i a ha;split at h
     ·rename_i d' hd;simp only[Ai,Prod.mk.injEq] at h;obtain⟨rfl,rfl⟩:=h;refine⟨k6 (λo ho=>ANq k5 (Kh.1 c3 o ho)) (λc' j8=>?_),al.map (·.den (Df C.T (BK ins) p.ds)),?_,?_⟩
      ·split at c2
       ·rename_i he;rw[he] at j8;cases j8
       ·cases c2
      ·unfold Ih.step;rw[k3];simp only[hlf]
      ·rw[List.getD,Ng,ha];exact zu k5 hd
     ·cases h
    ·cases h
   ·cases h
 ·cases h
def dZ(i:Ih)(C:Cx)(q:Nat)(n:Nat):Nat->Bool
 |0=>(match AJH i C q (n:Int) with
  |some (b,_)=> !b
  |none=>false)
 |m+1=>(match AJH i C q ((n:Int)-(m+1:Nat)) with
  |some (b,d)=>b&&LM d ((n:Int)-(m:Nat))
  |none=>false)&&dZ i C q n m
theorem pR{i:Ih}{C:Cx}{q n:Nat}(hq:q<i.s0.params.length):∀ {m:Nat} {ins:List (List Int)} {f:Nat},dZ i C q n m=true->ins.getD q []= [(n:Int)-(m:Nat)]->m<f->Rm (i.step C) (λins=>Cv C.T (i.tree C) (BK ins)) f ins
 |0,ins,0,h,hi,hf=>by omega
 | 0,ins,f+1,h,hi,hf=>by
  unfold dZ at h;rw[show((n:Int)-((0:Nat):Int))=n by omega] at hi;split at h
  ·rename_i b d hd;obtain⟨h1,r,h2,h3⟩:=xJ hq hd hi;simp only[Bool.not_eq_true'] at h;subst h;refine⟨h1,?_⟩;rw[h2];trivial
  ·cases h
 |m+1,ins,0,h,hi,hf=>by omega
 | m+1,ins,f+1,h,hi,hf=>by
  unfold dZ at h;simp only[Bj] at h;obtain⟨h0,hr⟩:=h;split at h0
  ·rename_i b d hd;simp only[Bj] at h0;obtain⟨h1,r,h2,h3⟩:=xJ hq hd hi;have hb:=h0.1;subst hb;have pL:=LB h0.2;subst pL;refine⟨h1,?_⟩;rw[h2];exact pR hq hr h3 (by omega)
  ·cases h0
end
end Go.Proofs.YtkbfdaoohhmgoaaGreatDoor
