/- Lists of numbers of five limbs, and functions on them. -/
import Derived.Test.YtloibefkijfdlaaGreatDoorMa
namespace Go.Proofs.YtloibefkijfdlaaGreatDoor
section
open Go Ma
def Kl:List Fp->List Int->Prop
 | [],l=>l= []
 |x::xs,l=>∃u w,l=u++w/\Ho x u/\Kl xs w
theorem Kl.len:∀ {xs:List Fp} {l:List Int},Kl xs l->l.length=5*xs.length
 | [],l,h=>by rw[show l= [] from h];rfl
 |x::xs,l,⟨u,w,h1,h2,h3⟩=>by
  have h4:=h3.len;have h5:u.length=5:=h2.1.1;rw[h1,MN,h4,h5,Uk];omega
inductive Zb {A:Type} (γ:A->List Int->Prop):List (Option (List (Nat×A)))->List (List Int)->Prop where
 |nil:Zb γ [] []
 |no {l:List Int} {bs:List (Option (List (Nat×A)))} {ls:List (List Int)}:Zb γ bs ls->Zb γ (none::bs) (l::ls)
 |yes {b:List (Nat×A)} {l:List Int} {bs:List (Option (List (Nat×A)))} {ls:List (List Int)}:Ei γ b l->Zb γ bs ls->Zb γ (some b::bs) (l::ls)
theorem Zb.get{A:Type}{γ:A->List Int->Prop}:∀ {bs:List (Option (List (Nat×A)))} {ls:List (List Int)},Zb γ bs ls->∀(j:Nat) (b:List (Nat×A)),bs[j]? = some (some b)->Ei γ b (ls.getD j [])
 |_,_,.nil,j,b,h=>by simp at h
 |_,_,.no h1,0,b,h=>by simp at h
 |_,_,.no h1,j+1,b,h=>by
  have:=h1.get j b (by simpa using h);simpa using this
 |_,_,.yes h0 h1,0,b,h=>by
  simp only[Ul,Ai] at h;subst h;simpa using h0
 |_,_,.yes h0 h1,j+1,b,h=>by
  have:=h1.get j b (by simpa using h);simpa using this
def fb(es:List FX):List (Nat×FX):=es.map λe=>(5,e)
def noB(es:List FX):Bool:=es.all λe=> !e.wc
theorem Kl.bl{ρ:FV}:∀ {es:List FX} {l:List Int},noB es=true->Kl (es.map (·.ev ρ)) l->Ei (γF ρ) (fb es) l
 | [],l,_,h=>h
 |e::es,l,hb,⟨u,w,h1,h2,h3⟩=>by
  simp only[noB,List.all_cons,Bl,Bool.not_eq_true'] at hb;exact⟨u,w,h1,h2.1.1,by unfold γF;rw[hb.1];exact h2,Kl.bl (es:=es) hb.2 h3⟩
theorem Kl.of{ρ:FV}{ρe:Br}:∀ {es:List FX} {l:List Int},noB es=true->GZ (γF ρ) ρe (es.map λe=>.a 5 e) l->Kl (es.map (·.ev ρ)) l
 | [],l,_,h=>h
 |e::es,l,hb,⟨u,w,h1,h2,h3⟩=>by
  simp only[noB,List.all_cons,Bl,Bool.not_eq_true'] at hb;exact⟨u,w,h1,γF_fe h2.2 hb.1,Kl.of (es:=es) hb.2 h3⟩
theorem AHg{ρ:FV}{n:Nat}{c:Bool}(h:ρ.b n=c):Ei (γF ρ) [(1,.b n)] [bif c then 1 else 0]:=
 ⟨[bif c then 1 else 0],[],rfl,rfl,by subst h;rfl,rfl⟩
def X3{A:Type}:List (Nat×GG)->BS A->JU->Bool:=λ_ _ _=>false
theorem Uh{A:Type}{γ:A->List Int->Prop}{T:Tb}(ds:List (Nat×GG)):jU γ T ds (X3 ds):=λ_ _ _ _ _ h=>by cases h
theorem Tt{M:List (Nat×KF)}{i:Ad}{C:Cx}{bin:List (Option (List (Nat×FX)))}{es:List FX}(hM:MF C.T M)(h:Nu (nP M) X3 i C bin=some [es.map λe=>.a 5 e])(hB:noB es=true)(ρ:FV){ins:List (List Int)}(eC:Zb (γF ρ) bin ins):
  EY C.T (i.tree C) (Ce ins)/\Kl (es.map (·.ev ρ)) (i.raw C 0 ins):=by
 obtain⟨h1,ρe,h2,h3⟩:=Rm (γF ρ) (YJ hM ρ) (λds=>Uh ds) h eC.get;exact⟨h1,Kl.of hB (h3 0 _ rfl)⟩
theorem AIN{M:List (Nat×KF)}{i:Ad}{C:Cx}{n:Nat}{es:List FX}(hM:MF C.T M)(h:Nu (nP M) X3 i C (List.replicate n none)=some [es.map λe=>.a 5 e])(hB:noB es=true)(ρ:FV)(ins:List (List Int)):
  EY C.T (i.tree C) (Ce ins)/\Kl (es.map (·.ev ρ)) (i.raw C 0 ins):=by
 obtain⟨h1,ρe,h2,h3⟩:=Rm (ins:=ins) (γF ρ) (YJ hM ρ) (λds=>Uh ds) h (λj b hj=>by
  rw[iD] at hj;split at hj<;>cases hj)
 exact⟨h1,Kl.of hB (h3 0 _ rfl)⟩
theorem Kl.fix{xs:List Fp}{l:List Int}{n:Nat}(h:Kl xs l)(hn:5*xs.length=n):BK n l=l:=by
 subst hn;rw[<- h.len];exact Bn rfl
def R3(P:Pt)(l:List Int):Prop:=∃X Y Z T,Kl [X,Y,Z,T] l/\P3 X Y Z T P
def sQ(P:Pt)(l:List Int):Prop:=∃X Y Z T,Kl [X,Y,Z,T] l/\Lo X Y Z T P
def R2(P:Pt)(l:List Int):Prop:=∃X Y Z,Kl [X,Y,Z] l/\P2 X Y Z P
def RC(P:Pt)(l:List Int):Prop:=∃A B C E,Kl [A,B,C,E] l/\PC A B C E P
def RA(P:Pt)(l:List Int):Prop:=∃A B E,Kl [A,B,E] l/\AC A B E P
inductive Rp where
 |p3|lA|p2|pc|pa
def Rp.n:Rp->Nat
 | .p3=>20
 | .lA=>20
 | .p2=>15
 | .pc=>20
 | .pa=>15
def RR:Rp->Pt->List Int->Prop
 | .p3=>R3
 | .lA=>sQ
 | .p2=>R2
 | .pc=>RC
 | .pa=>RA
theorem RR.len:∀ {r:Rp} {P:Pt} {l:List Int},RR r P l->l.length=r.n
 | .p3,_,_,⟨_,_,_,_,h,_⟩=>h.len
 | .lA,_,_,⟨_,_,_,_,h,_⟩=>h.len
 | .p2,_,_,⟨_,_,_,h,_⟩=>h.len
 | .pc,_,_,⟨_,_,_,_,h,_⟩=>h.len
 | .pa,_,_,⟨_,_,_,h,_⟩=>h.len
def Rp.beq:Rp->Rp->Bool
 | .p3,.p3=>true
 | .lA,.lA=>true
 | .p2,.p2=>true
 | .pc,.pc=>true
 | .pa,.pa=>true
 |_,_=>false
theorem Rp.ej:∀ {a b:Rp},a.beq b=true->a=b
 | .p3,.p3,_=>rfl
 | .lA,.lA,_=>rfl
 | .p2,.p2,_=>rfl
 | .pc,.pc,_=>rfl
 | .pa,.pa,_=>rfl
inductive ZX where
 |k (c:Int)
 |d (n:Nat)
 |add (a b:ZX)
 |mul (a b:ZX)
structure GV where
 P:Pt
 Q:Pt
 d:Nat->Int
 s:List Int
def ZX.ev(ρ:GV):ZX->Int
 | .k c=>c
 | .d n=>ρ.d n
 | .add x y=>x.ev ρ+y.ev ρ
 | .mul x y=>x.ev ρ*y.ev ρ
def ZX.vc:ZX->ZX->ZX
 | .k x,.k y=>.k (x+y)
 |x,y=>.add x y
def ZX.smul:ZX->ZX->ZX
 | .k x,.k y=>.k (x*y)
 |x,y=>.mul x y
theorem ZX.qT(ρ:GV)(x y:ZX):(x.vc y).ev ρ=x.ev ρ+y.ev ρ:=by
 unfold ZX.vc;split<;>rfl
theorem ZX.fL(ρ:GV)(x y:ZX):(x.smul y).ev ρ=x.ev ρ*y.ev ρ:=by
 unfold ZX.smul;split<;>rfl
def LC(a b:Int):Bool:=Bh a b&&Bh b a
def ZX.beq:ZX->ZX->Bool
 | .k x,.k y=>LC x y
 | .d x,.d y=>Nat.beq x y
 | .add x y,.add z w=>x.beq z&&y.beq w
 | .mul x y,.mul z w=>x.beq z&&y.beq w
 |_,_=>false
theorem ZX.ej(ρ:GV):∀ {x y:ZX},x.beq y=true->x.ev ρ=y.ev ρ:=by
 intro x
 induction x with
 |k c=>intro y h;cases y<;>simp only[ZX.beq,LC,Bl,RD] at h;exact Int.le_antisymm (A8 h.1) (A8 h.2)
 |d n=>intro y h;cases y<;>simp only[ZX.beq,RD] at h;have:=CR h;subst this;rfl
 |add a b iha AD=>intro y h;cases y<;>simp only[ZX.beq,Bl,RD] at h;show _+_=_+_;rw[iha h.1,AD h.2]
 |mul a b iha AD=>intro y h;cases y<;>simp only[ZX.beq,Bl,RD] at h;show _*_=_*_;rw[iha h.1,AD h.2]
theorem uf(A B C D:Pt):(A.add B).add (C.add D)=(A.add C).add (B.add D):=by
 rw[Pt.add_assoc,Pt.add_assoc, <- Pt.add_assoc B,Pt.add_comm B C,Pt.add_assoc C]
theorem UZ(P:Pt)(n:Nat):P.nm (n+1)=(P.nm n).add P:=rfl
theorem UU(P:Pt):P.nm 0=Pt.zero:=rfl
theorem SH(P Q:Pt)(n:Nat):(P.add Q).nm n=(P.nm n).add (Q.nm n):=by
 induction n with
 |zero=>rw[UU,UU,UU,Pt.add_zero]
 |succ n ih=>rw[UZ,UZ,UZ,ih];exact uf _ _ _ _
theorem YZ(P:Pt)(n:Nat):P.zm (.ofNat n)=P.nm n:=rfl
theorem ZR(P:Pt)(n:Nat):P.zm (.negSucc n)=(P.nm (n+1)).neg:=rfl
theorem pE(P Q:Pt)(z:Int):(P.add Q).zm z=(P.zm z).add (Q.zm z):=by
 cases z with
 |ofNat n=>rw[YZ,YZ,YZ];exact SH P Q n
 |negSucc n=>rw[ZR,ZR,ZR,SH,Pt.neg_add]
structure Z2 where
 z:ZX
 w:ZX
def Z2.ev(ρ:GV)(a:Z2):Pt:=(ρ.P.zm (a.z.ev ρ)).add (ρ.Q.zm (a.w.ev ρ))
def Z2.vc(a b:Z2):Z2:=⟨a.z.vc b.z,a.w.vc b.w⟩
def Z2.smul(x:ZX)(a:Z2):Z2:=⟨x.smul a.z,x.smul a.w⟩
def Z2.c(c:Int):Z2:=⟨.k c,.k 0⟩
theorem Z2.ud(ρ:GV)(c:Int):(Z2.c c).ev ρ=ρ.P.zm c:=by
 show(ρ.P.zm c).add (ρ.Q.zm 0)=_;rw[Pt.de,Pt.add_zero]
theorem Z2.qT(ρ:GV)(a b:Z2):(a.vc b).ev ρ=(a.ev ρ).add (b.ev ρ):=by
 simp only[Z2.ev,Z2.vc,ZX.qT,Pt.fW];exact uf _ _ _ _
theorem Z2.fL(ρ:GV)(x:ZX)(a:Z2):(Z2.smul x a).ev ρ=(a.ev ρ).zm (x.ev ρ):=by
 simp only[Z2.ev,Z2.smul,ZX.fL];rw[pE,Xg,Pt.ph,Xg,Pt.ph]
def Z2.beq(a b:Z2):Bool:=a.z.beq b.z&&a.w.beq b.w
theorem Z2.ej(ρ:GV){a b:Z2}(h:a.beq b=true):a.ev ρ=b.ev ρ:=by
 simp only[Z2.beq,Bl] at h;simp only[Z2.ev];rw[ZX.ej ρ h.1,ZX.ej ρ h.2]
inductive GX where
 |pt (r:Rp) (z:Z2)
 |dg (n:Nat)
 |sc
 |num (c:Int)
def γG(ρ:GV):GX->List Int->Prop
 | .pt r z,l=>RR r (z.ev ρ) l
 | .dg n,l=>l= [ρ.d n]/\ -8<=ρ.d n/\ρ.d n<=8
 | .sc,l=>l=ρ.s
 | .num c,l=>l= [c]
def L6(r:Rp):List Pt->List Int->Prop
 | [],l=>l= []
 |P::Ps,l=>∃u w,l=u++w/\RR r P u/\L6 r Ps w
def AKQ(r:Rp)(z:Z2)(n:Nat):List (Nat×GX):=(List.range n).map λk=>(r.n,.pt r (Z2.smul (.k (k+1:Nat)) z))
theorem L6.bl{ρ:GV}{r:Rp}{f:Nat->Z2}{g:Nat->Pt}(hg:∀k,g k=(f k).ev ρ):∀ {ks:List Nat} {l:List Int},L6 r (ks.map g) l↔Ei (γG ρ) (ks.map λk=>(r.n,.pt r (f k))) l
 | [],l=>Iff.rfl
 | k::ks,l=>by
  constructor
  ·intro⟨u,w,h1,h2,h3⟩;exact⟨u,w,h1,h2.len,by show RR r _ u;rw[<- hg k];exact h2,(L6.bl hg).1 h3⟩
  ·intro⟨u,w,h1,h2,h3,h4⟩;exact⟨u,w,h1,by rw[hg k];exact h3,(L6.bl hg).2 h4⟩
def Zf(r:Rp):List (Bk GX)->Option Z2
 | [.a _ (.pt r' z)]=>bif r.beq r' then some z else none
 |_=>none
theorem QB{r:Rp}{ρ:GV}{ρe:Br}{b:List (Bk GX)}{l:List Int}{z:Z2}(h:GZ (γG ρ) ρe b l)(hx:Zf r b=some z):RR r (z.ev ρ) l:=by
 unfold Zf at hx;split at hx
 ·rename_i n r' y;cases hb:r.beq r' with
  |false=>rw[hb] at hx;cases hx
  |true=>
   rw[hb,cond_true,Ai] at hx;subst hx;have:=Rp.ej hb;subst this;obtain⟨u,w,h1,h2,h3⟩:=h;have hw:w= []:=h3;rw[hw,Rw] at h1;subst h1;exact h2.2
 ·cases hx
def kw(r:Rp)(z:Z2):Nat->Nat->List (Bk GX)->Bool
 |0,_,[]=>true
 |n+1,k,.a _ (.pt r' y)::bs=>r.beq r'&&y.beq (Z2.smul (.k (k+1:Nat)) z)&&kw r z n (k+1) bs
 |_,_,_=>false
theorem lS{r:Rp}{z:Z2}{ρ:GV}{ρe:Br}:∀ {n k:Nat} {bs:List (Bk GX)} {l:List Int},kw r z n k bs=true->GZ (γG ρ) ρe bs l->L6 r ((List.range n).map λj=>(z.ev ρ).zm ((k+j+1:Nat):Int)) l
 |0,k,[],l,_,h=>h
 |0,k,_::_,l,hb,h=>by cases hb
 | n + 1,k,bs,l,hb,h=>by
  match bs,hb with
  | .a m (.pt r' y)::DQ,hb=>
   unfold kw at hb;simp only[Bl] at hb;obtain⟨⟨h1,h2⟩,h3⟩:=hb;have:=Rp.ej h1;subst this;obtain⟨u,w,g1,g2,g3⟩:=h;rw[List.range_succ_eq_map,NE,List.map_map];refine⟨u,w,g1,?_,?_⟩
   ·have e:=Z2.ej ρ h2;have g:=g2.2;simp only[γG] at g;rw[e,Z2.fL] at g;exact g
   ·have:=lS h3 g3;have e:((λj=>(z.ev ρ).zm ((k+j+1:Nat):Int)) ∘ Nat.succ)=λj=>(z.ev ρ).zm ((k+1+j+1:Nat):Int):=by
     funext j;simp only[Function.comp];congr 1;omega
    rw[e];exact this
def AJw:List (Bk GX)->Option Nat
 | [.a _ (.dg n)]=>some n
 |_=>none
theorem AGU{ρ:GV}{ρe:Br}{b:List (Bk GX)}{l:List Int}{n:Nat}(h:GZ (γG ρ) ρe b l)(hx:AJw b=some n):l= [ρ.d n]/\ -8<=ρ.d n/\ρ.d n<=8:=by
 unfold AJw at hx;split at hx
 ·simp only[Ai] at hx;subst hx;obtain⟨u,w,h1,h2,h3⟩:=h;have hw:w= []:=h3;rw[hw,Rw] at h1;subst h1;exact h2.2
 ·cases hx
def AE3:List (Bk GX)->Bool
 | [.a _ .sc]=>true
 |_=>false
theorem AG6{ρ:GV}{ρe:Br}{b:List (Bk GX)}{l:List Int}(h:GZ (γG ρ) ρe b l)(hx:AE3 b=true):l=ρ.s:=by
 unfold AE3 at hx;split at hx
 ·obtain⟨u,w,h1,h2,h3⟩:=h;have hw:w= []:=h3;rw[hw,Rw] at h1;subst h1;exact h2.2
 ·cases hx
theorem Jr{a b:Int}(h:LC a b=true):a=b:=by
 simp only[LC,Bl] at h;exact Int.le_antisymm (A8 h.1) (A8 h.2)
def AGw:List (Bk GX)->Option Bool
 | [.lit c]=>bif LC c 1 then some true else bif LC c 0 then some false else none
 | [.a _ (.num c)]=>bif LC c 1 then some true else bif LC c 0 then some false else none
 |_=>none
theorem ACK{c:Int}{b:Bool}(h:(bif LC c 1 then some true else bif LC c 0 then some false else none)=some b):c=bif b then 1 else 0:=by
 cases h1:LC c 1 with
 |true=>rw[h1,cond_true,Ai] at h;subst h;exact Jr h1
 |false=>
  rw[h1,cond_false] at h;cases h0:LC c 0 with
  |true=>rw[h0,cond_true,Ai] at h;subst h;exact Jr h0
  |false=>rw[h0] at h;cases h
theorem ry{ρ:GV}{ρe:Br}{b:List (Bk GX)}{l:List Int}{c:Bool}(h:GZ (γG ρ) ρe b l)(hx:AGw b=some c):l= [bif c then 1 else 0]:=by
 unfold AGw at hx;split at hx
 ·obtain⟨u,w,h1,h2,h3⟩:=h;have hw:w= []:=h3;rw[hw,Rw] at h1;subst h1;rw[<- ACK hx];exact h2
 ·obtain⟨u,w,h1,h2,h3⟩:=h;have hw:w= []:=h3;rw[hw,Rw] at h1;subst h1;rw[<- ACK hx];exact h2.2
 ·cases hx
inductive KP where
 |NO (r:Rp)
 |Pu (r:Rp)
 |tR (ra rb:Rp)
 |dbl
 |C0 (ra rb rc:Rp)
 |J0 (r:Rp) (c:Int)
 |tab (r:Rp) (n:Nat)
 |ca (r:Rp) (n:Nat)
 |rad (n:Nat)
 |AF
def qN(r:Rp)(n:Nat):Nat->Int->List (Nat×GX)
 |0,_=>[]
 |m+1,c=>AKQ r (.c c) n++qN r n m (256*c)
def KP.tf:KP->Nat->List (List (Bk GX))->Option (List (Nat×GX))
 | .NO r,0,[_,a,b,c]=>(match Zf r a,Zf r b,AGw c with
  |some x,some y,some n=>some [(r.n,.pt r (bif n then x else y))]
  |_,_,_=>none)
 | .Pu r,0,[a,c]=>(match Zf r a,AGw c with
  |some x,some n=>some [(r.n,.pt r (bif n then Z2.smul (.k (-1)) x else x))]
  |_,_=>none)
 | .tR ra rb,0,[_,a]=>(match Zf ra a with
  |some x=>some [(rb.n,.pt rb x)]
  |none=>none)
 | .dbl,0,[_,a]=>(match Zf .p2 a with
  |some x=>some [(20,.pt .lA (x.vc x))]
  |none=>none)
 | .C0 ra rb rc,0,[_,a,b]=>(match Zf ra a,Zf rb b with
  |some x,some y=>some [(rc.n,.pt rc (x.vc y))]
  |_,_=>none)
 | .J0 r c,0,_=>some [(r.n,.pt r (.c c))]
 | .tab r n,0,[_,a]=>(match Zf .p3 a with
  |some x=>some (AKQ r x n)
  |none=>none)
 | .ca r n,0,[t,_,d]=>(match t,AJw d with
  | .a m (.pt r' z)::bs,some k=>bif kw r z n 0 (.a m (.pt r' z)::bs) then some [(r.n,.pt r (Z2.smul (.d k) z))] else none
  |_,_=>none)
 | .rad n,0,[s]=>bif AE3 s then some ((List.range n).map λk=>(1,.dg k)) else none
 | .AF,0,[]=>some (qN .pa 8 32 1)
 |_,_,_=>none
def AFK(d:Nat->Int)(n:Nat)(l:List Int):Prop:=l=(List.range n).map d/\∀k,k<n-> -8<=d k/\d k<=8
def rM(P:Pt):Nat->Int->List Int->Prop
 |0,_,l=>l= []
 |m+1,c,l=>∃u w,l=u++w/\L6 .pa ((List.range 8).map λj=>(P.zm c).zm ((j+1:Nat):Int)) u/\rM P m (256*c) w
def KP.Ok(T:Tb)(f:Nat)(ρ:GV):KP->Prop
 | .NO r=>∀(v a b:List Int) (P Q:Pt) (c:Bool),RR r P a->RR r Q b->LM T f [v,a,b,[bif c then 1 else 0]]/\RR r (bif c then P else Q) (gv T f 0 [v,a,b,[bif c then 1 else 0]])
 | .Pu r=>∀(a:List Int) (P:Pt) (c:Bool),RR r P a->LM T f [a,[bif c then 1 else 0]]/\RR r (bif c then P.neg else P) (gv T f 0 [a,[bif c then 1 else 0]])
 | .tR ra rb=>∀(v a:List Int) (P:Pt),RR ra P a->LM T f [v,a]/\RR rb P (gv T f 0 [v,a])
 | .dbl=>∀(v a:List Int) (P:Pt),R2 P a->LM T f [v,a]/\sQ (P.add P) (gv T f 0 [v,a])
 | .C0 ra rb rc=>∀(v a b:List Int) (P Q:Pt),RR ra P a->RR rb Q b->LM T f [v,a,b]/\RR rc (P.add Q) (gv T f 0 [v,a,b])
 | .J0 r c=>∀(args:List (List Int)),LM T f args/\RR r (ρ.P.zm c) (gv T f 0 args)
 | .tab r n=>∀(v a:List Int) (P:Pt),R3 P a->LM T f [v,a]/\L6 r ((List.range n).map λj=>P.zm ((j+1:Nat):Int)) (gv T f 0 [v,a])
 | .ca r n=>∀(t v:List Int) (d:Int) (P:Pt),L6 r ((List.range n).map λj=>P.zm ((j+1:Nat):Int)) t-> -8<=d->d<=8->LM T f [t,v,[d]]/\RR r (P.zm d) (gv T f 0 [t,v,[d]])
 | .rad n=>LM T f [ρ.s]/\AFK ρ.d n (gv T f 0 [ρ.s])
 | .AF=>LM T f []/\rM ρ.P 32 1 (gv T f 0 [])
section
variable{γ:GX->List Int->Prop}
theorem Rh{ρe:Br}{a:List (Bk GX)}{as:List (List (Bk GX))}{ins:List (List Int)}(h:aQ γ ρe (a::as) ins):∃x xs,ins=x::xs/\GZ γ ρe a x/\aQ γ ρe as xs:=by
 match ins,h with
 |x::xs,h=>exact⟨x,xs,rfl,h.1,h.2⟩
theorem dN{ρe:Br}{ins:List (List Int)}(h:aQ γ ρe [] ins):ins= []:=by
 match ins,h with
 | [],h=>rfl
end
theorem GX.c1{ρ:GV}{x:GX}{n:Nat}{l:List Int}(hl:l.length=n)(h:γG ρ x l):Ei (γG ρ) [(n,x)] l:=⟨l,[],by simp,hl,h,rfl⟩
theorem zg{ρ:GV}:∀ {ks:List Nat},(∀k,k∈ks-> -8<=ρ.d k/\ρ.d k<=8)->Ei (γG ρ) (ks.map λk=>(1,.dg k)) (ks.map ρ.d)
 | [],_=>rfl
 |k::ks,h=>⟨[ρ.d k],ks.map ρ.d,rfl,rfl,⟨rfl,h k Kh⟩,zg λj hj=>h j (Lv _ hj)⟩
theorem uy{A:Type}{γ:A->List Int->Prop}:∀ {b c:List (Nat×A)} {l m:List Int},Ei γ b l->Ei γ c m->Ei γ (b++c) (l++m)
 | [],c,l,m,h,g=>by rw[show l= [] from h];exact g
 |(n,x)::b,c,l,m,⟨u,w,h1,h2,h3,h4⟩,g=>⟨u,w++m,by rw[h1,bU],h2,h3,uy h4 g⟩
theorem tV{ρ:GV}:∀ {m:Nat} {c:Int} {l:List Int},rM ρ.P m c l->Ei (γG ρ) (qN .pa 8 m c) l
 |0,c,l,h=>h
 | m+1,c,l,⟨u,w,h1,h2,h3⟩=>by
  rw[h1];refine uy ?_ (tV h3);exact(L6.bl (f:=λk=>Z2.smul (.k (k+1:Nat)) (.c c)) (λk=>by
   rw[Z2.fL,Z2.ud];rfl)).1 h2
theorem KP.sound{T:Tb}{f:Nat}{ρ:GV}{κ:KP}(hk:κ.Ok T f ρ){o:Nat}{pa:List (List (Bk GX))}{r:List (Nat×GX)}(h:κ.tf o pa=some r){ρe:Br}{ins:List (List Int)}(hp:aQ (γG ρ) ρe pa ins):LM T f ins/\Ei (γG ρ) r (gv T f o ins):=by
 unfold KP.tf at h;split at h
 ·obtain⟨v,_,rfl,_,hp⟩:=Rh hp;obtain⟨a,_,rfl,ha,hp⟩:=Rh hp;obtain⟨b,_,rfl,hb,hp⟩:=Rh hp;obtain⟨c,_,rfl,hc,hp⟩:=Rh hp;cases dN hp;split at h
  ·rename_i x y n hx hy hn;simp only[Ai] at h;subst h;have:=ry hc hn;subst this;have:=hk v a b _ _ n (QB ha hx) (QB hb hy);refine⟨this.1,GX.c1 this.2.len ?_⟩;cases n<;>exact this.2
  ·cases h
 ·obtain⟨a,_,rfl,ha,hp⟩:=Rh hp;obtain⟨c,_,rfl,hc,hp⟩:=Rh hp;cases dN hp;split at h
  ·rename_i x n hx hn;simp only[Ai] at h;subst h;have:=ry hc hn;subst this;have:=hk a _ n (QB ha hx);refine⟨this.1,GX.c1 this.2.len ?_⟩;cases n with
   |false=>exact this.2
   |true=>
    show RR _ ((Z2.smul (.k (-1)) x).ev ρ) _;rw[Z2.fL];show RR _ ((x.ev ρ).zm (-1)) _;rw[Pt.lj (x.ev ρ) 1,Pt.ie];exact this.2
  ·cases h
 ·obtain⟨v,_,rfl,_,hp⟩:=Rh hp;obtain⟨a,_,rfl,ha,hp⟩:=Rh hp;cases dN hp;split at h
  ·rename_i x hx;simp only[Ai] at h;subst h;have:=hk v a _ (QB ha hx);exact⟨this.1,GX.c1 this.2.len this.2⟩
  ·cases h
 ·obtain⟨v,_,rfl,_,hp⟩:=Rh hp;obtain⟨a,_,rfl,ha,hp⟩:=Rh hp;cases dN hp;split at h
  ·rename_i x hx;simp only[Ai] at h;subst h;have:=hk v a _ (QB (r:=.p2) ha hx);exact⟨this.1,GX.c1 (RR.len (r:=.lA) this.2) (by show sQ _ _;rw[Z2.qT];exact this.2)⟩
  ·cases h
 ·obtain⟨v,_,rfl,_,hp⟩:=Rh hp;obtain⟨a,_,rfl,ha,hp⟩:=Rh hp;obtain⟨b,_,rfl,hb,hp⟩:=Rh hp;cases dN hp;split at h
  ·rename_i x y hx hy;simp only[Ai] at h;subst h;have:=hk v a b _ _ (QB ha hx) (QB hb hy);exact⟨this.1,GX.c1 this.2.len (by show RR _ _ _;rw[Z2.qT];exact this.2)⟩
  ·cases h
 ·simp only[Ai] at h;subst h;have:=hk ins;exact⟨this.1,GX.c1 this.2.len (by show RR _ _ _;rw[Z2.ud];exact this.2)⟩
 ·obtain⟨v,_,rfl,_,hp⟩:=Rh hp;obtain⟨a,_,rfl,ha,hp⟩:=Rh hp;cases dN hp;split at h
  ·rename_i x hx;simp only[Ai] at h;subst h;have:=hk v a _ (QB (r:=.p3) ha hx);refine⟨this.1,(L6.bl (f:=λk=>Z2.smul (.k (k+1:Nat)) x) λk=>?_).1 this.2⟩;rw[Z2.fL];rfl
  ·cases h
 ·rename_i r0 n0 t0 v0 d0;obtain⟨t,_,rfl,ht,hp⟩:=Rh hp;obtain⟨v,_,rfl,_,hp⟩:=Rh hp;obtain⟨d,_,rfl,hd,hp⟩:=Rh hp;cases dN hp;split at h
  ·rename_i m r' z bs k gE;cases hc:kw r0 z n0 0 (.a m (.pt r' z)::bs) with
   |false=>rw[hc] at h;cases h
   | true=>
    rw[hc,cond_true,Ai] at h;subst h;have h1:=lS hc ht;obtain⟨rfl,h2,h3⟩:=AGU hd gE;have e:(List.range n0).map (λj=>(z.ev ρ).zm ((0+j+1:Nat):Int))=(List.range n0).map (λj=>(z.ev ρ).zm ((j+1:Nat):Int)):=by
     congr 1;funext j;congr 1;omega
    rw[e] at h1;have:=hk t v _ _ h1 h2 h3;refine⟨this.1,GX.c1 this.2.len ?_⟩;show RR _ _ _;rw[Z2.fL];exact this.2
  ·cases h
 ·rename_i n s';obtain⟨s,_,rfl,hs,hp⟩:=Rh hp;cases dN hp;cases hb:AE3 s' with
  |false=>rw[hb] at h;cases h
  |true=>
   rw[hb,cond_true,Ai] at h;subst h;have:=AG6 hs hb;subst this;refine⟨hk.1,?_⟩;rw[hk.2.1];exact zg λk gE=>hk.2.2 k (lZ.1 gE)
 ·cases dN hp;simp only[Ai] at h;subst h;exact⟨hk.1,tV hk.2⟩
 ·cases h
def tY(M:List (Nat×KP)):Tf GX where
 o _ _:=none
 f f o pa:=match lk f M with
  |some κ=>κ.tf o pa
  |none=>none
 p f pa:=match lk f M with
  |some κ=>(κ.tf 0 pa).isSome
  |none=>false
inductive MG (T:Tb) (ρ:GV):List (Nat×KP)->Prop where
 |nil:MG T ρ []
 |cons {f:Nat} {κ:KP} {M:List (Nat×KP)}:κ.Ok T f ρ->MG T ρ M->MG T ρ ((f,κ)::M)
theorem MG.get{T:Tb}{ρ:GV}:∀ {M:List (Nat×KP)},MG T ρ M->∀ {f:Nat} {κ:KP},lk f M=some κ->κ.Ok T f ρ
 |_,.nil,f,κ,h=>by cases h
 | _,.cons (f:=g) h1 h2,f,κ,h=>by
  simp only[lk] at h;cases hb:Nat.beq g f with
  |true=>
   rw[hb,cond_true,Ai] at h;have:=CR hb;subst this;subst h;exact h1
  |false=>rw[hb] at h;exact h2.get h
theorem AJr{T:Tb}{ρ:GV}{M:List (Nat×KP)}(hM:MG T ρ M):Zd (γG ρ) T (tY M) where
 o op pa r h:=by cases h
 f f o pa r h ρe ins hp:=by
  simp only[tY] at h;split at h
  ·rename_i κ hk;have hq:∀ {ρe:Br} {ins:List (List Int)},aQ (γG ρ) ρe pa ins->Ei (γG ρ) r (gv T f o ins):=λhp=>(KP.sound (hM.get hk) h hp).2
   exact hq hp
  ·cases h
 p f pa h ρe ins hp:=by
  simp only[tY] at h;split at h
  ·rename_i κ hk;obtain⟨r,hr⟩:=Option.isSome_iff_exists.1 h;exact(KP.sound (hM.get hk) hr hp).1.pre
  ·cases h
theorem gp1{ρ:GV}{ρe:Br}{r:Rp}{z:Z2}{n:Nat}{l:List Int}(h:GZ (γG ρ) ρe [.a n (.pt r z)] l):RR r (z.ev ρ) l:=by
 obtain⟨u,w,h1,h2,h3⟩:=h;have hw:w= []:=h3;rw[hw,Rw] at h1;subst h1;exact h2.2
theorem gpT{ρ:GV}{ρe:Br}{r:Rp}{f:Nat->Z2}{g:Nat->Pt}(hg:∀k,g k=(f k).ev ρ):∀ {ks:List Nat} {l:List Int},GZ (γG ρ) ρe (ks.map λk=>.a r.n (.pt r (f k))) l->L6 r (ks.map g) l
 | [],l,h=>h
 |k::ks,l,⟨u,w,h1,h2,h3⟩=>⟨u,w,h1,by rw[hg k];exact h2.2,gpT hg h3⟩
theorem L6.len{r:Rp}:∀ {Ps:List Pt} {l:List Int},L6 r Ps l->l.length=r.n*Ps.length
 | [],l,h=>by rw[show l= [] from h];rfl
 |P::Ps,l,⟨u,w,h1,h2,h3⟩=>by
  have h4:=h3.len;have h5:=h2.len;rw[h1,MN,h4,h5,Uk,Nat.mul_succ];omega
theorem GX.p1{ρ:GV}{r:Rp}{z:Z2}{P:Pt}{l:List Int}(hz:z.ev ρ=P)(h:RR r P l):Ei (γG ρ) [(r.n,.pt r z)] l:=GX.c1 h.len (by show RR r (z.ev ρ) l;rw[hz];exact h)
theorem AKK(ρ:GV):(⟨.k 1,.k 0⟩:Z2).ev ρ=ρ.P:=(Z2.ud ρ 1).trans (Pt.ie _)
theorem ARh(ρ:GV):(⟨.k 0,.k 1⟩:Z2).ev ρ=ρ.Q:=by
 show(ρ.P.zm 0).add (ρ.Q.zm 1)=_;rw[Pt.de,Pt.zero_add,Pt.ie]
theorem AQL(ρ:GV):(⟨.k 1,.k 1⟩:Z2).ev ρ=ρ.P.add ρ.Q:=by
 show(ρ.P.zm 1).add (ρ.Q.zm 1)=_;rw[Pt.ie,Pt.ie]
end
section
open Go Ma
abbrev KS:=List (Nat×List Int)
def Zq(lo:Nat)(ρ:Br)(K:KS):Prop:=∀i l,lk i K=some l->i<lo/\ρ i=l
def kX(K:KS):X->Option Int
 | .lit c=>some c
 | .v i k=>(match lk i K with
  |some l=>some (l.getD k 0)
  |none=>none)
theorem YY{lo:Nat}{ρ:Br}{K:KS}(h:Zq lo ρ K){x:X}{c:Int}(hx:kX K x=some c):x.den ρ=c:=by
 cases x with
 |lit n=>simp only[kX,Ai] at hx;exact hx
 | v i k=>
  simp only[kX] at hx;split at hx
  ·rename_i l hl;simp only[Ai] at hx;show(ρ i).getD k 0=c;rw[(h i l hl).2,hx]
  ·cases hx
def kXs(K:KS):List X->Option (List Int)
 | []=>some []
 |x::r=>(match kX K x,kXs K r with
  |some c,some l=>some (c::l)
  |_,_=>none)
theorem ACP{lo:Nat}{ρ:Br}{K:KS}(h:Zq lo ρ K):∀ {xs:List X} {l:List Int},kXs K xs=some l->xs.map (·.den ρ)=l
 | [],l,hx=>by simp only[kXs,Ai] at hx;subst hx;rfl
 | x::r,l,hx=>by
  unfold kXs at hx;split at hx
  ·rename_i c l' h1 h2;simp only[Ai] at hx;subst hx;rw[NE,YY h h1,ACP h h2]
  ·cases hx
def AK4(K:KS):IZ->Option (List Int)
 | .vec j=>lk j K
 | .xs l=>kXs K l
theorem wD{lo:Nat}{ρ:Br}{K:KS}(h:Zq lo ρ K){a:IZ}{l:List Int}(hx:AK4 K a=some l):a.den ρ=l:=by
 cases a with
 |vec j=>exact(h j l hx).2
 |xs xs=>exact ACP h hx
def iZ(K:KS):List IZ->Option (List (List Int))
 | []=>some []
 |x::r=>(match AK4 K x,iZ K r with
  |some c,some l=>some (c::l)
  |_,_=>none)
theorem iW{lo:Nat}{ρ:Br}{K:KS}(h:Zq lo ρ K):∀ {xs:List IZ} {l:List (List Int)},iZ K xs=some l->xs.map (·.den ρ)=l
 | [],l,hx=>by simp only[iZ,Ai] at hx;subst hx;rfl
 | x::r,l,hx=>by
  unfold iZ at hx;split at hx
  ·rename_i c l' h1 h2;simp only[Ai] at hx;subst hx;rw[NE,wD h h1,iW h h2]
  ·cases hx
def kOp(op:Na)(as:List (List Int)):Option (List Int):=
 match op with
 | .fn _ _ _=>none
 |op=>some (op.den [] as)
theorem AMc{T:Tb}{op:Na}{as:List (List Int)}{l:List Int}(h:kOp op as=some l):op.den T as=l:=by
 cases op<;>simp only[kOp,Ai,reduceCtorEq] at h<;>exact h
def ADd(d:GG):Option (List Int):=match d.op,d.args with
 | .eqv,[a,b]=>bif a.beq b then some [1] else none
 |_,_=>none
theorem ABS{T:Tb}{ρ:Br}{d:GG}{l:List Int}(h:ADd d=some l):d.den T ρ=l:=by
 obtain⟨op,args⟩:=d;unfold ADd at h;split at h
 ·rename_i a b e1 e2;simp only at e1 e2;subst e1;subst e2;cases hb:a.beq b with
  |false=>rw[hb] at h;cases h
  |true=>
   rw[hb,cond_true,Ai] at h;subst h;have e:=IZ.beq_eq hb;subst e;simp[GG.den,Na.den,XH]
 ·cases h
def AI7(K:KS)(d:GG):Option (List Int):=match iZ K d.args with
 |some as=>kOp d.op as
 |none=>ADd d
theorem AEo{T:Tb}{lo:Nat}{ρ:Br}{K:KS}(h:Zq lo ρ K){d:GG}{l:List Int}(hl:AI7 K d=some l):d.den T ρ=l:=by
 unfold AI7 at hl;split at hl
 ·rename_i as1 has;rw[GG.den,iW h has,AMc hl]
 ·exact ABS hl
def aL:KS->List (Nat×GG)->KS
 |K,[]=>K
 |K,(n,d)::r=>aL (match AI7 K d with
  |some l=>(n,l)::K
  |none=>K) r
theorem Zq.mono{lo lo':Nat}{ρ:Br}{K:KS}(h:Zq lo ρ K)(hl:lo<=lo'):Zq lo' ρ K:=λi l hi=>⟨by have:=(h i l hi).1;omega,(h i l hi).2⟩
theorem Zq.ag{lo:Nat}{ρ ρ':Br}{K:KS}(h:Zq lo ρ K)(ha:JW lo ρ ρ'):Zq lo ρ' K:=λi l hi=>⟨(h i l hi).1,by rw[ha i (h i l hi).1];exact(h i l hi).2⟩
theorem lD{T:Tb}{hi:Nat}{ρ:Br}:∀ {ds:List (Nat×GG)} {lo:Nat} {K:KS},GL lo hi ds=true->Zq lo ρ K->Tp T ρ ds->Zq (iC lo ds) ρ (aL K ds)
 | [],lo,K,_,hK,_=>hK
 | (n,d)::r,lo,K,h,hK,hd=>by
  simp only[GL,Bl] at h;have h1:=MQ h.1.1.1;have hd1:=hd (n,d) Kh;unfold aL;show Zq (iC (n+1) r) ρ (aL _ r);refine lD (ds:=r) h.2 ?_ (λp hp=>hd p (Lv _ hp));have hK':=hK.mono (lo':=n+1) (by omega);split
  ·rename_i l hl;intro i l' hi;simp only[lk] at hi;cases hb:Nat.beq n i with
   |true=>
    rw[hb,cond_true,Ai] at hi;have:=CR hb;subst this;subst hi;refine⟨by omega,?_⟩;have e:ρ n=d.den T ρ:=hd1;rw[e,AEo hK hl]
   |false=>rw[hb,cond_false] at hi;exact hK' i l' hi
  ·exact hK'
structure Pth where
 ds:List (Nat×GG)
 ob:List JU
 cs:List Bz
 e:Ex
 st:St
 K:KS
def XP:KS->Bz->Option Pth
 |K,.leaf e st=>some ⟨[],[],[],e,st,K⟩
 |K,.fz ds ob t=>(match XP (aL K ds) t with
  |some p=>some ⟨ds++p.ds,ob++p.ob,p.cs,p.e,p.st,p.K⟩
  |none=>none)
 |K,.br x t f=>(match kX K x with
  |some c=>bif LC c 0 then XP K f else XP K t
  |none=>none)
 |K,.dc c t=>(match XP K t with
  |some p=>some ⟨p.ds,p.ob,c::p.cs,p.e,p.st,p.K⟩
  |none=>none)
 |_,_=>none
def Nv:Nat->KS->Bz->Bool
 |_,_,.leaf _ _=>true
 |lo,K,.fz ds ob t=>GL lo (iC lo ds) ds&&Jm (iC lo ds) ob&&Nv (iC lo ds) (aL K ds) t
 |lo,K,.br x t f=>(match kX K x with
  |some c=>bif LC c 0 then Nv lo K f else Nv lo K t
  |none=>false)
 |lo,K,.dc _ t=>Nv lo K t
 |_,_,_=>false
theorem rR{a:Int}(h:LC a 0=false):a≠0:=by
 intro e;subst e;cases h
theorem RX{T:Tb}{np:Nat}{ρ0:Br}:∀ {t:Bz} {lo:Nat} {K:KS} {ρ:Br} {p:Pth},np<=lo->JW np ρ0 ρ->Zq lo ρ K->Nv lo K t=true->XP K t=some p->
  JW lo ρ (Dl T ρ p.ds)/\Tp T (Dl T ρ p.ds) p.ds/\Wz T t ρ=some (Dl T ρ p.ds,p.e,p.st)/\WG T t ρ=some (Dl T ρ p.ds,p.st)/\(∃hi,Zq hi (Dl T ρ p.ds) p.K)/\
   ((∀q∈p.ob,q.den T (Dl T ρ p.ds))->(∀c∈p.cs,∀ ρ',JW np ρ0 ρ'->EY T c ρ')->EY T t ρ)
 | .leaf e st,lo,K,ρ,p,_,_,hK,_,h=>by
  simp only[XP,Ai] at h;subst h;exact⟨JW.refl _ _,λp hp=>(by cases hp),rfl,rfl,⟨lo,hK⟩,λ_ _=>trivial⟩
 | .fz yd ob0 t,lo,K,ρ,p,iu,ha,hK,hk,h=>by
  simp only[Nv,Bl] at hk;unfold XP at h;split at h
  ·rename_i p' ht;simp only[Ai] at h;subst h;obtain⟨g1,g2⟩:=VH T ρ hk.1.1;have hle:=YC hk.1.1;have pP:JW np ρ0 (Dl T ρ yd):=ha.trans g1 iu;obtain⟨k1,k2,k3,k4,k5,k6⟩:=RX (T:=T) (ρ:=Dl T ρ yd) (by omega) pP (lD hk.1.1 (hK.ag g1) g2) hk.2 ht;simp only;rw[QC];refine⟨g1.trans k1 hle,λp hp=>?_,k3,k4,k5,λho hc=>⟨λq hq=>?_,k6 (λq hq=>ho q (iB _ hq)) hc⟩⟩
   ·rcases jd.1 hp with hp|hp
    ·exact(g2.agE hk.1.1 k1) p hp
    ·exact k2 p hp
   ·exact(JU.cj k1 hk.1.2 q hq).1 (ho q (List.mem_append_left _ hq))
  ·cases h
 | .br x t f,lo,K,ρ,p,iu,ha,hK,hk,h=>by
  unfold Nv at hk;unfold XP at h;split at h
  ·rename_i c hc;rw[hc] at hk;simp only at hk;have hx:=YY hK hc;cases hb:LC c 0 with
   |true=>
    rw[hb,cond_true] at h hk;have e:=Jr hb;obtain⟨k1,k2,k3,k4,k5,k6⟩:=RX (T:=T) iu ha hK hk h;have kB:x.den ρ=0:=by rw[hx,e]
    refine⟨k1,k2,by unfold Wz;rw[if_pos kB];exact k3,by unfold WG;rw[if_pos kB];exact k4,k5,λho hc=>⟨λ_=>k6 ho hc,λhn=>absurd kB hn⟩⟩
   |false=>
    rw[hb,cond_false] at h hk;have e:=rR hb;obtain⟨k1,k2,k3,k4,k5,k6⟩:=RX (T:=T) iu ha hK hk h;have kB:x.den ρ≠0:=by rw[hx];exact e
    refine⟨k1,k2,by unfold Wz;rw[if_neg kB];exact k3,by unfold WG;rw[if_neg kB];exact k4,k5,λho hc=>⟨λhn=>absurd hn kB,λ_=>k6 ho hc⟩⟩
  ·cases h
 | .dc c t,lo,K,ρ,p,iu,ha,hK,hk,h=>by
  unfold Nv at hk;unfold XP at h;split at h
  ·rename_i p' ht;simp only[Ai] at h;subst h;obtain⟨k1,k2,k3,k4,k5,k6⟩:=RX (T:=T) iu ha hK hk ht;exact⟨k1,k2,k3,k4,k5,λho hc=>⟨hc c Kh ρ ha,k6 ho λc' h'=>hc c' (Lv _ h')⟩⟩
  ·cases h
 | .j8 _ _ _ _,_,_,_,_,_,_,_,hk,_=>by cases hk
 | .bad _,_,_,_,_,_,_,_,hk,_=>by cases hk
section
variable{A:Type}(γ:A->List Int->Prop)
def Vc(nm:Int->Option A):KS->BS A->BS A
 | [],s=>s
 |(i,[c])::r,s=>(match nm c with
  |some x=>(i,[(1,x)])::Vc nm r s
  |none=>Vc nm r s)
 |_::r,s=>Vc nm r s
theorem ABk{nm:Int->Option A}(hn:∀c x,nm c=some x->γ x [c]){ρ:Br}{s:BS A}(hs:Uy γ ρ s):∀ {K:KS},(∀p∈K,ρ p.1=p.2)->Uy γ ρ (Vc nm K s)
 | [],_=>hs
 | (j,l)::r,hK=>by
  have ih:=ABk hn hs (K:=r) λp hp=>hK p (Lv _ hp)
  unfold Vc;split
  ·rename_i h;cases h
  ·rename_i j' c r' he;cases he;have hj:=hK (j,[c]) Kh;split
   ·rename_i x hx;intro i bs hi;simp only[lk] at hi;cases hb:Nat.beq j i with
    |true=>
     rw[hb,cond_true,Ai] at hi;have:=CR hb;subst this;subst hi;exact⟨[c],[],hj,rfl,hn c x hx,rfl⟩
    |false=>rw[hb,cond_false] at hi;exact ih i bs hi
   ·exact ih
  ·rename_i p r' _ he;cases he;exact ih
def lL:Nat->List (Option (List Int))->KS
 |_,[]=>[]
 |j,none::r=>lL (j+1) r
 |j,some l::r=>(j,l)::lL (j+1) r
theorem VD:∀ {l:List (Option (List Int))} {j i:Nat} {b:List Int},lk i (lL j l)=some b->∃k,i=j+k/\l[k]? = some (some b)
 | [],j,i,bs,h=>by simp[lL,lk] at h
 |none::r,j,i,bs,h=>by
  simp only[lL] at h;obtain⟨k,h1,h2⟩:=VD h;exact⟨k+1,by omega,by simpa using h2⟩
 | some b::r,j,i,bs,h=>by
  simp only[lL,lk] at h;cases hb:Nat.beq j i with
  |true=>
   rw[hb,cond_true,Ai] at h;have:=CR hb;exact⟨0,by omega,by rw[<- h];rfl⟩
  |false=>
   rw[hb,cond_false] at h;obtain⟨k,h1,h2⟩:=VD h;exact⟨k+1,by omega,by simpa using h2⟩
def kr:KS->Bool
 | []=>true
 |(i,_)::r=>(match lk i r with
  |some _=>false
  |none=>true)&&kr r
theorem iV:∀ {K:KS},kr K=true->∀p∈K,lk p.1 K=some p.2
 | [],_,p,hp=>by cases hp
 | (i,l)::r,h,p,hp=>by
  simp only[kr,Bl] at h;rcases IR.1 hp with rfl|hp
  ·simp only[lk,Nat.beq_refl,cond_true]
  ·have ih:=iV h.2 p hp;simp only[lk];cases hb:Nat.beq i p.1 with
   |true=>
    have:=CR hb;subst this;rw[ih] at h;cases h.1
   |false=>rw[cond_false];exact ih
def ABM (t:Tf A) (nm:Int->Option A) (vx:List (Nat×GG)->BS A->JU->Bool) (tr:Bz) (C:Cx) (s0:BH) (cF:List ResultVar) (j0:List (Option (List Int))) (bin:List (Option (List (Nat×A)))):Option (List Bz×List (List (Bk A))):=
 match XP (lL 0 j0) tr with
 | some p=>bif Nv s0.params.length (lL 0 j0) tr&&Nat.beq bin.length s0.params.length&&Nat.beq j0.length s0.params.length&&kr p.K then
   (let s:=YR t (Vc nm p.K (WH 0 bin)) p.ds
     bif p.ob.all (yU t (vx p.ds) s) then(match Ml C s0 cF p.st with
   |some es=>(match TH s es with
    |some r=>some (p.cs,r)
    |none=>none)
   |none=>none) else none) else none
 |none=>none
theorem AB7{t:Tf A}{nm:Int->Option A}{vx:List (Nat×GG)->BS A->JU->Bool}{i:Ad}{C:Cx}{j0:List (Option (List Int))}{bin:List (Option (List (Nat×A)))}{cs:List Bz}{r:List (List (Bk A))}(hn:∀c x,nm c=some x->γ x [c])(ht:Zd γ C.T t)(ho:∀ds,jU γ C.T ds (vx ds))(h:ABM t nm vx (i.tree C) C i.s0 i.cF j0 bin=some (cs,r)){ins:List (List Int)}(hk:∀(j:Nat) (l:List Int),j0[j]? = some (some l)->ins.getD j []=l)(hb:∀(j:Nat) (b:List (Nat×A)),bin[j]? = some (some b)->Ei γ b (ins.getD j [])):
  ((∀c∈cs,∀ ρ',JW i.s0.params.length (Ce ins) ρ'->EY C.T c ρ')->EY C.T (i.tree C) (Ce ins))/\∃ ρ:Br,(∀j,j<i.s0.params.length->ρ j=ins.getD j [])/\∀(k:Nat) (b:List (Bk A)),r[k]? = some b->GZ γ ρ b (i.raw C k ins):=by
 unfold ABM at h;split at h
 ·rename_i p hl;cases hc:(Nv i.s0.params.length (lL 0 j0) (i.tree C)&&Nat.beq bin.length i.s0.params.length&&Nat.beq j0.length i.s0.params.length&&kr p.K) with
  |false=>rw[hc] at h;cases h
  |true=>
  rw[hc,cond_true] at h;simp only[Bl] at hc;have hlen:=CR hc.1.1.2;have ac2:=CR hc.1.2;have hK0:Zq i.s0.params.length (Ce ins) (lL 0 j0):=λj l hj=>by
   obtain⟨k,h1,h2⟩:=VD hj;rw[Km] at h1;subst h1;have cf:j<j0.length:=(OQ.1 h2).1;exact⟨by omega,hk j l h2⟩
  obtain⟨k1,k2,k3,k4,⟨hi,k5⟩,k6⟩:=RX (T:=C.T) (np:=i.s0.params.length) (ρ0:=Ce ins) (ρ:=Ce ins) (KA _) (JW.refl _ _) hK0 hc.1.1.1 hl;have hρ:∀j,j<i.s0.params.length->Dl C.T (Ce ins) p.ds j=ins.getD j []:=λj hj=>by rw[k1 j hj];rfl
  have eC:Uy γ (Dl C.T (Ce ins) p.ds) (WH 0 bin):=λj bs hj=>by
   obtain⟨k,h1,h2⟩:=Vg hj;rw[Km] at h1;subst h1;have cf:j<bin.length:=(OQ.1 h2).1;rw[hρ j (by omega)];exact hb j bs h2
  have HB:Uy γ (Dl C.T (Ce ins) p.ds) (Vc nm p.K (WH 0 bin)):=ABk γ hn eC λq hq=>(k5 q.1 q.2 (iV hc.2 q hq)).2
  have hS:=ZI γ ht HB k2;simp only at h;cases qu:p.ob.all (yU t (vx p.ds) (YR t (Vc nm p.K (WH 0 bin)) p.ds)) with
  |false=>rw[qu] at h;cases h
  |true=>
  rw[qu,cond_true] at h;split at h
  ·rename_i es nn;split at h
   ·rename_i r' hr;simp only[Ai,Prod.mk.injEq] at h;obtain⟨rfl,rfl⟩:=h;refine⟨k6 λq hq=>tX γ ht (ho p.ds) k2 hS (Mx.1 qu q hq),Dl C.T (Ce ins) p.ds,hρ,λk b hk=>?_⟩;obtain⟨e',g1,g2⟩:=Sy hr k b hk;have:i.raw C k ins=e'.1.map (·.den (Dl C.T (Ce ins) p.ds)):=by
     unfold Ad.raw Vo;rw[k4];simp only[nn,g1]
    rw[this];exact PG γ hS _ _ _ g2
   ·cases h
  ·cases h
 ·cases h
end
end
section
open Go Ma
def NN(l:List Int)(o:Nat):Prop:=∀k,k<5->l.getD (o+k) 0=0
def AB3:GG->Option (Nat×Nat)
 |⟨.eqv,[.xs (.v j o::r),.xs [.lit a,.lit b,.lit c,.lit d,.lit e]]⟩=>bif Ph j o (.v j o::r)&&Nat.beq r.length 4&&LC a 0&&LC b 0&&LC c 0&&LC d 0&&LC e 0 then some (j,o) else none
 |_=>none
theorem AK8{b:Bool}(h:XH b≠0):b=true:=by
 cases b with
 |true=>rfl
 |false=>exact absurd rfl h
theorem AB4{T:Tb}{ρ:Br}{d:GG}{p:Nat×Nat}(h:AB3 d=some p)(hd:(d.den T ρ).getD 0 0≠0):NN (ρ p.1) p.2:=by
 unfold AB3 at h;split at h
 ·rename_i j o r a b c d e;cases hb:(Ph j o (.v j o::r)&&Nat.beq r.length 4&&LC a 0&&LC b 0&&LC c 0&&LC d 0&&LC e 0) with
  |false=>rw[hb] at h;cases h
  |true=>
   rw[hb,cond_true,Ai] at h;subst h;simp only[Bl] at hb;obtain⟨⟨⟨⟨⟨⟨h1,h2⟩,ha⟩,hb⟩,hc⟩,qt⟩,he⟩:=hb;have ha:=Jr ha;have hb:=Jr hb;have hc:=Jr hc;have qt:=Jr qt;have he:=Jr he;subst ha;subst hb;subst hc;subst qt;subst he;have h2:=CR h2;have h3:((X.v j o::r).map (·.den ρ) == [0,0,0,0,0])=true:=AK8 hd;have h4:=eq_of_beq h3;rw[Xc h1,Uk,h2] at h4;intro k hk;have:=EH (λl=>l[k]?) h4;simp only[Ng] at this;rw[List.getElem?_range (by omega)] at this;simp only[UA] at this
   match k,hk with
   |0,_=>simpa using this
   |1,_=>simpa using this
   |2,_=>simpa using this
   |3,_=>simpa using this
   |4,_=>simpa using this
 ·cases h
abbrev PN:=Nat×Nat
def pnB(a b:PN):Bool:=Nat.beq a.1 b.1&&Nat.beq a.2 b.2
def ACB(p:PN):List PN->Bool
 | []=>false
 |q::r=>pnB p q||ACB p r
theorem gX{p:PN}:∀ {l:List PN},ACB p l=true->p∈l
 | [],h=>by cases h
 | q::r,h=>by
  simp only[ACB,Bool.or_eq_true,pnB,Bl] at h;rcases h with h|h
  ·have e:p=q:=Prod.ext (CR h.1) (CR h.2);rw[e];exact Kh
  ·exact Lv _ (gX h)
def WA(np:Nat):List (Nat×PN)->List (Nat×GG)->List (Nat×PN)
 |K,[]=>K
 |K,(n,d)::r=>WA np (match AB3 d with
  |some p=>bif Nat.blt p.1 np then(n,p)::K else K
  |none=>K) r
def AOa(pts:List PN)(K:List (Nat×PN))(tr:List PN):JU->Bool
 | .zr (.v n 0)=>(match lk n K with
  |some (j,o)=>Nat.ble 5 o&&ACB (j,o-5) pts&&ACB (j,o-5) tr
  |none=>false)
 |_=>false
def fM(np:Nat)(pts:List PN):Nat->List (Nat×PN)->List PN->Bz->Bool
 |_,_,_,.leaf _ _=>true
 |lo,K,tr,.fz ds ob t=>GL lo (iC lo ds) ds&&ob.all (AOa pts (WA np K ds) tr)&&fM np pts (iC lo ds) (WA np K ds) tr t
 |lo,K,tr,.br (.v n 0) t f=>(match lk n K with
  |some p=>fM np pts lo K (p::tr) t
  |none=>fM np pts lo K tr t)&&fM np pts lo K tr f
 |_,_,_,_=>false
def xJ(np lo:Nat)(ρ:Br)(K:List (Nat×PN)):Prop:=∀n p,lk n K=some p->n<lo/\p.1<np/\((ρ n).getD 0 0≠0->NN (ρ p.1) p.2)
theorem aF{T:Tb}{np hi:Nat}{ρ:Br}:∀ {ds:List (Nat×GG)} {lo:Nat} {K:List (Nat×PN)},GL lo hi ds=true->xJ np lo ρ K->Tp T ρ ds->xJ np (iC lo ds) ρ (WA np K ds)
 | [],lo,K,_,hK,_=>hK
 | (n,d)::r,lo,K,h,hK,hd=>by
  simp only[GL,Bl] at h;have h1:=MQ h.1.1.1;have hd1:ρ n=d.den T ρ:=hd (n,d) Kh;unfold WA;show xJ np (iC (n+1) r) ρ (WA np _ r);refine aF (ds:=r) h.2 ?_ (λp hp=>hd p (Lv _ hp));have hK':xJ np (n+1) ρ K:=λm p hm=>⟨by have:=(hK m p hm).1;omega,(hK m p hm).2⟩
  split
  ·rename_i p hp;cases hb:Nat.blt p.1 np with
   |false=>exact hK'
   | true=>
    rw[cond_true];intro m q hm;simp only[lk] at hm;cases tI:Nat.beq n m with
    |true=>
     rw[tI,cond_true,Ai] at hm;have:=CR tI;subst this;subst hm;exact⟨by omega,MQ hb,λcq=>AB4 hp (hd1 ▸ cq)⟩
    |false=>rw[tI,cond_false] at hm;exact hK' m q hm
  ·exact hK'
theorem VF{T:Tb}{np:Nat}{pts:List PN}{ρ0:Br}(hp:∀p∈pts,¬(NN (ρ0 p.1) p.2/\NN (ρ0 p.1) (p.2+5))):∀ {t:Bz} {lo:Nat} {K:List (Nat×PN)} {tr:List PN} {ρ:Br},np<=lo->JW np ρ0 ρ->xJ np lo ρ K->(∀p∈tr,NN (ρ0 p.1) p.2)->fM np pts lo K tr t=true->EY T t ρ
 | .leaf _ _,_,_,_,_,_,_,_,_,_=>trivial
 | .fz ds ob t,lo,K,tr,ρ,iu,ha,hK,htr,h=>by
  unfold fM at h;simp only[Bl] at h;obtain⟨g1,g2⟩:=VH T ρ h.1.1;have hle:=YC h.1.1;have pP:JW np ρ0 (Dl T ρ ds):=ha.trans g1 iu;have hK1:xJ np lo (Dl T ρ ds) K:=λn p hn=>⟨(hK n p hn).1,(hK n p hn).2.1,by
   have h1:=hK n p hn;rw[g1 n h1.1,g1 p.1 (by omega)];exact h1.2.2⟩
  have hK2:=aF h.1.1 hK1 g2;refine⟨λq hq=>?_,VF hp (by omega) pP hK2 htr h.2⟩;have hq:=Mx.1 h.1.2 q hq;unfold AOa at hq;split at hq
  ·rename_i n dj;split at hq
   ·rename_i j o hn;simp only[Bl] at hq;obtain⟨⟨h5,h6⟩,h7⟩:=hq;have h5:=MQ h5;have h6:=hp _ (gX h6);have h7:=htr _ (gX h7);obtain⟨k1,k2,k3⟩:=hK2 n (j,o) hn;show(Dl T ρ ds n).getD 0 0=0;refine Classical.byContradiction λcq=>h6 ⟨h7,?_⟩
    have:=k3 cq;simp only at this;rw[pP j k2] at this;have e:o-5+5=o:=by omega
    show NN (ρ0 j) (o-5+5);rw[e];exact this
   ·cases hq
  ·cases hq
 | .br (.v n 0) t f,lo,K,tr,ρ,iu,ha,hK,htr,h=>by
  unfold fM at h;simp only[Bl] at h;refine⟨λ_=>VF hp iu ha hK htr h.2,λcq=>?_⟩;have h1:=h.1;split at h1
  ·rename_i p hn;obtain⟨k1,k2,k3⟩:=hK n p hn;refine VF hp iu ha hK ?_ h1;intro q hq;rcases IR.1 hq with rfl|hq
   ·have:=k3 cq;rw[ha q.1 k2] at this;exact this
   ·exact htr q hq
  ·exact VF hp iu ha hK htr h1
 | .br (.lit _) _ _,_,_,_,_,_,_,_,_,h=>by cases h
 | .br (.v _ (_+1)) _ _,_,_,_,_,_,_,_,_,h=>by cases h
 | .j8 _ _ _ _,_,_,_,_,_,_,_,_,h=>by cases h
 | .dc _ _,_,_,_,_,_,_,_,_,h=>by cases h
 | .bad _,_,_,_,_,_,_,_,_,h=>by cases h
theorem lK{P:Pt}{l:List Int}(h:R3 P l):¬(NN l 0/\NN l 5):=by
 obtain⟨X,Y,Z,T,⟨u,w,h1,h2,u2,w2,h3,h4,_⟩,hP⟩:=h;intro⟨g1,g2⟩;have hu:u.length=5:=h2.1.1;have vj:u2.length=5:=h4.1.1;have e0:∀k,k<5->u.getD k 0=0:=λk hk=>by
  have:=g1 k hk;rw[h1,List.getD,Zm (by omega),Km] at this;exact this
 have e1:∀k,k<5->u2.getD k 0=0:=λk hk=>by
  have:=g2 k hk;rw[h1,h3,List.getD,dh (by omega),hu,Nat.add_sub_cancel_left,Zm (by omega)] at this;exact this
 have x0:X=0:=by
  rw[<- h2.2,show NG u=0 by unfold NG;rw[e0 0 (by omega),e0 1 (by omega),e0 2 (by omega),e0 3 (by omega),e0 4 (by omega)];rfl,Kz]
 have y0:Y=0:=by
  rw[<- h4.2,show NG u2=0 by unfold NG;rw[e1 0 (by omega),e1 1 (by omega),e1 2 (by omega),e1 3 (by omega),e1 4 (by omega)];rfl,Kz]
 have hx:=hP.x;have hy:=hP.y;have hz:=hP.z;rw[x0] at hx;rw[y0] at hy;have hc:=P.h;unfold LB at hc;have px:P.x=0:=Pq hz (by rw[<- hx];grind);have py:P.y=0:=Pq hz (by rw[<- hy];grind);rw[px,py] at hc;exact absurd (show(0:Fp)=1 by grind) (by decide +kernel)
inductive Hv:List (Option (List Int))->List (List Int)->Prop where
 |nil:Hv [] []
 |no {l:List Int} {bs:List (Option (List Int))} {ls:List (List Int)}:Hv bs ls->Hv (none::bs) (l::ls)
 |yes {l:List Int} {bs:List (Option (List Int))} {ls:List (List Int)}:Hv bs ls->Hv (some l::bs) (l::ls)
theorem Hv.get:∀ {bs:List (Option (List Int))} {ls:List (List Int)},Hv bs ls->∀(j:Nat) (b:List Int),bs[j]? = some (some b)->ls.getD j []=b
 |_,_,.nil,j,b,h=>by simp at h
 |_,_,.no h1,0,b,h=>by simp at h
 |_,_,.no h1,j+1,b,h=>by
  have:=h1.get j b (by simpa using h);simpa using this
 |_,_,.yes h1,0,b,h=>by
  simp only[Ul,Ai] at h;subst h;rfl
 |_,_,.yes h1,j+1,b,h=>by
  have:=h1.get j b (by simpa using h);simpa using this
section
variable{A:Type}{γ:A->List Int->Prop}
def Pi(t:Tf A)(nm:Int->Option A)(tr:Bz)(C:Cx)(s0:BH)(cF:List ResultVar)(j0:List (Option (List Int)))(bin:List (Option (List (Nat×A))))(pts:List PN):Option (List (List (Bk A))):=
 match ABM t nm X3 tr C s0 cF j0 bin with
 |some (cs,r)=>bif cs.all (fM s0.params.length pts s0.params.length [] []) then some r else none
 |none=>none
theorem lM{t:Tf A}{nm:Int->Option A}{i:Ad}{C:Cx}{j0:List (Option (List Int))}{bin:List (Option (List (Nat×A)))}{pts:List PN}{r:List (List (Bk A))}(hn:∀c x,nm c=some x->γ x [c])(ht:Zd γ C.T t)(h:Pi t nm (i.tree C) C i.s0 i.cF j0 bin pts=some r){ins:List (List Int)}(hk:Hv j0 ins)(hb:Zb γ bin ins)(hp:∀p∈pts,¬(NN (ins.getD p.1 []) p.2/\NN (ins.getD p.1 []) (p.2+5))):
  EY C.T (i.tree C) (Ce ins)/\∃ ρ:Br,(∀j,j<i.s0.params.length->ρ j=ins.getD j [])/\∀(k:Nat) (b:List (Bk A)),r[k]? = some b->GZ γ ρ b (i.raw C k ins):=by
 unfold Pi at h;split at h
 ·rename_i cs r' hr;cases hc:cs.all (fM i.s0.params.length pts i.s0.params.length [] []) with
  |false=>rw[hc] at h;cases h
  |true=>
   rw[hc,cond_true,Ai] at h;subst h;obtain⟨h1,h2⟩:=AB7 γ hn ht (λds=>Uh ds) hr hk.get hb.get;exact⟨h1 λc hcc ρ' ha=>VF (ρ0:=Ce ins) hp (KA _) ha (λn p hn=>by cases hn) (λp hp=>by cases hp) (Mx.1 hc c hcc),h2⟩
 ·cases h
end
def yT(c:Int):Option GX:=some (.num c)
theorem AJL{ρ:GV}(c:Int)(x:GX)(h:yT c=some x):γG ρ x [c]:=by
 simp only[yT,Ai] at h;subst h;rfl
def nmF(_:Int):Option FX:=none
theorem ALN{ρ:FV}(c:Int)(x:FX)(h:nmF c=some x):γF ρ x [c]:=by cases h
theorem AHj{M:List (Nat×KP)}{i:Ad}{C:Cx}{ρ:GV}{j0:List (Option (List Int))}{bin:List (Option (List (Nat×GX)))}{pts:List PN}{r:List (List (Bk GX))}(hM:MG C.T ρ M)(h:Pi (tY M) yT (i.tree C) C i.s0 i.cF j0 bin pts=some r){ins:List (List Int)}(hk:Hv j0 ins)(eC:Zb (γG ρ) bin ins)(hp:∀p∈pts,¬(NN (ins.getD p.1 []) p.2/\NN (ins.getD p.1 []) (p.2+5))):
  EY C.T (i.tree C) (Ce ins)/\∃ ρe:Br,∀(k:Nat) (b:List (Bk GX)),r[k]? = some b->GZ (γG ρ) ρe b (i.raw C k ins):=by
 obtain⟨h1,ρe,h2,h3⟩:=lM AJL (AJr hM) h hk eC hp;exact⟨h1,ρe,h3⟩
theorem uu{T:Tb}{f o:Nat}{s:BH}(h:lk f T=some (.one s))(args:List (List Int)):gv T f o args=(s.pr o).den args:=by
 simp only[gv,Na.den,h];rfl
theorem yH{T:Tb}{f n:Nat}{M:List (Nat×KP)}{i:Ad}{C:Cx}{ρ:GV}{j0:List (Option (List Int))}{bin:List (Option (List (Nat×GX)))}{pts:List PN}{b:List (Bk GX)}(hs:lk f T=some (.one (i.cC C)))(ho:(i.cC C).pr 0= .l λa=>BK n (i.raw C 0 a))(hM:MG C.T ρ M)(h:Pi (tY M) yT (i.tree C) C i.s0 i.cF j0 bin pts=some [b]){ins:List (List Int)}(hk:Hv j0 ins)(eC:Zb (γG ρ) bin ins)(hp:∀p∈pts,¬(NN (ins.getD p.1 []) p.2/\NN (ins.getD p.1 []) (p.2+5)))(hl:∀ ρe l,GZ (γG ρ) ρe b l->l.length=n):
  LM T f ins/\∃ ρe:Br,GZ (γG ρ) ρe b (gv T f 0 ins):=by
 obtain⟨h1,ρe,h2⟩:=AHj hM h hk eC hp;refine⟨⟨⟨_,hs,h1⟩⟩,ρe,?_⟩;have h3:=h2 0 b rfl;rw[uu hs,ho];show GZ (γG ρ) ρe b (BK n (i.raw C 0 ins));rw[Bn (hl ρe _ h3)];exact h3
end
section
open Go
def Rd(K:KS):JU->Bool
 | .jn x n=>(match kX K x with
  |some c=>Bh 0 c&&Bh c ((n:Int)-1)
  |none=>false)
 | .vq x=>(match kX K x with
  |some c=>Bh 0 c
  |none=>false)
 | .vn x=>(match kX K x with
  |some c=>LC c 0||LC c 1
  |none=>false)
 | .zr x=>(match kX K x with
  |some c=>LC c 0
  |none=>false)
 | .nz x=>(match kX K x with
  |some c=> !(LC c 0)
  |none=>false)
 | .pre _ _=>false
theorem ALd{T:Tb}{lo:Nat}{ρ:Br}{K:KS}(hK:Zq lo ρ K){q:JU}(h:Rd K q=true):q.den T ρ:=by
 cases q with
 | jn x n=>
  simp only[Rd] at h;split at h
  ·rename_i c hc;simp only[Bl] at h;have h1:=A8 h.1;have h2:=A8 h.2;show 0<=x.den ρ/\x.den ρ<n;rw[YY hK hc];omega
  ·cases h
 | vq x=>
  simp only[Rd] at h;split at h
  ·rename_i c hc;show 0<=x.den ρ;rw[YY hK hc];exact A8 h
  ·cases h
 | vn x=>
  simp only[Rd] at h;split at h
  ·rename_i c hc;simp only[Bool.or_eq_true] at h;show x.den ρ=0\/x.den ρ=1;rw[YY hK hc];rcases h with h|h
   ·exact .inl (Jr h)
   ·exact .inr (Jr h)
  ·cases h
 | zr x=>
  simp only[Rd] at h;split at h
  ·rename_i c hc;show x.den ρ=0;rw[YY hK hc];exact Jr h
  ·cases h
 | nz x=>
  simp only[Rd] at h;split at h
  ·rename_i c hc;show x.den ρ≠0;rw[YY hK hc];simp only[Bool.not_eq_true'] at h;exact rR h
  ·cases h
 |pre f l=>cases h
def kAt(q np:Nat)(c:Int):List (Option (List Int)):=List.replicate q none++some [c]::List.replicate (np-q-1) none
theorem AFV{q np:Nat}{c:Int}{j:Nat}{l:List Int}(h:(kAt q np c)[j]? = some (some l)):j=q/\l= [c]:=by
 unfold kAt at h;rcases Nat.lt_trichotomy j q with hj|hj|hj
 ·rw[Zm (by simpa using hj),iD] at h;split at h<;>cases h
 ·subst hj;rw[dh (by simp)] at h;simp only[Qs,zcy,Ul,Ai] at h;exact⟨rfl,h.symm⟩
 ·rw[dh (by simp;omega)] at h;simp only[Qs] at h;have:j-q=(j-q-1)+1:=by omega
  rw[this,yl,iD] at h;split at h<;>cases h
def ADs (i:JJ) (C:Cx) (q:Nat) (c:Int):Option (Bool×Int):=
 match XP (lL 0 (kAt q i.s0.params.length c)) (i.tree C) with
 | some p=>bif Nv i.s0.params.length (lL 0 (kAt q i.s0.params.length c)) (i.tree C)&&(match p.cs with
   | []=>true
   |_=>false)&&p.ob.all (Rd p.K) then(match i.leaf p.e p.st with
   | some (b,al)=>(match al[q]? with
    |some a=>(match AK4 p.K a with
     |some [d]=>some (b,d)
     |_=>none)
    |none=>none)
   |none=>none) else none
 |none=>none
theorem vJ{i:JJ}{C:Cx}{q:Nat}{c d:Int}{b:Bool}(hq:q<i.s0.params.length)(h:ADs i C q c=some (b,d)){ins:List (List Int)}(hi:ins.getD q []= [c]):
  EY C.T (i.tree C) (Ce ins)/\∃r,i.step C ins=some (b,r)/\r.getD q []= [d]:=by
 unfold ADs at h;split at h
 ·rename_i p hl;cases hc:(Nv i.s0.params.length (lL 0 (kAt q i.s0.params.length c)) (i.tree C)&&(match p.cs with
   | []=>true
   |_=>false)&&p.ob.all (Rd p.K)) with
  |false=>rw[hc] at h;cases h
  | true=>
   rw[hc,cond_true] at h;simp only[Bl] at hc;obtain⟨⟨c1,c2⟩,c3⟩:=hc;have hK0:Zq i.s0.params.length (Ce ins) (lL 0 (kAt q i.s0.params.length c)):=λj l hj=>by
    obtain⟨k,h1,h2⟩:=VD hj;rw[Km] at h1;subst h1;obtain⟨rfl,rfl⟩:=AFV h2;exact⟨hq,hi⟩
   obtain⟨k1,k2,k3,k4,⟨B8,k5⟩,k6⟩:=RX (T:=C.T) (np:=i.s0.params.length) (ρ0:=Ce ins) (ρ:=Ce ins) (KA _) (JW.refl _ _) hK0 c1 hl;split at h
   ·rename_i b' al hlf;split at h
    ·rename_i a ha;split at h
     ·rename_i d' hd;simp only[Ai,Prod.mk.injEq] at h;obtain⟨rfl,rfl⟩:=h;refine⟨k6 (λo ho=>ALd k5 (Mx.1 c3 o ho)) (λc' i6=>?_),al.map (·.den (Dl C.T (Ce ins) p.ds)),?_,?_⟩
      ·split at c2
       ·rename_i he;rw[he] at i6;cases i6
       ·cases c2
      ·unfold JJ.step;rw[k3];simp only[hlf]
      ·rw[List.getD,Ng,ha];exact wD k5 hd
     ·cases h
    ·cases h
   ·cases h
 ·cases h
def W9(i:JJ)(C:Cx)(q:Nat)(n:Nat):Nat->Bool
 |0=>(match ADs i C q (n:Int) with
  |some (b,_)=> !b
  |none=>false)
 |m+1=>(match ADs i C q ((n:Int)-(m+1:Nat)) with
  |some (b,d)=>b&&LC d ((n:Int)-(m:Nat))
  |none=>false)&&W9 i C q n m
theorem ZP{i:JJ}{C:Cx}{q n:Nat}(hq:q<i.s0.params.length):∀ {m:Nat} {ins:List (List Int)} {f:Nat},W9 i C q n m=true->ins.getD q []= [(n:Int)-(m:Nat)]->m<f->jJ (i.step C) (λins=>EY C.T (i.tree C) (Ce ins)) f ins
 |0,ins,0,h,hi,hf=>by omega
 | 0,ins,f+1,h,hi,hf=>by
  unfold W9 at h;rw[show((n:Int)-((0:Nat):Int))=n by omega] at hi;split at h
  ·rename_i b d hd;obtain⟨h1,r,h2,h3⟩:=vJ hq hd hi;simp only[Bool.not_eq_true'] at h;subst h;refine⟨h1,?_⟩;rw[h2];trivial
  ·cases h
 |m+1,ins,0,h,hi,hf=>by omega
 | m+1,ins,f+1,h,hi,hf=>by
  unfold W9 at h;simp only[Bl] at h;obtain⟨h0,hr⟩:=h;split at h0
  ·rename_i b d hd;simp only[Bl] at h0;obtain⟨h1,r,h2,h3⟩:=vJ hq hd hi;have hb:=h0.1;subst hb;have qt:=Jr h0.2;subst qt;refine⟨h1,?_⟩;rw[h2];exact ZP hq hr h3 (by omega)
  ·cases h0
end
end Go.Proofs.YtloibefkijfdlaaGreatDoor
