/- Lists of numbers of five limbs, and functions on them. Walks over trees with branches that known numbers decide. Rounds of loops whose counter is known. Checks that a point is one; walks with checks. -/
import Derived.Test.YtloibefkijfdlaaGreatDoorCa
import Derived.Test.YtloibefkijfdlaaGreatDoorMa
namespace Go.Proofs.YtloibefkijfdlaaGreatDoor
open Go Ma
def FsR:List Fp→List Int→Prop
 | [],l=>l= []
 |x::xs,l=>∃ u w,l=u++w∧feR x u∧FsR xs w
theorem FsR.len:∀ {xs:List Fp} {l:List Int},FsR xs l→l.length=5*xs.length
 | [],l,h=>by rw[show l= [] from h]; rfl
 |x::xs,l,⟨u,w,h1,h2,h3⟩=>by
  have h4:=h3.len
  have h5:u.length=5:=h2.1.1
  rw[h1,List.length_append,h4,h5,List.length_cons]; omega
inductive InB {A:Type} (γ:A→List Int→Prop):List (Option (List (Nat×A)))→List (List Int)→Prop where
 |nil:InB γ [] []
 |no {l:List Int} {bs:List (Option (List (Nat×A)))} {ls:List (List Int)}:InB γ bs ls→InB γ (none::bs) (l::ls)
 |yes {b:List (Nat×A)} {l:List Int} {bs:List (Option (List (Nat×A)))} {ls:List (List Int)}:BlsOk γ b l→InB γ bs ls→InB γ (some b::bs) (l::ls)
theorem InB.get{A:Type}{γ:A→List Int→Prop}:∀ {bs:List (Option (List (Nat×A)))} {ls:List (List Int)},InB γ bs ls→∀ (j:Nat) (b:List (Nat×A)),bs[j]? = some (some b)→BlsOk γ b (ls.getD j [])
 |_,_,.nil,j,b,h=>by simp at h
 |_,_,.no h1,0,b,h=>by simp at h
 |_,_,.no h1,j+1,b,h=>by
  have:=h1.get j b (by simpa using h)
  simpa using this
 |_,_,.yes h0 h1,0,b,h=>by
  simp only[List.getElem?_cons_zero,osE] at h
  subst h
  simpa using h0
 |_,_,.yes h0 h1,j+1,b,h=>by
  have:=h1.get j b (by simpa using h)
  simpa using this
def fb(es:List FX):List (Nat×FX):=es.map fun e=>(5,e)
def noB(es:List FX):Bool:=es.all fun e=> !e.isB
theorem FsR.bl{ρ:FV}:∀ {es:List FX} {l:List Int},noB es=true→FsR (es.map (·.ev ρ)) l→BlsOk (γF ρ) (fb es) l
 | [],l,_,h=>h
 |e::es,l,hb,⟨u,w,h1,h2,h3⟩=>by
  simp only[noB,List.all_cons,baE,Bool.not_eq_true'] at hb
  exact⟨u,w,h1,h2.1.1,by unfold γF; rw[hb.1]; exact h2,FsR.bl (es:=es) hb.2 h3⟩
theorem FsR.of{ρ:FV}{ρe:Env}:∀ {es:List FX} {l:List Int},noB es=true→BksOk (γF ρ) ρe (es.map fun e=>.a 5 e) l→FsR (es.map (·.ev ρ)) l
 | [],l,_,h=>h
 |e::es,l,hb,⟨u,w,h1,h2,h3⟩=>by
  simp only[noB,List.all_cons,baE,Bool.not_eq_true'] at hb
  exact⟨u,w,h1,γF_fe h2.2 hb.1,FsR.of (es:=es) hb.2 h3⟩
theorem b1_ok{ρ:FV}{n:Nat}{c:Bool}(h:ρ.b n=c):BlsOk (γF ρ) [(1,.b n)] [bif c then 1 else 0]:=
 ⟨[bif c then 1 else 0],[],rfl,rfl,by subst h; rfl,rfl⟩
def noO{A:Type}:List (Nat×Def)→BS A→Obl→Bool:=fun _ _ _=>false
theorem noO_ok{A:Type}{γ:A→List Int→Prop}{T:Tb}(ds:List (Nat×Def)):OthOk γ T ds (noO ds):=fun _ _ _ _ _ h=>by cases h
theorem ptFn{M:List (Nat×KF)}{i:FnI}{C:Cx}{bin:List (Option (List (Nat×FX)))}{es:List FX}(hM:MF C.T M)(h:bkFn (tfF M) noO i C bin=some [es.map fun e=>.a 5 e])(hB:noB es=true)(ρ:FV){ins:List (List Int)}(hin:InB (γF ρ) bin ins):
  evOb C.T (i.tree C) (insE ins)∧FsR (es.map (·.ev ρ)) (i.raw C 0 ins):=by
 obtain⟨h1,ρe,h2,h3⟩:=bkFn_ok (γF ρ) (tfF_ok hM ρ) (fun ds=>noO_ok ds) h hin.get
 exact⟨h1,FsR.of hB (h3 0 _ rfl)⟩
theorem ptFn0{M:List (Nat×KF)}{i:FnI}{C:Cx}{n:Nat}{es:List FX}(hM:MF C.T M)(h:bkFn (tfF M) noO i C (List.replicate n none)=some [es.map fun e=>.a 5 e])(hB:noB es=true)(ρ:FV)(ins:List (List Int)):
  evOb C.T (i.tree C) (insE ins)∧FsR (es.map (·.ev ρ)) (i.raw C 0 ins):=by
 obtain⟨h1,ρe,h2,h3⟩:=bkFn_ok (ins:=ins) (γF ρ) (tfF_ok hM ρ) (fun ds=>noO_ok ds) h (fun j b hj=>by
  rw[List.getElem?_replicate] at hj
  split at hj<;>cases hj)
 exact⟨h1,FsR.of hB (h3 0 _ rfl)⟩
theorem FsR.fix{xs:List Fp}{l:List Int}{n:Nat}(h:FsR xs l)(hn:5*xs.length=n):fixL n l=l:=by
 subst hn; rw[← h.len]; exact fixL_id rfl
def R3(P:Pt)(l:List Int):Prop:=∃ X Y Z T,FsR [X,Y,Z,T] l∧P3 X Y Z T P
def R11(P:Pt)(l:List Int):Prop:=∃ X Y Z T,FsR [X,Y,Z,T] l∧P11 X Y Z T P
def R2(P:Pt)(l:List Int):Prop:=∃ X Y Z,FsR [X,Y,Z] l∧P2 X Y Z P
def RC(P:Pt)(l:List Int):Prop:=∃ A B C E,FsR [A,B,C,E] l∧PC A B C E P
def RA(P:Pt)(l:List Int):Prop:=∃ A B E,FsR [A,B,E] l∧AC A B E P
inductive Rep where
 |p3|p11|p2|pc|pa
def Rep.n:Rep→Nat
 | .p3=>20
 | .p11=>20
 | .p2=>15
 | .pc=>20
 | .pa=>15
def RR:Rep→Pt→List Int→Prop
 | .p3=>R3
 | .p11=>R11
 | .p2=>R2
 | .pc=>RC
 | .pa=>RA
theorem RR.len:∀ {r:Rep} {P:Pt} {l:List Int},RR r P l→l.length=r.n
 | .p3,_,_,⟨_,_,_,_,h,_⟩=>h.len
 | .p11,_,_,⟨_,_,_,_,h,_⟩=>h.len
 | .p2,_,_,⟨_,_,_,h,_⟩=>h.len
 | .pc,_,_,⟨_,_,_,_,h,_⟩=>h.len
 | .pa,_,_,⟨_,_,_,h,_⟩=>h.len
def Rep.beq:Rep→Rep→Bool
 | .p3,.p3=>true
 | .p11,.p11=>true
 | .p2,.p2=>true
 | .pc,.pc=>true
 | .pa,.pa=>true
 |_,_=>false
theorem Rep.beq_ok:∀ {a b:Rep},a.beq b=true→a=b
 | .p3,.p3,_=>rfl
 | .p11,.p11,_=>rfl
 | .p2,.p2,_=>rfl
 | .pc,.pc,_=>rfl
 | .pa,.pa,_=>rfl
inductive ZX where
 |k (c:Int)
 |d (n:Nat)
 |add (a b:ZX)
 |mul (a b:ZX)
structure GV where
 P:Pt
 Q:Pt
 d:Nat→Int
 s:List Int
def ZX.ev(ρ:GV):ZX→Int
 | .k c=>c
 | .d n=>ρ.d n
 | .add x y=>x.ev ρ+y.ev ρ
 | .mul x y=>x.ev ρ*y.ev ρ
def ZX.sadd:ZX→ZX→ZX
 | .k x,.k y=>.k (x+y)
 |x,y=>.add x y
def ZX.smul:ZX→ZX→ZX
 | .k x,.k y=>.k (x*y)
 |x,y=>.mul x y
theorem ZX.sadd_ev(ρ:GV)(x y:ZX):(x.sadd y).ev ρ=x.ev ρ+y.ev ρ:=by
 unfold ZX.sadd; split<;>rfl
theorem ZX.smul_ev(ρ:GV)(x y:ZX):(x.smul y).ev ρ=x.ev ρ*y.ev ρ:=by
 unfold ZX.smul; split<;>rfl
def ieqB(a b:Int):Bool:=ileB a b&&ileB b a
def ZX.beq:ZX→ZX→Bool
 | .k x,.k y=>ieqB x y
 | .d x,.d y=>Nat.beq x y
 | .add x y,.add z w=>x.beq z&&y.beq w
 | .mul x y,.mul z w=>x.beq z&&y.beq w
 |_,_=>false
theorem ZX.beq_ok(ρ:GV):∀ {x y:ZX},x.beq y=true→x.ev ρ=y.ev ρ:=by
 intro x
 induction x with
 |k c=>intro y h; cases y<;>simp only[ZX.beq,ieqB,baE,Bool.false_eq_true] at h; exact Int.le_antisymm (ileB_le h.1) (ileB_le h.2)
 |d n=>intro y h; cases y<;>simp only[ZX.beq,Bool.false_eq_true] at h; have:=nbE h; subst this; rfl
 |add a b iha ihb=>intro y h; cases y<;>simp only[ZX.beq,baE,Bool.false_eq_true] at h; show _+_=_+_; rw[iha h.1,ihb h.2]
 |mul a b iha ihb=>intro y h; cases y<;>simp only[ZX.beq,baE,Bool.false_eq_true] at h; show _*_=_*_; rw[iha h.1,ihb h.2]
theorem pt_add4(A B C D:Pt):(A.add B).add (C.add D)=(A.add C).add (B.add D):=by
 rw[Pt.add_assoc,Pt.add_assoc, ← Pt.add_assoc B,Pt.add_comm B C,Pt.add_assoc C]
theorem pt_nm_succ(P:Pt)(n:Nat):P.nm (n+1)=(P.nm n).add P:=rfl
theorem pt_nm_zero(P:Pt):P.nm 0=Pt.zero:=rfl
theorem pt_zm_dist_nat(P Q:Pt)(n:Nat):(P.add Q).nm n=(P.nm n).add (Q.nm n):=by
 induction n with
 |zero=>rw[pt_nm_zero,pt_nm_zero,pt_nm_zero,Pt.add_zero]
 |succ n ih=>rw[pt_nm_succ,pt_nm_succ,pt_nm_succ,ih]; exact pt_add4 _ _ _ _
theorem pt_zm_nn(P:Pt)(n:Nat):P.zm (.ofNat n)=P.nm n:=rfl
theorem pt_zm_ns(P:Pt)(n:Nat):P.zm (.negSucc n)=(P.nm (n+1)).neg:=rfl
theorem pt_zm_dist(P Q:Pt)(z:Int):(P.add Q).zm z=(P.zm z).add (Q.zm z):=by
 cases z with
 |ofNat n=>rw[pt_zm_nn,pt_zm_nn,pt_zm_nn]; exact pt_zm_dist_nat P Q n
 |negSucc n=>rw[pt_zm_ns,pt_zm_ns,pt_zm_ns,pt_zm_dist_nat,Pt.neg_add]
structure Z2 where
 z:ZX
 w:ZX
def Z2.ev(ρ:GV)(a:Z2):Pt:=(ρ.P.zm (a.z.ev ρ)).add (ρ.Q.zm (a.w.ev ρ))
def Z2.sadd(a b:Z2):Z2:=⟨a.z.sadd b.z,a.w.sadd b.w⟩
def Z2.smul(x:ZX)(a:Z2):Z2:=⟨x.smul a.z,x.smul a.w⟩
def Z2.c(c:Int):Z2:=⟨.k c,.k 0⟩
theorem Z2.c_ev(ρ:GV)(c:Int):(Z2.c c).ev ρ=ρ.P.zm c:=by
 show (ρ.P.zm c).add (ρ.Q.zm 0)=_
 rw[Pt.zm_zero,Pt.add_zero]
theorem Z2.sadd_ev(ρ:GV)(a b:Z2):(a.sadd b).ev ρ=(a.ev ρ).add (b.ev ρ):=by
 simp only[Z2.ev,Z2.sadd,ZX.sadd_ev,Pt.zm_add]
 exact pt_add4 _ _ _ _
theorem Z2.smul_ev(ρ:GV)(x:ZX)(a:Z2):(Z2.smul x a).ev ρ=(a.ev ρ).zm (x.ev ρ):=by
 simp only[Z2.ev,Z2.smul,ZX.smul_ev]
 rw[pt_zm_dist,Int.mul_comm,Pt.zm_mul,Int.mul_comm,Pt.zm_mul]
def Z2.beq(a b:Z2):Bool:=a.z.beq b.z&&a.w.beq b.w
theorem Z2.beq_ok(ρ:GV){a b:Z2}(h:a.beq b=true):a.ev ρ=b.ev ρ:=by
 simp only[Z2.beq,baE] at h
 simp only[Z2.ev]
 rw[ZX.beq_ok ρ h.1,ZX.beq_ok ρ h.2]
inductive GX where
 |pt (r:Rep) (z:Z2)
 |dg (n:Nat)
 |sc
 |num (c:Int)
def γG(ρ:GV):GX→List Int→Prop
 | .pt r z,l=>RR r (z.ev ρ) l
 | .dg n,l=>l= [ρ.d n]∧ -8≤ρ.d n∧ρ.d n≤8
 | .sc,l=>l=ρ.s
 | .num c,l=>l= [c]
def TabR(r:Rep):List Pt→List Int→Prop
 | [],l=>l= []
 |P::Ps,l=>∃ u w,l=u++w∧RR r P u∧TabR r Ps w
def tabZ(r:Rep)(z:Z2)(n:Nat):List (Nat×GX):=(List.range n).map fun k=>(r.n,.pt r (Z2.smul (.k (k+1:Nat)) z))
theorem TabR.bl{ρ:GV}{r:Rep}{f:Nat→Z2}{g:Nat→Pt}(hg:∀ k,g k=(f k).ev ρ):∀ {ks:List Nat} {l:List Int},TabR r (ks.map g) l↔BlsOk (γG ρ) (ks.map fun k=>(r.n,.pt r (f k))) l
 | [],l=>Iff.rfl
 | k::ks,l=>by
  constructor
  ·intro ⟨u,w,h1,h2,h3⟩
   exact⟨u,w,h1,h2.len,by show RR r _ u; rw[← hg k]; exact h2,(TabR.bl hg).1 h3⟩
  ·intro ⟨u,w,h1,h2,h3,h4⟩
   exact⟨u,w,h1,by rw[hg k]; exact h3,(TabR.bl hg).2 h4⟩
def argG(r:Rep):List (Bk GX)→Option Z2
 | [.a _ (.pt r' z)]=>bif r.beq r' then some z else none
 |_=>none
theorem argG_ok{r:Rep}{ρ:GV}{ρe:Env}{b:List (Bk GX)}{l:List Int}{z:Z2}(h:BksOk (γG ρ) ρe b l)(hx:argG r b=some z):RR r (z.ev ρ) l:=by
 unfold argG at hx
 split at hx
 ·rename_i n r' y
  cases hb:r.beq r' with
  |false=>rw[hb] at hx; cases hx
  |true=>
   rw[hb,cond_true,osE] at hx; subst hx
   have:=Rep.beq_ok hb
   subst this
   obtain⟨u,w,h1,h2,h3⟩:=h
   have hw:w= []:=h3
   rw[hw,List.append_nil] at h1
   subst h1
   exact h2.2
 ·cases hx
def tabOk(r:Rep)(z:Z2):Nat→Nat→List (Bk GX)→Bool
 |0,_,[]=>true
 |n+1,k,.a _ (.pt r' y)::bs=>r.beq r'&&y.beq (Z2.smul (.k (k+1:Nat)) z)&&tabOk r z n (k+1) bs
 |_,_,_=>false
theorem tabOk_ok{r:Rep}{z:Z2}{ρ:GV}{ρe:Env}:∀ {n k:Nat} {bs:List (Bk GX)} {l:List Int},tabOk r z n k bs=true→BksOk (γG ρ) ρe bs l→TabR r ((List.range n).map fun j=>(z.ev ρ).zm ((k+j+1:Nat):Int)) l
 |0,k,[],l,_,h=>h
 |0,k,_::_,l,hb,h=>by cases hb
 | n + 1,k,bs,l,hb,h=>by
  match bs,hb with
  | .a m (.pt r' y)::bs',hb=>
   unfold tabOk at hb
   simp only[baE] at hb
   obtain⟨⟨h1,h2⟩,h3⟩:=hb
   have:=Rep.beq_ok h1
   subst this
   obtain⟨u,w,g1,g2,g3⟩:=h
   rw[List.range_succ_eq_map,List.map_cons,List.map_map]
   refine⟨u,w,g1,?_,?_⟩
   ·have e:=Z2.beq_ok ρ h2
    have g:=g2.2
    simp only[γG] at g
    rw[e,Z2.smul_ev] at g
    exact g
   ·have:=tabOk_ok h3 g3
    have e:((fun j=>(z.ev ρ).zm ((k+j+1:Nat):Int)) ∘ Nat.succ)=fun j=>(z.ev ρ).zm ((k+1+j+1:Nat):Int):=by
     funext j; simp only[Function.comp]; congr 1; omega
    rw[e]; exact this
def argD:List (Bk GX)→Option Nat
 | [.a _ (.dg n)]=>some n
 |_=>none
theorem argD_ok{ρ:GV}{ρe:Env}{b:List (Bk GX)}{l:List Int}{n:Nat}(h:BksOk (γG ρ) ρe b l)(hx:argD b=some n):l= [ρ.d n]∧ -8≤ρ.d n∧ρ.d n≤8:=by
 unfold argD at hx
 split at hx
 ·simp only[osE] at hx; subst hx
  obtain⟨u,w,h1,h2,h3⟩:=h
  have hw:w= []:=h3
  rw[hw,List.append_nil] at h1
  subst h1
  exact h2.2
 ·cases hx
def argS:List (Bk GX)→Bool
 | [.a _ .sc]=>true
 |_=>false
theorem argS_ok{ρ:GV}{ρe:Env}{b:List (Bk GX)}{l:List Int}(h:BksOk (γG ρ) ρe b l)(hx:argS b=true):l=ρ.s:=by
 unfold argS at hx
 split at hx
 ·obtain⟨u,w,h1,h2,h3⟩:=h
  have hw:w= []:=h3
  rw[hw,List.append_nil] at h1
  subst h1
  exact h2.2
 ·cases hx
theorem ieqB_ok{a b:Int}(h:ieqB a b=true):a=b:=by
 simp only[ieqB,baE] at h
 exact Int.le_antisymm (ileB_le h.1) (ileB_le h.2)
def argN:List (Bk GX)→Option Bool
 | [.lit c]=>bif ieqB c 1 then some true else bif ieqB c 0 then some false else none
 | [.a _ (.num c)]=>bif ieqB c 1 then some true else bif ieqB c 0 then some false else none
 |_=>none
theorem bit_ok{c:Int}{b:Bool}(h:(bif ieqB c 1 then some true else bif ieqB c 0 then some false else none)=some b):c=bif b then 1 else 0:=by
 cases h1:ieqB c 1 with
 |true=>rw[h1,cond_true,osE] at h; subst h; exact ieqB_ok h1
 |false=>
  rw[h1,cond_false] at h
  cases h0:ieqB c 0 with
  |true=>rw[h0,cond_true,osE] at h; subst h; exact ieqB_ok h0
  |false=>rw[h0] at h; cases h
theorem argN_ok{ρ:GV}{ρe:Env}{b:List (Bk GX)}{l:List Int}{c:Bool}(h:BksOk (γG ρ) ρe b l)(hx:argN b=some c):l= [bif c then 1 else 0]:=by
 unfold argN at hx
 split at hx
 ·obtain⟨u,w,h1,h2,h3⟩:=h
  have hw:w= []:=h3
  rw[hw,List.append_nil] at h1
  subst h1
  rw[← bit_ok hx]; exact h2
 ·obtain⟨u,w,h1,h2,h3⟩:=h
  have hw:w= []:=h3
  rw[hw,List.append_nil] at h1
  subst h1
  rw[← bit_ok hx]; exact h2.2
 ·cases hx
inductive KP where
 |selc (r:Rep)
 |cneg (r:Rep)
 |op1 (ra rb:Rep)
 |dbl
 |op2 (ra rb rc:Rep)
 |cst (r:Rep) (c:Int)
 |tab (r:Rep) (n:Nat)
 |sel (r:Rep) (n:Nat)
 |rad (n:Nat)
 |tab32
def tabs(r:Rep)(n:Nat):Nat→Int→List (Nat×GX)
 |0,_=> []
 |m+1,c=>tabZ r (.c c) n++tabs r n m (256*c)
def KP.tf:KP→Nat→List (List (Bk GX))→Option (List (Nat×GX))
 | .selc r,0,[_,a,b,c]=>(match argG r a,argG r b,argN c with
  |some x,some y,some n=>some [(r.n,.pt r (bif n then x else y))]
  |_,_,_=>none)
 | .cneg r,0,[a,c]=>(match argG r a,argN c with
  |some x,some n=>some [(r.n,.pt r (bif n then Z2.smul (.k (-1)) x else x))]
  |_,_=>none)
 | .op1 ra rb,0,[_,a]=>(match argG ra a with
  |some x=>some [(rb.n,.pt rb x)]
  |none=>none)
 | .dbl,0,[_,a]=>(match argG .p2 a with
  |some x=>some [(20,.pt .p11 (x.sadd x))]
  |none=>none)
 | .op2 ra rb rc,0,[_,a,b]=>(match argG ra a,argG rb b with
  |some x,some y=>some [(rc.n,.pt rc (x.sadd y))]
  |_,_=>none)
 | .cst r c,0,_=>some [(r.n,.pt r (.c c))]
 | .tab r n,0,[_,a]=>(match argG .p3 a with
  |some x=>some (tabZ r x n)
  |none=>none)
 | .sel r n,0,[t,_,d]=>(match t,argD d with
  | .a m (.pt r' z)::bs,some k=>bif tabOk r z n 0 (.a m (.pt r' z)::bs) then some [(r.n,.pt r (Z2.smul (.d k) z))] else none
  |_,_=>none)
 | .rad n,0,[s]=>bif argS s then some ((List.range n).map fun k=>(1,.dg k)) else none
 | .tab32,0,[]=>some (tabs .pa 8 32 1)
 |_,_,_=>none
def DgsR(d:Nat→Int)(n:Nat)(l:List Int):Prop:=l=(List.range n).map d∧∀ k,k<n→ -8≤d k∧d k≤8
def TabsR(P:Pt):Nat→Int→List Int→Prop
 |0,_,l=>l= []
 |m+1,c,l=>∃ u w,l=u++w∧TabR .pa ((List.range 8).map fun j=>(P.zm c).zm ((j+1:Nat):Int)) u∧TabsR P m (256*c) w
def KP.Ok(T:Tb)(f:Nat)(ρ:GV):KP→Prop
 | .selc r=>∀ (v a b:List Int) (P Q:Pt) (c:Bool),RR r P a→RR r Q b→Pay T f [v,a,b,[bif c then 1 else 0]]∧RR r (bif c then P else Q) (gv T f 0 [v,a,b,[bif c then 1 else 0]])
 | .cneg r=>∀ (a:List Int) (P:Pt) (c:Bool),RR r P a→Pay T f [a,[bif c then 1 else 0]]∧RR r (bif c then P.neg else P) (gv T f 0 [a,[bif c then 1 else 0]])
 | .op1 ra rb=>∀ (v a:List Int) (P:Pt),RR ra P a→Pay T f [v,a]∧RR rb P (gv T f 0 [v,a])
 | .dbl=>∀ (v a:List Int) (P:Pt),R2 P a→Pay T f [v,a]∧R11 (P.add P) (gv T f 0 [v,a])
 | .op2 ra rb rc=>∀ (v a b:List Int) (P Q:Pt),RR ra P a→RR rb Q b→Pay T f [v,a,b]∧RR rc (P.add Q) (gv T f 0 [v,a,b])
 | .cst r c=>∀ (args:List (List Int)),Pay T f args∧RR r (ρ.P.zm c) (gv T f 0 args)
 | .tab r n=>∀ (v a:List Int) (P:Pt),R3 P a→Pay T f [v,a]∧TabR r ((List.range n).map fun j=>P.zm ((j+1:Nat):Int)) (gv T f 0 [v,a])
 | .sel r n=>∀ (t v:List Int) (d:Int) (P:Pt),TabR r ((List.range n).map fun j=>P.zm ((j+1:Nat):Int)) t→ -8≤d→d≤8→Pay T f [t,v,[d]]∧RR r (P.zm d) (gv T f 0 [t,v,[d]])
 | .rad n=>Pay T f [ρ.s]∧DgsR ρ.d n (gv T f 0 [ρ.s])
 | .tab32=>Pay T f []∧TabsR ρ.P 32 1 (gv T f 0 [])
section
variable{γ:GX→List Int→Prop}
theorem qas1{ρe:Env}{a:List (Bk GX)}{as:List (List (Bk GX))}{ins:List (List Int)}(h:Pas γ ρe (a::as) ins):∃ x xs,ins=x::xs∧BksOk γ ρe a x∧Pas γ ρe as xs:=by
 match ins,h with
 |x::xs,h=>exact⟨x,xs,rfl,h.1,h.2⟩
theorem qasN{ρe:Env}{ins:List (List Int)}(h:Pas γ ρe [] ins):ins= []:=by
 match ins,h with
 | [],h=>rfl
end
theorem GX.c1{ρ:GV}{x:GX}{n:Nat}{l:List Int}(hl:l.length=n)(h:γG ρ x l):BlsOk (γG ρ) [(n,x)] l:=⟨l,[],by simp,hl,h,rfl⟩
theorem dgs_bl{ρ:GV}:∀ {ks:List Nat},(∀ k,k∈ks→ -8≤ρ.d k∧ρ.d k≤8)→BlsOk (γG ρ) (ks.map fun k=>(1,.dg k)) (ks.map ρ.d)
 | [],_=>rfl
 |k::ks,h=>⟨[ρ.d k],ks.map ρ.d,rfl,rfl,⟨rfl,h k lmS⟩,dgs_bl fun j hj=>h j (lmM _ hj)⟩
theorem bls_app{A:Type}{γ:A→List Int→Prop}:∀ {b c:List (Nat×A)} {l m:List Int},BlsOk γ b l→BlsOk γ c m→BlsOk γ (b++c) (l++m)
 | [],c,l,m,h,g=>by rw[show l= [] from h]; exact g
 |(n,x)::b,c,l,m,⟨u,w,h1,h2,h3,h4⟩,g=>⟨u,w++m,by rw[h1,List.append_assoc],h2,h3,bls_app h4 g⟩
theorem tabs_bl{ρ:GV}:∀ {m:Nat} {c:Int} {l:List Int},TabsR ρ.P m c l→BlsOk (γG ρ) (tabs .pa 8 m c) l
 |0,c,l,h=>h
 | m+1,c,l,⟨u,w,h1,h2,h3⟩=>by
  rw[h1]
  refine bls_app ?_ (tabs_bl h3)
  exact (TabR.bl (f:=fun k=>Z2.smul (.k (k+1:Nat)) (.c c)) (fun k=>by
   rw[Z2.smul_ev,Z2.c_ev]; rfl)).1 h2
theorem KP.sound{T:Tb}{f:Nat}{ρ:GV}{κ:KP}(hk:κ.Ok T f ρ){o:Nat}{pa:List (List (Bk GX))}{r:List (Nat×GX)}(h:κ.tf o pa=some r){ρe:Env}{ins:List (List Int)}(hp:Pas (γG ρ) ρe pa ins):Pay T f ins∧BlsOk (γG ρ) r (gv T f o ins):=by
 unfold KP.tf at h
 split at h
 ·obtain⟨v,_,rfl,_,hp⟩:=qas1 hp
  obtain⟨a,_,rfl,ha,hp⟩:=qas1 hp
  obtain⟨b,_,rfl,hb,hp⟩:=qas1 hp
  obtain⟨c,_,rfl,hc,hp⟩:=qas1 hp
  cases qasN hp
  split at h
  ·rename_i x y n hx hy hn
   simp only[osE] at h; subst h
   have:=argN_ok hc hn
   subst this
   have:=hk v a b _ _ n (argG_ok ha hx) (argG_ok hb hy)
   refine⟨this.1,GX.c1 this.2.len ?_⟩
   cases n<;>exact this.2
  ·cases h
 ·obtain⟨a,_,rfl,ha,hp⟩:=qas1 hp
  obtain⟨c,_,rfl,hc,hp⟩:=qas1 hp
  cases qasN hp
  split at h
  ·rename_i x n hx hn
   simp only[osE] at h; subst h
   have:=argN_ok hc hn
   subst this
   have:=hk a _ n (argG_ok ha hx)
   refine⟨this.1,GX.c1 this.2.len ?_⟩
   cases n with
   |false=>exact this.2
   |true=>
    show RR _ ((Z2.smul (.k (-1)) x).ev ρ) _
    rw[Z2.smul_ev]
    show RR _ ((x.ev ρ).zm (-1)) _
    rw[Pt.zm_neg (x.ev ρ) 1,Pt.zm_one]
    exact this.2
  ·cases h
 ·obtain⟨v,_,rfl,_,hp⟩:=qas1 hp
  obtain⟨a,_,rfl,ha,hp⟩:=qas1 hp
  cases qasN hp
  split at h
  ·rename_i x hx
   simp only[osE] at h; subst h
   have:=hk v a _ (argG_ok ha hx)
   exact⟨this.1,GX.c1 this.2.len this.2⟩
  ·cases h
 ·obtain⟨v,_,rfl,_,hp⟩:=qas1 hp
  obtain⟨a,_,rfl,ha,hp⟩:=qas1 hp
  cases qasN hp
  split at h
  ·rename_i x hx
   simp only[osE] at h; subst h
   have:=hk v a _ (argG_ok (r:=.p2) ha hx)
   exact⟨this.1,GX.c1 (RR.len (r:=.p11) this.2) (by show R11 _ _; rw[Z2.sadd_ev]; exact this.2)⟩
  ·cases h
 ·obtain⟨v,_,rfl,_,hp⟩:=qas1 hp
  obtain⟨a,_,rfl,ha,hp⟩:=qas1 hp
  obtain⟨b,_,rfl,hb,hp⟩:=qas1 hp
  cases qasN hp
  split at h
  ·rename_i x y hx hy
   simp only[osE] at h; subst h
   have:=hk v a b _ _ (argG_ok ha hx) (argG_ok hb hy)
   exact⟨this.1,GX.c1 this.2.len (by show RR _ _ _; rw[Z2.sadd_ev]; exact this.2)⟩
  ·cases h
 ·simp only[osE] at h; subst h
  have:=hk ins
  exact⟨this.1,GX.c1 this.2.len (by show RR _ _ _; rw[Z2.c_ev]; exact this.2)⟩
 ·obtain⟨v,_,rfl,_,hp⟩:=qas1 hp
  obtain⟨a,_,rfl,ha,hp⟩:=qas1 hp
  cases qasN hp
  split at h
  ·rename_i x hx
   simp only[osE] at h; subst h
   have:=hk v a _ (argG_ok (r:=.p3) ha hx)
   refine⟨this.1,(TabR.bl (f:=fun k=>Z2.smul (.k (k+1:Nat)) x) fun k=> ?_).1 this.2⟩
   rw[Z2.smul_ev]; rfl
  ·cases h
 ·rename_i r0 n0 t0 v0 d0
  obtain⟨t,_,rfl,ht,hp⟩:=qas1 hp
  obtain⟨v,_,rfl,_,hp⟩:=qas1 hp
  obtain⟨d,_,rfl,hd,hp⟩:=qas1 hp
  cases qasN hp
  split at h
  ·rename_i m r' z bs k hk'
   cases hc:tabOk r0 z n0 0 (.a m (.pt r' z)::bs) with
   |false=>rw[hc] at h; cases h
   | true=>
    rw[hc,cond_true,osE] at h; subst h
    have h1:=tabOk_ok hc ht
    obtain⟨rfl,h2,h3⟩:=argD_ok hd hk'
    have e:(List.range n0).map (fun j=>(z.ev ρ).zm ((0+j+1:Nat):Int))=(List.range n0).map (fun j=>(z.ev ρ).zm ((j+1:Nat):Int)):=by
     congr 1; funext j; congr 1; omega
    rw[e] at h1
    have:=hk t v _ _ h1 h2 h3
    refine⟨this.1,GX.c1 this.2.len ?_⟩
    show RR _ _ _
    rw[Z2.smul_ev]; exact this.2
  ·cases h
 ·rename_i n s'
  obtain⟨s,_,rfl,hs,hp⟩:=qas1 hp
  cases qasN hp
  cases hb:argS s' with
  |false=>rw[hb] at h; cases h
  |true=>
   rw[hb,cond_true,osE] at h; subst h
   have:=argS_ok hs hb
   subst this
   refine⟨hk.1,?_⟩
   rw[hk.2.1]
   exact dgs_bl fun k hk'=>hk.2.2 k (List.mem_range.1 hk')
 ·cases qasN hp
  simp only[osE] at h; subst h
  exact⟨hk.1,tabs_bl hk.2⟩
 ·cases h
def tfG(M:List (Nat×KP)):Tf GX where
 o _ _:=none
 f f o pa:=match lk f M with
  |some κ=>κ.tf o pa
  |none=>none
 p f pa:=match lk f M with
  |some κ=>(κ.tf 0 pa).isSome
  |none=>false
inductive MG (T:Tb) (ρ:GV):List (Nat×KP)→Prop where
 |nil:MG T ρ []
 |cons {f:Nat} {κ:KP} {M:List (Nat×KP)}:κ.Ok T f ρ→MG T ρ M→MG T ρ ((f,κ)::M)
theorem MG.get{T:Tb}{ρ:GV}:∀ {M:List (Nat×KP)},MG T ρ M→∀ {f:Nat} {κ:KP},lk f M=some κ→κ.Ok T f ρ
 |_,.nil,f,κ,h=>by cases h
 | _,.cons (f:=g) h1 h2,f,κ,h=>by
  simp only[lk] at h
  cases hb:Nat.beq g f with
  |true=>
   rw[hb,cond_true,osE] at h
   have:=nbE hb
   subst this; subst h; exact h1
  |false=>rw[hb] at h; exact h2.get h
theorem tfG_ok{T:Tb}{ρ:GV}{M:List (Nat×KP)}(hM:MG T ρ M):TfOk (γG ρ) T (tfG M) where
 o op pa r h:=by cases h
 f f o pa r h ρe ins hp:=by
  simp only[tfG] at h
  split at h
  ·rename_i κ hk
   have hq:∀ {ρe:Env} {ins:List (List Int)},Pas (γG ρ) ρe pa ins→BlsOk (γG ρ) r (gv T f o ins):=fun hp=>(KP.sound (hM.get hk) h hp).2
   exact hq hp
  ·cases h
 p f pa h ρe ins hp:=by
  simp only[tfG] at h
  split at h
  ·rename_i κ hk
   obtain⟨r,hr⟩:=Option.isSome_iff_exists.1 h
   exact (KP.sound (hM.get hk) hr hp).1.pre
  ·cases h
theorem gp1{ρ:GV}{ρe:Env}{r:Rep}{z:Z2}{n:Nat}{l:List Int}(h:BksOk (γG ρ) ρe [.a n (.pt r z)] l):RR r (z.ev ρ) l:=by
 obtain⟨u,w,h1,h2,h3⟩:=h
 have hw:w= []:=h3
 rw[hw,List.append_nil] at h1
 subst h1
 exact h2.2
theorem gpT{ρ:GV}{ρe:Env}{r:Rep}{f:Nat→Z2}{g:Nat→Pt}(hg:∀ k,g k=(f k).ev ρ):∀ {ks:List Nat} {l:List Int},BksOk (γG ρ) ρe (ks.map fun k=>.a r.n (.pt r (f k))) l→TabR r (ks.map g) l
 | [],l,h=>h
 |k::ks,l,⟨u,w,h1,h2,h3⟩=>⟨u,w,h1,by rw[hg k]; exact h2.2,gpT hg h3⟩
theorem TabR.len{r:Rep}:∀ {Ps:List Pt} {l:List Int},TabR r Ps l→l.length=r.n*Ps.length
 | [],l,h=>by rw[show l= [] from h]; rfl
 |P::Ps,l,⟨u,w,h1,h2,h3⟩=>by
  have h4:=h3.len
  have h5:=h2.len
  rw[h1,List.length_append,h4,h5,List.length_cons,Nat.mul_succ]; omega
theorem GX.p1{ρ:GV}{r:Rep}{z:Z2}{P:Pt}{l:List Int}(hz:z.ev ρ=P)(h:RR r P l):BlsOk (γG ρ) [(r.n,.pt r z)] l:=GX.c1 h.len (by show RR r (z.ev ρ) l; rw[hz]; exact h)
theorem z2_1(ρ:GV):(⟨.k 1,.k 0⟩:Z2).ev ρ=ρ.P:=(Z2.c_ev ρ 1).trans (Pt.zm_one _)
theorem z2_2(ρ:GV):(⟨.k 0,.k 1⟩:Z2).ev ρ=ρ.Q:=by
 show (ρ.P.zm 0).add (ρ.Q.zm 1)=_
 rw[Pt.zm_zero,Pt.zero_add,Pt.zm_one]
theorem z2_11(ρ:GV):(⟨.k 1,.k 1⟩:Z2).ev ρ=ρ.P.add ρ.Q:=by
 show (ρ.P.zm 1).add (ρ.Q.zm 1)=_
 rw[Pt.zm_one,Pt.zm_one]
end Go.Proofs.YtloibefkijfdlaaGreatDoor

namespace Go.Proofs.YtloibefkijfdlaaGreatDoor
open Go Ma
abbrev KS:=List (Nat×List Int)
def KOk(lo:Nat)(ρ:Env)(K:KS):Prop:=∀ i l,lk i K=some l→i<lo∧ρ i=l
def kX(K:KS):X→Option Int
 | .lit c=>some c
 | .v i k=>(match lk i K with
  |some l=>some (l.getD k 0)
  |none=>none)
theorem kX_ok{lo:Nat}{ρ:Env}{K:KS}(h:KOk lo ρ K){x:X}{c:Int}(hx:kX K x=some c):x.den ρ=c:=by
 cases x with
 |lit n=>simp only[kX,osE] at hx; exact hx
 | v i k=>
  simp only[kX] at hx
  split at hx
  ·rename_i l hl
   simp only[osE] at hx
   show (ρ i).getD k 0=c
   rw[(h i l hl).2,hx]
  ·cases hx
def kXs(K:KS):List X→Option (List Int)
 | []=>some []
 |x::r=>(match kX K x,kXs K r with
  |some c,some l=>some (c::l)
  |_,_=>none)
theorem kXs_ok{lo:Nat}{ρ:Env}{K:KS}(h:KOk lo ρ K):∀ {xs:List X} {l:List Int},kXs K xs=some l→xs.map (·.den ρ)=l
 | [],l,hx=>by simp only[kXs,osE] at hx; subst hx; rfl
 | x::r,l,hx=>by
  unfold kXs at hx
  split at hx
  ·rename_i c l' h1 h2
   simp only[osE] at hx; subst hx
   rw[List.map_cons,kX_ok h h1,kXs_ok h h2]
  ·cases hx
def kArg(K:KS):Arg→Option (List Int)
 | .vec j=>lk j K
 | .xs l=>kXs K l
theorem kArg_ok{lo:Nat}{ρ:Env}{K:KS}(h:KOk lo ρ K){a:Arg}{l:List Int}(hx:kArg K a=some l):a.den ρ=l:=by
 cases a with
 |vec j=>exact (h j l hx).2
 |xs xs=>exact kXs_ok h hx
def kArgs(K:KS):List Arg→Option (List (List Int))
 | []=>some []
 |x::r=>(match kArg K x,kArgs K r with
  |some c,some l=>some (c::l)
  |_,_=>none)
theorem kArgs_ok{lo:Nat}{ρ:Env}{K:KS}(h:KOk lo ρ K):∀ {xs:List Arg} {l:List (List Int)},kArgs K xs=some l→xs.map (·.den ρ)=l
 | [],l,hx=>by simp only[kArgs,osE] at hx; subst hx; rfl
 | x::r,l,hx=>by
  unfold kArgs at hx
  split at hx
  ·rename_i c l' h1 h2
   simp only[osE] at hx; subst hx
   rw[List.map_cons,kArg_ok h h1,kArgs_ok h h2]
  ·cases hx
def kOp(op:DOp)(as:List (List Int)):Option (List Int):=
 match op with
 | .fn _ _ _=>none
 |op=>some (op.den [] as)
theorem kOp_ok{T:Tb}{op:DOp}{as:List (List Int)}{l:List Int}(h:kOp op as=some l):op.den T as=l:=by
 cases op<;>simp only[kOp,osE,reduceCtorEq] at h<;>exact h
def selfD(d:Def):Option (List Int):=match d.op,d.args with
 | .eqv,[a,b]=>bif a.beq b then some [1] else none
 |_,_=>none
theorem selfD_ok{T:Tb}{ρ:Env}{d:Def}{l:List Int}(h:selfD d=some l):d.den T ρ=l:=by
 obtain⟨op,args⟩:=d
 unfold selfD at h
 split at h
 ·rename_i a b e1 e2
  simp only at e1 e2
  subst e1; subst e2
  cases hb:a.beq b with
  |false=>rw[hb] at h; cases h
  |true=>
   rw[hb,cond_true,osE] at h
   subst h
   have e:=Arg.beq_eq hb
   subst e
   simp[Def.den,DOp.den,b01]
 ·cases h
def kDef(K:KS)(d:Def):Option (List Int):=match kArgs K d.args with
 |some as=>kOp d.op as
 |none=>selfD d
theorem kDef_ok{T:Tb}{lo:Nat}{ρ:Env}{K:KS}(h:KOk lo ρ K){d:Def}{l:List Int}(hl:kDef K d=some l):d.den T ρ=l:=by
 unfold kDef at hl
 split at hl
 ·rename_i as1 has
  rw[Def.den,kArgs_ok h has,kOp_ok hl]
 ·exact selfD_ok hl
def kDefs:KS→List (Nat×Def)→KS
 |K,[]=>K
 |K,(n,d)::r=>kDefs (match kDef K d with
  |some l=>(n,l)::K
  |none=>K) r
theorem KOk.mono{lo lo':Nat}{ρ:Env}{K:KS}(h:KOk lo ρ K)(hl:lo≤lo'):KOk lo' ρ K:=fun i l hi=>⟨by have:=(h i l hi).1; omega,(h i l hi).2⟩
theorem KOk.ag{lo:Nat}{ρ ρ':Env}{K:KS}(h:KOk lo ρ K)(ha:AgE lo ρ ρ'):KOk lo ρ' K:=fun i l hi=>⟨(h i l hi).1,by rw[ha i (h i l hi).1]; exact (h i l hi).2⟩
theorem kDefs_ok{T:Tb}{hi:Nat}{ρ:Env}:∀ {ds:List (Nat×Def)} {lo:Nat} {K:KS},defsOk lo hi ds=true→KOk lo ρ K→DsE T ρ ds→KOk (nxt lo ds) ρ (kDefs K ds)
 | [],lo,K,_,hK,_=>hK
 | (n,d)::r,lo,K,h,hK,hd=>by
  simp only[defsOk,baE] at h
  have h1:=nbL h.1.1.1
  have hd1:=hd (n,d) lmS
  unfold kDefs
  show KOk (nxt (n+1) r) ρ (kDefs _ r)
  refine kDefs_ok (ds:=r) h.2 ?_ (fun p hp=>hd p (lmM _ hp))
  have hK':=hK.mono (lo':=n+1) (by omega)
  split
  ·rename_i l hl
   intro i l' hi
   simp only[lk] at hi
   cases hb:Nat.beq n i with
   |true=>
    rw[hb,cond_true,osE] at hi
    have:=nbE hb
    subst this; subst hi
    refine⟨by omega,?_⟩
    have e:ρ n=d.den T ρ:=hd1
    rw[e,kDef_ok hK hl]
   |false=>rw[hb,cond_false] at hi; exact hK' i l' hi
  ·exact hK'
structure Pth where
 ds:List (Nat×Def)
 ob:List Obl
 cs:List Tree
 e:Ex
 st:St
 K:KS
def linK:KS→Tree→Option Pth
 |K,.leaf e st=>some ⟨[],[],[],e,st,K⟩
 |K,.evs ds ob t=>(match linK (kDefs K ds) t with
  |some p=>some ⟨ds++p.ds,ob++p.ob,p.cs,p.e,p.st,p.K⟩
  |none=>none)
 |K,.br x t f=>(match kX K x with
  |some c=>bif ieqB c 0 then linK K f else linK K t
  |none=>none)
 |K,.chk c t=>(match linK K t with
  |some p=>some ⟨p.ds,p.ob,c::p.cs,p.e,p.st,p.K⟩
  |none=>none)
 |_,_=>none
def linKOk:Nat→KS→Tree→Bool
 |_,_,.leaf _ _=>true
 |lo,K,.evs ds ob t=>defsOk lo (nxt lo ds) ds&&obsOk (nxt lo ds) ob&&linKOk (nxt lo ds) (kDefs K ds) t
 |lo,K,.br x t f=>(match kX K x with
  |some c=>bif ieqB c 0 then linKOk lo K f else linKOk lo K t
  |none=>false)
 |lo,K,.chk _ t=>linKOk lo K t
 |_,_,_=>false
theorem ieqB_no{a:Int}(h:ieqB a 0=false):a≠0:=by
 intro e; subst e; cases h
theorem linK_ok{T:Tb}{np:Nat}{ρ0:Env}:∀ {t:Tree} {lo:Nat} {K:KS} {ρ:Env} {p:Pth},np≤lo→AgE np ρ0 ρ→KOk lo ρ K→linKOk lo K t=true→linK K t=some p→
  AgE lo ρ (upds T ρ p.ds)∧DsE T (upds T ρ p.ds) p.ds∧evX T t ρ=some (upds T ρ p.ds,p.e,p.st)∧evT T t ρ=some (upds T ρ p.ds,p.st)∧(∃ hi,KOk hi (upds T ρ p.ds) p.K)∧
   ((∀ q∈p.ob,q.den T (upds T ρ p.ds))→(∀ c∈p.cs,∀ ρ',AgE np ρ0 ρ'→evOb T c ρ')→evOb T t ρ)
 | .leaf e st,lo,K,ρ,p,_,_,hK,_,h=>by
  simp only[linK,osE] at h
  subst h
  exact⟨AgE.refl _ _,fun p hp=>(by cases hp),rfl,rfl,⟨lo,hK⟩,fun _ _=>trivial⟩
 | .evs ds0 ob0 t,lo,K,ρ,p,hnp,ha,hK,hk,h=>by
  simp only[linKOk,baE] at hk
  unfold linK at h
  split at h
  ·rename_i p' ht
   simp only[osE] at h
   subst h
   obtain⟨g1,g2⟩:=upds_ok T ρ hk.1.1
   have hle:=nxt_ge hk.1.1
   have ha':AgE np ρ0 (upds T ρ ds0):=ha.trans g1 hnp
   obtain⟨k1,k2,k3,k4,k5,k6⟩:=linK_ok (T:=T) (ρ:=upds T ρ ds0) (by omega) ha' (kDefs_ok hk.1.1 (hK.ag g1) g2) hk.2 ht
   simp only
   rw[upds_append]
   refine⟨g1.trans k1 hle,fun p hp=> ?_,k3,k4,k5,fun ho hc=>⟨fun q hq=> ?_,k6 (fun q hq=>ho q (List.mem_append_right _ hq)) hc⟩⟩
   ·rcases List.mem_append.1 hp with hp|hp
    ·exact (g2.agE hk.1.1 k1) p hp
    ·exact k2 p hp
   ·exact (Obl.den_agE k1 hk.1.2 q hq).1 (ho q (List.mem_append_left _ hq))
  ·cases h
 | .br x t f,lo,K,ρ,p,hnp,ha,hK,hk,h=>by
  unfold linKOk at hk
  unfold linK at h
  split at h
  ·rename_i c hc
   rw[hc] at hk
   simp only at hk
   have hx:=kX_ok hK hc
   cases hb:ieqB c 0 with
   |true=>
    rw[hb,cond_true] at h hk
    have e:=ieqB_ok hb
    obtain⟨k1,k2,k3,k4,k5,k6⟩:=linK_ok (T:=T) hnp ha hK hk h
    have hx0:x.den ρ=0:=by rw[hx,e]
    refine⟨k1,k2,by unfold evX; rw[if_pos hx0]; exact k3,by unfold evT; rw[if_pos hx0]; exact k4,k5,fun ho hc=>⟨fun _=>k6 ho hc,fun hn=>absurd hx0 hn⟩⟩
   |false=>
    rw[hb,cond_false] at h hk
    have e:=ieqB_no hb
    obtain⟨k1,k2,k3,k4,k5,k6⟩:=linK_ok (T:=T) hnp ha hK hk h
    have hx0:x.den ρ≠0:=by rw[hx]; exact e
    refine⟨k1,k2,by unfold evX; rw[if_neg hx0]; exact k3,by unfold evT; rw[if_neg hx0]; exact k4,k5,fun ho hc=>⟨fun hn=>absurd hn hx0,fun _=>k6 ho hc⟩⟩
  ·cases h
 | .chk c t,lo,K,ρ,p,hnp,ha,hK,hk,h=>by
  unfold linKOk at hk
  unfold linK at h
  split at h
  ·rename_i p' ht
   simp only[osE] at h
   subst h
   obtain⟨k1,k2,k3,k4,k5,k6⟩:=linK_ok (T:=T) hnp ha hK hk ht
   exact⟨k1,k2,k3,k4,k5,fun ho hc=>⟨hc c lmS ρ ha,k6 ho fun c' h'=>hc c' (lmM _ h')⟩⟩
  ·cases h
 | .brc _ _ _ _,_,_,_,_,_,_,_,hk,_=>by cases hk
 | .bad _,_,_,_,_,_,_,_,hk,_=>by cases hk
section
variable{A:Type}(γ:A→List Int→Prop)
def nmS(nm:Int→Option A):KS→BS A→BS A
 | [],s=>s
 |(i,[c])::r,s=>(match nm c with
  |some x=>(i,[(1,x)])::nmS nm r s
  |none=>nmS nm r s)
 |_::r,s=>nmS nm r s
theorem nmS_ok{nm:Int→Option A}(hn:∀ c x,nm c=some x→γ x [c]){ρ:Env}{s:BS A}(hs:BSOk γ ρ s):∀ {K:KS},(∀ p∈K,ρ p.1=p.2)→BSOk γ ρ (nmS nm K s)
 | [],_=>hs
 | (j,l)::r,hK=>by
  have ih:=nmS_ok hn hs (K:=r) fun p hp=>hK p (lmM _ hp)
  unfold nmS
  split
  ·rename_i h; cases h
  ·rename_i j' c r' he
   cases he
   have hj:=hK (j,[c]) lmS
   split
   ·rename_i x hx
    intro i bs hi
    simp only[lk] at hi
    cases hb:Nat.beq j i with
    |true=>
     rw[hb,cond_true,osE] at hi
     have:=nbE hb
     subst this; subst hi
     exact⟨[c],[],hj,rfl,hn c x hx,rfl⟩
    |false=>rw[hb,cond_false] at hi; exact ih i bs hi
   ·exact ih
  ·rename_i p r' _ he
   cases he
   exact ih
def kIn:Nat→List (Option (List Int))→KS
 |_,[]=> []
 |j,none::r=>kIn (j+1) r
 |j,some l::r=>(j,l)::kIn (j+1) r
theorem kIn_get:∀ {l:List (Option (List Int))} {j i:Nat} {b:List Int},lk i (kIn j l)=some b→∃ k,i=j+k∧l[k]? = some (some b)
 | [],j,i,bs,h=>by simp[kIn,lk] at h
 |none::r,j,i,bs,h=>by
  simp only[kIn] at h
  obtain⟨k,h1,h2⟩:=kIn_get h
  exact⟨k+1,by omega,by simpa using h2⟩
 | some b::r,j,i,bs,h=>by
  simp only[kIn,lk] at h
  cases hb:Nat.beq j i with
  |true=>
   rw[hb,cond_true,osE] at h
   have:=nbE hb
   exact⟨0,by omega,by rw[← h]; rfl⟩
  |false=>
   rw[hb,cond_false] at h
   obtain⟨k,h1,h2⟩:=kIn_get h
   exact⟨k+1,by omega,by simpa using h2⟩
def kUniq:KS→Bool
 | []=>true
 |(i,_)::r=>(match lk i r with
  |some _=>false
  |none=>true)&&kUniq r
theorem kUniq_ok:∀ {K:KS},kUniq K=true→∀ p∈K,lk p.1 K=some p.2
 | [],_,p,hp=>by cases hp
 | (i,l)::r,h,p,hp=>by
  simp only[kUniq,baE] at h
  rcases List.mem_cons.1 hp with rfl|hp
  ·simp only[lk,Nat.beq_refl,cond_true]
  ·have ih:=kUniq_ok h.2 p hp
   simp only[lk]
   cases hb:Nat.beq i p.1 with
   |true=>
    have:=nbE hb
    subst this
    rw[ih] at h
    cases h.1
   |false=>rw[cond_false]; exact ih
def bkFnK (t:Tf A) (nm:Int→Option A) (oth:List (Nat×Def)→BS A→Obl→Bool) (tr:Tree) (C:Cx) (s0:FSum) (rvs:List ResultVar) (kin:List (Option (List Int))) (bin:List (Option (List (Nat×A)))):Option (List Tree×List (List (Bk A))):=
 match linK (kIn 0 kin) tr with
 | some p=>bif linKOk s0.params.length (kIn 0 kin) tr&&Nat.beq bin.length s0.params.length&&Nat.beq kin.length s0.params.length&&kUniq p.K then
   (let s:=bkAll t (nmS nm p.K (bkIn 0 bin)) p.ds
     bif p.ob.all (bkOb t (oth p.ds) s) then (match leafE C s0 rvs p.st with
   |some es=>(match parseEs s es with
    |some r=>some (p.cs,r)
    |none=>none)
   |none=>none) else none) else none
 |none=>none
theorem bkFnK_ok{t:Tf A}{nm:Int→Option A}{oth:List (Nat×Def)→BS A→Obl→Bool}{i:FnI}{C:Cx}{kin:List (Option (List Int))}{bin:List (Option (List (Nat×A)))}{cs:List Tree}{r:List (List (Bk A))}(hn:∀ c x,nm c=some x→γ x [c])(ht:TfOk γ C.T t)(ho:∀ ds,OthOk γ C.T ds (oth ds))(h:bkFnK t nm oth (i.tree C) C i.s0 i.rvs kin bin=some (cs,r)){ins:List (List Int)}(hk:∀ (j:Nat) (l:List Int),kin[j]? = some (some l)→ins.getD j []=l)(hb:∀ (j:Nat) (b:List (Nat×A)),bin[j]? = some (some b)→BlsOk γ b (ins.getD j [])):
  ((∀ c∈cs,∀ ρ',AgE i.s0.params.length (insE ins) ρ'→evOb C.T c ρ')→evOb C.T (i.tree C) (insE ins))∧∃ ρ:Env,(∀ j,j<i.s0.params.length→ρ j=ins.getD j [])∧∀ (k:Nat) (b:List (Bk A)),r[k]? = some b→BksOk γ ρ b (i.raw C k ins):=by
 unfold bkFnK at h
 split at h
 ·rename_i p hl
  cases hc:(linKOk i.s0.params.length (kIn 0 kin) (i.tree C)&&Nat.beq bin.length i.s0.params.length&&Nat.beq kin.length i.s0.params.length&&kUniq p.K) with
  |false=>rw[hc] at h; cases h
  |true=>
  rw[hc,cond_true] at h
  simp only[baE] at hc
  have hlen:=nbE hc.1.1.2
  have hlen2:=nbE hc.1.2
  have hK0:KOk i.s0.params.length (insE ins) (kIn 0 kin):=fun j l hj=>by
   obtain⟨k,h1,h2⟩:=kIn_get hj
   rw[Nat.zero_add] at h1
   subst h1
   have hlt:j<kin.length:=(List.getElem?_eq_some_iff.1 h2).1
   exact⟨by omega,hk j l h2⟩
  obtain⟨k1,k2,k3,k4,⟨hi,k5⟩,k6⟩:=linK_ok (T:=C.T) (np:=i.s0.params.length) (ρ0:=insE ins) (ρ:=insE ins) (Nat.le_refl _) (AgE.refl _ _) hK0 hc.1.1.1 hl
  have hρ:∀ j,j<i.s0.params.length→upds C.T (insE ins) p.ds j=ins.getD j []:=fun j hj=>by rw[k1 j hj]; rfl
  have hin:BSOk γ (upds C.T (insE ins) p.ds) (bkIn 0 bin):=fun j bs hj=>by
   obtain⟨k,h1,h2⟩:=bkIn_get hj
   rw[Nat.zero_add] at h1
   subst h1
   have hlt:j<bin.length:=(List.getElem?_eq_some_iff.1 h2).1
   rw[hρ j (by omega)]
   exact hb j bs h2
  have hin':BSOk γ (upds C.T (insE ins) p.ds) (nmS nm p.K (bkIn 0 bin)):=nmS_ok γ hn hin fun q hq=>(k5 q.1 q.2 (kUniq_ok hc.2 q hq)).2
  have hS:=bkAll_ok γ ht hin' k2
  simp only at h
  cases hob:p.ob.all (bkOb t (oth p.ds) (bkAll t (nmS nm p.K (bkIn 0 bin)) p.ds)) with
  |false=>rw[hob] at h; cases h
  |true=>
  rw[hob,cond_true] at h
  split at h
  ·rename_i es hes
   split at h
   ·rename_i r' hr
    simp only[osE,Prod.mk.injEq] at h
    obtain⟨rfl,rfl⟩:=h
    refine⟨k6 fun q hq=>bkOb_ok γ ht (ho p.ds) k2 hS (List.all_eq_true.1 hob q hq),upds C.T (insE ins) p.ds,hρ,fun k b hk=> ?_⟩
    obtain⟨e',g1,g2⟩:=parseEs_get hr k b hk
    have:i.raw C k ins=e'.1.map (·.den (upds C.T (insE ins) p.ds)):=by
     unfold FnI.raw rawT
     rw[k4]
     simp only[hes,g1]
    rw[this]
    exact parseX_ok γ hS _ _ _ g2
   ·cases h
  ·cases h
 ·cases h
end
end Go.Proofs.YtloibefkijfdlaaGreatDoor

namespace Go.Proofs.YtloibefkijfdlaaGreatDoor
open Go
def kOb(K:KS):Obl→Bool
 | .rng x n=>(match kX K x with
  |some c=>ileB 0 c&&ileB c ((n:Int)-1)
  |none=>false)
 | .ge0 x=>(match kX K x with
  |some c=>ileB 0 c
  |none=>false)
 | .c01 x=>(match kX K x with
  |some c=>ieqB c 0||ieqB c 1
  |none=>false)
 | .zr x=>(match kX K x with
  |some c=>ieqB c 0
  |none=>false)
 | .nz x=>(match kX K x with
  |some c=> !(ieqB c 0)
  |none=>false)
 | .pre _ _=>false
theorem kOb_ok{T:Tb}{lo:Nat}{ρ:Env}{K:KS}(hK:KOk lo ρ K){q:Obl}(h:kOb K q=true):q.den T ρ:=by
 cases q with
 | rng x n=>
  simp only[kOb] at h
  split at h
  ·rename_i c hc
   simp only[baE] at h
   have h1:=ileB_le h.1
   have h2:=ileB_le h.2
   show 0≤x.den ρ∧x.den ρ<n
   rw[kX_ok hK hc]; omega
  ·cases h
 | ge0 x=>
  simp only[kOb] at h
  split at h
  ·rename_i c hc
   show 0≤x.den ρ
   rw[kX_ok hK hc]; exact ileB_le h
  ·cases h
 | c01 x=>
  simp only[kOb] at h
  split at h
  ·rename_i c hc
   simp only[Bool.or_eq_true] at h
   show x.den ρ=0∨x.den ρ=1
   rw[kX_ok hK hc]
   rcases h with h|h
   ·exact .inl (ieqB_ok h)
   ·exact .inr (ieqB_ok h)
  ·cases h
 | zr x=>
  simp only[kOb] at h
  split at h
  ·rename_i c hc
   show x.den ρ=0
   rw[kX_ok hK hc]; exact ieqB_ok h
  ·cases h
 | nz x=>
  simp only[kOb] at h
  split at h
  ·rename_i c hc
   show x.den ρ≠0
   rw[kX_ok hK hc]
   simp only[Bool.not_eq_true'] at h
   exact ieqB_no h
  ·cases h
 |pre f l=>cases h
def kAt(q np:Nat)(c:Int):List (Option (List Int)):=List.replicate q none++some [c]::List.replicate (np-q-1) none
theorem kAt_get{q np:Nat}{c:Int}{j:Nat}{l:List Int}(h:(kAt q np c)[j]? = some (some l)):j=q∧l= [c]:=by
 unfold kAt at h
 rcases Nat.lt_trichotomy j q with hj|hj|hj
 ·rw[List.getElem?_append_left (by simpa using hj),List.getElem?_replicate] at h
  split at h<;>cases h
 ·subst hj
  rw[List.getElem?_append_right (by simp)] at h
  simp only[List.length_replicate,Nat.sub_self,List.getElem?_cons_zero,osE] at h
  exact⟨rfl,h.symm⟩
 ·rw[List.getElem?_append_right (by simp; omega)] at h
  simp only[List.length_replicate] at h
  have:j-q=(j-q-1)+1:=by omega
  rw[this,List.getElem?_cons_succ,List.getElem?_replicate] at h
  split at h<;>cases h
def lpKT (i:LpI) (C:Cx) (q:Nat) (c:Int):Option (Bool×Int):=
 match linK (kIn 0 (kAt q i.s0.params.length c)) (i.tree C) with
 | some p=>bif linKOk i.s0.params.length (kIn 0 (kAt q i.s0.params.length c)) (i.tree C)&&(match p.cs with
   | []=>true
   |_=>false)&&p.ob.all (kOb p.K) then (match i.leaf p.e p.st with
   | some (b,al)=>(match al[q]? with
    |some a=>(match kArg p.K a with
     |some [d]=>some (b,d)
     |_=>none)
    |none=>none)
   |none=>none) else none
 |none=>none
theorem lpKT_ok{i:LpI}{C:Cx}{q:Nat}{c d:Int}{b:Bool}(hq:q<i.s0.params.length)(h:lpKT i C q c=some (b,d)){ins:List (List Int)}(hi:ins.getD q []= [c]):
  evOb C.T (i.tree C) (insE ins)∧∃ r,i.step C ins=some (b,r)∧r.getD q []= [d]:=by
 unfold lpKT at h
 split at h
 ·rename_i p hl
  cases hc:(linKOk i.s0.params.length (kIn 0 (kAt q i.s0.params.length c)) (i.tree C)&&(match p.cs with
   | []=>true
   |_=>false)&&p.ob.all (kOb p.K)) with
  |false=>rw[hc] at h; cases h
  | true=>
   rw[hc,cond_true] at h
   simp only[baE] at hc
   obtain⟨⟨c1,c2⟩,c3⟩:=hc
   have hK0:KOk i.s0.params.length (insE ins) (kIn 0 (kAt q i.s0.params.length c)):=fun j l hj=>by
    obtain⟨k,h1,h2⟩:=kIn_get hj
    rw[Nat.zero_add] at h1
    subst h1
    obtain⟨rfl,rfl⟩:=kAt_get h2
    exact⟨hq,hi⟩
   obtain⟨k1,k2,k3,k4,⟨hi',k5⟩,k6⟩:=linK_ok (T:=C.T) (np:=i.s0.params.length) (ρ0:=insE ins) (ρ:=insE ins) (Nat.le_refl _) (AgE.refl _ _) hK0 c1 hl
   split at h
   ·rename_i b' al hlf
    split at h
    ·rename_i a ha
     split at h
     ·rename_i d' hd
      simp only[osE,Prod.mk.injEq] at h
      obtain⟨rfl,rfl⟩:=h
      refine⟨k6 (fun o ho=>kOb_ok k5 (List.all_eq_true.1 c3 o ho)) (fun c' hc'=> ?_),al.map (·.den (upds C.T (insE ins) p.ds)),?_,?_⟩
      ·split at c2
       ·rename_i he; rw[he] at hc'; cases hc'
       ·cases c2
      ·unfold LpI.step
       rw[k3]
       simp only[hlf]
      ·rw[List.getD,List.getElem?_map,ha]
       exact kArg_ok k5 hd
     ·cases h
    ·cases h
   ·cases h
 ·cases h
def lpAll(i:LpI)(C:Cx)(q:Nat)(n:Nat):Nat→Bool
 |0=>(match lpKT i C q (n:Int) with
  |some (b,_)=> !b
  |none=>false)
 |m+1=>(match lpKT i C q ((n:Int)-(m+1:Nat)) with
  |some (b,d)=>b&&ieqB d ((n:Int)-(m:Nat))
  |none=>false)&&lpAll i C q n m
theorem lpAll_ok{i:LpI}{C:Cx}{q n:Nat}(hq:q<i.s0.params.length):∀ {m:Nat} {ins:List (List Int)} {f:Nat},lpAll i C q n m=true→ins.getD q []= [(n:Int)-(m:Nat)]→m<f→lpOb (i.step C) (fun ins=>evOb C.T (i.tree C) (insE ins)) f ins
 |0,ins,0,h,hi,hf=>by omega
 | 0,ins,f+1,h,hi,hf=>by
  unfold lpAll at h
  rw[show ((n:Int)-((0:Nat):Int))=n by omega] at hi
  split at h
  ·rename_i b d hd
   obtain⟨h1,r,h2,h3⟩:=lpKT_ok hq hd hi
   simp only[Bool.not_eq_true'] at h
   subst h
   refine⟨h1,?_⟩
   rw[h2]; trivial
  ·cases h
 |m+1,ins,0,h,hi,hf=>by omega
 | m+1,ins,f+1,h,hi,hf=>by
  unfold lpAll at h
  simp only[baE] at h
  obtain⟨h0,hr⟩:=h
  split at h0
  ·rename_i b d hd
   simp only[baE] at h0
   obtain⟨h1,r,h2,h3⟩:=lpKT_ok hq hd hi
   have hb:=h0.1
   subst hb
   have hd':=ieqB_ok h0.2
   subst hd'
   refine⟨h1,?_⟩
   rw[h2]
   exact lpAll_ok hq hr h3 (by omega)
  ·cases h0
end Go.Proofs.YtloibefkijfdlaaGreatDoor

namespace Go.Proofs.YtloibefkijfdlaaGreatDoor
open Go Ma
def zero5(l:List Int)(o:Nat):Prop:=∀ k,k<5→l.getD (o+k) 0=0
def eqDef:Def→Option (Nat×Nat)
 |⟨.eqv,[.xs (.v j o::r),.xs [.lit a,.lit b,.lit c,.lit d,.lit e]]⟩=>bif isRun j o (.v j o::r)&&Nat.beq r.length 4&&ieqB a 0&&ieqB b 0&&ieqB c 0&&ieqB d 0&&ieqB e 0 then some (j,o) else none
 |_=>none
theorem b01_nz{b:Bool}(h:b01 b≠0):b=true:=by
 cases b with
 |true=>rfl
 |false=>exact absurd rfl h
theorem eqDef_ok{T:Tb}{ρ:Env}{d:Def}{p:Nat×Nat}(h:eqDef d=some p)(hd:(d.den T ρ).getD 0 0≠0):zero5 (ρ p.1) p.2:=by
 unfold eqDef at h
 split at h
 ·rename_i j o r a b c d e
  cases hb:(isRun j o (.v j o::r)&&Nat.beq r.length 4&&ieqB a 0&&ieqB b 0&&ieqB c 0&&ieqB d 0&&ieqB e 0) with
  |false=>rw[hb] at h; cases h
  |true=>
   rw[hb,cond_true,osE] at h
   subst h
   simp only[baE] at hb
   obtain⟨⟨⟨⟨⟨⟨h1,h2⟩,ha⟩,hb⟩,hc⟩,hd'⟩,he⟩:=hb
   have ha:=ieqB_ok ha
   have hb:=ieqB_ok hb
   have hc:=ieqB_ok hc
   have hd':=ieqB_ok hd'
   have he:=ieqB_ok he
   subst ha; subst hb; subst hc; subst hd'; subst he
   have h2:=nbE h2
   have h3:((X.v j o::r).map (·.den ρ) == [0,0,0,0,0])=true:=b01_nz hd
   have h4:=eq_of_beq h3
   rw[run_den h1,List.length_cons,h2] at h4
   intro k hk
   have:=congrArg (fun l=>l[k]?) h4
   simp only[List.getElem?_map] at this
   rw[List.getElem?_range (by omega)] at this
   simp only[Option.map_some] at this
   match k,hk with
   |0,_=>simpa using this
   |1,_=>simpa using this
   |2,_=>simpa using this
   |3,_=>simpa using this
   |4,_=>simpa using this
 ·cases h
abbrev PN:=Nat×Nat
def pnB(a b:PN):Bool:=Nat.beq a.1 b.1&&Nat.beq a.2 b.2
def pnIn(p:PN):List PN→Bool
 | []=>false
 |q::r=>pnB p q||pnIn p r
theorem pnIn_ok{p:PN}:∀ {l:List PN},pnIn p l=true→p∈l
 | [],h=>by cases h
 | q::r,h=>by
  simp only[pnIn,Bool.or_eq_true,pnB,baE] at h
  rcases h with h|h
  ·have e:p=q:=Prod.ext (nbE h.1) (nbE h.2)
   rw[e]; exact lmS
  ·exact lmM _ (pnIn_ok h)
def knDefs(np:Nat):List (Nat×PN)→List (Nat×Def)→List (Nat×PN)
 |K,[]=>K
 |K,(n,d)::r=>knDefs np (match eqDef d with
  |some p=>bif Nat.blt p.1 np then (n,p)::K else K
  |none=>K) r
def chkO(pts:List PN)(K:List (Nat×PN))(tr:List PN):Obl→Bool
 | .zr (.v n 0)=>(match lk n K with
  |some (j,o)=>Nat.ble 5 o&&pnIn (j,o-5) pts&&pnIn (j,o-5) tr
  |none=>false)
 |_=>false
def chkC(np:Nat)(pts:List PN):Nat→List (Nat×PN)→List PN→Tree→Bool
 |_,_,_,.leaf _ _=>true
 |lo,K,tr,.evs ds ob t=>defsOk lo (nxt lo ds) ds&&ob.all (chkO pts (knDefs np K ds) tr)&&chkC np pts (nxt lo ds) (knDefs np K ds) tr t
 |lo,K,tr,.br (.v n 0) t f=>(match lk n K with
  |some p=>chkC np pts lo K (p::tr) t
  |none=>chkC np pts lo K tr t)&&chkC np pts lo K tr f
 |_,_,_,_=>false
def KnOk(np lo:Nat)(ρ:Env)(K:List (Nat×PN)):Prop:=∀ n p,lk n K=some p→n<lo∧p.1<np∧((ρ n).getD 0 0≠0→zero5 (ρ p.1) p.2)
theorem knDefs_ok{T:Tb}{np hi:Nat}{ρ:Env}:∀ {ds:List (Nat×Def)} {lo:Nat} {K:List (Nat×PN)},defsOk lo hi ds=true→KnOk np lo ρ K→DsE T ρ ds→KnOk np (nxt lo ds) ρ (knDefs np K ds)
 | [],lo,K,_,hK,_=>hK
 | (n,d)::r,lo,K,h,hK,hd=>by
  simp only[defsOk,baE] at h
  have h1:=nbL h.1.1.1
  have hd1:ρ n=d.den T ρ:=hd (n,d) lmS
  unfold knDefs
  show KnOk np (nxt (n+1) r) ρ (knDefs np _ r)
  refine knDefs_ok (ds:=r) h.2 ?_ (fun p hp=>hd p (lmM _ hp))
  have hK':KnOk np (n+1) ρ K:=fun m p hm=>⟨by have:=(hK m p hm).1; omega,(hK m p hm).2⟩
  split
  ·rename_i p hp
   cases hb:Nat.blt p.1 np with
   |false=>exact hK'
   | true=>
    rw[cond_true]
    intro m q hm
    simp only[lk] at hm
    cases hbb:Nat.beq n m with
    |true=>
     rw[hbb,cond_true,osE] at hm
     have:=nbE hbb
     subst this; subst hm
     exact⟨by omega,nbL hb,fun hne=>eqDef_ok hp (hd1 ▸ hne)⟩
    |false=>rw[hbb,cond_false] at hm; exact hK' m q hm
  ·exact hK'
theorem chkC_ok{T:Tb}{np:Nat}{pts:List PN}{ρ0:Env}(hp:∀ p∈pts,¬(zero5 (ρ0 p.1) p.2∧zero5 (ρ0 p.1) (p.2+5))):∀ {t:Tree} {lo:Nat} {K:List (Nat×PN)} {tr:List PN} {ρ:Env},np≤lo→AgE np ρ0 ρ→KnOk np lo ρ K→(∀ p∈tr,zero5 (ρ0 p.1) p.2)→chkC np pts lo K tr t=true→evOb T t ρ
 | .leaf _ _,_,_,_,_,_,_,_,_,_=>trivial
 | .evs ds ob t,lo,K,tr,ρ,hnp,ha,hK,htr,h=>by
  unfold chkC at h
  simp only[baE] at h
  obtain⟨g1,g2⟩:=upds_ok T ρ h.1.1
  have hle:=nxt_ge h.1.1
  have ha':AgE np ρ0 (upds T ρ ds):=ha.trans g1 hnp
  have hK1:KnOk np lo (upds T ρ ds) K:=fun n p hn=>⟨(hK n p hn).1,(hK n p hn).2.1,by
   have h1:=hK n p hn
   rw[g1 n h1.1,g1 p.1 (by omega)]; exact h1.2.2⟩
  have hK2:=knDefs_ok h.1.1 hK1 g2
  refine⟨fun q hq=> ?_,chkC_ok hp (by omega) ha' hK2 htr h.2⟩
  have hq:=List.all_eq_true.1 h.1.2 q hq
  unfold chkO at hq
  split at hq
  ·rename_i n hmem
   split at hq
   ·rename_i j o hn
    simp only[baE] at hq
    obtain⟨⟨h5,h6⟩,h7⟩:=hq
    have h5:=nbL h5
    have h6:=hp _ (pnIn_ok h6)
    have h7:=htr _ (pnIn_ok h7)
    obtain⟨k1,k2,k3⟩:=hK2 n (j,o) hn
    show (upds T ρ ds n).getD 0 0=0
    refine Classical.byContradiction fun hne=>h6 ⟨h7,?_⟩
    have:=k3 hne
    simp only at this
    rw[ha' j k2] at this
    have e:o-5+5=o:=by omega
    show zero5 (ρ0 j) (o-5+5)
    rw[e]; exact this
   ·cases hq
  ·cases hq
 | .br (.v n 0) t f,lo,K,tr,ρ,hnp,ha,hK,htr,h=>by
  unfold chkC at h
  simp only[baE] at h
  refine⟨fun _=>chkC_ok hp hnp ha hK htr h.2,fun hne=> ?_⟩
  have h1:=h.1
  split at h1
  ·rename_i p hn
   obtain⟨k1,k2,k3⟩:=hK n p hn
   refine chkC_ok hp hnp ha hK ?_ h1
   intro q hq
   rcases List.mem_cons.1 hq with rfl|hq
   ·have:=k3 hne
    rw[ha q.1 k2] at this
    exact this
   ·exact htr q hq
  ·exact chkC_ok hp hnp ha hK htr h1
 | .br (.lit _) _ _,_,_,_,_,_,_,_,_,h=>by cases h
 | .br (.v _ (_+1)) _ _,_,_,_,_,_,_,_,_,h=>by cases h
 | .brc _ _ _ _,_,_,_,_,_,_,_,_,h=>by cases h
 | .chk _ _,_,_,_,_,_,_,_,_,h=>by cases h
 | .bad _,_,_,_,_,_,_,_,_,h=>by cases h
theorem r3_nz{P:Pt}{l:List Int}(h:R3 P l):¬(zero5 l 0∧zero5 l 5):=by
 obtain⟨X,Y,Z,T,⟨u,w,h1,h2,u2,w2,h3,h4,_⟩,hP⟩:=h
 intro ⟨g1,g2⟩
 have hu:u.length=5:=h2.1.1
 have hu2:u2.length=5:=h4.1.1
 have e0:∀ k,k<5→u.getD k 0=0:=fun k hk=>by
  have:=g1 k hk
  rw[h1,List.getD,List.getElem?_append_left (by omega),Nat.zero_add] at this
  exact this
 have e1:∀ k,k<5→u2.getD k 0=0:=fun k hk=>by
  have:=g2 k hk
  rw[h1,h3,List.getD,List.getElem?_append_right (by omega),hu,Nat.add_sub_cancel_left,List.getElem?_append_left (by omega)] at this
  exact this
 have x0:X=0:=by
  rw[← h2.2,show feV u=0 by unfold feV; rw[e0 0 (by omega),e0 1 (by omega),e0 2 (by omega),e0 3 (by omega),e0 4 (by omega)]; rfl,fpI_zero]
 have y0:Y=0:=by
  rw[← h4.2,show feV u2=0 by unfold feV; rw[e1 0 (by omega),e1 1 (by omega),e1 2 (by omega),e1 3 (by omega),e1 4 (by omega)]; rfl,fpI_zero]
 have hx:=hP.x
 have hy:=hP.y
 have hz:=hP.z
 rw[x0] at hx
 rw[y0] at hy
 have hc:=P.h
 unfold OnC at hc
 have px:P.x=0:=cancel hz (by rw[← hx]; grind)
 have py:P.y=0:=cancel hz (by rw[← hy]; grind)
 rw[px,py] at hc
 exact absurd (show (0:Fp)=1 by grind) (by decide +kernel)
inductive InK:List (Option (List Int))→List (List Int)→Prop where
 |nil:InK [] []
 |no {l:List Int} {bs:List (Option (List Int))} {ls:List (List Int)}:InK bs ls→InK (none::bs) (l::ls)
 |yes {l:List Int} {bs:List (Option (List Int))} {ls:List (List Int)}:InK bs ls→InK (some l::bs) (l::ls)
theorem InK.get:∀ {bs:List (Option (List Int))} {ls:List (List Int)},InK bs ls→∀ (j:Nat) (b:List Int),bs[j]? = some (some b)→ls.getD j []=b
 |_,_,.nil,j,b,h=>by simp at h
 |_,_,.no h1,0,b,h=>by simp at h
 |_,_,.no h1,j+1,b,h=>by
  have:=h1.get j b (by simpa using h)
  simpa using this
 |_,_,.yes h1,0,b,h=>by
  simp only[List.getElem?_cons_zero,osE] at h
  subst h; rfl
 |_,_,.yes h1,j+1,b,h=>by
  have:=h1.get j b (by simpa using h)
  simpa using this
section
variable{A:Type}{γ:A→List Int→Prop}
def bkFnC(t:Tf A)(nm:Int→Option A)(tr:Tree)(C:Cx)(s0:FSum)(rvs:List ResultVar)(kin:List (Option (List Int)))(bin:List (Option (List (Nat×A))))(pts:List PN):Option (List (List (Bk A))):=
 match bkFnK t nm noO tr C s0 rvs kin bin with
 |some (cs,r)=>bif cs.all (chkC s0.params.length pts s0.params.length [] []) then some r else none
 |none=>none
theorem bkFnC_ok{t:Tf A}{nm:Int→Option A}{i:FnI}{C:Cx}{kin:List (Option (List Int))}{bin:List (Option (List (Nat×A)))}{pts:List PN}{r:List (List (Bk A))}(hn:∀ c x,nm c=some x→γ x [c])(ht:TfOk γ C.T t)(h:bkFnC t nm (i.tree C) C i.s0 i.rvs kin bin pts=some r){ins:List (List Int)}(hk:InK kin ins)(hb:InB γ bin ins)(hp:∀ p∈pts,¬(zero5 (ins.getD p.1 []) p.2∧zero5 (ins.getD p.1 []) (p.2+5))):
  evOb C.T (i.tree C) (insE ins)∧∃ ρ:Env,(∀ j,j<i.s0.params.length→ρ j=ins.getD j [])∧∀ (k:Nat) (b:List (Bk A)),r[k]? = some b→BksOk γ ρ b (i.raw C k ins):=by
 unfold bkFnC at h
 split at h
 ·rename_i cs r' hr
  cases hc:cs.all (chkC i.s0.params.length pts i.s0.params.length [] []) with
  |false=>rw[hc] at h; cases h
  |true=>
   rw[hc,cond_true,osE] at h
   subst h
   obtain⟨h1,h2⟩:=bkFnK_ok γ hn ht (fun ds=>noO_ok ds) hr hk.get hb.get
   exact⟨h1 fun c hcc ρ' ha=>chkC_ok (ρ0:=insE ins) hp (Nat.le_refl _) ha (fun n p hn=>by cases hn) (fun p hp=>by cases hp) (List.all_eq_true.1 hc c hcc),h2⟩
 ·cases h
end
def nmG(c:Int):Option GX:=some (.num c)
theorem nmG_ok{ρ:GV}(c:Int)(x:GX)(h:nmG c=some x):γG ρ x [c]:=by
 simp only[nmG,osE] at h; subst h; rfl
def nmF(_:Int):Option FX:=none
theorem nmF_ok{ρ:FV}(c:Int)(x:FX)(h:nmF c=some x):γF ρ x [c]:=by cases h
theorem gpFnC{M:List (Nat×KP)}{i:FnI}{C:Cx}{ρ:GV}{kin:List (Option (List Int))}{bin:List (Option (List (Nat×GX)))}{pts:List PN}{r:List (List (Bk GX))}(hM:MG C.T ρ M)(h:bkFnC (tfG M) nmG (i.tree C) C i.s0 i.rvs kin bin pts=some r){ins:List (List Int)}(hk:InK kin ins)(hin:InB (γG ρ) bin ins)(hp:∀ p∈pts,¬(zero5 (ins.getD p.1 []) p.2∧zero5 (ins.getD p.1 []) (p.2+5))):
  evOb C.T (i.tree C) (insE ins)∧∃ ρe:Env,∀ (k:Nat) (b:List (Bk GX)),r[k]? = some b→BksOk (γG ρ) ρe b (i.raw C k ins):=by
 obtain⟨h1,ρe,h2,h3⟩:=bkFnC_ok nmG_ok (tfG_ok hM) h hk hin hp
 exact⟨h1,ρe,h3⟩
theorem gv_one'{T:Tb}{f o:Nat}{s:FSum}(h:lk f T=some (.one s))(args:List (List Int)):gv T f o args=(s.pr o).den args:=by
 simp only[gv,DOp.den,h]; rfl
theorem gpOk{T:Tb}{f n:Nat}{M:List (Nat×KP)}{i:FnI}{C:Cx}{ρ:GV}{kin:List (Option (List Int))}{bin:List (Option (List (Nat×GX)))}{pts:List PN}{b:List (Bk GX)}(hs:lk f T=some (.one (i.sumP C)))(ho:(i.sumP C).pr 0= .l fun a=>fixL n (i.raw C 0 a))(hM:MG C.T ρ M)(h:bkFnC (tfG M) nmG (i.tree C) C i.s0 i.rvs kin bin pts=some [b]){ins:List (List Int)}(hk:InK kin ins)(hin:InB (γG ρ) bin ins)(hp:∀ p∈pts,¬(zero5 (ins.getD p.1 []) p.2∧zero5 (ins.getD p.1 []) (p.2+5)))(hl:∀ ρe l,BksOk (γG ρ) ρe b l→l.length=n):
  Pay T f ins∧∃ ρe:Env,BksOk (γG ρ) ρe b (gv T f 0 ins):=by
 obtain⟨h1,ρe,h2⟩:=gpFnC hM h hk hin hp
 refine⟨⟨⟨_,hs,h1⟩⟩,ρe,?_⟩
 have h3:=h2 0 b rfl
 rw[gv_one' hs,ho]
 show BksOk (γG ρ) ρe b (fixL n (i.raw C 0 ins))
 rw[fixL_id (hl ρe _ h3)]
 exact h3
end Go.Proofs.YtloibefkijfdlaaGreatDoor
