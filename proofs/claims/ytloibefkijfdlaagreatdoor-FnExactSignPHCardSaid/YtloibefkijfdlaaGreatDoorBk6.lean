/- A walk that knows ranges alone: four words, bytes. -/
import Derived.Test.YtloibefkijfdlaaGreatDoorSc
namespace Go.Proofs.YtloibefkijfdlaaGreatDoor
open Go
inductive WX where
 |w
 |y
 |r3
 |any
def γW:WX→List Int→Prop
 | .w,l=>u4 l
 | .y,l=>by8 l
 | .r3,l=>∃ P:Ma.Pt,R3 P l
 | .any,_=>True
def ABT(c:Int):Bool:=Bj 0 c&&Bj c 18446744073709551615
def gH:List (Bk WX)→Bool
 | [.a _ .w]=>true
 | [.lit a,.lit b,.lit c,.lit d]=>ABT a&&ABT b&&ABT c&&ABT d
 |_=>false
theorem ZO{c:Int}(h:ABT c=true):0≤c∧c≤18446744073709551615:=by
 simp only[ABT,Bd] at h;exact⟨BB h.1,BB h.2⟩
theorem Zh{ρ:Bl}{b:List (Bk WX)}{l:List Int}(h:H6 γW ρ b l)(hb:gH b=true):u4 l:=by
 unfold gH at hb
 split at hb
 ·obtain⟨u,w,h1,h2,h3⟩:=h;have hw:w= []:=h3;rw[hw,TL] at h1;subst h1;exact h2.2
 ·rename_i a b c d
  simp only[Bd] at hb;obtain⟨u1,w1,h1,h2,u2,w2,h3,h4,u3,w3,h5,h6,u4',w4,h7,h8,h9⟩:=h;have h9:w4= []:=h9;have h2:u1= [a]:=h2;have h4:u2= [b]:=h4;have h6:u3= [c]:=h6;have h8:u4'= [d]:=h8;rw[h1,h3,h5,h7,h9,h2,h4,h6,h8];refine⟨rfl,fun k hk=>?_⟩
  match k,hk with
  |0,_=>exact ZO hb.1.1.1
  |1,_=>exact ZO hb.1.1.2
  |2,_=>exact ZO hb.1.2
  |3,_=>exact ZO hb.2
 ·cases hb
def nM:List (Bk WX)→Option Nat
 | []=>some 0
 | .a n .y::r=>(match nM r with
  |some m=>some (n+m)
  |none=>none)
 | .lit c::r=>bif Bj 0 c&&Bj c 255 then (match nM r with
  |some m=>some (1+m)
  |none=>none) else none
 |_=>none
theorem mY{a b:List Int}(ha:by8 a)(hb:by8 b):by8 (a++b):=fun x hx=>by
 rcases iQ.1 hx with h|h
 ·exact ha x h
 ·exact hb x h
theorem ZV{ρ:Bl}:∀ {b:List (Bk WX)} {l:List Int} {n:Nat},H6 γW ρ b l→nM b=some n→by8 l∧l.length=n
 | [],l,n,h,hb=>by
  simp only[nM,Am] at hb;subst hb;rw[show l= [] from h];exact⟨fun x hx=>(by cases hx),rfl⟩
 | .a m .y::r,l,n,⟨u,w,h1,h2,h3⟩,hb=>by
  unfold nM at hb
  split at hb
  ·rename_i k hk
   simp only[Am] at hb;subst hb;obtain⟨g1,g2⟩:=ZV h3 hk;rw[h1];exact⟨mY h2.2 g1,by rw[K6,h2.1,g2]⟩
  ·cases hb
 | .lit c::r,l,n,⟨u,w,h1,h2,h3⟩,hb=>by
  unfold nM at hb
  cases hc:(Bj 0 c&&Bj c 255) with
  |false=>rw[hc] at hb;cases hb
  | true=>
   rw[hc,cond_true] at hb;simp only[Bd] at hc
   split at hb
   ·rename_i k hk
    simp only[Am] at hb;subst hb;obtain⟨g1,g2⟩:=ZV h3 hk;have h2:u= [c]:=h2;rw[h1,h2];refine⟨mY (fun x hx=>?_) g1,by rw[K6,g2];rfl⟩;rw[Nc] at hx;subst hx;exact⟨BB hc.1,BB hc.2⟩
   ·cases hb
 | .a _ .w::_,_,_,_,hb=>by cases hb
 | .a _ .r3::_,_,_,_,hb=>by cases hb
 | .a _ .any::_,_,_,_,hb=>by cases hb
 | .sx _::_,_,_,_,hb=>by cases hb
 | .vec _::_,_,_,_,hb=>by cases hb
inductive KW where
 |w1
 |w2
 |yn (n:Nat)
 |an2 (n:Nat)
 |bp (n:Nat)
 |sbm
 |ptb
def AJ1:List (Bk WX)→Bool
 | [.a _ .r3]=>true
 |_=>false
theorem AJA{ρ:Bl}{b:List (Bk WX)}{l:List Int}(h:H6 γW ρ b l)(hb:AJ1 b=true):∃ P:Ma.Pt,R3 P l:=by
 unfold AJ1 at hb
 split at hb
 ·obtain⟨u,w,h1,h2,h3⟩:=h;have hw:w= []:=h3;rw[hw,TL] at h1;subst h1;exact h2.2
 ·cases hb
def WL(n:Nat):List (Nat×WX):=List.replicate n (1,.y)
theorem TF:∀ {n:Nat} {l:List Int},by8 l→l.length=n→Em γW (WL n) l
 |0,l,_,hl=>zbx hl
 |n+1,[],_,hl=>by cases hl
 |n+1,x::l,h,hl=>⟨[x],l,rfl,rfl,fun y hy=>by rw[Nc] at hy;subst hy;exact h y LA,TF (fun y hy=>h y (MQ _ hy)) (by simpa using hl)⟩
def KW.tf:KW→Nat→List (List (Bk WX))→Option (List (Nat×WX))
 | .w1,0,[_,a]=>bif gH a then some [(4,.w)] else none
 | .w2,0,[_,a,b]=>bif gH a&&gH b then some [(4,.w)] else none
 | .yn n,0,[_,a]=>(match nM a with
  |some m=>bif Nat.beq m n then some [(4,.w)] else none
  |none=>none)
 | .an2 n,0,[_,_]=>some [(n,.any)]
 | .bp n,0,[a,_]=>(match nM a with
  |some m=>bif Nat.beq m n then some (WL n) else none
  |none=>none)
 | .sbm,0,[_,a]=>bif gH a then some [(20,.r3)] else none
 | .ptb,0,[a]=>bif AJ1 a then some [(32,.any)] else none
 |_,_,_=>none
def KW.Ok(T:Tb)(f:Nat):KW→Prop
 | .w1=>∀ v a,u4 a→OU T f [v,a]∧u4 (gv T f 0 [v,a])
 | .w2=>∀ v a b,u4 a→u4 b→OU T f [v,a,b]∧u4 (gv T f 0 [v,a,b])
 | .yn n=>∀ v a,by8 a→a.length=n→OU T f [v,a]∧u4 (gv T f 0 [v,a])
 | .an2 n=>∀ a b,OU T f [a,b]∧(gv T f 0 [a,b]).length=n
 | .bp n=>∀ a v,by8 a→a.length=n→OU T f [a,v]∧by8 (gv T f 0 [a,v])∧(gv T f 0 [a,v]).length=n
 | .sbm=>∀ v a,u4 a→OU T f [v,a]∧∃ P:Ma.Pt,R3 P (gv T f 0 [v,a])
 | .ptb=>∀ (a:List Int) (P:Ma.Pt),R3 P a→OU T f [a]∧(gv T f 0 [a]).length=32
theorem WX.c4{l:List Int}(h:u4 l):Em γW [(4,.w)] l:=⟨l,[],by simp,h.1,h,rfl⟩
theorem W9{γ:WX→List Int→Prop}{ρe:Bl}{a:List (Bk WX)}{al:List (List (Bk WX))}{ins:List (List Int)}(h:iK γ ρe (a::al) ins):∃ x xs,ins=x::xs∧H6 γ ρe a x∧iK γ ρe al xs:=by
 match ins,h with
 |x::xs,h=>exact⟨x,xs,rfl,h.1,h.2⟩
theorem vM{γ:WX→List Int→Prop}{ρe:Bl}{ins:List (List Int)}(h:iK γ ρe [] ins):ins= []:=by
 match ins,h with
 | [],h=>rfl
theorem KW.sound{T:Tb}{f:Nat}{κ:KW}(hk:κ.Ok T f){o:Nat}{pa:List (List (Bk WX))}{r:List (Nat×WX)}(h:κ.tf o pa=some r){ρe:Bl}{ins:List (List Int)}(hp:iK γW ρe pa ins):OU T f ins∧Em γW r (gv T f o ins):=by
 unfold KW.tf at h
 split at h
 ·rename_i v a
  obtain⟨v,_,rfl,_,hp⟩:=W9 hp;obtain⟨x,_,rfl,hx,hp⟩:=W9 hp
  cases vM hp
  cases hb:gH a with
  |false=>rw[hb] at h;cases h
  |true=>
   rw[hb,cond_true,Am] at h;subst h;have:=hk v x (Zh hx hb);exact⟨this.1,WX.c4 this.2⟩
 ·rename_i v a b
  obtain⟨v,_,rfl,_,hp⟩:=W9 hp;obtain⟨x,_,rfl,hx,hp⟩:=W9 hp;obtain⟨y,_,rfl,hy,hp⟩:=W9 hp
  cases vM hp
  cases hb:(gH a&&gH b) with
  |false=>rw[hb] at h;cases h
  |true=>
   rw[hb,cond_true,Am] at h;subst h;simp only[Bd] at hb;have:=hk v x y (Zh hx hb.1) (Zh hy hb.2);exact⟨this.1,WX.c4 this.2⟩
 ·rename_i n v a
  obtain⟨v,_,rfl,_,hp⟩:=W9 hp;obtain⟨x,_,rfl,hx,hp⟩:=W9 hp
  cases vM hp
  split at h
  ·rename_i m hm
   cases hb:Nat.beq m n with
   |false=>rw[hb] at h;cases h
   |true=>
    rw[hb,cond_true,Am] at h;subst h;have:=CL hb;subst this;obtain⟨g1,g2⟩:=ZV hx hm;have:=hk v x g1 g2;exact⟨this.1,WX.c4 this.2⟩
  ·cases h
 ·rename_i n _ _
  obtain⟨x,_,rfl,_,hp⟩:=W9 hp;obtain⟨y,_,rfl,_,hp⟩:=W9 hp
  cases vM hp
  simp only[Am] at h;subst h;have:=hk x y;exact⟨this.1,_,[],(TL _).symm,this.2,trivial,rfl⟩
 ·rename_i n a v
  obtain⟨x,_,rfl,hx,hp⟩:=W9 hp;obtain⟨y,_,rfl,_,hp⟩:=W9 hp
  cases vM hp
  split at h
  ·rename_i m hm
   cases hb:Nat.beq m n with
   |false=>rw[hb] at h;cases h
   |true=>
    rw[hb,cond_true,Am] at h;subst h;have:=CL hb;subst this;obtain⟨g1,g2⟩:=ZV hx hm;have:=hk x y g1 g2;exact⟨this.1,TF this.2.1 this.2.2⟩
  ·cases h
 ·rename_i v a
  obtain⟨v,_,rfl,_,hp⟩:=W9 hp;obtain⟨x,_,rfl,hx,hp⟩:=W9 hp
  cases vM hp
  cases hb:gH a with
  |false=>rw[hb] at h;cases h
  |true=>
   rw[hb,cond_true,Am] at h;subst h;have:=hk v x (Zh hx hb);obtain⟨P,hP⟩:=this.2;exact⟨this.1,_,[],(TL _).symm,RR.len (r:=.p3) hP,⟨P,hP⟩,rfl⟩
 ·rename_i a
  obtain⟨x,_,rfl,hx,hp⟩:=W9 hp
  cases vM hp
  cases hb:AJ1 a with
  |false=>rw[hb] at h;cases h
  |true=>
   rw[hb,cond_true,Am] at h;subst h;obtain⟨P,hP⟩:=AJA hx hb;have:=hk x P hP;exact⟨this.1,_,[],(TL _).symm,this.2,trivial,rfl⟩
 ·cases h
def opW(op:OP)(pa:List (List (Bk WX))):Option (List (Nat×WX)):=match op,pa with
 | .bin .and .u8,[_,_]=>some [(1,.y)]
 | .bin .or .u8,[_,_]=>some [(1,.y)]
 | .conv .u8,[_]=>some [(1,.y)]
 |_,_=>none
theorem AAf(op:BinOp)(x y:Int):0≤Dl op .u8 x y∧Dl op .u8 x y≤255:=by
 unfold Dl;simp only;rw[SQ (k:=.u8) rfl];have e:(2:Int)^K3 .u8=256:=by decide
 rw[e];generalize ((match op with
  | .and=>BitVec.ofInt IntKind.u8.bits x &&& BitVec.ofInt IntKind.u8.bits y
  | .or=>BitVec.ofInt IntKind.u8.bits x ||| BitVec.ofInt IntKind.u8.bits y
  | .xor=>BitVec.ofInt IntKind.u8.bits x ^^^ BitVec.ofInt IntKind.u8.bits y
  |_=>BitVec.ofInt IntKind.u8.bits x &&& ~~~BitVec.ofInt IntKind.u8.bits y).toNat:Int)=z
 omega
theorem ANk{T:Tb}{op:OP}{pa:List (List (Bk WX))}{r:List (Nat×WX)}(h:opW op pa=some r){ins:List (List Int)}:Em γW r (op.den T ins):=by
 have hb:∀ o:BinOp,∀ z:Int,(0≤z∧z≤255)→Em γW [(1,.y)] [z]:=fun o z hz=>⟨[z],[],rfl,rfl,fun x hx=>by rw[Nc] at hx;subst hx;exact hz,rfl⟩
 unfold opW at h
 split at h
 ·simp only[Am] at h;subst h;exact hb .and _ (AAf .and _ _)
 ·simp only[Am] at h;subst h;exact hb .or _ (AAf .or _ _)
 ·simp only[Am] at h;subst h;refine hb .or _ ?_;rw[SQ (k:=.u8) rfl];have e:(2:Int)^K3 .u8=256:=by decide
  rw[e];omega
 ·cases h
def nK(M:List (Nat×KW)):Tf WX where
 o:=opW
 f f o pa:=match lk f M with
  |some κ=>κ.tf o pa
  |none=>none
 p f pa:=match lk f M with
  |some κ=>(κ.tf 0 pa).isSome
  |none=>false
inductive MW (T:Tb):List (Nat×KW)→Prop where
 |nil:MW T []
 |cons {f:Nat} {κ:KW} {M:List (Nat×KW)}:κ.Ok T f→MW T M→MW T ((f,κ)::M)
theorem MW.get{T:Tb}:∀ {M:List (Nat×KW)},MW T M→∀ {f:Nat} {κ:KW},lk f M=some κ→κ.Ok T f
 |_,.nil,f,κ,h=>by cases h
 | _,.cons (f:=g) h1 h2,f,κ,h=>by
  simp only[lk] at h
  cases hb:Nat.beq g f with
  |true=>
   rw[hb,cond_true,Am] at h;have:=CL hb;subst this;subst h;exact h1
  |false=>rw[hb] at h;exact h2.get h
theorem uw{T:Tb}{M:List (Nat×KW)}(hM:MW T M):fT γW T (nK M) where
 o op pa r h ρe ins _:=ANk h
 f f o pa r h ρe ins hp:=by
  simp only[nK] at h
  split at h
  ·rename_i κ hk;exact (KW.sound (hM.get hk) h hp).2
  ·cases h
 p f pa h ρe ins hp:=by
  simp only[nK] at h
  split at h
  ·rename_i κ hk
   obtain⟨r,hr⟩:=Option.isSome_iff_exists.1 h;exact (KW.sound (hM.get hk) hr hp).1.pre
  ·cases h
theorem wFn{M:List (Nat×KW)}{i:AQ}{C:Cx}{bin:List (Option (List (Nat×WX)))}(hM:MW C.T M)(h:Ow (nK M) Zg i C bin=some [[.a 4 .w]]){ins:List (List Int)}(hin:fK γW bin ins):
  Cn C.T (i.tree C) (A8 ins)∧u4 (i.raw C 0 ins):=by
 have hh:=TE γW (uw hM) (fun ds=>WB ds) h hin.get;refine⟨hh.1,?_⟩;obtain⟨ρe,_,h3⟩:=hh.2;obtain⟨u,w,h1,h2,h4⟩:=h3 0 _ rfl;have hw:w= []:=h4;rw[hw,TL] at h1;rw[h1];exact h2.2
theorem wOk{T:Tb}{f:Nat}{M:List (Nat×KW)}{i:AQ}{C:Cx}{bin:List (Option (List (Nat×WX)))}(hs:lk f T=some (.one (i.sumP C)))(ho:(i.sumP C).pr 0= .l fun a=>Aw 4 (i.raw C 0 a))(hM:MW C.T M)(h:Ow (nK M) Zg i C bin=some [[.a 4 .w]]){ins:List (List Int)}(hin:fK γW bin ins):
  OU T f ins∧u4 (gv T f 0 ins):=by
 have hh:=wFn hM h hin;refine⟨⟨⟨_,hs,hh.1⟩⟩,?_⟩;have e:gv T f 0 ins=i.raw C 0 ins:=by
  simp only[gv,OP.den,hs];show ((i.sumP C).pr 0).den ins=_;rw[ho];exact Au hh.2.1
 rw[e];exact hh.2
theorem wEv{M:List (Nat×KW)}{i:AQ}{C:Cx}{bin:List (Option (List (Nat×WX)))}(hM:MW C.T M)(h:(Ow (nK M) Zg i C bin).isSome=true){ins:List (List Int)}(hin:fK γW bin ins):Cn C.T (i.tree C) (A8 ins):=by
 obtain⟨r,hr⟩:=Option.isSome_iff_exists.1 h;exact (TE γW (uw hM) (fun ds=>WB ds) hr hin.get).1
theorem wBp{T:Tb}{f n:Nat}{i:AQ}{C:Cx}(hs:lk f T=some (.one (i.sum C)))(ho:(i.sum C).pr 0= .l fun a=>Aw n (i.raw C 0 a))(h:Ow (nK []) Zg i C [some (WL n),none]=some [List.replicate n (.a 1 .y)]):KW.Ok T f (.bp n):=fun a v ha hl=>by
 have hh:=TE (ins:=[a,v]) γW (uw .nil) (fun ds=>WB ds) h (fK.get (.yes (TF ha hl) (.no .nil)));obtain⟨ρe,_,h3⟩:=hh.2;have h4:=h3 0 _ rfl;have key:∀ {m:Nat} {l:List Int},H6 γW ρe (List.replicate m (.a 1 .y)) l→by8 l∧l.length=m:=by
  intro m
  induction m with
  |zero=>intro l h;rw[show l= [] from h];exact⟨fun x hx=>(by cases hx),rfl⟩
  |succ m ih=>
   intro l ⟨u,w,h1,h2,h3⟩
   obtain⟨g1,g2⟩:=ih h3;rw[h1];exact⟨mY h2.2 g1,by rw[K6,h2.1,g2];omega⟩
 obtain⟨g1,g2⟩:=key h4;refine⟨⟨⟨_,hs,trivial⟩⟩,?_⟩;have e:gv T f 0 [a,v]=i.raw C 0 [a,v]:=by
  simp only[gv,OP.den,hs];show ((i.sum C).pr 0).den [a,v]=_;rw[ho];exact Au g2
 rw[e];exact⟨g1,g2⟩
end Go.Proofs.YtloibefkijfdlaaGreatDoor
