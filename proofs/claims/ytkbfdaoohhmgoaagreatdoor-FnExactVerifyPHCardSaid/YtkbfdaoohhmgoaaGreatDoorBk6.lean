/- A walk that knows ranges alone: four words, bytes. -/
import Derived.Test.YtkbfdaoohhmgoaaGreatDoorSc
namespace Go.Proofs.YtkbfdaoohhmgoaaGreatDoor
open Go
inductive WX where
 |w
 |y
 |r3
 |any
def γW:WX->List Int->Prop
 | .w,l=>u4 l
 | .y,l=>cI l
 | .r3,l=>∃P:Ma.Pt,R3 P l
 | .any,_=>True
def AAd(c:Int):Bool:=Bl 0 c&&Bl c 18446744073709551615
def dB:List (Bk WX)->Bool
 | [.a _ .w]=>true
 | [.lit a,.lit b,.lit c,.lit d]=>AAd a&&AAd b&&AAd c&&AAd d
 |_=>false
theorem Yp{c:Int}(h:AAd c=true):0<=c/\c<=18446744073709551615:=by
 simp only[AAd,Bj] at h;exact⟨A8 h.1,A8 h.2⟩
theorem YU{ρ:Bu}{b:List (Bk WX)}{l:List Int}(h:GK γW ρ b l)(hb:dB b=true):u4 l:=by
 unfold dB at hb;split at hb
 ·obtain⟨u,w,h1,h2,h3⟩:=h;have hw:w= []:=h3;rw[hw,RD] at h1;subst h1;exact h2.2
 ·rename_i a b c d;simp only[Bj] at hb;obtain⟨u1,w1,h1,h2,u2,w2,h3,h4,u3,w3,h5,h6,u4',w4,h7,h8,h9⟩:=h;have h9:w4= []:=h9;have h2:u1= [a]:=h2;have h4:u2= [b]:=h4;have h6:u3= [c]:=h6;have h8:u4'= [d]:=h8;rw[h1,h3,h5,h7,h9,h2,h4,h6,h8];refine⟨rfl,λk hk=>?_⟩
  match k,hk with
  |0,_=>exact Yp hb.1.1.1
  |1,_=>exact Yp hb.1.1.2
  |2,_=>exact Yp hb.1.2
  |3,_=>exact Yp hb.2
 ·cases hb
def nY:List (Bk WX)->Option Nat
 | []=>some 0
 | .a n .y::r=>(match nY r with
  |some m=>some (n+m)
  |none=>none)
 | .lit c::r=>bif Bl 0 c&&Bl c 255 then(match nY r with
  |some m=>some (1+m)
  |none=>none) else none
 |_=>none
theorem yI{a b:List Int}(ha:cI a)(hb:cI b):cI (a++b):=λx hx=>by
 rcases qM.1 hx with h|h
 ·exact ha x h
 ·exact hb x h
theorem Yk{ρ:Bu}:∀ {b:List (Bk WX)} {l:List Int} {n:Nat},GK γW ρ b l->nY b=some n->cI l/\l.length=n
 | [],l,n,h,hb=>by
  simp only[nY,Ai] at hb;subst hb;rw[show l= [] from h];exact⟨λx hx=>(by cases hx),rfl⟩
 | .a m .y::r,l,n,⟨u,w,h1,h2,h3⟩,hb=>by
  unfold nY at hb;split at hb
  ·rename_i k hk;simp only[Ai] at hb;subst hb;obtain⟨g1,g2⟩:=Yk h3 hk;rw[h1];exact⟨yI h2.2 g1,by rw[NC,h2.1,g2]⟩
  ·cases hb
 | .lit c::r,l,n,⟨u,w,h1,h2,h3⟩,hb=>by
  unfold nY at hb;cases hc:(Bl 0 c&&Bl c 255) with
  |false=>rw[hc] at hb;cases hb
  | true=>
   rw[hc,cond_true] at hb;simp only[Bj] at hc;split at hb
   ·rename_i k hk;simp only[Ai] at hb;subst hb;obtain⟨g1,g2⟩:=Yk h3 hk;have h2:u= [c]:=h2;rw[h1,h2];refine⟨yI (λx hx=>?_) g1,by rw[NC,g2];rfl⟩;rw[NU] at hx;subst hx;exact⟨A8 hc.1,A8 hc.2⟩
   ·cases hb
 | .a _ .w::_,_,_,_,hb=>by cases hb
 | .a _ .r3::_,_,_,_,hb=>by cases hb
 | .a _ .any::_,_,_,_,hb=>by cases hb
 | .sx _::_,_,_,_,hb=>by cases hb
 | .vec _::_,_,_,_,hb=>by cases hb
inductive KW where
 |w1
 |w2
 |yn (n:Nat)
 |an2 (n:Nat)
 |bp (n:Nat)
 |sbm
 |ptb
def AI4:List (Bk WX)->Bool
 | [.a _ .r3]=>true
 |_=>false
theorem AIs{ρ:Bu}{b:List (Bk WX)}{l:List Int}(h:GK γW ρ b l)(hb:AI4 b=true):∃P:Ma.Pt,R3 P l:=by
 unfold AI4 at hb;split at hb
 ·obtain⟨u,w,h1,h2,h3⟩:=h;have hw:w= []:=h3;rw[hw,RD] at h1;subst h1;exact h2.2
 ·cases hb
def ABn(n:Nat):List (Nat×WX):=List.replicate n (1,.y)
theorem Vz:∀ {n:Nat} {l:List Int},cI l->l.length=n->Fw γW (ABn n) l
 |0,l,_,hl=>HW hl
 |n+1,[],_,hl=>by cases hl
 |n+1,x::l,h,hl=>⟨[x],l,rfl,rfl,λy hy=>by rw[NU] at hy;subst hy;exact h y Jv,Vz (λy hy=>h y (MN _ hy)) (by simpa using hl)⟩
def KW.tf:KW->Nat->List (List (Bk WX))->Option (List (Nat×WX))
 | .w1,0,[_,a]=>bif dB a then some [(4,.w)] else none
 | .w2,0,[_,a,b]=>bif dB a&&dB b then some [(4,.w)] else none
 | .yn n,0,[_,a]=>(match nY a with
  |some m=>bif Nat.beq m n then some [(4,.w)] else none
  |none=>none)
 | .an2 n,0,[_,_]=>some [(n,.any)]
 | .bp n,0,[a,_]=>(match nY a with
  |some m=>bif Nat.beq m n then some (ABn n) else none
  |none=>none)
 | .sbm,0,[_,a]=>bif dB a then some [(20,.r3)] else none
 | .ptb,0,[a]=>bif AI4 a then some [(32,.any)] else none
 |_,_,_=>none
def KW.Ok(T:Tb)(f:Nat):KW->Prop
 | .w1=>∀v a,u4 a->NB T f [v,a]/\u4 (gv T f 0 [v,a])
 | .w2=>∀v a b,u4 a->u4 b->NB T f [v,a,b]/\u4 (gv T f 0 [v,a,b])
 | .yn n=>∀v a,cI a->a.length=n->NB T f [v,a]/\u4 (gv T f 0 [v,a])
 | .an2 n=>∀a b,NB T f [a,b]/\(gv T f 0 [a,b]).length=n
 | .bp n=>∀a v,cI a->a.length=n->NB T f [a,v]/\cI (gv T f 0 [a,v])/\(gv T f 0 [a,v]).length=n
 | .sbm=>∀v a,u4 a->NB T f [v,a]/\∃P:Ma.Pt,R3 P (gv T f 0 [v,a])
 | .ptb=>∀(a:List Int) (P:Ma.Pt),R3 P a->NB T f [a]/\(gv T f 0 [a]).length=32
theorem WX.c4{l:List Int}(h:u4 l):Fw γW [(4,.w)] l:=⟨l,[],by simp,h.1,h,rfl⟩
theorem WF{γ:WX->List Int->Prop}{ρe:Bu}{a:List (Bk WX)}{al:List (List (Bk WX))}{ins:List (List Int)}(h:fU γ ρe (a::al) ins):∃x xs,ins=x::xs/\GK γ ρe a x/\fU γ ρe al xs:=by
 match ins,h with
 |x::xs,h=>exact⟨x,xs,rfl,h.1,h.2⟩
theorem uw{γ:WX->List Int->Prop}{ρe:Bu}{ins:List (List Int)}(h:fU γ ρe [] ins):ins= []:=by
 match ins,h with
 | [],h=>rfl
theorem KW.sound{T:Tb}{f:Nat}{κ:KW}(hk:κ.Ok T f){o:Nat}{pa:List (List (Bk WX))}{r:List (Nat×WX)}(h:κ.tf o pa=some r){ρe:Bu}{ins:List (List Int)}(hp:fU γW ρe pa ins):NB T f ins/\Fw γW r (gv T f o ins):=by
 unfold KW.tf at h;split at h
 ·rename_i v a;obtain⟨v,_,rfl,_,hp⟩:=WF hp;obtain⟨x,_,rfl,hx,hp⟩:=WF hp;cases uw hp;cases hb:dB a with
  |false=>rw[hb] at h;cases h
  |true=>
   rw[hb,cond_true,Ai] at h;subst h;have:=hk v x (YU hx hb);exact⟨this.1,WX.c4 this.2⟩
 ·rename_i v a b;obtain⟨v,_,rfl,_,hp⟩:=WF hp;obtain⟨x,_,rfl,hx,hp⟩:=WF hp;obtain⟨y,_,rfl,hy,hp⟩:=WF hp;cases uw hp;cases hb:(dB a&&dB b) with
  |false=>rw[hb] at h;cases h
  |true=>
   rw[hb,cond_true,Ai] at h;subst h;simp only[Bj] at hb;have:=hk v x y (YU hx hb.1) (YU hy hb.2);exact⟨this.1,WX.c4 this.2⟩
 ·rename_i n v a;obtain⟨v,_,rfl,_,hp⟩:=WF hp;obtain⟨x,_,rfl,hx,hp⟩:=WF hp;cases uw hp;split at h
  ·rename_i m hm;cases hb:Nat.beq m n with
   |false=>rw[hb] at h;cases h
   |true=>
    rw[hb,cond_true,Ai] at h;subst h;have:=Ca hb;subst this;obtain⟨g1,g2⟩:=Yk hx hm;have:=hk v x g1 g2;exact⟨this.1,WX.c4 this.2⟩
  ·cases h
 ·rename_i n _ _;obtain⟨x,_,rfl,_,hp⟩:=WF hp;obtain⟨y,_,rfl,_,hp⟩:=WF hp;cases uw hp;simp only[Ai] at h;subst h;have:=hk x y;exact⟨this.1,_,[],(RD _).symm,this.2,trivial,rfl⟩
 ·rename_i n a v;obtain⟨x,_,rfl,hx,hp⟩:=WF hp;obtain⟨y,_,rfl,_,hp⟩:=WF hp;cases uw hp;split at h
  ·rename_i m hm;cases hb:Nat.beq m n with
   |false=>rw[hb] at h;cases h
   |true=>
    rw[hb,cond_true,Ai] at h;subst h;have:=Ca hb;subst this;obtain⟨g1,g2⟩:=Yk hx hm;have:=hk x y g1 g2;exact⟨this.1,Vz this.2.1 this.2.2⟩
  ·cases h
 ·rename_i v a;obtain⟨v,_,rfl,_,hp⟩:=WF hp;obtain⟨x,_,rfl,hx,hp⟩:=WF hp;cases uw hp;cases hb:dB a with
  |false=>rw[hb] at h;cases h
  |true=>
   rw[hb,cond_true,Ai] at h;subst h;have:=hk v x (YU hx hb);obtain⟨P,hP⟩:=this.2;exact⟨this.1,_,[],(RD _).symm,RR.len (r:=.p3) hP,⟨P,hP⟩,rfl⟩
 ·rename_i a;obtain⟨x,_,rfl,hx,hp⟩:=WF hp;cases uw hp;cases hb:AI4 a with
  |false=>rw[hb] at h;cases h
  |true=>
   rw[hb,cond_true,Ai] at h;subst h;obtain⟨P,hP⟩:=AIs hx hb;have:=hk x P hP;exact⟨this.1,_,[],(RD _).symm,this.2,trivial,rfl⟩
 ·cases h
def opW(op:NR)(pa:List (List (Bk WX))):Option (List (Nat×WX)):=match op,pa with
 | .bin .and .u8,[_,_]=>some [(1,.y)]
 | .bin .or .u8,[_,_]=>some [(1,.y)]
 | .conv .u8,[_]=>some [(1,.y)]
 |_,_=>none
theorem xV(op:BinOp)(x y:Int):0<=Es op .u8 x y/\Es op .u8 x y<=255:=by
 unfold Es;simp only;rw[JZ (k:=.u8) rfl];have e:(2:Int)^JA .u8=256:=by decide
 rw[e];generalize ((match op with
  | .and=>BitVec.ofInt IntKind.u8.bits x &&& BitVec.ofInt IntKind.u8.bits y
  | .or=>BitVec.ofInt IntKind.u8.bits x ||| BitVec.ofInt IntKind.u8.bits y
  | .xor=>BitVec.ofInt IntKind.u8.bits x ^^^ BitVec.ofInt IntKind.u8.bits y
  |_=>BitVec.ofInt IntKind.u8.bits x &&& ~~~BitVec.ofInt IntKind.u8.bits y).toNat:Int)=z
 omega
theorem ANC{T:Tb}{op:NR}{pa:List (List (Bk WX))}{r:List (Nat×WX)}(h:opW op pa=some r){ins:List (List Int)}:Fw γW r (op.den T ins):=by
 have hb:∀o:BinOp,∀z:Int,(0<=z/\z<=255)->Fw γW [(1,.y)] [z]:=λo z hz=>⟨[z],[],rfl,rfl,λx hx=>by rw[NU] at hx;subst hx;exact hz,rfl⟩
 unfold opW at h;split at h
 ·simp only[Ai] at h;subst h;exact hb .and _ (xV .and _ _)
 ·simp only[Ai] at h;subst h;exact hb .or _ (xV .or _ _)
 ·simp only[Ai] at h;subst h;refine hb .or _ ?_;rw[JZ (k:=.u8) rfl];have e:(2:Int)^JA .u8=256:=by decide
  rw[e];omega
 ·cases h
def tfW(M:List (Nat×KW)):Tf WX where
 o:=opW
 f f o pa:=match lk f M with
  |some κ=>κ.tf o pa
  |none=>none
 p f pa:=match lk f M with
  |some κ=>(κ.tf 0 pa).isSome
  |none=>false
inductive MW (T:Tb):List (Nat×KW)->Prop where
 |nil:MW T []
 |cons {f:Nat} {κ:KW} {M:List (Nat×KW)}:κ.Ok T f->MW T M->MW T ((f,κ)::M)
theorem MW.get{T:Tb}:∀ {M:List (Nat×KW)},MW T M->∀ {f:Nat} {κ:KW},lk f M=some κ->κ.Ok T f
 |_,.nil,f,κ,h=>by cases h
 | _,.cons (f:=g) h1 h2,f,κ,h=>by
  simp only[lk] at h;cases hb:Nat.beq g f with
  |true=>
   rw[hb,cond_true,Ai] at h;have:=Ca hb;subst this;subst h;exact h1
  |false=>rw[hb] at h;exact h2.get h
theorem AON{T:Tb}{M:List (Nat×KW)}(hM:MW T M):cu γW T (tfW M) where
 o op pa r h ρe ins _:=ANC h
 f f o pa r h ρe ins hp:=by
  simp only[tfW] at h;split at h
  ·rename_i κ hk;exact(KW.sound (hM.get hk) h hp).2
  ·cases h
 p f pa h ρe ins hp:=by
  simp only[tfW] at h;split at h
  ·rename_i κ hk;obtain⟨r,hr⟩:=Option.isSome_iff_exists.1 h;exact(KW.sound (hM.get hk) hr hp).1.pre
  ·cases h
theorem wFn{M:List (Nat×KW)}{i:Ac}{C:Cx}{bin:List (Option (List (Nat×WX)))}(hM:MW C.T M)(h:WG (tfW M) C2 i C bin=some [[.a 4 .w]]){ins:List (List Int)}(eE:qp γW bin ins):
  Cv C.T (i.tree C) (BK ins)/\u4 (i.raw C 0 ins):=by
 have hh:=V5 γW (AON hM) (λds=>Z5 ds) h eE.get;refine⟨hh.1,?_⟩;obtain⟨ρe,_,h3⟩:=hh.2;obtain⟨u,w,h1,h2,h4⟩:=h3 0 _ rfl;have hw:w= []:=h4;rw[hw,RD] at h1;rw[h1];exact h2.2
theorem wOk{T:Tb}{f:Nat}{M:List (Nat×KW)}{i:Ac}{C:Cx}{bin:List (Option (List (Nat×WX)))}(hs:lk f T=some (.one (i.cQ C)))(ho:(i.cQ C).pr 0= .l λa=>BF 4 (i.raw C 0 a))(hM:MW C.T M)(h:WG (tfW M) C2 i C bin=some [[.a 4 .w]]){ins:List (List Int)}(eE:qp γW bin ins):
  NB T f ins/\u4 (gv T f 0 ins):=by
 have hh:=wFn hM h eE;refine⟨⟨⟨_,hs,hh.1⟩⟩,?_⟩;have e:gv T f 0 ins=i.raw C 0 ins:=by
  simp only[gv,NR.den,hs];show((i.cQ C).pr 0).den ins=_;rw[ho];exact Ay hh.2.1
 rw[e];exact hh.2
end Go.Proofs.YtkbfdaoohhmgoaaGreatDoor
