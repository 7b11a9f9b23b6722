/- A walk over trees of calls: what is known of a list is told block by block. -/
import Derived.Test.YtloibefkijfdlaaGreatDoorCa
namespace Go.Proofs.YtloibefkijfdlaaGreatDoor
section
open Go
inductive Bk (A:Type) where
 |a (n:Nat) (x:A)
 |lit (c:Int)
 |sx (v:X)
 |vec (j:Nat)
section
variable{A:Type}(γ:A→List Int→Prop)
def Bk.ok(ρ:Bl):Bk A→List Int→Prop
 | .a n y,l=>l.length=n∧γ y l
 | .lit c,l=>l= [c]
 | .sx v,l=>l= [v.den ρ]
 | .vec j,l=>l=ρ j
def H6(ρ:Bl):List (Bk A)→List Int→Prop
 | [],l=>l= []
 |b::bs,l=>∃ u w,l=u++w∧b.ok γ ρ u∧H6 ρ bs w
def Em:List (Nat×A)→List Int→Prop
 | [],l=>l= []
 |(n,x)::bs,l=>∃ u w,l=u++w∧u.length=n∧γ x u∧Em bs w
def AEU(bs:List (Nat×A)):List (Bk A):=bs.map fun p=>.a p.1 p.2
theorem Em.bk{ρ:Bl}:∀ {bs:List (Nat×A)} {l:List Int},Em γ bs l→H6 γ ρ (AEU bs) l
 | [],_l,h=>h
 |(_n,_x)::_bs,_l,⟨u,w,h1,h2,h3,h4⟩=>⟨u,w,h1,⟨h2,h3⟩,Em.bk h4⟩
abbrev BS (A:Type):=List (Nat×List (Nat×A))
def Xg(ρ:Bl)(s:BS A):Prop:=∀ i bs,lk i s=some bs→Em γ bs (ρ i)
def ym:List (Nat×A)→Nat→Option (Nat×A)
 | [],_=>none
 |(n,x)::r,k=>bif Nat.beq k 0 then some (n,x) else bif Nat.ble n k then ym r (k-n) else none
theorem ql:∀ {bs:List (Nat×A)} {k n:Nat} {x:A} {l:List Int},Em γ bs l→ym bs k=some (n,x)→∃ p u q,l=p++u++q∧p.length=k∧u.length=n∧γ x u
 | [],k,n,x,l,_,h=>by cases h
 | (m,y)::r,k,n,x,l,⟨u,w,h1,h2,h3,h4⟩,h=>by
  unfold ym at h
  cases hb:Nat.beq k 0 with
  |true=>
   rw[hb,cond_true,Am,Prod.mk.injEq] at h;obtain⟨rfl,rfl⟩:=h;exact⟨[],u,w,by rw[h1];rfl,(CL hb).symm,h2,h3⟩
  | false=>
   rw[hb,cond_false] at h
   cases hc:Nat.ble m k with
   |false=>rw[hc] at h;cases h
   |true=>
    rw[hc,cond_true] at h;obtain⟨p,v,q,g1,g2,g3,g4⟩:=ql h4 h;have:=Na hc;exact⟨u++p,v,q,by rw[h1,g1];simp,by simp;omega,g3,g4⟩
def OE (s:BS A):Nat→List X→Option (List (Bk A))
 |_,[]=>some []
 |0,_::_=>none
 |f+1,.lit c::r=>(match OE s f r with
  |some bs=>some (.lit c::bs)
  |none=>none)
 |f+1,.v i k::r=>(match (match lk i s with
  |some bs=>ym bs k
  |none=>none) with
  | some (n+1,x)=>bif Qd i (k+1) (r.take n)&&Nat.beq (r.take n).length n then (match OE s f (r.drop n) with
    |some bs=>some (.a (n+1) x::bs)
    |none=>none) else (match OE s f r with
    |some bs=>some (.sx (.v i k)::bs)
    |none=>none)
  | _=>(match OE s f r with
    |some bs=>some (.sx (.v i k)::bs)
    |none=>none))
theorem ZU{ρ:Bl}{i:Nat}:∀ {l:List X} {k:Nat},Qd i k l=true→l.map (·.den ρ)=(List.range l.length).map fun j=>(ρ i).getD (k+j) 0
 | [],k,_=>rfl
 | .lit _::_,_,h=>by cases h
 | .v j m::r,k,h=>by
  simp only[Qd,Bd] at h;have e1:=CL h.1.1;have e2:=CL h.1.2;subst e1;subst e2;rw[NT,ZU h.2,Oq,List.range_succ_eq_map,NT,List.map_map]
  congr 1
  apply fU
  intro j _
  simp only[Function.comp]
  congr 1;omega
theorem AI2{p u q:List Int}:(List.range u.length).map (fun j=>(p++u++q).getD (p.length+j) 0)=u:=by
 apply List.ext_getElem (by simp)
 intro j h1 h2
 simp only[List.getElem_map,List.getElem_range];rw[List.getD,YY,mH (by omega),Nat.add_sub_cancel_left,gI h2,Jo h2];rfl
theorem QU{ρ:Bl}{s:BS A}(hs:Xg γ ρ s):∀ (f:Nat) (l:List X) (bs:List (Bk A)),OE s f l=some bs→H6 γ ρ bs (l.map (·.den ρ))
 |_,[],bs,h=>by unfold OE at h;simp only[Am] at h;subst h;rfl
 |0,_::_,bs,h=>by simp[OE] at h
 | f+1,.lit c::r,bs,h=>by
  unfold OE at h
  split at h
  ·rename_i bs' hr
   simp only[Am] at h;subst h;exact⟨[c],_,rfl,rfl,QU hs f r bs' hr⟩
  ·cases h
 | f + 1,.v i k::r,bs,h=>by
  have one:∀ bs',OE s f r=some bs'→H6 γ ρ (.sx (.v i k)::bs') ((X.v i k::r).map (·.den ρ)):=fun bs' hr=>⟨[_],_,rfl,rfl,QU hs f r bs' hr⟩
  have one':(match OE s f r with
    |some bs=>some (.sx (.v i k)::bs)
    |none=>none)=some bs→H6 γ ρ bs ((X.v i k::r).map (·.den ρ)):=fun h=>by
   split at h
   ·rename_i bs' hr
    simp only[Am] at h;subst h;exact one bs' hr
   ·cases h
  unfold OE at h
  split at h
  ·rename_i n x hx
   cases hb:(Qd i (k+1) (r.take n)&&Nat.beq (r.take n).length n) with
   |false=>rw[hb,cond_false] at h;exact one' h
   | true=>
    rw[hb,cond_true] at h;simp only[Bd] at hb;have hlen:=CL hb.2
    split at h
    ·rename_i bs' hr
     simp only[Am] at h;subst h
     split at hx
     ·rename_i bl hbl
      obtain⟨p,u,q,h1,h2,h3,h4⟩:=ql γ (hs i bl hbl) hx;refine⟨u,(r.drop n).map (·.den ρ),?_,⟨h3,h4⟩,QU hs f _ bs' hr⟩;have e1:(X.v i k::r.take n).map (·.den ρ)=u:=by
       have:=ZU (ρ:=ρ) (i:=i) (l:=X.v i k::r.take n) (k:=k) (by simp[Qd,hb.1]);rw[this,Oq,hlen,h1, ← h2,show n+1=u.length from h3.symm];exact AI2
      rw[← e1, ← List.map_append];simp
     ·cases hx
    ·cases h
  ·exact one' h
def wO(s:BS A):Iq→Option (List (Bk A))
 | .vec j=>some (match lk j s with
  |some bs=>AEU bs
  |none=>[.vec j])
 | .xs l=>OE s l.length l
theorem ABG{ρ:Bl}{s:BS A}(hs:Xg γ ρ s){a:Iq}{bs:List (Bk A)}(h:wO s a=some bs):H6 γ ρ bs (a.den ρ):=by
 cases a with
 |vec j=>
  simp only[wO,Am] at h;subst h
  split
  ·rename_i bl hbl;exact Em.bk γ (hs j bl hbl)
  ·exact⟨ρ j,[],by simp[Iq.den],rfl,rfl⟩
 |xs l=>exact QU γ hs _ _ _ h
def Uv(s:BS A):List Iq→Option (List (List (Bk A)))
 | []=>some []
 |a::r=>match wO s a,Uv s r with
  |some b,some bs=>some (b::bs)
  |_,_=>none
def iK(ρ:Bl):List (List (Bk A))→List (List Int)→Prop
 | [],[]=>True
 |b::bs,l::ls=>H6 γ ρ b l∧iK ρ bs ls
 |_,_=>False
theorem WJ{ρ:Bl}{s:BS A}(hs:Xg γ ρ s):∀ {as:List Iq} {bs:List (List (Bk A))},Uv s as=some bs→iK γ ρ bs (as.map (·.den ρ))
 | [],bs,h=>by simp only[Uv,Am] at h;subst h;trivial
 | a::r,bs,h=>by
  unfold Uv at h
  split at h
  ·rename_i b bs' h1 h2
   simp only[Am] at h;subst h;exact⟨ABG γ hs h1,WJ hs h2⟩
  ·cases h
structure Tf (A:Type) where
 f:Nat→Nat→List (List (Bk A))→Option (List (Nat×A))
 o:OP→List (List (Bk A))→Option (List (Nat×A))
 p:Nat→List (List (Bk A))→Bool
structure fT (T:Tb) (t:Tf A):Prop where
 f:∀ f o pa r,t.f f o pa=some r→∀ ρ ins,iK γ ρ pa ins→Em γ r (OP.den T (.fn f true o) ins)
 o:∀ op pa r,t.o op pa=some r→∀ ρ ins,iK γ ρ pa ins→Em γ r (OP.den T op ins)
 p:∀ f pa,t.p f pa=true→∀ ρ ins,iK γ ρ pa ins→∃ s,lk f T=some s∧(s.sel true).pre ins
def Tf.op(t:Tf A)(op:OP)(pa:List (List (Bk A))):Option (List (Nat×A)):=match op with
 | .fn f true o=>t.f f o pa
 |op=>t.o op pa
def ACR(t:Tf A)(s:BS A)(n:Nat)(d:FR):BS A:=match Uv s d.args with
 |some pa=>(match t.op d.op pa with
  |some r=>(n,r)::s
  |none=>s)
 |none=>s
def eO(t:Tf A):BS A→List (Nat×FR)→BS A
 |s,[]=>s
 |s,(n,d)::r=>eO t (ACR t s n d) r
theorem Tf.op_ok{T:Tb}{t:Tf A}(ht:fT γ T t){op:OP}{pa:List (List (Bk A))}{r:List (Nat×A)}(h:t.op op pa=some r){ρ:Bl}{ins:List (List Int)}(hp:iK γ ρ pa ins):Em γ r (op.den T ins):=by
 unfold Tf.op at h
 split at h
 ·exact ht.f _ _ pa r h ρ ins hp
 ·exact ht.o _ pa r h ρ ins hp
theorem ACY{T:Tb}{t:Tf A}(ht:fT γ T t){ρ:Bl}{s:BS A}(hs:Xg γ ρ s){n:Nat}{d:FR}(hn:ρ n=d.den T ρ):Xg γ ρ (ACR t s n d):=by
 unfold ACR
 split
 ·rename_i pa hpa
  split
  ·rename_i r hr
   intro i bs hi
   simp only[lk] at hi
   cases hb:Nat.beq n i with
   |true=>
    rw[hb,cond_true,Am] at hi;have:=CL hb;subst this;subst hi;have:=Tf.op_ok γ ht hr (WJ γ hs hpa);rw[hn,FR.den];exact this
   |false=>rw[hb,cond_false] at hi;exact hs i bs hi
  ·exact hs
 ·exact hs
theorem di{T:Tb}{t:Tf A}(ht:fT γ T t){ρ:Bl}:∀ {ds:List (Nat×FR)} {s:BS A},Xg γ ρ s→VJ T ρ ds→Xg γ ρ (eO t s ds)
 | [],s,hs,_=>hs
 |(n,d)::r,s,hs,hd=>by
  unfold eO;exact di ht (ACY γ ht hs (hd (n,d) LA)) (fun p hp=>hd p (MQ _ hp))
def ABs(t:Tf A)(oth:BS A→JM→Bool)(s:BS A):JM→Bool
 | .pre f as=>(match Uv s as with
  |some pa=>t.p f pa
  |none=>false)
 |q=>oth s q
def nL(T:Tb)(ds:List (Nat×FR))(oth:BS A→JM→Bool):Prop:=∀ ρ s q,VJ T ρ ds→Xg γ ρ s→oth s q=true→q.den T ρ
theorem AAY{T:Tb}{t:Tf A}(ht:fT γ T t){ds:List (Nat×FR)}{oth:BS A→JM→Bool}(ho:nL γ T ds oth){ρ:Bl}{s:BS A}(hd:VJ T ρ ds)(hs:Xg γ ρ s){q:JM}(h:ABs t oth s q=true):q.den T ρ:=by
 unfold ABs at h
 split at h
 ·rename_i f as
  split at h
  ·rename_i pa hpa
   obtain⟨fe,h1,h2⟩:=ht.p f pa h ρ _ (WJ γ hs hpa);simp only[JM.den,h1];exact h2
  ·cases h
 ·exact ho ρ s q hd hs h
def YW:Nat→List (Option (List (Nat×A)))→BS A
 |_,[]=>[]
 |j,none::r=>YW (j+1) r
 |j,some b::r=>(j,b)::YW (j+1) r
theorem XV:∀ {l:List (Option (List (Nat×A)))} {j i:Nat} {bs:List (Nat×A)},lk i (YW j l)=some bs→∃ k,i=j+k∧l[k]? = some (some bs)
 | [],j,i,bs,h=>by simp[YW,lk] at h
 |none::r,j,i,bs,h=>by
  simp only[YW] at h;obtain⟨k,h1,h2⟩:=XV h;exact⟨k+1,by omega,by simpa using h2⟩
 | some b::r,j,i,bs,h=>by
  simp only[YW,lk] at h
  cases hb:Nat.beq j i with
  |true=>
   rw[hb,cond_true,Am] at h;have:=CL hb;exact⟨0,by omega,by rw[← h];rfl⟩
  |false=>
   rw[hb,cond_false] at h;obtain⟨k,h1,h2⟩:=XV h;exact⟨k+1,by omega,by simpa using h2⟩
def Um(s:BS A):TP→Option (List (List (Bk A)))
 | []=>some []
 |e::r=>match OE s e.1.length e.1,Um s r with
  |some b,some bs=>some (b::bs)
  |_,_=>none
def Ow(t:Tf A)(oth:List (Nat×FR)→BS A→JM→Bool)(i:AQ)(C:Cx)(bin:List (Option (List (Nat×A)))):Option (List (List (Bk A))):=
 match gQ (i.tree C) with
 | some (ds,ob,_e,st)=>bif Lp i.s0.params.length (i.tree C)&&Nat.beq bin.length i.s0.params.length then
   (let s:=eO t (YW 0 bin) ds
     bif ob.all (ABs t (oth ds) s) then (match Lr C i.s0 i.rvs st with
   |some es=>Um s es
   |none=>none) else none) else none
 |none=>none
theorem UD{s:BS A}:∀ {es:TP} {r:List (List (Bk A))},Um s es=some r→∀ (k:Nat) (b:List (Bk A)),r[k]? = some b→∃ e,es[k]? = some e∧OE s e.1.length e.1=some b
 | [],r,h,k,b,hk=>by simp only[Um,Am] at h;subst h;simp at hk
 | e::es,r,h,k,b,hk=>by
  unfold Um at h
  split at h
  ·rename_i b0 bs h1 h2
   simp only[Am] at h;subst h
   cases k with
   |zero=>simp only[VT,Am] at hk;subst hk;exact⟨e,rfl,h1⟩
   |succ k=>
    obtain⟨e',g1,g2⟩:=UD h2 k b (by simpa using hk);exact⟨e',by simpa using g1,g2⟩
  ·cases h
theorem TE{t:Tf A}{oth:List (Nat×FR)→BS A→JM→Bool}{i:AQ}{C:Cx}{bin:List (Option (List (Nat×A)))}{r:List (List (Bk A))}(ht:fT γ C.T t)(ho:∀ ds,nL γ C.T ds (oth ds))(h:Ow t oth i C bin=some r){ins:List (List Int)}(hb:∀ (j:Nat) (b:List (Nat×A)),bin[j]? = some (some b)→Em γ b (ins.getD j [])):
  Cn C.T (i.tree C) (A8 ins)∧∃ ρ:Bl,(∀ j,j<i.s0.params.length→ρ j=ins.getD j [])∧∀ (k:Nat) (b:List (Bk A)),r[k]? = some b→H6 γ ρ b (i.raw C k ins):=by
 unfold Ow at h
 split at h
 ·rename_i ds ob e st hl
  cases hc:(Lp i.s0.params.length (i.tree C)&&Nat.beq bin.length i.s0.params.length) with
  |false=>rw[hc] at h;cases h
  |true=>
  rw[hc,cond_true] at h;simp only[Bd] at hc;have hlen:=CL hc.2;obtain⟨k1,k2,k3,k4,k5⟩:=Pp (T:=C.T) (ρ:=A8 ins) hc.1 hl;have hρ:∀ j,j<i.s0.params.length→Dc C.T (A8 ins) ds j=ins.getD j []:=fun j hj=>by rw[k1 j hj];rfl
  have hin:Xg γ (Dc C.T (A8 ins) ds) (YW 0 bin):=fun j bs hj=>by
   obtain⟨k,h1,h2⟩:=XV hj;rw[NU] at h1;subst h1;have hlt:j<bin.length:=(Pi.1 h2).1;rw[hρ j (by omega)];exact hb j bs h2
  have hS:=di γ ht hin k2;simp only at h
  cases hob:ob.all (ABs t (oth ds) (eO t (YW 0 bin) ds)) with
  |false=>rw[hob] at h;cases h
  |true=>
  rw[hob,cond_true] at h
  split at h
  ·rename_i es Θ
   refine⟨k5 fun q hq=>AAY γ ht (ho ds) k2 hS (Ll.1 hob q hq),Dc C.T (A8 ins) ds,hρ,fun k b hk=>?_⟩;obtain⟨e',g1,g2⟩:=UD h k b hk;have:i.raw C k ins=e'.1.map (·.den (Dc C.T (A8 ins) ds)):=by
    unfold AQ.raw SF;rw[k4];simp only[Θ,g1]
   rw[this];exact QU γ hS _ _ _ g2
  ·cases h
 ·cases h
end
end
end Go.Proofs.YtloibefkijfdlaaGreatDoor
namespace Go.Proofs.YtloibefkijfdlaaGreatDoor
namespace Ma
def Pr(p:Nat):Prop:=1<p∧∀ m,m ∣ p→m=1∨m=p
theorem bez(a b:Nat):∃ x y:Int,(a:Int)*x+(b:Int)*y=(Nat.gcd a b:Nat):=by
 induction a,b using Nat.gcd.induction with
 |H0 n=>exact⟨0,1,by simp⟩
 |H1 m n _ ih=>
  obtain⟨x,y,h⟩:=ih;refine⟨y-(n/m:Nat)*x,x,?_⟩;rw[Nat.gcd_rec, ← h];have hd:(n:Int)=(m:Int)*(n/m:Nat)+(n%m:Nat):=by exact_mod_cast (Nat.div_add_mod n m).symm
  have e1:(m:Int)*(y-(n/m:Nat)*x)+n*x=m*y-(m*(n/m:Nat))*x+n*x:=by rw[Int.mul_sub,Xr]
  rw[e1];have e2:(n:Int)*x=(m*(n/m:Nat))*x+(n%m:Nat)*x:=by rw[← sI, ← hd]
  rw[e2];omega
theorem AEQ{p a b:Nat}(hp:Pr p)(h:p ∣ a*b):p ∣ a∨p ∣ b:=by
 by_cases ha:p ∣ a
 ·exact .inl ha
 ·right
  have hg:Nat.gcd p a=1:=by
   rcases hp.2 _ (Nat.gcd_dvd_left p a) with h1|h1
   ·exact h1
   ·exact absurd (h1 ▸ Nat.gcd_dvd_right p a) ha
  exact Nat.Coprime.dvd_of_dvd_mul_left hg h
def ch:Nat→Nat→Nat
 |_,0=>1
 |0,_+1=>0
 |n+1,k+1=>ch n k+ch n (k+1)
theorem Za:∀ {n k:Nat},n<k→ch n k=0
 |0,k+1,_=>rfl
 |n+1,k+1,h=>by simp only[ch,Za (show n<k by omega),Za (show n<k+1 by omega)]
theorem AAE:∀ n,ch n n=1
 |0=>rfl
 |n+1=>by simp only[ch,AAE n,Za (Nat.lt_succ_self n)]
theorem lS:∀ n k,(k+1)*ch (n+1) (k+1)=(n+1)*ch n k
 |0,0=>rfl
 |0,k+1=>by simp[ch]
 |n+1,0=>by
  have:=lS n 0;simp only[ch] at this ⊢;omega
 |n+1,k+1=>by
  have h1:=lS n k;have h2:=lS n (k+1);have e:ch (n+1+1) (k+1+1)=ch (n+1) (k+1)+ch (n+1) (k+1+1):=rfl;rw[e,Nat.mul_add,h2];have e2:(k+1+1)*ch (n+1) (k+1)=(k+1)*ch (n+1) (k+1)+ch (n+1) (k+1):=by rw[Nat.add_mul (k+1) 1,Nat.one_mul]
  rw[e2,h1];have e3:ch (n+1) (k+1)=ch n k+ch n (k+1):=rfl;rw[e3];simp only[Nat.add_mul,Nat.mul_add,Nat.one_mul];omega
def bs(x n:Nat):Nat→Nat
 |0=>0
 |m+1=>bs x n m+ch n m*x^m
theorem yH(x n:Nat):∀ m,bs x (n+1) (m+1)=bs x n (m+1)+x*bs x n m
 |0=>by simp[bs,ch]
 |m+1=>by
  have ih:=yH x n m;have e:bs x (n+1) (m+1+1)=bs x (n+1) (m+1)+ch (n+1) (m+1)*x^(m+1):=rfl;have e2:bs x n (m+1+1)=bs x n (m+1)+ch n (m+1)*x^(m+1):=rfl;have e3:bs x n (m+1)=bs x n m+ch n m*x^m:=rfl;rw[e,ih,e2];have e4:ch (n+1) (m+1)=ch n m+ch n (m+1):=rfl;rw[e4,Nat.add_mul];have e5:x*bs x n (m+1)=x*bs x n m+ch n m*x^(m+1):=by rw[e3,Nat.mul_add,r9];congr 1;rw[Nat.mul_left_comm,zcp x]
  rw[e5];omega
theorem ACh(x:Nat):∀ n,bs x n (n+1)=(x+1)^n
 |0=>by simp[bs,ch]
 |n+1=>by
  have e:bs x n (n+1+1)=bs x n (n+1)+ch n (n+1)*x^(n+1):=rfl;rw[yH,e,Za (Nat.lt_succ_self n),Nat.zero_mul,Q3,ACh x n,r9,Nat.mul_add,Nat.mul_one,zcp x,Nat.add_comm]
theorem ANi{p:Nat}(hp:Pr p){k:Nat}(h0:0<k)(h1:k<p):p ∣ ch p k:=by
 obtain⟨k,rfl⟩:∃ j,k=j+1:=⟨k-1,by omega⟩;obtain⟨q,rfl⟩:∃ j,p=j+1:=⟨p-1,by have:=hp.1;omega⟩;have h:(q+1) ∣ (k+1)*ch (q+1) (k+1):=by rw[lS];exact⟨_,rfl⟩
 rcases AEQ hp h with h|h
 ·exact absurd (Nat.le_of_dvd (by omega) h) (by omega)
 ·exact h
theorem ADi{p:Nat}(hp:Pr p)(x:Nat):∀ m,m<p→bs x p (m+1)%p=1%p
 |0,_=>by simp[bs,ch]
 |m+1,h=>by
  have e:bs x p (m+1+1)=bs x p (m+1)+ch p (m+1)*x^(m+1):=rfl;obtain⟨c,hc⟩:=ANi hp (show 0<m+1 by omega) h;rw[e,hc,Nat.mul_assoc,Nat.add_mul_mod_self_left];exact ADi hp x m (by omega)
theorem ATj{p:Nat}(hp:Pr p)(x:Nat):(x+1)^p%p=(x^p+1)%p:=by
 have h1:=ACh x p;have e:bs x p (p+1)=bs x p p+ch p p*x^p:=rfl;obtain⟨q,rfl⟩:∃ j,p=j+1:=⟨p-1,by have:=hp.1;omega⟩;rw[← h1,e,AAE,Nat.one_mul,Nat.add_mod,ADi hp x q (by omega), ← Nat.add_mod,Nat.add_comm]
theorem xE{p:Nat}(hp:Pr p):∀ a,a^p%p=a%p
 |0=>by rw[Nat.zero_pow (by have:=hp.1;omega)]
 |a+1=>by rw[ATj hp,Nat.add_mod,xE hp a, ← Nat.add_mod]
theorem AFb{p:Nat}(hp:Pr p){a:Nat}(ha:¬ p ∣ a):a^(p-1)%p=1:=by
 have h:=xE hp a;have h1:=hp.1;have e:a^p=a*a^(p-1):=by rw[← Nat.pow_succ',show (p-1).succ=p by omega]
 have hpos:1≤a^(p-1):=Nat.pow_pos (by rcases Nat.eq_zero_or_pos a with rfl|h;exact absurd (Nat.dvd_zero p) ha;exact h);have hd:p ∣ a*(a^(p-1)-1):=by
  rw[Nat.mul_sub,Nat.mul_one, ← e];have hle:a≤a^p:=by rw[e];exact Nat.le_mul_of_pos_right a hpos
  exact (Nat.dvd_iff_mod_eq_zero ..).2 (Nat.sub_mod_eq_zero_of_mod_eq h)
 rcases AEQ hp hd with h2|h2
 ·exact absurd h2 ha
 ·obtain⟨c,hc⟩:=h2;have h3:a^(p-1)=1+p*c:=by omega
  rw[h3,Nat.add_mul_mod_self_left,Nat.mod_eq_of_lt h1]
end Ma
end Go.Proofs.YtloibefkijfdlaaGreatDoor
namespace Go.Proofs.YtloibefkijfdlaaGreatDoor
namespace Ma
theorem AQ0:∀ (m:Nat),1<m→∃ r,Pr r∧r ∣ m:=by
 intro m
 induction m using Nat.strongRecOn with
 | ind m ih=>
  intro h
  by_cases hp:Pr m
  ·exact⟨m,hp,Nat.dvd_refl _⟩
  ·have:∃ d,d ∣ m∧d≠1∧d≠m:=by
    refine Classical.byContradiction fun hn=>hp ⟨h,fun d hd=>?_⟩
    by_cases h1:d=1
    ·exact .inl h1
    ·by_cases h2:d=m
     ·exact .inr h2
     ·exact absurd ⟨d,hd,h1,h2⟩ hn
   obtain⟨d,hd,h1,h2⟩:=this;have hle:=Nat.le_of_dvd (by omega) hd;have h0:d≠0:=fun e=>by subst e;have:=Nat.eq_zero_of_zero_dvd hd;omega
   obtain⟨r,hr,hrd⟩:=ih d (by omega) (by omega);exact⟨r,hr,Nat.dvd_trans hrd hd⟩
theorem ATr{n:Nat}(h:1<n)(hn:¬ Pr n):∃ r,Pr r∧r ∣ n∧r*r≤n:=by
 have:∃ d,d ∣ n∧d≠1∧d≠n:=by
  refine Classical.byContradiction fun hc=>hn ⟨h,fun d hd=>?_⟩
  by_cases h1:d=1
  ·exact .inl h1
  ·by_cases h2:d=n
   ·exact .inr h2
   ·exact absurd ⟨d,hd,h1,h2⟩ hc
 obtain⟨d,⟨k,hk⟩,h1,h2⟩:=this;have hd0:d≠0:=fun e=>by subst e;omega
 have hk0:k≠0:=fun e=>by subst e;omega
 have hk1:k≠1:=fun e=>by subst e;omega
 rcases Nat.le_total d k with hle|hle
 ·obtain⟨r,hr,hrd⟩:=AQ0 d (by omega);refine⟨r,hr,Nat.dvd_trans hrd ⟨k,hk⟩,?_⟩;have h3:=Nat.le_of_dvd (by omega) hrd;have:=Nat.mul_le_mul h3 (G9 h3 hle);omega
 ·obtain⟨r,hr,hrd⟩:=AQ0 k (by omega);refine⟨r,hr,Nat.dvd_trans hrd ⟨d,by rw[hk,zcp]⟩,?_⟩;have h3:=Nat.le_of_dvd (by omega) hrd;have:=Nat.mul_le_mul (G9 h3 hle) h3;omega
theorem ATQ{r x:Nat}(h:x%r=1%r)(k:Nat):x^k%r=1%r:=by
 rw[Nat.pow_mod,h, ← Nat.pow_mod,Nat.one_pow]
theorem ASg{n q a r:Nat}(hq:Pr q)(hqn:q ∣ n-1)(h1:a^(n-1)%n=1%n)(hg:Nat.gcd (a^((n-1)/q)%n+n-1) n=1)(hn:1<n)(hr:Pr r)(hrn:r ∣ n):q ∣ r-1:=by
 have hr1:=hr.1;obtain⟨b,hb⟩:∃ b,b=a^((n-1)/q):=⟨_,rfl⟩;rw[← hb] at hg;have hbq:b^q=a^(n-1):=by rw[hb, ← Nat.pow_mul,Nat.div_mul_cancel hqn]
 have hbq1:b^q%r=1%r:=by
  rw[hbq];have:=QL (· % r) h1
  simpa[Nat.mod_mod_of_dvd _ hrn] using this
 have hrb:¬ r ∣ b:=fun hd=>by
  have:b^q%r=0:=Nat.mod_eq_zero_of_dvd (Nat.dvd_trans hd ⟨b^(q-1),by rw[← Nat.pow_succ',show (q-1).succ=q by have:=hq.1;omega]⟩);rw[this,Nat.mod_eq_of_lt hr1] at hbq1;omega
 have hne:b%r≠1:=fun he=>by
  have h2:r ∣ b%n+n-1:=by
   have e:(b%n)%r=1:=by rw[Nat.mod_mod_of_dvd _ hrn];exact he
   have hd:=Nat.div_add_mod (b%n) r;obtain⟨c,hc⟩:=hrn;refine⟨b%n/r+c,?_⟩;rw[Nat.mul_add, ← hc];omega
  have:=Nat.dvd_gcd h2 hrn;rw[hg] at this;have:=Nat.le_of_dvd (by omega) this;omega
 refine Classical.byContradiction fun hnd=>hne ?_
 have hgc:Nat.gcd q (r-1)=1:=by
  rcases hq.2 _ (Nat.gcd_dvd_left q (r-1)) with h|h
  ·exact h
  ·exact absurd (h ▸ Nat.gcd_dvd_right q (r-1)) hnd
 obtain⟨x,y,hxy⟩:=bez q (r-1);rw[hgc] at hxy;obtain⟨u,v,huv⟩:∃ u v:Nat,u*q=v*(r-1)+1:=by
  let t:Nat:=x.natAbs+y.natAbs
  have hq1:=hq.1;have hx:0≤x+t*(r-1:Nat):=by
   have h3:(t:Int)*1≤t*(r-1:Nat):=Int.mul_le_mul_of_nonneg_left (by omega) (by omega);have:(t:Int)=x.natAbs+y.natAbs:=by simp[t]
   omega
  have hy:0≤t*(q:Int)-y:=by
   have h3:(t:Int)*1≤t*(q:Int):=Int.mul_le_mul_of_nonneg_left (by omega) (by omega);have:(t:Int)=x.natAbs+y.natAbs:=by simp[t]
   omega
  obtain⟨u,hu⟩:=cu hx;obtain⟨v,hv⟩:=cu hy;refine⟨u,v,?_⟩;have:(u:Int)*q=v*(r-1:Nat)+1:=by
   rw[← hu, ← hv,sI,Int.sub_mul];have e1:(t:Int)*(r-1:Nat)*q=t*q*(r-1:Nat):=by rw[Xr,Xr,Y6 ((r-1:Nat):Int)]
   have e2:x*(q:Int)=q*x:=Y6 _ _;have e3:y*((r-1:Nat):Int)=(r-1:Nat)*y:=Y6 _ _;rw[e1,e2,e3];have e4:((1:Nat):Int)=1:=rfl;rw[e4] at hxy;omega
  exact_mod_cast this
 have h3:b^(u*q)%r=1%r:=by rw[zcp,Nat.pow_mul];exact ATQ hbq1 u
 rw[huv,r9,zcp v,Nat.pow_mul,Nat.mul_mod,ATQ (by rw[AFb hr hrb,Nat.mod_eq_of_lt hr1]) v, ← Nat.mul_mod,Nat.one_mul,Nat.mod_eq_of_lt (show 1<r from hr1)] at h3;exact h3
def Z4:List (Nat×Nat)→Nat
 | []=>1
 |(q,_)::r=>q*Z4 r
def pm(a n:Nat):Nat→Nat→Nat
 |0,_=>1%n
 |f+1,e=>bif Nat.beq e 0 then 1%n else
  bif Nat.beq (e%2) 1 then (pm a n f (e/2)*pm a n f (e/2)%n)*a%n else pm a n f (e/2)*pm a n f (e/2)%n
theorem zF(a n:Nat):∀ (f e:Nat),e<2^f→pm a n f e=a^e%n
 |0,e,h=>by
  have:e=0:=by simpa using h
  subst this;simp[pm]
 | f+1,e,h=>by
  have ih:=zF a n f (e/2) (by rw[r9] at h;omega);unfold pm
  cases hb:Nat.beq e 0 with
  |true=>rw[CL hb];simp
  | false=>
   have hsq:(a^(e/2)%n)*(a^(e/2)%n)%n=a^(2*(e/2))%n:=by
    rw[← Nat.mul_mod,Nat.two_mul,Nat.pow_add]
   cases ho:Nat.beq (e%2) 1 with
   |true=>
    have:=CL ho;simp only[cond_false,cond_true,ih];rw[hsq,Nat.mod_mul_mod, ← r9,show (2*(e/2)).succ=e by omega]
   |false=>
    have h2:e%2≠1:=fun h=>by rw[h] at ho;cases ho
    simp only[cond_false,ih];rw[hsq,show 2*(e/2)=e by omega]
def ckQ(n:Nat):List (Nat×Nat)→Bool
 | []=>true
 |(q,a)::r=>Nat.beq ((n-1)%q) 0&&Nat.beq (pm a n 256 (n-1)) 1&&Nat.beq (Nat.gcd (pm a n 256 ((n-1)/q)+n-1) n) 1&&Nat.beq (Nat.gcd q (Z4 r)) 1&&ckQ n r
theorem AFe{n r:Nat}(hn:1<n)(h256:n<2^256)(hr:Pr r)(hrn:r ∣ n):∀ {qs:List (Nat×Nat)},(∀ x∈qs,Pr x.1)→ckQ n qs=true→Z4 qs ∣ r-1
 | [],_,_=>Nat.one_dvd _
 |(q,a)::rs,hp,h=>by
  simp only[ckQ,Bd] at h;obtain⟨⟨⟨⟨h1,h2⟩,h3⟩,h4⟩,h5⟩:=h;have e1:=CL h1;have e2:=CL h2;have e3:=CL h3;have e4:=CL h4;have hq:Pr q:=hp _ LA;rw[zF a n 256 _ (by omega)] at e2;rw[zF a n 256 _ (Nat.lt_of_le_of_lt (Nat.div_le_self _ _) (by omega))] at e3;have hd:=ASg hq (Nat.dvd_of_mod_eq_zero e1) (by rw[e2,Nat.mod_eq_of_lt hn]) e3 hn hr hrn;exact Nat.Coprime.mul_dvd_of_dvd_of_dvd e4 hd (AFe hn h256 hr hrn (fun x hx=>hp x (MQ _ hx)) h5)
theorem pg{n:Nat}(qs:List (Nat×Nat))(hp:∀ x∈qs,Pr x.1)(h:(Nat.blt 1 n&&Nat.blt n (2^256)&&Nat.ble n (Z4 qs*Z4 qs)&&ckQ n qs)=true):Pr n:=by
 simp only[Bd] at h;obtain⟨⟨⟨h1,h2⟩,h3⟩,h4⟩:=h;have hn:1<n:=Na h1;have h256:n<2^256:=Na h2;have hF:=Na h3;refine Classical.byContradiction fun hc=>?_
 obtain⟨r,hr,hrn,hle⟩:=ATr hn hc;have hd:=AFe hn h256 hr hrn hp h4;have hr1:=hr.1;have h5:=Nat.le_of_dvd (by omega) hd;have h6:=Nat.mul_lt_mul_of_lt_of_lt (show Z4 qs<r by omega) (show Z4 qs<r by omega);omega
def tr(n:Nat):Nat→Nat→Bool
 |0,_=>false
 |f+1,d=>bif Nat.blt n (d*d) then true else bif Nat.beq (n%d) 0 then false else tr n f (d+1)
theorem AKa{n:Nat}:∀ {f d:Nat},tr n f d=true→∀ e,d≤e→e*e≤n→n%e≠0
 |0,_,h=>by cases h
 | f+1,d,h=>fun e hde hee=>by
  unfold tr at h
  cases hb:Nat.blt n (d*d) with
  |true=>
   have:n<d*d:=Na hb;have:=Nat.mul_le_mul hde hde;omega
  | false=>
   rw[hb,cond_false] at h
   cases hc:Nat.beq (n%d) 0 with
   |true=>rw[hc] at h;cases h
   |false=>
    rw[hc,cond_false] at h
    by_cases he:e=d
    ·subst he;intro h0;rw[h0] at hc;cases hc
    ·exact AKa h e (by omega) hee
theorem iO{n:Nat}(h:(Nat.blt 1 n&&tr n 2000 2)=true):Pr n:=by
 simp only[Bd] at h;have hn:1<n:=Na h.1;refine Classical.byContradiction fun hc=>?_
 obtain⟨r,hr,hrn,hle⟩:=ATr hn hc;exact AKa h.2 r hr.1 hle (Nat.mod_eq_zero_of_dvd hrn)
end Ma
end Go.Proofs.YtloibefkijfdlaaGreatDoor
namespace Go.Proofs.YtloibefkijfdlaaGreatDoor
namespace Ma
theorem ANt:Pr 991:=iO (by decide +kernel)
theorem APp:Pr 103:=iO (by decide +kernel)
theorem AN6:Pr 127:=iO (by decide +kernel)
theorem AHt:Pr 4153:=iO (by decide +kernel)
theorem AA5:Pr 569003:=iO (by decide +kernel)
theorem ABq:Pr 430751:=iO (by decide +kernel)
theorem two{a b:Nat}{x y:Nat}(h1:Pr a)(h2:Pr b):∀ z ∈ [(a,x),(b,y)],Pr z.1:=fun z hz=>by
 simp only[J4,List.not_mem_nil,or_false] at hz
 rcases hz with rfl|rfl
 ·exact h1
 ·exact h2
theorem one{a:Nat}{x:Nat}(h1:Pr a):∀ z ∈ [(a,x)],Pr z.1:=fun z hz=>by
 rw[Nc] at hz;subst hz;exact h1
theorem AUg:Pr 8574133:=pg [(991,2),(103,2)] (two ANt APp) (by decide +kernel)
theorem AU7:Pr 1919519569386763:=pg [(8574133,2),(127,2)] (two AUg AN6) (by decide +kernel)
theorem AV6:Pr 2773320623:=pg [(569003,2)] (one AA5) (by decide +kernel)
theorem AVa:Pr 72106336199:=pg [(2773320623,2)] (one AV6) (by decide +kernel)
theorem AUp:Pr 75445702479781427272750846543864801:=pg [(1919519569386763,2),(72106336199,2)] (two AU7 AVa) (by decide +kernel)
theorem AVf:Pr 31757755568855353:=pg [(430751,2),(4153,2)] (two ABq AHt) (by decide +kernel)
theorem AVi:Pr 74058212732561358302231226437062788676166966415465897661863160754340907:=pg [(75445702479781427272750846543864801,2),(31757755568855353,2)] (two AUp AVf) (by decide +kernel)
theorem AUm:Pr 57896044618658097711785492504343953926634992332820282019728792003956564819949:=pg [(74058212732561358302231226437062788676166966415465897661863160754340907,2)] (one AVi) (by decide +kernel)
end Ma
end Go.Proofs.YtloibefkijfdlaaGreatDoor
namespace Go.Proofs.YtloibefkijfdlaaGreatDoor
namespace Ma
section
variable{n:Nat}[NeZero n]{d:Fin n}
theorem AJ3(a b:Fin n):(a-b)*(a-b)=(-a+b)*(-a+b):=by grind
theorem ADs(c a b:Fin n):c*(a-b)*(c*(a-b))=c*(-a+b)*(c*(-a+b)):=by grind
theorem nP(a b:Fin n): -(a*b)= -a*b:=by grind
theorem sP{x1 y1 x2 y2:Fin n}(h1:y1*y1-x1*x1=1+d*x1*x1*y1*y1)(h2:y2*y2-x2*x2=1+d*x2*x2*y2*y2):
  (y1*y2+x1*x2)*(y1*y2+x1*x2)*((1+d*x1*x2*y1*y2)*(1+d*x1*x2*y1*y2))-(x1*y2+y1*x2)*(x1*y2+y1*x2)*((1-d*x1*x2*y1*y2)*(1-d*x1*x2*y1*y2))=
   (1+d*x1*x2*y1*y2)*(1+d*x1*x2*y1*y2)*((1-d*x1*x2*y1*y2)*(1-d*x1*x2*y1*y2))+d*((x1*y2+y1*x2)*(x1*y2+y1*x2))*((y1*y2+x1*x2)*(y1*y2+x1*x2)):=by
 grind
theorem AQm{x1 y1 x2 y2 x3 y3:Fin n}(h1:y1*y1-x1*x1=1+d*x1*x1*y1*y1)(h2:y2*y2-x2*x2=1+d*x2*x2*y2*y2)(h3:y3*y3-x3*x3=1+d*x3*x3*y3*y3):
  ((x1*y2+y1*x2)*(1-d*x1*x2*y1*y2)*y3+(y1*y2+x1*x2)*(1+d*x1*x2*y1*y2)*x3)*((1-d*x2*x3*y2*y3)*(1+d*x2*x3*y2*y3)+d*x1*(x2*y3+y2*x3)*y1*(y2*y3+x2*x3))=(x1*(y2*y3+x2*x3)*(1+d*x2*x3*y2*y3)+y1*(x2*y3+y2*x3)*(1-d*x2*x3*y2*y3))*((1-d*x1*x2*y1*y2)*(1+d*x1*x2*y1*y2)+d*(x1*y2+y1*x2)*(y1*y2+x1*x2)*x3*y3):=by
 grind
theorem AQk{x1 y1 x2 y2 x3 y3:Fin n}(h1:y1*y1-x1*x1=1+d*x1*x1*y1*y1)(h2:y2*y2-x2*x2=1+d*x2*x2*y2*y2)(h3:y3*y3-x3*x3=1+d*x3*x3*y3*y3):
  ((y1*y2+x1*x2)*(1+d*x1*x2*y1*y2)*y3+(x1*y2+y1*x2)*(1-d*x1*x2*y1*y2)*x3)*((1-d*x2*x3*y2*y3)*(1+d*x2*x3*y2*y3)-d*x1*(x2*y3+y2*x3)*y1*(y2*y3+x2*x3))=(y1*(y2*y3+x2*x3)*(1+d*x2*x3*y2*y3)+x1*(x2*y3+y2*x3)*(1-d*x2*x3*y2*y3))*((1-d*x1*x2*y1*y2)*(1+d*x1*x2*y1*y2)-d*(x1*y2+y1*x2)*(y1*y2+x1*x2)*x3*y3):=by
 grind
theorem AVl{x1 y1 x3 y3 u v w z A B C D n0 m k l:Fin n}(hu:u*A=n0)(hv:v*B=m)(hw:w*C=k)(hz:z*D=l):
  (u*y3+v*x3)*(1+d*x1*w*y1*z)*(A*B*(C*D))=(n0*B*y3+m*A*x3)*(D*C+d*x1*k*y1*l):=by
 subst hu;subst hv;subst hw;subst hz;grind
theorem AVb{x1 y1 x3 y3 u v w z A B C D n0 m k l:Fin n}(hu:u*A=n0)(hv:v*B=m)(hw:w*C=k)(hz:z*D=l):
  (v*y3+u*x3)*(1-d*x1*w*y1*z)*(A*B*(C*D))=(m*A*y3+n0*B*x3)*(D*C-d*x1*k*y1*l):=by
 subst hu;subst hv;subst hw;subst hz;grind
theorem AUi{x1 y1 x3 y3 u v w z A B C D n0 m k l:Fin n}(hu:u*A=n0)(hv:v*B=m)(hw:w*C=k)(hz:z*D=l):
  (x1*z+y1*w)*(1+d*u*x3*v*y3)*(A*B*(C*D))=(x1*l*C+y1*k*D)*(B*A+d*n0*m*x3*y3):=by
 subst hu;subst hv;subst hw;subst hz;grind
theorem AVC{x1 y1 x3 y3 u v w z A B C D n0 m k l:Fin n}(hu:u*A=n0)(hv:v*B=m)(hw:w*C=k)(hz:z*D=l):
  (y1*z+x1*w)*(1-d*u*x3*v*y3)*(A*B*(C*D))=(y1*l*C+x1*k*D)*(B*A-d*n0*m*x3*y3):=by
 subst hu;subst hv;subst hw;subst hz;grind
end
end Ma
end Go.Proofs.YtloibefkijfdlaaGreatDoor
namespace Go.Proofs.YtloibefkijfdlaaGreatDoor
namespace Ma
class FF (n:Nat) [NeZero n] extends Inv (Fin n) where
 mic:∀ {b:Fin n},b≠0→b*b⁻¹ = 1
 zno:(0:Fin n)≠1
structure Ed {n:Nat} [NeZero n] (d:Fin n):Prop where
 two:(2:Fin n)≠0
 i:∃ i:Fin n,i*i= -1
 ns:∀ x:Fin n,x*x≠d
section
variable{n:Nat}[NeZero n][FF n]{d:Fin n}
def Ph(d x y:Fin n):Prop:=y*y-x*x=1+d*x*x*y*y
theorem Ei{a b:Fin n}(ha:a≠0)(hb:b≠0):a*b≠0:=by
 intro h
 have h1:=FF.mic hb;have h2:a*b*b⁻¹ = a:=by
  generalize b⁻¹ = u at *
  grind
 rw[h] at h2;exact ha (by rw[← h2];generalize b⁻¹ = u;grind)
theorem vJ{a b:Fin n}(hb:b≠0)(h:a*a=d*(b*b)):(a*b⁻¹)*(a*b⁻¹)=d:=by
 have h1:b*b⁻¹ = 1:=FF.mic hb
 grind
theorem qB(E:Ed d){x1 y1 x2 y2:Fin n}(h1:Ph d x1 y1)(h2:Ph d x2 y2){e:Fin n}(he:e*e=1):d*x1*x2*y1*y2≠e:=by
 intro h
 obtain⟨i,hi⟩:=E.i;unfold Ph at h1 h2;have hne:e≠0:=fun h0=>by rw[h0] at he;exact FF.zno (n:=n) (by grind)
 have nx1:x1≠0:=fun h0=>hne (by grind)
 have ny1:y1≠0:=fun h0=>hne (by grind)
 have ny2:y2≠0:=fun h0=>hne (by grind)
 have key:∀ s z:Fin n,s*s=1→z=s*i→(z*x1+e*y1)*(z*x1+e*y1)=d*((x1*y1*(z*x2+y2))*(x1*y1*(z*x2+y2))):=by
  intro s z hs hz
  have hzz:z*z= -1:=by rw[hz];grind
  have f1:(z*x1+e*y1)*(z*x1+e*y1)=1+d*x1*x1*y1*y1+2*z*e*x1*y1:=by
   have:(z*x1+e*y1)*(z*x1+e*y1)=(z*z)*(x1*x1)+(e*e)*(y1*y1)+2*z*e*x1*y1:=by grind
   rw[this,hzz,he];grind
  have f2:(z*x2+y2)*(z*x2+y2)=1+d*x2*x2*y2*y2+2*z*x2*y2:=by
   have:(z*x2+y2)*(z*x2+y2)=(z*z)*(x2*x2)+y2*y2+2*z*x2*y2:=by grind
   rw[this,hzz];grind
  have f3:d*((x1*y1*(z*x2+y2))*(x1*y1*(z*x2+y2)))=d*x1*x1*y1*y1*((z*x2+y2)*(z*x2+y2)):=by grind
  rw[f1,f3,f2];have f4:d*x1*x1*y1*y1*(1+d*x2*x2*y2*y2+2*z*x2*y2)=d*x1*x1*y1*y1+(d*x1*x2*y1*y2)*(d*x1*x2*y1*y2)+2*z*(d*x1*x2*y1*y2)*x1*y1:=by grind
  rw[f4,h,he];grind
 have p1:(i*x1+e*y1)*(i*x1+e*y1)=d*((x1*y1*(i*x2+y2))*(x1*y1*(i*x2+y2))):=key 1 i (by grind) (by grind);have p2:(i*x1-e*y1)*(i*x1-e*y1)=d*((x1*y1*(i*x2-y2))*(x1*y1*(i*x2-y2))):=by
  have:=key (-1) (-i) (by grind) (by grind);rw[AJ3,ADs,nP,nP,this]
 by_cases c1:i*x2+y2=0
 ·by_cases c2:i*x2-y2=0
  ·have:2*y2=0:=by grind
   exact Ei E.two ny2 this
  ·exact E.ns _ (vJ (Ei (Ei nx1 ny1) c2) p2)
 ·exact E.ns _ (vJ (Ei (Ei nx1 ny1) c1) p1)
theorem fQ(E:Ed d){x1 y1 x2 y2:Fin n}(h1:Ph d x1 y1)(h2:Ph d x2 y2):1+d*x1*x2*y1*y2≠0:=fun h=>
 qB E h1 h2 (e:= -1) (by grind) (by grind)
theorem aU(E:Ed d){x1 y1 x2 y2:Fin n}(h1:Ph d x1 y1)(h2:Ph d x2 y2):1-d*x1*x2*y1*y2≠0:=fun h=>
 qB E h1 h2 (e:=1) (by grind) (by grind)
def ax(d x1 y1 x2 y2:Fin n):Fin n:=(x1*y2+y1*x2)*(1+d*x1*x2*y1*y2)⁻¹
def ay(d x1 y1 x2 y2:Fin n):Fin n:=(y1*y2+x1*x2)*(1-d*x1*x2*y1*y2)⁻¹
theorem jL(E:Ed d){x1 y1 x2 y2:Fin n}(h1:Ph d x1 y1)(h2:Ph d x2 y2):ax d x1 y1 x2 y2*(1+d*x1*x2*y1*y2)=x1*y2+y1*x2:=by
 have:=FF.mic (fQ E h1 h2);unfold ax;grind
theorem iA(E:Ed d){x1 y1 x2 y2:Fin n}(h1:Ph d x1 y1)(h2:Ph d x2 y2):ay d x1 y1 x2 y2*(1-d*x1*x2*y1*y2)=y1*y2+x1*x2:=by
 have:=FF.mic (aU E h1 h2);unfold ay;grind
theorem Om{a b c:Fin n}(hc:c≠0)(h:a*c=b*c):a=b:=by
 have:=FF.mic hc
 grind
theorem eD(E:Ed d){x1 y1 x2 y2:Fin n}(h1:Ph d x1 y1)(h2:Ph d x2 y2):Ph d (ax d x1 y1 x2 y2) (ay d x1 y1 x2 y2):=by
 have e1:=jL E h1 h2;have e2:=iA E h1 h2;have n1:=fQ E h1 h2;have n2:=aU E h1 h2;generalize ax d x1 y1 x2 y2=x3 at *
 generalize ay d x1 y1 x2 y2=y3 at *
 unfold Ph at *
 have hn:=Ei (Ei n1 n1) (Ei n2 n2);have key:=sP h1 h2;rw[← e1, ← e2] at key;clear e1 e2 h1 h2;generalize 1+d*x1*x2*y1*y2=D1 at *
 generalize 1-d*x1*x2*y1*y2=D2 at *
 refine Om hn ?_
 grind
theorem AQw{a b c e:Fin n}(hb:b≠0)(he:e≠0)(h:a*e=c*b):a*b⁻¹ = c*e⁻¹ := by
 have h1:=FF.mic hb;have h2:=FF.mic he;have h3:a*e*(b⁻¹ * e⁻¹)=c*b*(b⁻¹ * e⁻¹):=by rw[h]
 generalize b⁻¹ = u at *
 generalize e⁻¹ = v at *
 have h4:a*e*(u*v)=a*u*(e*v):=by grind
 have h5:c*b*(u*v)=c*v*(b*u):=by grind
 rw[h4,h5,h1,h2] at h3
 grind
theorem AP5(E:Ed d){x1 y1 x2 y2 x3 y3:Fin n}(h1:Ph d x1 y1)(h2:Ph d x2 y2)(h3:Ph d x3 y3):
  ax d (ax d x1 y1 x2 y2) (ay d x1 y1 x2 y2) x3 y3=ax d x1 y1 (ax d x2 y2 x3 y3) (ay d x2 y2 x3 y3):=by
 have eu:=jL E h1 h2;have ev:=iA E h1 h2;have ew:=jL E h2 h3;have ez:=iA E h2 h3;have c12:=eD E h1 h2;have c23:=eD E h2 h3;have A:=fQ E h1 h2;have B:=aU E h1 h2;have C:=fQ E h2 h3;have D:=aU E h2 h3;have G:=fQ E c12 h3;have H:=fQ E h1 c23;have core:=AQm h1 h2 h3;unfold ax ay at G H ⊢;refine AQw G H ?_
 change (ax d x1 y1 x2 y2*y3+ay d x1 y1 x2 y2*x3)*(1+d*x1*ax d x2 y2 x3 y3*y1*ay d x2 y2 x3 y3)=(x1*ay d x2 y2 x3 y3+y1*ax d x2 y2 x3 y3)*(1+d*ax d x1 y1 x2 y2*x3*ay d x1 y1 x2 y2*y3)
 refine Om (Ei (Ei A B) (Ei C D)) ?_;rw[AVl eu ev ew ez,AUi eu ev ew ez];exact core
theorem AMi(E:Ed d){x1 y1 x2 y2 x3 y3:Fin n}(h1:Ph d x1 y1)(h2:Ph d x2 y2)(h3:Ph d x3 y3):
  ay d (ax d x1 y1 x2 y2) (ay d x1 y1 x2 y2) x3 y3=ay d x1 y1 (ax d x2 y2 x3 y3) (ay d x2 y2 x3 y3):=by
 have eu:=jL E h1 h2;have ev:=iA E h1 h2;have ew:=jL E h2 h3;have ez:=iA E h2 h3;have c12:=eD E h1 h2;have c23:=eD E h2 h3;have A:=fQ E h1 h2;have B:=aU E h1 h2;have C:=fQ E h2 h3;have D:=aU E h2 h3;have G:=aU E c12 h3;have H:=aU E h1 c23;have core:=AQk h1 h2 h3;unfold ax ay at G H ⊢;refine AQw G H ?_
 change (ay d x1 y1 x2 y2*y3+ax d x1 y1 x2 y2*x3)*(1-d*x1*ax d x2 y2 x3 y3*y1*ay d x2 y2 x3 y3)=(y1*ay d x2 y2 x3 y3+x1*ax d x2 y2 x3 y3)*(1-d*ax d x1 y1 x2 y2*x3*ay d x1 y1 x2 y2*y3)
 refine Om (Ei (Ei A B) (Ei C D)) ?_;rw[AVb eu ev ew ez,AVC eu ev ew ez];exact core
end
end Ma
end Go.Proofs.YtloibefkijfdlaaGreatDoor
namespace Go.Proofs.YtloibefkijfdlaaGreatDoor
namespace Ma
abbrev PP:Nat:=57896044618658097711785492504343953926634992332820282019728792003956564819949
theorem PP0:0<PP:=by decide +kernel
instance nzPP:NeZero PP:=⟨by decide +kernel⟩
abbrev Fp:=Fin PP
def Kl(a:Fp)(n:Nat):Fp:=⟨a.val^n%PP,zcy _ PP0⟩
theorem wN(a b:Fp):(a*b).val=a.val*b.val%PP:=Fin.val_mul a b
theorem VD(a:Fp)(n:Nat):(Kl a n).val=a.val^n%PP:=rfl
theorem PE(a:Fp):Kl a 0=1:=Fin.ext (by rw[VD,Nat.pow_zero];decide +kernel)
theorem JS(a:Fp)(n:Nat):Kl a (n+1)=Kl a n*a:=Fin.ext (by
 rw[VD,wN,VD,r9,Nat.mod_mul_mod])
theorem QD(a:Fp):Kl a 1=a:=Fin.ext (by rw[VD,Nat.pow_one,Nat.mod_eq_of_lt a.isLt])
theorem Mr(a:Fp)(m:Nat):∀ n,Kl a (m+n)=Kl a m*Kl a n
 |0=>by rw[PE,Q3];grind
 |n+1=>by rw[← XN,JS,Mr a m n,JS];grind
theorem Uq(a:Fp)(m:Nat):∀ n,Kl (Kl a m) n=Kl a (m*n)
 |0=>by rw[PE,Nat.mul_zero,PE]
 |n+1=>by rw[JS,Uq a m n,Nat.mul_succ,Mr]
theorem ADS(a:Fp)(e:Nat)(h:e<2^256):(Kl a e).val=pm a.val PP 256 e:=by
 rw[VD,zF a.val PP 256 e h]
theorem AE7:∀ n,Kl 1 n=1
 |0=>PE 1
 |n+1=>by rw[JS,AE7 n];grind
def eI:Nat:=57896044618658097711785492504343953926634992332820282019728792003956564819947
theorem AHN{p a e:Nat}(hp:Pr p)(ha:¬ p ∣ a)(he:e=p-1):a^e%p=1:=by
 subst he;exact AFb hp ha
theorem Vp{a:Fp}(h:a≠0):Kl a (eI+1)=1:=by
 apply Fin.ext
 have hd:¬ PP ∣ a.val:=fun hd=>h (Fin.ext (by
  have:=a.isLt;have:=Nat.eq_zero_of_dvd_of_lt hd this;rw[this];rfl))
 rw[VD];exact AHN AUm hd (by decide +kernel)
theorem YL{a:Fp}(h:a≠0):a*Kl a eI=1:=by
 rw[← Vp h,JS];grind
instance ffFp:FF PP where
 inv a:=Kl a eI
 mic h:=YL h
 zno:=by decide +kernel
theorem V4{a:Fp}(h:a≠0):a*a⁻¹ = 1:=YL h
theorem AIE:(1:Fp)⁻¹ = 1:=AE7 eI
theorem APR(a:Fp):a⁻¹ = Kl a eI:=rfl
def dE:Fp:=37095705934669439343138083508754565189542113879843219016388785533085940283555
def iE:Fp:=19681161376707505956807079304988542015446066515923890162744021073123829784752
def eH:Nat:=28948022309329048855892746252171976963317496166410141009864396001978282409974
theorem AHZ:Kl dE eH= -1:=by
 apply Fin.ext
 rw[ADS _ _ (by decide +kernel)];decide +kernel
theorem edE:Ed dE where
 two:=by decide +kernel
 i:=⟨iE,by decide +kernel⟩
 ns:=fun x hx=>by
  have h:=AHZ;have e:x*x=Kl x 2:=by rw[JS,QD]
  rw[← hx,e,Uq,show 2*eH=eI+1 from by decide +kernel] at h
  by_cases h0:x=0
  ·rw[h0] at hx;exact absurd hx (by decide +kernel)
  ·rw[Vp h0] at h;exact absurd h (by decide +kernel)
end Ma
end Go.Proofs.YtloibefkijfdlaaGreatDoor
namespace Go.Proofs.YtloibefkijfdlaaGreatDoor
namespace Ma
structure Pt where
 x:Fp
 y:Fp
 h:Ph dE x y
theorem Pt.ext'{P Q:Pt}(hx:P.x=Q.x)(hy:P.y=Q.y):P=Q:=by
 cases P;cases Q;simp only at hx hy;subst hx;subst hy;rfl
def Pt.add(P Q:Pt):Pt:=⟨ax dE P.x P.y Q.x Q.y,ay dE P.x P.y Q.x Q.y,eD edE P.h Q.h⟩
def Pt.zero:Pt:=⟨0,1,by unfold Ph;grind⟩
def Pt.neg(P:Pt):Pt:=⟨-P.x,P.y,by have:=P.h;unfold Ph at *;grind⟩
theorem Pt.add_assoc(P Q R:Pt):(P.add Q).add R=P.add (Q.add R):=Pt.ext' (AP5 edE P.h Q.h R.h) (AMi edE P.h Q.h R.h)
theorem nX(d x1 y1 x2 y2:Fp):ax d x1 y1 x2 y2=ax d x2 y2 x1 y1∧ay d x1 y1 x2 y2=ay d x2 y2 x1 y1:=by
 unfold ax ay;have h1:x1*y2+y1*x2=x2*y1+y2*x1:=by grind
 have h2:d*x1*x2*y1*y2=d*x2*x1*y2*y1:=by grind
 have h3:y1*y2+x1*x2=y2*y1+x2*x1:=by grind
 rw[h1,h2,h3];exact⟨rfl,rfl⟩
theorem Pt.add_comm(P Q:Pt):P.add Q=Q.add P:=Pt.ext' (nX _ _ _ _ _).1 (nX _ _ _ _ _).2
theorem zX:(1:Fp)⁻¹ = 1:=AIE
theorem Pt.add_zero(P:Pt):P.add zero=P:=by
 refine Pt.ext' ?_ ?_
 ·show (P.x*1+P.y*0)*(1+dE*P.x*0*P.y*1)⁻¹ = P.x;have:1+dE*P.x*0*P.y*1=1:=by grind
  rw[this,zX];grind
 ·show (P.y*1+P.x*0)*(1-dE*P.x*0*P.y*1)⁻¹ = P.y;have:1-dE*P.x*0*P.y*1=1:=by grind
  rw[this,zX];grind
theorem Pt.add_neg(P:Pt):P.add P.neg=zero:=by
 refine Pt.ext' ?_ ?_
 ·show (P.x*P.y+P.y * -P.x)*(1+dE*P.x * -P.x*P.y*P.y)⁻¹ = 0;have:P.x*P.y+P.y * -P.x=0:=by grind
  rw[this];grind
 ·have hn:=aU edE P.h P.neg.h;have hh:=P.h;show (P.y*P.y+P.x * -P.x)*(1-dE*P.x * -P.x*P.y*P.y)⁻¹ = 1;have e:P.y*P.y+P.x * -P.x=1-dE*P.x * -P.x*P.y*P.y:=by
   unfold Ph at hh;grind
  rw[e];exact V4 hn
def Pt.nm(P:Pt):Nat→Pt
 |0=>zero
 |n+1=>(P.nm n).add P
def Pt.zm(P:Pt):Int→Pt
 | .ofNat n=>P.nm n
 | .negSucc n=>(P.nm (n+1)).neg
theorem Pt.zero_add(P:Pt):zero.add P=P:=by rw[add_comm,add_zero]
theorem Pt.neg_unique{P Q:Pt}(h:P.add Q=zero):Q=P.neg:=by
 have:P.neg.add (P.add Q)=P.neg:=by rw[h,add_zero]
 rw[← add_assoc,add_comm P.neg,add_neg,zero_add] at this;exact this
theorem Pt.neg_zero:zero.neg=zero:=(neg_unique (add_zero zero)).symm
theorem Pt.neg_add(P Q:Pt):(P.add Q).neg=P.neg.add Q.neg:=by
 symm;apply neg_unique
 rw[add_assoc, ← add_assoc Q,add_comm Q,add_assoc P.neg,add_neg,add_zero,add_neg]
theorem Pt.nm_add(P:Pt)(m:Nat):∀ n,P.nm (m+n)=(P.nm m).add (P.nm n)
 |0=>(add_zero _).symm
 |n+1=>by show (P.nm (m+n)).add P=_;rw[nm_add P m n,add_assoc];rfl
theorem Pt.zm_succ(P:Pt):∀ z:Int,P.zm (z+1)=(P.zm z).add P
 | .ofNat n=>rfl
 | .negSucc 0=>by
  show zero=((zero.add P).neg).add P;rw[zero_add,add_comm,add_neg]
 | .negSucc (n+1)=>by
  show (P.nm (n+1)).neg=((P.nm (n+1)).add P).neg.add P;rw[neg_add,add_assoc,add_comm P.neg,add_neg,add_zero]
theorem Pt.add_cancel{P Q R:Pt}(h:P.add R=Q.add R):P=Q:=by
 have:(P.add R).add R.neg=(Q.add R).add R.neg:=by rw[h]
 rw[add_assoc,add_neg,add_zero,add_assoc,add_neg,add_zero] at this;exact this
theorem Pt.zm_add_nat(P:Pt)(a:Int):∀ n:Nat,P.zm (a+n)=(P.zm a).add (P.zm n)
 |0=>by show P.zm (a+0)=(P.zm a).add zero;rw[wP,add_zero]
 |n+1=>by
  rw[Int.natCast_succ, ← Int.add_assoc,zm_succ,zm_add_nat P a n,zm_succ,add_assoc]
theorem Pt.zm_add(P:Pt)(a b:Int):P.zm (a+b)=(P.zm a).add (P.zm b):=by
 match b with
 | .ofNat n=>exact zm_add_nat P a n
 | .negSucc n=>
  have h:=zm_add_nat P (a+Int.negSucc n) (n+1);have e:a+Int.negSucc n+((n+1:Nat):Int)=a:=by omega
  rw[e] at h;have h2:(P.zm (Int.negSucc n)).add (P.zm ((n+1:Nat):Int))=zero:=by
   show ((P.nm (n+1)).neg).add (P.nm (n+1))=zero;rw[add_comm,add_neg]
  refine add_cancel (R:=P.zm ((n+1:Nat):Int)) ?_;rw[← h,add_assoc,h2,add_zero]
theorem Pt.zm_zero(P:Pt):P.zm 0=zero:=rfl
theorem Pt.zm_one(P:Pt):P.zm 1=P:=zero_add P
theorem Pt.zm_neg(P:Pt)(a:Int):P.zm (-a)=(P.zm a).neg:=by
 apply neg_unique
 rw[← zm_add,Int.add_right_neg];rfl
theorem Pt.zm_mul_nat(P:Pt)(a:Int):∀ n:Nat,P.zm (a*n)=(P.zm a).zm n
 |0=>by rw[Int.natCast_zero,Int.mul_zero];rfl
 |n+1=>by
  rw[Int.natCast_succ,qC,zcz,zm_add,zm_mul_nat P a n,zm_succ]
theorem Pt.zm_mul(P:Pt)(a b:Int):P.zm (a*b)=(P.zm a).zm b:=by
 match b with
 | .ofNat n=>exact zm_mul_nat P a n
 | .negSucc n=>
  have h:a*Int.negSucc n= -(a*((n+1:Nat):Int)):=by
   rw[Int.negSucc_eq,Int.mul_neg];rfl
  rw[h,zm_neg,zm_mul_nat];rfl
structure P3 (X Y Z T:Fp) (P:Pt):Prop where
 z:Z≠0
 x:X=P.x*Z
 y:Y=P.y*Z
 t:T=P.x*P.y*Z
structure P11 (X Y Z T:Fp) (P:Pt):Prop where
 z:Z≠0
 t:T≠0
 x:X=P.x*Z
 y:Y=P.y*T
structure P2 (X Y Z:Fp) (P:Pt):Prop where
 z:Z≠0
 x:X=P.x*Z
 y:Y=P.y*Z
structure PC (A B C E:Fp) (P:Pt):Prop where
 c:C≠0
 a:A=(P.y+P.x)*C
 b:B=(P.y-P.x)*C
 e:E=2*dE*P.x*P.y*C
structure AC (A B E:Fp) (P:Pt):Prop where
 a:A=P.y+P.x
 b:B=P.y-P.x
 e:E=2*dE*P.x*P.y
theorem uq:(2:Fp)≠0:=edE.two
theorem AK4(P Q:Pt):(P.add Q).x*(1+dE*P.x*Q.x*P.y*Q.y)=P.x*Q.y+P.y*Q.x:=jL edE P.h Q.h
theorem AKf(P Q:Pt):(P.add Q).y*(1-dE*P.x*Q.x*P.y*Q.y)=P.y*Q.y+P.x*Q.x:=iA edE P.h Q.h
theorem vU{X Y Z T s:Fp}{P Q:Pt}(hs:s≠0)(hx:X=s*(P.x*Q.y+P.y*Q.x))(hy:Y=s*(P.y*Q.y+P.x*Q.x))(hz:Z=s*(1+dE*P.x*Q.x*P.y*Q.y))(ht:T=s*(1-dE*P.x*Q.x*P.y*Q.y)):P11 X Y Z T (P.add Q) where
 z:=by rw[hz];exact Ei hs (fQ edE P.h Q.h)
 t:=by rw[ht];exact Ei hs (aU edE P.h Q.h)
 x:=by rw[hx,hz, ← AK4];grind
 y:=by rw[hy,ht, ← AKf];grind
theorem ATA{X Y Z T A B C E:Fp}{P Q:Pt}(h:P3 X Y Z T P)(g:PC A B C E Q):
  P11 ((Y+X)*A-(Y-X)*B) ((Y+X)*A+(Y-X)*B) (Z*C+Z*C+T*E) (Z*C+Z*C-T*E) (P.add Q):=by
 obtain⟨hz,hx,hy,ht⟩:=h;obtain⟨gc,ga,gb,ge⟩:=g;subst hx;subst hy;subst ht;subst ga;subst gb;subst ge;refine vU (s:=2*(Z*C)) (Ei uq (Ei hz gc)) ?_ ?_ ?_ ?_<;>grind
theorem AEd{X Y Z T A B E:Fp}{P Q:Pt}(h:P3 X Y Z T P)(g:AC A B E Q):
  P11 ((Y+X)*A-(Y-X)*B) ((Y+X)*A+(Y-X)*B) (Z+Z+T*E) (Z+Z-T*E) (P.add Q):=by
 obtain⟨hz,hx,hy,ht⟩:=h;obtain⟨ga,gb,ge⟩:=g;subst hx;subst hy;subst ht;subst ga;subst gb;subst ge;refine vU (s:=2*Z) (Ei uq hz) ?_ ?_ ?_ ?_<;>grind
theorem AK3(P:Pt):P.neg.x= -P.x:=rfl
theorem AKw(P:Pt):P.neg.y=P.y:=rfl
theorem PC.neg{A B C E:Fp}{Q:Pt}(g:PC A B C E Q):PC B A C (-E) Q.neg:=by
 obtain⟨gc,ga,gb,ge⟩:=g;refine⟨gc,?_,?_,?_⟩<;>rw[AK3,AKw]<;>grind
theorem AC.neg{A B E:Fp}{Q:Pt}(g:AC A B E Q):AC B A (-E) Q.neg:=by
 obtain⟨ga,gb,ge⟩:=g;refine⟨?_,?_,?_⟩<;>rw[AK3,AKw]<;>grind
theorem AK7{X Y Z:Fp}{P:Pt}(h:P2 X Y Z P):
  P11 ((X+Y)*(X+Y)-(Y*Y+X*X)) (Y*Y+X*X) (Y*Y-X*X) (Z*Z+Z*Z-(Y*Y-X*X)) (P.add P):=by
 obtain⟨hz,hx,hy⟩:=h;have hc:=P.h;unfold Ph at hc;subst hx;subst hy;refine vU (s:=Z*Z) (Ei hz hz) ?_ ?_ ?_ ?_<;>grind
theorem mP{X Y Z T:Fp}{P:Pt}(h:P11 X Y Z T P):P3 (X*T) (Y*Z) (Z*T) (X*Y) P:=by
 obtain⟨hz,ht,hx,hy⟩:=h;subst hx;subst hy;refine⟨Ei hz ht,?_,?_,?_⟩<;>grind
theorem AIS{X Y Z T:Fp}{P:Pt}(h:P11 X Y Z T P):P2 (X*T) (Y*Z) (Z*T) P:=by
 obtain⟨hz,ht,hx,hy⟩:=h;subst hx;subst hy;refine⟨Ei hz ht,?_,?_⟩<;>grind
theorem AFk{X Y Z T:Fp}{P:Pt}(h:P3 X Y Z T P):P2 X Y Z P:=⟨h.z,h.x,h.y⟩
theorem ANl{X Y Z T:Fp}{P:Pt}(h:P3 X Y Z T P):PC (Y+X) (Y-X) Z (T*(dE+dE)) P:=by
 obtain⟨hz,hx,hy,ht⟩:=h;subst hx;subst hy;subst ht;refine⟨hz,?_,?_,?_⟩<;>grind
theorem AOr{X Y Z T:Fp}{P:Pt}(h:P3 X Y Z T P):AC ((Y+X)*Z⁻¹) ((Y-X)*Z⁻¹) (T*(dE+dE)*Z⁻¹) P:=by
 obtain⟨hz,hx,hy,ht⟩:=h;have hi:=V4 hz;subst hx;subst hy;subst ht;generalize Z⁻¹ = u at *
 refine⟨?_,?_,?_⟩<;>grind
theorem yK:P3 0 1 1 0 Pt.zero:=⟨by decide +kernel,by decide +kernel,by decide +kernel,by decide +kernel⟩
theorem AIF:P2 0 1 1 Pt.zero:=⟨by decide +kernel,by decide +kernel,by decide +kernel⟩
theorem AGq:AC 1 1 0 Pt.zero:=⟨by decide +kernel,by decide +kernel,by decide +kernel⟩
theorem P3.inj{X Y Z T:Fp}{P Q:Pt}(h:P3 X Y Z T P)(g:P3 X Y Z T Q):P=Q:=
 Pt.ext' (Om h.z (h.x ▸ g.x)) (Om h.z (h.y ▸ g.y))
end Ma
end Go.Proofs.YtloibefkijfdlaaGreatDoor
namespace Go.Proofs.YtloibefkijfdlaaGreatDoor
section
open Go Ma
def Ki(z:Int):Fp:=⟨(z%(MN:Int)).toNat,by
 have h:(0:Int)<(MN:Int):=by decide
 have h1:=Int.emod_nonneg z (Int.ne_of_gt h);have h2:=Int.emod_lt_of_pos z h;show (z%(MN:Int)).toNat<MN;omega⟩
theorem Lf(z:Int):((Ki z).val:Int)=z%(MN:Int):=by
 have h:(0:Int)<(MN:Int):=by decide
 have h1:=Int.emod_nonneg z (Int.ne_of_gt h);show (((z%(MN:Int)).toNat:Nat):Int)=_;omega
theorem AD7{a b:Int}:Ki a=Ki b↔(MN:Int) ∣ a-b:=by
 constructor
 ·intro h
  have:=QL (fun x:Fp=>(x.val:Int)) h;simp only[Lf] at this;exact Int.dvd_of_emod_eq_zero (Int.emod_eq_emod_iff_emod_sub_eq_zero.1 this)
 ·intro h
  apply Fin.ext
  have:=Int.emod_eq_emod_iff_emod_sub_eq_zero.2 (Int.emod_eq_zero_of_dvd h);have h1:=Lf a;have h2:=Lf b;rw[this] at h1;omega
theorem RH{a b:Fp}(h:((a.val:Nat):Int)=(b.val:Int)):a=b:=Fin.ext (by omega)
theorem lM(a b:Int):Ki (a+b)=Ki a+Ki b:=RH (by
 rw[Fin.val_add,Int.natCast_emod,Int.natCast_add,Lf,Lf,Lf];exact (Int.add_emod a b _))
theorem ZR(a b:Int):Ki (a*b)=Ki a*Ki b:=RH (by
 rw[wN,Int.natCast_emod,Int.natCast_mul,Lf,Lf,Lf];exact (Int.mul_emod a b _))
theorem LW:Ki 0=0:=by decide +kernel
theorem Uk:Ki 1=1:=by decide +kernel
theorem lK(a b:Int):Ki (a-b)=Ki a-Ki b:=by
 have h:=lM (a-b) b;rw[Int.sub_add_cancel] at h
 grind
theorem AIj(a:Int):Ki (-a)= -Ki a:=by
 have h:=lK 0 a;rw[Int.zero_sub,LW] at h;rw[h];grind
theorem APG(x:Fp):Ki (x.val:Int)=x:=RH (by
 rw[Lf];exact zcd (by omega) (Int.ofNat_lt.2 x.isLt))
theorem ADr(a n:Nat):((a^n:Nat):Int)=(a:Int)^n:=by
 induction n with
 |zero=>rfl
 |succ n ih=>rw[r9,zcq,Int.natCast_mul,ih]
inductive FX where
 |v (n:Nat)
 |k (c:Int)
 |add (a b:FX)
 |sub (a b:FX)
 |mul (a b:FX)
 |pw (a:FX) (n:Nat)
 |b (n:Nat)
 |ite (c a b:FX)
 |t (c:Bool)
 |eq (a b:FX)
 |or (a b:FX)
 |odd (a:FX)
 |not (a:FX)
structure FV where
 v:Nat→Fp
 b:Nat→Bool
def FX.isB:FX→Bool
 | .b _=>true
 | .t _=>true
 | .eq _ _=>true
 | .or _ _=>true
 | .odd _=>true
 | .not _=>true
 |_=>false
def ZP(a b:Fp):Bool:=Nat.beq a.val b.val
theorem QI{a b:Fp}:ZP a b=true↔a=b:=⟨fun h=>Fin.ext (CL h),fun h=>by subst h;exact Nat.beq_refl _⟩
theorem dm{a b:Fp}(h:a≠b):ZP a b=false:=by
 cases hb:ZP a b with
 |true=>exact absurd (QI.1 hb) h
 |false=>rfl
def FX.eb(ρ:FV):FX→Fp×Bool
 | .v n=>(ρ.v n,false)
 | .k c=>(Ki c,false)
 | .add x y=>((x.eb ρ).1+(y.eb ρ).1,false)
 | .sub x y=>((x.eb ρ).1-(y.eb ρ).1,false)
 | .mul x y=>((x.eb ρ).1*(y.eb ρ).1,false)
 | .pw x n=>(Kl (x.eb ρ).1 n,false)
 | .b n=>(0,ρ.b n)
 | .ite c x y=>(bif (c.eb ρ).2 then (x.eb ρ).1 else (y.eb ρ).1,false)
 | .t c=>(0,c)
 | .eq x y=>(0,ZP (x.eb ρ).1 (y.eb ρ).1)
 | .or x y=>(0,(x.eb ρ).2||(y.eb ρ).2)
 | .odd x=>(0,Nat.beq ((x.eb ρ).1.val%2) 1)
 | .not x=>(0,!(x.eb ρ).2)
def FX.bv(ρ:FV)(x:FX):Bool:=(x.eb ρ).2
def FX.ev(ρ:FV)(x:FX):Fp:=(x.eb ρ).1
def Js(x:Fp)(l:List Int):Prop:=feG l∧Ki (Nk l)=x
def γF(ρ:FV)(e:FX)(l:List Int):Prop:=bif e.isB then l= [bif e.bv ρ then 1 else 0] else Js (e.ev ρ) l
theorem γF_fe{ρ:FV}{e:FX}{l:List Int}(h:γF ρ e l)(hb:e.isB=false):Js (e.ev ρ) l:=by
 unfold γF at h;rw[hb] at h;exact h
theorem γF_b{ρ:FV}{e:FX}{l:List Int}(h:γF ρ e l)(hb:e.isB=true):l= [bif e.bv ρ then 1 else 0]:=by
 unfold γF at h;rw[hb] at h;exact h
def AIC:List Int→Bool
 | [a,b,c,d,e]=>Bj 0 a&&Bj a fB&&Bj 0 b&&Bj b fB&&Bj 0 c&&Bj c fB&&Bj 0 d&&Bj d fB&&Bj 0 e&&Bj e fB
 |_=>false
theorem P8{l:List Int}(h:AIC l=true):feG l:=by
 match l,h with
 | [a,b,c,d,e],h=>
  simp only[AIC,Bd] at h;obtain⟨⟨⟨⟨⟨⟨⟨⟨⟨h1,h2⟩,h3⟩,h4⟩,h5⟩,h6⟩,h7⟩,h8⟩,h9⟩,h10⟩:=h;have h1:=BB h1;have h2:=BB h2;have h3:=BB h3;have h4:=BB h4;have h5:=BB h5;have h6:=BB h6;have h7:=BB h7;have h8:=BB h8;have h9:=BB h9;have h10:=BB h10;refine⟨rfl,fun k hk=>?_⟩
  match k,hk with
  |0,_=>exact⟨h1,h2⟩
  |1,_=>exact⟨h3,h4⟩
  |2,_=>exact⟨h5,h6⟩
  |3,_=>exact⟨h7,h8⟩
  |4,_=>exact⟨h9,h10⟩
def Rl{A:Type}:List (Bk A)→Option (List Int)
 | []=>some []
 | .lit c::r=>(match Rl r with
  |some l=>some (c::l)
  |none=>none)
 |_::_=>none
theorem Ul{A:Type}{γ:A→List Int→Prop}{ρ:Bl}:∀ {b:List (Bk A)} {l cs:List Int},H6 γ ρ b l→Rl b=some cs→l=cs
 | [],l,cs,h,hc=>by simp only[Rl,Am] at hc;subst hc;exact h
 | .lit c::r,l,cs,⟨u,w,h1,h2,h3⟩,hc=>by
  unfold Rl at hc
  split at hc
  ·rename_i l' hl
   simp only[Am] at hc;subst hc;have:=Ul h3 hl;simp only[Bk.ok] at h2;rw[h1,h2,this];rfl
  ·cases hc
 | .a n x::r,l,cs,h,hc=>by simp[Rl] at hc
 | .sx v::r,l,cs,h,hc=>by simp[Rl] at hc
 | .vec j::r,l,cs,h,hc=>by simp[Rl] at hc
def Oc:List (Bk FX)→Option FX
 | [.a _ x]=>bif x.isB then none else some x
 |b=>(match Rl b with
  |some cs=>bif AIC cs then some (.k (Nk cs)) else none
  |none=>none)
theorem El{ρ:FV}{ρe:Bl}{b:List (Bk FX)}{l:List Int}{x:FX}(h:H6 (γF ρ) ρe b l)(hx:Oc b=some x):x.isB=false∧Js (x.ev ρ) l:=by
 unfold Oc at hx
 split at hx
 ·rename_i n y
  cases hy:y.isB with
  |true=>rw[hy] at hx;cases hx
  |false=>
   rw[hy,cond_false,Am] at hx;subst hx;obtain⟨u,w,h1,h2,h3⟩:=h;have hw:w= []:=h3;rw[hw,TL] at h1;subst h1;exact⟨hy,γF_fe h2.2 hy⟩
 ·split at hx
  ·rename_i cs hcs
   cases hl:AIC cs with
   |false=>rw[hl] at hx;cases hx
   |true=>
    rw[hl,cond_true,Am] at hx;subst hx;have:=Ul h hcs;subst this;exact⟨rfl,P8 hl,rfl⟩
  ·cases hx
def qX:List (Bk FX)→Option FX
 | [.a _ x]=>bif x.isB then some x else none
 | [.lit (.ofNat 0)]=>some (.t false)
 | [.lit (.ofNat 1)]=>some (.t true)
 |_=>none
theorem Ur{ρ:FV}{ρe:Bl}{b:List (Bk FX)}{l:List Int}{x:FX}(h:H6 (γF ρ) ρe b l)(hx:qX b=some x):l= [bif x.bv ρ then 1 else 0]:=by
 unfold qX at hx
 split at hx
 ·rename_i n y
  cases hy:y.isB with
  |false=>rw[hy] at hx;cases hx
  |true=>
   rw[hy,cond_true,Am] at hx;subst hx;obtain⟨u,w,h1,h2,h3⟩:=h;have hw:w= []:=h3;rw[hw,TL] at h1;subst h1;exact γF_b h2.2 hy
 ·simp only[Am] at hx;subst hx;obtain⟨u,w,h1,h2,h3⟩:=h;have hw:w= []:=h3;rw[hw,TL] at h1;subst h1;exact h2
 ·simp only[Am] at hx;subst hx;obtain⟨u,w,h1,h2,h3⟩:=h;have hw:w= []:=h3;rw[hw,TL] at h1;subst h1;exact h2
 ·cases hx
def eP:Nat:=7237005577332262213973186563042994240829374041602535252466099000494570602493
def iL:List Int:=[1718705420411056,234908883556509,2233514472574048,2117202627021982,765476049583133]
def qM(u v:FX):FX:=.mul (.mul u (.mul (.mul v v) v)) (.pw (.mul (.mul u (.mul (.mul v v) v)) (.mul (.mul v v) (.mul v v))) eP)
def og(u v:FX):FX:=.mul v (.mul (qM u v) (qM u v))
def uJ(u:FX):FX:=.sub (.k 0) u
def sqX(u v:FX):FX:=.ite (.or (.eq (og u v) (uJ u)) (.eq (og u v) (.mul (uJ u) (.k (Nk iL))))) (.mul (qM u v) (.k (Nk iL))) (qM u v)
def VO(x:FX):FX:=.ite (.odd x) (.sub (.k 0) x) x
def nJ(u v:FX):FX:=.or (.eq (og u v) u) (.eq (og u v) (uJ u))
def sM:List Int→List Int→Bool
 | [],[]=>true
 |a::r,b::s=>Bj a b&&Bj b a&&sM r s
 |_,_=>false
theorem Zo:∀ {a b:List Int},sM a b=true→a=b
 | [],[],_=>rfl
 | [],_::_,h=>by cases h
 |_::_,[],h=>by cases h
 |a::r,b::s,h=>by
  simp only[sM,Bd] at h;rw[Int.le_antisymm (BB h.1.1) (BB h.1.2),Zo h.2]
def AFQ:List (Bk FX)→Option (List FX)
 | []=>some []
 | .a 5 x::r=>bif x.isB then none else (match AFQ r with
  |some l=>some (x::l)
  |none=>none)
 |_=>none
theorem AJM{ρ:FV}{ρe:Bl}:∀ {b:List (Bk FX)} {xs:List FX} {l:List Int},AFQ b=some xs→H6 (γF ρ) ρe b l→Em (γF ρ) (xs.map fun x=>(5,x)) l∧l.length=5*xs.length:=by
 intro b
 induction b with
 |nil=>intro xs l h hb;simp only[AFQ,Am] at h;subst h;exact⟨hb,by rw[show l= [] from hb];rfl⟩
 | cons y r ih=>
  intro xs l h hb
  unfold AFQ at h
  split at h
  ·rename_i he;cases he
  ·rename_i x r' he
   cases he
   cases hx:x.isB with
   |true=>rw[hx] at h;cases h
   | false=>
    rw[hx,cond_false] at h
    split at h
    ·rename_i l' hl'
     simp only[Am] at h;subst h;obtain⟨u,w,h1,h2,h3⟩:=hb;have:=ih hl' h3;exact⟨⟨u,w,h1,h2.1,h2.2,this.1⟩,by rw[h1,K6,this.2,h2.1,Oq];omega⟩
    ·cases h
  ·cases h
inductive KF where
 |at (bs:List Int) (c:Int)
 |cpy (n:Nat)
 |eqf|isn|abs|sqr
 |add|sub|mul|sq|neg|set
 |pw (n:Nat)
 |k (c:Int)
 |sel|swp
 |sqn
def KF.tf:KF→Nat→List (List (Bk FX))→Option (List (Nat×FX))
 | .at bs c,0,[_,b]=>(match Rl b with
  |some cs=>bif sM cs bs then some [(5,.k c)] else none
  |none=>none)
 | .cpy n,0,[_,b]=>(match AFQ b with
  |some xs=>bif Nat.beq xs.length n then some (xs.map fun x=>(5,x)) else none
  |none=>none)
 | .eqf,0,[a,b]=>(match Oc a,Oc b with
  |some x,some y=>some [(1,.eq x y)]
  |_,_=>none)
 | .isn,0,[a]=>(match Oc a with
  |some x=>some [(1,.odd x)]
  |_=>none)
 | .abs,0,[_,a]=>(match Oc a with
  |some x=>some [(5,VO x)]
  |_=>none)
 | .sqr,0,[_,a,b]=>(match Oc a,Oc b with
  |some x,some y=>some [(5,VO (sqX x y))]
  |_,_=>none)
 | .sqr,2,[_,a,b]=>(match Oc a,Oc b with
  |some x,some y=>some [(1,nJ x y)]
  |_,_=>none)
 | .add,0,[_,a,b]=>(match Oc a,Oc b with
  |some x,some y=>some [(5,.add x y)]
  |_,_=>none)
 | .sub,0,[_,a,b]=>(match Oc a,Oc b with
  |some x,some y=>some [(5,.sub x y)]
  |_,_=>none)
 | .mul,0,[_,a,b]=>(match Oc a,Oc b with
  |some x,some y=>some [(5,.mul x y)]
  |_,_=>none)
 | .sq,0,[_,a]=>(match Oc a with
  |some x=>some [(5,.mul x x)]
  |_=>none)
 | .neg,0,[_,a]=>(match Oc a with
  |some x=>some [(5,.sub (.k 0) x)]
  |_=>none)
 | .set,0,[_,a]=>(match Oc a with
  |some x=>some [(5,x)]
  |_=>none)
 | .pw n,0,[_,a]=>(match Oc a with
  |some x=>some [(5,.pw x n)]
  |_=>none)
 | .k c,0,_=>some [(5,.k c)]
 | .sqn,0,[_,a,n]=>(match Oc a,Rl n with
  |some x,some [.ofNat m]=>bif Nat.ble m 1000 then some [(5,.pw x (2^m))] else none
  |_,_=>none)
 | .sel,0,[_,a,b,c]=>(match Oc a,Oc b,qX c with
  |some x,some y,some z=>some [(5,.ite z x y)]
  |_,_,_=>none)
 | .swp,0,[a,b,c]=>(match Oc a,Oc b,qX c with
  |some x,some y,some z=>some [(5,.ite z y x)]
  |_,_,_=>none)
 | .swp,1,[a,b,c]=>(match Oc a,Oc b,qX c with
  |some x,some y,some z=>some [(5,.ite z x y)]
  |_,_,_=>none)
 |_,_,_=>none
structure OU (T:Tb) (f:Nat) (args:List (List Int)):Prop where
 pre:∃ s,lk f T=some s∧(s.sel true).pre args
def gv(T:Tb)(f o:Nat)(args:List (List Int)):List Int:=OP.den T (.fn f true o) args
def kZ(b:Bool):List Int:=[bif b then 1 else 0]
def FX.v2(x y:Fp):FV:=⟨fun n=>[x,y].getD n 0,fun _=>false⟩
def KF.Ok(T:Tb)(f:Nat):KF→Prop
 | .at bs c=>∀ v,OU T f [v,bs]∧Js (Ki c) (gv T f 0 [v,bs])
 | .cpy n=>∀ (v l:List Int),l.length=5*n→OU T f [v,l]∧gv T f 0 [v,l]=l
 | .eqf=>∀ a b x y,Js x a→Js y b→OU T f [a,b]∧gv T f 0 [a,b]=kZ (ZP x y)
 | .isn=>∀ a x,Js x a→OU T f [a]∧gv T f 0 [a]=kZ (Nat.beq (x.val%2) 1)
 | .abs=>∀ v a x,Js x a→OU T f [v,a]∧Js (bif Nat.beq (x.val%2) 1 then 0-x else x) (gv T f 0 [v,a])
 | .sqr=>∀ v a b x y,Js x a→Js y b→OU T f [v,a,b]∧Js ((VO (sqX (.v 0) (.v 1))).ev (FX.v2 x y)) (gv T f 0 [v,a,b])∧gv T f 2 [v,a,b]=kZ ((nJ (.v 0) (.v 1)).bv (FX.v2 x y))
 | .add=>∀ v a b x y,Js x a→Js y b→OU T f [v,a,b]∧Js (x+y) (gv T f 0 [v,a,b])
 | .sub=>∀ v a b x y,Js x a→Js y b→OU T f [v,a,b]∧Js (x-y) (gv T f 0 [v,a,b])
 | .mul=>∀ v a b x y,Js x a→Js y b→OU T f [v,a,b]∧Js (x*y) (gv T f 0 [v,a,b])
 | .sq=>∀ v a x,Js x a→OU T f [v,a]∧Js (x*x) (gv T f 0 [v,a])
 | .neg=>∀ v a x,Js x a→OU T f [v,a]∧Js (0-x) (gv T f 0 [v,a])
 | .set=>∀ v a x,Js x a→OU T f [v,a]∧Js x (gv T f 0 [v,a])
 | .pw n=>∀ v a x,Js x a→OU T f [v,a]∧Js (Kl x n) (gv T f 0 [v,a])
 | .k c=>∀ args,OU T f args∧Js (Ki c) (gv T f 0 args)
 | .sqn=>∀ v a x (n:Nat),n≤1000→Js x a→OU T f [v,a,[(n:Int)]]∧Js (Kl x (2^n)) (gv T f 0 [v,a,[(n:Int)]])
 | .sel=>∀ v a b x y (c:Bool),Js x a→Js y b→OU T f [v,a,b,[bif c then 1 else 0]]∧Js (bif c then x else y) (gv T f 0 [v,a,b,[bif c then 1 else 0]])
 | .swp=>∀ a b x y (c:Bool),Js x a→Js y b→OU T f [a,b,[bif c then 1 else 0]]∧Js (bif c then y else x) (gv T f 0 [a,b,[bif c then 1 else 0]])∧Js (bif c then x else y) (gv T f 1 [a,b,[bif c then 1 else 0]])
theorem FX.c5(x:FX)(l:List Int)(ρ:FV)(hb:x.isB=false)(h:Js (x.ev ρ) l):Em (γF ρ) [(5,x)] l:=
 ⟨l,[],by simp,h.1.1,by unfold γF;rw[hb];exact h,rfl⟩
theorem Ig{ρ:FV}{ρe:Bl}{a:List (Bk FX)}{as:List (List (Bk FX))}{ins:List (List Int)}(h:iK (γF ρ) ρe (a::as) ins):∃ x xs,ins=x::xs∧H6 (γF ρ) ρe a x∧iK (γF ρ) ρe as xs:=by
 match ins,h with
 |x::xs,h=>exact⟨x,xs,rfl,h.1,h.2⟩
theorem Rx{ρ:FV}{ρe:Bl}{ins:List (List Int)}(h:iK (γF ρ) ρe [] ins):ins= []:=by
 match ins,h with
 | [],h=>rfl
theorem FX.c1(x:FX)(l:List Int)(ρ:FV)(hb:x.isB=true)(h:l=kZ (x.bv ρ)):Em (γF ρ) [(1,x)] l:=
 ⟨l,[],by simp,by rw[h];rfl,by unfold γF;rw[hb];exact h,rfl⟩
theorem KF.sound{T:Tb}{f:Nat}{κ:KF}(hk:κ.Ok T f){o:Nat}{pa:List (List (Bk FX))}{r:List (Nat×FX)}(h:κ.tf o pa=some r){ρ:FV}{ρe:Bl}{ins:List (List Int)}(hp:iK (γF ρ) ρe pa ins):OU T f ins∧Em (γF ρ) r (gv T f o ins):=by
 unfold KF.tf at h
 split at h
 ·obtain⟨v,_,rfl,_,hp⟩:=Ig hp;obtain⟨b,_,rfl,hb,hp⟩:=Ig hp
  cases Rx hp
  split at h
  ·rename_i cs hcs
   cases he:sM cs _ with
   |false=>rw[he] at h;cases h
   |true=>
    rw[he,cond_true,Am] at h;subst h;have e1:=Ul hb hcs;have e2:=Zo he;subst e1;subst e2;have:=hk v;exact⟨this.1,FX.c5 _ _ _ rfl this.2⟩
  ·cases h
 ·obtain⟨v,_,rfl,_,hp⟩:=Ig hp;obtain⟨b,_,rfl,hb,hp⟩:=Ig hp
  cases Rx hp
  split at h
  ·rename_i xs hxs
   cases he:Nat.beq xs.length _ with
   |false=>rw[he] at h;cases h
   |true=>
    rw[he,cond_true,Am] at h;subst h;have e1:=CL he;subst e1;obtain⟨g1,g2⟩:=AJM hxs hb;have:=hk v b g2;exact⟨this.1,by rw[this.2];exact g1⟩
  ·cases h
 ·obtain⟨a,_,rfl,ha,hp⟩:=Ig hp;obtain⟨b,_,rfl,hb,hp⟩:=Ig hp
  cases Rx hp
  split at h
  ·rename_i x y hx hy
   simp only[Am] at h;subst h;have:=hk a b _ _ (El ha hx).2 (El hb hy).2;exact⟨this.1,FX.c1 _ _ _ rfl this.2⟩
  ·cases h
 ·obtain⟨a,_,rfl,ha,hp⟩:=Ig hp
  cases Rx hp
  split at h
  ·rename_i x hx
   simp only[Am] at h;subst h;have:=hk a _ (El ha hx).2;exact⟨this.1,FX.c1 _ _ _ rfl this.2⟩
  ·cases h
 ·obtain⟨v,_,rfl,_,hp⟩:=Ig hp;obtain⟨a,_,rfl,ha,hp⟩:=Ig hp
  cases Rx hp
  split at h
  ·rename_i x hx
   simp only[Am] at h;subst h;have:=hk v a _ (El ha hx).2;refine⟨this.1,FX.c5 _ _ _ rfl ?_⟩;show Js (bif Nat.beq ((x.ev ρ).val%2) 1 then Ki 0-x.ev ρ else x.ev ρ) _;rw[LW];exact this.2
  ·cases h
 ·obtain⟨v,_,rfl,_,hp⟩:=Ig hp;obtain⟨a,_,rfl,ha,hp⟩:=Ig hp;obtain⟨b,_,rfl,hb,hp⟩:=Ig hp
  cases Rx hp
  split at h
  ·rename_i x y hx hy
   simp only[Am] at h;subst h;have:=hk v a b _ _ (El ha hx).2 (El hb hy).2;exact⟨this.1,FX.c5 _ _ _ rfl this.2.1⟩
  ·cases h
 ·obtain⟨v,_,rfl,_,hp⟩:=Ig hp;obtain⟨a,_,rfl,ha,hp⟩:=Ig hp;obtain⟨b,_,rfl,hb,hp⟩:=Ig hp
  cases Rx hp
  split at h
  ·rename_i x y hx hy
   simp only[Am] at h;subst h;have:=hk v a b _ _ (El ha hx).2 (El hb hy).2;exact⟨this.1,FX.c1 _ _ _ rfl this.2.2⟩
  ·cases h
 ·obtain⟨v,_,rfl,_,hp⟩:=Ig hp;obtain⟨a,_,rfl,ha,hp⟩:=Ig hp;obtain⟨b,_,rfl,hb,hp⟩:=Ig hp
  cases Rx hp
  split at h
  ·rename_i x y hx hy
   simp only[Am] at h;subst h;have:=hk v a b _ _ (El ha hx).2 (El hb hy).2;exact⟨this.1,FX.c5 _ _ _ rfl this.2⟩
  ·cases h
 ·obtain⟨v,_,rfl,_,hp⟩:=Ig hp;obtain⟨a,_,rfl,ha,hp⟩:=Ig hp;obtain⟨b,_,rfl,hb,hp⟩:=Ig hp
  cases Rx hp
  split at h
  ·rename_i x y hx hy
   simp only[Am] at h;subst h;have:=hk v a b _ _ (El ha hx).2 (El hb hy).2;exact⟨this.1,FX.c5 _ _ _ rfl this.2⟩
  ·cases h
 ·obtain⟨v,_,rfl,_,hp⟩:=Ig hp;obtain⟨a,_,rfl,ha,hp⟩:=Ig hp;obtain⟨b,_,rfl,hb,hp⟩:=Ig hp
  cases Rx hp
  split at h
  ·rename_i x y hx hy
   simp only[Am] at h;subst h;have:=hk v a b _ _ (El ha hx).2 (El hb hy).2;exact⟨this.1,FX.c5 _ _ _ rfl this.2⟩
  ·cases h
 ·obtain⟨v,_,rfl,_,hp⟩:=Ig hp;obtain⟨a,_,rfl,ha,hp⟩:=Ig hp
  cases Rx hp
  split at h
  ·rename_i x hx
   simp only[Am] at h;subst h;have:=hk v a _ (El ha hx).2;exact⟨this.1,FX.c5 _ _ _ rfl this.2⟩
  ·cases h
 ·obtain⟨v,_,rfl,_,hp⟩:=Ig hp;obtain⟨a,_,rfl,ha,hp⟩:=Ig hp
  cases Rx hp
  split at h
  ·rename_i x hx
   simp only[Am] at h;subst h;have:=hk v a _ (El ha hx).2;exact⟨this.1,FX.c5 _ _ _ rfl (by show Js (Ki 0-x.ev ρ) _;rw[LW];exact this.2)⟩
  ·cases h
 ·obtain⟨v,_,rfl,_,hp⟩:=Ig hp;obtain⟨a,_,rfl,ha,hp⟩:=Ig hp
  cases Rx hp
  split at h
  ·rename_i x hx
   simp only[Am] at h;subst h;have:=hk v a _ (El ha hx).2;exact⟨this.1,FX.c5 _ _ _ (El ha hx).1 this.2⟩
  ·cases h
 ·obtain⟨v,_,rfl,_,hp⟩:=Ig hp;obtain⟨a,_,rfl,ha,hp⟩:=Ig hp
  cases Rx hp
  split at h
  ·rename_i x hx
   simp only[Am] at h;subst h;have:=hk v a _ (El ha hx).2;exact⟨this.1,FX.c5 _ _ _ rfl this.2⟩
  ·cases h
 ·simp only[Am] at h;subst h;have:=hk ins;exact⟨this.1,FX.c5 _ _ _ rfl this.2⟩
 ·obtain⟨v,_,rfl,_,hp⟩:=Ig hp;obtain⟨a,_,rfl,ha,hp⟩:=Ig hp;obtain⟨n,_,rfl,hn,hp⟩:=Ig hp
  cases Rx hp
  split at h
  ·rename_i x m hx hm
   cases hb:Nat.ble m 1000 with
   |false=>rw[hb] at h;cases h
   |true=>
    rw[hb,cond_true,Am] at h;subst h;have e:=Ul hn hm;subst e;have:=hk v a _ m (Na hb) (El ha hx).2;exact⟨this.1,FX.c5 _ _ _ rfl this.2⟩
  ·cases h
 ·obtain⟨v,_,rfl,_,hp⟩:=Ig hp;obtain⟨a,_,rfl,ha,hp⟩:=Ig hp;obtain⟨b,_,rfl,hb,hp⟩:=Ig hp;obtain⟨c,_,rfl,hc,hp⟩:=Ig hp
  cases Rx hp
  split at h
  ·rename_i x y z hx hy hz
   simp only[Am] at h;subst h;have hz:=Ur hc hz;subst hz;have:=hk v a b _ _ (z.bv ρ) (El ha hx).2 (El hb hy).2;exact⟨this.1,FX.c5 _ _ _ rfl this.2⟩
  ·cases h
 ·obtain⟨a,_,rfl,ha,hp⟩:=Ig hp;obtain⟨b,_,rfl,hb,hp⟩:=Ig hp;obtain⟨c,_,rfl,hc,hp⟩:=Ig hp
  cases Rx hp
  split at h
  ·rename_i x y z hx hy hz
   simp only[Am] at h;subst h;have hz:=Ur hc hz;subst hz;have:=hk a b _ _ (z.bv ρ) (El ha hx).2 (El hb hy).2;exact⟨this.1,FX.c5 _ _ _ rfl this.2.1⟩
  ·cases h
 ·obtain⟨a,_,rfl,ha,hp⟩:=Ig hp;obtain⟨b,_,rfl,hb,hp⟩:=Ig hp;obtain⟨c,_,rfl,hc,hp⟩:=Ig hp
  cases Rx hp
  split at h
  ·rename_i x y z hx hy hz
   simp only[Am] at h;subst h;have hz:=Ur hc hz;subst hz;have:=hk a b _ _ (z.bv ρ) (El ha hx).2 (El hb hy).2;exact⟨this.1,FX.c5 _ _ _ rfl this.2.2⟩
  ·cases h
 ·cases h
def opF(op:OP)(pa:List (List (Bk FX))):Option (List (Nat×FX)):=match op,pa with
 | .bin .or .i64,[a,b]=>(match qX a,qX b with
  |some x,some y=>some [(1,.or x y)]
  |_,_=>none)
 | .bin .eql .i64,[a,[.lit (.ofNat 0)]]=>(match qX a with
  |some x=>some [(1,.not x)]
  |_=>none)
 |_,_=>none
theorem AN2{T:Tb}{op:OP}{pa:List (List (Bk FX))}{r:List (Nat×FX)}(h:opF op pa=some r){ρ:FV}{ρe:Bl}{ins:List (List Int)}(hp:iK (γF ρ) ρe pa ins):Em (γF ρ) r (op.den T ins):=by
 unfold opF at h
 split at h
 ·obtain⟨a,_,rfl,ha,hp⟩:=Ig hp;obtain⟨b,_,rfl,hb,hp⟩:=Ig hp
  cases Rx hp
  split at h
  ·rename_i x y hx hy
   simp only[Am] at h;subst h;have h1:=Ur ha hx;have h2:=Ur hb hy;subst h1;subst h2;refine FX.c1 _ _ _ rfl ?_;show [Ao .or .i64 (bif x.bv ρ then 1 else 0) (bif y.bv ρ then 1 else 0)]=kZ (x.bv ρ||y.bv ρ)
   cases x.bv ρ<;>cases y.bv ρ<;>decide +kernel
  ·cases h
 ·obtain⟨a,_,rfl,ha,hp⟩:=Ig hp;obtain⟨b,_,rfl,hb,hp⟩:=Ig hp
  cases Rx hp
  split at h
  ·rename_i x hx
   simp only[Am] at h;subst h;have h1:=Ur ha hx;obtain⟨u,w,g1,g2,g3⟩:=hb;have hw:w= []:=g3;rw[hw,TL] at g1;subst g1;have g2':b= [Int.ofNat 0]:=g2;subst h1;subst g2';refine FX.c1 _ _ _ rfl ?_;show [Ao .eql .i64 (bif x.bv ρ then 1 else 0) 0]=kZ (!x.bv ρ)
   cases x.bv ρ<;>decide +kernel
  ·cases h
 ·cases h
def vG(M:List (Nat×KF)):Tf FX where
 o:=opF
 f f o pa:=match lk f M with
  |some κ=>κ.tf o pa
  |none=>none
 p f pa:=match lk f M with
  |some κ=>(κ.tf 0 pa).isSome
  |none=>false
inductive MF (T:Tb):List (Nat×KF)→Prop where
 |nil:MF T []
 |cons {f:Nat} {κ:KF} {M:List (Nat×KF)}:κ.Ok T f→MF T M→MF T ((f,κ)::M)
theorem MF.get{T:Tb}:∀ {M:List (Nat×KF)},MF T M→∀ {f:Nat} {κ:KF},lk f M=some κ→κ.Ok T f
 |_,.nil,f,κ,h=>by cases h
 | _,.cons (f:=g) h1 h2,f,κ,h=>by
  simp only[lk] at h
  cases hb:Nat.beq g f with
  |true=>
   rw[hb,cond_true,Am] at h;have:=CL hb;subst this;subst h;exact h1
  |false=>rw[hb] at h;exact h2.get h
theorem aB{T:Tb}{M:List (Nat×KF)}(hM:MF T M)(ρ:FV):fT (γF ρ) T (vG M) where
 f f o pa r h ρe ins hp:=by
  simp only[vG] at h
  split at h
  ·rename_i κ hk;exact (KF.sound (hM.get hk) h hp).2
  ·cases h
 o op pa r h ρe ins hp:=AN2 h hp
 p f pa h ρe ins hp:=by
  simp only[vG] at h
  split at h
  ·rename_i κ hk
   obtain⟨r,hr⟩:=Option.isSome_iff_exists.1 h;exact (KF.sound (hM.get hk) hr hp).1.pre
  ·cases h
def FX.beq:FX→FX→Bool
 | .v m,.v n=>Nat.beq m n
 | .k m,.k n=>sM [m] [n]
 | .add p q,.add r s=>p.beq r&&q.beq s
 | .sub p q,.sub r s=>p.beq r&&q.beq s
 | .mul p q,.mul r s=>p.beq r&&q.beq s
 | .pw p m,.pw r n=>p.beq r&&Nat.beq m n
 | .b m,.b n=>Nat.beq m n
 | .ite p q w,.ite r s z=>p.beq r&&q.beq s&&w.beq z
 | .eq p q,.eq r s=>p.beq r&&q.beq s
 | .or p q,.or r s=>p.beq r&&q.beq s
 | .odd p,.odd r=>p.beq r
 | .not p,.not r=>p.beq r
 |_,_=>false
theorem FX.beq_ok(ρ:FV):∀ {x y:FX},x.beq y=true→x.eb ρ=y.eb ρ:=by
 intro x
 induction x with
 |v n=>intro y h;cases y<;>simp only[FX.beq,Rc] at h;rw[CL h]
 |k c=>intro y h;cases y<;>simp only[FX.beq,Rc] at h;have:=Zo h;simp only[List.cons.injEq,and_true] at this;rw[this]
 |add a b iha ihb=>intro y h;cases y<;>simp only[FX.beq,Bd,Rc] at h;simp only[FX.eb,iha h.1,ihb h.2]
 |sub a b iha ihb=>intro y h;cases y<;>simp only[FX.beq,Bd,Rc] at h;simp only[FX.eb,iha h.1,ihb h.2]
 |mul a b iha ihb=>intro y h;cases y<;>simp only[FX.beq,Bd,Rc] at h;simp only[FX.eb,iha h.1,ihb h.2]
 |pw a n iha=>intro y h;cases y<;>simp only[FX.beq,Bd,Rc] at h;simp only[FX.eb,iha h.1,CL h.2]
 |b n=>intro y h;cases y<;>simp only[FX.beq,Rc] at h;rw[CL h]
 |ite a b c iha ihb ihc=>intro y h;cases y<;>simp only[FX.beq,Bd,Rc] at h;simp only[FX.eb,iha h.1.1,ihb h.1.2,ihc h.2]
 |t c=>intro y h;cases y<;>simp only[FX.beq,Rc] at h
 |eq a b iha ihb=>intro y h;cases y<;>simp only[FX.beq,Bd,Rc] at h;simp only[FX.eb,iha h.1,ihb h.2]
 |or a b iha ihb=>intro y h;cases y<;>simp only[FX.beq,Bd,Rc] at h;simp only[FX.eb,iha h.1,ihb h.2]
 |odd a iha=>intro y h;cases y<;>simp only[FX.beq,Rc] at h;simp only[FX.eb,iha h]
 |not a iha=>intro y h;cases y<;>simp only[FX.beq,Rc] at h;simp only[FX.eb,iha h]
def AED(H:List FX)(_:List (Nat×FR))(s:BS FX):JM→Bool
 | .zr (.v n 0)=>(match lk n s with
  |some [(1,x)]=>x.isB&&H.any (fun y=>x.beq y)
  |_=>false)
 |_=>false
theorem AJ8{H:List FX}{ρ:FV}(hH:∀ x∈H,x.bv ρ=false){T:Tb}(ds:List (Nat×FR)):nL (γF ρ) T ds (AED H ds):=fun ρe s q _ hs h=>by
 unfold AED at h
 split at h
 ·rename_i n
  split at h
  ·rename_i x hx
   simp only[Bd,List.any_eq_true] at h;obtain⟨h1,y,h2,h3⟩:=h;obtain⟨u,w,g1,g2,g3,g4⟩:=hs n _ hx;have hw:w= []:=g4;rw[hw,TL] at g1;have g5:=γF_b g3 h1;have e:x.bv ρ=false:=by
    have:=hH y h2;unfold FX.bv at *
    rw[FX.beq_ok ρ h3];exact this
   rw[e] at g5;show (ρe n).getD 0 0=0;rw[g1,g5];rfl
  ·cases h
 ·cases h
end
section
open Go Ma
def nI(u v:Fp):Fp:=u*(v*v*v)*Kl (u*(v*v*v)*(v*v*(v*v))) eP
def Xp(u v:Fp):Fp:=v*(nI u v*nI u v)
theorem AGO(w:Fp)(n:Nat):Kl (w*w) n=Kl w n*Kl w n:=by
 rw[← Mr];have:w*w=Kl w 2:=by rw[JS,QD]
 rw[this,Uq,Nat.two_mul]
theorem ANL{a:Fp}(h:a*a=1):a=1∨a= -1:=by
 by_cases h1:a=1
 ·exact .inl h1
 ·right
  have h2:a-1≠0:=fun h0=>h1 (by grind)
  refine Om (c:=a-1) h2 ?_
  grind
theorem chi{w:Fp}(h:w≠0):Kl w eH=1∨Kl w eH= -1:=by
 apply ANL
 rw[← Mr];exact Vp h
theorem Qx{a b:Fp}(h:a*b=0):a=0∨b=0:=by
 by_cases ha:a=0
 ·exact .inl ha
 ·by_cases hb:b=0
  ·exact .inr hb
  ·exact absurd h (Ei ha hb)
theorem AOx{u v x:Fp}(h:v*(x*x)=u):Xp u v=u∨Xp u v= -u:=by
 by_cases hu:u=0
 ·left
  have h0:nI u v=0:=by unfold nI;rw[hu];grind
  unfold Xp;rw[h0,hu];grind
 ·have hv:v≠0:=fun h0=>hu (by rw[← h,h0];grind)
  have hx:x≠0:=fun h0=>hu (by rw[← h,h0];grind)
  have hw:v*v*v*v*x≠0:=Ei (Ei (Ei (Ei hv hv) hv) hv) hx;have e1:u*(v*v*v)*(v*v*(v*v))=(v*v*v*v*x)*(v*v*v*v*x):=by rw[← h];grind
  have e2:u*(v*v*v)=(v*v*v*v*x)*x:=by rw[← h];grind
  have key:Xp u v=u*Kl (v*v*v*v*x) eH:=by
   unfold Xp nI;rw[e1,AGO,e2];have e3:Kl (v*v*v*v*x) eH=Kl (v*v*v*v*x) eP*Kl (v*v*v*v*x) eP*(Kl (v*v*v*v*x) eP*Kl (v*v*v*v*x) eP)*((v*v*v*v*x)*(v*v*v*v*x)):=by
    have:eH=eP+eP+(eP+eP)+2:=by decide +kernel
    rw[this,Mr,Mr,Mr,JS _ 1,QD]
   rw[e3];generalize Kl (v*v*v*v*x) eP=s;generalize v*v*v*v*x=w;rw[← h]
   grind
  rw[key]
  rcases chi hw with e|e<;>rw[e]
  ·left;grind
  ·right;grind
theorem AN1:iE*iE= -1:=by decide +kernel
theorem ASG{u v r:Fp}(hf:Xp u v=u∨Xp u v= -u)(hr:r=bif ZP (Xp u v) (-u)||ZP (Xp u v) (-u*iE) then nI u v*iE else nI u v):v*(r*r)=u:=by
 have hC:v*(nI u v*nI u v)=Xp u v:=rfl;have hi:=AN1;have hi2:(2:Fp)≠0:=uq
 by_cases h1:Xp u v= -u
 ·rw[QI.2 h1] at hr;simp only[Bool.true_or,cond_true] at hr;rw[hr];generalize Xp u v=c at *
  generalize nI u v=s at *
  grind
 ·rw [dm h1] at hr;have h0:Xp u v=u:=by
   rcases hf with h|h
   ·exact h
   ·exact absurd h h1
  by_cases h2:Xp u v= -u*iE
  ·have hu:u=0:=by
    have h3:u*(1+iE)=0:=by rw[h0] at h2;grind
    rcases Qx h3 with h|h
    ·exact h
    ·exfalso;have:iE= -1:=by grind
     rw[this] at hi;exact hi2 (by grind)
   exact absurd (by rw[h0,hu];grind) h1
  ·rw[dm h2] at hr;simp only[Bool.or_false,cond_false] at hr;rw[hr,hC,h0]
theorem AQc:Ki (Nk iL)=iE:=by decide +kernel
theorem ALs(x y:Fp):(nJ (.v 0) (.v 1)).bv (FX.v2 x y)=(ZP (Xp x y) x||ZP (Xp x y) (0-x)):=by
 simp only[FX.bv,nJ,og,qM,uJ,FX.eb,FX.v2,Xp,nI,LW,Qu,Ze]
theorem AOJ(x y:Fp):(VO (sqX (.v 0) (.v 1))).ev (FX.v2 x y)=(let r:=bif ZP (Xp x y) (0-x)||ZP (Xp x y) ((0-x)*iE) then nI x y*iE else nI x y;bif Nat.beq (r.val%2) 1 then 0-r else r):=by
 simp only[FX.ev,VO,sqX,og,qM,uJ,FX.eb,FX.v2,Xp,nI,LW,AQc,Qu,Ze]
theorem oQ{r:Fp}(h:r.val%2=1):(0-r).val%2=0:=by
 have h1:=r.isLt;have h2:(0-r).val=PP-r.val:=by
  have h3:(0-r)+r=0:=by grind
  have h4:=QL Fin.val h3;rw[Fin.val_add] at h4;have h5:=(0-r).isLt;have h6:(0:Fp).val=0:=rfl;rw[h6] at h4;have h7:=Nat.div_add_mod ((0-r).val+r.val) PP;rw[h4,Q3] at h7;generalize ((0-r).val+r.val)/PP=q at h7;generalize (0-r).val=a at *
  generalize r.val=b at *
  have h9:PP*q<PP*2:=by omega
  have h10:q<2:=Nat.lt_of_mul_lt_mul_left h9
  match q,h10 with
  |0,_=>rw[Nat.mul_zero] at h7;omega
  |1,_=>rw[Nat.mul_one] at h7;omega
 rw[h2];have:PP%2=1:=by decide +kernel
 omega
theorem ACG(r:Fp):(bif Nat.beq (r.val%2) 1 then 0-r else r).val%2=0:=by
 rcases Nat.mod_two_eq_zero_or_one r.val with h|h
 ·rw[h];show r.val%2=0;exact h
 ·rw[h];show (0-r).val%2=0;exact oQ h
theorem APE(r:Fp):(bif Nat.beq (r.val%2) 1 then 0-r else r)*(bif Nat.beq (r.val%2) 1 then 0-r else r)=r*r:=by
 cases Nat.beq (r.val%2) 1
 ·rfl
 ·simp only[cond_true];grind
theorem AFv{f:Bool}{u v R:Fp}(h1:(∃ x,v*(x*x)=u)→f=true)(h2:f=true→v*(R*R)=u):(f=true↔∃ x,v*(x*x)=u)∧(f=true→v*((let r:=R;bif Nat.beq (r.val%2) 1 then 0-r else r)*(let r:=R;bif Nat.beq (r.val%2) 1 then 0-r else r))=u)∧(let r:=R;bif Nat.beq (r.val%2) 1 then 0-r else r).val%2=0:=by
 refine⟨⟨fun h=>⟨_,h2 h⟩,h1⟩,fun h=>?_,ACG _⟩;simp only;rw[APE];exact h2 h
theorem Zw(u v:Fp):((nJ (.v 0) (.v 1)).bv (FX.v2 u v)=true↔∃ x,v*(x*x)=u)∧((nJ (.v 0) (.v 1)).bv (FX.v2 u v)=true→v*((VO (sqX (.v 0) (.v 1))).ev (FX.v2 u v)*(VO (sqX (.v 0) (.v 1))).ev (FX.v2 u v))=u)∧((VO (sqX (.v 0) (.v 1))).ev (FX.v2 u v)).val%2=0:=by
 rw[ALs,AOJ];have hn:(0:Fp)-u= -u:=by grind
 rw[hn];have h1:(∃ x,v*(x*x)=u)→(ZP (Xp u v) u||ZP (Xp u v) (-u))=true:=fun ⟨x,hx⟩=>by
  rw[Bool.or_eq_true,QI,QI];exact AOx hx
 have h2:(ZP (Xp u v) u||ZP (Xp u v) (-u))=true→v*((bif ZP (Xp u v) (-u)||ZP (Xp u v) (-u*iE) then nI u v*iE else nI u v)*(bif ZP (Xp u v) (-u)||ZP (Xp u v) (-u*iE) then nI u v*iE else nI u v))=u:=fun h=>by
  rw[Bool.or_eq_true,QI,QI] at h;exact ASG h rfl
 exact AFv h1 h2
end
end Go.Proofs.YtloibefkijfdlaaGreatDoor
