/- A walk over trees of calls: what is known of a list is told block by block. -/
import Derived.Test.YtloibefkijfdlaaGreatDoorCa
namespace Go.Proofs.YtloibefkijfdlaaGreatDoor
section
open Go
inductive Bk (A:Type) where
 |a (n:Nat) (x:A)
 |lit (c:Int)
 |sx (v:X)
 |vec (j:Nat)
section
variable{A:Type}(γ:A->List Int->Prop)
def Bk.ok(ρ:Br):Bk A->List Int->Prop
 | .a n y,l=>l.length=n/\γ y l
 | .lit c,l=>l= [c]
 | .sx v,l=>l= [v.den ρ]
 | .vec j,l=>l=ρ j
def GZ(ρ:Br):List (Bk A)->List Int->Prop
 | [],l=>l= []
 |b::bs,l=>∃u w,l=u++w/\b.ok γ ρ u/\GZ ρ bs w
def Ei:List (Nat×A)->List Int->Prop
 | [],l=>l= []
 |(n,x)::bs,l=>∃u w,l=u++w/\u.length=n/\γ x u/\Ei bs w
def yw(bs:List (Nat×A)):List (Bk A):=bs.map λp=>.a p.1 p.2
theorem Ei.bk{ρ:Br}:∀ {bs:List (Nat×A)} {l:List Int},Ei γ bs l->GZ γ ρ (yw bs) l
 | [],_l,h=>h
 |(_n,_x)::_bs,_l,⟨u,w,h1,h2,h3,h4⟩=>⟨u,w,h1,⟨h2,h3⟩,Ei.bk h4⟩
abbrev BS (A:Type):=List (Nat×List (Nat×A))
def Uy(ρ:Br)(s:BS A):Prop:=∀i bs,lk i s=some bs->Ei γ bs (ρ i)
def rO:List (Nat×A)->Nat->Option (Nat×A)
 | [],_=>none
 |(n,x)::r,k=>bif Nat.beq k 0 then some (n,x) else bif Nat.ble n k then rO r (k-n) else none
theorem jF:∀ {bs:List (Nat×A)} {k n:Nat} {x:A} {l:List Int},Ei γ bs l->rO bs k=some (n,x)->∃p u q,l=p++u++q/\p.length=k/\u.length=n/\γ x u
 | [],k,n,x,l,_,h=>by cases h
 | (m,y)::r,k,n,x,l,⟨u,w,h1,h2,h3,h4⟩,h=>by
  unfold rO at h;cases hb:Nat.beq k 0 with
  |true=>
   rw[hb,cond_true,Ai,Prod.mk.injEq] at h;obtain⟨rfl,rfl⟩:=h;exact⟨[],u,w,by rw[h1];rfl,(CR hb).symm,h2,h3⟩
  | false=>
   rw[hb,cond_false] at h;cases hc:Nat.ble m k with
   |false=>rw[hc] at h;cases h
   |true=>
    rw[hc,cond_true] at h;obtain⟨p,v,q,g1,g2,g3,g4⟩:=jF h4 h;have:=MQ hc;exact⟨u++p,v,q,by rw[h1,g1];simp,by simp;omega,g3,g4⟩
def NV (s:BS A):Nat->List X->Option (List (Bk A))
 |_,[]=>some []
 |0,_::_=>none
 |f+1,.lit c::r=>(match NV s f r with
  |some bs=>some (.lit c::bs)
  |none=>none)
 |f+1,.v i k::r=>(match (match lk i s with
  |some bs=>rO bs k
  |none=>none) with
  | some (n+1,x)=>bif Ph i (k+1) (r.take n)&&Nat.beq (r.take n).length n then(match NV s f (r.drop n) with
    |some bs=>some (.a (n+1) x::bs)
    |none=>none) else(match NV s f r with
    |some bs=>some (.sx (.v i k)::bs)
    |none=>none)
  | _=>(match NV s f r with
    |some bs=>some (.sx (.v i k)::bs)
    |none=>none))
theorem Xc{ρ:Br}{i:Nat}:∀ {l:List X} {k:Nat},Ph i k l=true->l.map (·.den ρ)=(List.range l.length).map λj=>(ρ i).getD (k+j) 0
 | [],k,_=>rfl
 | .lit _::_,_,h=>by cases h
 | .v j m::r,k,h=>by
  simp only[Ph,Bl] at h;have e1:=CR h.1.1;have e2:=CR h.1.2;subst e1;subst e2;rw[NE,Xc h.2,Uk,List.range_succ_eq_map,NE,List.map_map]
  congr 1
  apply Zx;intro j _;simp only[Function.comp]
  congr 1;omega
theorem ADu{p u q:List Int}:(List.range u.length).map (λj=>(p++u++q).getD (p.length+j) 0)=u:=by
 apply List.ext_getElem (by simp);intro j h1 h2;simp only[List.getElem_map,List.getElem_range];rw[List.getD,bU,dh (by omega),Nat.add_sub_cancel_left,Zm h2,JC h2];rfl
theorem PG{ρ:Br}{s:BS A}(hs:Uy γ ρ s):∀(f:Nat) (l:List X) (bs:List (Bk A)),NV s f l=some bs->GZ γ ρ bs (l.map (·.den ρ))
 |_,[],bs,h=>by unfold NV at h;simp only[Ai] at h;subst h;rfl
 |0,_::_,bs,h=>by simp[NV] at h
 | f+1,.lit c::r,bs,h=>by
  unfold NV at h;split at h
  ·rename_i DQ hr;simp only[Ai] at h;subst h;exact⟨[c],_,rfl,rfl,PG hs f r DQ hr⟩
  ·cases h
 | f + 1,.v i k::r,bs,h=>by
  have one:∀DQ,NV s f r=some DQ->GZ γ ρ (.sx (.v i k)::DQ) ((X.v i k::r).map (·.den ρ)):=λDQ hr=>⟨[_],_,rfl,rfl,PG hs f r DQ hr⟩
  have adi:(match NV s f r with
    |some bs=>some (.sx (.v i k)::bs)
    |none=>none)=some bs->GZ γ ρ bs ((X.v i k::r).map (·.den ρ)):=λh=>by
   split at h
   ·rename_i DQ hr;simp only[Ai] at h;subst h;exact one DQ hr
   ·cases h
  unfold NV at h;split at h
  ·rename_i n x hx;cases hb:(Ph i (k+1) (r.take n)&&Nat.beq (r.take n).length n) with
   |false=>rw[hb,cond_false] at h;exact adi h
   | true=>
    rw[hb,cond_true] at h;simp only[Bl] at hb;have hlen:=CR hb.2;split at h
    ·rename_i DQ hr;simp only[Ai] at h;subst h;split at hx
     ·rename_i bl SJ;obtain⟨p,u,q,h1,h2,h3,h4⟩:=jF γ (hs i bl SJ) hx;refine⟨u,(r.drop n).map (·.den ρ),?_,⟨h3,h4⟩,PG hs f _ DQ hr⟩;have e1:(X.v i k::r.take n).map (·.den ρ)=u:=by
       have:=Xc (ρ:=ρ) (i:=i) (l:=X.v i k::r.take n) (k:=k) (by simp[Ph,hb.1]);rw[this,Uk,hlen,h1, <- h2,show n+1=u.length from h3.symm];exact ADu
      rw[<- e1, <- List.map_append];simp
     ·cases hx
    ·cases h
  ·exact adi h
def qI(s:BS A):IZ->Option (List (Bk A))
 | .vec j=>some (match lk j s with
  |some bs=>yw bs
  |none=>[.vec j])
 | .xs l=>NV s l.length l
theorem x9{ρ:Br}{s:BS A}(hs:Uy γ ρ s){a:IZ}{bs:List (Bk A)}(h:qI s a=some bs):GZ γ ρ bs (a.den ρ):=by
 cases a with
 |vec j=>
  simp only[qI,Ai] at h;subst h;split
  ·rename_i bl SJ;exact Ei.bk γ (hs j bl SJ)
  ·exact⟨ρ j,[],by simp[IZ.den],rfl,rfl⟩
 |xs l=>exact PG γ hs _ _ _ h
def TJ(s:BS A):List IZ->Option (List (List (Bk A)))
 | []=>some []
 |a::r=>match qI s a,TJ s r with
  |some b,some bs=>some (b::bs)
  |_,_=>none
def aQ(ρ:Br):List (List (Bk A))->List (List Int)->Prop
 | [],[]=>True
 |b::bs,l::ls=>GZ γ ρ b l/\aQ ρ bs ls
 |_,_=>False
theorem UJ{ρ:Br}{s:BS A}(hs:Uy γ ρ s):∀ {as:List IZ} {bs:List (List (Bk A))},TJ s as=some bs->aQ γ ρ bs (as.map (·.den ρ))
 | [],bs,h=>by simp only[TJ,Ai] at h;subst h;trivial
 | a::r,bs,h=>by
  unfold TJ at h;split at h
  ·rename_i b DQ h1 h2;simp only[Ai] at h;subst h;exact⟨x9 γ hs h1,UJ hs h2⟩
  ·cases h
structure Tf (A:Type) where
 f:Nat->Nat->List (List (Bk A))->Option (List (Nat×A))
 o:Na->List (List (Bk A))->Option (List (Nat×A))
 p:Nat->List (List (Bk A))->Bool
structure Zd (T:Tb) (t:Tf A):Prop where
 f:∀f o pa r,t.f f o pa=some r->∀ ρ ins,aQ γ ρ pa ins->Ei γ r (Na.den T (.fn f true o) ins)
 o:∀op pa r,t.o op pa=some r->∀ ρ ins,aQ γ ρ pa ins->Ei γ r (Na.den T op ins)
 p:∀f pa,t.p f pa=true->∀ ρ ins,aQ γ ρ pa ins->∃s,lk f T=some s/\(s.ca true).pre ins
def Tf.op(t:Tf A)(op:Na)(pa:List (List (Bk A))):Option (List (Nat×A)):=match op with
 | .fn f true o=>t.f f o pa
 |op=>t.o op pa
def yx(t:Tf A)(s:BS A)(n:Nat)(d:GG):BS A:=match TJ s d.args with
 |some pa=>(match t.op d.op pa with
  |some r=>(n,r)::s
  |none=>s)
 |none=>s
def YR(t:Tf A):BS A->List (Nat×GG)->BS A
 |s,[]=>s
 |s,(n,d)::r=>YR t (yx t s n d) r
theorem Tf.ab9{T:Tb}{t:Tf A}(ht:Zd γ T t){op:Na}{pa:List (List (Bk A))}{r:List (Nat×A)}(h:t.op op pa=some r){ρ:Br}{ins:List (List Int)}(hp:aQ γ ρ pa ins):Ei γ r (op.den T ins):=by
 unfold Tf.op at h;split at h
 ·exact ht.f _ _ pa r h ρ ins hp
 ·exact ht.o _ pa r h ρ ins hp
theorem zh{T:Tb}{t:Tf A}(ht:Zd γ T t){ρ:Br}{s:BS A}(hs:Uy γ ρ s){n:Nat}{d:GG}(hn:ρ n=d.den T ρ):Uy γ ρ (yx t s n d):=by
 unfold yx;split
 ·rename_i pa hpa;split
  ·rename_i r hr;intro i bs hi;simp only[lk] at hi;cases hb:Nat.beq n i with
   |true=>
    rw[hb,cond_true,Ai] at hi;have:=CR hb;subst this;subst hi;have:=Tf.ab9 γ ht hr (UJ γ hs hpa);rw[hn,GG.den];exact this
   |false=>rw[hb,cond_false] at hi;exact hs i bs hi
  ·exact hs
 ·exact hs
theorem ZI{T:Tb}{t:Tf A}(ht:Zd γ T t){ρ:Br}:∀ {ds:List (Nat×GG)} {s:BS A},Uy γ ρ s->Tp T ρ ds->Uy γ ρ (YR t s ds)
 | [],s,hs,_=>hs
 |(n,d)::r,s,hs,hd=>by
  unfold YR;exact ZI ht (zh γ ht hs (hd (n,d) Kh)) (λp hp=>hd p (Lv _ hp))
def yU(t:Tf A)(vx:BS A->JU->Bool)(s:BS A):JU->Bool
 | .pre f as=>(match TJ s as with
  |some pa=>t.p f pa
  |none=>false)
 |q=>vx s q
def jU(T:Tb)(ds:List (Nat×GG))(vx:BS A->JU->Bool):Prop:=∀ ρ s q,Tp T ρ ds->Uy γ ρ s->vx s q=true->q.den T ρ
theorem tX{T:Tb}{t:Tf A}(ht:Zd γ T t){ds:List (Nat×GG)}{vx:BS A->JU->Bool}(ho:jU γ T ds vx){ρ:Br}{s:BS A}(hd:Tp T ρ ds)(hs:Uy γ ρ s){q:JU}(h:yU t vx s q=true):q.den T ρ:=by
 unfold yU at h;split at h
 ·rename_i f as;split at h
  ·rename_i pa hpa;obtain⟨fe,h1,h2⟩:=ht.p f pa h ρ _ (UJ γ hs hpa);simp only[JU.den,h1];exact h2
  ·cases h
 ·exact ho ρ s q hd hs h
def WH:Nat->List (Option (List (Nat×A)))->BS A
 |_,[]=>[]
 |j,none::r=>WH (j+1) r
 |j,some b::r=>(j,b)::WH (j+1) r
theorem Vg:∀ {l:List (Option (List (Nat×A)))} {j i:Nat} {bs:List (Nat×A)},lk i (WH j l)=some bs->∃k,i=j+k/\l[k]? = some (some bs)
 | [],j,i,bs,h=>by simp[WH,lk] at h
 |none::r,j,i,bs,h=>by
  simp only[WH] at h;obtain⟨k,h1,h2⟩:=Vg h;exact⟨k+1,by omega,by simpa using h2⟩
 | some b::r,j,i,bs,h=>by
  simp only[WH,lk] at h;cases hb:Nat.beq j i with
  |true=>
   rw[hb,cond_true,Ai] at h;have:=CR hb;exact⟨0,by omega,by rw[<- h];rfl⟩
  |false=>
   rw[hb,cond_false] at h;obtain⟨k,h1,h2⟩:=Vg h;exact⟨k+1,by omega,by simpa using h2⟩
def TH(s:BS A):Rt->Option (List (List (Bk A)))
 | []=>some []
 |e::r=>match NV s e.1.length e.1,TH s r with
  |some b,some bs=>some (b::bs)
  |_,_=>none
def Nu(t:Tf A)(vx:List (Nat×GG)->BS A->JU->Bool)(i:Ad)(C:Cx)(bin:List (Option (List (Nat×A)))):Option (List (List (Bk A))):=
 match Zk (i.tree C) with
 | some (ds,ob,_e,st)=>bif LU i.s0.params.length (i.tree C)&&Nat.beq bin.length i.s0.params.length then
   (let s:=YR t (WH 0 bin) ds
     bif ob.all (yU t (vx ds) s) then(match Ml C i.s0 i.cF st with
   |some es=>TH s es
   |none=>none) else none) else none
 |none=>none
theorem Sy{s:BS A}:∀ {es:Rt} {r:List (List (Bk A))},TH s es=some r->∀(k:Nat) (b:List (Bk A)),r[k]? = some b->∃e,es[k]? = some e/\NV s e.1.length e.1=some b
 | [],r,h,k,b,hk=>by simp only[TH,Ai] at h;subst h;simp at hk
 | e::es,r,h,k,b,hk=>by
  unfold TH at h;split at h
  ·rename_i b0 bs h1 h2;simp only[Ai] at h;subst h;cases k with
   |zero=>simp only[Ul,Ai] at hk;subst hk;exact⟨e,rfl,h1⟩
   |succ k=>
    obtain⟨e',g1,g2⟩:=Sy h2 k b (by simpa using hk);exact⟨e',by simpa using g1,g2⟩
  ·cases h
theorem Rm{t:Tf A}{vx:List (Nat×GG)->BS A->JU->Bool}{i:Ad}{C:Cx}{bin:List (Option (List (Nat×A)))}{r:List (List (Bk A))}(ht:Zd γ C.T t)(ho:∀ds,jU γ C.T ds (vx ds))(h:Nu t vx i C bin=some r){ins:List (List Int)}(hb:∀(j:Nat) (b:List (Nat×A)),bin[j]? = some (some b)->Ei γ b (ins.getD j [])):
  EY C.T (i.tree C) (Ce ins)/\∃ ρ:Br,(∀j,j<i.s0.params.length->ρ j=ins.getD j [])/\∀(k:Nat) (b:List (Bk A)),r[k]? = some b->GZ γ ρ b (i.raw C k ins):=by
 unfold Nu at h;split at h
 ·rename_i ds ob e st hl;cases hc:(LU i.s0.params.length (i.tree C)&&Nat.beq bin.length i.s0.params.length) with
  |false=>rw[hc] at h;cases h
  |true=>
  rw[hc,cond_true] at h;simp only[Bl] at hc;have hlen:=CR hc.2;obtain⟨k1,k2,k3,k4,k5⟩:=OY (T:=C.T) (ρ:=Ce ins) hc.1 hl;have hρ:∀j,j<i.s0.params.length->Dl C.T (Ce ins) ds j=ins.getD j []:=λj hj=>by rw[k1 j hj];rfl
  have eC:Uy γ (Dl C.T (Ce ins) ds) (WH 0 bin):=λj bs hj=>by
   obtain⟨k,h1,h2⟩:=Vg hj;rw[Km] at h1;subst h1;have cf:j<bin.length:=(OQ.1 h2).1;rw[hρ j (by omega)];exact hb j bs h2
  have hS:=ZI γ ht eC k2;simp only at h;cases qu:ob.all (yU t (vx ds) (YR t (WH 0 bin) ds)) with
  |false=>rw[qu] at h;cases h
  |true=>
  rw[qu,cond_true] at h;split at h
  ·rename_i es nn;refine⟨k5 λq hq=>tX γ ht (ho ds) k2 hS (Mx.1 qu q hq),Dl C.T (Ce ins) ds,hρ,λk b hk=>?_⟩;obtain⟨e',g1,g2⟩:=Sy h k b hk;have:i.raw C k ins=e'.1.map (·.den (Dl C.T (Ce ins) ds)):=by
    unfold Ad.raw Vo;rw[k4];simp only[nn,g1]
   rw[this];exact PG γ hS _ _ _ g2
  ·cases h
 ·cases h
end
end
end Go.Proofs.YtloibefkijfdlaaGreatDoor
namespace Go.Proofs.YtloibefkijfdlaaGreatDoor
namespace Ma
def Pr(p:Nat):Prop:=1<p/\∀m,m ∣ p->m=1\/m=p
theorem bez(a b:Nat):∃x y:Int,(a:Int)*x+(b:Int)*y=(Nat.gcd a b:Nat):=by
 induction a,b using Nat.gcd.induction with
 |H0 n=>exact⟨0,1,by simp⟩
 |H1 m n _ ih=>
  obtain⟨x,y,h⟩:=ih;refine⟨y-(n/m:Nat)*x,x,?_⟩;rw[Nat.gcd_rec, <- h];have hd:(n:Int)=(m:Int)*(n/m:Nat)+(n%m:Nat):=by exact_mod_cast (Nat.div_add_mod n m).symm
  have e1:(m:Int)*(y-(n/m:Nat)*x)+n*x=m*y-(m*(n/m:Nat))*x+n*x:=by rw[Int.mul_sub,Xt]
  rw[e1];have e2:(n:Int)*x=(m*(n/m:Nat))*x+(n%m:Nat)*x:=by rw[<- HW, <- hd]
  rw[e2];omega
theorem AAM{p a b:Nat}(hp:Pr p)(h:p ∣ a*b):p ∣ a\/p ∣ b:=by
 by_cases ha:p ∣ a
 ·exact .inl ha
 ·right
  have hg:Nat.gcd p a=1:=by
   rcases hp.2 _ (Nat.gcd_dvd_left p a) with h1|h1
   ·exact h1
   ·exact absurd (h1 ▸ Nat.gcd_dvd_right p a) ha
  exact Nat.Coprime.dvd_of_dvd_mul_left hg h
def ch:Nat->Nat->Nat
 |_,0=>1
 |0,_+1=>0
 |n+1,k+1=>ch n k+ch n (k+1)
theorem Xp:∀ {n k:Nat},n<k->ch n k=0
 |0,k+1,_=>rfl
 |n+1,k+1,h=>by simp only[ch,Xp (show n<k by omega),Xp (show n<k+1 by omega)]
theorem uM:∀n,ch n n=1
 |0=>rfl
 |n+1=>by simp only[ch,uM n,Xp (Nat.lt_succ_self n)]
theorem fO:∀n k,(k+1)*ch (n+1) (k+1)=(n+1)*ch n k
 |0,0=>rfl
 |0,k+1=>by simp[ch]
 |n+1,0=>by
  have:=fO n 0;simp only[ch] at this ⊢;omega
 |n+1,k+1=>by
  have h1:=fO n k;have h2:=fO n (k+1);have e:ch (n+1+1) (k+1+1)=ch (n+1) (k+1)+ch (n+1) (k+1+1):=rfl;rw[e,Nat.mul_add,h2];have e2:(k+1+1)*ch (n+1) (k+1)=(k+1)*ch (n+1) (k+1)+ch (n+1) (k+1):=by rw[Nat.add_mul (k+1) 1,Nat.one_mul]
  rw[e2,h1];have e3:ch (n+1) (k+1)=ch n k+ch n (k+1):=rfl;rw[e3];simp only[Nat.add_mul,Nat.mul_add,Nat.one_mul];omega
def bs(x n:Nat):Nat->Nat
 |0=>0
 |m+1=>bs x n m+ch n m*x^m
theorem sj(x n:Nat):∀m,bs x (n+1) (m+1)=bs x n (m+1)+x*bs x n m
 |0=>by simp[bs,ch]
 |m+1=>by
  have ih:=sj x n m;have e:bs x (n+1) (m+1+1)=bs x (n+1) (m+1)+ch (n+1) (m+1)*x^(m+1):=rfl;have e2:bs x n (m+1+1)=bs x n (m+1)+ch n (m+1)*x^(m+1):=rfl;have e3:bs x n (m+1)=bs x n m+ch n m*x^m:=rfl;rw[e,ih,e2];have e4:ch (n+1) (m+1)=ch n m+ch n (m+1):=rfl;rw[e4,Nat.add_mul];have e5:x*bs x n (m+1)=x*bs x n m+ch n m*x^(m+1):=by rw[e3,Nat.mul_add,ql];congr 1;rw[Nat.mul_left_comm,vg x]
  rw[e5];omega
theorem ABn(x:Nat):∀n,bs x n (n+1)=(x+1)^n
 |0=>by simp[bs,ch]
 |n+1=>by
  have e:bs x n (n+1+1)=bs x n (n+1)+ch n (n+1)*x^(n+1):=rfl;rw[sj,e,Xp (Nat.lt_succ_self n),Nat.zero_mul,P5,ABn x n,ql,Nat.mul_add,Nat.mul_one,vg x,Nat.add_comm]
theorem ALx{p:Nat}(hp:Pr p){k:Nat}(h0:0<k)(h1:k<p):p ∣ ch p k:=by
 obtain⟨k,rfl⟩:∃j,k=j+1:=⟨k-1,by omega⟩;obtain⟨q,rfl⟩:∃j,p=j+1:=⟨p-1,by have:=hp.1;omega⟩;have h:(q+1) ∣ (k+1)*ch (q+1) (k+1):=by rw[fO];exact⟨_,rfl⟩
 rcases AAM hp h with h|h
 ·exact absurd (Nat.le_of_dvd (by omega) h) (by omega)
 ·exact h
theorem ADW{p:Nat}(hp:Pr p)(x:Nat):∀m,m<p->bs x p (m+1)%p=1%p
 |0,_=>by simp[bs,ch]
 |m+1,h=>by
  have e:bs x p (m+1+1)=bs x p (m+1)+ch p (m+1)*x^(m+1):=rfl;obtain⟨c,hc⟩:=ALx hp (show 0<m+1 by omega) h;rw[e,hc,Nat.mul_assoc,Nat.add_mul_mod_self_left];exact ADW hp x m (by omega)
theorem AOv{p:Nat}(hp:Pr p)(x:Nat):(x+1)^p%p=(x^p+1)%p:=by
 have h1:=ABn x p;have e:bs x p (p+1)=bs x p p+ch p p*x^p:=rfl;obtain⟨q,rfl⟩:∃j,p=j+1:=⟨p-1,by have:=hp.1;omega⟩;rw[<- h1,e,uM,Nat.one_mul,Nat.add_mod,ADW hp x q (by omega), <- Nat.add_mod,Nat.add_comm]
theorem qw{p:Nat}(hp:Pr p):∀a,a^p%p=a%p
 |0=>by rw[Nat.zero_pow (by have:=hp.1;omega)]
 |a+1=>by rw[AOv hp,Nat.add_mod,qw hp a, <- Nat.add_mod]
theorem ADR{p:Nat}(hp:Pr p){a:Nat}(ha:¬p ∣ a):a^(p-1)%p=1:=by
 have h:=qw hp a;have h1:=hp.1;have e:a^p=a*a^(p-1):=by rw[<- Nat.pow_succ',show(p-1).succ=p by omega]
 have akq:1<=a^(p-1):=RT (by rcases Nat.eq_zero_or_pos a with rfl|h;exact absurd (Nat.dvd_zero p) ha;exact h);have hd:p ∣ a*(a^(p-1)-1):=by
  rw[Nat.mul_sub,Nat.mul_one, <- e];have hle:a<=a^p:=by rw[e];exact Nat.le_mul_of_pos_right a akq
  exact(Nat.dvd_iff_mod_eq_zero ..).2 (Nat.sub_mod_eq_zero_of_mod_eq h)
 rcases AAM hp hd with h2|h2
 ·exact absurd h2 ha
 ·obtain⟨c,hc⟩:=h2;have h3:a^(p-1)=1+p*c:=by omega
  rw[h3,Nat.add_mul_mod_self_left,Nat.mod_eq_of_lt h1]
end Ma
end Go.Proofs.YtloibefkijfdlaaGreatDoor
namespace Go.Proofs.YtloibefkijfdlaaGreatDoor
namespace Ma
theorem AQD:∀(m:Nat),1<m->∃r,Pr r/\r ∣ m:=by
 intro m
 induction m using Nat.strongRecOn with
 | ind m ih=>
  intro h;by_cases hp:Pr m
  ·exact⟨m,hp,Nat.dvd_refl _⟩
  ·have:∃d,d ∣ m/\d≠1/\d≠m:=by
    refine Classical.byContradiction λhn=>hp ⟨h,λd hd=>?_⟩
    by_cases h1:d=1
    ·exact .inl h1
    ·by_cases h2:d=m
     ·exact .inr h2
     ·exact absurd ⟨d,hd,h1,h2⟩ hn
   obtain⟨d,hd,h1,h2⟩:=this;have hle:=Nat.le_of_dvd (by omega) hd;have h0:d≠0:=λe=>by subst e;have:=Nat.eq_zero_of_zero_dvd hd;omega
   obtain⟨r,hr,pN⟩:=ih d (by omega) (by omega);exact⟨r,hr,Nat.dvd_trans pN hd⟩
theorem APT{n:Nat}(h:1<n)(hn:¬Pr n):∃r,Pr r/\r ∣ n/\r*r<=n:=by
 have:∃d,d ∣ n/\d≠1/\d≠n:=by
  refine Classical.byContradiction λhc=>hn ⟨h,λd hd=>?_⟩
  by_cases h1:d=1
  ·exact .inl h1
  ·by_cases h2:d=n
   ·exact .inr h2
   ·exact absurd ⟨d,hd,h1,h2⟩ hc
 obtain⟨d,⟨k,hk⟩,h1,h2⟩:=this;have hd0:d≠0:=λe=>by subst e;omega
 have mc:k≠0:=λe=>by subst e;omega
 have hk1:k≠1:=λe=>by subst e;omega
 rcases Nat.le_total d k with hle|hle
 ·obtain⟨r,hr,pN⟩:=AQD d (by omega);refine⟨r,hr,Nat.dvd_trans pN ⟨k,hk⟩,?_⟩;have h3:=Nat.le_of_dvd (by omega) pN;have:=Nat.mul_le_mul h3 (z8 h3 hle);omega
 ·obtain⟨r,hr,pN⟩:=AQD k (by omega);refine⟨r,hr,Nat.dvd_trans pN ⟨d,by rw[hk,vg]⟩,?_⟩;have h3:=Nat.le_of_dvd (by omega) pN;have:=Nat.mul_le_mul (z8 h3 hle) h3;omega
theorem ANm{r x:Nat}(h:x%r=1%r)(k:Nat):x^k%r=1%r:=by
 rw[Nat.pow_mod,h, <- Nat.pow_mod,Nat.one_pow]
theorem AQF{n q a r:Nat}(hq:Pr q)(hqn:q ∣ n-1)(h1:a^(n-1)%n=1%n)(hg:Nat.gcd (a^((n-1)/q)%n+n-1) n=1)(hn:1<n)(hr:Pr r)(DP:r ∣ n):q ∣ r-1:=by
 have tc:=hr.1;obtain⟨b,hb⟩:∃b,b=a^((n-1)/q):=⟨_,rfl⟩;rw[<- hb] at hg;have hbq:b^q=a^(n-1):=by rw[hb, <- Nat.pow_mul,Nat.div_mul_cancel hqn]
 have aeN:b^q%r=1%r:=by
  rw[hbq];have:=EH (· % r) h1;simpa[Nat.mod_mod_of_dvd _ DP] using this
 have hrb:¬r ∣ b:=λhd=>by
  have:b^q%r=0:=Nat.mod_eq_zero_of_dvd (Nat.dvd_trans hd ⟨b^(q-1),by rw[<- Nat.pow_succ',show(q-1).succ=q by have:=hq.1;omega]⟩);rw[this,Nat.mod_eq_of_lt tc] at aeN;omega
 have cq:b%r≠1:=λhe=>by
  have h2:r ∣ b%n+n-1:=by
   have e:(b%n)%r=1:=by rw[Nat.mod_mod_of_dvd _ DP];exact he
   have hd:=Nat.div_add_mod (b%n) r;obtain⟨c,hc⟩:=DP;refine⟨b%n/r+c,?_⟩;rw[Nat.mul_add, <- hc];omega
  have:=Nat.dvd_gcd h2 DP;rw[hg] at this;have:=Nat.le_of_dvd (by omega) this;omega
 refine Classical.byContradiction λX2=>cq ?_
 have Ly:Nat.gcd q (r-1)=1:=by
  rcases hq.2 _ (Nat.gcd_dvd_left q (r-1)) with h|h
  ·exact h
  ·exact absurd (h ▸ Nat.gcd_dvd_right q (r-1)) X2
 obtain⟨x,y,Wb⟩:=bez q (r-1);rw[Ly] at Wb;obtain⟨u,v,huv⟩:∃u v:Nat,u*q=v*(r-1)+1:=by
  let t:Nat:=x.natAbs+y.natAbs
  have hq1:=hq.1;have hx:0<=x+t*(r-1:Nat):=by
   have h3:(t:Int)*1<=t*(r-1:Nat):=Int.mul_le_mul_of_nonneg_left (by omega) (by omega);have:(t:Int)=x.natAbs+y.natAbs:=by simp[t]
   omega
  have hy:0<=t*(q:Int)-y:=by
   have h3:(t:Int)*1<=t*(q:Int):=Int.mul_le_mul_of_nonneg_left (by omega) (by omega);have:(t:Int)=x.natAbs+y.natAbs:=by simp[t]
   omega
  obtain⟨u,hu⟩:=YD hx;obtain⟨v,hv⟩:=YD hy;refine⟨u,v,?_⟩;have:(u:Int)*q=v*(r-1:Nat)+1:=by
   rw[<- hu, <- hv,HW,Int.sub_mul];have e1:(t:Int)*(r-1:Nat)*q=t*q*(r-1:Nat):=by rw[Xt,Xt,Xg ((r-1:Nat):Int)]
   have e2:x*(q:Int)=q*x:=Xg _ _;have e3:y*((r-1:Nat):Int)=(r-1:Nat)*y:=Xg _ _;rw[e1,e2,e3];have e4:((1:Nat):Int)=1:=rfl;rw[e4] at Wb;omega
  exact_mod_cast this
 have h3:b^(u*q)%r=1%r:=by rw[vg,Nat.pow_mul];exact ANm aeN u
 rw[huv,ql,vg v,Nat.pow_mul,Nat.mul_mod,ANm (by rw[ADR hr hrb,Nat.mod_eq_of_lt tc]) v, <- Nat.mul_mod,Nat.one_mul,Nat.mod_eq_of_lt (show 1<r from tc)] at h3;exact h3
def Yj:List (Nat×Nat)->Nat
 | []=>1
 |(q,_)::r=>q*Yj r
def pm(a n:Nat):Nat->Nat->Nat
 |0,_=>1%n
 |f+1,e=>bif Nat.beq e 0 then 1%n else
  bif Nat.beq (e%2) 1 then(pm a n f (e/2)*pm a n f (e/2)%n)*a%n else pm a n f (e/2)*pm a n f (e/2)%n
theorem vo(a n:Nat):∀(f e:Nat),e<2^f->pm a n f e=a^e%n
 |0,e,h=>by
  have:e=0:=by simpa using h
  subst this;simp[pm]
 | f+1,e,h=>by
  have ih:=vo a n f (e/2) (by rw[ql] at h;omega);unfold pm;cases hb:Nat.beq e 0 with
  |true=>rw[CR hb];simp
  | false=>
   have hsq:(a^(e/2)%n)*(a^(e/2)%n)%n=a^(2*(e/2))%n:=by
    rw[<- Nat.mul_mod,Nat.two_mul,Nat.pow_add]
   cases ho:Nat.beq (e%2) 1 with
   |true=>
    have:=CR ho;simp only[cond_false,cond_true,ih];rw[hsq,Nat.mod_mul_mod, <- ql,show(2*(e/2)).succ=e by omega]
   |false=>
    have h2:e%2≠1:=λh=>by rw[h] at ho;cases ho
    simp only[cond_false,ih];rw[hsq,show 2*(e/2)=e by omega]
def ckQ(n:Nat):List (Nat×Nat)->Bool
 | []=>true
 |(q,a)::r=>Nat.beq ((n-1)%q) 0&&Nat.beq (pm a n 256 (n-1)) 1&&Nat.beq (Nat.gcd (pm a n 256 ((n-1)/q)+n-1) n) 1&&Nat.beq (Nat.gcd q (Yj r)) 1&&ckQ n r
theorem ABN{n r:Nat}(hn:1<n)(LR:n<2^256)(hr:Pr r)(DP:r ∣ n):∀ {qs:List (Nat×Nat)},(∀x∈qs,Pr x.1)->ckQ n qs=true->Yj qs ∣ r-1
 | [],_,_=>Nat.one_dvd _
 |(q,a)::rs,hp,h=>by
  simp only[ckQ,Bl] at h;obtain⟨⟨⟨⟨h1,h2⟩,h3⟩,h4⟩,h5⟩:=h;have e1:=CR h1;have e2:=CR h2;have e3:=CR h3;have e4:=CR h4;have hq:Pr q:=hp _ Kh;rw[vo a n 256 _ (by omega)] at e2;rw[vo a n 256 _ (zdb (Nat.div_le_self _ _) (by omega))] at e3;have hd:=AQF hq (Nat.dvd_of_mod_eq_zero e1) (by rw[e2,Nat.mod_eq_of_lt hn]) e3 hn hr DP;exact Nat.Coprime.mul_dvd_of_dvd_of_dvd e4 hd (ABN hn LR hr DP (λx hx=>hp x (Lv _ hx)) h5)
theorem UX{n:Nat}(qs:List (Nat×Nat))(hp:∀x∈qs,Pr x.1)(h:(Nat.blt 1 n&&Nat.blt n (2^256)&&Nat.ble n (Yj qs*Yj qs)&&ckQ n qs)=true):Pr n:=by
 simp only[Bl] at h;obtain⟨⟨⟨h1,h2⟩,h3⟩,h4⟩:=h;have hn:1<n:=MQ h1;have LR:n<2^256:=MQ h2;have hF:=MQ h3;refine Classical.byContradiction λhc=>?_
 obtain⟨r,hr,DP,hle⟩:=APT hn hc;have hd:=ABN hn LR hr DP hp h4;have tc:=hr.1;have h5:=Nat.le_of_dvd (by omega) hd;have h6:=Nat.mul_lt_mul_of_lt_of_lt (show Yj qs<r by omega) (show Yj qs<r by omega);omega
def tr(n:Nat):Nat->Nat->Bool
 |0,_=>false
 |f+1,d=>bif Nat.blt n (d*d) then true else bif Nat.beq (n%d) 0 then false else tr n f (d+1)
theorem AIP{n:Nat}:∀ {f d:Nat},tr n f d=true->∀e,d<=e->e*e<=n->n%e≠0
 |0,_,h=>by cases h
 | f+1,d,h=>λe hde hee=>by
  unfold tr at h;cases hb:Nat.blt n (d*d) with
  |true=>
   have:n<d*d:=MQ hb;have:=Nat.mul_le_mul hde hde;omega
  | false=>
   rw[hb,cond_false] at h;cases hc:Nat.beq (n%d) 0 with
   |true=>rw[hc] at h;cases h
   |false=>
    rw[hc,cond_false] at h;by_cases he:e=d
    ·subst he;intro h0;rw[h0] at hc;cases hc
    ·exact AIP h e (by omega) hee
theorem XK{n:Nat}(h:(Nat.blt 1 n&&tr n 2000 2)=true):Pr n:=by
 simp only[Bl] at h;have hn:1<n:=MQ h.1;refine Classical.byContradiction λhc=>?_
 obtain⟨r,hr,DP,hle⟩:=APT hn hc;exact AIP h.2 r hr.1 hle (Nat.mod_eq_zero_of_dvd DP)
end Ma
end Go.Proofs.YtloibefkijfdlaaGreatDoor
namespace Go.Proofs.YtloibefkijfdlaaGreatDoor
namespace Ma
theorem AI1:Pr 991:=XK (by decide +kernel)
theorem ALw:Pr 103:=XK (by decide +kernel)
theorem AJg:Pr 127:=XK (by decide +kernel)
theorem AEO:Pr 4153:=XK (by decide +kernel)
theorem AHI:Pr 2551:=XK (by decide +kernel)
theorem wW:Pr 569003:=XK (by decide +kernel)
theorem wo:Pr 430751:=XK (by decide +kernel)
theorem xV:Pr 531581:=XK (by decide +kernel)
theorem two{a b:Nat}{x y:Nat}(h1:Pr a)(h2:Pr b):∀z ∈ [(a,x),(b,y)],Pr z.1:=λz hz=>by
 simp only[IR,List.not_mem_nil,or_false] at hz;rcases hz with rfl|rfl
 ·exact h1
 ·exact h2
theorem one{a:Nat}{x:Nat}(h1:Pr a):∀z ∈ [(a,x)],Pr z.1:=λz hz=>by
 rw[NB] at hz;subst hz;exact h1
theorem ASF:Pr 8574133:=UX [(991,2),(103,2)] (two AI1 ALw) (by decide +kernel)
theorem ASL:Pr 1919519569386763:=UX [(8574133,2),(127,2)] (two ASF AJg) (by decide +kernel)
theorem ARS:Pr 2773320623:=UX [(569003,2)] (one wW) (by decide +kernel)
theorem ARN:Pr 72106336199:=UX [(2773320623,2)] (one ARS) (by decide +kernel)
theorem ASN:Pr 75445702479781427272750846543864801:=UX [(1919519569386763,2),(72106336199,2)] (two ASL ARN) (by decide +kernel)
theorem AR7:Pr 31757755568855353:=UX [(430751,2),(4153,2)] (two wo AEO) (by decide +kernel)
theorem ASZ:Pr 74058212732561358302231226437062788676166966415465897661863160754340907:=UX [(75445702479781427272750846543864801,2),(31757755568855353,2)] (two ASN AR7) (by decide +kernel)
theorem ARv:Pr 57896044618658097711785492504343953926634992332820282019728792003956564819949:=UX [(74058212732561358302231226437062788676166966415465897661863160754340907,2)] (one ASZ) (by decide +kernel)
theorem AR5:Pr 1224481:=UX [(2551,2)] (one AHI) (by decide +kernel)
theorem ARj:Pr 1257559732178653:=UX [(1224481,2),(531581,2)] (two AR5 xV) (by decide +kernel)
theorem ARO:Pr 4434155615661930479:=UX [(1257559732178653,2)] (one ARj) (by decide +kernel)
theorem ARJ:Pr 172054593956031949258510691:=UX [(4434155615661930479,2)] (one ARO) (by decide +kernel)
theorem AR3:Pr 19757330305831588566944191468367130476339:=UX [(172054593956031949258510691,2)] (one ARJ) (by decide +kernel)
theorem ASV:Pr 276602624281642239937218680557139826668747:=UX [(19757330305831588566944191468367130476339,2)] (one AR3) (by decide +kernel)
theorem ASf:Pr 7237005577332262213973186563042994240857116359379907606001950938285454250989:=UX [(276602624281642239937218680557139826668747,2)] (one ASV) (by decide +kernel)
end Ma
end Go.Proofs.YtloibefkijfdlaaGreatDoor
namespace Go.Proofs.YtloibefkijfdlaaGreatDoor
namespace Ma
section
variable{n:Nat}[NeZero n]{d:Fin n}
theorem AD5(a b:Fin n):(a-b)*(a-b)=(-a+b)*(-a+b):=by grind
theorem AAL(c a b:Fin n):c*(a-b)*(c*(a-b))=c*(-a+b)*(c*(-a+b)):=by grind
theorem lW(a b:Fin n): -(a*b)= -a*b:=by grind
theorem mg{x1 y1 x2 y2:Fin n}(h1:y1*y1-x1*x1=1+d*x1*x1*y1*y1)(h2:y2*y2-x2*x2=1+d*x2*x2*y2*y2):
  (y1*y2+x1*x2)*(y1*y2+x1*x2)*((1+d*x1*x2*y1*y2)*(1+d*x1*x2*y1*y2))-(x1*y2+y1*x2)*(x1*y2+y1*x2)*((1-d*x1*x2*y1*y2)*(1-d*x1*x2*y1*y2))=
   (1+d*x1*x2*y1*y2)*(1+d*x1*x2*y1*y2)*((1-d*x1*x2*y1*y2)*(1-d*x1*x2*y1*y2))+d*((x1*y2+y1*x2)*(x1*y2+y1*x2))*((y1*y2+x1*x2)*(y1*y2+x1*x2)):=by
 grind
theorem APR{x1 y1 x2 y2 x3 y3:Fin n}(h1:y1*y1-x1*x1=1+d*x1*x1*y1*y1)(h2:y2*y2-x2*x2=1+d*x2*x2*y2*y2)(h3:y3*y3-x3*x3=1+d*x3*x3*y3*y3):
  ((x1*y2+y1*x2)*(1-d*x1*x2*y1*y2)*y3+(y1*y2+x1*x2)*(1+d*x1*x2*y1*y2)*x3)*((1-d*x2*x3*y2*y3)*(1+d*x2*x3*y2*y3)+d*x1*(x2*y3+y2*x3)*y1*(y2*y3+x2*x3))=(x1*(y2*y3+x2*x3)*(1+d*x2*x3*y2*y3)+y1*(x2*y3+y2*x3)*(1-d*x2*x3*y2*y3))*((1-d*x1*x2*y1*y2)*(1+d*x1*x2*y1*y2)+d*(x1*y2+y1*x2)*(y1*y2+x1*x2)*x3*y3):=by
 grind
theorem ANy{x1 y1 x2 y2 x3 y3:Fin n}(h1:y1*y1-x1*x1=1+d*x1*x1*y1*y1)(h2:y2*y2-x2*x2=1+d*x2*x2*y2*y2)(h3:y3*y3-x3*x3=1+d*x3*x3*y3*y3):
  ((y1*y2+x1*x2)*(1+d*x1*x2*y1*y2)*y3+(x1*y2+y1*x2)*(1-d*x1*x2*y1*y2)*x3)*((1-d*x2*x3*y2*y3)*(1+d*x2*x3*y2*y3)-d*x1*(x2*y3+y2*x3)*y1*(y2*y3+x2*x3))=(y1*(y2*y3+x2*x3)*(1+d*x2*x3*y2*y3)+x1*(x2*y3+y2*x3)*(1-d*x2*x3*y2*y3))*((1-d*x1*x2*y1*y2)*(1+d*x1*x2*y1*y2)-d*(x1*y2+y1*x2)*(y1*y2+x1*x2)*x3*y3):=by
 grind
theorem ARs{x1 y1 x3 y3 u v w z A B C D n0 m k l:Fin n}(hu:u*A=n0)(hv:v*B=m)(hw:w*C=k)(hz:z*D=l):
  (u*y3+v*x3)*(1+d*x1*w*y1*z)*(A*B*(C*D))=(n0*B*y3+m*A*x3)*(D*C+d*x1*k*y1*l):=by
 subst hu;subst hv;subst hw;subst hz;grind
theorem ASj{x1 y1 x3 y3 u v w z A B C D n0 m k l:Fin n}(hu:u*A=n0)(hv:v*B=m)(hw:w*C=k)(hz:z*D=l):
  (v*y3+u*x3)*(1-d*x1*w*y1*z)*(A*B*(C*D))=(m*A*y3+n0*B*x3)*(D*C-d*x1*k*y1*l):=by
 subst hu;subst hv;subst hw;subst hz;grind
theorem ASh{x1 y1 x3 y3 u v w z A B C D n0 m k l:Fin n}(hu:u*A=n0)(hv:v*B=m)(hw:w*C=k)(hz:z*D=l):
  (x1*z+y1*w)*(1+d*u*x3*v*y3)*(A*B*(C*D))=(x1*l*C+y1*k*D)*(B*A+d*n0*m*x3*y3):=by
 subst hu;subst hv;subst hw;subst hz;grind
theorem ASt{x1 y1 x3 y3 u v w z A B C D n0 m k l:Fin n}(hu:u*A=n0)(hv:v*B=m)(hw:w*C=k)(hz:z*D=l):
  (y1*z+x1*w)*(1-d*u*x3*v*y3)*(A*B*(C*D))=(y1*l*C+x1*k*D)*(B*A-d*n0*m*x3*y3):=by
 subst hu;subst hv;subst hw;subst hz;grind
end
end Ma
end Go.Proofs.YtloibefkijfdlaaGreatDoor
namespace Go.Proofs.YtloibefkijfdlaaGreatDoor
namespace Ma
class FF (n:Nat) [NeZero n] extends Inv (Fin n) where
 Up:∀ {b:Fin n},b≠0->b*b⁻¹ = 1
 zno:(0:Fin n)≠1
structure Ed {n:Nat} [NeZero n] (d:Fin n):Prop where
 two:(2:Fin n)≠0
 i:∃i:Fin n,i*i= -1
 ns:∀x:Fin n,x*x≠d
section
variable{n:Nat}[NeZero n][FF n]{d:Fin n}
def LB(d x y:Fin n):Prop:=y*y-x*x=1+d*x*x*y*y
theorem Gb{a b:Fin n}(ha:a≠0)(hb:b≠0):a*b≠0:=by
 intro h;have h1:=FF.Up hb;have h2:a*b*b⁻¹ = a:=by
  generalize b⁻¹ = u at *
  grind
 rw[h] at h2;exact ha (by rw[<- h2];generalize b⁻¹ = u;grind)
theorem pq{a b:Fin n}(hb:b≠0)(h:a*a=d*(b*b)):(a*b⁻¹)*(a*b⁻¹)=d:=by
 have h1:b*b⁻¹ = 1:=FF.Up hb;grind
theorem jH(E:Ed d){x1 y1 x2 y2:Fin n}(h1:LB d x1 y1)(h2:LB d x2 y2){e:Fin n}(he:e*e=1):d*x1*x2*y1*y2≠e:=by
 intro h;obtain⟨i,hi⟩:=E.i;unfold LB at h1 h2;have cq:e≠0:=λh0=>by rw[h0] at he;exact FF.zno (n:=n) (by grind)
 have nx1:x1≠0:=λh0=>cq (by grind)
 have ny1:y1≠0:=λh0=>cq (by grind)
 have ny2:y2≠0:=λh0=>cq (by grind)
 have key:∀s z:Fin n,s*s=1->z=s*i->(z*x1+e*y1)*(z*x1+e*y1)=d*((x1*y1*(z*x2+y2))*(x1*y1*(z*x2+y2))):=by
  intro s z hs hz;have hzz:z*z= -1:=by rw[hz];grind
  have f1:(z*x1+e*y1)*(z*x1+e*y1)=1+d*x1*x1*y1*y1+2*z*e*x1*y1:=by
   have:(z*x1+e*y1)*(z*x1+e*y1)=(z*z)*(x1*x1)+(e*e)*(y1*y1)+2*z*e*x1*y1:=by grind
   rw[this,hzz,he];grind
  have f2:(z*x2+y2)*(z*x2+y2)=1+d*x2*x2*y2*y2+2*z*x2*y2:=by
   have:(z*x2+y2)*(z*x2+y2)=(z*z)*(x2*x2)+y2*y2+2*z*x2*y2:=by grind
   rw[this,hzz];grind
  have f3:d*((x1*y1*(z*x2+y2))*(x1*y1*(z*x2+y2)))=d*x1*x1*y1*y1*((z*x2+y2)*(z*x2+y2)):=by grind
  rw[f1,f3,f2];have f4:d*x1*x1*y1*y1*(1+d*x2*x2*y2*y2+2*z*x2*y2)=d*x1*x1*y1*y1+(d*x1*x2*y1*y2)*(d*x1*x2*y1*y2)+2*z*(d*x1*x2*y1*y2)*x1*y1:=by grind
  rw[f4,h,he];grind
 have p1:(i*x1+e*y1)*(i*x1+e*y1)=d*((x1*y1*(i*x2+y2))*(x1*y1*(i*x2+y2))):=key 1 i (by grind) (by grind);have p2:(i*x1-e*y1)*(i*x1-e*y1)=d*((x1*y1*(i*x2-y2))*(x1*y1*(i*x2-y2))):=by
  have:=key (-1) (-i) (by grind) (by grind);rw[AD5,AAL,lW,lW,this]
 by_cases c1:i*x2+y2=0
 ·by_cases c2:i*x2-y2=0
  ·have:2*y2=0:=by grind
   exact Gb E.two ny2 this
  ·exact E.ns _ (pq (Gb (Gb nx1 ny1) c2) p2)
 ·exact E.ns _ (pq (Gb (Gb nx1 ny1) c1) p1)
theorem bW(E:Ed d){x1 y1 x2 y2:Fin n}(h1:LB d x1 y1)(h2:LB d x2 y2):1+d*x1*x2*y1*y2≠0:=λh=>
 jH E h1 h2 (e:= -1) (by grind) (by grind)
theorem Ze(E:Ed d){x1 y1 x2 y2:Fin n}(h1:LB d x1 y1)(h2:LB d x2 y2):1-d*x1*x2*y1*y2≠0:=λh=>
 jH E h1 h2 (e:=1) (by grind) (by grind)
def ax(d x1 y1 x2 y2:Fin n):Fin n:=(x1*y2+y1*x2)*(1+d*x1*x2*y1*y2)⁻¹
def ay(d x1 y1 x2 y2:Fin n):Fin n:=(y1*y2+x1*x2)*(1-d*x1*x2*y1*y2)⁻¹
theorem Zw(E:Ed d){x1 y1 x2 y2:Fin n}(h1:LB d x1 y1)(h2:LB d x2 y2):ax d x1 y1 x2 y2*(1+d*x1*x2*y1*y2)=x1*y2+y1*x2:=by
 have:=FF.Up (bW E h1 h2);unfold ax;grind
theorem aM(E:Ed d){x1 y1 x2 y2:Fin n}(h1:LB d x1 y1)(h2:LB d x2 y2):ay d x1 y1 x2 y2*(1-d*x1*x2*y1*y2)=y1*y2+x1*x2:=by
 have:=FF.Up (Ze E h1 h2);unfold ay;grind
theorem Pq{a b c:Fin n}(hc:c≠0)(h:a*c=b*c):a=b:=by
 have:=FF.Up hc;grind
theorem YT(E:Ed d){x1 y1 x2 y2:Fin n}(h1:LB d x1 y1)(h2:LB d x2 y2):LB d (ax d x1 y1 x2 y2) (ay d x1 y1 x2 y2):=by
 have e1:=Zw E h1 h2;have e2:=aM E h1 h2;have n1:=bW E h1 h2;have n2:=Ze E h1 h2;generalize ax d x1 y1 x2 y2=x3 at *
 generalize ay d x1 y1 x2 y2=y3 at *
 unfold LB at *
 have hn:=Gb (Gb n1 n1) (Gb n2 n2);have key:=mg h1 h2;rw[<- e1, <- e2] at key;clear e1 e2 h1 h2;generalize 1+d*x1*x2*y1*y2=D1 at *
 generalize 1-d*x1*x2*y1*y2=D2 at *
 refine Pq hn ?_;grind
theorem APk{a b c e:Fin n}(hb:b≠0)(he:e≠0)(h:a*e=c*b):a*b⁻¹ = c*e⁻¹ := by
 have h1:=FF.Up hb;have h2:=FF.Up he;have h3:a*e*(b⁻¹ * e⁻¹)=c*b*(b⁻¹ * e⁻¹):=by rw[h]
 generalize b⁻¹ = u at *
 generalize e⁻¹ = v at *
 have h4:a*e*(u*v)=a*u*(e*v):=by grind
 have h5:c*b*(u*v)=c*v*(b*u):=by grind
 rw[h4,h5,h1,h2] at h3;grind
theorem AMl(E:Ed d){x1 y1 x2 y2 x3 y3:Fin n}(h1:LB d x1 y1)(h2:LB d x2 y2)(h3:LB d x3 y3):
  ax d (ax d x1 y1 x2 y2) (ay d x1 y1 x2 y2) x3 y3=ax d x1 y1 (ax d x2 y2 x3 y3) (ay d x2 y2 x3 y3):=by
 have eu:=Zw E h1 h2;have ev:=aM E h1 h2;have ew:=Zw E h2 h3;have ez:=aM E h2 h3;have c12:=YT E h1 h2;have c23:=YT E h2 h3;have A:=bW E h1 h2;have B:=Ze E h1 h2;have C:=bW E h2 h3;have D:=Ze E h2 h3;have G:=bW E c12 h3;have H:=bW E h1 c23;have core:=APR h1 h2 h3;unfold ax ay at G H ⊢;refine APk G H ?_;change (ax d x1 y1 x2 y2*y3+ay d x1 y1 x2 y2*x3)*(1+d*x1*ax d x2 y2 x3 y3*y1*ay d x2 y2 x3 y3)=(x1*ay d x2 y2 x3 y3+y1*ax d x2 y2 x3 y3)*(1+d*ax d x1 y1 x2 y2*x3*ay d x1 y1 x2 y2*y3);refine Pq (Gb (Gb A B) (Gb C D)) ?_;rw[ARs eu ev ew ez,ASh eu ev ew ez];exact core
theorem AKo(E:Ed d){x1 y1 x2 y2 x3 y3:Fin n}(h1:LB d x1 y1)(h2:LB d x2 y2)(h3:LB d x3 y3):
  ay d (ax d x1 y1 x2 y2) (ay d x1 y1 x2 y2) x3 y3=ay d x1 y1 (ax d x2 y2 x3 y3) (ay d x2 y2 x3 y3):=by
 have eu:=Zw E h1 h2;have ev:=aM E h1 h2;have ew:=Zw E h2 h3;have ez:=aM E h2 h3;have c12:=YT E h1 h2;have c23:=YT E h2 h3;have A:=bW E h1 h2;have B:=Ze E h1 h2;have C:=bW E h2 h3;have D:=Ze E h2 h3;have G:=Ze E c12 h3;have H:=Ze E h1 c23;have core:=ANy h1 h2 h3;unfold ax ay at G H ⊢;refine APk G H ?_;change (ay d x1 y1 x2 y2*y3+ax d x1 y1 x2 y2*x3)*(1-d*x1*ax d x2 y2 x3 y3*y1*ay d x2 y2 x3 y3)=(y1*ay d x2 y2 x3 y3+x1*ax d x2 y2 x3 y3)*(1-d*ax d x1 y1 x2 y2*x3*ay d x1 y1 x2 y2*y3);refine Pq (Gb (Gb A B) (Gb C D)) ?_;rw[ASj eu ev ew ez,ASt eu ev ew ez];exact core
end
end Ma
end Go.Proofs.YtloibefkijfdlaaGreatDoor
namespace Go.Proofs.YtloibefkijfdlaaGreatDoor
namespace Ma
abbrev PP:Nat:=57896044618658097711785492504343953926634992332820282019728792003956564819949
theorem PP0:0<PP:=by decide +kernel
instance awc:NeZero PP:=⟨by decide +kernel⟩
abbrev Fp:=Fin PP
def ND(a:Fp)(n:Nat):Fp:=⟨a.val^n%PP,ym _ PP0⟩
theorem pQ(a b:Fp):(a*b).val=a.val*b.val%PP:=Fin.val_mul a b
theorem TE(a:Fp)(n:Nat):(ND a n).val=a.val^n%PP:=rfl
theorem Vk(a:Fp):ND a 0=1:=Fin.ext (by rw[TE,Nat.pow_zero];decide +kernel)
theorem Lr(a:Fp)(n:Nat):ND a (n+1)=ND a n*a:=Fin.ext (by
 rw[TE,pQ,TE,ql,Nat.mod_mul_mod])
theorem RS(a:Fp):ND a 1=a:=Fin.ext (by rw[TE,Nat.pow_one,Nat.mod_eq_of_lt a.isLt])
theorem NW(a:Fp)(m:Nat):∀n,ND a (m+n)=ND a m*ND a n
 |0=>by rw[Vk,P5];grind
 |n+1=>by rw[<- Ve,Lr,NW a m n,Lr];grind
theorem VW(a:Fp)(m:Nat):∀n,ND (ND a m) n=ND a (m*n)
 |0=>by rw[Vk,Nat.mul_zero,Vk]
 |n+1=>by rw[Lr,VW a m n,Nat.mul_succ,NW]
theorem AAh(a:Fp)(e:Nat)(h:e<2^256):(ND a e).val=pm a.val PP 256 e:=by
 rw[TE,vo a.val PP 256 e h]
theorem AHi:∀n,ND 1 n=1
 |0=>Vk 1
 |n+1=>by rw[Lr,AHi n];grind
def eI:Nat:=57896044618658097711785492504343953926634992332820282019728792003956564819947
theorem AEp{p a e:Nat}(hp:Pr p)(ha:¬p ∣ a)(he:e=p-1):a^e%p=1:=by
 subst he;exact ADR hp ha
theorem Ud{a:Fp}(h:a≠0):ND a (eI+1)=1:=by
 apply Fin.ext;have hd:¬PP ∣ a.val:=λhd=>h (Fin.ext (by
  have:=a.isLt;have:=Nat.eq_zero_of_dvd_of_lt hd this;rw[this];rfl))
 rw[TE];exact AEp ARv hd (by decide +kernel)
theorem WB{a:Fp}(h:a≠0):a*ND a eI=1:=by
 rw[<- Ud h,Lr];grind
instance ayj:FF PP where
 inv a:=ND a eI
 Up h:=WB h
 zno:=by decide +kernel
theorem eZ{a:Fp}(h:a≠0):a*a⁻¹ = 1:=WB h
theorem AGX:(1:Fp)⁻¹ = 1:=AHi eI
def dE:Fp:=37095705934669439343138083508754565189542113879843219016388785533085940283555
def iE:Fp:=19681161376707505956807079304988542015446066515923890162744021073123829784752
def eH:Nat:=28948022309329048855892746252171976963317496166410141009864396001978282409974
theorem AHH:ND dE eH= -1:=by
 apply Fin.ext;rw[AAh _ _ (by decide +kernel)];decide +kernel
theorem It:Ed dE where
 two:=by decide +kernel
 i:=⟨iE,by decide +kernel⟩
 ns:=λx hx=>by
  have h:=AHH;have e:x*x=ND x 2:=by rw[Lr,RS]
  rw[<- hx,e,VW,show 2*eH=eI+1 from by decide +kernel] at h;by_cases h0:x=0
  ·rw[h0] at hx;exact absurd hx (by decide +kernel)
  ·rw[Ud h0] at h;exact absurd h (by decide +kernel)
end Ma
end Go.Proofs.YtloibefkijfdlaaGreatDoor
namespace Go.Proofs.YtloibefkijfdlaaGreatDoor
namespace Ma
structure Pt where
 x:Fp
 y:Fp
 h:LB dE x y
theorem Pt.ext'{P Q:Pt}(hx:P.x=Q.x)(hy:P.y=Q.y):P=Q:=by
 cases P;cases Q;simp only at hx hy;subst hx;subst hy;rfl
def Pt.add(P Q:Pt):Pt:=⟨ax dE P.x P.y Q.x Q.y,ay dE P.x P.y Q.x Q.y,YT It P.h Q.h⟩
def Pt.zero:Pt:=⟨0,1,by unfold LB;grind⟩
def Pt.neg(P:Pt):Pt:=⟨-P.x,P.y,by have:=P.h;unfold LB at *;grind⟩
theorem Pt.add_assoc(P Q R:Pt):(P.add Q).add R=P.add (Q.add R):=Pt.ext' (AMl It P.h Q.h R.h) (AKo It P.h Q.h R.h)
theorem jQ(d x1 y1 x2 y2:Fp):ax d x1 y1 x2 y2=ax d x2 y2 x1 y1/\ay d x1 y1 x2 y2=ay d x2 y2 x1 y1:=by
 unfold ax ay;have h1:x1*y2+y1*x2=x2*y1+y2*x1:=by grind
 have h2:d*x1*x2*y1*y2=d*x2*x1*y2*y1:=by grind
 have h3:y1*y2+x1*x2=y2*y1+x2*x1:=by grind
 rw[h1,h2,h3];exact⟨rfl,rfl⟩
theorem Pt.add_comm(P Q:Pt):P.add Q=Q.add P:=Pt.ext' (jQ _ _ _ _ _).1 (jQ _ _ _ _ _).2
theorem vB:(1:Fp)⁻¹ = 1:=AGX
theorem Pt.add_zero(P:Pt):P.add zero=P:=by
 refine Pt.ext' ?_ ?_
 ·show(P.x*1+P.y*0)*(1+dE*P.x*0*P.y*1)⁻¹ = P.x;have:1+dE*P.x*0*P.y*1=1:=by grind
  rw[this,vB];grind
 ·show(P.y*1+P.x*0)*(1-dE*P.x*0*P.y*1)⁻¹ = P.y;have:1-dE*P.x*0*P.y*1=1:=by grind
  rw[this,vB];grind
theorem Pt.add_neg(P:Pt):P.add P.neg=zero:=by
 refine Pt.ext' ?_ ?_
 ·show(P.x*P.y+P.y * -P.x)*(1+dE*P.x * -P.x*P.y*P.y)⁻¹ = 0;have:P.x*P.y+P.y * -P.x=0:=by grind
  rw[this];grind
 ·have hn:=Ze It P.h P.neg.h;have hh:=P.h;show(P.y*P.y+P.x * -P.x)*(1-dE*P.x * -P.x*P.y*P.y)⁻¹ = 1;have e:P.y*P.y+P.x * -P.x=1-dE*P.x * -P.x*P.y*P.y:=by
   unfold LB at hh;grind
  rw[e];exact eZ hn
def Pt.nm(P:Pt):Nat->Pt
 |0=>zero
 |n+1=>(P.nm n).add P
def Pt.zm(P:Pt):Int->Pt
 | .ofNat n=>P.nm n
 | .negSucc n=>(P.nm (n+1)).neg
theorem Pt.zero_add(P:Pt):zero.add P=P:=by rw[add_comm,add_zero]
theorem Pt.ia{P Q:Pt}(h:P.add Q=zero):Q=P.neg:=by
 have:P.neg.add (P.add Q)=P.neg:=by rw[h,add_zero]
 rw[<- add_assoc,add_comm P.neg,add_neg,zero_add] at this;exact this
theorem Pt.neg_zero:zero.neg=zero:=(ia (add_zero zero)).symm
theorem Pt.neg_add(P Q:Pt):(P.add Q).neg=P.neg.add Q.neg:=by
 symm;apply ia
 rw[add_assoc, <- add_assoc Q,add_comm Q,add_assoc P.neg,add_neg,add_zero,add_neg]
theorem Pt.neg_neg(P:Pt):P.neg.neg=P:=by
 symm;apply ia;rw[add_comm,add_neg]
theorem Pt.HP(P:Pt)(m:Nat):∀n,P.nm (m+n)=(P.nm m).add (P.nm n)
 |0=>(add_zero _).symm
 |n+1=>by show(P.nm (m+n)).add P=_;rw[HP P m n,add_assoc];rfl
theorem Pt.ue(P:Pt):∀z:Int,P.zm (z+1)=(P.zm z).add P
 | .ofNat n=>rfl
 | .negSucc 0=>by
  show zero=((zero.add P).neg).add P;rw[zero_add,add_comm,add_neg]
 | .negSucc (n+1)=>by
  show(P.nm (n+1)).neg=((P.nm (n+1)).add P).neg.add P;rw[neg_add,add_assoc,add_comm P.neg,add_neg,add_zero]
theorem Pt.so{P Q R:Pt}(h:P.add R=Q.add R):P=Q:=by
 have:(P.add R).add R.neg=(Q.add R).add R.neg:=by rw[h]
 rw[add_assoc,add_neg,add_zero,add_assoc,add_neg,add_zero] at this;exact this
theorem Pt.kx(P:Pt)(a:Int):∀n:Nat,P.zm (a+n)=(P.zm a).add (P.zm n)
 |0=>by show P.zm (a+0)=(P.zm a).add zero;rw[HQ,add_zero]
 |n+1=>by
  rw[Int.natCast_succ, <- Int.add_assoc,ue,kx P a n,ue,add_assoc]
theorem Pt.fW(P:Pt)(a b:Int):P.zm (a+b)=(P.zm a).add (P.zm b):=by
 match b with
 | .ofNat n=>exact kx P a n
 | .negSucc n=>
  have h:=kx P (a+Int.negSucc n) (n+1);have e:a+Int.negSucc n+((n+1:Nat):Int)=a:=by omega
  rw[e] at h;have h2:(P.zm (Int.negSucc n)).add (P.zm ((n+1:Nat):Int))=zero:=by
   show((P.nm (n+1)).neg).add (P.nm (n+1))=zero;rw[add_comm,add_neg]
  refine so (R:=P.zm ((n+1:Nat):Int)) ?_;rw[<- h,add_assoc,h2,add_zero]
theorem Pt.de(P:Pt):P.zm 0=zero:=rfl
theorem Pt.ie(P:Pt):P.zm 1=P:=zero_add P
theorem Pt.lj(P:Pt)(a:Int):P.zm (-a)=(P.zm a).neg:=by
 apply ia;rw[<- fW,Int.add_right_neg];rfl
theorem Pt.kO(P:Pt)(a:Int):∀n:Nat,P.zm (a*n)=(P.zm a).zm n
 |0=>by rw[Int.natCast_zero,Int.mul_zero];rfl
 |n+1=>by
  rw[Int.natCast_succ,qR,zdd,fW,kO P a n,ue]
theorem Pt.ph(P:Pt)(a b:Int):P.zm (a*b)=(P.zm a).zm b:=by
 match b with
 | .ofNat n=>exact kO P a n
 | .negSucc n=>
  have h:a*Int.negSucc n= -(a*((n+1:Nat):Int)):=by
   rw[Int.negSucc_eq,Int.mul_neg];rfl
  rw[h,lj,kO];rfl
structure P3 (X Y Z T:Fp) (P:Pt):Prop where
 z:Z≠0
 x:X=P.x*Z
 y:Y=P.y*Z
 t:T=P.x*P.y*Z
structure Lo (X Y Z T:Fp) (P:Pt):Prop where
 z:Z≠0
 t:T≠0
 x:X=P.x*Z
 y:Y=P.y*T
structure P2 (X Y Z:Fp) (P:Pt):Prop where
 z:Z≠0
 x:X=P.x*Z
 y:Y=P.y*Z
structure PC (A B C E:Fp) (P:Pt):Prop where
 c:C≠0
 a:A=(P.y+P.x)*C
 b:B=(P.y-P.x)*C
 e:E=2*dE*P.x*P.y*C
structure AC (A B E:Fp) (P:Pt):Prop where
 a:A=P.y+P.x
 b:B=P.y-P.x
 e:E=2*dE*P.x*P.y
theorem qQ:(2:Fp)≠0:=It.two
theorem AOY(P Q:Pt):(P.add Q).x*(1+dE*P.x*Q.x*P.y*Q.y)=P.x*Q.y+P.y*Q.x:=Zw It P.h Q.h
theorem AQN(P Q:Pt):(P.add Q).y*(1-dE*P.x*Q.x*P.y*Q.y)=P.y*Q.y+P.x*Q.x:=aM It P.h Q.h
theorem qM{X Y Z T s:Fp}{P Q:Pt}(hs:s≠0)(hx:X=s*(P.x*Q.y+P.y*Q.x))(hy:Y=s*(P.y*Q.y+P.x*Q.x))(hz:Z=s*(1+dE*P.x*Q.x*P.y*Q.y))(ht:T=s*(1-dE*P.x*Q.x*P.y*Q.y)):Lo X Y Z T (P.add Q) where
 z:=by rw[hz];exact Gb hs (bW It P.h Q.h)
 t:=by rw[ht];exact Gb hs (Ze It P.h Q.h)
 x:=by rw[hx,hz, <- AOY];grind
 y:=by rw[hy,ht, <- AQN];grind
theorem AII{X Y Z T A B C E:Fp}{P Q:Pt}(h:P3 X Y Z T P)(g:PC A B C E Q):
  Lo ((Y+X)*A-(Y-X)*B) ((Y+X)*A+(Y-X)*B) (Z*C+Z*C+T*E) (Z*C+Z*C-T*E) (P.add Q):=by
 obtain⟨hz,hx,hy,ht⟩:=h;obtain⟨gc,ga,gb,ge⟩:=g;subst hx;subst hy;subst ht;subst ga;subst gb;subst ge;refine qM (s:=2*(Z*C)) (Gb qQ (Gb hz gc)) ?_ ?_ ?_ ?_<;>grind
theorem oC{X Y Z T A B E:Fp}{P Q:Pt}(h:P3 X Y Z T P)(g:AC A B E Q):
  Lo ((Y+X)*A-(Y-X)*B) ((Y+X)*A+(Y-X)*B) (Z+Z+T*E) (Z+Z-T*E) (P.add Q):=by
 obtain⟨hz,hx,hy,ht⟩:=h;obtain⟨ga,gb,ge⟩:=g;subst hx;subst hy;subst ht;subst ga;subst gb;subst ge;refine qM (s:=2*Z) (Gb qQ hz) ?_ ?_ ?_ ?_<;>grind
theorem AHr(P:Pt):P.neg.x= -P.x:=rfl
theorem AIH(P:Pt):P.neg.y=P.y:=rfl
theorem PC.neg{A B C E:Fp}{Q:Pt}(g:PC A B C E Q):PC B A C (-E) Q.neg:=by
 obtain⟨gc,ga,gb,ge⟩:=g;refine⟨gc,?_,?_,?_⟩<;>rw[AHr,AIH]<;>grind
theorem AC.neg{A B E:Fp}{Q:Pt}(g:AC A B E Q):AC B A (-E) Q.neg:=by
 obtain⟨ga,gb,ge⟩:=g;refine⟨?_,?_,?_⟩<;>rw[AHr,AIH]<;>grind
theorem AQQ{X Y Z T A B C E:Fp}{P Q:Pt}(h:P3 X Y Z T P)(g:PC A B C E Q):
  Lo ((Y+X)*B-(Y-X)*A) ((Y+X)*B+(Y-X)*A) (Z*C+Z*C-T*E) (Z*C+Z*C+T*E) (P.add Q.neg):=by
 have:=AII h g.neg;have e1:Z*C+Z*C+T * -E=Z*C+Z*C-T*E:=by grind
 have e2:Z*C+Z*C-T * -E=Z*C+Z*C+T*E:=by grind
 rw[e1,e2] at this;exact this
theorem AJA{X Y Z T A B E:Fp}{P Q:Pt}(h:P3 X Y Z T P)(g:AC A B E Q):
  Lo ((Y+X)*B-(Y-X)*A) ((Y+X)*B+(Y-X)*A) (Z+Z-T*E) (Z+Z+T*E) (P.add Q.neg):=by
 have:=oC h g.neg;have e1:Z+Z+T * -E=Z+Z-T*E:=by grind
 have e2:Z+Z-T * -E=Z+Z+T*E:=by grind
 rw[e1,e2] at this;exact this
theorem AHz{X Y Z:Fp}{P:Pt}(h:P2 X Y Z P):
  Lo ((X+Y)*(X+Y)-(Y*Y+X*X)) (Y*Y+X*X) (Y*Y-X*X) (Z*Z+Z*Z-(Y*Y-X*X)) (P.add P):=by
 obtain⟨hz,hx,hy⟩:=h;have hc:=P.h;unfold LB at hc;subst hx;subst hy;refine qM (s:=Z*Z) (Gb hz hz) ?_ ?_ ?_ ?_<;>grind
theorem d9{X Y Z T:Fp}{P:Pt}(h:Lo X Y Z T P):P3 (X*T) (Y*Z) (Z*T) (X*Y) P:=by
 obtain⟨hz,ht,hx,hy⟩:=h;subst hx;subst hy;refine⟨Gb hz ht,?_,?_,?_⟩<;>grind
theorem AG3{X Y Z T:Fp}{P:Pt}(h:Lo X Y Z T P):P2 (X*T) (Y*Z) (Z*T) P:=by
 obtain⟨hz,ht,hx,hy⟩:=h;subst hx;subst hy;refine⟨Gb hz ht,?_,?_⟩<;>grind
theorem ACG{X Y Z T:Fp}{P:Pt}(h:P3 X Y Z T P):P2 X Y Z P:=⟨h.z,h.x,h.y⟩
theorem AI9{X Y Z T:Fp}{P:Pt}(h:P3 X Y Z T P):PC (Y+X) (Y-X) Z (T*(dE+dE)) P:=by
 obtain⟨hz,hx,hy,ht⟩:=h;subst hx;subst hy;subst ht;refine⟨hz,?_,?_,?_⟩<;>grind
theorem AKV{X Y Z T:Fp}{P:Pt}(h:P3 X Y Z T P):AC ((Y+X)*Z⁻¹) ((Y-X)*Z⁻¹) (T*(dE+dE)*Z⁻¹) P:=by
 obtain⟨hz,hx,hy,ht⟩:=h;have hi:=eZ hz;subst hx;subst hy;subst ht;generalize Z⁻¹ = u at *
 refine⟨?_,?_,?_⟩<;>grind
theorem rz:P3 0 1 1 0 Pt.zero:=⟨by decide +kernel,by decide +kernel,by decide +kernel,by decide +kernel⟩
theorem AGT:AC 1 1 0 Pt.zero:=⟨by decide +kernel,by decide +kernel,by decide +kernel⟩
theorem P3.inj{X Y Z T:Fp}{P Q:Pt}(h:P3 X Y Z T P)(g:P3 X Y Z T Q):P=Q:=
 Pt.ext' (Pq h.z (h.x ▸ g.x)) (Pq h.z (h.y ▸ g.y))
end Ma
end Go.Proofs.YtloibefkijfdlaaGreatDoor
namespace Go.Proofs.YtloibefkijfdlaaGreatDoor
section
open Go Ma
def Lh(z:Int):Fp:=⟨(z%(Mh:Int)).toNat,by
 have h:(0:Int)<(Mh:Int):=by decide
 have h1:=Int.emod_nonneg z (Int.ne_of_gt h);have h2:=Int.emod_lt_of_pos z h;show(z%(Mh:Int)).toNat<Mh;omega⟩
theorem ML(z:Int):((Lh z).val:Int)=z%(Mh:Int):=by
 have h:(0:Int)<(Mh:Int):=by decide
 have h1:=Int.emod_nonneg z (Int.ne_of_gt h);show(((z%(Mh:Int)).toNat:Nat):Int)=_;omega
theorem AAo{a b:Int}:Lh a=Lh b↔(Mh:Int) ∣ a-b:=by
 constructor
 ·intro h;have:=EH (λx:Fp=>(x.val:Int)) h;simp only[ML] at this;exact Int.dvd_of_emod_eq_zero (Int.emod_eq_emod_iff_emod_sub_eq_zero.1 this)
 ·intro h;apply Fin.ext;have:=Int.emod_eq_emod_iff_emod_sub_eq_zero.2 (Int.emod_eq_zero_of_dvd h);have h1:=ML a;have h2:=ML b;rw[this] at h1;omega
theorem QG{a b:Fp}(h:((a.val:Nat):Int)=(b.val:Int)):a=b:=Fin.ext (by omega)
theorem uT(a b:Int):Lh (a+b)=Lh a+Lh b:=QG (by
 rw[Fin.val_add,Int.natCast_emod,Int.natCast_add,ML,ML,ML];exact(Int.add_emod a b _))
theorem dw(a b:Int):Lh (a*b)=Lh a*Lh b:=QG (by
 rw[pQ,Int.natCast_emod,Int.natCast_mul,ML,ML,ML];exact(Int.mul_emod a b _))
theorem Kz:Lh 0=0:=by decide +kernel
theorem Rb:Lh 1=1:=by decide +kernel
theorem AFQ(a b:Int):Lh (a-b)=Lh a-Lh b:=by
 have h:=uT (a-b) b;rw[Int.sub_add_cancel] at h;grind
theorem AK0(x:Fp):Lh (x.val:Int)=x:=QG (by
 rw[ML];exact Th (by omega) (xN.2 x.isLt))
inductive FX where
 |v (n:Nat)
 |k (c:Int)
 |add (a b:FX)
 |sub (a b:FX)
 |mul (a b:FX)
 |pw (a:FX) (n:Nat)
 |b (n:Nat)
 |ite (c a b:FX)
 |t (c:Bool)
 |eq (a b:FX)
 |or (a b:FX)
 |Sf (a:FX)
 |not (a:FX)
structure FV where
 v:Nat->Fp
 b:Nat->Bool
def FX.wc:FX->Bool
 | .b _=>true
 | .t _=>true
 | .eq _ _=>true
 | .or _ _=>true
 | .Sf _=>true
 | .not _=>true
 |_=>false
def dY(a b:Fp):Bool:=Nat.beq a.val b.val
theorem Re{a b:Fp}:dY a b=true↔a=b:=⟨λh=>Fin.ext (CR h),λh=>by subst h;exact Nat.beq_refl _⟩
theorem nJ{a b:Fp}(h:a≠b):dY a b=false:=by
 cases hb:dY a b with
 |true=>exact absurd (Re.1 hb) h
 |false=>rfl
def FX.eb(ρ:FV):FX->Fp×Bool
 | .v n=>(ρ.v n,false)
 | .k c=>(Lh c,false)
 | .add x y=>((x.eb ρ).1+(y.eb ρ).1,false)
 | .sub x y=>((x.eb ρ).1-(y.eb ρ).1,false)
 | .mul x y=>((x.eb ρ).1*(y.eb ρ).1,false)
 | .pw x n=>(ND (x.eb ρ).1 n,false)
 | .b n=>(0,ρ.b n)
 | .ite c x y=>(bif (c.eb ρ).2 then(x.eb ρ).1 else(y.eb ρ).1,false)
 | .t c=>(0,c)
 | .eq x y=>(0,dY (x.eb ρ).1 (y.eb ρ).1)
 | .or x y=>(0,(x.eb ρ).2||(y.eb ρ).2)
 | .Sf x=>(0,Nat.beq ((x.eb ρ).1.val%2) 1)
 | .not x=>(0,!(x.eb ρ).2)
def FX.bv(ρ:FV)(x:FX):Bool:=(x.eb ρ).2
def FX.ev(ρ:FV)(x:FX):Fp:=(x.eb ρ).1
def Ho(x:Fp)(l:List Int):Prop:=Is l/\Lh (NG l)=x
def γF(ρ:FV)(e:FX)(l:List Int):Prop:=bif e.wc then l= [bif e.bv ρ then 1 else 0] else Ho (e.ev ρ) l
theorem γF_fe{ρ:FV}{e:FX}{l:List Int}(h:γF ρ e l)(hb:e.wc=false):Ho (e.ev ρ) l:=by
 unfold γF at h;rw[hb] at h;exact h
theorem γF_b{ρ:FV}{e:FX}{l:List Int}(h:γF ρ e l)(hb:e.wc=true):l= [bif e.bv ρ then 1 else 0]:=by
 unfold γF at h;rw[hb] at h;exact h
def AGk:List Int->Bool
 | [a,b,c,d,e]=>Bh 0 a&&Bh a fB&&Bh 0 b&&Bh b fB&&Bh 0 c&&Bh c fB&&Bh 0 d&&Bh d fB&&Bh 0 e&&Bh e fB
 |_=>false
theorem Ow{l:List Int}(h:AGk l=true):Is l:=by
 match l,h with
 | [a,b,c,d,e],h=>
  simp only[AGk,Bl] at h;obtain⟨⟨⟨⟨⟨⟨⟨⟨⟨h1,h2⟩,h3⟩,h4⟩,h5⟩,h6⟩,h7⟩,h8⟩,h9⟩,lE⟩:=h;have h1:=A8 h1;have h2:=A8 h2;have h3:=A8 h3;have h4:=A8 h4;have h5:=A8 h5;have h6:=A8 h6;have h7:=A8 h7;have h8:=A8 h8;have h9:=A8 h9;have lE:=A8 lE;refine⟨rfl,λk hk=>?_⟩
  match k,hk with
  |0,_=>exact⟨h1,h2⟩
  |1,_=>exact⟨h3,h4⟩
  |2,_=>exact⟨h5,h6⟩
  |3,_=>exact⟨h7,h8⟩
  |4,_=>exact⟨h9,lE⟩
def Qj{A:Type}:List (Bk A)->Option (List Int)
 | []=>some []
 | .lit c::r=>(match Qj r with
  |some l=>some (c::l)
  |none=>none)
 |_::_=>none
theorem TI{A:Type}{γ:A->List Int->Prop}{ρ:Br}:∀ {b:List (Bk A)} {l cs:List Int},GZ γ ρ b l->Qj b=some cs->l=cs
 | [],l,cs,h,hc=>by simp only[Qj,Ai] at hc;subst hc;exact h
 | .lit c::r,l,cs,⟨u,w,h1,h2,h3⟩,hc=>by
  unfold Qj at hc;split at hc
  ·rename_i l' hl;simp only[Ai] at hc;subst hc;have:=TI h3 hl;simp only[Bk.ok] at h2;rw[h1,h2,this];rfl
  ·cases hc
 | .a n x::r,l,cs,h,hc=>by simp[Qj] at hc
 | .sx v::r,l,cs,h,hc=>by simp[Qj] at hc
 | .vec j::r,l,cs,h,hc=>by simp[Qj] at hc
def Nl:List (Bk FX)->Option FX
 | [.a _ x]=>bif x.wc then none else some x
 |b=>(match Qj b with
  |some cs=>bif AGk cs then some (.k (NG cs)) else none
  |none=>none)
theorem El{ρ:FV}{ρe:Br}{b:List (Bk FX)}{l:List Int}{x:FX}(h:GZ (γF ρ) ρe b l)(hx:Nl b=some x):x.wc=false/\Ho (x.ev ρ) l:=by
 unfold Nl at hx;split at hx
 ·rename_i n y;cases hy:y.wc with
  |true=>rw[hy] at hx;cases hx
  |false=>
   rw[hy,cond_false,Ai] at hx;subst hx;obtain⟨u,w,h1,h2,h3⟩:=h;have hw:w= []:=h3;rw[hw,Rw] at h1;subst h1;exact⟨hy,γF_fe h2.2 hy⟩
 ·split at hx
  ·rename_i cs cS;cases hl:AGk cs with
   |false=>rw[hl] at hx;cases hx
   |true=>
    rw[hl,cond_true,Ai] at hx;subst hx;have:=TI h cS;subst this;exact⟨rfl,Ow hl,rfl⟩
  ·cases hx
def kT:List (Bk FX)->Option FX
 | [.a _ x]=>bif x.wc then some x else none
 | [.lit (.ofNat 0)]=>some (.t false)
 | [.lit (.ofNat 1)]=>some (.t true)
 |_=>none
theorem TZ{ρ:FV}{ρe:Br}{b:List (Bk FX)}{l:List Int}{x:FX}(h:GZ (γF ρ) ρe b l)(hx:kT b=some x):l= [bif x.bv ρ then 1 else 0]:=by
 unfold kT at hx;split at hx
 ·rename_i n y;cases hy:y.wc with
  |false=>rw[hy] at hx;cases hx
  |true=>
   rw[hy,cond_true,Ai] at hx;subst hx;obtain⟨u,w,h1,h2,h3⟩:=h;have hw:w= []:=h3;rw[hw,Rw] at h1;subst h1;exact γF_b h2.2 hy
 ·simp only[Ai] at hx;subst hx;obtain⟨u,w,h1,h2,h3⟩:=h;have hw:w= []:=h3;rw[hw,Rw] at h1;subst h1;exact h2
 ·simp only[Ai] at hx;subst hx;obtain⟨u,w,h1,h2,h3⟩:=h;have hw:w= []:=h3;rw[hw,Rw] at h1;subst h1;exact h2
 ·cases hx
def eP:Nat:=7237005577332262213973186563042994240829374041602535252466099000494570602493
def iL:List Int:=[1718705420411056,234908883556509,2233514472574048,2117202627021982,765476049583133]
def lV(u v:FX):FX:=.mul (.mul u (.mul (.mul v v) v)) (.pw (.mul (.mul u (.mul (.mul v v) v)) (.mul (.mul v v) (.mul v v))) eP)
def j3(u v:FX):FX:=.mul v (.mul (lV u v) (lV u v))
def pY(u:FX):FX:=.sub (.k 0) u
def nK(u v:FX):FX:=.ite (.or (.eq (j3 u v) (pY u)) (.eq (j3 u v) (.mul (pY u) (.k (NG iL))))) (.mul (lV u v) (.k (NG iL))) (lV u v)
def SI(x:FX):FX:=.ite (.Sf x) (.sub (.k 0) x) x
def Zj(u v:FX):FX:=.or (.eq (j3 u v) u) (.eq (j3 u v) (pY u))
def qf:List Int->List Int->Bool
 | [],[]=>true
 |a::r,b::s=>Bh a b&&Bh b a&&qf r s
 |_,_=>false
theorem Xm:∀ {a b:List Int},qf a b=true->a=b
 | [],[],_=>rfl
 | [],_::_,h=>by cases h
 |_::_,[],h=>by cases h
 |a::r,b::s,h=>by
  simp only[qf,Bl] at h;rw[Int.le_antisymm (A8 h.1.1) (A8 h.1.2),Xm h.2]
def AA3:List (Bk FX)->Option (List FX)
 | []=>some []
 | .a 5 x::r=>bif x.wc then none else(match AA3 r with
  |some l=>some (x::l)
  |none=>none)
 |_=>none
theorem AGI{ρ:FV}{ρe:Br}:∀ {b:List (Bk FX)} {xs:List FX} {l:List Int},AA3 b=some xs->GZ (γF ρ) ρe b l->Ei (γF ρ) (xs.map λx=>(5,x)) l/\l.length=5*xs.length:=by
 intro b
 induction b with
 |nil=>intro xs l h hb;simp only[AA3,Ai] at h;subst h;exact⟨hb,by rw[show l= [] from hb];rfl⟩
 | cons y r ih=>
  intro xs l h hb;unfold AA3 at h;split at h
  ·rename_i he;cases he
  ·rename_i x r' he;cases he;cases hx:x.wc with
   |true=>rw[hx] at h;cases h
   | false=>
    rw[hx,cond_false] at h;split at h
    ·rename_i l' pT;simp only[Ai] at h;subst h;obtain⟨u,w,h1,h2,h3⟩:=hb;have:=ih pT h3;exact⟨⟨u,w,h1,h2.1,h2.2,this.1⟩,by rw[h1,MN,this.2,h2.1,Uk];omega⟩
    ·cases h
  ·cases h
inductive KF where
 |at(bs:List Int) (c:Int)
 |cpy (n:Nat)
 |eqf|isn|abs|sqr
 |add|sub|mul|sq|neg|set
 |pw (n:Nat)
 |k (c:Int)
 |ca|swp
 |sqn
def KF.tf:KF->Nat->List (List (Bk FX))->Option (List (Nat×FX))
 | .at bs c,0,[_,b]=>(match Qj b with
  |some cs=>bif qf cs bs then some [(5,.k c)] else none
  |none=>none)
 | .cpy n,0,[_,b]=>(match AA3 b with
  |some xs=>bif Nat.beq xs.length n then some (xs.map λx=>(5,x)) else none
  |none=>none)
 | .eqf,0,[a,b]=>(match Nl a,Nl b with
  |some x,some y=>some [(1,.eq x y)]
  |_,_=>none)
 | .isn,0,[a]=>(match Nl a with
  |some x=>some [(1,.Sf x)]
  |_=>none)
 | .abs,0,[_,a]=>(match Nl a with
  |some x=>some [(5,SI x)]
  |_=>none)
 | .sqr,0,[_,a,b]=>(match Nl a,Nl b with
  |some x,some y=>some [(5,SI (nK x y))]
  |_,_=>none)
 | .sqr,2,[_,a,b]=>(match Nl a,Nl b with
  |some x,some y=>some [(1,Zj x y)]
  |_,_=>none)
 | .add,0,[_,a,b]=>(match Nl a,Nl b with
  |some x,some y=>some [(5,.add x y)]
  |_,_=>none)
 | .sub,0,[_,a,b]=>(match Nl a,Nl b with
  |some x,some y=>some [(5,.sub x y)]
  |_,_=>none)
 | .mul,0,[_,a,b]=>(match Nl a,Nl b with
  |some x,some y=>some [(5,.mul x y)]
  |_,_=>none)
 | .sq,0,[_,a]=>(match Nl a with
  |some x=>some [(5,.mul x x)]
  |_=>none)
 | .neg,0,[_,a]=>(match Nl a with
  |some x=>some [(5,.sub (.k 0) x)]
  |_=>none)
 | .set,0,[_,a]=>(match Nl a with
  |some x=>some [(5,x)]
  |_=>none)
 | .pw n,0,[_,a]=>(match Nl a with
  |some x=>some [(5,.pw x n)]
  |_=>none)
 | .k c,0,_=>some [(5,.k c)]
 | .sqn,0,[_,a,n]=>(match Nl a,Qj n with
  |some x,some [.ofNat m]=>bif Nat.ble m 1000 then some [(5,.pw x (2^m))] else none
  |_,_=>none)
 | .ca,0,[_,a,b,c]=>(match Nl a,Nl b,kT c with
  |some x,some y,some z=>some [(5,.ite z x y)]
  |_,_,_=>none)
 | .swp,0,[a,b,c]=>(match Nl a,Nl b,kT c with
  |some x,some y,some z=>some [(5,.ite z y x)]
  |_,_,_=>none)
 | .swp,1,[a,b,c]=>(match Nl a,Nl b,kT c with
  |some x,some y,some z=>some [(5,.ite z x y)]
  |_,_,_=>none)
 |_,_,_=>none
structure LM (T:Tb) (f:Nat) (args:List (List Int)):Prop where
 pre:∃s,lk f T=some s/\(s.ca true).pre args
def gv(T:Tb)(f o:Nat)(args:List (List Int)):List Int:=Na.den T (.fn f true o) args
def fA(b:Bool):List Int:=[bif b then 1 else 0]
def FX.v2(x y:Fp):FV:=⟨λn=>[x,y].getD n 0,λ_=>false⟩
def KF.Ok(T:Tb)(f:Nat):KF->Prop
 | .at bs c=>∀v,LM T f [v,bs]/\Ho (Lh c) (gv T f 0 [v,bs])
 | .cpy n=>∀(v l:List Int),l.length=5*n->LM T f [v,l]/\gv T f 0 [v,l]=l
 | .eqf=>∀a b x y,Ho x a->Ho y b->LM T f [a,b]/\gv T f 0 [a,b]=fA (dY x y)
 | .isn=>∀a x,Ho x a->LM T f [a]/\gv T f 0 [a]=fA (Nat.beq (x.val%2) 1)
 | .abs=>∀v a x,Ho x a->LM T f [v,a]/\Ho (bif Nat.beq (x.val%2) 1 then 0-x else x) (gv T f 0 [v,a])
 | .sqr=>∀v a b x y,Ho x a->Ho y b->LM T f [v,a,b]/\Ho ((SI (nK (.v 0) (.v 1))).ev (FX.v2 x y)) (gv T f 0 [v,a,b])/\gv T f 2 [v,a,b]=fA ((Zj (.v 0) (.v 1)).bv (FX.v2 x y))
 | .add=>∀v a b x y,Ho x a->Ho y b->LM T f [v,a,b]/\Ho (x+y) (gv T f 0 [v,a,b])
 | .sub=>∀v a b x y,Ho x a->Ho y b->LM T f [v,a,b]/\Ho (x-y) (gv T f 0 [v,a,b])
 | .mul=>∀v a b x y,Ho x a->Ho y b->LM T f [v,a,b]/\Ho (x*y) (gv T f 0 [v,a,b])
 | .sq=>∀v a x,Ho x a->LM T f [v,a]/\Ho (x*x) (gv T f 0 [v,a])
 | .neg=>∀v a x,Ho x a->LM T f [v,a]/\Ho (0-x) (gv T f 0 [v,a])
 | .set=>∀v a x,Ho x a->LM T f [v,a]/\Ho x (gv T f 0 [v,a])
 | .pw n=>∀v a x,Ho x a->LM T f [v,a]/\Ho (ND x n) (gv T f 0 [v,a])
 | .k c=>∀args,LM T f args/\Ho (Lh c) (gv T f 0 args)
 | .sqn=>∀v a x (n:Nat),n<=1000->Ho x a->LM T f [v,a,[(n:Int)]]/\Ho (ND x (2^n)) (gv T f 0 [v,a,[(n:Int)]])
 | .ca=>∀v a b x y (c:Bool),Ho x a->Ho y b->LM T f [v,a,b,[bif c then 1 else 0]]/\Ho (bif c then x else y) (gv T f 0 [v,a,b,[bif c then 1 else 0]])
 | .swp=>∀a b x y (c:Bool),Ho x a->Ho y b->LM T f [a,b,[bif c then 1 else 0]]/\Ho (bif c then y else x) (gv T f 0 [a,b,[bif c then 1 else 0]])/\Ho (bif c then x else y) (gv T f 1 [a,b,[bif c then 1 else 0]])
theorem FX.c5(x:FX)(l:List Int)(ρ:FV)(hb:x.wc=false)(h:Ho (x.ev ρ) l):Ei (γF ρ) [(5,x)] l:=
 ⟨l,[],by simp,h.1.1,by unfold γF;rw[hb];exact h,rfl⟩
theorem IE{ρ:FV}{ρe:Br}{a:List (Bk FX)}{as:List (List (Bk FX))}{ins:List (List Int)}(h:aQ (γF ρ) ρe (a::as) ins):∃x xs,ins=x::xs/\GZ (γF ρ) ρe a x/\aQ (γF ρ) ρe as xs:=by
 match ins,h with
 |x::xs,h=>exact⟨x,xs,rfl,h.1,h.2⟩
theorem Qz{ρ:FV}{ρe:Br}{ins:List (List Int)}(h:aQ (γF ρ) ρe [] ins):ins= []:=by
 match ins,h with
 | [],h=>rfl
theorem FX.c1(x:FX)(l:List Int)(ρ:FV)(hb:x.wc=true)(h:l=fA (x.bv ρ)):Ei (γF ρ) [(1,x)] l:=
 ⟨l,[],by simp,by rw[h];rfl,by unfold γF;rw[hb];exact h,rfl⟩
theorem KF.sound{T:Tb}{f:Nat}{κ:KF}(hk:κ.Ok T f){o:Nat}{pa:List (List (Bk FX))}{r:List (Nat×FX)}(h:κ.tf o pa=some r){ρ:FV}{ρe:Br}{ins:List (List Int)}(hp:aQ (γF ρ) ρe pa ins):LM T f ins/\Ei (γF ρ) r (gv T f o ins):=by
 unfold KF.tf at h;split at h
 ·obtain⟨v,_,rfl,_,hp⟩:=IE hp;obtain⟨b,_,rfl,hb,hp⟩:=IE hp;cases Qz hp;split at h
  ·rename_i cs cS;cases he:qf cs _ with
   |false=>rw[he] at h;cases h
   |true=>
    rw[he,cond_true,Ai] at h;subst h;have e1:=TI hb cS;have e2:=Xm he;subst e1;subst e2;have:=hk v;exact⟨this.1,FX.c5 _ _ _ rfl this.2⟩
  ·cases h
 ·obtain⟨v,_,rfl,_,hp⟩:=IE hp;obtain⟨b,_,rfl,hb,hp⟩:=IE hp;cases Qz hp;split at h
  ·rename_i xs hxs;cases he:Nat.beq xs.length _ with
   |false=>rw[he] at h;cases h
   |true=>
    rw[he,cond_true,Ai] at h;subst h;have e1:=CR he;subst e1;obtain⟨g1,g2⟩:=AGI hxs hb;have:=hk v b g2;exact⟨this.1,by rw[this.2];exact g1⟩
  ·cases h
 ·obtain⟨a,_,rfl,ha,hp⟩:=IE hp;obtain⟨b,_,rfl,hb,hp⟩:=IE hp;cases Qz hp;split at h
  ·rename_i x y hx hy;simp only[Ai] at h;subst h;have:=hk a b _ _ (El ha hx).2 (El hb hy).2;exact⟨this.1,FX.c1 _ _ _ rfl this.2⟩
  ·cases h
 ·obtain⟨a,_,rfl,ha,hp⟩:=IE hp;cases Qz hp;split at h
  ·rename_i x hx;simp only[Ai] at h;subst h;have:=hk a _ (El ha hx).2;exact⟨this.1,FX.c1 _ _ _ rfl this.2⟩
  ·cases h
 ·obtain⟨v,_,rfl,_,hp⟩:=IE hp;obtain⟨a,_,rfl,ha,hp⟩:=IE hp;cases Qz hp;split at h
  ·rename_i x hx;simp only[Ai] at h;subst h;have:=hk v a _ (El ha hx).2;refine⟨this.1,FX.c5 _ _ _ rfl ?_⟩;show Ho (bif Nat.beq ((x.ev ρ).val%2) 1 then Lh 0-x.ev ρ else x.ev ρ) _;rw[Kz];exact this.2
  ·cases h
 ·obtain⟨v,_,rfl,_,hp⟩:=IE hp;obtain⟨a,_,rfl,ha,hp⟩:=IE hp;obtain⟨b,_,rfl,hb,hp⟩:=IE hp;cases Qz hp;split at h
  ·rename_i x y hx hy;simp only[Ai] at h;subst h;have:=hk v a b _ _ (El ha hx).2 (El hb hy).2;exact⟨this.1,FX.c5 _ _ _ rfl this.2.1⟩
  ·cases h
 ·obtain⟨v,_,rfl,_,hp⟩:=IE hp;obtain⟨a,_,rfl,ha,hp⟩:=IE hp;obtain⟨b,_,rfl,hb,hp⟩:=IE hp;cases Qz hp;split at h
  ·rename_i x y hx hy;simp only[Ai] at h;subst h;have:=hk v a b _ _ (El ha hx).2 (El hb hy).2;exact⟨this.1,FX.c1 _ _ _ rfl this.2.2⟩
  ·cases h
 ·obtain⟨v,_,rfl,_,hp⟩:=IE hp;obtain⟨a,_,rfl,ha,hp⟩:=IE hp;obtain⟨b,_,rfl,hb,hp⟩:=IE hp;cases Qz hp;split at h
  ·rename_i x y hx hy;simp only[Ai] at h;subst h;have:=hk v a b _ _ (El ha hx).2 (El hb hy).2;exact⟨this.1,FX.c5 _ _ _ rfl this.2⟩
  ·cases h
 ·obtain⟨v,_,rfl,_,hp⟩:=IE hp;obtain⟨a,_,rfl,ha,hp⟩:=IE hp;obtain⟨b,_,rfl,hb,hp⟩:=IE hp;cases Qz hp;split at h
  ·rename_i x y hx hy;simp only[Ai] at h;subst h;have:=hk v a b _ _ (El ha hx).2 (El hb hy).2;exact⟨this.1,FX.c5 _ _ _ rfl this.2⟩
  ·cases h
 ·obtain⟨v,_,rfl,_,hp⟩:=IE hp;obtain⟨a,_,rfl,ha,hp⟩:=IE hp;obtain⟨b,_,rfl,hb,hp⟩:=IE hp;cases Qz hp;split at h
  ·rename_i x y hx hy;simp only[Ai] at h;subst h;have:=hk v a b _ _ (El ha hx).2 (El hb hy).2;exact⟨this.1,FX.c5 _ _ _ rfl this.2⟩
  ·cases h
 ·obtain⟨v,_,rfl,_,hp⟩:=IE hp;obtain⟨a,_,rfl,ha,hp⟩:=IE hp;cases Qz hp;split at h
  ·rename_i x hx;simp only[Ai] at h;subst h;have:=hk v a _ (El ha hx).2;exact⟨this.1,FX.c5 _ _ _ rfl this.2⟩
  ·cases h
 ·obtain⟨v,_,rfl,_,hp⟩:=IE hp;obtain⟨a,_,rfl,ha,hp⟩:=IE hp;cases Qz hp;split at h
  ·rename_i x hx;simp only[Ai] at h;subst h;have:=hk v a _ (El ha hx).2;exact⟨this.1,FX.c5 _ _ _ rfl (by show Ho (Lh 0-x.ev ρ) _;rw[Kz];exact this.2)⟩
  ·cases h
 ·obtain⟨v,_,rfl,_,hp⟩:=IE hp;obtain⟨a,_,rfl,ha,hp⟩:=IE hp;cases Qz hp;split at h
  ·rename_i x hx;simp only[Ai] at h;subst h;have:=hk v a _ (El ha hx).2;exact⟨this.1,FX.c5 _ _ _ (El ha hx).1 this.2⟩
  ·cases h
 ·obtain⟨v,_,rfl,_,hp⟩:=IE hp;obtain⟨a,_,rfl,ha,hp⟩:=IE hp;cases Qz hp;split at h
  ·rename_i x hx;simp only[Ai] at h;subst h;have:=hk v a _ (El ha hx).2;exact⟨this.1,FX.c5 _ _ _ rfl this.2⟩
  ·cases h
 ·simp only[Ai] at h;subst h;have:=hk ins;exact⟨this.1,FX.c5 _ _ _ rfl this.2⟩
 ·obtain⟨v,_,rfl,_,hp⟩:=IE hp;obtain⟨a,_,rfl,ha,hp⟩:=IE hp;obtain⟨n,_,rfl,hn,hp⟩:=IE hp;cases Qz hp;split at h
  ·rename_i x m hx hm;cases hb:Nat.ble m 1000 with
   |false=>rw[hb] at h;cases h
   |true=>
    rw[hb,cond_true,Ai] at h;subst h;have e:=TI hn hm;subst e;have:=hk v a _ m (MQ hb) (El ha hx).2;exact⟨this.1,FX.c5 _ _ _ rfl this.2⟩
  ·cases h
 ·obtain⟨v,_,rfl,_,hp⟩:=IE hp;obtain⟨a,_,rfl,ha,hp⟩:=IE hp;obtain⟨b,_,rfl,hb,hp⟩:=IE hp;obtain⟨c,_,rfl,hc,hp⟩:=IE hp;cases Qz hp;split at h
  ·rename_i x y z hx hy hz;simp only[Ai] at h;subst h;have hz:=TZ hc hz;subst hz;have:=hk v a b _ _ (z.bv ρ) (El ha hx).2 (El hb hy).2;exact⟨this.1,FX.c5 _ _ _ rfl this.2⟩
  ·cases h
 ·obtain⟨a,_,rfl,ha,hp⟩:=IE hp;obtain⟨b,_,rfl,hb,hp⟩:=IE hp;obtain⟨c,_,rfl,hc,hp⟩:=IE hp;cases Qz hp;split at h
  ·rename_i x y z hx hy hz;simp only[Ai] at h;subst h;have hz:=TZ hc hz;subst hz;have:=hk a b _ _ (z.bv ρ) (El ha hx).2 (El hb hy).2;exact⟨this.1,FX.c5 _ _ _ rfl this.2.1⟩
  ·cases h
 ·obtain⟨a,_,rfl,ha,hp⟩:=IE hp;obtain⟨b,_,rfl,hb,hp⟩:=IE hp;obtain⟨c,_,rfl,hc,hp⟩:=IE hp;cases Qz hp;split at h
  ·rename_i x y z hx hy hz;simp only[Ai] at h;subst h;have hz:=TZ hc hz;subst hz;have:=hk a b _ _ (z.bv ρ) (El ha hx).2 (El hb hy).2;exact⟨this.1,FX.c5 _ _ _ rfl this.2.2⟩
  ·cases h
 ·cases h
def opF(op:Na)(pa:List (List (Bk FX))):Option (List (Nat×FX)):=match op,pa with
 | .bin .or .i64,[a,b]=>(match kT a,kT b with
  |some x,some y=>some [(1,.or x y)]
  |_,_=>none)
 | .bin .eql .i64,[a,[.lit (.ofNat 0)]]=>(match kT a with
  |some x=>some [(1,.not x)]
  |_=>none)
 |_,_=>none
theorem AMT{T:Tb}{op:Na}{pa:List (List (Bk FX))}{r:List (Nat×FX)}(h:opF op pa=some r){ρ:FV}{ρe:Br}{ins:List (List Int)}(hp:aQ (γF ρ) ρe pa ins):Ei (γF ρ) r (op.den T ins):=by
 unfold opF at h;split at h
 ·obtain⟨a,_,rfl,ha,hp⟩:=IE hp;obtain⟨b,_,rfl,hb,hp⟩:=IE hp;cases Qz hp;split at h
  ·rename_i x y hx hy;simp only[Ai] at h;subst h;have h1:=TZ ha hx;have h2:=TZ hb hy;subst h1;subst h2;refine FX.c1 _ _ _ rfl ?_;show[Ah .or .i64 (bif x.bv ρ then 1 else 0) (bif y.bv ρ then 1 else 0)]=fA (x.bv ρ||y.bv ρ);cases x.bv ρ<;>cases y.bv ρ<;>decide +kernel
  ·cases h
 ·obtain⟨a,_,rfl,ha,hp⟩:=IE hp;obtain⟨b,_,rfl,hb,hp⟩:=IE hp;cases Qz hp;split at h
  ·rename_i x hx;simp only[Ai] at h;subst h;have h1:=TZ ha hx;obtain⟨u,w,g1,g2,g3⟩:=hb;have hw:w= []:=g3;rw[hw,Rw] at g1;subst g1;have W5:b= [Int.ofNat 0]:=g2;subst h1;subst W5;refine FX.c1 _ _ _ rfl ?_;show[Ah .eql .i64 (bif x.bv ρ then 1 else 0) 0]=fA (!x.bv ρ);cases x.bv ρ<;>decide +kernel
  ·cases h
 ·cases h
def nP(M:List (Nat×KF)):Tf FX where
 o:=opF
 f f o pa:=match lk f M with
  |some κ=>κ.tf o pa
  |none=>none
 p f pa:=match lk f M with
  |some κ=>(κ.tf 0 pa).isSome
  |none=>false
inductive MF (T:Tb):List (Nat×KF)->Prop where
 |nil:MF T []
 |cons {f:Nat} {κ:KF} {M:List (Nat×KF)}:κ.Ok T f->MF T M->MF T ((f,κ)::M)
theorem MF.get{T:Tb}:∀ {M:List (Nat×KF)},MF T M->∀ {f:Nat} {κ:KF},lk f M=some κ->κ.Ok T f
 |_,.nil,f,κ,h=>by cases h
 | _,.cons (f:=g) h1 h2,f,κ,h=>by
  simp only[lk] at h;cases hb:Nat.beq g f with
  |true=>
   rw[hb,cond_true,Ai] at h;have:=CR hb;subst this;subst h;exact h1
  |false=>rw[hb] at h;exact h2.get h
theorem YJ{T:Tb}{M:List (Nat×KF)}(hM:MF T M)(ρ:FV):Zd (γF ρ) T (nP M) where
 f f o pa r h ρe ins hp:=by
  simp only[nP] at h;split at h
  ·rename_i κ hk;exact(KF.sound (hM.get hk) h hp).2
  ·cases h
 o op pa r h ρe ins hp:=AMT h hp
 p f pa h ρe ins hp:=by
  simp only[nP] at h;split at h
  ·rename_i κ hk;obtain⟨r,hr⟩:=Option.isSome_iff_exists.1 h;exact(KF.sound (hM.get hk) hr hp).1.pre
  ·cases h
def FX.beq:FX->FX->Bool
 | .v m,.v n=>Nat.beq m n
 | .k m,.k n=>qf [m] [n]
 | .add p q,.add r s=>p.beq r&&q.beq s
 | .sub p q,.sub r s=>p.beq r&&q.beq s
 | .mul p q,.mul r s=>p.beq r&&q.beq s
 | .pw p m,.pw r n=>p.beq r&&Nat.beq m n
 | .b m,.b n=>Nat.beq m n
 | .ite p q w,.ite r s z=>p.beq r&&q.beq s&&w.beq z
 | .eq p q,.eq r s=>p.beq r&&q.beq s
 | .or p q,.or r s=>p.beq r&&q.beq s
 | .Sf p,.Sf r=>p.beq r
 | .not p,.not r=>p.beq r
 |_,_=>false
theorem FX.ej(ρ:FV):∀ {x y:FX},x.beq y=true->x.eb ρ=y.eb ρ:=by
 intro x
 induction x with
 |v n=>intro y h;cases y<;>simp only[FX.beq,RD] at h;rw[CR h]
 |k c=>intro y h;cases y<;>simp only[FX.beq,RD] at h;have:=Xm h;simp only[List.cons.injEq,and_true] at this;rw[this]
 |add a b iha AD=>intro y h;cases y<;>simp only[FX.beq,Bl,RD] at h;simp only[FX.eb,iha h.1,AD h.2]
 |sub a b iha AD=>intro y h;cases y<;>simp only[FX.beq,Bl,RD] at h;simp only[FX.eb,iha h.1,AD h.2]
 |mul a b iha AD=>intro y h;cases y<;>simp only[FX.beq,Bl,RD] at h;simp only[FX.eb,iha h.1,AD h.2]
 |pw a n iha=>intro y h;cases y<;>simp only[FX.beq,Bl,RD] at h;simp only[FX.eb,iha h.1,CR h.2]
 |b n=>intro y h;cases y<;>simp only[FX.beq,RD] at h;rw[CR h]
 |ite a b c iha AD ihc=>intro y h;cases y<;>simp only[FX.beq,Bl,RD] at h;simp only[FX.eb,iha h.1.1,AD h.1.2,ihc h.2]
 |t c=>intro y h;cases y<;>simp only[FX.beq,RD] at h
 |eq a b iha AD=>intro y h;cases y<;>simp only[FX.beq,Bl,RD] at h;simp only[FX.eb,iha h.1,AD h.2]
 |or a b iha AD=>intro y h;cases y<;>simp only[FX.beq,Bl,RD] at h;simp only[FX.eb,iha h.1,AD h.2]
 |Sf a iha=>intro y h;cases y<;>simp only[FX.beq,RD] at h;simp only[FX.eb,iha h]
 |not a iha=>intro y h;cases y<;>simp only[FX.beq,RD] at h;simp only[FX.eb,iha h]
def ABh(H:List FX)(_:List (Nat×GG))(s:BS FX):JU->Bool
 | .zr (.v n 0)=>(match lk n s with
  |some [(1,x)]=>x.wc&&H.any (λy=>x.beq y)
  |_=>false)
 |_=>false
theorem AGl{H:List FX}{ρ:FV}(hH:∀x∈H,x.bv ρ=false){T:Tb}(ds:List (Nat×GG)):jU (γF ρ) T ds (ABh H ds):=fun ρe s q _ hs h=>by
 unfold ABh at h;split at h
 ·rename_i n;split at h
  ·rename_i x hx;simp only[Bl,List.any_eq_true] at h;obtain⟨h1,y,h2,h3⟩:=h;obtain⟨u,w,g1,g2,g3,g4⟩:=hs n _ hx;have hw:w= []:=g4;rw[hw,Rw] at g1;have g5:=γF_b g3 h1;have e:x.bv ρ=false:=by
    have:=hH y h2;unfold FX.bv at *
    rw[FX.ej ρ h3];exact this
   rw[e] at g5;show(ρe n).getD 0 0=0;rw[g1,g5];rfl
  ·cases h
 ·cases h
end
section
open Go Ma
def iG(u v:Fp):Fp:=u*(v*v*v)*ND (u*(v*v*v)*(v*v*(v*v))) eP
def V6(u v:Fp):Fp:=v*(iG u v*iG u v)
theorem ADF(w:Fp)(n:Nat):ND (w*w) n=ND w n*ND w n:=by
 rw[<- NW];have:w*w=ND w 2:=by rw[Lr,RS]
 rw[this,VW,Nat.two_mul]
theorem AJR{a:Fp}(h:a*a=1):a=1\/a= -1:=by
 by_cases h1:a=1
 ·exact .inl h1
 ·right
  have h2:a-1≠0:=λh0=>h1 (by grind)
  refine Pq (c:=a-1) h2 ?_;grind
theorem chi{w:Fp}(h:w≠0):ND w eH=1\/ND w eH= -1:=by
 apply AJR;rw[<- NW];exact Ud h
theorem QJ{a b:Fp}(h:a*b=0):a=0\/b=0:=by
 by_cases ha:a=0
 ·exact .inl ha
 ·by_cases hb:b=0
  ·exact .inr hb
  ·exact absurd h (Gb ha hb)
theorem AKf{u v x:Fp}(h:v*(x*x)=u):V6 u v=u\/V6 u v= -u:=by
 by_cases hu:u=0
 ·left
  have h0:iG u v=0:=by unfold iG;rw[hu];grind
  unfold V6;rw[h0,hu];grind
 ·have hv:v≠0:=λh0=>hu (by rw[<- h,h0];grind)
  have hx:x≠0:=λh0=>hu (by rw[<- h,h0];grind)
  have hw:v*v*v*v*x≠0:=Gb (Gb (Gb (Gb hv hv) hv) hv) hx;have e1:u*(v*v*v)*(v*v*(v*v))=(v*v*v*v*x)*(v*v*v*v*x):=by rw[<- h];grind
  have e2:u*(v*v*v)=(v*v*v*v*x)*x:=by rw[<- h];grind
  have key:V6 u v=u*ND (v*v*v*v*x) eH:=by
   unfold V6 iG;rw[e1,ADF,e2];have e3:ND (v*v*v*v*x) eH=ND (v*v*v*v*x) eP*ND (v*v*v*v*x) eP*(ND (v*v*v*v*x) eP*ND (v*v*v*v*x) eP)*((v*v*v*v*x)*(v*v*v*v*x)):=by
    have:eH=eP+eP+(eP+eP)+2:=by decide +kernel
    rw[this,NW,NW,NW,Lr _ 1,RS]
   rw[e3];generalize ND (v*v*v*v*x) eP=s;generalize v*v*v*v*x=w;rw[<- h];grind
  rw[key];rcases chi hw with e|e<;>rw[e]
  ·left;grind
  ·right;grind
theorem AKr:iE*iE= -1:=by decide +kernel
theorem AOo{u v r:Fp}(hf:V6 u v=u\/V6 u v= -u)(hr:r=bif dY (V6 u v) (-u)||dY (V6 u v) (-u*iE) then iG u v*iE else iG u v):v*(r*r)=u:=by
 have hC:v*(iG u v*iG u v)=V6 u v:=rfl;have hi:=AKr;have PA:(2:Fp)≠0:=qQ;by_cases h1:V6 u v= -u
 ·rw[Re.2 h1] at hr;simp only[Bool.true_or,cond_true] at hr;rw[hr];generalize V6 u v=c at *
  generalize iG u v=s at *
  grind
 ·rw[nJ h1] at hr;have h0:V6 u v=u:=by
   rcases hf with h|h
   ·exact h
   ·exact absurd h h1
  by_cases h2:V6 u v= -u*iE
  ·have hu:u=0:=by
    have h3:u*(1+iE)=0:=by rw[h0] at h2;grind
    rcases QJ h3 with h|h
    ·exact h
    ·exfalso;have:iE= -1:=by grind
     rw[this] at hi;exact PA (by grind)
   exact absurd (by rw[h0,hu];grind) h1
  ·rw[nJ h2] at hr;simp only[Bool.or_false,cond_false] at hr;rw[hr,hC,h0]
theorem APX:Lh (NG iL)=iE:=by decide +kernel
theorem AIi(x y:Fp):(Zj (.v 0) (.v 1)).bv (FX.v2 x y)=(dY (V6 x y) x||dY (V6 x y) (0-x)):=by
 simp only[FX.bv,Zj,j3,lV,pY,FX.eb,FX.v2,V6,iG,Kz,Ru,X7]
theorem AM6(x y:Fp):(SI (nK (.v 0) (.v 1))).ev (FX.v2 x y)=(let r:=bif dY (V6 x y) (0-x)||dY (V6 x y) ((0-x)*iE) then iG x y*iE else iG x y;bif Nat.beq (r.val%2) 1 then 0-r else r):=by
 simp only[FX.ev,SI,nK,j3,lV,pY,FX.eb,FX.v2,V6,iG,Kz,APX,Ru,X7]
theorem kC{r:Fp}(h:r.val%2=1):(0-r).val%2=0:=by
 have h1:=r.isLt;have h2:(0-r).val=PP-r.val:=by
  have h3:(0-r)+r=0:=by grind
  have h4:=EH Fin.val h3;rw[Fin.val_add] at h4;have h5:=(0-r).isLt;have h6:(0:Fp).val=0:=rfl;rw[h6] at h4;have h7:=Nat.div_add_mod ((0-r).val+r.val) PP;rw[h4,P5] at h7;generalize ((0-r).val+r.val)/PP=q at h7;generalize (0-r).val=a at *
  generalize r.val=b at *
  have h9:PP*q<PP*2:=by omega
  have lE:q<2:=Nat.lt_of_mul_lt_mul_left h9
  match q,lE with
  |0,_=>rw[Nat.mul_zero] at h7;omega
  |1,_=>rw[Nat.mul_one] at h7;omega
 rw[h2];have:PP%2=1:=by decide +kernel
 omega
theorem ADZ(r:Fp):(bif Nat.beq (r.val%2) 1 then 0-r else r).val%2=0:=by
 rcases Nat.mod_two_eq_zero_or_one r.val with h|h
 ·rw[h];show r.val%2=0;exact h
 ·rw[h];show(0-r).val%2=0;exact kC h
theorem AKg(r:Fp):(bif Nat.beq (r.val%2) 1 then 0-r else r)*(bif Nat.beq (r.val%2) 1 then 0-r else r)=r*r:=by
 cases Nat.beq (r.val%2) 1
 ·rfl
 ·simp only[cond_true];grind
theorem ACw{f:Bool}{u v R:Fp}(h1:(∃x,v*(x*x)=u)->f=true)(h2:f=true->v*(R*R)=u):(f=true↔∃x,v*(x*x)=u)/\(f=true->v*((let r:=R;bif Nat.beq (r.val%2) 1 then 0-r else r)*(let r:=R;bif Nat.beq (r.val%2) 1 then 0-r else r))=u)/\(let r:=R;bif Nat.beq (r.val%2) 1 then 0-r else r).val%2=0:=by
 refine⟨⟨λh=>⟨_,h2 h⟩,h1⟩,λh=>?_,ADZ _⟩;simp only;rw[AKg];exact h2 h
theorem VL(u v:Fp):((Zj (.v 0) (.v 1)).bv (FX.v2 u v)=true↔∃x,v*(x*x)=u)/\((Zj (.v 0) (.v 1)).bv (FX.v2 u v)=true->v*((SI (nK (.v 0) (.v 1))).ev (FX.v2 u v)*(SI (nK (.v 0) (.v 1))).ev (FX.v2 u v))=u)/\((SI (nK (.v 0) (.v 1))).ev (FX.v2 u v)).val%2=0:=by
 rw[AIi,AM6];have hn:(0:Fp)-u= -u:=by grind
 rw[hn];have h1:(∃x,v*(x*x)=u)->(dY (V6 u v) u||dY (V6 u v) (-u))=true:=λ⟨x,hx⟩=>by
  rw[Bool.or_eq_true,Re,Re];exact AKf hx
 have h2:(dY (V6 u v) u||dY (V6 u v) (-u))=true->v*((bif dY (V6 u v) (-u)||dY (V6 u v) (-u*iE) then iG u v*iE else iG u v)*(bif dY (V6 u v) (-u)||dY (V6 u v) (-u*iE) then iG u v*iE else iG u v))=u:=λh=>by
  rw[Bool.or_eq_true,Re,Re] at h;exact AOo h rfl
 exact ACw h1 h2
end
end Go.Proofs.YtloibefkijfdlaaGreatDoor
