/- A walk over trees of calls: what is known of a list is told block by block. -/
import Derived.Test.YtkbfdaoohhmgoaaGreatDoorCa
namespace Go.Proofs.YtkbfdaoohhmgoaaGreatDoor
section
open Go
inductive Bk (A:Type) where
 |a (n:Nat) (x:A)
 |lit (c:Int)
 |sx (v:X)
 |vec (j:Nat)
section
variable{A:Type}(γ:A->List Int->Prop)
def Bk.ok(ρ:Bu):Bk A->List Int->Prop
 | .a n y,l=>l.length=n/\γ y l
 | .lit c,l=>l= [c]
 | .sx v,l=>l= [v.den ρ]
 | .vec j,l=>l=ρ j
def GK(ρ:Bu):List (Bk A)->List Int->Prop
 | [],l=>l= []
 |b::bs,l=>∃u w,l=u++w/\b.ok γ ρ u/\GK ρ bs w
def Fw:List (Nat×A)->List Int->Prop
 | [],l=>l= []
 |(n,x)::bs,l=>∃u w,l=u++w/\u.length=n/\γ x u/\Fw bs w
def APc(bs:List (Nat×A)):List (Bk A):=bs.map λp=>.a p.1 p.2
theorem Fw.bk{ρ:Bu}:∀ {bs:List (Nat×A)} {l:List Int},Fw γ bs l->GK γ ρ (APc bs) l
 | [],_l,h=>h
 |(_n,_x)::_bs,_l,⟨u,w,h1,h2,h3,h4⟩=>⟨u,w,h1,⟨h2,h3⟩,Fw.bk h4⟩
abbrev BS (A:Type):=List (Nat×List (Nat×A))
def WH(ρ:Bu)(s:BS A):Prop:=∀i bs,lk i s=some bs->Fw γ bs (ρ i)
def zG:List (Nat×A)->Nat->Option (Nat×A)
 | [],_=>none
 |(n,x)::r,k=>bif Nat.beq k 0 then some (n,x) else bif Nat.ble n k then zG r (k-n) else none
theorem lW:∀ {bs:List (Nat×A)} {k n:Nat} {x:A} {l:List Int},Fw γ bs l->zG bs k=some (n,x)->∃p u q,l=p++u++q/\p.length=k/\u.length=n/\γ x u
 | [],k,n,x,l,_,h=>by cases h
 | (m,y)::r,k,n,x,l,⟨u,w,h1,h2,h3,h4⟩,h=>by
  unfold zG at h;cases hb:Nat.beq k 0 with
  |true=>
   rw[hb,cond_true,Ai,Prod.mk.injEq] at h;obtain⟨rfl,rfl⟩:=h;exact⟨[],u,w,by rw[h1];rfl,(Ca hb).symm,h2,h3⟩
  | false=>
   rw[hb,cond_false] at h;cases hc:Nat.ble m k with
   |false=>rw[hc] at h;cases h
   |true=>
    rw[hc,cond_true] at h;obtain⟨p,v,q,g1,g2,g3,g4⟩:=lW h4 h;have:=Kv hc;exact⟨u++p,v,q,by rw[h1,g1];simp,by simp;omega,g3,g4⟩
def Mo (s:BS A):Nat->List X->Option (List (Bk A))
 |_,[]=>some []
 |0,_::_=>none
 |f+1,.lit c::r=>(match Mo s f r with
  |some bs=>some (.lit c::bs)
  |none=>none)
 |f+1,.v i k::r=>(match (match lk i s with
  |some bs=>zG bs k
  |none=>none) with
  | some (n+1,x)=>bif PX i (k+1) (r.take n)&&Nat.beq (r.take n).length n then(match Mo s f (r.drop n) with
    |some bs=>some (.a (n+1) x::bs)
    |none=>none) else(match Mo s f r with
    |some bs=>some (.sx (.v i k)::bs)
    |none=>none)
  | _=>(match Mo s f r with
    |some bs=>some (.sx (.v i k)::bs)
    |none=>none))
theorem Yv{ρ:Bu}{i:Nat}:∀ {l:List X} {k:Nat},PX i k l=true->l.map (·.den ρ)=(List.range l.length).map λj=>(ρ i).getD (k+j) 0
 | [],k,_=>rfl
 | .lit _::_,_,h=>by cases h
 | .v j m::r,k,h=>by
  simp only[PX,Bj] at h;have e1:=Ca h.1.1;have e2:=Ca h.1.2;subst e1;subst e2;rw[NM,Yv h.2,NY,List.range_succ_eq_map,NM,List.map_map]
  congr 1
  apply fT;intro j _;simp only[Function.comp]
  congr 1;omega
theorem AG6{p u q:List Int}:(List.range u.length).map (λj=>(p++u++q).getD (p.length+j) 0)=u:=by
 apply List.ext_getElem (by simp);intro j h1 h2;simp only[List.getElem_map,List.getElem_range];rw[List.getD,Yt,fQ (by omega),Nat.add_sub_cancel_left,gZ h2,Io h2];rfl
theorem PH{ρ:Bu}{s:BS A}(hs:WH γ ρ s):∀(f:Nat) (l:List X) (bs:List (Bk A)),Mo s f l=some bs->GK γ ρ bs (l.map (·.den ρ))
 |_,[],bs,h=>by unfold Mo at h;simp only[Ai] at h;subst h;rfl
 |0,_::_,bs,h=>by simp[Mo] at h
 | f+1,.lit c::r,bs,h=>by
  unfold Mo at h;split at h
  ·rename_i DH hr;simp only[Ai] at h;subst h;exact⟨[c],_,rfl,rfl,PH hs f r DH hr⟩
  ·cases h
 | f + 1,.v i k::r,bs,h=>by
  have one:∀DH,Mo s f r=some DH->GK γ ρ (.sx (.v i k)::DH) ((X.v i k::r).map (·.den ρ)):=λDH hr=>⟨[_],_,rfl,rfl,PH hs f r DH hr⟩
  have adl:(match Mo s f r with
    |some bs=>some (.sx (.v i k)::bs)
    |none=>none)=some bs->GK γ ρ bs ((X.v i k::r).map (·.den ρ)):=λh=>by
   split at h
   ·rename_i DH hr;simp only[Ai] at h;subst h;exact one DH hr
   ·cases h
  unfold Mo at h;split at h
  ·rename_i n x hx;cases hb:(PX i (k+1) (r.take n)&&Nat.beq (r.take n).length n) with
   |false=>rw[hb,cond_false] at h;exact adl h
   | true=>
    rw[hb,cond_true] at h;simp only[Bj] at hb;have hlen:=Ca hb.2;split at h
    ·rename_i DH hr;simp only[Ai] at h;subst h;split at hx
     ·rename_i bl Th;obtain⟨p,u,q,h1,h2,h3,h4⟩:=lW γ (hs i bl Th) hx;refine⟨u,(r.drop n).map (·.den ρ),?_,⟨h3,h4⟩,PH hs f _ DH hr⟩;have e1:(X.v i k::r.take n).map (·.den ρ)=u:=by
       have:=Yv (ρ:=ρ) (i:=i) (l:=X.v i k::r.take n) (k:=k) (by simp[PX,hb.1]);rw[this,NY,hlen,h1, <- h2,show n+1=u.length from h3.symm];exact AG6
      rw[<- e1, <- List.map_append];simp
     ·cases hx
    ·cases h
  ·exact adl h
def tO(s:BS A):Hy->Option (List (Bk A))
 | .vec j=>some (match lk j s with
  |some bs=>APc bs
  |none=>[.vec j])
 | .xs l=>Mo s l.length l
theorem AA6{ρ:Bu}{s:BS A}(hs:WH γ ρ s){a:Hy}{bs:List (Bk A)}(h:tO s a=some bs):GK γ ρ bs (a.den ρ):=by
 cases a with
 |vec j=>
  simp only[tO,Ai] at h;subst h;split
  ·rename_i bl Th;exact Fw.bk γ (hs j bl Th)
  ·exact⟨ρ j,[],by simp[Hy.den],rfl,rfl⟩
 |xs l=>exact PH γ hs _ _ _ h
def UE(s:BS A):List Hy->Option (List (List (Bk A)))
 | []=>some []
 |a::r=>match tO s a,UE s r with
  |some b,some bs=>some (b::bs)
  |_,_=>none
def fU(ρ:Bu):List (List (Bk A))->List (List Int)->Prop
 | [],[]=>True
 |b::bs,l::ls=>GK γ ρ b l/\fU ρ bs ls
 |_,_=>False
theorem U2{ρ:Bu}{s:BS A}(hs:WH γ ρ s):∀ {as:List Hy} {bs:List (List (Bk A))},UE s as=some bs->fU γ ρ bs (as.map (·.den ρ))
 | [],bs,h=>by simp only[UE,Ai] at h;subst h;trivial
 | a::r,bs,h=>by
  unfold UE at h;split at h
  ·rename_i b DH h1 h2;simp only[Ai] at h;subst h;exact⟨AA6 γ hs h1,U2 hs h2⟩
  ·cases h
structure Tf (A:Type) where
 f:Nat->Nat->List (List (Bk A))->Option (List (Nat×A))
 o:NR->List (List (Bk A))->Option (List (Nat×A))
 p:Nat->List (List (Bk A))->Bool
structure cu (T:Tb) (t:Tf A):Prop where
 f:∀f o pa r,t.f f o pa=some r->∀ ρ ins,fU γ ρ pa ins->Fw γ r (NR.den T (.fn f true o) ins)
 o:∀op pa r,t.o op pa=some r->∀ ρ ins,fU γ ρ pa ins->Fw γ r (NR.den T op ins)
 p:∀f pa,t.p f pa=true->∀ ρ ins,fU γ ρ pa ins->∃s,lk f T=some s/\(s.cf true).pre ins
def Tf.op(t:Tf A)(op:NR)(pa:List (List (Bk A))):Option (List (Nat×A)):=match op with
 | .fn f true o=>t.f f o pa
 |op=>t.o op pa
def ABt(t:Tf A)(s:BS A)(n:Nat)(d:FT):BS A:=match UE s d.args with
 |some pa=>(match t.op d.op pa with
  |some r=>(n,r)::s
  |none=>s)
 |none=>s
def Zz(t:Tf A):BS A->List (Nat×FT)->BS A
 |s,[]=>s
 |s,(n,d)::r=>Zz t (ABt t s n d) r
theorem Tf.aeH{T:Tb}{t:Tf A}(ht:cu γ T t){op:NR}{pa:List (List (Bk A))}{r:List (Nat×A)}(h:t.op op pa=some r){ρ:Bu}{ins:List (List Int)}(hp:fU γ ρ pa ins):Fw γ r (op.den T ins):=by
 unfold Tf.op at h;split at h
 ·exact ht.f _ _ pa r h ρ ins hp
 ·exact ht.o _ pa r h ρ ins hp
theorem AEx{T:Tb}{t:Tf A}(ht:cu γ T t){ρ:Bu}{s:BS A}(hs:WH γ ρ s){n:Nat}{d:FT}(hn:ρ n=d.den T ρ):WH γ ρ (ABt t s n d):=by
 unfold ABt;split
 ·rename_i pa hpa;split
  ·rename_i r hr;intro i bs hi;simp only[lk] at hi;cases hb:Nat.beq n i with
   |true=>
    rw[hb,cond_true,Ai] at hi;have:=Ca hb;subst this;subst hi;have:=Tf.aeH γ ht hr (U2 γ hs hpa);rw[hn,FT.den];exact this
   |false=>rw[hb,cond_false] at hi;exact hs i bs hi
  ·exact hs
 ·exact hs
theorem ZU{T:Tb}{t:Tf A}(ht:cu γ T t){ρ:Bu}:∀ {ds:List (Nat×FT)} {s:BS A},WH γ ρ s->Vg T ρ ds->WH γ ρ (Zz t s ds)
 | [],s,hs,_=>hs
 |(n,d)::r,s,hs,hd=>by
  unfold Zz;exact ZU ht (AEx γ ht hs (hd (n,d) Jv)) (λp hp=>hd p (MN _ hp))
def AA1(t:Tf A)(uv:BS A->I1->Bool)(s:BS A):I1->Bool
 | .pre f as=>(match UE s as with
  |some pa=>t.p f pa
  |none=>false)
 |q=>uv s q
def nK(T:Tb)(ds:List (Nat×FT))(uv:BS A->I1->Bool):Prop:=∀ ρ s q,Vg T ρ ds->WH γ ρ s->uv s q=true->q.den T ρ
theorem zk{T:Tb}{t:Tf A}(ht:cu γ T t){ds:List (Nat×FT)}{uv:BS A->I1->Bool}(ho:nK γ T ds uv){ρ:Bu}{s:BS A}(hd:Vg T ρ ds)(hs:WH γ ρ s){q:I1}(h:AA1 t uv s q=true):q.den T ρ:=by
 unfold AA1 at h;split at h
 ·rename_i f as;split at h
  ·rename_i pa hpa;obtain⟨fe,h1,h2⟩:=ht.p f pa h ρ _ (U2 γ hs hpa);simp only[I1.den,h1];exact h2
  ·cases h
 ·exact ho ρ s q hd hs h
def XZ:Nat->List (Option (List (Nat×A)))->BS A
 |_,[]=>[]
 |j,none::r=>XZ (j+1) r
 |j,some b::r=>(j,b)::XZ (j+1) r
theorem Vs:∀ {l:List (Option (List (Nat×A)))} {j i:Nat} {bs:List (Nat×A)},lk i (XZ j l)=some bs->∃k,i=j+k/\l[k]? = some (some bs)
 | [],j,i,bs,h=>by simp[XZ,lk] at h
 |none::r,j,i,bs,h=>by
  simp only[XZ] at h;obtain⟨k,h1,h2⟩:=Vs h;exact⟨k+1,by omega,by simpa using h2⟩
 | some b::r,j,i,bs,h=>by
  simp only[XZ,lk] at h;cases hb:Nat.beq j i with
  |true=>
   rw[hb,cond_true,Ai] at h;have:=Ca hb;exact⟨0,by omega,by rw[<- h];rfl⟩
  |false=>
   rw[hb,cond_false] at h;obtain⟨k,h1,h2⟩:=Vs h;exact⟨k+1,by omega,by simpa using h2⟩
def Tx(s:BS A):SY->Option (List (List (Bk A)))
 | []=>some []
 |e::r=>match Mo s e.1.length e.1,Tx s r with
  |some b,some bs=>some (b::bs)
  |_,_=>none
def WG(t:Tf A)(uv:List (Nat×FT)->BS A->I1->Bool)(i:Ac)(C:Cx)(bin:List (Option (List (Nat×A)))):Option (List (List (Bk A))):=
 match mf (i.tree C) with
 | some (ds,ob,_e,st)=>bif OO i.s0.params.length (i.tree C)&&Nat.beq bin.length i.s0.params.length then
   (let s:=Zz t (XZ 0 bin) ds
     bif ob.all (AA1 t (uv ds) s) then(match Ky C i.s0 i.cA st with
   |some es=>Tx s es
   |none=>none) else none) else none
 |none=>none
theorem Sn{s:BS A}:∀ {es:SY} {r:List (List (Bk A))},Tx s es=some r->∀(k:Nat) (b:List (Bk A)),r[k]? = some b->∃e,es[k]? = some e/\Mo s e.1.length e.1=some b
 | [],r,h,k,b,hk=>by simp only[Tx,Ai] at h;subst h;simp at hk
 | e::es,r,h,k,b,hk=>by
  unfold Tx at h;split at h
  ·rename_i b0 bs h1 h2;simp only[Ai] at h;subst h;cases k with
   |zero=>simp only[UV,Ai] at hk;subst hk;exact⟨e,rfl,h1⟩
   |succ k=>
    obtain⟨e',g1,g2⟩:=Sn h2 k b (by simpa using hk);exact⟨e',by simpa using g1,g2⟩
  ·cases h
theorem V5{t:Tf A}{uv:List (Nat×FT)->BS A->I1->Bool}{i:Ac}{C:Cx}{bin:List (Option (List (Nat×A)))}{r:List (List (Bk A))}(ht:cu γ C.T t)(ho:∀ds,nK γ C.T ds (uv ds))(h:WG t uv i C bin=some r){ins:List (List Int)}(hb:∀(j:Nat) (b:List (Nat×A)),bin[j]? = some (some b)->Fw γ b (ins.getD j [])):
  Cv C.T (i.tree C) (BK ins)/\∃ ρ:Bu,(∀j,j<i.s0.params.length->ρ j=ins.getD j [])/\∀(k:Nat) (b:List (Bk A)),r[k]? = some b->GK γ ρ b (i.raw C k ins):=by
 unfold WG at h;split at h
 ·rename_i ds ob e st hl;cases hc:(OO i.s0.params.length (i.tree C)&&Nat.beq bin.length i.s0.params.length) with
  |false=>rw[hc] at h;cases h
  |true=>
  rw[hc,cond_true] at h;simp only[Bj] at hc;have hlen:=Ca hc.2;obtain⟨k1,k2,k3,k4,k5⟩:=Rc (T:=C.T) (ρ:=BK ins) hc.1 hl;have hρ:∀j,j<i.s0.params.length->Df C.T (BK ins) ds j=ins.getD j []:=λj hj=>by rw[k1 j hj];rfl
  have eE:WH γ (Df C.T (BK ins) ds) (XZ 0 bin):=λj bs hj=>by
   obtain⟨k,h1,h2⟩:=Vs hj;rw[KN] at h1;subst h1;have bj:j<bin.length:=(Oa.1 h2).1;rw[hρ j (by omega)];exact hb j bs h2
  have hS:=ZU γ ht eE k2;simp only at h;cases mj:ob.all (AA1 t (uv ds) (Zz t (XZ 0 bin) ds)) with
  |false=>rw[mj] at h;cases h
  |true=>
  rw[mj,cond_true] at h;split at h
  ·rename_i es nh;refine⟨k5 λq hq=>zk γ ht (ho ds) k2 hS (Kh.1 mj q hq),Df C.T (BK ins) ds,hρ,λk b hk=>?_⟩;obtain⟨e',g1,g2⟩:=Sn h k b hk;have:i.raw C k ins=e'.1.map (·.den (Df C.T (BK ins) ds)):=by
    unfold Ac.raw Ru;rw[k4];simp only[nh,g1]
   rw[this];exact PH γ hS _ _ _ g2
  ·cases h
 ·cases h
end
end
end Go.Proofs.YtkbfdaoohhmgoaaGreatDoor
namespace Go.Proofs.YtkbfdaoohhmgoaaGreatDoor
namespace Ma
def Pr(p:Nat):Prop:=1<p/\∀m,m ∣ p->m=1\/m=p
theorem bez(a b:Nat):∃x y:Int,(a:Int)*x+(b:Int)*y=(Nat.gcd a b:Nat):=by
 induction a,b using Nat.gcd.induction with
 |H0 n=>exact⟨0,1,by simp⟩
 |H1 m n _ ih=>
  obtain⟨x,y,h⟩:=ih;refine⟨y-(n/m:Nat)*x,x,?_⟩;rw[Nat.gcd_rec, <- h];have hd:(n:Int)=(m:Int)*(n/m:Nat)+(n%m:Nat):=by exact_mod_cast (Nat.div_add_mod n m).symm
  have e1:(m:Int)*(y-(n/m:Nat)*x)+n*x=m*y-(m*(n/m:Nat))*x+n*x:=by rw[Int.mul_sub,YL]
  rw[e1];have e2:(n:Int)*x=(m*(n/m:Nat))*x+(n%m:Nat)*x:=by rw[<- Bx, <- hd]
  rw[e2];omega
theorem AE6{p a b:Nat}(hp:Pr p)(h:p ∣ a*b):p ∣ a\/p ∣ b:=by
 by_cases ha:p ∣ a
 ·exact .inl ha
 ·right
  have hg:Nat.gcd p a=1:=by
   rcases hp.2 _ (Nat.gcd_dvd_left p a) with h1|h1
   ·exact h1
   ·exact absurd (h1 ▸ Nat.gcd_dvd_right p a) ha
  exact Nat.Coprime.dvd_of_dvd_mul_left hg h
def ch:Nat->Nat->Nat
 |_,0=>1
 |0,_+1=>0
 |n+1,k+1=>ch n k+ch n (k+1)
theorem Yi:∀ {n k:Nat},n<k->ch n k=0
 |0,k+1,_=>rfl
 |n+1,k+1,h=>by simp only[ch,Yi (show n<k by omega),Yi (show n<k+1 by omega)]
theorem zi:∀n,ch n n=1
 |0=>rfl
 |n+1=>by simp only[ch,zi n,Yi (Nat.lt_succ_self n)]
theorem jO:∀n k,(k+1)*ch (n+1) (k+1)=(n+1)*ch n k
 |0,0=>rfl
 |0,k+1=>by simp[ch]
 |n+1,0=>by
  have:=jO n 0;simp only[ch] at this ⊢;omega
 |n+1,k+1=>by
  have h1:=jO n k;have h2:=jO n (k+1);have e:ch (n+1+1) (k+1+1)=ch (n+1) (k+1)+ch (n+1) (k+1+1):=rfl;rw[e,Nat.mul_add,h2];have e2:(k+1+1)*ch (n+1) (k+1)=(k+1)*ch (n+1) (k+1)+ch (n+1) (k+1):=by rw[Nat.add_mul (k+1) 1,Nat.one_mul]
  rw[e2,h1];have e3:ch (n+1) (k+1)=ch n k+ch n (k+1):=rfl;rw[e3];simp only[Nat.add_mul,Nat.mul_add,Nat.one_mul];omega
def bs(x n:Nat):Nat->Nat
 |0=>0
 |m+1=>bs x n m+ch n m*x^m
theorem zh(x n:Nat):∀m,bs x (n+1) (m+1)=bs x n (m+1)+x*bs x n m
 |0=>by simp[bs,ch]
 |m+1=>by
  have ih:=zh x n m;have e:bs x (n+1) (m+1+1)=bs x (n+1) (m+1)+ch (n+1) (m+1)*x^(m+1):=rfl;have e2:bs x n (m+1+1)=bs x n (m+1)+ch n (m+1)*x^(m+1):=rfl;have e3:bs x n (m+1)=bs x n m+ch n m*x^m:=rfl;rw[e,ih,e2];have e4:ch (n+1) (m+1)=ch n m+ch n (m+1):=rfl;rw[e4,Nat.add_mul];have e5:x*bs x n (m+1)=x*bs x n m+ch n m*x^(m+1):=by rw[e3,Nat.mul_add,kw];congr 1;rw[Nat.mul_left_comm,qI x]
  rw[e5];omega
theorem ABg(x:Nat):∀n,bs x n (n+1)=(x+1)^n
 |0=>by simp[bs,ch]
 |n+1=>by
  have e:bs x n (n+1+1)=bs x n (n+1)+ch n (n+1)*x^(n+1):=rfl;rw[zh,e,Yi (Nat.lt_succ_self n),Nat.zero_mul,QO,ABg x n,kw,Nat.mul_add,Nat.mul_one,qI x,Nat.add_comm]
theorem AOd{p:Nat}(hp:Pr p){k:Nat}(h0:0<k)(h1:k<p):p ∣ ch p k:=by
 obtain⟨k,rfl⟩:∃j,k=j+1:=⟨k-1,by omega⟩;obtain⟨q,rfl⟩:∃j,p=j+1:=⟨p-1,by have:=hp.1;omega⟩;have h:(q+1) ∣ (k+1)*ch (q+1) (k+1):=by rw[jO];exact⟨_,rfl⟩
 rcases AE6 hp h with h|h
 ·exact absurd (Nat.le_of_dvd (by omega) h) (by omega)
 ·exact h
theorem AD9{p:Nat}(hp:Pr p)(x:Nat):∀m,m<p->bs x p (m+1)%p=1%p
 |0,_=>by simp[bs,ch]
 |m+1,h=>by
  have e:bs x p (m+1+1)=bs x p (m+1)+ch p (m+1)*x^(m+1):=rfl;obtain⟨c,hc⟩:=AOd hp (show 0<m+1 by omega) h;rw[e,hc,Nat.mul_assoc,Nat.add_mul_mod_self_left];exact AD9 hp x m (by omega)
theorem AQR{p:Nat}(hp:Pr p)(x:Nat):(x+1)^p%p=(x^p+1)%p:=by
 have h1:=ABg x p;have e:bs x p (p+1)=bs x p p+ch p p*x^p:=rfl;obtain⟨q,rfl⟩:∃j,p=j+1:=⟨p-1,by have:=hp.1;omega⟩;rw[<- h1,e,zi,Nat.one_mul,Nat.add_mod,AD9 hp x q (by omega), <- Nat.add_mod,Nat.add_comm]
theorem wP{p:Nat}(hp:Pr p):∀a,a^p%p=a%p
 |0=>by rw[Nat.zero_pow (by have:=hp.1;omega)]
 |a+1=>by rw[AQR hp,Nat.add_mod,wP hp a, <- Nat.add_mod]
theorem ADU{p:Nat}(hp:Pr p){a:Nat}(ha:¬p ∣ a):a^(p-1)%p=1:=by
 have h:=wP hp a;have h1:=hp.1;have e:a^p=a*a^(p-1):=by rw[<- Nat.pow_succ',show(p-1).succ=p by omega]
 have akm:1<=a^(p-1):=P1 (by rcases Nat.eq_zero_or_pos a with rfl|h;exact absurd (Nat.dvd_zero p) ha;exact h);have hd:p ∣ a*(a^(p-1)-1):=by
  rw[Nat.mul_sub,Nat.mul_one, <- e];have hle:a<=a^p:=by rw[e];exact Nat.le_mul_of_pos_right a akm
  exact(Nat.dvd_iff_mod_eq_zero ..).2 (Nat.sub_mod_eq_zero_of_mod_eq h)
 rcases AE6 hp hd with h2|h2
 ·exact absurd h2 ha
 ·obtain⟨c,hc⟩:=h2;have h3:a^(p-1)=1+p*c:=by omega
  rw[h3,Nat.add_mul_mod_self_left,Nat.mod_eq_of_lt h1]
end Ma
end Go.Proofs.YtkbfdaoohhmgoaaGreatDoor
namespace Go.Proofs.YtkbfdaoohhmgoaaGreatDoor
namespace Ma
theorem ASf:∀(m:Nat),1<m->∃r,Pr r/\r ∣ m:=by
 intro m
 induction m using Nat.strongRecOn with
 | ind m ih=>
  intro h;by_cases hp:Pr m
  ·exact⟨m,hp,Nat.dvd_refl _⟩
  ·have:∃d,d ∣ m/\d≠1/\d≠m:=by
    refine Classical.byContradiction λhn=>hp ⟨h,λd hd=>?_⟩
    by_cases h1:d=1
    ·exact .inl h1
    ·by_cases h2:d=m
     ·exact .inr h2
     ·exact absurd ⟨d,hd,h1,h2⟩ hn
   obtain⟨d,hd,h1,h2⟩:=this;have hle:=Nat.le_of_dvd (by omega) hd;have h0:d≠0:=λe=>by subst e;have:=Nat.eq_zero_of_zero_dvd hd;omega
   obtain⟨r,hr,ot⟩:=ih d (by omega) (by omega);exact⟨r,hr,Nat.dvd_trans ot hd⟩
theorem ASQ{n:Nat}(h:1<n)(hn:¬Pr n):∃r,Pr r/\r ∣ n/\r*r<=n:=by
 have:∃d,d ∣ n/\d≠1/\d≠n:=by
  refine Classical.byContradiction λhc=>hn ⟨h,λd hd=>?_⟩
  by_cases h1:d=1
  ·exact .inl h1
  ·by_cases h2:d=n
   ·exact .inr h2
   ·exact absurd ⟨d,hd,h1,h2⟩ hc
 obtain⟨d,⟨k,hk⟩,h1,h2⟩:=this;have hd0:d≠0:=λe=>by subst e;omega
 have lA:k≠0:=λe=>by subst e;omega
 have hk1:k≠1:=λe=>by subst e;omega
 rcases Nat.le_total d k with hle|hle
 ·obtain⟨r,hr,ot⟩:=ASf d (by omega);refine⟨r,hr,Nat.dvd_trans ot ⟨k,hk⟩,?_⟩;have h3:=Nat.le_of_dvd (by omega) ot;have:=Nat.mul_le_mul h3 (EX h3 hle);omega
 ·obtain⟨r,hr,ot⟩:=ASf k (by omega);refine⟨r,hr,Nat.dvd_trans ot ⟨d,by rw[hk,qI]⟩,?_⟩;have h3:=Nat.le_of_dvd (by omega) ot;have:=Nat.mul_le_mul (EX h3 hle) h3;omega
theorem APz{r x:Nat}(h:x%r=1%r)(k:Nat):x^k%r=1%r:=by
 rw[Nat.pow_mod,h, <- Nat.pow_mod,Nat.one_pow]
theorem AQm{n q a r:Nat}(hq:Pr q)(hqn:q ∣ n-1)(h1:a^(n-1)%n=1%n)(hg:Nat.gcd (a^((n-1)/q)%n+n-1) n=1)(hn:1<n)(hr:Pr r)(C0:r ∣ n):q ∣ r-1:=by
 have sd:=hr.1;obtain⟨b,hb⟩:∃b,b=a^((n-1)/q):=⟨_,rfl⟩;rw[<- hb] at hg;have hbq:b^q=a^(n-1):=by rw[hb, <- Nat.pow_mul,Nat.div_mul_cancel hqn]
 have acA:b^q%r=1%r:=by
  rw[hbq];have:=CV (· % r) h1;simpa[Nat.mod_mod_of_dvd _ C0] using this
 have hrb:¬r ∣ b:=λhd=>by
  have:b^q%r=0:=Nat.mod_eq_zero_of_dvd (Nat.dvd_trans hd ⟨b^(q-1),by rw[<- Nat.pow_succ',show(q-1).succ=q by have:=hq.1;omega]⟩);rw[this,Nat.mod_eq_of_lt sd] at acA;omega
 have cj:b%r≠1:=λhe=>by
  have h2:r ∣ b%n+n-1:=by
   have e:(b%n)%r=1:=by rw[Nat.mod_mod_of_dvd _ C0];exact he
   have hd:=Nat.div_add_mod (b%n) r;obtain⟨c,hc⟩:=C0;refine⟨b%n/r+c,?_⟩;rw[Nat.mul_add, <- hc];omega
  have:=Nat.dvd_gcd h2 C0;rw[hg] at this;have:=Nat.le_of_dvd (by omega) this;omega
 refine Classical.byContradiction λhnd=>cj ?_
 have L5:Nat.gcd q (r-1)=1:=by
  rcases hq.2 _ (Nat.gcd_dvd_left q (r-1)) with h|h
  ·exact h
  ·exact absurd (h ▸ Nat.gcd_dvd_right q (r-1)) hnd
 obtain⟨x,y,Rr⟩:=bez q (r-1);rw[L5] at Rr;obtain⟨u,v,huv⟩:∃u v:Nat,u*q=v*(r-1)+1:=by
  let t:Nat:=x.natAbs+y.natAbs
  have hq1:=hq.1;have hx:0<=x+t*(r-1:Nat):=by
   have h3:(t:Int)*1<=t*(r-1:Nat):=Int.mul_le_mul_of_nonneg_left (by omega) (by omega);have:(t:Int)=x.natAbs+y.natAbs:=by simp[t]
   omega
  have hy:0<=t*(q:Int)-y:=by
   have h3:(t:Int)*1<=t*(q:Int):=Int.mul_le_mul_of_nonneg_left (by omega) (by omega);have:(t:Int)=x.natAbs+y.natAbs:=by simp[t]
   omega
  obtain⟨u,hu⟩:=kC hx;obtain⟨v,hv⟩:=kC hy;refine⟨u,v,?_⟩;have:(u:Int)*q=v*(r-1:Nat)+1:=by
   rw[<- hu, <- hv,Bx,Int.sub_mul];have e1:(t:Int)*(r-1:Nat)*q=t*q*(r-1:Nat):=by rw[YL,YL,bf ((r-1:Nat):Int)]
   have e2:x*(q:Int)=q*x:=bf _ _;have e3:y*((r-1:Nat):Int)=(r-1:Nat)*y:=bf _ _;rw[e1,e2,e3];have e4:((1:Nat):Int)=1:=rfl;rw[e4] at Rr;omega
  exact_mod_cast this
 have h3:b^(u*q)%r=1%r:=by rw[qI,Nat.pow_mul];exact APz acA u
 rw[huv,kw,qI v,Nat.pow_mul,Nat.mul_mod,APz (by rw[ADU hr hrb,Nat.mod_eq_of_lt sd]) v, <- Nat.mul_mod,Nat.one_mul,Nat.mod_eq_of_lt (show 1<r from sd)] at h3;exact h3
def bX:List (Nat×Nat)->Nat
 | []=>1
 |(q,_)::r=>q*bX r
def pm(a n:Nat):Nat->Nat->Nat
 |0,_=>1%n
 |f+1,e=>bif Nat.beq e 0 then 1%n else
  bif Nat.beq (e%2) 1 then(pm a n f (e/2)*pm a n f (e/2)%n)*a%n else pm a n f (e/2)*pm a n f (e/2)%n
theorem zl(a n:Nat):∀(f e:Nat),e<2^f->pm a n f e=a^e%n
 |0,e,h=>by
  have:e=0:=by simpa using h
  subst this;simp[pm]
 | f+1,e,h=>by
  have ih:=zl a n f (e/2) (by rw[kw] at h;omega);unfold pm;cases hb:Nat.beq e 0 with
  |true=>rw[Ca hb];simp
  | false=>
   have hsq:(a^(e/2)%n)*(a^(e/2)%n)%n=a^(2*(e/2))%n:=by
    rw[<- Nat.mul_mod,Nat.two_mul,Nat.pow_add]
   cases ho:Nat.beq (e%2) 1 with
   |true=>
    have:=Ca ho;simp only[cond_false,cond_true,ih];rw[hsq,Nat.mod_mul_mod, <- kw,show(2*(e/2)).succ=e by omega]
   |false=>
    have h2:e%2≠1:=λh=>by rw[h] at ho;cases ho
    simp only[cond_false,ih];rw[hsq,show 2*(e/2)=e by omega]
def ckQ(n:Nat):List (Nat×Nat)->Bool
 | []=>true
 |(q,a)::r=>Nat.beq ((n-1)%q) 0&&Nat.beq (pm a n 256 (n-1)) 1&&Nat.beq (Nat.gcd (pm a n 256 ((n-1)/q)+n-1) n) 1&&Nat.beq (Nat.gcd q (bX r)) 1&&ckQ n r
theorem ACM{n r:Nat}(hn:1<n)(Bs:n<2^256)(hr:Pr r)(C0:r ∣ n):∀ {qs:List (Nat×Nat)},(∀x∈qs,Pr x.1)->ckQ n qs=true->bX qs ∣ r-1
 | [],_,_=>Nat.one_dvd _
 |(q,a)::rs,hp,h=>by
  simp only[ckQ,Bj] at h;obtain⟨⟨⟨⟨h1,h2⟩,h3⟩,h4⟩,h5⟩:=h;have e1:=Ca h1;have e2:=Ca h2;have e3:=Ca h3;have e4:=Ca h4;have hq:Pr q:=hp _ Jv;rw[zl a n 256 _ (by omega)] at e2;rw[zl a n 256 _ (zdb (Nat.div_le_self _ _) (by omega))] at e3;have hd:=AQm hq (Nat.dvd_of_mod_eq_zero e1) (by rw[e2,Nat.mod_eq_of_lt hn]) e3 hn hr C0;exact Nat.Coprime.mul_dvd_of_dvd_of_dvd e4 hd (ACM hn Bs hr C0 (λx hx=>hp x (MN _ hx)) h5)
theorem mY{n:Nat}(qs:List (Nat×Nat))(hp:∀x∈qs,Pr x.1)(h:(Nat.blt 1 n&&Nat.blt n (2^256)&&Nat.ble n (bX qs*bX qs)&&ckQ n qs)=true):Pr n:=by
 simp only[Bj] at h;obtain⟨⟨⟨h1,h2⟩,h3⟩,h4⟩:=h;have hn:1<n:=Kv h1;have Bs:n<2^256:=Kv h2;have hF:=Kv h3;refine Classical.byContradiction λhc=>?_
 obtain⟨r,hr,C0,hle⟩:=ASQ hn hc;have hd:=ACM hn Bs hr C0 hp h4;have sd:=hr.1;have h5:=Nat.le_of_dvd (by omega) hd;have h6:=Nat.mul_lt_mul_of_lt_of_lt (show bX qs<r by omega) (show bX qs<r by omega);omega
def tr(n:Nat):Nat->Nat->Bool
 |0,_=>false
 |f+1,d=>bif Nat.blt n (d*d) then true else bif Nat.beq (n%d) 0 then false else tr n f (d+1)
theorem AKH{n:Nat}:∀ {f d:Nat},tr n f d=true->∀e,d<=e->e*e<=n->n%e≠0
 |0,_,h=>by cases h
 | f+1,d,h=>λe hde hee=>by
  unfold tr at h;cases hb:Nat.blt n (d*d) with
  |true=>
   have:n<d*d:=Kv hb;have:=Nat.mul_le_mul hde hde;omega
  | false=>
   rw[hb,cond_false] at h;cases hc:Nat.beq (n%d) 0 with
   |true=>rw[hc] at h;cases h
   |false=>
    rw[hc,cond_false] at h;by_cases he:e=d
    ·subst he;intro h0;rw[h0] at hc;cases hc
    ·exact AKH h e (by omega) hee
theorem fq{n:Nat}(h:(Nat.blt 1 n&&tr n 2000 2)=true):Pr n:=by
 simp only[Bj] at h;have hn:1<n:=Kv h.1;refine Classical.byContradiction λhc=>?_
 obtain⟨r,hr,C0,hle⟩:=ASQ hn hc;exact AKH h.2 r hr.1 hle (Nat.mod_eq_zero_of_dvd C0)
end Ma
end Go.Proofs.YtkbfdaoohhmgoaaGreatDoor
namespace Go.Proofs.YtkbfdaoohhmgoaaGreatDoor
namespace Ma
theorem ANW:Pr 991:=fq (by decide +kernel)
theorem AOC:Pr 103:=fq (by decide +kernel)
theorem ALM:Pr 127:=fq (by decide +kernel)
theorem AHa:Pr 4153:=fq (by decide +kernel)
theorem AAi:Pr 569003:=fq (by decide +kernel)
theorem AAB:Pr 430751:=fq (by decide +kernel)
theorem two{a b:Nat}{x y:Nat}(h1:Pr a)(h2:Pr b):∀z ∈ [(a,x),(b,y)],Pr z.1:=λz hz=>by
 simp only[G9,List.not_mem_nil,or_false] at hz;rcases hz with rfl|rfl
 ·exact h1
 ·exact h2
theorem one{a:Nat}{x:Nat}(h1:Pr a):∀z ∈ [(a,x)],Pr z.1:=λz hz=>by
 rw[NU] at hz;subst hz;exact h1
theorem ATm:Pr 8574133:=mY [(991,2),(103,2)] (two ANW AOC) (by decide +kernel)
theorem ATS:Pr 1919519569386763:=mY [(8574133,2),(127,2)] (two ATm ALM) (by decide +kernel)
theorem AUA:Pr 2773320623:=mY [(569003,2)] (one AAi) (by decide +kernel)
theorem ATO:Pr 72106336199:=mY [(2773320623,2)] (one AUA) (by decide +kernel)
theorem AS8:Pr 75445702479781427272750846543864801:=mY [(1919519569386763,2),(72106336199,2)] (two ATS ATO) (by decide +kernel)
theorem ATA:Pr 31757755568855353:=mY [(430751,2),(4153,2)] (two AAB AHa) (by decide +kernel)
theorem ATL:Pr 74058212732561358302231226437062788676166966415465897661863160754340907:=mY [(75445702479781427272750846543864801,2),(31757755568855353,2)] (two AS8 ATA) (by decide +kernel)
theorem ATr:Pr 57896044618658097711785492504343953926634992332820282019728792003956564819949:=mY [(74058212732561358302231226437062788676166966415465897661863160754340907,2)] (one ATL) (by decide +kernel)
end Ma
end Go.Proofs.YtkbfdaoohhmgoaaGreatDoor
namespace Go.Proofs.YtkbfdaoohhmgoaaGreatDoor
namespace Ma
section
variable{n:Nat}[NeZero n]{d:Fin n}
theorem AGe(a b:Fin n):(a-b)*(a-b)=(-a+b)*(-a+b):=by grind
theorem AFU(c a b:Fin n):c*(a-b)*(c*(a-b))=c*(-a+b)*(c*(-a+b)):=by grind
theorem l6(a b:Fin n): -(a*b)= -a*b:=by grind
theorem rA{x1 y1 x2 y2:Fin n}(h1:y1*y1-x1*x1=1+d*x1*x1*y1*y1)(h2:y2*y2-x2*x2=1+d*x2*x2*y2*y2):
  (y1*y2+x1*x2)*(y1*y2+x1*x2)*((1+d*x1*x2*y1*y2)*(1+d*x1*x2*y1*y2))-(x1*y2+y1*x2)*(x1*y2+y1*x2)*((1-d*x1*x2*y1*y2)*(1-d*x1*x2*y1*y2))=
   (1+d*x1*x2*y1*y2)*(1+d*x1*x2*y1*y2)*((1-d*x1*x2*y1*y2)*(1-d*x1*x2*y1*y2))+d*((x1*y2+y1*x2)*(x1*y2+y1*x2))*((y1*y2+x1*x2)*(y1*y2+x1*x2)):=by
 grind
theorem AP7{x1 y1 x2 y2 x3 y3:Fin n}(h1:y1*y1-x1*x1=1+d*x1*x1*y1*y1)(h2:y2*y2-x2*x2=1+d*x2*x2*y2*y2)(h3:y3*y3-x3*x3=1+d*x3*x3*y3*y3):
  ((x1*y2+y1*x2)*(1-d*x1*x2*y1*y2)*y3+(y1*y2+x1*x2)*(1+d*x1*x2*y1*y2)*x3)*((1-d*x2*x3*y2*y3)*(1+d*x2*x3*y2*y3)+d*x1*(x2*y3+y2*x3)*y1*(y2*y3+x2*x3))=(x1*(y2*y3+x2*x3)*(1+d*x2*x3*y2*y3)+y1*(x2*y3+y2*x3)*(1-d*x2*x3*y2*y3))*((1-d*x1*x2*y1*y2)*(1+d*x1*x2*y1*y2)+d*(x1*y2+y1*x2)*(y1*y2+x1*x2)*x3*y3):=by
 grind
theorem ARu{x1 y1 x2 y2 x3 y3:Fin n}(h1:y1*y1-x1*x1=1+d*x1*x1*y1*y1)(h2:y2*y2-x2*x2=1+d*x2*x2*y2*y2)(h3:y3*y3-x3*x3=1+d*x3*x3*y3*y3):
  ((y1*y2+x1*x2)*(1+d*x1*x2*y1*y2)*y3+(x1*y2+y1*x2)*(1-d*x1*x2*y1*y2)*x3)*((1-d*x2*x3*y2*y3)*(1+d*x2*x3*y2*y3)-d*x1*(x2*y3+y2*x3)*y1*(y2*y3+x2*x3))=(y1*(y2*y3+x2*x3)*(1+d*x2*x3*y2*y3)+x1*(x2*y3+y2*x3)*(1-d*x2*x3*y2*y3))*((1-d*x1*x2*y1*y2)*(1+d*x1*x2*y1*y2)-d*(x1*y2+y1*x2)*(y1*y2+x1*x2)*x3*y3):=by
 grind
theorem AUh{x1 y1 x3 y3 u v w z A B C D n0 m k l:Fin n}(hu:u*A=n0)(hv:v*B=m)(hw:w*C=k)(hz:z*D=l):
  (u*y3+v*x3)*(1+d*x1*w*y1*z)*(A*B*(C*D))=(n0*B*y3+m*A*x3)*(D*C+d*x1*k*y1*l):=by
 subst hu;subst hv;subst hw;subst hz;grind
theorem AT1{x1 y1 x3 y3 u v w z A B C D n0 m k l:Fin n}(hu:u*A=n0)(hv:v*B=m)(hw:w*C=k)(hz:z*D=l):
  (v*y3+u*x3)*(1-d*x1*w*y1*z)*(A*B*(C*D))=(m*A*y3+n0*B*x3)*(D*C-d*x1*k*y1*l):=by
 subst hu;subst hv;subst hw;subst hz;grind
theorem ATo{x1 y1 x3 y3 u v w z A B C D n0 m k l:Fin n}(hu:u*A=n0)(hv:v*B=m)(hw:w*C=k)(hz:z*D=l):
  (x1*z+y1*w)*(1+d*u*x3*v*y3)*(A*B*(C*D))=(x1*l*C+y1*k*D)*(B*A+d*n0*m*x3*y3):=by
 subst hu;subst hv;subst hw;subst hz;grind
theorem ATB{x1 y1 x3 y3 u v w z A B C D n0 m k l:Fin n}(hu:u*A=n0)(hv:v*B=m)(hw:w*C=k)(hz:z*D=l):
  (y1*z+x1*w)*(1-d*u*x3*v*y3)*(A*B*(C*D))=(y1*l*C+x1*k*D)*(B*A-d*n0*m*x3*y3):=by
 subst hu;subst hv;subst hw;subst hz;grind
end
end Ma
end Go.Proofs.YtkbfdaoohhmgoaaGreatDoor
namespace Go.Proofs.YtkbfdaoohhmgoaaGreatDoor
namespace Ma
class FF (n:Nat) [NeZero n] extends Inv (Fin n) where
 Pu:∀ {b:Fin n},b≠0->b*b⁻¹ = 1
 zno:(0:Fin n)≠1
structure Ed {n:Nat} [NeZero n] (d:Fin n):Prop where
 two:(2:Fin n)≠0
 i:∃i:Fin n,i*i= -1
 ns:∀x:Fin n,x*x≠d
section
variable{n:Nat}[NeZero n][FF n]{d:Fin n}
def Md(d x y:Fin n):Prop:=y*y-x*x=1+d*x*x*y*y
theorem EJ{a b:Fin n}(ha:a≠0)(hb:b≠0):a*b≠0:=by
 intro h;have h1:=FF.Pu hb;have h2:a*b*b⁻¹ = a:=by
  generalize b⁻¹ = u at *
  grind
 rw[h] at h2;exact ha (by rw[<- h2];generalize b⁻¹ = u;grind)
theorem tZ{a b:Fin n}(hb:b≠0)(h:a*a=d*(b*b)):(a*b⁻¹)*(a*b⁻¹)=d:=by
 have h1:b*b⁻¹ = 1:=FF.Pu hb;grind
theorem qD(E:Ed d){x1 y1 x2 y2:Fin n}(h1:Md d x1 y1)(h2:Md d x2 y2){e:Fin n}(he:e*e=1):d*x1*x2*y1*y2≠e:=by
 intro h;obtain⟨i,hi⟩:=E.i;unfold Md at h1 h2;have cj:e≠0:=λh0=>by rw[h0] at he;exact FF.zno (n:=n) (by grind)
 have nx1:x1≠0:=λh0=>cj (by grind)
 have ny1:y1≠0:=λh0=>cj (by grind)
 have ny2:y2≠0:=λh0=>cj (by grind)
 have key:∀s z:Fin n,s*s=1->z=s*i->(z*x1+e*y1)*(z*x1+e*y1)=d*((x1*y1*(z*x2+y2))*(x1*y1*(z*x2+y2))):=by
  intro s z hs hz;have hzz:z*z= -1:=by rw[hz];grind
  have f1:(z*x1+e*y1)*(z*x1+e*y1)=1+d*x1*x1*y1*y1+2*z*e*x1*y1:=by
   have:(z*x1+e*y1)*(z*x1+e*y1)=(z*z)*(x1*x1)+(e*e)*(y1*y1)+2*z*e*x1*y1:=by grind
   rw[this,hzz,he];grind
  have f2:(z*x2+y2)*(z*x2+y2)=1+d*x2*x2*y2*y2+2*z*x2*y2:=by
   have:(z*x2+y2)*(z*x2+y2)=(z*z)*(x2*x2)+y2*y2+2*z*x2*y2:=by grind
   rw[this,hzz];grind
  have f3:d*((x1*y1*(z*x2+y2))*(x1*y1*(z*x2+y2)))=d*x1*x1*y1*y1*((z*x2+y2)*(z*x2+y2)):=by grind
  rw[f1,f3,f2];have f4:d*x1*x1*y1*y1*(1+d*x2*x2*y2*y2+2*z*x2*y2)=d*x1*x1*y1*y1+(d*x1*x2*y1*y2)*(d*x1*x2*y1*y2)+2*z*(d*x1*x2*y1*y2)*x1*y1:=by grind
  rw[f4,h,he];grind
 have p1:(i*x1+e*y1)*(i*x1+e*y1)=d*((x1*y1*(i*x2+y2))*(x1*y1*(i*x2+y2))):=key 1 i (by grind) (by grind);have p2:(i*x1-e*y1)*(i*x1-e*y1)=d*((x1*y1*(i*x2-y2))*(x1*y1*(i*x2-y2))):=by
  have:=key (-1) (-i) (by grind) (by grind);rw[AGe,AFU,l6,l6,this]
 by_cases c1:i*x2+y2=0
 ·by_cases c2:i*x2-y2=0
  ·have:2*y2=0:=by grind
   exact EJ E.two ny2 this
  ·exact E.ns _ (tZ (EJ (EJ nx1 ny1) c2) p2)
 ·exact E.ns _ (tZ (EJ (EJ nx1 ny1) c1) p1)
theorem dI(E:Ed d){x1 y1 x2 y2:Fin n}(h1:Md d x1 y1)(h2:Md d x2 y2):1+d*x1*x2*y1*y2≠0:=λh=>
 qD E h1 h2 (e:= -1) (by grind) (by grind)
theorem aF(E:Ed d){x1 y1 x2 y2:Fin n}(h1:Md d x1 y1)(h2:Md d x2 y2):1-d*x1*x2*y1*y2≠0:=λh=>
 qD E h1 h2 (e:=1) (by grind) (by grind)
def ax(d x1 y1 x2 y2:Fin n):Fin n:=(x1*y2+y1*x2)*(1+d*x1*x2*y1*y2)⁻¹
def ay(d x1 y1 x2 y2:Fin n):Fin n:=(y1*y2+x1*x2)*(1-d*x1*x2*y1*y2)⁻¹
theorem fF(E:Ed d){x1 y1 x2 y2:Fin n}(h1:Md d x1 y1)(h2:Md d x2 y2):ax d x1 y1 x2 y2*(1+d*x1*x2*y1*y2)=x1*y2+y1*x2:=by
 have:=FF.Pu (dI E h1 h2);unfold ax;grind
theorem gY(E:Ed d){x1 y1 x2 y2:Fin n}(h1:Md d x1 y1)(h2:Md d x2 y2):ay d x1 y1 x2 y2*(1-d*x1*x2*y1*y2)=y1*y2+x1*x2:=by
 have:=FF.Pu (aF E h1 h2);unfold ay;grind
theorem Ph{a b c:Fin n}(hc:c≠0)(h:a*c=b*c):a=b:=by
 have:=FF.Pu hc;grind
theorem aN(E:Ed d){x1 y1 x2 y2:Fin n}(h1:Md d x1 y1)(h2:Md d x2 y2):Md d (ax d x1 y1 x2 y2) (ay d x1 y1 x2 y2):=by
 have e1:=fF E h1 h2;have e2:=gY E h1 h2;have n1:=dI E h1 h2;have n2:=aF E h1 h2;generalize ax d x1 y1 x2 y2=x3 at *
 generalize ay d x1 y1 x2 y2=y3 at *
 unfold Md at *
 have hn:=EJ (EJ n1 n1) (EJ n2 n2);have key:=rA h1 h2;rw[<- e1, <- e2] at key;clear e1 e2 h1 h2;generalize 1+d*x1*x2*y1*y2=D1 at *
 generalize 1-d*x1*x2*y1*y2=D2 at *
 refine Ph hn ?_;grind
theorem APY{a b c e:Fin n}(hb:b≠0)(he:e≠0)(h:a*e=c*b):a*b⁻¹ = c*e⁻¹ := by
 have h1:=FF.Pu hb;have h2:=FF.Pu he;have h3:a*e*(b⁻¹ * e⁻¹)=c*b*(b⁻¹ * e⁻¹):=by rw[h]
 generalize b⁻¹ = u at *
 generalize e⁻¹ = v at *
 have h4:a*e*(u*v)=a*u*(e*v):=by grind
 have h5:c*b*(u*v)=c*v*(b*u):=by grind
 rw[h4,h5,h1,h2] at h3;grind
theorem ANR(E:Ed d){x1 y1 x2 y2 x3 y3:Fin n}(h1:Md d x1 y1)(h2:Md d x2 y2)(h3:Md d x3 y3):
  ax d (ax d x1 y1 x2 y2) (ay d x1 y1 x2 y2) x3 y3=ax d x1 y1 (ax d x2 y2 x3 y3) (ay d x2 y2 x3 y3):=by
 have eu:=fF E h1 h2;have ev:=gY E h1 h2;have ew:=fF E h2 h3;have ez:=gY E h2 h3;have c12:=aN E h1 h2;have c23:=aN E h2 h3;have A:=dI E h1 h2;have B:=aF E h1 h2;have C:=dI E h2 h3;have D:=aF E h2 h3;have G:=dI E c12 h3;have H:=dI E h1 c23;have core:=AP7 h1 h2 h3;unfold ax ay at G H ⊢;refine APY G H ?_;change (ax d x1 y1 x2 y2*y3+ay d x1 y1 x2 y2*x3)*(1+d*x1*ax d x2 y2 x3 y3*y1*ay d x2 y2 x3 y3)=(x1*ay d x2 y2 x3 y3+y1*ax d x2 y2 x3 y3)*(1+d*ax d x1 y1 x2 y2*x3*ay d x1 y1 x2 y2*y3);refine Ph (EJ (EJ A B) (EJ C D)) ?_;rw[AUh eu ev ew ez,ATo eu ev ew ez];exact core
theorem ALr(E:Ed d){x1 y1 x2 y2 x3 y3:Fin n}(h1:Md d x1 y1)(h2:Md d x2 y2)(h3:Md d x3 y3):
  ay d (ax d x1 y1 x2 y2) (ay d x1 y1 x2 y2) x3 y3=ay d x1 y1 (ax d x2 y2 x3 y3) (ay d x2 y2 x3 y3):=by
 have eu:=fF E h1 h2;have ev:=gY E h1 h2;have ew:=fF E h2 h3;have ez:=gY E h2 h3;have c12:=aN E h1 h2;have c23:=aN E h2 h3;have A:=dI E h1 h2;have B:=aF E h1 h2;have C:=dI E h2 h3;have D:=aF E h2 h3;have G:=aF E c12 h3;have H:=aF E h1 c23;have core:=ARu h1 h2 h3;unfold ax ay at G H ⊢;refine APY G H ?_;change (ay d x1 y1 x2 y2*y3+ax d x1 y1 x2 y2*x3)*(1-d*x1*ax d x2 y2 x3 y3*y1*ay d x2 y2 x3 y3)=(y1*ay d x2 y2 x3 y3+x1*ax d x2 y2 x3 y3)*(1-d*ax d x1 y1 x2 y2*x3*ay d x1 y1 x2 y2*y3);refine Ph (EJ (EJ A B) (EJ C D)) ?_;rw[AT1 eu ev ew ez,ATB eu ev ew ez];exact core
end
end Ma
end Go.Proofs.YtkbfdaoohhmgoaaGreatDoor
namespace Go.Proofs.YtkbfdaoohhmgoaaGreatDoor
namespace Ma
abbrev PP:Nat:=57896044618658097711785492504343953926634992332820282019728792003956564819949
theorem PP0:0<PP:=by decide +kernel
instance aHA:NeZero PP:=⟨by decide +kernel⟩
abbrev Fp:=Fin PP
def Ja(a:Fp)(n:Nat):Fp:=⟨a.val^n%PP,L4 _ PP0⟩
theorem AEz(a b:Fp):(a*b).val=a.val*b.val%PP:=Fin.val_mul a b
theorem UH(a:Fp)(n:Nat):(Ja a n).val=a.val^n%PP:=rfl
theorem OQ(a:Fp):Ja a 0=1:=Fin.ext (by rw[UH,Nat.pow_zero];decide +kernel)
theorem IG(a:Fp)(n:Nat):Ja a (n+1)=Ja a n*a:=Fin.ext (by
 rw[UH,AEz,UH,kw,Nat.mod_mul_mod])
theorem Oy(a:Fp):Ja a 1=a:=Fin.ext (by rw[UH,Nat.pow_one,Nat.mod_eq_of_lt a.isLt])
theorem LH(a:Fp)(m:Nat):∀n,Ja a (m+n)=Ja a m*Ja a n
 |0=>by rw[OQ,QO];grind
 |n+1=>by rw[<- WZ,IG,LH a m n,IG];grind
theorem UO(a:Fp)(m:Nat):∀n,Ja (Ja a m) n=Ja a (m*n)
 |0=>by rw[OQ,Nat.mul_zero,OQ]
 |n+1=>by rw[IG,UO a m n,Nat.mul_succ,LH]
theorem ADs(a:Fp)(e:Nat)(h:e<2^256):(Ja a e).val=pm a.val PP 256 e:=by
 rw[UH,zl a.val PP 256 e h]
theorem AD5:∀n,Ja 1 n=1
 |0=>OQ 1
 |n+1=>by rw[IG,AD5 n];grind
def eI:Nat:=57896044618658097711785492504343953926634992332820282019728792003956564819947
theorem AGM{p a e:Nat}(hp:Pr p)(ha:¬p ∣ a)(he:e=p-1):a^e%p=1:=by
 subst he;exact ADU hp ha
theorem VJ{a:Fp}(h:a≠0):Ja a (eI+1)=1:=by
 apply Fin.ext;have hd:¬PP ∣ a.val:=λhd=>h (Fin.ext (by
  have:=a.isLt;have:=Nat.eq_zero_of_dvd_of_lt hd this;rw[this];rfl))
 rw[UH];exact AGM ATr hd (by decide +kernel)
theorem XN{a:Fp}(h:a≠0):a*Ja a eI=1:=by
 rw[<- VJ h,IG];grind
instance asR:FF PP where
 inv a:=Ja a eI
 Pu h:=XN h
 zno:=by decide +kernel
theorem VM{a:Fp}(h:a≠0):a*a⁻¹ = 1:=XN h
theorem AIJ:(1:Fp)⁻¹ = 1:=AD5 eI
theorem ALF(a:Fp):a⁻¹ = Ja a eI:=rfl
def dE:Fp:=37095705934669439343138083508754565189542113879843219016388785533085940283555
def iE:Fp:=19681161376707505956807079304988542015446066515923890162744021073123829784752
def eH:Nat:=28948022309329048855892746252171976963317496166410141009864396001978282409974
theorem AIF:Ja dE eH= -1:=by
 apply Fin.ext;rw[ADs _ _ (by decide +kernel)];decide +kernel
theorem Ds:Ed dE where
 two:=by decide +kernel
 i:=⟨iE,by decide +kernel⟩
 ns:=λx hx=>by
  have h:=AIF;have e:x*x=Ja x 2:=by rw[IG,Oy]
  rw[<- hx,e,UO,show 2*eH=eI+1 from by decide +kernel] at h;by_cases h0:x=0
  ·rw[h0] at hx;exact absurd hx (by decide +kernel)
  ·rw[VJ h0] at h;exact absurd h (by decide +kernel)
end Ma
end Go.Proofs.YtkbfdaoohhmgoaaGreatDoor
namespace Go.Proofs.YtkbfdaoohhmgoaaGreatDoor
namespace Ma
structure Pt where
 x:Fp
 y:Fp
 h:Md dE x y
theorem Pt.ext'{P Q:Pt}(hx:P.x=Q.x)(hy:P.y=Q.y):P=Q:=by
 cases P;cases Q;simp only at hx hy;subst hx;subst hy;rfl
def Pt.add(P Q:Pt):Pt:=⟨ax dE P.x P.y Q.x Q.y,ay dE P.x P.y Q.x Q.y,aN Ds P.h Q.h⟩
def Pt.zero:Pt:=⟨0,1,by unfold Md;grind⟩
def Pt.neg(P:Pt):Pt:=⟨-P.x,P.y,by have:=P.h;unfold Md at *;grind⟩
theorem Pt.add_assoc(P Q R:Pt):(P.add Q).add R=P.add (Q.add R):=Pt.ext' (ANR Ds P.h Q.h R.h) (ALr Ds P.h Q.h R.h)
theorem nG(d x1 y1 x2 y2:Fp):ax d x1 y1 x2 y2=ax d x2 y2 x1 y1/\ay d x1 y1 x2 y2=ay d x2 y2 x1 y1:=by
 unfold ax ay;have h1:x1*y2+y1*x2=x2*y1+y2*x1:=by grind
 have h2:d*x1*x2*y1*y2=d*x2*x1*y2*y1:=by grind
 have h3:y1*y2+x1*x2=y2*y1+x2*x1:=by grind
 rw[h1,h2,h3];exact⟨rfl,rfl⟩
theorem Pt.add_comm(P Q:Pt):P.add Q=Q.add P:=Pt.ext' (nG _ _ _ _ _).1 (nG _ _ _ _ _).2
theorem zJ:(1:Fp)⁻¹ = 1:=AIJ
theorem Pt.add_zero(P:Pt):P.add zero=P:=by
 refine Pt.ext' ?_ ?_
 ·show(P.x*1+P.y*0)*(1+dE*P.x*0*P.y*1)⁻¹ = P.x;have:1+dE*P.x*0*P.y*1=1:=by grind
  rw[this,zJ];grind
 ·show(P.y*1+P.x*0)*(1-dE*P.x*0*P.y*1)⁻¹ = P.y;have:1-dE*P.x*0*P.y*1=1:=by grind
  rw[this,zJ];grind
theorem Pt.add_neg(P:Pt):P.add P.neg=zero:=by
 refine Pt.ext' ?_ ?_
 ·show(P.x*P.y+P.y * -P.x)*(1+dE*P.x * -P.x*P.y*P.y)⁻¹ = 0;have:P.x*P.y+P.y * -P.x=0:=by grind
  rw[this];grind
 ·have hn:=aF Ds P.h P.neg.h;have hh:=P.h;show(P.y*P.y+P.x * -P.x)*(1-dE*P.x * -P.x*P.y*P.y)⁻¹ = 1;have e:P.y*P.y+P.x * -P.x=1-dE*P.x * -P.x*P.y*P.y:=by
   unfold Md at hh;grind
  rw[e];exact VM hn
def Pt.nm(P:Pt):Nat->Pt
 |0=>zero
 |n+1=>(P.nm n).add P
def Pt.zm(P:Pt):Int->Pt
 | .ofNat n=>P.nm n
 | .negSucc n=>(P.nm (n+1)).neg
theorem Pt.zero_add(P:Pt):zero.add P=P:=by rw[add_comm,add_zero]
theorem Pt.j9{P Q:Pt}(h:P.add Q=zero):Q=P.neg:=by
 have:P.neg.add (P.add Q)=P.neg:=by rw[h,add_zero]
 rw[<- add_assoc,add_comm P.neg,add_neg,zero_add] at this;exact this
theorem Pt.neg_add(P Q:Pt):(P.add Q).neg=P.neg.add Q.neg:=by
 symm;apply j9
 rw[add_assoc, <- add_assoc Q,add_comm Q,add_assoc P.neg,add_neg,add_zero,add_neg]
theorem Pt.neg_neg(P:Pt):P.neg.neg=P:=by
 symm;apply j9;rw[add_comm,add_neg]
theorem Pt.yp(P:Pt)(m:Nat):∀n,P.nm (m+n)=(P.nm m).add (P.nm n)
 |0=>(add_zero _).symm
 |n+1=>by show(P.nm (m+n)).add P=_;rw[yp P m n,add_assoc];rfl
theorem Pt.tS(P:Pt):∀z:Int,P.zm (z+1)=(P.zm z).add P
 | .ofNat n=>rfl
 | .negSucc 0=>by
  show zero=((zero.add P).neg).add P;rw[zero_add,add_comm,add_neg]
 | .negSucc (n+1)=>by
  show(P.nm (n+1)).neg=((P.nm (n+1)).add P).neg.add P;rw[neg_add,add_assoc,add_comm P.neg,add_neg,add_zero]
theorem Pt.yq{P Q R:Pt}(h:P.add R=Q.add R):P=Q:=by
 have:(P.add R).add R.neg=(Q.add R).add R.neg:=by rw[h]
 rw[add_assoc,add_neg,add_zero,add_assoc,add_neg,add_zero] at this;exact this
theorem Pt.kq(P:Pt)(a:Int):∀n:Nat,P.zm (a+n)=(P.zm a).add (P.zm n)
 |0=>by show P.zm (a+0)=(P.zm a).add zero;rw[Mb,add_zero]
 |n+1=>by
  rw[Int.natCast_succ, <- Int.add_assoc,tS,kq P a n,tS,add_assoc]
theorem Pt.kj(P:Pt)(a b:Int):P.zm (a+b)=(P.zm a).add (P.zm b):=by
 match b with
 | .ofNat n=>exact kq P a n
 | .negSucc n=>
  have h:=kq P (a+Int.negSucc n) (n+1);have e:a+Int.negSucc n+((n+1:Nat):Int)=a:=by omega
  rw[e] at h;have h2:(P.zm (Int.negSucc n)).add (P.zm ((n+1:Nat):Int))=zero:=by
   show((P.nm (n+1)).neg).add (P.nm (n+1))=zero;rw[add_comm,add_neg]
  refine yq (R:=P.zm ((n+1:Nat):Int)) ?_;rw[<- h,add_assoc,h2,add_zero]
theorem Pt.gh(P:Pt):P.zm 0=zero:=rfl
theorem Pt.ke(P:Pt):P.zm 1=P:=zero_add P
theorem Pt.tD(P:Pt)(a:Int):P.zm (-a)=(P.zm a).neg:=by
 apply j9;rw[<- kj,Int.add_right_neg];rfl
theorem Pt.kf(P:Pt)(a:Int):∀n:Nat,P.zm (a*n)=(P.zm a).zm n
 |0=>by rw[Int.natCast_zero,Int.mul_zero];rfl
 |n+1=>by
  rw[Int.natCast_succ,wK,zdc,kj,kf P a n,tS]
theorem Pt.DQ(P:Pt)(a b:Int):P.zm (a*b)=(P.zm a).zm b:=by
 match b with
 | .ofNat n=>exact kf P a n
 | .negSucc n=>
  have h:a*Int.negSucc n= -(a*((n+1:Nat):Int)):=by
   rw[Int.negSucc_eq,Int.mul_neg];rfl
  rw[h,tD,kf];rfl
structure P3 (X Y Z T:Fp) (P:Pt):Prop where
 z:Z≠0
 x:X=P.x*Z
 y:Y=P.y*Z
 t:T=P.x*P.y*Z
structure K2 (X Y Z T:Fp) (P:Pt):Prop where
 z:Z≠0
 t:T≠0
 x:X=P.x*Z
 y:Y=P.y*T
structure P2 (X Y Z:Fp) (P:Pt):Prop where
 z:Z≠0
 x:X=P.x*Z
 y:Y=P.y*Z
structure PC (A B C E:Fp) (P:Pt):Prop where
 c:C≠0
 a:A=(P.y+P.x)*C
 b:B=(P.y-P.x)*C
 e:E=2*dE*P.x*P.y*C
structure AC (A B E:Fp) (P:Pt):Prop where
 a:A=P.y+P.x
 b:B=P.y-P.x
 e:E=2*dE*P.x*P.y
theorem rD:(2:Fp)≠0:=Ds.two
theorem AJy(P Q:Pt):(P.add Q).x*(1+dE*P.x*Q.x*P.y*Q.y)=P.x*Q.y+P.y*Q.x:=fF Ds P.h Q.h
theorem AKr(P Q:Pt):(P.add Q).y*(1-dE*P.x*Q.x*P.y*Q.y)=P.y*Q.y+P.x*Q.x:=gY Ds P.h Q.h
theorem uA{X Y Z T s:Fp}{P Q:Pt}(hs:s≠0)(hx:X=s*(P.x*Q.y+P.y*Q.x))(hy:Y=s*(P.y*Q.y+P.x*Q.x))(hz:Z=s*(1+dE*P.x*Q.x*P.y*Q.y))(ht:T=s*(1-dE*P.x*Q.x*P.y*Q.y)):K2 X Y Z T (P.add Q) where
 z:=by rw[hz];exact EJ hs (dI Ds P.h Q.h)
 t:=by rw[ht];exact EJ hs (aF Ds P.h Q.h)
 x:=by rw[hx,hz, <- AJy];grind
 y:=by rw[hy,ht, <- AKr];grind
theorem AKD{X Y Z T A B C E:Fp}{P Q:Pt}(h:P3 X Y Z T P)(g:PC A B C E Q):
  K2 ((Y+X)*A-(Y-X)*B) ((Y+X)*A+(Y-X)*B) (Z*C+Z*C+T*E) (Z*C+Z*C-T*E) (P.add Q):=by
 obtain⟨hz,hx,hy,ht⟩:=h;obtain⟨gc,ga,gb,ge⟩:=g;subst hx;subst hy;subst ht;subst ga;subst gb;subst ge;refine uA (s:=2*(Z*C)) (EJ rD (EJ hz gc)) ?_ ?_ ?_ ?_<;>grind
theorem ABr{X Y Z T A B E:Fp}{P Q:Pt}(h:P3 X Y Z T P)(g:AC A B E Q):
  K2 ((Y+X)*A-(Y-X)*B) ((Y+X)*A+(Y-X)*B) (Z+Z+T*E) (Z+Z-T*E) (P.add Q):=by
 obtain⟨hz,hx,hy,ht⟩:=h;obtain⟨ga,gb,ge⟩:=g;subst hx;subst hy;subst ht;subst ga;subst gb;subst ge;refine uA (s:=2*Z) (EJ rD hz) ?_ ?_ ?_ ?_<;>grind
theorem AJr(P:Pt):P.neg.x= -P.x:=rfl
theorem AJt(P:Pt):P.neg.y=P.y:=rfl
theorem PC.neg{A B C E:Fp}{Q:Pt}(g:PC A B C E Q):PC B A C (-E) Q.neg:=by
 obtain⟨gc,ga,gb,ge⟩:=g;refine⟨gc,?_,?_,?_⟩<;>rw[AJr,AJt]<;>grind
theorem AC.neg{A B E:Fp}{Q:Pt}(g:AC A B E Q):AC B A (-E) Q.neg:=by
 obtain⟨ga,gb,ge⟩:=g;refine⟨?_,?_,?_⟩<;>rw[AJr,AJt]<;>grind
theorem AQB{X Y Z T A B C E:Fp}{P Q:Pt}(h:P3 X Y Z T P)(g:PC A B C E Q):
  K2 ((Y+X)*B-(Y-X)*A) ((Y+X)*B+(Y-X)*A) (Z*C+Z*C-T*E) (Z*C+Z*C+T*E) (P.add Q.neg):=by
 have:=AKD h g.neg;have e1:Z*C+Z*C+T * -E=Z*C+Z*C-T*E:=by grind
 have e2:Z*C+Z*C-T * -E=Z*C+Z*C+T*E:=by grind
 rw[e1,e2] at this;exact this
theorem ALx{X Y Z T A B E:Fp}{P Q:Pt}(h:P3 X Y Z T P)(g:AC A B E Q):
  K2 ((Y+X)*B-(Y-X)*A) ((Y+X)*B+(Y-X)*A) (Z+Z-T*E) (Z+Z+T*E) (P.add Q.neg):=by
 have:=ABr h g.neg;have e1:Z+Z+T * -E=Z+Z-T*E:=by grind
 have e2:Z+Z-T * -E=Z+Z+T*E:=by grind
 rw[e1,e2] at this;exact this
theorem AQU{X Y Z:Fp}{P:Pt}(h:P2 X Y Z P):
  K2 ((X+Y)*(X+Y)-(Y*Y+X*X)) (Y*Y+X*X) (Y*Y-X*X) (Z*Z+Z*Z-(Y*Y-X*X)) (P.add P):=by
 obtain⟨hz,hx,hy⟩:=h;have hc:=P.h;unfold Md at hc;subst hx;subst hy;refine uA (s:=Z*Z) (EJ hz hz) ?_ ?_ ?_ ?_<;>grind
theorem AG5{X Y Z T:Fp}{P:Pt}(h:K2 X Y Z T P):P3 (X*T) (Y*Z) (Z*T) (X*Y) P:=by
 obtain⟨hz,ht,hx,hy⟩:=h;subst hx;subst hy;refine⟨EJ hz ht,?_,?_,?_⟩<;>grind
theorem AIE{X Y Z T:Fp}{P:Pt}(h:K2 X Y Z T P):P2 (X*T) (Y*Z) (Z*T) P:=by
 obtain⟨hz,ht,hx,hy⟩:=h;subst hx;subst hy;refine⟨EJ hz ht,?_,?_⟩<;>grind
theorem AMf{X Y Z T:Fp}{P:Pt}(h:P3 X Y Z T P):PC (Y+X) (Y-X) Z (T*(dE+dE)) P:=by
 obtain⟨hz,hx,hy,ht⟩:=h;subst hx;subst hy;subst ht;refine⟨hz,?_,?_,?_⟩<;>grind
theorem ANL{X Y Z T:Fp}{P:Pt}(h:P3 X Y Z T P):AC ((Y+X)*Z⁻¹) ((Y-X)*Z⁻¹) (T*(dE+dE)*Z⁻¹) P:=by
 obtain⟨hz,hx,hy,ht⟩:=h;have hi:=VM hz;subst hx;subst hy;subst ht;generalize Z⁻¹ = u at *
 refine⟨?_,?_,?_⟩<;>grind
theorem AHL:P2 0 1 1 Pt.zero:=⟨by decide +kernel,by decide +kernel,by decide +kernel⟩
theorem P3.inj{X Y Z T:Fp}{P Q:Pt}(h:P3 X Y Z T P)(g:P3 X Y Z T Q):P=Q:=
 Pt.ext' (Ph h.z (h.x ▸ g.x)) (Ph h.z (h.y ▸ g.y))
end Ma
end Go.Proofs.YtkbfdaoohhmgoaaGreatDoor
namespace Go.Proofs.YtkbfdaoohhmgoaaGreatDoor
section
open Go Ma
def Jn(z:Int):Fp:=⟨(z%(Kk:Int)).toNat,by
 have h:(0:Int)<(Kk:Int):=by decide
 have h1:=Int.emod_nonneg z (Int.ne_of_gt h);have h2:=Int.emod_lt_of_pos z h;show(z%(Kk:Int)).toNat<Kk;omega⟩
theorem KX(z:Int):((Jn z).val:Int)=z%(Kk:Int):=by
 have h:(0:Int)<(Kk:Int):=by decide
 have h1:=Int.emod_nonneg z (Int.ne_of_gt h);show(((z%(Kk:Int)).toNat:Nat):Int)=_;omega
theorem ABq{a b:Int}:Jn a=Jn b↔(Kk:Int) ∣ a-b:=by
 constructor
 ·intro h;have:=CV (λx:Fp=>(x.val:Int)) h;simp only[KX] at this;exact Int.dvd_of_emod_eq_zero (Int.emod_eq_emod_iff_emod_sub_eq_zero.1 this)
 ·intro h;apply Fin.ext;have:=Int.emod_eq_emod_iff_emod_sub_eq_zero.2 (Int.emod_eq_zero_of_dvd h);have h1:=KX a;have h2:=KX b;rw[this] at h1;omega
theorem QP{a b:Fp}(h:((a.val:Nat):Int)=(b.val:Int)):a=b:=Fin.ext (by omega)
theorem jQ(a b:Int):Jn (a+b)=Jn a+Jn b:=QP (by
 rw[Fin.val_add,Int.natCast_emod,Int.natCast_add,KX,KX,KX];exact(Int.add_emod a b _))
theorem Yu(a b:Int):Jn (a*b)=Jn a*Jn b:=QP (by
 rw[AEz,Int.natCast_emod,Int.natCast_mul,KX,KX,KX];exact(Int.mul_emod a b _))
theorem Kz:Jn 0=0:=by decide +kernel
theorem P8:Jn 1=1:=by decide +kernel
theorem iY(a b:Int):Jn (a-b)=Jn a-Jn b:=by
 have h:=jQ (a-b) b;rw[Int.sub_add_cancel] at h;grind
theorem AF7(a:Int):Jn (-a)= -Jn a:=by
 have h:=iY 0 a;rw[Int.zero_sub,Kz] at h;rw[h];grind
theorem AMR(x:Fp):Jn (x.val:Int)=x:=QP (by
 rw[KX];exact uu (by omega) (C5.2 x.isLt))
theorem AC9(a n:Nat):((a^n:Nat):Int)=(a:Int)^n:=by
 induction n with
 |zero=>rfl
 |succ n ih=>rw[kw,Hi,Int.natCast_mul,ih]
inductive FX where
 |v (n:Nat)
 |k (c:Int)
 |add (a b:FX)
 |sub (a b:FX)
 |mul (a b:FX)
 |pw (a:FX) (n:Nat)
 |b (n:Nat)
 |ite (c a b:FX)
 |t (c:Bool)
 |eq (a b:FX)
 |or (a b:FX)
 |Sx (a:FX)
 |not (a:FX)
structure FV where
 v:Nat->Fp
 b:Nat->Bool
def FX.vr:FX->Bool
 | .b _=>true
 | .t _=>true
 | .eq _ _=>true
 | .or _ _=>true
 | .Sx _=>true
 | .not _=>true
 |_=>false
def Yl(a b:Fp):Bool:=Nat.beq a.val b.val
theorem Ni{a b:Fp}:Yl a b=true↔a=b:=⟨λh=>Fin.ext (Ca h),λh=>by subst h;exact Nat.beq_refl _⟩
theorem bD{a b:Fp}(h:a≠b):Yl a b=false:=by
 cases hb:Yl a b with
 |true=>exact absurd (Ni.1 hb) h
 |false=>rfl
def FX.eb(ρ:FV):FX->Fp×Bool
 | .v n=>(ρ.v n,false)
 | .k c=>(Jn c,false)
 | .add x y=>((x.eb ρ).1+(y.eb ρ).1,false)
 | .sub x y=>((x.eb ρ).1-(y.eb ρ).1,false)
 | .mul x y=>((x.eb ρ).1*(y.eb ρ).1,false)
 | .pw x n=>(Ja (x.eb ρ).1 n,false)
 | .b n=>(0,ρ.b n)
 | .ite c x y=>(bif (c.eb ρ).2 then(x.eb ρ).1 else(y.eb ρ).1,false)
 | .t c=>(0,c)
 | .eq x y=>(0,Yl (x.eb ρ).1 (y.eb ρ).1)
 | .or x y=>(0,(x.eb ρ).2||(y.eb ρ).2)
 | .Sx x=>(0,Nat.beq ((x.eb ρ).1.val%2) 1)
 | .not x=>(0,!(x.eb ρ).2)
def FX.bv(ρ:FV)(x:FX):Bool:=(x.eb ρ).2
def FX.ev(ρ:FV)(x:FX):Fp:=(x.eb ρ).1
def Gl(x:Fp)(l:List Int):Prop:=Ix l/\Jn (Oe l)=x
def γF(ρ:FV)(e:FX)(l:List Int):Prop:=bif e.vr then l= [bif e.bv ρ then 1 else 0] else Gl (e.ev ρ) l
theorem γF_fe{ρ:FV}{e:FX}{l:List Int}(h:γF ρ e l)(hb:e.vr=false):Gl (e.ev ρ) l:=by
 unfold γF at h;rw[hb] at h;exact h
theorem γF_b{ρ:FV}{e:FX}{l:List Int}(h:γF ρ e l)(hb:e.vr=true):l= [bif e.bv ρ then 1 else 0]:=by
 unfold γF at h;rw[hb] at h;exact h
def AHD:List Int->Bool
 | [a,b,c,d,e]=>Bl 0 a&&Bl a fB&&Bl 0 b&&Bl b fB&&Bl 0 c&&Bl c fB&&Bl 0 d&&Bl d fB&&Bl 0 e&&Bl e fB
 |_=>false
theorem QB{l:List Int}(h:AHD l=true):Ix l:=by
 match l,h with
 | [a,b,c,d,e],h=>
  simp only[AHD,Bj] at h;obtain⟨⟨⟨⟨⟨⟨⟨⟨⟨h1,h2⟩,h3⟩,h4⟩,h5⟩,h6⟩,h7⟩,h8⟩,h9⟩,iu⟩:=h;have h1:=A8 h1;have h2:=A8 h2;have h3:=A8 h3;have h4:=A8 h4;have h5:=A8 h5;have h6:=A8 h6;have h7:=A8 h7;have h8:=A8 h8;have h9:=A8 h9;have iu:=A8 iu;refine⟨rfl,λk hk=>?_⟩
  match k,hk with
  |0,_=>exact⟨h1,h2⟩
  |1,_=>exact⟨h3,h4⟩
  |2,_=>exact⟨h5,h6⟩
  |3,_=>exact⟨h7,h8⟩
  |4,_=>exact⟨h9,iu⟩
def QW{A:Type}:List (Bk A)->Option (List Int)
 | []=>some []
 | .lit c::r=>(match QW r with
  |some l=>some (c::l)
  |none=>none)
 |_::_=>none
theorem UK{A:Type}{γ:A->List Int->Prop}{ρ:Bu}:∀ {b:List (Bk A)} {l cs:List Int},GK γ ρ b l->QW b=some cs->l=cs
 | [],l,cs,h,hc=>by simp only[QW,Ai] at hc;subst hc;exact h
 | .lit c::r,l,cs,⟨u,w,h1,h2,h3⟩,hc=>by
  unfold QW at hc;split at hc
  ·rename_i l' hl;simp only[Ai] at hc;subst hc;have:=UK h3 hl;simp only[Bk.ok] at h2;rw[h1,h2,this];rfl
  ·cases hc
 | .a n x::r,l,cs,h,hc=>by simp[QW] at hc
 | .sx v::r,l,cs,h,hc=>by simp[QW] at hc
 | .vec j::r,l,cs,h,hc=>by simp[QW] at hc
def NV:List (Bk FX)->Option FX
 | [.a _ x]=>bif x.vr then none else some x
 |b=>(match QW b with
  |some cs=>bif AHD cs then some (.k (Oe cs)) else none
  |none=>none)
theorem EN{ρ:FV}{ρe:Bu}{b:List (Bk FX)}{l:List Int}{x:FX}(h:GK (γF ρ) ρe b l)(hx:NV b=some x):x.vr=false/\Gl (x.ev ρ) l:=by
 unfold NV at hx;split at hx
 ·rename_i n y;cases hy:y.vr with
  |true=>rw[hy] at hx;cases hx
  |false=>
   rw[hy,cond_false,Ai] at hx;subst hx;obtain⟨u,w,h1,h2,h3⟩:=h;have hw:w= []:=h3;rw[hw,RD] at h1;subst h1;exact⟨hy,γF_fe h2.2 hy⟩
 ·split at hx
  ·rename_i cs cS;cases hl:AHD cs with
   |false=>rw[hl] at hx;cases hx
   |true=>
    rw[hl,cond_true,Ai] at hx;subst hx;have:=UK h cS;subst this;exact⟨rfl,QB hl,rfl⟩
  ·cases hx
def nT:List (Bk FX)->Option FX
 | [.a _ x]=>bif x.vr then some x else none
 | [.lit (.ofNat 0)]=>some (.t false)
 | [.lit (.ofNat 1)]=>some (.t true)
 |_=>none
theorem UR{ρ:FV}{ρe:Bu}{b:List (Bk FX)}{l:List Int}{x:FX}(h:GK (γF ρ) ρe b l)(hx:nT b=some x):l= [bif x.bv ρ then 1 else 0]:=by
 unfold nT at hx;split at hx
 ·rename_i n y;cases hy:y.vr with
  |false=>rw[hy] at hx;cases hx
  |true=>
   rw[hy,cond_true,Ai] at hx;subst hx;obtain⟨u,w,h1,h2,h3⟩:=h;have hw:w= []:=h3;rw[hw,RD] at h1;subst h1;exact γF_b h2.2 hy
 ·simp only[Ai] at hx;subst hx;obtain⟨u,w,h1,h2,h3⟩:=h;have hw:w= []:=h3;rw[hw,RD] at h1;subst h1;exact h2
 ·simp only[Ai] at hx;subst hx;obtain⟨u,w,h1,h2,h3⟩:=h;have hw:w= []:=h3;rw[hw,RD] at h1;subst h1;exact h2
 ·cases hx
def eP:Nat:=7237005577332262213973186563042994240829374041602535252466099000494570602493
def iL:List Int:=[1718705420411056,234908883556509,2233514472574048,2117202627021982,765476049583133]
def pW(u v:FX):FX:=.mul (.mul u (.mul (.mul v v) v)) (.pw (.mul (.mul u (.mul (.mul v v) v)) (.mul (.mul v v) (.mul v v))) eP)
def pX(u v:FX):FX:=.mul v (.mul (pW u v) (pW u v))
def uo(u:FX):FX:=.sub (.k 0) u
def tX(u v:FX):FX:=.ite (.or (.eq (pX u v) (uo u)) (.eq (pX u v) (.mul (uo u) (.k (Oe iL))))) (.mul (pW u v) (.k (Oe iL))) (pW u v)
def TL(x:FX):FX:=.ite (.Sx x) (.sub (.k 0) x) x
def gH(u v:FX):FX:=.or (.eq (pX u v) u) (.eq (pX u v) (uo u))
def AAA:List Int->List Int->Bool
 | [],[]=>true
 |a::r,b::s=>Bl a b&&Bl b a&&AAA r s
 |_,_=>false
theorem jq:∀ {a b:List Int},AAA a b=true->a=b
 | [],[],_=>rfl
 | [],_::_,h=>by cases h
 |_::_,[],h=>by cases h
 |a::r,b::s,h=>by
  simp only[AAA,Bj] at h;rw[Int.le_antisymm (A8 h.1.1) (A8 h.1.2),jq h.2]
def AFV:List (Bk FX)->Option (List FX)
 | []=>some []
 | .a 5 x::r=>bif x.vr then none else(match AFV r with
  |some l=>some (x::l)
  |none=>none)
 |_=>none
theorem AJl{ρ:FV}{ρe:Bu}:∀ {b:List (Bk FX)} {xs:List FX} {l:List Int},AFV b=some xs->GK (γF ρ) ρe b l->Fw (γF ρ) (xs.map λx=>(5,x)) l/\l.length=5*xs.length:=by
 intro b
 induction b with
 |nil=>intro xs l h hb;simp only[AFV,Ai] at h;subst h;exact⟨hb,by rw[show l= [] from hb];rfl⟩
 | cons y r ih=>
  intro xs l h hb;unfold AFV at h;split at h
  ·rename_i he;cases he
  ·rename_i x r' he;cases he;cases hx:x.vr with
   |true=>rw[hx] at h;cases h
   | false=>
    rw[hx,cond_false] at h;split at h
    ·rename_i l' ta;simp only[Ai] at h;subst h;obtain⟨u,w,h1,h2,h3⟩:=hb;have:=ih ta h3;exact⟨⟨u,w,h1,h2.1,h2.2,this.1⟩,by rw[h1,NC,this.2,h2.1,NY];omega⟩
    ·cases h
  ·cases h
inductive KF where
 |at(bs:List Int) (c:Int)
 |cpy (n:Nat)
 |eqf|isn|abs|sqr
 |add|sub|mul|sq|neg|set
 |pw (n:Nat)
 |k (c:Int)
 |cf|swp
 |sqn
def KF.tf:KF->Nat->List (List (Bk FX))->Option (List (Nat×FX))
 | .at bs c,0,[_,b]=>(match QW b with
  |some cs=>bif AAA cs bs then some [(5,.k c)] else none
  |none=>none)
 | .cpy n,0,[_,b]=>(match AFV b with
  |some xs=>bif Nat.beq xs.length n then some (xs.map λx=>(5,x)) else none
  |none=>none)
 | .eqf,0,[a,b]=>(match NV a,NV b with
  |some x,some y=>some [(1,.eq x y)]
  |_,_=>none)
 | .isn,0,[a]=>(match NV a with
  |some x=>some [(1,.Sx x)]
  |_=>none)
 | .abs,0,[_,a]=>(match NV a with
  |some x=>some [(5,TL x)]
  |_=>none)
 | .sqr,0,[_,a,b]=>(match NV a,NV b with
  |some x,some y=>some [(5,TL (tX x y))]
  |_,_=>none)
 | .sqr,2,[_,a,b]=>(match NV a,NV b with
  |some x,some y=>some [(1,gH x y)]
  |_,_=>none)
 | .add,0,[_,a,b]=>(match NV a,NV b with
  |some x,some y=>some [(5,.add x y)]
  |_,_=>none)
 | .sub,0,[_,a,b]=>(match NV a,NV b with
  |some x,some y=>some [(5,.sub x y)]
  |_,_=>none)
 | .mul,0,[_,a,b]=>(match NV a,NV b with
  |some x,some y=>some [(5,.mul x y)]
  |_,_=>none)
 | .sq,0,[_,a]=>(match NV a with
  |some x=>some [(5,.mul x x)]
  |_=>none)
 | .neg,0,[_,a]=>(match NV a with
  |some x=>some [(5,.sub (.k 0) x)]
  |_=>none)
 | .set,0,[_,a]=>(match NV a with
  |some x=>some [(5,x)]
  |_=>none)
 | .pw n,0,[_,a]=>(match NV a with
  |some x=>some [(5,.pw x n)]
  |_=>none)
 | .k c,0,_=>some [(5,.k c)]
 | .sqn,0,[_,a,n]=>(match NV a,QW n with
  |some x,some [.ofNat m]=>bif Nat.ble m 1000 then some [(5,.pw x (2^m))] else none
  |_,_=>none)
 | .cf,0,[_,a,b,c]=>(match NV a,NV b,nT c with
  |some x,some y,some z=>some [(5,.ite z x y)]
  |_,_,_=>none)
 | .swp,0,[a,b,c]=>(match NV a,NV b,nT c with
  |some x,some y,some z=>some [(5,.ite z y x)]
  |_,_,_=>none)
 | .swp,1,[a,b,c]=>(match NV a,NV b,nT c with
  |some x,some y,some z=>some [(5,.ite z x y)]
  |_,_,_=>none)
 |_,_,_=>none
structure NB (T:Tb) (f:Nat) (args:List (List Int)):Prop where
 pre:∃s,lk f T=some s/\(s.cf true).pre args
def gv(T:Tb)(f o:Nat)(args:List (List Int)):List Int:=NR.den T (.fn f true o) args
def kT(b:Bool):List Int:=[bif b then 1 else 0]
def FX.v2(x y:Fp):FV:=⟨λn=>[x,y].getD n 0,λ_=>false⟩
def KF.Ok(T:Tb)(f:Nat):KF->Prop
 | .at bs c=>∀v,NB T f [v,bs]/\Gl (Jn c) (gv T f 0 [v,bs])
 | .cpy n=>∀(v l:List Int),l.length=5*n->NB T f [v,l]/\gv T f 0 [v,l]=l
 | .eqf=>∀a b x y,Gl x a->Gl y b->NB T f [a,b]/\gv T f 0 [a,b]=kT (Yl x y)
 | .isn=>∀a x,Gl x a->NB T f [a]/\gv T f 0 [a]=kT (Nat.beq (x.val%2) 1)
 | .abs=>∀v a x,Gl x a->NB T f [v,a]/\Gl (bif Nat.beq (x.val%2) 1 then 0-x else x) (gv T f 0 [v,a])
 | .sqr=>∀v a b x y,Gl x a->Gl y b->NB T f [v,a,b]/\Gl ((TL (tX (.v 0) (.v 1))).ev (FX.v2 x y)) (gv T f 0 [v,a,b])/\gv T f 2 [v,a,b]=kT ((gH (.v 0) (.v 1)).bv (FX.v2 x y))
 | .add=>∀v a b x y,Gl x a->Gl y b->NB T f [v,a,b]/\Gl (x+y) (gv T f 0 [v,a,b])
 | .sub=>∀v a b x y,Gl x a->Gl y b->NB T f [v,a,b]/\Gl (x-y) (gv T f 0 [v,a,b])
 | .mul=>∀v a b x y,Gl x a->Gl y b->NB T f [v,a,b]/\Gl (x*y) (gv T f 0 [v,a,b])
 | .sq=>∀v a x,Gl x a->NB T f [v,a]/\Gl (x*x) (gv T f 0 [v,a])
 | .neg=>∀v a x,Gl x a->NB T f [v,a]/\Gl (0-x) (gv T f 0 [v,a])
 | .set=>∀v a x,Gl x a->NB T f [v,a]/\Gl x (gv T f 0 [v,a])
 | .pw n=>∀v a x,Gl x a->NB T f [v,a]/\Gl (Ja x n) (gv T f 0 [v,a])
 | .k c=>∀args,NB T f args/\Gl (Jn c) (gv T f 0 args)
 | .sqn=>∀v a x (n:Nat),n<=1000->Gl x a->NB T f [v,a,[(n:Int)]]/\Gl (Ja x (2^n)) (gv T f 0 [v,a,[(n:Int)]])
 | .cf=>∀v a b x y (c:Bool),Gl x a->Gl y b->NB T f [v,a,b,[bif c then 1 else 0]]/\Gl (bif c then x else y) (gv T f 0 [v,a,b,[bif c then 1 else 0]])
 | .swp=>∀a b x y (c:Bool),Gl x a->Gl y b->NB T f [a,b,[bif c then 1 else 0]]/\Gl (bif c then y else x) (gv T f 0 [a,b,[bif c then 1 else 0]])/\Gl (bif c then x else y) (gv T f 1 [a,b,[bif c then 1 else 0]])
theorem FX.c5(x:FX)(l:List Int)(ρ:FV)(hb:x.vr=false)(h:Gl (x.ev ρ) l):Fw (γF ρ) [(5,x)] l:=
 ⟨l,[],by simp,h.1.1,by unfold γF;rw[hb];exact h,rfl⟩
theorem Gt{ρ:FV}{ρe:Bu}{a:List (Bk FX)}{as:List (List (Bk FX))}{ins:List (List Int)}(h:fU (γF ρ) ρe (a::as) ins):∃x xs,ins=x::xs/\GK (γF ρ) ρe a x/\fU (γF ρ) ρe as xs:=by
 match ins,h with
 |x::xs,h=>exact⟨x,xs,rfl,h.1,h.2⟩
theorem RS{ρ:FV}{ρe:Bu}{ins:List (List Int)}(h:fU (γF ρ) ρe [] ins):ins= []:=by
 match ins,h with
 | [],h=>rfl
theorem FX.c1(x:FX)(l:List Int)(ρ:FV)(hb:x.vr=true)(h:l=kT (x.bv ρ)):Fw (γF ρ) [(1,x)] l:=
 ⟨l,[],by simp,by rw[h];rfl,by unfold γF;rw[hb];exact h,rfl⟩
theorem KF.sound{T:Tb}{f:Nat}{κ:KF}(hk:κ.Ok T f){o:Nat}{pa:List (List (Bk FX))}{r:List (Nat×FX)}(h:κ.tf o pa=some r){ρ:FV}{ρe:Bu}{ins:List (List Int)}(hp:fU (γF ρ) ρe pa ins):NB T f ins/\Fw (γF ρ) r (gv T f o ins):=by
 unfold KF.tf at h;split at h
 ·obtain⟨v,_,rfl,_,hp⟩:=Gt hp;obtain⟨b,_,rfl,hb,hp⟩:=Gt hp;cases RS hp;split at h
  ·rename_i cs cS;cases he:AAA cs _ with
   |false=>rw[he] at h;cases h
   |true=>
    rw[he,cond_true,Ai] at h;subst h;have e1:=UK hb cS;have e2:=jq he;subst e1;subst e2;have:=hk v;exact⟨this.1,FX.c5 _ _ _ rfl this.2⟩
  ·cases h
 ·obtain⟨v,_,rfl,_,hp⟩:=Gt hp;obtain⟨b,_,rfl,hb,hp⟩:=Gt hp;cases RS hp;split at h
  ·rename_i xs hxs;cases he:Nat.beq xs.length _ with
   |false=>rw[he] at h;cases h
   |true=>
    rw[he,cond_true,Ai] at h;subst h;have e1:=Ca he;subst e1;obtain⟨g1,g2⟩:=AJl hxs hb;have:=hk v b g2;exact⟨this.1,by rw[this.2];exact g1⟩
  ·cases h
 ·obtain⟨a,_,rfl,ha,hp⟩:=Gt hp;obtain⟨b,_,rfl,hb,hp⟩:=Gt hp;cases RS hp;split at h
  ·rename_i x y hx hy;simp only[Ai] at h;subst h;have:=hk a b _ _ (EN ha hx).2 (EN hb hy).2;exact⟨this.1,FX.c1 _ _ _ rfl this.2⟩
  ·cases h
 ·obtain⟨a,_,rfl,ha,hp⟩:=Gt hp;cases RS hp;split at h
  ·rename_i x hx;simp only[Ai] at h;subst h;have:=hk a _ (EN ha hx).2;exact⟨this.1,FX.c1 _ _ _ rfl this.2⟩
  ·cases h
 ·obtain⟨v,_,rfl,_,hp⟩:=Gt hp;obtain⟨a,_,rfl,ha,hp⟩:=Gt hp;cases RS hp;split at h
  ·rename_i x hx;simp only[Ai] at h;subst h;have:=hk v a _ (EN ha hx).2;refine⟨this.1,FX.c5 _ _ _ rfl ?_⟩;show Gl (bif Nat.beq ((x.ev ρ).val%2) 1 then Jn 0-x.ev ρ else x.ev ρ) _;rw[Kz];exact this.2
  ·cases h
 ·obtain⟨v,_,rfl,_,hp⟩:=Gt hp;obtain⟨a,_,rfl,ha,hp⟩:=Gt hp;obtain⟨b,_,rfl,hb,hp⟩:=Gt hp;cases RS hp;split at h
  ·rename_i x y hx hy;simp only[Ai] at h;subst h;have:=hk v a b _ _ (EN ha hx).2 (EN hb hy).2;exact⟨this.1,FX.c5 _ _ _ rfl this.2.1⟩
  ·cases h
 ·obtain⟨v,_,rfl,_,hp⟩:=Gt hp;obtain⟨a,_,rfl,ha,hp⟩:=Gt hp;obtain⟨b,_,rfl,hb,hp⟩:=Gt hp;cases RS hp;split at h
  ·rename_i x y hx hy;simp only[Ai] at h;subst h;have:=hk v a b _ _ (EN ha hx).2 (EN hb hy).2;exact⟨this.1,FX.c1 _ _ _ rfl this.2.2⟩
  ·cases h
 ·obtain⟨v,_,rfl,_,hp⟩:=Gt hp;obtain⟨a,_,rfl,ha,hp⟩:=Gt hp;obtain⟨b,_,rfl,hb,hp⟩:=Gt hp;cases RS hp;split at h
  ·rename_i x y hx hy;simp only[Ai] at h;subst h;have:=hk v a b _ _ (EN ha hx).2 (EN hb hy).2;exact⟨this.1,FX.c5 _ _ _ rfl this.2⟩
  ·cases h
 ·obtain⟨v,_,rfl,_,hp⟩:=Gt hp;obtain⟨a,_,rfl,ha,hp⟩:=Gt hp;obtain⟨b,_,rfl,hb,hp⟩:=Gt hp;cases RS hp;split at h
  ·rename_i x y hx hy;simp only[Ai] at h;subst h;have:=hk v a b _ _ (EN ha hx).2 (EN hb hy).2;exact⟨this.1,FX.c5 _ _ _ rfl this.2⟩
  ·cases h
 ·obtain⟨v,_,rfl,_,hp⟩:=Gt hp;obtain⟨a,_,rfl,ha,hp⟩:=Gt hp;obtain⟨b,_,rfl,hb,hp⟩:=Gt hp;cases RS hp;split at h
  ·rename_i x y hx hy;simp only[Ai] at h;subst h;have:=hk v a b _ _ (EN ha hx).2 (EN hb hy).2;exact⟨this.1,FX.c5 _ _ _ rfl this.2⟩
  ·cases h
 ·obtain⟨v,_,rfl,_,hp⟩:=Gt hp;obtain⟨a,_,rfl,ha,hp⟩:=Gt hp;cases RS hp;split at h
  ·rename_i x hx;simp only[Ai] at h;subst h;have:=hk v a _ (EN ha hx).2;exact⟨this.1,FX.c5 _ _ _ rfl this.2⟩
  ·cases h
 ·obtain⟨v,_,rfl,_,hp⟩:=Gt hp;obtain⟨a,_,rfl,ha,hp⟩:=Gt hp;cases RS hp;split at h
  ·rename_i x hx;simp only[Ai] at h;subst h;have:=hk v a _ (EN ha hx).2;exact⟨this.1,FX.c5 _ _ _ rfl (by show Gl (Jn 0-x.ev ρ) _;rw[Kz];exact this.2)⟩
  ·cases h
 ·obtain⟨v,_,rfl,_,hp⟩:=Gt hp;obtain⟨a,_,rfl,ha,hp⟩:=Gt hp;cases RS hp;split at h
  ·rename_i x hx;simp only[Ai] at h;subst h;have:=hk v a _ (EN ha hx).2;exact⟨this.1,FX.c5 _ _ _ (EN ha hx).1 this.2⟩
  ·cases h
 ·obtain⟨v,_,rfl,_,hp⟩:=Gt hp;obtain⟨a,_,rfl,ha,hp⟩:=Gt hp;cases RS hp;split at h
  ·rename_i x hx;simp only[Ai] at h;subst h;have:=hk v a _ (EN ha hx).2;exact⟨this.1,FX.c5 _ _ _ rfl this.2⟩
  ·cases h
 ·simp only[Ai] at h;subst h;have:=hk ins;exact⟨this.1,FX.c5 _ _ _ rfl this.2⟩
 ·obtain⟨v,_,rfl,_,hp⟩:=Gt hp;obtain⟨a,_,rfl,ha,hp⟩:=Gt hp;obtain⟨n,_,rfl,hn,hp⟩:=Gt hp;cases RS hp;split at h
  ·rename_i x m hx hm;cases hb:Nat.ble m 1000 with
   |false=>rw[hb] at h;cases h
   |true=>
    rw[hb,cond_true,Ai] at h;subst h;have e:=UK hn hm;subst e;have:=hk v a _ m (Kv hb) (EN ha hx).2;exact⟨this.1,FX.c5 _ _ _ rfl this.2⟩
  ·cases h
 ·obtain⟨v,_,rfl,_,hp⟩:=Gt hp;obtain⟨a,_,rfl,ha,hp⟩:=Gt hp;obtain⟨b,_,rfl,hb,hp⟩:=Gt hp;obtain⟨c,_,rfl,hc,hp⟩:=Gt hp;cases RS hp;split at h
  ·rename_i x y z hx hy hz;simp only[Ai] at h;subst h;have hz:=UR hc hz;subst hz;have:=hk v a b _ _ (z.bv ρ) (EN ha hx).2 (EN hb hy).2;exact⟨this.1,FX.c5 _ _ _ rfl this.2⟩
  ·cases h
 ·obtain⟨a,_,rfl,ha,hp⟩:=Gt hp;obtain⟨b,_,rfl,hb,hp⟩:=Gt hp;obtain⟨c,_,rfl,hc,hp⟩:=Gt hp;cases RS hp;split at h
  ·rename_i x y z hx hy hz;simp only[Ai] at h;subst h;have hz:=UR hc hz;subst hz;have:=hk a b _ _ (z.bv ρ) (EN ha hx).2 (EN hb hy).2;exact⟨this.1,FX.c5 _ _ _ rfl this.2.1⟩
  ·cases h
 ·obtain⟨a,_,rfl,ha,hp⟩:=Gt hp;obtain⟨b,_,rfl,hb,hp⟩:=Gt hp;obtain⟨c,_,rfl,hc,hp⟩:=Gt hp;cases RS hp;split at h
  ·rename_i x y z hx hy hz;simp only[Ai] at h;subst h;have hz:=UR hc hz;subst hz;have:=hk a b _ _ (z.bv ρ) (EN ha hx).2 (EN hb hy).2;exact⟨this.1,FX.c5 _ _ _ rfl this.2.2⟩
  ·cases h
 ·cases h
def opF(op:NR)(pa:List (List (Bk FX))):Option (List (Nat×FX)):=match op,pa with
 | .bin .or .i64,[a,b]=>(match nT a,nT b with
  |some x,some y=>some [(1,.or x y)]
  |_,_=>none)
 | .bin .eql .i64,[a,[.lit (.ofNat 0)]]=>(match nT a with
  |some x=>some [(1,.not x)]
  |_=>none)
 |_,_=>none
theorem AK2{T:Tb}{op:NR}{pa:List (List (Bk FX))}{r:List (Nat×FX)}(h:opF op pa=some r){ρ:FV}{ρe:Bu}{ins:List (List Int)}(hp:fU (γF ρ) ρe pa ins):Fw (γF ρ) r (op.den T ins):=by
 unfold opF at h;split at h
 ·obtain⟨a,_,rfl,ha,hp⟩:=Gt hp;obtain⟨b,_,rfl,hb,hp⟩:=Gt hp;cases RS hp;split at h
  ·rename_i x y hx hy;simp only[Ai] at h;subst h;have h1:=UR ha hx;have h2:=UR hb hy;subst h1;subst h2;refine FX.c1 _ _ _ rfl ?_;show[Ak .or .i64 (bif x.bv ρ then 1 else 0) (bif y.bv ρ then 1 else 0)]=kT (x.bv ρ||y.bv ρ);cases x.bv ρ<;>cases y.bv ρ<;>decide +kernel
  ·cases h
 ·obtain⟨a,_,rfl,ha,hp⟩:=Gt hp;obtain⟨b,_,rfl,hb,hp⟩:=Gt hp;cases RS hp;split at h
  ·rename_i x hx;simp only[Ai] at h;subst h;have h1:=UR ha hx;obtain⟨u,w,g1,g2,g3⟩:=hb;have hw:w= []:=g3;rw[hw,RD] at g1;subst g1;have UP:b= [Int.ofNat 0]:=g2;subst h1;subst UP;refine FX.c1 _ _ _ rfl ?_;show[Ak .eql .i64 (bif x.bv ρ then 1 else 0) 0]=kT (!x.bv ρ);cases x.bv ρ<;>decide +kernel
  ·cases h
 ·cases h
def xu(M:List (Nat×KF)):Tf FX where
 o:=opF
 f f o pa:=match lk f M with
  |some κ=>κ.tf o pa
  |none=>none
 p f pa:=match lk f M with
  |some κ=>(κ.tf 0 pa).isSome
  |none=>false
inductive MF (T:Tb):List (Nat×KF)->Prop where
 |nil:MF T []
 |cons {f:Nat} {κ:KF} {M:List (Nat×KF)}:κ.Ok T f->MF T M->MF T ((f,κ)::M)
theorem MF.get{T:Tb}:∀ {M:List (Nat×KF)},MF T M->∀ {f:Nat} {κ:KF},lk f M=some κ->κ.Ok T f
 |_,.nil,f,κ,h=>by cases h
 | _,.cons (f:=g) h1 h2,f,κ,h=>by
  simp only[lk] at h;cases hb:Nat.beq g f with
  |true=>
   rw[hb,cond_true,Ai] at h;have:=Ca hb;subst this;subst h;exact h1
  |false=>rw[hb] at h;exact h2.get h
theorem bR{T:Tb}{M:List (Nat×KF)}(hM:MF T M)(ρ:FV):cu (γF ρ) T (xu M) where
 f f o pa r h ρe ins hp:=by
  simp only[xu] at h;split at h
  ·rename_i κ hk;exact(KF.sound (hM.get hk) h hp).2
  ·cases h
 o op pa r h ρe ins hp:=AK2 h hp
 p f pa h ρe ins hp:=by
  simp only[xu] at h;split at h
  ·rename_i κ hk;obtain⟨r,hr⟩:=Option.isSome_iff_exists.1 h;exact(KF.sound (hM.get hk) hr hp).1.pre
  ·cases h
def FX.beq:FX->FX->Bool
 | .v m,.v n=>Nat.beq m n
 | .k m,.k n=>AAA [m] [n]
 | .add p q,.add r s=>p.beq r&&q.beq s
 | .sub p q,.sub r s=>p.beq r&&q.beq s
 | .mul p q,.mul r s=>p.beq r&&q.beq s
 | .pw p m,.pw r n=>p.beq r&&Nat.beq m n
 | .b m,.b n=>Nat.beq m n
 | .ite p q w,.ite r s z=>p.beq r&&q.beq s&&w.beq z
 | .eq p q,.eq r s=>p.beq r&&q.beq s
 | .or p q,.or r s=>p.beq r&&q.beq s
 | .Sx p,.Sx r=>p.beq r
 | .not p,.not r=>p.beq r
 |_,_=>false
theorem FX.ef(ρ:FV):∀ {x y:FX},x.beq y=true->x.eb ρ=y.eb ρ:=by
 intro x
 induction x with
 |v n=>intro y h;cases y<;>simp only[FX.beq,Qo] at h;rw[Ca h]
 |k c=>intro y h;cases y<;>simp only[FX.beq,Qo] at h;have:=jq h;simp only[List.cons.injEq,and_true] at this;rw[this]
 |add a b iha ye=>intro y h;cases y<;>simp only[FX.beq,Bj,Qo] at h;simp only[FX.eb,iha h.1,ye h.2]
 |sub a b iha ye=>intro y h;cases y<;>simp only[FX.beq,Bj,Qo] at h;simp only[FX.eb,iha h.1,ye h.2]
 |mul a b iha ye=>intro y h;cases y<;>simp only[FX.beq,Bj,Qo] at h;simp only[FX.eb,iha h.1,ye h.2]
 |pw a n iha=>intro y h;cases y<;>simp only[FX.beq,Bj,Qo] at h;simp only[FX.eb,iha h.1,Ca h.2]
 |b n=>intro y h;cases y<;>simp only[FX.beq,Qo] at h;rw[Ca h]
 |ite a b c iha ye ihc=>intro y h;cases y<;>simp only[FX.beq,Bj,Qo] at h;simp only[FX.eb,iha h.1.1,ye h.1.2,ihc h.2]
 |t c=>intro y h;cases y<;>simp only[FX.beq,Qo] at h
 |eq a b iha ye=>intro y h;cases y<;>simp only[FX.beq,Bj,Qo] at h;simp only[FX.eb,iha h.1,ye h.2]
 |or a b iha ye=>intro y h;cases y<;>simp only[FX.beq,Bj,Qo] at h;simp only[FX.eb,iha h.1,ye h.2]
 |Sx a iha=>intro y h;cases y<;>simp only[FX.beq,Qo] at h;simp only[FX.eb,iha h]
 |not a iha=>intro y h;cases y<;>simp only[FX.beq,Qo] at h;simp only[FX.eb,iha h]
def AJD(H:List FX)(_:List (Nat×FT))(s:BS FX):I1->Bool
 | .zr (.v n 0)=>(match lk n s with
  |some [(1,x)]=>x.vr&&H.any (λy=>x.beq y)
  |_=>false)
 |_=>false
theorem AJc{H:List FX}{ρ:FV}(hH:∀x∈H,x.bv ρ=false){T:Tb}(ds:List (Nat×FT)):nK (γF ρ) T ds (AJD H ds):=fun ρe s q _ hs h=>by
 unfold AJD at h;split at h
 ·rename_i n;split at h
  ·rename_i x hx;simp only[Bj,List.any_eq_true] at h;obtain⟨h1,y,h2,h3⟩:=h;obtain⟨u,w,g1,g2,g3,g4⟩:=hs n _ hx;have hw:w= []:=g4;rw[hw,RD] at g1;have g5:=γF_b g3 h1;have e:x.bv ρ=false:=by
    have:=hH y h2;unfold FX.bv at *
    rw[FX.ef ρ h3];exact this
   rw[e] at g5;show(ρe n).getD 0 0=0;rw[g1,g5];rfl
  ·cases h
 ·cases h
end
section
open Go Ma
def kZ(u v:Fp):Fp:=u*(v*v*v)*Ja (u*(v*v*v)*(v*v*(v*v))) eP
def Wv(u v:Fp):Fp:=v*(kZ u v*kZ u v)
theorem ADC(w:Fp)(n:Nat):Ja (w*w) n=Ja w n*Ja w n:=by
 rw[<- LH];have:w*w=Ja w 2:=by rw[IG,Oy]
 rw[this,UO,Nat.two_mul]
theorem AL4{a:Fp}(h:a*a=1):a=1\/a= -1:=by
 by_cases h1:a=1
 ·exact .inl h1
 ·right
  have h2:a-1≠0:=λh0=>h1 (by grind)
  refine Ph (c:=a-1) h2 ?_;grind
theorem chi{w:Fp}(h:w≠0):Ja w eH=1\/Ja w eH= -1:=by
 apply AL4;rw[<- LH];exact VJ h
theorem Xm{a b:Fp}(h:a*b=0):a=0\/b=0:=by
 by_cases ha:a=0
 ·exact .inl ha
 ·by_cases hb:b=0
  ·exact .inr hb
  ·exact absurd h (EJ ha hb)
theorem AL5{u v x:Fp}(h:v*(x*x)=u):Wv u v=u\/Wv u v= -u:=by
 by_cases hu:u=0
 ·left
  have h0:kZ u v=0:=by unfold kZ;rw[hu];grind
  unfold Wv;rw[h0,hu];grind
 ·have hv:v≠0:=λh0=>hu (by rw[<- h,h0];grind)
  have hx:x≠0:=λh0=>hu (by rw[<- h,h0];grind)
  have hw:v*v*v*v*x≠0:=EJ (EJ (EJ (EJ hv hv) hv) hv) hx;have e1:u*(v*v*v)*(v*v*(v*v))=(v*v*v*v*x)*(v*v*v*v*x):=by rw[<- h];grind
  have e2:u*(v*v*v)=(v*v*v*v*x)*x:=by rw[<- h];grind
  have key:Wv u v=u*Ja (v*v*v*v*x) eH:=by
   unfold Wv kZ;rw[e1,ADC,e2];have e3:Ja (v*v*v*v*x) eH=Ja (v*v*v*v*x) eP*Ja (v*v*v*v*x) eP*(Ja (v*v*v*v*x) eP*Ja (v*v*v*v*x) eP)*((v*v*v*v*x)*(v*v*v*v*x)):=by
    have:eH=eP+eP+(eP+eP)+2:=by decide +kernel
    rw[this,LH,LH,LH,IG _ 1,Oy]
   rw[e3];generalize Ja (v*v*v*v*x) eP=s;generalize v*v*v*v*x=w;rw[<- h];grind
  rw[key];rcases chi hw with e|e<;>rw[e]
  ·left;grind
  ·right;grind
theorem AM7:iE*iE= -1:=by decide +kernel
theorem AP2{u v r:Fp}(hf:Wv u v=u\/Wv u v= -u)(hr:r=bif Yl (Wv u v) (-u)||Yl (Wv u v) (-u*iE) then kZ u v*iE else kZ u v):v*(r*r)=u:=by
 have hC:v*(kZ u v*kZ u v)=Wv u v:=rfl;have hi:=AM7;have K1:(2:Fp)≠0:=rD;by_cases h1:Wv u v= -u
 ·rw[Ni.2 h1] at hr;simp only[Bool.true_or,cond_true] at hr;rw[hr];generalize Wv u v=c at *
  generalize kZ u v=s at *
  grind
 ·rw[bD h1] at hr;have h0:Wv u v=u:=by
   rcases hf with h|h
   ·exact h
   ·exact absurd h h1
  by_cases h2:Wv u v= -u*iE
  ·have hu:u=0:=by
    have h3:u*(1+iE)=0:=by rw[h0] at h2;grind
    rcases Xm h3 with h|h
    ·exact h
    ·exfalso;have:iE= -1:=by grind
     rw[this] at hi;exact K1 (by grind)
   exact absurd (by rw[h0,hu];grind) h1
  ·rw[bD h2] at hr;simp only[Bool.or_false,cond_false] at hr;rw[hr,hC,h0]
theorem ARs:Jn (Oe iL)=iE:=by decide +kernel
theorem AOp(x y:Fp):(gH (.v 0) (.v 1)).bv (FX.v2 x y)=(Yl (Wv x y) x||Yl (Wv x y) (0-x)):=by
 simp only[FX.bv,gH,pX,pW,uo,FX.eb,FX.v2,Wv,kZ,Kz,Qx,aa]
theorem AMT(x y:Fp):(TL (tX (.v 0) (.v 1))).ev (FX.v2 x y)=(let r:=bif Yl (Wv x y) (0-x)||Yl (Wv x y) ((0-x)*iE) then kZ x y*iE else kZ x y;bif Nat.beq (r.val%2) 1 then 0-r else r):=by
 simp only[FX.ev,TL,tX,pX,pW,uo,FX.eb,FX.v2,Wv,kZ,Kz,ARs,Qx,aa]
theorem qW{r:Fp}(h:r.val%2=1):(0-r).val%2=0:=by
 have h1:=r.isLt;have h2:(0-r).val=PP-r.val:=by
  have h3:(0-r)+r=0:=by grind
  have h4:=CV Fin.val h3;rw[Fin.val_add] at h4;have h5:=(0-r).isLt;have h6:(0:Fp).val=0:=rfl;rw[h6] at h4;have h7:=Nat.div_add_mod ((0-r).val+r.val) PP;rw[h4,QO] at h7;generalize ((0-r).val+r.val)/PP=q at h7;generalize (0-r).val=a at *
  generalize r.val=b at *
  have h9:PP*q<PP*2:=by omega
  have iu:q<2:=Nat.lt_of_mul_lt_mul_left h9
  match q,iu with
  |0,_=>rw[Nat.mul_zero] at h7;omega
  |1,_=>rw[Nat.mul_one] at h7;omega
 rw[h2];have:PP%2=1:=by decide +kernel
 omega
theorem ABx(r:Fp):(bif Nat.beq (r.val%2) 1 then 0-r else r).val%2=0:=by
 rcases Nat.mod_two_eq_zero_or_one r.val with h|h
 ·rw[h];show r.val%2=0;exact h
 ·rw[h];show(0-r).val%2=0;exact qW h
theorem ANe(r:Fp):(bif Nat.beq (r.val%2) 1 then 0-r else r)*(bif Nat.beq (r.val%2) 1 then 0-r else r)=r*r:=by
 cases Nat.beq (r.val%2) 1
 ·rfl
 ·simp only[cond_true];grind
theorem AEC{f:Bool}{u v R:Fp}(h1:(∃x,v*(x*x)=u)->f=true)(h2:f=true->v*(R*R)=u):(f=true↔∃x,v*(x*x)=u)/\(f=true->v*((let r:=R;bif Nat.beq (r.val%2) 1 then 0-r else r)*(let r:=R;bif Nat.beq (r.val%2) 1 then 0-r else r))=u)/\(let r:=R;bif Nat.beq (r.val%2) 1 then 0-r else r).val%2=0:=by
 refine⟨⟨λh=>⟨_,h2 h⟩,h1⟩,λh=>?_,ABx _⟩;simp only;rw[ANe];exact h2 h
theorem YR(u v:Fp):((gH (.v 0) (.v 1)).bv (FX.v2 u v)=true↔∃x,v*(x*x)=u)/\((gH (.v 0) (.v 1)).bv (FX.v2 u v)=true->v*((TL (tX (.v 0) (.v 1))).ev (FX.v2 u v)*(TL (tX (.v 0) (.v 1))).ev (FX.v2 u v))=u)/\((TL (tX (.v 0) (.v 1))).ev (FX.v2 u v)).val%2=0:=by
 rw[AOp,AMT];have hn:(0:Fp)-u= -u:=by grind
 rw[hn];have h1:(∃x,v*(x*x)=u)->(Yl (Wv u v) u||Yl (Wv u v) (-u))=true:=λ⟨x,hx⟩=>by
  rw[Bool.or_eq_true,Ni,Ni];exact AL5 hx
 have h2:(Yl (Wv u v) u||Yl (Wv u v) (-u))=true->v*((bif Yl (Wv u v) (-u)||Yl (Wv u v) (-u*iE) then kZ u v*iE else kZ u v)*(bif Yl (Wv u v) (-u)||Yl (Wv u v) (-u*iE) then kZ u v*iE else kZ u v))=u:=λh=>by
  rw[Bool.or_eq_true,Ni,Ni] at h;exact AP2 h rfl
 exact AEC h1 h2
end
end Go.Proofs.YtkbfdaoohhmgoaaGreatDoor
