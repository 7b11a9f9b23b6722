/- A checker of word arithmetic, part 1: polynomials over the values of names; words. -/
import Derived.Test.YtkbfdaoohhmgoaaGreatDoorSb
namespace Go.Proofs.YtkbfdaoohhmgoaaGreatDoor
section
open Go
def enc(i k m:Nat):Nat:=(i*4096+k)*128+m
def αv(ρ:Bu)(a:Nat):Int:=((ρ (a/524288)).getD (a/128%4096) 0)/2^(a%128)
theorem αv_enc(ρ:Bu){i k m:Nat}(hk:k<4096)(hm:m<128):αv ρ (enc i k m)=((ρ i).getD k 0)/2^m:=by
 unfold αv enc;rw[show((i*4096+k)*128+m)/524288=i by omega,show((i*4096+k)*128+m)/128%4096=k by omega,show((i*4096+k)*128+m)%128=m by omega]
theorem αv_enc0(ρ:Bu){i k:Nat}(hk:k<4096):αv ρ (enc i k 0)=(ρ i).getD k 0:=by
 rw[αv_enc ρ hk (by omega),Int.pow_zero,Int.ediv_one]
abbrev Vm:=List Nat
abbrev Fj:=List (Vm×Int)
def jL(ρ:Bu):Vm->Int
 | []=>1
 |a::r=>αv ρ a*jL ρ r
def Er(ρ:Bu):Fj->Int
 | []=>0
 |(m,c)::r=>c*jL ρ m+Er ρ r
def AAz:Vm->Vm->Nat
 | [],[]=>1
 | [],_::_=>0
 |_::_,[]=>2
 |a::r,b::s=>bif Nat.beq a b then AAz r s else bif Nat.blt a b then 0 else 2
theorem wH:∀ {a b:Vm},AAz a b=1->a=b
 | [],[],_=>rfl
 | [],_::_,h=>by simp[AAz] at h
 |_::_,[],h=>by simp[AAz] at h
 |a::r,b::s,h=>by
  unfold AAz at h;cases hb:Nat.beq a b with
  |true=>rw[hb] at h;rw[Ca hb,wH h]
  |false=>rw[hb] at h;cases hc:Nat.blt a b<;>simp[hc] at h
def HP:Int->Bool
 | .ofNat 0=>true
 |_=>false
theorem iB{n:Int}(h:HP n=true):n=0:=by
 unfold HP at h;split at h<;>first|rfl|cases h
def AAO(m:Vm)(c:Int):Fj->Fj
 | []=>bif HP c then[] else[(m,c)]
 |(m',c')::r=>match AAz m m' with
  |0=>bif HP c then(m',c')::r else(m,c)::(m',c')::r
  |1=>bif HP (c+c') then r else(m',c+c')::r
  |_=>(m',c')::AAO m c r
theorem jf(ρ:Bu)(m:Vm)(c:Int):∀p,Er ρ (AAO m c p)=c*jL ρ m+Er ρ p
 | []=>by
  unfold AAO;cases h:HP c with
  |true=>rw[iB h];simp[Er]
  |false=>simp[Er]
 | (m',c')::r=>by
  unfold AAO;split
  ·cases h:HP c with
   |true=>rw[iB h];simp[Er]
   |false=>simp[Er]
  ·rename_i hm;rw[wH hm];cases h:HP (c+c') with
   |true=>
    have:=iB h;simp only[cond_true,Er];rw[<- Int.add_assoc, <- Bx,this];simp
   |false=>simp only[cond_false,Er];rw[Bx,Int.add_assoc]
  ·simp only[Er,jf ρ m c r];omega
def DZ:Fj->Fj->Fj
 | [],q=>q
 |(m,c)::r,q=>AAO m c (DZ r q)
theorem Ci(ρ:Bu):∀p q,Er ρ (DZ p q)=Er ρ p+Er ρ q
 | [],q=>by simp[DZ,Er]
 |(m,c)::r,q=>by simp only[DZ,jf,Ci ρ r q,Er];omega
def Cq(d:Int):Fj->Fj
 | []=>[]
 |(m,c)::r=>(m,d*c)::Cq d r
theorem Cf(ρ:Bu)(d:Int):∀p,Er ρ (Cq d p)=d*Er ρ p
 | []=>by simp[Cq,Er]
 |(m,c)::r=>by simp only[Cq,Er,Cf ρ d r,wK,YL]
def AHW(bs:List Nat)(a:Nat):Vm->Vm
 | []=>[a]
 |b::r=>bif Nat.beq a b then(bif Dz a bs then b::r else a::b::r) else bif Nat.blt a b then a::b::r else b::AHW bs a r
def OY(ρ:Bu)(bs:List Nat):Prop:=∀a,Dz a bs=true->αv ρ a=0\/αv ρ a=1
theorem wy{ρ:Bu}{bs:List Nat}(hb:OY ρ bs)(a:Nat):∀m,jL ρ (AHW bs a m)=αv ρ a*jL ρ m
 | []=>rfl
 | b::r=>by
  unfold AHW;cases h:Nat.beq a b with
  | true=>
   have:=Ca h;subst this;simp only[cond_true];cases h2:Dz a bs with
   |true=>
    simp only[cond_true,jL];rcases hb a h2 with e|e<;>rw[e]<;>simp
   |false=>rfl
  |false=>
   simp only[cond_false];cases h2:Nat.blt a b with
   |true=>rfl
   |false=>simp only[cond_false,jL,wy hb a r];rw[<- YL,bf (αv ρ b),YL]
def AD1(bs:List Nat):Vm->Vm->Vm
 | [],m=>m
 |a::r,m=>AHW bs a (AD1 bs r m)
theorem yl{ρ:Bu}{bs:List Nat}(hb:OY ρ bs):∀m n,jL ρ (AD1 bs m n)=jL ρ m*jL ρ n
 | [],m=>by simp[AD1,jL]
 |a::r,m=>by simp only[AD1,wy hb,yl hb r m,jL,YL]
def oM(bs:List Nat)(m:Vm)(c:Int):Fj->Fj->Fj
 | [],acc=>acc
 |(n,d)::r,acc=>AAO (AD1 bs m n) (c*d) (oM bs m c r acc)
theorem mU{ρ:Bu}{bs:List Nat}(hb:OY ρ bs)(m:Vm)(c:Int):∀p acc,Er ρ (oM bs m c p acc)=c*jL ρ m*Er ρ p+Er ρ acc
 | [],acc=>by simp[oM,Er]
 | (n,d)::r,acc=>by
  simp only[oM,jf,mU hb m c r acc,Er,yl hb,wK];have:c*d*(jL ρ m*jL ρ n)=c*jL ρ m*(d*jL ρ n):=by
   rw[YL,YL, <- YL d,bf d,YL]
  rw[this];omega
def Ub(bs:List Nat):Fj->Fj->Fj
 | [],_=>[]
 |(m,c)::r,q=>oM bs m c q (Ub bs r q)
theorem UG{ρ:Bu}{bs:List Nat}(hb:OY ρ bs):∀p q,Er ρ (Ub bs p q)=Er ρ p*Er ρ q
 | [],q=>by simp[Ub,Er]
 |(m,c)::r,q=>by simp only[Ub,mU hb,UG hb r q,Er,Bx]
def cK(c:Int):Fj:=bif HP c then[] else[([],c)]
theorem Rb(ρ:Bu)(c:Int):Er ρ (cK c)=c:=by
 unfold cK;cases h:HP c with
 |true=>rw[iB h];rfl
 |false=>simp[Er,jL]
def Ir(a:Nat):Fj:=[([a],1)]
theorem Gc(ρ:Bu)(a:Nat):Er ρ (Ir a)=αv ρ a:=by simp[Ir,Er,jL]
def Ol(M:Nat):Fj->Bool
 | []=>true
 |(_,c)::r=>Nat.beq (c.natAbs%M) 0&&Ol M r
def AAq(M:Nat):Fj->Fj
 | []=>[]
 |(m,c)::r=>(m,c/M)::AAq M r
theorem iy(ρ:Bu)(M:Nat):∀p,Ol M p=true->Er ρ p=M*Er ρ (AAq M p)
 | [],_=>by simp[AAq,Er]
 |(m,c)::r,h=>by
  simp only[Ol,Bj] at h;have h1:(M:Int) ∣ c:=Int.natAbs_dvd_natAbs.1 (by rw[Int.natAbs_natCast];exact Nat.dvd_of_mod_eq_zero (Ca h.1));simp only[AAq,Er,iy ρ M r h.2,wK];rw[<- YL,Int.mul_ediv_cancel' h1]
theorem WR(ρ:Bu){M:Nat}{p:Fj}(h:Ol M p=true):(M:Int) ∣ Er ρ p:=⟨_,iy ρ M p h⟩
def Bl(a b:Int):Bool:=match a,b with
 | .ofNat m,.ofNat n=>Nat.ble m n
 | .ofNat _,.negSucc _=>false
 | .negSucc _,.ofNat _=>true
 | .negSucc m,.negSucc n=>Nat.ble n m
theorem A8{a b:Int}(h:Bl a b=true):a<=b:=by
 unfold Bl at h;split at h
 ·exact Int.ofNat_le.2 (Kv h)
 ·cases h
 ·exact Sd (Int.le_of_lt (Int.negSucc_lt_zero _)) (nI _)
 ·have:=Kv h;simp only[Int.negSucc_eq];omega
def AII(a b:Int):Int:=bif Bl a b then a else b
def AH4(a b:Int):Int:=bif Bl a b then b else a
theorem VD{a b:Int}(h:Bl a b=false):b<=a:=by
 unfold Bl at h;split at h
 ·rename_i m n;have:¬m<=n:=λhle=>by rw[yu hle] at h;cases h
  exact Int.ofNat_le.2 (by omega)
 ·exact Sd (Int.le_of_lt (Int.negSucc_lt_zero _)) (nI _)
 ·cases h
 ·rename_i m n;have:¬n<=m:=λhle=>by rw[yu hle] at h;cases h
  simp only[Int.negSucc_eq];omega
theorem AGF(a b:Int):AII a b<=a/\AII a b<=b:=by
 unfold AII;cases h:Bl a b with
 |true=>exact⟨gq _,A8 h⟩
 |false=>exact⟨VD h,gq _⟩
theorem AGW(a b:Int):a<=AH4 a b/\b<=AH4 a b:=by
 unfold AH4;cases h:Bl a b with
 |true=>exact⟨A8 h,gq _⟩
 |false=>exact⟨gq _,VD h⟩
theorem H7{k:IntKind}{n:Int}(h:IJ k n):k.wrap n=n:=by
 obtain⟨h1,h2⟩:=h;cases k<;>simp only[IntKind.min,IntKind.max,IntKind.bits,IntKind.signed] at h1 h2<;>simp[IntKind.wrap,IntKind.bits,IntKind.signed]<;>simp at h1 h2<;>omega
def JA:IntKind->Nat
 | .u8=>8 | .u16=>16 | .u32=>32 | .u64=>64
 |_=>0
theorem JZ{k:IntKind}(hk:Pm k=true)(n:Int):k.wrap n=n%2^JA k:=by
 cases k<;>first|exact absurd hk (by decide)|(simp[IntKind.wrap,IntKind.bits,IntKind.signed,JA])
theorem IA{k:IntKind}(hk:Pm k=true){n:Int}:IJ k n↔0<=n/\n<2^JA k:=by
 cases k<;>first|exact absurd hk (by decide)|(simp[IJ,IntKind.min,IntKind.max,IntKind.bits,IntKind.signed,JA];try omega)
theorem mR{k:IntKind}(hk:Pm k=true):k.bits=JA k:=by
 cases k<;>first|exact absurd hk (by decide)|rfl
theorem NS{k:IntKind}(hk:Pm k=true){x y:Int}(hx:IJ k x)(hy:IJ k y):
  Es .and k x y=((x.toNat &&& y.toNat:Nat):Int)/\Es .or k x y=((x.toNat ||| y.toNat:Nat):Int)/\Es .xor k x y=((x.toNat ^^^ y.toNat:Nat):Int):=by
 have eg:=(IA hk).1 hx;have Mn:=(IA hk).1 hy;obtain⟨a,rfl⟩:=kC eg.1;obtain⟨b,rfl⟩:=kC Mn.1;have ha:a<2^JA k:=by exact_mod_cast eg.2
 have hb:b<2^JA k:=by exact_mod_cast Mn.2
 have lf:∀c:Nat,c<2^JA k->(BitVec.ofInt k.bits (c:Int)).toNat=c:=λc hc=>by
  rw[mR hk,BitVec.toNat_ofInt];have:((c:Int)%((2^JA k:Nat):Int)).toNat=c%2^JA k:=by omega
  rw[this,Nat.mod_eq_of_lt hc]
 have lB:∀c:Nat,c<2^JA k->k.wrap (c:Int)=c:=λc hc=>H7 ((IA hk).2 ⟨nI _,by exact_mod_cast hc⟩)
 refine⟨?_,?_,?_⟩
 ·simp only[Es,BitVec.toNat_and,lf a ha,lf b hb,Rh];exact lB _ (zdb Nat.and_le_left ha)
 ·simp only[Es,BitVec.toNat_or,lf a ha,lf b hb,Rh];exact lB _ (Nat.or_lt_two_pow ha hb)
 ·simp only[Es,BitVec.toNat_xor,lf a ha,lf b hb,Rh];exact lB _ (Nat.xor_lt_two_pow ha hb)
theorem VY{k:IntKind}(hk:Pm k=true){x:Int}(hx:IJ k x){m:Nat}(hm:m<=JA k):Es .and k x (2^m-1)=x%2^m:=by
 have eg:=(IA hk).1 hx;have hp:(1:Int)<=2^m:=by exact_mod_cast Nat.one_le_two_pow
 have hle:(2:Int)^m<=2^JA k:=by exact_mod_cast T0 (by omega) hm
 rw[(NS hk hx ((IA hk).2 ⟨by omega,by omega⟩)).1];have:((2:Int)^m-1).toNat=2^m-1:=by
  have:(2:Int)^m=((2^m:Nat):Int):=by push_cast;rfl
  rw[this];omega
 rw[this,Nat.and_two_pow_sub_one_eq_mod];obtain⟨a,rfl⟩:=kC eg.1;simp
theorem Tt{k:IntKind}(hk:Pm k=true){x y:Int}(hx:IJ k x)(hy:IJ k y){m:Nat}(h:(2:Int)^m ∣ x)(bj:y<2^m):Es .or k x y=x+y/\Es .or k y x=x+y:=by
 have eg:=(IA hk).1 hx;have Mn:=(IA hk).1 hy;rw[(NS hk hx hy).2.1,(NS hk hy hx).2.1];obtain⟨c,rfl⟩:=h;have hp:(0:Int)<2^m:=by exact_mod_cast Nat.two_pow_pos m
 have hc:0<=c:=by
  rcases Int.lt_or_le c 0 with h|h
  ·have:=Int.mul_neg_of_pos_of_neg hp h;omega
  ·exact h
 obtain⟨n,rfl⟩:=kC hc;obtain⟨b,rfl⟩:=kC Mn.1;have e1:((2:Int)^m*(n:Int)).toNat=2^m*n:=by
  have:(2:Int)^m*(n:Int)=((2^m*n:Nat):Int):=by push_cast;rfl
  rw[this,Rh]
 have hb:b<2^m:=by exact_mod_cast bj
 have e2:=Nat.two_pow_add_eq_or_of_lt hb n;rw[e1,Rh];refine⟨?_,?_⟩
 ·rw[<- e2];push_cast;rfl
 ·rw[Nat.or_comm, <- e2];push_cast;rfl
end
section
open Go
structure AV where
 p:Fj
 lo:Int
 hi:Int
 tz:Nat
def AV.ok(ρ:Bu)(x:Int)(a:AV):Prop:=x=Er ρ a.p/\a.lo<=x/\x<=a.hi/\(2:Int)^a.tz ∣ x
inductive FK where
 |AN (c:Nat)
 |sE
 |B1
structure CS where
 vs:List (Nat×List AV)
 bs:List Nat
 mm:List (Nat×(X×X))
def RN(ρ:Bu)(s:CS):Prop:=
 (∀i ι,lk i s.vs=some ι->∀(k:Nat) (a:AV),ι[k]? = some a->a.ok ρ ((ρ i).getD k 0))/\OY ρ s.bs/\
  ∀n x y,lk n s.mm=some (x,y)->0<=x.den ρ/\0<=y.den ρ/\(ρ n).getD 0 0=x.den ρ*y.den ρ/18446744073709551616
def CS.x(s:CS):X->Option AV
 | .lit c=>some ⟨cK c,c,c,0⟩
 | .v i k=>match lk i s.vs with
  |some ι=>ι[k]?
  |none=>none
theorem CS.gk{ρ:Bu}{s:CS}(h:RN ρ s){x:X}{a:AV}(hx:s.x x=some a):a.ok ρ (x.den ρ):=by
 cases x with
 |lit c=>
  simp only[CS.x,Ai] at hx;subst hx;exact⟨(Rb ρ c).symm,gq _,gq _,by simp[X.den]⟩
 |v i k=>
  simp only[CS.x] at hx;split at hx
  ·rename_i ι hv;exact h.1 i ι hv k a hx
  ·cases hx
def AN4(p:Fj)(i k m:Nat):Fj:=match p with
 | [([t],.ofNat 1)]=>bif Nat.blt (t%128+m) 128 then Ir (t+m) else Ir (enc i k m)
 |_=>Ir (enc i k m)
theorem AIh{ρ:Bu}{i k m:Nat}{p:Fj}(hk:k<4096)(hm:m<128)(h:(ρ i).getD k 0=Er ρ p):Er ρ (AN4 p i k m)=(ρ i).getD k 0/2^m:=by
 unfold AN4;split
 ·rename_i t;cases hb:Nat.blt (t%128+m) 128 with
  |false=>rw[cond_false,Gc,αv_enc ρ hk hm]
  |true=>
   have hb:=Dh hb;rw[cond_true,Gc,h];have e:Er ρ [([t],Int.ofNat 1)]=αv ρ t:=Gc ρ t;rw[e];unfold αv;rw[show(t+m)/524288=t/524288 by omega,show(t+m)/128=t/128 by omega,show(t+m)%128=t%128+m by omega,Int.pow_add,Int.ediv_ediv_of_nonneg];have:(0:Int)<2^(t%128):=by exact_mod_cast Nat.two_pow_pos _
   omega
 ·rw[Gc,αv_enc ρ hk hm]
def AIN(x:X)(a:AV)(m:Nat):Option AV:=match x with
 | .lit c=>bif Nat.blt m 128 then some ⟨cK (c/2^m),c/2^m,c/2^m,0⟩ else none
 | .v i k=>bif Bl (2^m) a.hi || !(Bl 0 a.lo) then(bif Nat.blt k 4096&&Nat.blt m 128 then some ⟨AN4 a.p i k m,a.lo/2^m,a.hi/2^m,0⟩ else none) else some ⟨[],0,0,0⟩
theorem yV{ρ:Bu}{x:X}{a q:AV}{m:Nat}(ha:a.ok ρ (x.den ρ))(h:AIN x a m=some q):q.ok ρ (x.den ρ/2^m):=by
 have hp:(0:Int)<2^m:=by exact_mod_cast Nat.two_pow_pos m
 unfold AIN at h;split at h
 ·rename_i c;cases hb:Nat.blt m 128 with
  |false=>rw[hb] at h;cases h
  |true=>
   rw[hb,cond_true,Ai] at h;subst h;exact⟨(Rb ρ _).symm,gq _,gq _,by simp⟩
 ·rename_i i k;cases hb:(Bl (2^m) a.hi || !(Bl 0 a.lo)) with
  | true=>
   rw[hb,cond_true] at h;cases hc:(Nat.blt k 4096&&Nat.blt m 128) with
   |false=>rw[hc] at h;cases h
   |true=>
    rw[hc,cond_true,Ai] at h;subst h;simp only[Bj] at hc;refine⟨?_,Int.ediv_le_ediv hp ha.2.1,Int.ediv_le_ediv hp ha.2.2.1,by simp⟩;exact(AIh (Dh hc.1) (Dh hc.2) ha.1).symm
  | false=>
   rw[hb,cond_false,Ai] at h;subst h;rw[Bool.or_eq_false_iff,Bool.not_eq_false'] at hb;have h1:a.hi<2^m:=by
    rcases Int.lt_or_le a.hi (2^m) with h|h
    ·exact h
    ·have:=hb.1;have h2:=VD (a:=a.hi) (b:=2^m);cases h3:Bl a.hi (2^m) with
     | true=>
      have h4:=A8 h3;have:a.hi=2^m:=Int.le_antisymm h4 h;rw[this] at hb;have:Bl ((2:Int)^m) (2^m)=true:=by
       have:(2:Int)^m=((2^m:Nat):Int):=by push_cast;rfl
       rw[this];exact yu (Ie _)
      rw[this] at hb;cases hb.1
     | false=>
      exfalso;have h5:¬(2:Int)^m<=a.hi:=λhle=>by
       have:(2:Int)^m=((2^m:Nat):Int):=by push_cast;rfl
       rw[this] at hle hb;have h6:0<=a.hi:=Sd (nI _) hle;obtain⟨z,hz⟩:=kC h6;rw[hz] at hle hb;have:Bl ((2^m:Nat):Int) (z:Int)=true:=yu (by exact_mod_cast hle);rw[this] at hb;cases hb.1
      exact h5 h
   have h0:=A8 hb.2;have hz:X.den ρ (.v i k)/2^m=0:=Int.ediv_eq_zero_of_lt (Sd h0 ha.2.1) (Int.lt_of_le_of_lt ha.2.2.1 h1);rw[hz];exact⟨rfl,gq _,gq _,by simp⟩
def AFE(x:X)(a:AV)(m:Nat):Option AV:=match AIN x a m with
 |some q=>(match q.p with
  | []=>some ⟨a.p,a.lo,a.hi,a.tz⟩
  |_=>some ⟨DZ a.p (Cq (-(2^m:Nat)) q.p),0,(2^m:Nat)-1,0⟩)
 |none=>none
theorem ib{ρ:Bu}{x:X}{a q:AV}{m:Nat}(ha:a.ok ρ (x.den ρ))(h:AFE x a m=some q):q.ok ρ (x.den ρ%2^m):=by
 have hp:(0:Int)<2^m:=by exact_mod_cast Nat.two_pow_pos m
 have sX:((2^m:Nat):Int)=2^m:=by push_cast;rfl
 unfold AFE at h;split at h
 ·rename_i s hs;have HE:=yV ha hs;have hdm:=Int.mul_ediv_add_emod (x.den ρ) (2^m);split at h
  ·rename_i hq;simp only[Ai] at h;subst h;have:x.den ρ/2^m=0:=by rw[HE.1,hq];rfl
   rw[this,Int.mul_zero,zde] at hdm;rw[hdm];exact ha
  ·simp only[Ai] at h;subst h;refine⟨?_,Int.emod_nonneg _ (by omega),by rw[sX];have:=Int.emod_lt_of_pos (x.den ρ) hp;simp only;omega,by simp⟩;rw[Ci,Cf, <- ha.1, <- HE.1,sX,Int.neg_mul];omega
 ·cases h
def vR(c:Int):Option Nat:=match c with
 | .ofNat n=>bif Nat.beq (2^(Nat.log2 (n+1))) (n+1) then some (Nat.log2 (n+1)) else none
 |_=>none
theorem AAk{c:Int}{m:Nat}(h:vR c=some m):c=2^m-1:=by
 unfold vR at h;split at h
 ·rename_i n;cases hb:Nat.beq (2^(Nat.log2 (n+1))) (n+1) with
  |false=>rw[hb] at h;cases h
  |true=>
   rw[hb,cond_true,Ai] at h;subst h;have:=Ca hb;have h2:((2^(Nat.log2 (n+1)):Nat):Int)=((n+1:Nat):Int):=by rw[this]
   have h3:((2^(Nat.log2 (n+1)):Nat):Int)=(2:Int)^(Nat.log2 (n+1)):=by push_cast;rfl
   rw[<- h3,h2];show(n:Int)=_;omega
 ·cases h
def Qv(k:IntKind)(lo hi:Int):Bool:=Bl k.min lo&&Bl hi k.max
theorem Ju{k:IntKind}{lo hi x:Int}(h:Qv k lo hi=true)(h1:lo<=x)(h2:x<=hi):IJ k x:=by
 simp only[Qv,Bj] at h;exact⟨Sd (A8 h.1) h1,Sd h2 (A8 h.2)⟩
def AV.pe(p:Fj)(lo hi:Int):AV:=⟨p,lo,hi,0⟩
def AFo(κ:IntKind)(n:Nat):Option AV:=bif Pm κ then some (.pe (Ir (enc n 0 0)) 0 κ.max) else none
def ACF(bs:List Nat)(op:BinOp)(κ:IntKind)(x y:X)(a b:AV)(n:Nat):Option AV:=
 match op with
 | .add=>bif Qv κ (a.lo+b.lo) (a.hi+b.hi) then some (.pe (DZ a.p b.p) (a.lo+b.lo) (a.hi+b.hi)) else AFo κ n
 | .sub=>bif Qv κ (a.lo-b.hi) (a.hi-b.lo) then some (.pe (DZ a.p (Cq (-1) b.p)) (a.lo-b.hi) (a.hi-b.lo)) else AFo κ n
 | .mul=>bif Bl 0 a.lo&&Bl 0 b.lo&&Qv κ (a.lo*b.lo) (a.hi*b.hi) then some (.pe (Ub bs a.p b.p) (a.lo*b.lo) (a.hi*b.hi)) else AFo κ n
 | .and=>bif Pm κ&&Qv κ a.lo a.hi&&Qv κ b.lo b.hi then(match y with
  | .lit c=>(match vR c with
   |some m=>bif Nat.ble m (JA κ) then AFE x a m else none
   |none=>none)
  |_=>none) else none
 | .or=>bif Pm κ&&Qv κ a.lo a.hi&&Qv κ b.lo b.hi then
   (bif Bl b.hi (2^a.tz-1)&&Qv κ (a.lo+b.lo) (a.hi+b.hi) then some (.pe (DZ a.p b.p) (a.lo+b.lo) (a.hi+b.hi))
   else bif Bl a.hi (2^b.tz-1)&&Qv κ (a.lo+b.lo) (a.hi+b.hi) then some (.pe (DZ a.p b.p) (a.lo+b.lo) (a.hi+b.hi)) else none) else none
 | .shr=>(match y with
  | .lit (.ofNat m)=>bif Nat.blt m κ.bits then AIN x a m else none
  |_=>none)
 | .shl=>(match y with
  | .lit (.ofNat m)=>bif Pm κ&&Nat.ble m (JA κ)&&Bl 0 a.lo then(match AFE x a (JA κ-m) with
   |some r=>some ⟨Cq (2^m:Nat) r.p,(2^m:Nat)*r.lo,(2^m:Nat)*r.hi,m⟩
   |none=>none) else none
  |_=>none)
 | .eql | .neq | .lss | .leq | .gtr | .geq=>some (.pe (Ir (enc n 0 0)) 0 1)
 |_=>none
def ACZ (M:List (Nat×FK)) (s:CS) (n:Nat) (d:FT):Option (List AV×List Nat×List (Nat×(X×X))):=
 match d.op,d.args with
 | .bin op κ,[.xs [x],.xs [y]]=>(match s.x x,s.x y with
  |some a,some b=>(match ACF s.bs op κ x y a b n with
   |some r=>some ([r],bif SX op then[enc n 0 0] else[],[])
   |none=>none)
  |_,_=>none)
 | .conv κ,[.xs [x]]=>(match s.x x with
  | some a=>bif Qv κ a.lo a.hi then some ([⟨a.p,a.lo,a.hi,a.tz⟩],[],[])
   else bif Pm κ&&Bl 0 a.lo then(match AFE x a (JA κ) with
    |some r=>some ([r],[],[])
    |none=>none) else none
  |none=>none)
 | .qq,[.xs [x],.xs [y],.xs [z]]=>(match s.x x,s.x y,s.x z with
  | some a,some b,some c=>
   bif Bl 0 a.lo&&Bl 0 b.lo&&Bl 0 c.lo&&Bl c.hi 1&&Qv .u64 a.lo a.hi&&Qv .u64 b.lo b.hi then
    let S:=DZ (DZ a.p b.p) c.p
    bif Bl (a.hi+b.hi+c.hi) 18446744073709551615 then some ([.pe S (a.lo+b.lo+c.lo) (a.hi+b.hi+c.hi),.pe [] 0 0],[],[])
    else bif Ol 18446744073709551616 S then some ([.pe [] 0 0,.pe (AAq 18446744073709551616 S) 0 1],[],[])
    else some ([.pe (DZ S (Cq (-18446744073709551616) (Ir (enc n 1 0)))) 0 18446744073709551615,.pe (Ir (enc n 1 0)) 0 1],[enc n 1 0],[])
   else none
  |_,_,_=>none)
 | .pZ,[.xs [x],.xs [y],.xs [z]]=>(match s.x x,s.x y,s.x z with
  | some a,some b,some c=>
   bif Bl 0 a.lo&&Bl 0 b.lo&&Bl 0 c.lo&&Bl c.hi 1&&Qv .u64 a.lo a.hi&&Qv .u64 b.lo b.hi then
    some ([.pe (DZ (DZ a.p (Cq (-1) (DZ b.p c.p))) (Cq 18446744073709551616 (Ir (enc n 1 0)))) 0 18446744073709551615,.pe (Ir (enc n 1 0)) 0 1],[enc n 1 0],[])
   else none
  |_,_,_=>none)
 | .fn f true o,as=>(match lk f M with
  | some (.AN c)=>(match o,as with
   |0,[.xs [x]]=>(match s.x x with
    |some a=>bif Bl 0 a.lo&&Qv .u64 a.lo a.hi&&Qv .u64 (c*a.lo) (c*a.hi) then some ([.pe (Cq c a.p) (c*a.lo) (c*a.hi)],[],[]) else none
    |none=>none)
   |_,_=>none)
  | some .sE=>(match as with
   | [.xs [x],.xs [y]]=>(match s.x x,s.x y with
    | some a,some b=>bif Bl 0 a.lo&&Bl 0 b.lo&&Qv .u64 a.lo a.hi&&Qv .u64 b.lo b.hi then(match o with
     |0=>some ([.pe (Ir (enc n 0 0)) (a.lo*b.lo/18446744073709551616) (a.hi*b.hi/18446744073709551616)],[],[(n,(x,y))])
     |1=>bif Bl (a.hi*b.hi) 18446744073709551615 then some ([.pe (Ub s.bs a.p b.p) (a.lo*b.lo) (a.hi*b.hi)],[],[])
      else(match lk (n-1) s.mm with
      |some (x',y')=>bif x.beq x'&&y.beq y' then some ([.pe (DZ (Ub s.bs a.p b.p) (Cq (-18446744073709551616) (Ir (enc (n-1) 0 0)))) 0 18446744073709551615],[],[]) else none
      |none=>none)
     |_=>none) else none
    |_,_=>none)
   |_=>none)
  | some .B1=>(match o,as with
   |0,[_,.xs [c],.xs [z],.xs [y]]=>(match s.x c,s.x z,s.x y with
    |some c,some a,some b=>bif Bl 0 c.lo&&Bl c.hi 1&&Qv .u64 a.lo a.hi&&Qv .u64 b.lo b.hi then some ([.pe (DZ a.p (Ub s.bs c.p (DZ b.p (Cq (-1) a.p)))) (AII a.lo b.lo) (AH4 a.hi b.hi)],[],[]) else none
    |_,_,_=>none)
   |_,_=>none)
  |none=>none)
 |_,_=>none
end
section
open Go
def tC(T:Tb)(f:Nat):FK->Prop
 | .AN c=>∀x,IJ .u64 x->NR.den T (.fn f true 0) [[x]]= [IntKind.u64.wrap (c*x)]
 | .sE=>∀x y,IJ .u64 x->IJ .u64 y->NR.den T (.fn f true 0) [[x],[y]]= [x*y/18446744073709551616]/\NR.den T (.fn f true 1) [[x],[y]]= [x*y%18446744073709551616]
 | .B1=>∀o c z y,c=0\/c=1->IJ .u64 z->IJ .u64 y->NR.den T (.fn f true 0) [o,[c],[z],[y]]= [if c=0 then z else y]
def aP(T:Tb)(M:List (Nat×FK)):Prop:=∀f κ,lk f M=some κ->tC T f κ
theorem W9(x:Int):d1 [x]=x:=rfl
theorem Iz{ρ:Bu}{x:Int}{p:Fj}{lo hi:Int}(h1:x=Er ρ p)(h2:lo<=x)(h3:x<=hi):(AV.pe p lo hi).ok ρ x:=⟨h1,h2,h3,by simp[AV.pe]⟩
theorem ACu{ρ:Bu}{bs:List Nat}(ph:OY ρ bs){op:BinOp}{κ:IntKind}{x y:X}{a b r:AV}{n:Nat}(ha:a.ok ρ (x.den ρ))(hb:b.ok ρ (y.den ρ))(hn:(ρ n).getD 0 0=Ak op κ (x.den ρ) (y.den ρ))(h:ACF bs op κ x y a b n=some r):
  r.ok ρ (Ak op κ (x.den ρ) (y.den ρ)):=by
 have CA:∀q:Bool,Ak op κ (x.den ρ) (y.den ρ)=KQ q->some (AV.pe (Ir (enc n 0 0)) 0 1)=some r->r.ok ρ (Ak op κ (x.den ρ) (y.den ρ)):=λq hq hr=>by
  simp only[Ai] at hr;subst hr;refine Iz ?_ ?_ ?_
  ·rw[Gc,αv_enc0 ρ (by omega),hn]
  ·rw[hq];cases q<;>simp[KQ]
  ·rw[hq];cases q<;>simp[KQ]
 have aai:∀z:Int,Ak op κ (x.den ρ) (y.den ρ)=κ.wrap z->AFo κ n=some r->r.ok ρ (Ak op κ (x.den ρ) (y.den ρ)):=λz hz hr=>by
  unfold AFo at hr;cases hu:Pm κ with
  |false=>rw[hu] at hr;cases hr
  |true=>
   rw[hu,cond_true,Ai] at hr;subst hr;have hw:=TY κ z;rw[<- hz] at hw;exact Iz (by rw[Gc,αv_enc0 ρ (by omega),hn]) ((IA hu).1 hw).1 hw.2
 cases op<;>simp only[ACF,reduceCtorEq] at h
 case add=>
  cases hc:Qv κ (a.lo+b.lo) (a.hi+b.hi) with
  |false=>rw[hc] at h;exact aai _ rfl h
  |true=>
   rw[hc,cond_true,Ai] at h;subst h;have h1:a.lo+b.lo<=x.den ρ+y.den ρ:=Int.add_le_add ha.2.1 hb.2.1;have h2:x.den ρ+y.den ρ<=a.hi+b.hi:=Int.add_le_add ha.2.2.1 hb.2.2.1;simp only[Ak];rw[H7 (Ju hc h1 h2)];exact Iz (by rw[Ci, <- ha.1, <- hb.1]) h1 h2
 case sub=>
  cases hc:Qv κ (a.lo-b.hi) (a.hi-b.lo) with
  |false=>rw[hc] at h;exact aai _ rfl h
  |true=>
   rw[hc,cond_true,Ai] at h;subst h;have h1:a.lo-b.hi<=x.den ρ-y.den ρ:=Int.sub_le_sub ha.2.1 hb.2.2.1;have h2:x.den ρ-y.den ρ<=a.hi-b.lo:=Int.sub_le_sub ha.2.2.1 hb.2.1;simp only[Ak];rw[H7 (Ju hc h1 h2)];exact Iz (by rw[Ci,Cf, <- ha.1, <- hb.1];omega) h1 h2
 case mul=>
  cases hc:(Bl 0 a.lo&&Bl 0 b.lo&&Qv κ (a.lo*b.lo) (a.hi*b.hi)) with
  |false=>rw[hc] at h;exact aai _ rfl h
  |true=>
   rw[hc,cond_true,Ai] at h;subst h;simp only[Bj] at hc;have p1:=A8 hc.1.1;have p2:=A8 hc.1.2;have h1:a.lo*b.lo<=x.den ρ*y.den ρ:=Int.mul_le_mul ha.2.1 hb.2.1 p2 (Sd p1 ha.2.1);have h2:x.den ρ*y.den ρ<=a.hi*b.hi:=Int.mul_le_mul ha.2.2.1 hb.2.2.1 (Sd p2 hb.2.1) (Sd (Sd p1 ha.2.1) ha.2.2.1);simp only[Ak];rw[H7 (Ju hc.2 h1 h2)];exact Iz (by rw[UG ph, <- ha.1, <- hb.1]) h1 h2
 case and=>
  cases hc:(Pm κ&&Qv κ a.lo a.hi&&Qv κ b.lo b.hi) with
  |false=>rw[hc] at h;cases h
  | true=>
   rw[hc,cond_true] at h;simp only[Bj] at hc;split at h
   ·rename_i c;split at h
    ·rename_i m hm;cases hle:Nat.ble m (JA κ) with
     |false=>rw[hle] at h;cases h
     |true=>
      rw[hle,cond_true] at h;have hx:=Ju hc.1.2 ha.2.1 ha.2.2.1;simp only[Ak,X.bc];rw[AAk hm,VY hc.1.1 hx (Kv hle)];exact ib ha h
    ·cases h
   ·cases h
 case or=>
  cases hc:(Pm κ&&Qv κ a.lo a.hi&&Qv κ b.lo b.hi) with
  |false=>rw[hc] at h;cases h
  | true=>
   rw[hc,cond_true] at h;simp only[Bj] at hc;have hx:=Ju hc.1.2 ha.2.1 ha.2.2.1;have hy:=Ju hc.2 hb.2.1 hb.2.2.1;have h1:a.lo+b.lo<=x.den ρ+y.den ρ:=Int.add_le_add ha.2.1 hb.2.1;have h2:x.den ρ+y.den ρ<=a.hi+b.hi:=Int.add_le_add ha.2.2.1 hb.2.2.1;have fin:Ak .or κ (x.den ρ) (y.den ρ)=x.den ρ+y.den ρ->some (AV.pe (DZ a.p b.p) (a.lo+b.lo) (a.hi+b.hi))=some r->r.ok ρ (Ak .or κ (x.den ρ) (y.den ρ)):=λe hr=>by
    simp only[Ai] at hr;subst hr;rw[e];exact Iz (by rw[Ci, <- ha.1, <- hb.1]) h1 h2
   cases hd:(Bl b.hi (2^a.tz-1)&&Qv κ (a.lo+b.lo) (a.hi+b.hi)) with
   |true=>
    rw[hd,cond_true] at h;simp only[Bj] at hd;have:=A8 hd.1;exact fin (Tt hc.1.1 hx hy ha.2.2.2 (by have:=hb.2.2.1;omega)).1 h
   | false=>
    rw[hd,cond_false] at h;cases he:(Bl a.hi (2^b.tz-1)&&Qv κ (a.lo+b.lo) (a.hi+b.hi)) with
    |false=>rw[he] at h;cases h
    |true=>
     rw[he,cond_true] at h;simp only[Bj] at he;have:=A8 he.1;refine fin ?_ h;have:=(Tt hc.1.1 hy hx hb.2.2.2 (by have:=ha.2.2.1;omega)).2;rw[Int.add_comm];exact this
 case shr=>
  split at h
  ·rename_i m;cases hm:Nat.blt m κ.bits with
   |false=>rw[hm] at h;cases h
   | true=>
    rw[hm,cond_true] at h;have bj:=Dh hm;have aal:min (X.den ρ (.lit (Int.ofNat m))).toNat κ.bits=m:=by
     show min ((m:Int)).toNat κ.bits=m;rw[Rh];omega
    simp only[Ak];rw[aal,Int.fdiv_eq_ediv_of_nonneg _ (by exact_mod_cast Nat.zero_le (2^m))];exact yV ha h
  ·cases h
 case shl=>
  split at h
  ·rename_i m;cases hm:(Pm κ&&Nat.ble m (JA κ)&&Bl 0 a.lo) with
   |false=>rw[hm] at h;cases h
   | true=>
    rw[hm,cond_true] at h;simp only[Bj] at hm;have hle:=Kv hm.1.2;split at h
    ·rename_i r' hr;simp only[Ai] at h;subst h;have cG:=ib ha hr;have aal:min (X.den ρ (.lit (Int.ofNat m))).toNat κ.bits=m:=by
      show min ((m:Int)).toNat κ.bits=m;rw[Rh,mR hm.1.1];omega
     have sX:((2^m:Nat):Int)=2^m:=by push_cast;rfl
     have hp:(0:Int)<2^m:=by exact_mod_cast Nat.two_pow_pos m
     have key:Ak .shl κ (x.den ρ) (X.den ρ (.lit (Int.ofNat m)))=2^m*(x.den ρ%2^(JA κ-m)):=by
      simp only[Ak];rw[aal,JZ hm.1.1];have:(2:Int)^JA κ=2^m*2^(JA κ-m):=by rw[<- Int.pow_add];congr 1;omega
      rw[this,bf (x.den ρ),Int.mul_emod_mul_of_pos _ _ hp]
     rw[key];refine⟨?_,?_,?_,⟨_,rfl⟩⟩
     ·rw[Cf, <- cG.1,sX]
     ·rw[sX];exact Int.mul_le_mul_of_nonneg_left cG.2.1 (by omega)
     ·rw[sX];exact Int.mul_le_mul_of_nonneg_left cG.2.2.1 (by omega)
    ·cases h
  ·cases h
 case eql=>exact CA _ rfl h
 case neq=>exact CA _ rfl h
 case lss=>exact CA _ rfl h
 case leq=>exact CA _ rfl h
 case gtr=>exact CA _ rfl h
 case geq=>exact CA _ rfl h
theorem AR6{op:BinOp}{κ:IntKind}{x y:Int}(h:SX op=true):Ak op κ x y=0\/Ak op κ x y=1:=by
 have:∀q:Bool,KQ q=0\/KQ q=1:=λq=>by cases q<;>simp[KQ]
 cases op<;>first|exact absurd h (by decide)|exact this _
theorem P7{a r:AV}{k:Nat}(h: [r][k]? = some a):k=0/\a=r:=by
 cases k with
 |zero=>simp at h;exact⟨rfl,h.symm⟩
 |succ k=>simp at h
theorem Yx{a r q:AV}{k:Nat}(h: [r,q][k]? = some a):(k=0/\a=r)\/(k=1/\a=q):=by
 cases k with
 |zero=>simp at h;exact .inl ⟨rfl,h.symm⟩
 |succ k=>cases k with
  |zero=>simp at h;exact .inr ⟨rfl,h.symm⟩
  |succ k=>simp at h
theorem OY.nil(ρ:Bu):OY ρ []:=λa h=>by simp[Dz] at h
theorem OY.one{ρ:Bu}{a:Nat}(h:αv ρ a=0\/αv ρ a=1):OY ρ [a]:=λb hb=>by
 simp only[Dz,Bool.or_false] at hb;have:=Ca hb;subst this;exact h
theorem AEq {T:Tb} {M:List (Nat×FK)} (hM:aP T M) {ρ:Bu} {s:CS} (hs:RN ρ s) {n:Nat} {d:FT} (hn:ρ n=d.den T ρ) {ι:List AV} {nb:List Nat} {nm:List (Nat×(X×X))} (h:ACZ M s n d=some (ι,nb,nm)):
  (∀(k:Nat) (a:AV),ι[k]? = some a->a.ok ρ ((ρ n).getD k 0))/\OY ρ nb/\∀m x y,lk m nm=some (x,y)->0<=x.den ρ/\0<=y.den ρ/\(ρ m).getD 0 0=x.den ρ*y.den ρ/18446744073709551616:=by
 have qu:∀m x y,lk m ([]:List (Nat×(X×X)))=some (x,y)->0<=x.den ρ/\0<=y.den ρ/\(ρ m).getD 0 0=x.den ρ*y.den ρ/18446744073709551616:=λm x y h=>by simp[lk] at h
 obtain⟨op,args⟩:=d;unfold ACZ at h;simp only at h;split at h
 ·rename_i op κ x y;split at h
  ·rename_i a b hx hy;split at h
   ·rename_i r hr;simp only[Ai,Prod.mk.injEq] at h;obtain⟨rfl,rfl,rfl⟩:=h;have hv:(ρ n).getD 0 0=Ak op κ (x.den ρ) (y.den ρ):=by
     rw[hn];rfl
    have eM:=ACu hs.2.1 (CS.gk hs hx) (CS.gk hs hy) hv hr;refine⟨λk a' ha=>?_,?_,qu⟩
    ·obtain⟨rfl,rfl⟩:=P7 ha;rw[hv];exact eM
    ·cases hc:SX op with
     |false=>exact OY.nil _
     |true=>
      refine OY.one ?_;rw[αv_enc0 ρ (by omega),hv];exact AR6 hc
   ·cases h
  ·cases h
 ·rename_i κ x;have hv:(ρ n).getD 0 0=κ.wrap (x.den ρ):=by rw[hn];rfl
  split at h
  ·rename_i a hx;have ha:=CS.gk hs hx;cases hb:Qv κ a.lo a.hi with
   |true=>
    rw[hb,cond_true] at h;simp only[Ai,Prod.mk.injEq] at h;obtain⟨rfl,rfl,rfl⟩:=h;refine⟨λk a' oA=>?_,OY.nil _,qu⟩;obtain⟨rfl,rfl⟩:=P7 oA;rw[hv,H7 (Ju hb ha.2.1 ha.2.2.1)];exact ha
   | false=>
    rw[hb,cond_false] at h;cases hc:(Pm κ&&Bl 0 a.lo) with
    |false=>rw[hc] at h;cases h
    | true=>
     rw[hc,cond_true] at h;simp only[Bj] at hc;split at h
     ·rename_i r hr;simp only[Ai,Prod.mk.injEq] at h;obtain⟨rfl,rfl,rfl⟩:=h;refine⟨λk a' oA=>?_,OY.nil _,qu⟩;obtain⟨rfl,rfl⟩:=P7 oA;rw[hv,JZ hc.1];exact ib ha hr
     ·cases h
  ·cases h
 ·rename_i x y z;split at h
  ·rename_i a b c hx hy hz;have ha:=CS.gk hs hx;have hb:=CS.gk hs hy;have hc:=CS.gk hs hz;cases hg:(Bl 0 a.lo&&Bl 0 b.lo&&Bl 0 c.lo&&Bl c.hi 1&&Qv .u64 a.lo a.hi&&Qv .u64 b.lo b.hi) with
   |false=>rw[hg] at h;cases h
   |true=>
   rw[hg,cond_true] at h;simp only[Bj] at hg;obtain⟨⟨⟨⟨⟨g1,g2⟩,g3⟩,g4⟩,g5⟩,g6⟩:=hg;have ra:=Ju g5 ha.2.1 ha.2.2.1;have rb:=Ju g6 hb.2.1 hb.2.2.1;have ra2:x.den ρ<=18446744073709551615:=ra.2;have rb2:y.den ρ<=18446744073709551615:=rb.2;have ra1:0<=x.den ρ:=ra.1;have rb1:0<=y.den ρ:=rb.1;have rc1:0<=z.den ρ:=Sd (A8 g3) hc.2.1;have rc2:z.den ρ<=1:=Sd hc.2.2.1 (A8 g4);have hS:x.den ρ+y.den ρ+z.den ρ=Er ρ (DZ (DZ a.p b.p) c.p):=by rw[Ci,Ci, <- ha.1, <- hb.1, <- hc.1]
   have v0:(ρ n).getD 0 0=(x.den ρ+y.den ρ+z.den ρ)%18446744073709551616:=by rw[hn];rfl
   have v1:(ρ n).getD 1 0=if x.den ρ+y.den ρ+z.den ρ<18446744073709551616 then 0 else 1:=by rw[hn];rfl
   cases h1:Bl (a.hi+b.hi+c.hi) 18446744073709551615 with
   | true=>
    rw[h1,cond_true] at h;simp only[Ai,Prod.mk.injEq] at h;obtain⟨rfl,rfl,rfl⟩:=h;have h2:=A8 h1;have h3:x.den ρ+y.den ρ+z.den ρ<=a.hi+b.hi+c.hi:=Int.add_le_add (Int.add_le_add ha.2.2.1 hb.2.2.1) hc.2.2.1;refine⟨λk a' oA=>?_,OY.nil _,qu⟩;rcases Yx oA with⟨rfl,rfl⟩|⟨rfl,rfl⟩
    ·rw[v0,uu (by omega) (by omega)];exact Iz hS (Int.add_le_add (Int.add_le_add ha.2.1 hb.2.1) hc.2.1) h3
    ·rw[v1,if_pos (by omega)];exact Iz rfl (gq _) (gq _)
   |false=>
   rw[h1,cond_false] at h;cases h2:Ol 18446744073709551616 (DZ (DZ a.p b.p) c.p) with
   | true=>
    rw[h2,cond_true] at h;simp only[Ai,Prod.mk.injEq] at h;obtain⟨rfl,rfl,rfl⟩:=h;have hd:=iy ρ _ _ h2;rw[<- hS] at hd;have pL:x.den ρ+y.den ρ+z.den ρ=18446744073709551616*Er ρ (AAq 18446744073709551616 (DZ (DZ a.p b.p) c.p)):=hd;refine⟨λk a' oA=>?_,OY.nil _,qu⟩;rcases Yx oA with⟨rfl,rfl⟩|⟨rfl,rfl⟩
    ·rw[v0,pL,Int.mul_emod_right];exact Iz rfl (gq _) (gq _)
    ·rw[v1];refine Iz ?_ ?_ ?_
     ·split<;>omega
     ·split<;>omega
     ·split<;>omega
   | false=>
    rw[h2,cond_false] at h;simp only[Ai,Prod.mk.injEq] at h;obtain⟨rfl,rfl,rfl⟩:=h;refine⟨λk a' oA=>?_,OY.one ?_,qu⟩
    ·rcases Yx oA with⟨rfl,rfl⟩|⟨rfl,rfl⟩
     ·refine Iz ?_ ?_ ?_
      ·rw[Ci,Cf,Gc,αv_enc0 ρ (by omega),v0,v1, <- hS];split<;>omega
      ·rw[v0];omega
      ·rw[v0];omega
     ·refine Iz ?_ ?_ ?_
      ·rw[Gc,αv_enc0 ρ (by omega)]
      ·rw[v1];split<;>omega
      ·rw[v1];split<;>omega
    ·rw[αv_enc0 ρ (by omega),v1];split<;>simp
  ·cases h
 ·rename_i x y z;split at h
  ·rename_i a b c hx hy hz;have ha:=CS.gk hs hx;have hb:=CS.gk hs hy;have hc:=CS.gk hs hz;cases hg:(Bl 0 a.lo&&Bl 0 b.lo&&Bl 0 c.lo&&Bl c.hi 1&&Qv .u64 a.lo a.hi&&Qv .u64 b.lo b.hi) with
   |false=>rw[hg] at h;cases h
   |true=>
   rw[hg,cond_true] at h;simp only[Bj] at hg;obtain⟨⟨⟨⟨⟨g1,g2⟩,g3⟩,g4⟩,g5⟩,g6⟩:=hg;have ra:=Ju g5 ha.2.1 ha.2.2.1;have rb:=Ju g6 hb.2.1 hb.2.2.1;have ra2:x.den ρ<=18446744073709551615:=ra.2;have rb2:y.den ρ<=18446744073709551615:=rb.2;have ra1:0<=x.den ρ:=ra.1;have rb1:0<=y.den ρ:=rb.1;have rc1:0<=z.den ρ:=Sd (A8 g3) hc.2.1;have rc2:z.den ρ<=1:=Sd hc.2.2.1 (A8 g4);have v0:(ρ n).getD 0 0=(x.den ρ+18446744073709551616-y.den ρ-z.den ρ)%18446744073709551616:=by rw[hn];rfl
   have v1:(ρ n).getD 1 0=if x.den ρ<y.den ρ+z.den ρ then 1 else 0:=by rw[hn];rfl
   simp only[Ai,Prod.mk.injEq] at h;obtain⟨rfl,rfl,rfl⟩:=h;refine⟨λk a' oA=>?_,OY.one ?_,qu⟩
   ·rcases Yx oA with⟨rfl,rfl⟩|⟨rfl,rfl⟩
    ·refine Iz ?_ ?_ ?_
     ·rw[Ci,Ci,Cf,Cf,Ci,Gc,αv_enc0 ρ (by omega),v0,v1, <- ha.1, <- hb.1, <- hc.1];split<;>omega
     ·rw[v0];omega
     ·rw[v0];omega
    ·refine Iz ?_ ?_ ?_
     ·rw[Gc,αv_enc0 ρ (by omega)]
     ·rw[v1];split<;>omega
     ·rw[v1];split<;>omega
   ·rw[αv_enc0 ρ (by omega),v1];split<;>simp
  ·cases h
 ·skip
  rename_i f o;split at h
  ·rename_i c hf;have hk:tC T f (.AN c):=hM f _ hf;split at h
   ·rename_i x;split at h
    ·rename_i a hx;have ha:=CS.gk hs hx;cases hg:(Bl 0 a.lo&&Qv .u64 a.lo a.hi&&Qv .u64 (c*a.lo) (c*a.hi)) with
     |false=>rw[hg] at h;cases h
     |true=>
     rw[hg,cond_true] at h;simp only[Bj] at hg;simp only[Ai,Prod.mk.injEq] at h;obtain⟨rfl,rfl,rfl⟩:=h;have ra:=Ju hg.1.2 ha.2.1 ha.2.2.1;have h1:(c:Int)*a.lo<=c*x.den ρ:=Int.mul_le_mul_of_nonneg_left ha.2.1 (nI _);have h2:(c:Int)*x.den ρ<=c*a.hi:=Int.mul_le_mul_of_nonneg_left ha.2.2.1 (nI _);have v0:(ρ n).getD 0 0=c*x.den ρ:=by
      rw[hn];have:=hk (x.den ρ) ra;show(NR.den T (.fn f true 0) [[x.den ρ]]).getD 0 0=_;rw[this,Qx,H7 (Ju hg.2 h1 h2)]
     refine⟨λk a' oA=>?_,OY.nil _,qu⟩;obtain⟨rfl,rfl⟩:=P7 oA;rw[v0];exact Iz (by rw[Cf, <- ha.1]) h1 h2
    ·cases h
   ·cases h
  ·rename_i hf;have hk:tC T f .sE:=hM f _ hf;split at h
   ·rename_i x y;split at h
    ·rename_i a b hx hy;have ha:=CS.gk hs hx;have hb:=CS.gk hs hy;cases hg:(Bl 0 a.lo&&Bl 0 b.lo&&Qv .u64 a.lo a.hi&&Qv .u64 b.lo b.hi) with
     |false=>rw[hg] at h;cases h
     |true=>
     rw[hg,cond_true] at h;simp only[Bj] at hg;have p1:=A8 hg.1.1.1;have p2:=A8 hg.1.1.2;have ra:=Ju hg.1.2 ha.2.1 ha.2.2.1;have rb:=Ju hg.2 hb.2.1 hb.2.2.1;have x0:0<=x.den ρ:=Sd p1 ha.2.1;have y0:0<=y.den ρ:=Sd p2 hb.2.1;have h1:a.lo*b.lo<=x.den ρ*y.den ρ:=Int.mul_le_mul ha.2.1 hb.2.1 p2 x0;have h2:x.den ρ*y.den ρ<=a.hi*b.hi:=Int.mul_le_mul ha.2.2.1 hb.2.2.1 y0 (Sd x0 ha.2.2.1);obtain⟨k0,k1⟩:=hk _ _ ra rb;have xy0:0<=x.den ρ*y.den ρ:=Int.mul_nonneg x0 y0;split at h
     ·simp only[Ai,Prod.mk.injEq] at h;obtain⟨rfl,rfl,rfl⟩:=h;have v0:(ρ n).getD 0 0=x.den ρ*y.den ρ/18446744073709551616:=by
       rw[hn];show(NR.den T (.fn f true 0) [[x.den ρ],[y.den ρ]]).getD 0 0=_;rw[k0];rfl
      refine⟨λk a' oA=>?_,OY.nil _,λm x' y' hm=>?_⟩
      ·obtain⟨rfl,rfl⟩:=P7 oA;refine Iz ?_ ?_ ?_
       ·rw[Gc,αv_enc0 ρ (by omega)]
       ·rw[v0];exact Int.ediv_le_ediv (by omega) h1
       ·rw[v0];exact Int.ediv_le_ediv (by omega) h2
      ·simp only[lk] at hm;cases hbm:Nat.beq n m with
       |false=>rw[hbm] at hm;cases hm
       |true=>
        rw[hbm,cond_true,Ai,Prod.mk.injEq] at hm;obtain⟨rfl,rfl⟩:=hm;have:=Ca hbm;subst this;exact⟨x0,y0,v0⟩
     ·have v0:(ρ n).getD 0 0=x.den ρ*y.den ρ%18446744073709551616:=by
       rw[hn];show(NR.den T (.fn f true 1) [[x.den ρ],[y.den ρ]]).getD 0 0=_;rw[k1];rfl
      cases hc:Bl (a.hi*b.hi) 18446744073709551615 with
      |true=>
       rw[hc,cond_true] at h;simp only[Ai,Prod.mk.injEq] at h;obtain⟨rfl,rfl,rfl⟩:=h;have:=A8 hc;refine⟨λk a' oA=>?_,OY.nil _,qu⟩;obtain⟨rfl,rfl⟩:=P7 oA;rw[v0,uu xy0 (by omega)];exact Iz (by rw[UG hs.2.1, <- ha.1, <- hb.1]) h1 h2
      | false=>
       rw[hc,cond_false] at h;split at h
       ·rename_i x' y' hmm;cases hq:(x.beq x'&&y.beq y') with
        |false=>rw[hq] at h;cases h
        |true=>
         rw[hq,cond_true] at h;simp only[Bj] at hq;have e1:=X.beq_eq hq.1;have e2:=X.beq_eq hq.2;subst e1;subst e2;simp only[Ai,Prod.mk.injEq] at h;obtain⟨rfl,rfl,rfl⟩:=h;obtain⟨-, -,q3⟩:=hs.2.2 _ _ _ hmm;refine⟨λk a' oA=>?_,OY.nil _,qu⟩;obtain⟨rfl,rfl⟩:=P7 oA;rw[v0];refine Iz ?_ (by omega) (by omega);rw[Ci,Cf,Gc,αv_enc0 ρ (by omega),q3,UG hs.2.1, <- ha.1, <- hb.1];omega
       ·cases h
     ·cases h
    ·cases h
   ·cases h
  ·rename_i hf;have hk:tC T f .B1:=hM f _ hf;split at h
   ·rename_i dc c z y;split at h
    ·rename_i c' a b hc hz hy;have j8:=CS.gk hs hc;have ha:=CS.gk hs hz;have hb:=CS.gk hs hy;cases hg:(Bl 0 c'.lo&&Bl c'.hi 1&&Qv .u64 a.lo a.hi&&Qv .u64 b.lo b.hi) with
     |false=>rw[hg] at h;cases h
     |true=>
     rw[hg,cond_true] at h;simp only[Bj] at hg;simp only[Ai,Prod.mk.injEq] at h;obtain⟨rfl,rfl,rfl⟩:=h;have c1:=Sd (A8 hg.1.1.1) j8.2.1;have c2:=Sd j8.2.2.1 (A8 hg.1.1.2);have ux:c.den ρ=0\/c.den ρ=1:=by omega
     have v0:(ρ n).getD 0 0=if c.den ρ=0 then z.den ρ else y.den ρ:=by
      rw[hn];have:=hk (dc.den ρ) (c.den ρ) (z.den ρ) (y.den ρ) ux (Ju hg.1.2 ha.2.1 ha.2.2.1) (Ju hg.2 hb.2.1 hb.2.2.1);show(NR.den T (.fn f true 0) [dc.den ρ,[c.den ρ],[z.den ρ],[y.den ρ]]).getD 0 0=_;rw[this];rfl
     obtain⟨m1,m2⟩:=AGF a.lo b.lo;obtain⟨m3,m4⟩:=AGW a.hi b.hi;refine⟨λk a' oA=>?_,OY.nil _,qu⟩;obtain⟨rfl,rfl⟩:=P7 oA;rw[v0];refine Iz ?_ ?_ ?_
     ·rw[Ci,UG hs.2.1,Ci,Cf, <- j8.1, <- ha.1, <- hb.1];rcases ux with e|e<;>simp only[e]<;>simp<;>omega
     ·have:=ha.2.1;have:=hb.2.1;split<;>omega
     ·have:=ha.2.2.1;have:=hb.2.2.1;split<;>omega
    ·cases h
   ·cases h
  ·cases h
 ·cases h
end
section
open Go
def lC:Nat->List (Nat×FT)->Nat
 |lo,[]=>lo
 |_,(n,_)::r=>lC (n+1) r
theorem Zj{hi:Nat}:∀ {ds:List (Nat×FT)} {lo:Nat},FL lo hi ds=true->lo<=lC lo ds
 | [],lo,_=>Ie _
 |(n,d)::r,lo,h=>by
  simp only[FL,Bj] at h;have:=Kv h.1.1.1;have:=Zj h.2;simp only[lC];omega
theorem Wt(T:Tb){hi:Nat}:∀ {ds:List (Nat×FT)} {lo:Nat} (ρ:Bu),FL lo hi ds=true->Im lo ρ (Df T ρ ds)/\Vg T (Df T ρ ds) ds
 | [],_,ρ,_=>⟨Im.refl _ _,λp hp=>by cases hp⟩
 | (n,d)::r,lo,ρ,h=>by
  simp only[FL,Bj] at h;have h1:=Kv h.1.1.1;obtain⟨g1,g2⟩:=Wt T (λi=>if i=n then d.den T ρ else ρ i) h.2;have ha:Im n ρ (Df T ρ ((n,d)::r)):=λi hi=>by
   show Df T _ r i=_;rw[g1 i (by omega)];simp;intro e;omega
  refine⟨λi hi=>ha i (by omega),λp hp=>?_⟩;rcases G9.1 hp with rfl|hp
  ·show Df T _ r n=_;rw[g1 n (by omega),FT.cg ha h.1.2];simp
  ·exact g2 p hp
theorem QJ(T:Tb):∀(a b:List (Nat×FT)) (ρ:Bu),Df T ρ (a++b)=Df T (Df T ρ a) b
 | [],_b,_ρ=>rfl
 |(_n,_d)::a,b,_ρ=>QJ T a b _
def mf:Be->Option (List (Nat×FT)×List I1×Ex×St)
 | .leaf e st=>some ([],[],e,st)
 | .ep ds ob t=>(match mf t with
  |some (ds',ob',e,st)=>some (ds++ds',ob++ob',e,st)
  |none=>none)
 |_=>none
def OO:Nat->Be->Bool
 |_,.leaf _ _=>true
 |lo,.ep ds ob t=>FL lo (lC lo ds) ds&&I6 (lC lo ds) ob&&OO (lC lo ds) t
 |_,_=>false
theorem Rc{T:Tb}:∀ {t:Be} {lo:Nat} {ρ:Bu} {ds:List (Nat×FT)} {ob:List I1} {e:Ex} {st:St},OO lo t=true->mf t=some (ds,ob,e,st)->
  Im lo ρ (Df T ρ ds)/\Vg T (Df T ρ ds) ds/\WS T t ρ=some (Df T ρ ds,e,st)/\Wu T t ρ=some (Df T ρ ds,st)/\((∀q∈ob,q.den T (Df T ρ ds))->Cv T t ρ)
 | .leaf e st,lo,ρ,ds,ob,e',cD,_,h=>by
  simp only[mf,Ai,Prod.mk.injEq] at h;obtain⟨rfl,rfl,rfl,rfl⟩:=h;exact⟨Im.refl _ _,λp hp=>(by cases hp),rfl,rfl,λ_=>trivial⟩
 | .ep L7 ob0 t,lo,ρ,ds,ob,e,st,hk,h=>by
  simp only[OO,Bj] at hk;unfold mf at h;split at h
  ·rename_i ds' ob' e' cD ht;simp only[Ai,Prod.mk.injEq] at h;obtain⟨rfl,rfl,rfl,rfl⟩:=h;obtain⟨g1,g2⟩:=Wt T ρ hk.1.1;obtain⟨k1,k2,k3,k4,k5⟩:=Rc (T:=T) (ρ:=Df T ρ L7) hk.2 ht;have hle:=Zj hk.1.1;rw[QJ];refine⟨g1.trans k1 hle,λp hp=>?_,k3,k4,λho=>⟨λq hq=>?_,k5 λq hq=>ho q (kv _ hq)⟩⟩
   ·rcases qM.1 hp with hp|hp
    ·exact(g2.agE hk.1.1 k1) p hp
    ·exact k2 p hp
   ·exact(I1.cg k1 hk.1.2 q hq).1 (ho q (List.mem_append_left _ hq))
  ·cases h
 | .br _ _ _,_,_,_,_,_,_,hk,_=>by cases hk
 | .gr _ _ _ _,_,_,_,_,_,_,hk,_=>by cases hk
 | .cN _ _,_,_,_,_,_,_,hk,_=>by cases hk
 | .bad _,_,_,_,_,_,_,hk,_=>by cases hk
def ZN(M:List (Nat×FK)):CS->List (Nat×FT)->Option CS
 |s,[]=>some s
 |s,(n,d)::r=>match ACZ M s n d with
  |some (ι,nb,nm)=>ZN M ⟨(n,ι)::s.vs,nb++s.bs,nm++s.mm⟩ r
  |none=>none
theorem gJ{α:Type}{t:Nat}{v:α}:∀ {a b:List (Nat×α)},lk t (a++b)=some v->lk t a=some v\/lk t b=some v
 | [],b,h=>.inr h
 |(k,u)::a,b,h=>by
  simp only[LS,lk] at h ⊢;cases hb:Nat.beq k t with
  |true=>rw[hb] at h;exact .inl h
  |false=>rw[hb] at h;exact gJ h
theorem WV{T:Tb}{M:List (Nat×FK)}(hM:aP T M){ρ:Bu}:∀ {ds:List (Nat×FT)} {s s':CS},RN ρ s->Vg T ρ ds->ZN M s ds=some s'->RN ρ s'
 | [],s,s',hs,_,h=>by simp only[ZN,Ai] at h;subst h;exact hs
 | (n,d)::r,s,s',hs,hd,h=>by
  unfold ZN at h;split at h
  ·rename_i ι nb nm hc;obtain⟨g1,g2,g3⟩:=AEq hM hs (hd (n,d) Jv) hc;refine WV hM ⟨λi as hi k a ha=>?_,λa ha=>?_,λm x y hm=>?_⟩ (λp hp=>hd p (MN _ hp)) h
   ·simp only[lk] at hi;cases hb:Nat.beq n i with
    |true=>
     rw[hb,cond_true,Ai] at hi;have:=Ca hb;subst this;subst hi;exact g1 k a ha
    |false=>rw[hb,cond_false] at hi;exact hs.1 i as hi k a ha
   ·rcases qM.1 (Gm.1 ha) with h|h
    ·exact g2 a (Gm.2 h)
    ·exact hs.2.1 a (Gm.2 h)
   ·rcases gJ hm with h|h
    ·exact g3 m x y h
    ·exact hs.2.2 m x y h
  ·cases h
def lM(s:CS):I1->Bool
 | .ux x=>(match s.x x with|some a=>Bl 0 a.lo&&Bl a.hi 1|none=>false)
 | .fy x n=>(match s.x x with|some a=>Bl 0 a.lo&&Bl a.hi ((n:Int)-1)|none=>false)
 | .u9 x=>(match s.x x with|some a=>Bl 0 a.lo|none=>false)
 | .zr x=>(match s.x x with|some a=>Bl 0 a.lo&&Bl a.hi 0|none=>false)
 | .nz x=>(match s.x x with|some a=>Bl 1 a.lo|none=>false)
 | .pre _ _=>false
theorem kJ{T:Tb}{ρ:Bu}{s:CS}(hs:RN ρ s){q:I1}(h:lM s q=true):q.den T ρ:=by
 cases q<;>simp only[lM] at h
 case pre=>cases h
 all_goals
  split at h
  ·rename_i a ha;have hx:=CS.gk hs ha
   first
    |(simp only[Bj] at h;have h1:=A8 h.1;have h2:=A8 h.2;have:=hx.2.1;have:=hx.2.2.1;simp only[I1.den];omega)
    |(have h1:=A8 h;have:=hx.2.1;simp only[I1.den];omega)
  ·cases h
def AN3(j:Nat)(b:List (Int×Int)):List AV:=b.zipIdx.map λ(p,k)=>.pe (Ir (enc j k 0)) p.1 p.2
def ADB:Nat->List (List (Int×Int))->List (Nat×List AV)
 |_,[]=>[]
 |j,b::r=>(j,AN3 j b)::ADB (j+1) r
def AC8(ζ:List (List (Int×Int))):CS:=⟨ADB 0 ζ,[],[]⟩
def Mt(ζ:List (List (Int×Int)))(ins:List (List Int)):Prop:=
 ∀(j:Nat) (b:List (Int×Int)),ζ[j]? = some b->b.length<=4096/\∀(k:Nat) (p:Int×Int),b[k]? = some p->p.1<=(ins.getD j []).getD k 0/\(ins.getD j []).getD k 0<=p.2
theorem qH:∀ {ζ:List (List (Int×Int))} {j i:Nat} {ι:List AV},lk i (ADB j ζ)=some ι->∃k b,i=j+k/\ζ[k]? = some b/\ι=AN3 i b
 | [],j,i,ι,h=>by simp[ADB,lk] at h
 | b::r,j,i,ι,h=>by
  simp only[ADB,lk] at h;cases hb:Nat.beq j i with
  |true=>
   rw[hb,cond_true,Ai] at h;have:=Ca hb;subst this;exact⟨0,b,rfl,rfl,h.symm⟩
  |false=>
   rw[hb,cond_false] at h;obtain⟨k,b',h1,h2,h3⟩:=qH h;exact⟨k+1,b',by omega,by simpa using h2,h3⟩
theorem jK{ζ:List (List (Int×Int))}{ins:List (List Int)}(hb:Mt ζ ins){ρ:Bu}(hρ:∀j,j<ζ.length->ρ j=ins.getD j []):RN ρ (AC8 ζ):=by
 refine⟨λi ι hi k a ha=>?_,OY.nil _,λn x y h=>by simp[AC8,lk] at h⟩;obtain⟨j,b,h1,h2,h3⟩:=qH hi;rw[KN] at h1;subst h1;subst h3;obtain⟨hl,hbk⟩:=hb i b h2;unfold AN3 at ha;simp only[Ng,Yg] at ha;obtain⟨⟨p,k'⟩,h4,rfl⟩:=ha;rw[List.getElem?_zipIdx,Yg] at h4;obtain⟨p',h5,h6⟩:=h4;simp only[Prod.mk.injEq,KN] at h6;obtain⟨rfl,rfl⟩:=h6;have hk:k<b.length:=(Oa.1 h5).1;have bj:i<ζ.length:=(Oa.1 h2).1;rw[hρ i bj];obtain⟨b1,b2⟩:=hbk k p' h5;refine Iz ?_ b1 b2;rw[Gc,αv_enc0 ρ (by omega),hρ i bj]
def vW(s:CS):List X->Option (List AV)
 | []=>some []
 |x::r=>match s.x x,vW s r with
  |some a,some as=>some (a::as)
  |_,_=>none
def fM(s:CS):SY->Option (List (List AV))
 | []=>some []
 |e::r=>match vW s e.1,fM s r with
  |some a,some as=>some (a::as)
  |_,_=>none
def XT(i:Ac)(C:Cx)(M:List (Nat×FK))(ζ:List (List (Int×Int))):Option (List (List AV)):=
 match mf (i.tree C) with
 | some (ds,ob,_e,st)=>bif OO i.s0.params.length (i.tree C)&&Nat.beq ζ.length i.s0.params.length then(match ZN M (AC8 ζ) ds with
  |some s=>bif ob.all (lM s) then(match Ky C i.s0 i.cA st with
   |some es=>fM s es
   |none=>none) else none
  |none=>none) else none
 |none=>none
def iZ(ρ:Bu)(r:List Int)(ι:List AV):Prop:=r.length=ι.length/\∀(j:Nat) (x:Int) (a:AV),r[j]? = some x->ι[j]? = some a->a.ok ρ x
theorem YQ{ρ:Bu}{s:CS}(hs:RN ρ s):∀ {xs:List X} {ι:List AV},vW s xs=some ι->iZ ρ (xs.map (·.den ρ)) ι
 | [],ι,h=>by simp only[vW,Ai] at h;subst h;exact⟨rfl,λj x a h=>by simp at h⟩
 | x::r,ι,h=>by
  unfold vW at h;split at h
  ·rename_i a as h1 h2;simp only[Ai] at h;subst h;obtain⟨g1,g2⟩:=YQ hs h2;refine⟨by simpa using g1,λj y b hy hb=>?_⟩;cases j with
   |zero=>
    simp only[NM,UV,Ai] at hy hb;subst hy;subst hb;exact CS.gk hs h1
   |succ j=>exact g2 j y b (by simpa using hy) (by simpa using hb)
  ·cases h
theorem XO{s:CS}:∀ {es:SY} {π:List (List AV)},fM s es=some π->∀(k:Nat) (ι:List AV),π[k]? = some ι->∃e,es[k]? = some e/\vW s e.1=some ι
 | [],π,h,k,ι,hk=>by simp only[fM,Ai] at h;subst h;simp at hk
 | e::r,π,h,k,ι,hk=>by
  unfold fM at h;split at h
  ·rename_i a as h1 h2;simp only[Ai] at h;subst h;cases k with
   |zero=>
    simp only[UV,Ai] at hk;subst hk;exact⟨e,rfl,h1⟩
   |succ k=>
    obtain⟨e',g1,g2⟩:=XO h2 k ι (by simpa using hk);exact⟨e',by simpa using g1,g2⟩
  ·cases h
theorem kW{i:Ac}{C:Cx}{M:List (Nat×FK)}(hM:aP C.T M){ζ:List (List (Int×Int))}{π:List (List AV)}(h:XT i C M ζ=some π){ins:List (List Int)}(hb:Mt ζ ins):
  Cv C.T (i.tree C) (BK ins)/\∃ ρ:Bu,(∀j,j<i.s0.params.length->ρ j=ins.getD j [])/\∀(k:Nat) (ι:List AV),π[k]? = some ι->iZ ρ (i.raw C k ins) ι:=by
 unfold XT at h;split at h
 ·rename_i ds ob e st hl;cases hc:(OO i.s0.params.length (i.tree C)&&Nat.beq ζ.length i.s0.params.length) with
  |false=>rw[hc] at h;cases h
  |true=>
  rw[hc,cond_true] at h;simp only[Bj] at hc;have hlen:=Ca hc.2;obtain⟨k1,k2,k3,k4,k5⟩:=Rc (T:=C.T) (ρ:=BK ins) hc.1 hl;split at h
  ·rename_i s hs;cases ho:ob.all (lM s) with
   |false=>rw[ho] at h;cases h
   |true=>
   rw[ho,cond_true] at h;split at h
   ·rename_i es nh;have hρ:∀j,j<i.s0.params.length->Df C.T (BK ins) ds j=ins.getD j []:=λj hj=>by rw[k1 j hj];rfl
    have eE:=jK hb (ρ:=Df C.T (BK ins) ds) (λj hj=>hρ j (by omega));have hS:=WV hM eE k2 hs;refine⟨k5 λq hq=>kJ hS (Kh.1 ho q hq),Df C.T (BK ins) ds,hρ,λk ι hk=>?_⟩;obtain⟨e',g1,g2⟩:=XO h k ι hk;have:i.raw C k ins=e'.1.map (·.den (Df C.T (BK ins) ds)):=by
     unfold Ac.raw Ru;rw[k4];simp only[nh,g1]
    rw[this];exact YQ hS g2
   ·cases h
  ·cases h
 ·cases h
end
section
open Go
def Kk:Nat:=57896044618658097711785492504343953926634992332820282019728792003956564819949
def Oe(l:List Int):Int:=l.getD 0 0+2251799813685248*l.getD 1 0+5070602400912917605986812821504*l.getD 2 0+11417981541647679048466287755595961091061972992*l.getD 3 0+25711008708143844408671393477458601640355247900524685364822016*l.getD 4 0
def fB:Int:=2251799813947392
def Ix(l:List Int):Prop:=l.length=5/\∀k,k<5->0<=l.getD k 0/\l.getD k 0<=fB
def SF(ι:List (Fj)):Fj:=match ι with
 | [a,b,c,d,e]=>DZ a (DZ (Cq 2251799813685248 b) (DZ (Cq 5070602400912917605986812821504 c) (DZ (Cq 11417981541647679048466287755595961091061972992 d) (Cq 25711008708143844408671393477458601640355247900524685364822016 e))))
 |_=>[]
def Gk(j o:Nat):Fj:=SF [Ir (enc j o 0),Ir (enc j (o+1) 0),Ir (enc j (o+2) 0),Ir (enc j (o+3) 0),Ir (enc j (o+4) 0)]
def avG(a:AV):Bool:=Bl 0 a.lo&&Bl a.hi fB
def XP(k:Nat)(target:Fj)(π:Option (List (List AV))):Bool:=match π with
 |some π=>(match π[k]? with
  |some ι=>Nat.beq ι.length 5&&ι.all avG&&Ol Kk (DZ (SF (ι.map (·.p))) (Cq (-1) target))
  |none=>false)
 |none=>false
theorem ALI{α:Type}{l:List α}(h:l.length=5):∃a b c d e,l= [a,b,c,d,e]:=by
 match l,h with
 | [a,b,c,d,e],_=>exact⟨a,b,c,d,e,rfl⟩
theorem TG(ρ:Bu){j:Nat}{l:List Int}(h:ρ j=l):Er ρ (Gk j 0)=Oe l:=by
 simp only[Gk,SF,Ci,Cf,Gc];rw[αv_enc0 ρ (by omega),αv_enc0 ρ (by omega),αv_enc0 ρ (by omega),αv_enc0 ρ (by omega),αv_enc0 ρ (by omega),h];simp only[KN];unfold Oe;omega
theorem lL{ρ:Bu}{r:List Int}{ι:List AV}(h:iZ ρ r ι)(h5:ι.length=5):Er ρ (SF (ι.map (·.p)))=Oe r:=by
 obtain⟨hl,hk⟩:=h;obtain⟨a,b,c,d,e,rfl⟩:=ALI h5;obtain⟨x,y,z,u,v,rfl⟩:=ALI (hl.trans h5);have h0:=(hk 0 x a rfl rfl).1;have h1:=(hk 1 y b rfl rfl).1;have h2:=(hk 2 z c rfl rfl).1;have h3:=(hk 3 u d rfl rfl).1;have h4:=(hk 4 v e rfl rfl).1;simp only[NM,VW,SF,Ci,Cf, <- h0, <- h1, <- h2, <- h3, <- h4];unfold Oe;simp only[Qx,aa];omega
theorem zM{ρ:Bu}{r:List Int}{ι:List AV}(h:iZ ρ r ι)(h5:ι.length=5)(hg:ι.all avG=true):Ix r:=by
 obtain⟨hl,hk⟩:=h;refine⟨hl.trans h5,λk h=>?_⟩;have h1:k<r.length:=by omega
 have h2:k<ι.length:=by omega
 have:=hk k r[k] ι[k] (Io h1) (Io h2);have hb:=Kh.1 hg ι[k] (ku h2);simp only[avG,Bj] at hb;rw[List.getD,Io h1];exact⟨Sd (A8 hb.1) this.2.1,Sd this.2.2.1 (A8 hb.2)⟩
theorem AHB{i:Ac}{C:Cx}{M:List (Nat×FK)}(hM:aP C.T M){ζ:List (List (Int×Int))}{k:Nat}{target:Fj}(h:XP k target (XT i C M ζ)=true){ins:List (List Int)}(hb:Mt ζ ins):
  Cv C.T (i.tree C) (BK ins)/\Ix (i.raw C k ins)/\∃ ρ:Bu,(∀j,j<i.s0.params.length->ρ j=ins.getD j [])/\(Kk:Int) ∣ Oe (i.raw C k ins)-Er ρ target:=by
 unfold XP at h;split at h
 ·rename_i π hc;obtain⟨h1,ρ,h2,h3⟩:=kW hM hc hb;split at h
  ·rename_i ι hk;simp only[Bj] at h;have h5:=Ca h.1.1;have hA:=h3 k ι hk;refine⟨h1,zM hA h5 h.1.2,ρ,h2,?_⟩;have hd:=WR ρ h.2;rw[Ci,Cf,lL hA h5] at hd;have e:Oe (i.raw C k ins)-Er ρ target=Oe (i.raw C k ins) + -1*Er ρ target:=by omega
   rw[e];exact hd
  ·cases h
 ·cases h
def bF:List (Int×Int):=List.replicate 5 (0,fB)
theorem Wi{ζ:List (List (Int×Int))}{ins:List (List Int)}:∀(b:List (Int×Int)) (x:List Int),(b.length<=4096/\∀(k:Nat) (p:Int×Int),b[k]? = some p->p.1<=x.getD k 0/\x.getD k 0<=p.2)->Mt ζ ins->Mt (b::ζ) (x::ins):=by
 intro b x h hb j b' hj;cases j with
 |zero=>simp only[UV,Ai] at hj;subst hj;exact h
 |succ j=>exact hb j b' (by simpa using hj)
theorem Hm(ins:List (List Int)):Mt [] ins:=λj b h=>by simp at h
theorem X4{ζ:List (List (Int×Int))}{ins:List (List Int)}{x:List Int}(h:Ix x)(hb:Mt ζ ins):Mt (bF::ζ) (x::ins):=
 Wi bF x ⟨by decide,λk p hk=>by
  have bj:k<5:=by have:=(Oa.1 hk).1;simpa[bF] using this
  simp only[bF,iF,bj,if_true,Ai] at hk;subst hk;exact h.2 k bj⟩ hb
theorem LQ{ζ:List (List (Int×Int))}{ins:List (List Int)}(x:List Int)(hb:Mt ζ ins):Mt ([]::ζ) (x::ins):=
 Wi [] x ⟨by decide,λk p hk=>by simp at hk⟩ hb
end
section
open Go
structure ANj where
 ds:List (Nat×FT)
 ob:List I1
 cn:List (X×Bool)
 e:Ex
 st:St
def kU:List Bool->Be->Option ANj
 |_,.leaf e st=>some ⟨[],[],[],e,st⟩
 |bs,.ep ds ob t=>(match kU bs t with
  |some p=>some ⟨ds++p.ds,ob++p.ob,p.cn,p.e,p.st⟩
  |none=>none)
 |b::bs,.br x t f=>(match bif b then kU bs t else kU bs f with
  |some p=>some ⟨p.ds,p.ob,(x,b)::p.cn,p.e,p.st⟩
  |none=>none)
 |_,_=>none
def Rl:Nat->List Bool->Be->Bool
 |_,_,.leaf _ _=>true
 |lo,bs,.ep ds ob t=>FL lo (lC lo ds) ds&&I6 (lC lo ds) ob&&Rl (lC lo ds) bs t
 |lo,b::bs,.br x t f=>x.lt lo&&bif b then Rl lo bs t else Rl lo bs f
 |_,_,_=>false
def AH9(ρ:Bu)(cn:List (X×Bool)):Prop:=∀q∈cn,(q.1.den ρ=0↔q.2=false)
theorem Vj{T:Tb}:∀ {t:Be} {lo:Nat} {bs:List Bool} {ρ:Bu} {p:ANj},Rl lo bs t=true->kU bs t=some p->
  Im lo ρ (Df T ρ p.ds)/\Vg T (Df T ρ p.ds) p.ds/\(AH9 (Df T ρ p.ds) p.cn->WS T t ρ=some (Df T ρ p.ds,p.e,p.st)/\Wu T t ρ=some (Df T ρ p.ds,p.st)/\((∀q∈p.ob,q.den T (Df T ρ p.ds))->Cv T t ρ))
 | .leaf e st,lo,bs,ρ,p,_,h=>by
  simp only[kU,Ai] at h;subst h;exact⟨Im.refl _ _,λp hp=>(by cases hp),λ_=>⟨rfl,rfl,λ_=>trivial⟩⟩
 | .ep L7 ob0 t,lo,bs,ρ,p,hk,h=>by
  unfold Rl at hk;simp only[Bj] at hk;unfold kU at h;split at h
  ·rename_i p' ht;simp only[Ai] at h;subst h;obtain⟨g1,g2⟩:=Wt T ρ hk.1.1;obtain⟨k1,k2,k3⟩:=Vj (T:=T) (ρ:=Df T ρ L7) hk.2 ht;have hle:=Zj hk.1.1;simp only;rw[QJ];refine⟨g1.trans k1 hle,λp hp=>?_,λhc=>?_⟩
   ·rcases qM.1 hp with hp|hp
    ·exact(g2.agE hk.1.1 k1) p hp
    ·exact k2 p hp
   ·obtain⟨c1,c2,c3⟩:=k3 hc;exact⟨c1,c2,λho=>⟨λq hq=>(I1.cg k1 hk.1.2 q hq).1 (ho q (List.mem_append_left _ hq)),c3 λq hq=>ho q (kv _ hq)⟩⟩
  ·cases h
 | .br x t f,lo,[],ρ,p,hk,h=>by cases hk
 | .br x t f,lo,b::bs,ρ,p,hk,h=>by
  unfold Rl at hk;simp only[Bj] at hk;unfold kU at h;split at h
  ·rename_i p' ht;simp only[Ai] at h;subst h;cases b with
   | true=>
    rw[cond_true] at ht hk;obtain⟨k1,k2,k3⟩:=Vj (T:=T) (ρ:=ρ) hk.2 ht;refine⟨k1,k2,λhc=>?_⟩;have hx:¬x.den ρ=0:=by
     have:=hc (x,true) Jv;simp only[X.cg k1 hk.1,Bool.true_eq_false,iff_false] at this;exact this
    obtain⟨c1,c2,c3⟩:=k3 λq hq=>hc q (MN _ hq)
    exact⟨by unfold WS;rw[if_neg hx];exact c1,by unfold Wu;rw[if_neg hx];exact c2,λho=>⟨λh0=>absurd h0 hx,λ_=>c3 ho⟩⟩
   | false=>
    rw[cond_false] at ht hk;obtain⟨k1,k2,k3⟩:=Vj (T:=T) (ρ:=ρ) hk.2 ht;refine⟨k1,k2,λhc=>?_⟩;have hx:x.den ρ=0:=by
     have:=hc (x,false) Jv;simp only[X.cg k1 hk.1,iff_true] at this;exact this
    obtain⟨c1,c2,c3⟩:=k3 λq hq=>hc q (MN _ hq)
    exact⟨by unfold WS;rw[if_pos hx];exact c1,by unfold Wu;rw[if_pos hx];exact c2,λho=>⟨λ_=>c3 ho,λh0=>absurd hx h0⟩⟩
  ·cases h
 | .gr _ _ _ _,_,bs,_,_,hk,_=>by cases bs<;>cases hk
 | .cN _ _,_,bs,_,_,hk,_=>by cases bs<;>cases hk
 | .bad _,_,bs,_,_,hk,_=>by cases bs<;>cases hk
def pG(s:CS):List Hy->Option (List (List AV))
 | []=>some []
 | .xs l::r=>(match vW s l,pG s r with
  |some a,some as=>some (a::as)
  |_,_=>none)
 | .vec _::_=>none
theorem nU{ρ:Bu}{s:CS}(hs:RN ρ s):∀ {as:List Hy} {π:List (List AV)},pG s as=some π->as.length=π.length/\∀(k:Nat) (ι:List AV),π[k]? = some ι->iZ ρ ((as.map (·.den ρ)).getD k []) ι
 | [],π,h=>by simp only[pG,Ai] at h;subst h;exact⟨rfl,λk ι h=>by simp at h⟩
 | .xs l::r,π,h=>by
  unfold pG at h;split at h
  ·rename_i a as h1 h2;simp only[Ai] at h;subst h;obtain⟨g1,g2⟩:=nU hs h2;refine⟨by simp[g1],λk ι hk=>?_⟩;cases k with
   |zero=>
    simp only[UV,Ai] at hk;subst hk;exact YQ hs h1
   |succ k=>exact g2 k ι (by simpa using hk)
  ·cases h
 | .vec j::r,π,h=>by cases h
structure LpR where
 p:ANj
 b:Bool
 av:List (List AV)
def AHI (i:Ih) (C:Cx) (M:List (Nat×FK)) (ζ:List (List (Int×Int))) (path:List Bool):Option LpR:=
 match kU path (i.tree C) with
 | some p=>bif Rl i.s0.params.length path (i.tree C)&&Nat.beq ζ.length i.s0.params.length then(match ZN M (AC8 ζ) p.ds with
  | some s=>bif p.ob.all (lM s) then(match i.leaf p.e p.st with
   |some (b,as)=>(match pG s as with
    |some π=>some ⟨p,b,π⟩
    |none=>none)
   |none=>none) else none
  |none=>none) else none
 |none=>none
theorem vv{i:Ih}{C:Cx}{M:List (Nat×FK)}(hM:aP C.T M){ζ:List (List (Int×Int))}{path:List Bool}{R:LpR}(h:AHI i C M ζ path=some R){ins:List (List Int)}(hb:Mt ζ ins):
  ∃ ρ:Bu,(∀j,j<i.s0.params.length->ρ j=ins.getD j [])/\Vg C.T ρ R.p.ds/\(AH9 ρ R.p.cn->Cv C.T (i.tree C) (BK ins)/\∃r,i.step C ins=some (R.b,r)/\r.length=R.av.length/\∀(k:Nat) (ι:List AV),R.av[k]? = some ι->iZ ρ (r.getD k []) ι):=by
 unfold AHI at h;split at h
 ·rename_i p hl;cases hc:(Rl i.s0.params.length path (i.tree C)&&Nat.beq ζ.length i.s0.params.length) with
  |false=>rw[hc] at h;cases h
  |true=>
  rw[hc,cond_true] at h;simp only[Bj] at hc;have hlen:=Ca hc.2;obtain⟨k1,k2,k3⟩:=Vj (T:=C.T) (ρ:=BK ins) hc.1 hl;split at h
  ·rename_i s hs;cases ho:p.ob.all (lM s) with
   |false=>rw[ho] at h;cases h
   |true=>
   rw[ho,cond_true] at h;split at h
   ·rename_i b as hlf;split at h
    ·rename_i π hav;simp only[Ai] at h;subst h;have hρ:∀j,j<i.s0.params.length->Df C.T (BK ins) p.ds j=ins.getD j []:=λj hj=>by rw[k1 j hj];rfl
     have eE:=jK hb (ρ:=Df C.T (BK ins) p.ds) (λj hj=>hρ j (by omega));have hS:=WV hM eE k2 hs;refine⟨Df C.T (BK ins) p.ds,hρ,k2,λhcn=>?_⟩;obtain⟨c1,c2,c3⟩:=k3 hcn;obtain⟨g1,g2⟩:=nU hS hav;refine⟨c3 λq hq=>kJ hS (Kh.1 ho q hq),as.map (·.den (Df C.T (BK ins) p.ds)),?_,by simpa using g1,g2⟩;unfold Ih.step;rw[c1];simp only[hlf]
    ·cases h
   ·cases h
  ·cases h
 ·cases h
def AGB(R:LpR)(b:Bool)(i n:Nat):Bool:=match R.p.cn with
 | [(.v m 0,b')]=>(match lk m R.p.ds with
  |some ⟨.bin .lss .i64,[.xs [.v i' 0],.xs [.v n' 0]]⟩=>Nat.beq i i'&&Nat.beq n n'&&(bif b then b' else !b')
  |_=>false)
 |_=>false
theorem zR{R:LpR}{b:Bool}{i n:Nat}(h:AGB R b i n=true){T:Tb}{ρ:Bu}(hd:Vg T ρ R.p.ds)(hc:b=decide ((ρ i).getD 0 0<(ρ n).getD 0 0)):AH9 ρ R.p.cn:=by
 unfold AGB at h;split at h
 ·rename_i m b' hcn;split at h
  ·rename_i i' n' hm;simp only[Bj] at h;have e1:=Ca h.1.1;have e2:=Ca h.1.2;subst e1;subst e2;have hb:b'=b:=by cases b<;>cases b'<;>simp_all
   subst hb;have hv:=hd (m,_) (OU hm);intro q hq;rw[hcn,NU] at hq;subst hq;simp only[X.den];rw[hv];simp only[FT.den,NR.den,NM,VW,Hy.den,X.den,Qx,aa,W9,Ak,KQ];rw[hc];generalize (ρ i).getD 0 0=x;generalize (ρ n).getD 0 0=y;by_cases bj:x<y
   ·rw[decide_eq_true bj];decide
   ·rw[decide_eq_false bj];decide
  ·cases h
 ·cases h
theorem yN{T:Tb}{f:Nat}{s:Az}{as:List Hy}{ρ:Bu}{args:List (List Int)}(hT:lk f T=some (.one s))(ha:as.map (·.den ρ)=args)(hp:s.pre args):(I1.pre f as).den T ρ:=by
 subst ha;simp only[I1.den,hT];exact hp
theorem Ih.Fi{i:Ih}{C:Cx}{ins:List (List Int)}{n:Nat}(hf:i.fuel ins=n)(h:Rm (i.step C) (λins=>Cv C.T (i.tree C) (BK ins)) n ins):i.pre C ins:=by
 unfold Ih.pre;rw[hf];exact h
theorem Ih.An{i:Ih}{C:Cx}{ins:List (List Int)}(h:i.pre C ins):(i.sum C (i.pre C)).pre ins:=h
theorem Ih.Ys{i:Ih}{C:Cx}{ins:List (List Int)}{n:Nat}(hf:i.fuel ins=n):i.val C ins=Ht (i.step C) n ins:=by
 unfold Ih.val;rw[hf]
end
section
open Go
def Xl (i:Ac) (C:Cx) (M:List (Nat×FK)) (ζ:List (List (Int×Int))):Option (CS×List (List AV)):=
 match mf (i.tree C) with
 | some (ds,ob,_e,st)=>bif OO i.s0.params.length (i.tree C)&&Nat.beq ζ.length i.s0.params.length then(match ZN M (AC8 ζ) ds with
  | some s=>bif ob.all (lM s) then(match Ky C i.s0 i.cA st with
   |some es=>(match fM s es with
    |some r=>some (s,r)
    |none=>none)
   |none=>none) else none
  |none=>none) else none
 |none=>none
theorem Q9{i:Ac}{C:Cx}{M:List (Nat×FK)}(hM:aP C.T M){ζ:List (List (Int×Int))}{s:CS}{π:List (List AV)}(h:Xl i C M ζ=some (s,π)){ins:List (List Int)}(hb:Mt ζ ins):
  Cv C.T (i.tree C) (BK ins)/\∃ ρ:Bu,(∀j,j<i.s0.params.length->ρ j=ins.getD j [])/\RN ρ s/\∀(k:Nat) (ι:List AV),π[k]? = some ι->iZ ρ (i.raw C k ins) ι:=by
 unfold Xl at h;split at h
 ·rename_i ds ob e st hl;cases hc:(OO i.s0.params.length (i.tree C)&&Nat.beq ζ.length i.s0.params.length) with
  |false=>rw[hc] at h;cases h
  |true=>
  rw[hc,cond_true] at h;simp only[Bj] at hc;have hlen:=Ca hc.2;obtain⟨k1,k2,k3,k4,k5⟩:=Rc (T:=C.T) (ρ:=BK ins) hc.1 hl;split at h
  ·rename_i s' hs;cases ho:ob.all (lM s') with
   |false=>rw[ho] at h;cases h
   |true=>
   rw[ho,cond_true] at h;split at h
   ·rename_i es nh;split at h
    ·rename_i r hr;simp only[Ai,Prod.mk.injEq] at h;obtain⟨rfl,rfl⟩:=h;have hρ:∀j,j<i.s0.params.length->Df C.T (BK ins) ds j=ins.getD j []:=λj hj=>by rw[k1 j hj];rfl
     have eE:=jK hb (ρ:=Df C.T (BK ins) ds) (λj hj=>hρ j (by omega));have hS:=WV hM eE k2 hs;refine⟨k5 λq hq=>kJ hS (Kh.1 ho q hq),Df C.T (BK ins) ds,hρ,hS,λk ι hk=>?_⟩;obtain⟨e',g1,g2⟩:=XO hr k ι hk;have:i.raw C k ins=e'.1.map (·.den (Df C.T (BK ins) ds)):=by
      unfold Ac.raw Ru;rw[k4];simp only[nh,g1]
     rw[this];exact YQ hS g2
    ·cases h
   ·cases h
  ·cases h
 ·cases h
def Cm:List Int->Int
 | []=>0
 |b::r=>b+256*Cm r
def leP:List AV->Fj
 | []=>[]
 |b::r=>DZ b.p (Cq 256 (leP r))
def byB(a:AV):Bool:=Bl 0 a.lo&&Bl a.hi 255
def cI(l:List Int):Prop:=∀x∈l,0<=x/\x<=255
theorem iZ.cons{ρ:Bu}{x:Int}{l:List Int}{a:AV}{as:List AV}(h:iZ ρ (x::l) (a::as)):a.ok ρ x/\iZ ρ l as:=
 ⟨h.2 0 x a rfl rfl,by have:=h.1;simpa using this,λj y b hy hb=>h.2 (j+1) y b (by simpa using hy) (by simpa using hb)⟩
theorem vD{ρ:Bu}:∀ {as:List AV} {l:List Int},iZ ρ l as->Er ρ (leP as)=Cm l
 | [],[],_=>rfl
 | [],x::l,h=>by have:=h.1;simp at this
 |a::as,[],h=>by have:=h.1;simp at this
 |a::as,x::l,h=>by
  obtain⟨h1,h2⟩:=h.cons;simp only[leP,Cm,Ci,Cf,vD h2, <- h1.1]
theorem su{ρ:Bu}:∀ {as:List AV} {l:List Int},iZ ρ l as->as.all byB=true->cI l
 | [],[],_,_=>λx hx=>by cases hx
 | [],x::l,h,_=>by have:=h.1;simp at this
 |a::as,[],h,_=>by have:=h.1;simp at this
 |a::as,x::l,h,hb=>by
  obtain⟨h1,h2⟩:=h.cons;simp only[List.all_cons,Bj] at hb;have:=hb.1;simp only[byB,Bj] at this;intro y hy;rcases G9.1 hy with rfl|hy
  ·exact⟨Sd (A8 this.1) h1.2.1,Sd h1.2.2.1 (A8 this.2)⟩
  ·exact su h2 hb.2 y hy
theorem NT:∀ {l:List Int},cI l->0<=Cm l/\Cm l<256^l.length
 | [],_=>⟨gq _,by decide⟩
 |x::l,h=>by
  have h1:=h x Jv;have h2:=NT (l:=l) λy hy=>h y (MN _ hy)
  simp only[Cm,NY,Hi];omega
def flr(s:CS)(n m:Nat):Option Fj:=match lk n s.vs with
 |some (a::_)=>bif Nat.blt m 128 then some (DZ a.p (Cq (-(2^m:Nat)) (Ir (enc n 0 m)))) else none
 |_=>none
theorem aY{ρ:Bu}{s:CS}(hs:RN ρ s){n m:Nat}{p:Fj}(h:flr s n m=some p):0<=Er ρ p/\Er ρ p<(2^m:Nat):=by
 unfold flr at h;split at h
 ·rename_i a r hl;cases hb:Nat.blt m 128 with
  |false=>rw[hb] at h;cases h
  | true=>
   rw[hb,cond_true,Ai] at h;subst h;have hm:m<128:=Kv hb;have ha:=hs.1 n _ hl 0 a rfl;rw[Ci,Cf, <- ha.1,Gc,αv_enc ρ (by omega) hm];have h2:(0:Int)<((2^m:Nat):Int):=by
    have:=Nat.two_pow_pos m;omega
   have e:(2:Int)^m=((2^m:Nat):Int):=by
    rw[Int.natCast_pow];rfl
   rw[e];generalize ((2^m:Nat):Int)=M at *
   have h3:=Int.mul_ediv_add_emod ((ρ n).getD 0 0) M;have h4:=Int.emod_nonneg ((ρ n).getD 0 0) (Int.ne_of_gt h2);have h5:=Int.emod_lt_of_pos ((ρ n).getD 0 0) h2;rw[Int.neg_mul];omega
 ·cases h
def AHq(i:Ac)(C:Cx):Option (List (Nat×FT)×List (List X)):=match mf (i.tree C) with
 |some (ds,_,_,st)=>bif OO i.s0.params.length (i.tree C) then(match Ky C i.s0 i.cA st with
  |some es=>some (ds,es.map (·.1))
  |none=>none) else none
 |none=>none
theorem wI{i:Ac}{C:Cx}{ds:List (Nat×FT)}{xss:List (List X)}(h:AHq i C=some (ds,xss))(ins:List (List Int)):
  ∃ ρ:Bu,(∀j,j<i.s0.params.length->ρ j=ins.getD j [])/\Vg C.T ρ ds/\∀(k:Nat) (xs:List X),xss[k]? = some xs->i.raw C k ins=xs.map (·.den ρ):=by
 unfold AHq at h;split at h
 ·rename_i ds' ob e st hl;cases hc:OO i.s0.params.length (i.tree C) with
  |false=>rw[hc] at h;cases h
  | true=>
   rw[hc,cond_true] at h;obtain⟨k1,k2,k3,k4,k5⟩:=Rc (T:=C.T) (ρ:=BK ins) hc hl;split at h
   ·rename_i es nh;simp only[Ai,Prod.mk.injEq] at h;obtain⟨rfl,rfl⟩:=h;refine⟨Df C.T (BK ins) ds',λj hj=>by rw[k1 j hj];rfl,k2,λk xs hk=>?_⟩;rw[Ng,Yg] at hk;obtain⟨e',g1,rfl⟩:=hk;unfold Ac.raw Ru;rw[k4];simp only[nh,g1]
   ·cases h
 ·cases h
end
section
open Go
def rE(nx ny k:Nat)(ds:List (Nat×FT)):Nat->List (X×Bool)->Bool
 |i,[]=>Nat.beq i (bif Nat.blt k 32 then k+1 else 32)
 |i,(.v m 0,b)::r=>(match lk m ds with
  |some ⟨.bin .neq .u8,[.xs [.v x a],.xs [.v y c]]⟩=>Nat.beq x nx&&Nat.beq y ny&&Nat.beq a i&&Nat.beq c i&&(bif b then Nat.beq i k else Nat.blt i k)
  |_=>false)&&rE nx ny k ds (i+1) r
 |_,_=>false
theorem zV{T:Tb}{ρ:Bu}{nx ny k:Nat}{ds:List (Nat×FT)}(hd:Vg T ρ ds)(h1:∀i,i<k->(ρ nx).getD i 0=(ρ ny).getD i 0)(h2:k<32->(ρ nx).getD k 0≠(ρ ny).getD k 0)(hk:k<=32):∀ {cn:List (X×Bool)} {i:Nat},i<=32->rE nx ny k ds i cn=true->AH9 ρ cn
 | [],_,_,_=>λq hq=>by cases hq
 | (.v m 0,b)::r,i,hi,h=>by
  unfold rE at h;simp only[Bj] at h;obtain⟨h3,h4⟩:=h;split at h3
  ·rename_i x a y c hm;simp only[Bj] at h3;obtain⟨⟨⟨⟨e1,e2⟩,e3⟩,e4⟩,e5⟩:=h3;have e1:=Ca e1;have e2:=Ca e2;have e3:=Ca e3;have e4:=Ca e4;subst e1;subst e2;subst e3;subst e4;have hv:=hd (m,_) (OU hm);have Ge:(X.v m 0).den ρ=KQ ((ρ x).getD c 0 != (ρ y).getD c 0):=by
    show(ρ m).getD 0 0=_;rw[show ρ m=_ from hv];rfl
   have bj : c<32:=by
    cases b with
    | true =>
         rw[cond_true] at e5;have:=Ca e5;have:c=k:=this;by_cases nB:k<32
         ·omega
         ·exfalso;have hk3:k=32:=by omega
          have hlen:∀ {r:List (X×Bool)} {i:Nat},rE x y k ds i r=true->i<=32\/True:=λ_=>.inr trivial
          have:∀ {r:List (X×Bool)} {i:Nat},rE x y k ds i r=true->i<=(bif Nat.blt k 32 then k+1 else 32):=by
           intro r
           induction r with
           |nil=>intro i h;exact Nat.le_of_eq (Ca h)
           | cons q r ih=>
            intro i h;obtain⟨x',b'⟩:=q;cases x' with
            |lit _=>cases h
            | v m' k'=>
             cases k' with
             |zero=>
              unfold rE at h;simp only[Bj] at h;have:=ih h.2;omega
             |succ _=>cases h
          have h5:=this h4;rw[hk3] at h5;have:(bif Nat.blt 32 32 then 32+1 else 32)=32:=rfl;omega
    |false=>rw[cond_false] at e5;have:=Kv e5;omega
   intro q hq;rcases G9.1 hq with rfl|hq
   ·simp only;rw[Ge];cases b with
    |true=>
     rw[cond_true] at e5;have e:=Ca e5;subst e;rw[bne_iff_ne.2 (h2 bj)];decide
    |false=>
     rw[cond_false] at e5;have e:=Kv e5;rw[h1 c e,bne_self_eq_false];decide
   ·exact zV hd h1 h2 hk (by omega) h4 q hq
  ·cases h3
 |(.lit _,_)::_,_,_,h=>by cases h
 |(.v _ (_+1),_)::_,_,_,h=>by cases h
def ADE(k:Nat):List Bool:=List.replicate k false++(bif Nat.blt k 32 then[true] else[])
def eqP (i:Ac) (C:Cx) (fb nx ny k:Nat):Bool:=match kU (ADE k) (i.tree C) with
 | some p=>Rl i.s0.params.length (ADE k) (i.tree C)&&rE nx ny k p.ds 0 p.cn&&(match p.ob with
   | []=>true
   |_=>false)&&(match Ky C i.s0 i.cA p.st with
   |some (e::_)=>(match e.1 with
    | [.lit (.ofNat c)]=>Nat.beq c (bif Nat.blt k 32 then 0 else 1)
    |_=>false)
   |_=>false)&&(match lk nx p.ds,lk ny p.ds with
   |some ⟨.fn f true 0,[.vec 1]⟩,some ⟨.fn g true 0,[.vec 0]⟩=>Nat.beq f fb&&Nat.beq g fb
   |_,_=>false)
 |none=>false
theorem uf{X Y:List Int}(hx:X.length=32)(hy:Y.length=32):X=Y\/∃k,k<32/\(∀i,i<k->X.getD i 0=Y.getD i 0)/\X.getD k 0≠Y.getD k 0:=by
 by_cases h:∃k,k<32/\X.getD k 0≠Y.getD k 0
 ·right
  obtain⟨k,hk⟩:=h
  induction k using Nat.strongRecOn with
  | _ k ih=>
   by_cases h2:∃i,i<k/\X.getD i 0≠Y.getD i 0
   ·obtain⟨i,hi,cj⟩:=h2;exact ih i hi ⟨by omega,cj⟩
   ·refine⟨k,hk.1,λi hi=>Classical.byContradiction λcj=>h2 ⟨i,hi,cj⟩,hk.2⟩
 ·left
  apply List.ext_getElem (by omega);intro i h1 h2;have:=Classical.byContradiction λcj:¬X.getD i 0=Y.getD i 0=>h ⟨i,by omega,cj⟩
  rw[List.getD,List.getD,Io h1,Io h2] at this;exact this
theorem AL1{i:Ac}{C:Cx}{fb nx ny:Nat}{s:Az}(hs:lk fb C.T=some (.one s))(gE:i.s0.params.length=2)(h:(List.range 33).all (eqP i C fb nx ny)=true){a b X Y:List Int}(hX:(s.pr 0).den [b]=X)(hY:(s.pr 0).den [a]=Y)(hx:X.length=32)(hy:Y.length=32):
  i.raw C 0 [a,b]= [bif decide (X=Y) then 1 else 0]:=by
 have key:∀k,k<=32->(∀i,i<k->X.getD i 0=Y.getD i 0)->(k<32->X.getD k 0≠Y.getD k 0)->i.raw C 0 [a,b]= [bif Nat.blt k 32 then 0 else 1]:=by
  intro k hk h1 h2;have hp:=Kh.1 h k (fV.2 (by omega));unfold eqP at hp;split at hp
  ·rename_i p hl;simp only[Bj] at hp;obtain⟨⟨⟨⟨t1,t2⟩,_⟩,t4⟩,t5⟩:=hp;obtain⟨g1,g2,g3⟩:=Vj (T:=C.T) (ρ:=BK [a,b]) t1 hl;have hρ:∀j,j<2->Df C.T (BK [a,b]) p.ds j= [a,b].getD j []:=λj hj=>by rw[g1 j (by omega)];rfl
   split at t5
   ·rename_i f g hn1 US;simp only[Bj] at t5;have e1:=Ca t5.1;have e2:=Ca t5.2;subst e1;subst e2;have n1:Df C.T (BK [a,b]) p.ds nx=X:=by
     have:=g2 (nx,_) (OU hn1);rw[show Df C.T (BK [a,b]) p.ds nx=_ from this];simp only[FT.den,NR.den,hs,NM,VW,Hy.den,hρ 1 (by omega)];exact hX
    have n2:Df C.T (BK [a,b]) p.ds ny=Y:=by
     have:=g2 (ny,_) (OU US);rw[show Df C.T (BK [a,b]) p.ds ny=_ from this];simp only[FT.den,NR.den,hs,NM,VW,Hy.den,hρ 0 (by omega)];exact hY
    obtain⟨_,g4,_⟩:=g3 (zV (nx:=nx) (ny:=ny) (k:=k) g2 (by rw[n1,n2];exact h1) (by rw[n1,n2];exact h2) hk (by omega) t2);unfold Ac.raw Ru;rw[g4];simp only;split at t4
    ·rename_i e es nh;rw[nh];simp only[UV];split at t4
     ·rename_i c hc;have:=Ca t4;rw[hc,this];cases Nat.blt k 32<;>rfl
     ·cases t4
    ·cases t4
   ·cases t5
  ·cases hp
 rcases uf hx hy with he|⟨k,h1,h2,h3⟩
 ·rw[decide_eq_true he];exact key 32 (by omega) (λi _=>by rw[he]) (by omega)
 ·rw[decide_eq_false (λhe=>h3 (by rw[he])),key k (by omega) h2 (λ_=>h3)];have:Nat.blt k 32=true:=yu h1;rw[this];rfl
theorem zF:∀ {l m:List Int},cI l->cI m->l.length=m.length->Cm l=Cm m->l=m
 | [],[],_,_,_,_=>rfl
 | [],_::_,_,_,h,_=>by simp at h
 |_::_,[],_,_,h,_=>by simp at h
 |x::l,y::m,h1,h2,h3,h4=>by
  have a1:=h1 x Jv;have a2:=h2 y Jv;simp only[Cm] at h4;have e:x=y:=by omega
  subst e;rw[zF (λz hz=>h1 z (MN _ hz)) (λz hz=>h2 z (MN _ hz)) (by simpa using h3) (by omega)]
end
section
open Go
end
end Go.Proofs.YtkbfdaoohhmgoaaGreatDoor
