/- A checker of word arithmetic, part 1: polynomials over the values of names; words. -/
import Derived.Test.YtloibefkijfdlaaGreatDoorSb
namespace Go.Proofs.YtloibefkijfdlaaGreatDoor
section
open Go
def enc(i k m:Nat):Nat:=(i*4096+k)*128+m
def αv(ρ:Bl)(a:Nat):Int:=((ρ (a/524288)).getD (a/128%4096) 0)/2^(a%128)
theorem αv_enc(ρ:Bl){i k m:Nat}(hk:k<4096)(hm:m<128):αv ρ (enc i k m)=((ρ i).getD k 0)/2^m:=by
 unfold αv enc;rw[show ((i*4096+k)*128+m)/524288=i by omega,show ((i*4096+k)*128+m)/128%4096=k by omega,show ((i*4096+k)*128+m)%128=m by omega]
theorem αv_enc0(ρ:Bl){i k:Nat}(hk:k<4096):αv ρ (enc i k 0)=(ρ i).getD k 0:=by
 rw[αv_enc ρ hk (by omega),Int.pow_zero,Int.ediv_one]
abbrev Xj:=List Nat
abbrev Gd:=List (Xj×Int)
def kY(ρ:Bl):Xj→Int
 | []=>1
 |a::r=>αv ρ a*kY ρ r
def F8(ρ:Bl):Gd→Int
 | []=>0
 |(m,c)::r=>c*kY ρ m+F8 ρ r
def AA6:Xj→Xj→Nat
 | [],[]=>1
 | [],_::_=>0
 |_::_,[]=>2
 |a::r,b::s=>bif Nat.beq a b then AA6 r s else bif Nat.blt a b then 0 else 2
theorem zL:∀ {a b:Xj},AA6 a b=1→a=b
 | [],[],_=>rfl
 | [],_::_,h=>by simp[AA6] at h
 |_::_,[],h=>by simp[AA6] at h
 |a::r,b::s,h=>by
  unfold AA6 at h
  cases hb:Nat.beq a b with
  |true=>rw[hb] at h;rw[CL hb,zL h]
  |false=>rw[hb] at h;cases hc:Nat.blt a b<;>simp[hc] at h
def isZ:Int→Bool
 | .ofNat 0=>true
 |_=>false
theorem lF{n:Int}(h:isZ n=true):n=0:=by
 unfold isZ at h;split at h<;>first|rfl|cases h
def AA7(m:Xj)(c:Int):Gd→Gd
 | []=>bif isZ c then [] else [(m,c)]
 |(m',c')::r=>match AA6 m m' with
  |0=>bif isZ c then (m',c')::r else (m,c)::(m',c')::r
  |1=>bif isZ (c+c') then r else (m',c+c')::r
  |_=>(m',c')::AA7 m c r
theorem kG(ρ:Bl)(m:Xj)(c:Int):∀ p,F8 ρ (AA7 m c p)=c*kY ρ m+F8 ρ p
 | []=>by
  unfold AA7
  cases h:isZ c with
  |true=>rw[lF h];simp[F8]
  |false=>simp[F8]
 | (m',c')::r=>by
  unfold AA7
  split
  ·cases h:isZ c with
   |true=>rw[lF h];simp[F8]
   |false=>simp[F8]
  ·rename_i hm
   rw[zL hm]
   cases h:isZ (c+c') with
   |true=>
    have:=lF h;simp only[cond_true,F8];rw[← Int.add_assoc, ← sI,this];simp
   |false=>simp only[cond_false,F8];rw[sI,Int.add_assoc]
  ·simp only[F8,kG ρ m c r];omega
def De:Gd→Gd→Gd
 | [],q=>q
 |(m,c)::r,q=>AA7 m c (De r q)
theorem Cc(ρ:Bl):∀ p q,F8 ρ (De p q)=F8 ρ p+F8 ρ q
 | [],q=>by simp[De,F8]
 |(m,c)::r,q=>by simp only[De,kG,Cc ρ r q,F8];omega
def Cq(d:Int):Gd→Gd
 | []=>[]
 |(m,c)::r=>(m,d*c)::Cq d r
theorem CW(ρ:Bl)(d:Int):∀ p,F8 ρ (Cq d p)=d*F8 ρ p
 | []=>by simp[Cq,F8]
 |(m,c)::r=>by simp only[Cq,F8,CW ρ d r,qC,Xr]
def AGx(bs:List Nat)(a:Nat):Xj→Xj
 | []=>[a]
 |b::r=>bif Nat.beq a b then (bif EH a bs then b::r else a::b::r) else bif Nat.blt a b then a::b::r else b::AGx bs a r
def Pv(ρ:Bl)(bs:List Nat):Prop:=∀ a,EH a bs=true→αv ρ a=0∨αv ρ a=1
theorem zl{ρ:Bl}{bs:List Nat}(hb:Pv ρ bs)(a:Nat):∀ m,kY ρ (AGx bs a m)=αv ρ a*kY ρ m
 | []=>rfl
 | b::r=>by
  unfold AGx
  cases h:Nat.beq a b with
  | true=>
   have:=CL h;subst this;simp only[cond_true]
   cases h2:EH a bs with
   |true=>
    simp only[cond_true,kY]
    rcases hb a h2 with e|e<;>rw[e]<;>simp
   |false=>rfl
  |false=>
   simp only[cond_false]
   cases h2:Nat.blt a b with
   |true=>rfl
   |false=>simp only[cond_false,kY,zl hb a r];rw[← Xr,Y6 (αv ρ b),Xr]
def AF6(bs:List Nat):Xj→Xj→Xj
 | [],m=>m
 |a::r,m=>AGx bs a (AF6 bs r m)
theorem zJ{ρ:Bl}{bs:List Nat}(hb:Pv ρ bs):∀ m n,kY ρ (AF6 bs m n)=kY ρ m*kY ρ n
 | [],m=>by simp[AF6,kY]
 |a::r,m=>by simp only[AF6,zl hb,zJ hb r m,kY,Xr]
def rF(bs:List Nat)(m:Xj)(c:Int):Gd→Gd→Gd
 | [],acc=>acc
 |(n,d)::r,acc=>AA7 (AF6 bs m n) (c*d) (rF bs m c r acc)
theorem nV{ρ:Bl}{bs:List Nat}(hb:Pv ρ bs)(m:Xj)(c:Int):∀ p acc,F8 ρ (rF bs m c p acc)=c*kY ρ m*F8 ρ p+F8 ρ acc
 | [],acc=>by simp[rF,F8]
 | (n,d)::r,acc=>by
  simp only[rF,kG,nV hb m c r acc,F8,zJ hb,qC];have:c*d*(kY ρ m*kY ρ n)=c*kY ρ m*(d*kY ρ n):=by
   rw[Xr,Xr, ← Xr d,Y6 d,Xr]
  rw[this];omega
def VQ(bs:List Nat):Gd→Gd→Gd
 | [],_=>[]
 |(m,c)::r,q=>rF bs m c q (VQ bs r q)
theorem VH{ρ:Bl}{bs:List Nat}(hb:Pv ρ bs):∀ p q,F8 ρ (VQ bs p q)=F8 ρ p*F8 ρ q
 | [],q=>by simp[VQ,F8]
 |(m,c)::r,q=>by simp only[VQ,nV hb,VH hb r q,F8,sI]
def bJ(c:Int):Gd:=bif isZ c then [] else [([],c)]
theorem RP(ρ:Bl)(c:Int):F8 ρ (bJ c)=c:=by
 unfold bJ
 cases h:isZ c with
 |true=>rw[lF h];rfl
 |false=>simp[F8,kY]
def Jq(a:Nat):Gd:=[([a],1)]
theorem Gu(ρ:Bl)(a:Nat):F8 ρ (Jq a)=αv ρ a:=by simp[Jq,F8,kY]
def PQ(M:Nat):Gd→Bool
 | []=>true
 |(_,c)::r=>Nat.beq (c.natAbs%M) 0&&PQ M r
def AAz(M:Nat):Gd→Gd
 | []=>[]
 |(m,c)::r=>(m,c/M)::AAz M r
theorem mD(ρ:Bl)(M:Nat):∀ p,PQ M p=true→F8 ρ p=M*F8 ρ (AAz M p)
 | [],_=>by simp[AAz,F8]
 |(m,c)::r,h=>by
  simp only[PQ,Bd] at h;have h1:(M:Int) ∣ c:=Int.natAbs_dvd_natAbs.1 (by rw[Int.natAbs_natCast];exact Nat.dvd_of_mod_eq_zero (CL h.1));simp only[AAz,F8,mD ρ M r h.2,qC];rw[← Xr,Int.mul_ediv_cancel' h1]
theorem Wt(ρ:Bl){M:Nat}{p:Gd}(h:PQ M p=true):(M:Int) ∣ F8 ρ p:=⟨_,mD ρ M p h⟩
def Bj(a b:Int):Bool:=match a,b with
 | .ofNat m,.ofNat n=>Nat.ble m n
 | .ofNat _,.negSucc _=>false
 | .negSucc _,.ofNat _=>true
 | .negSucc m,.negSucc n=>Nat.ble n m
theorem BB{a b:Int}(h:Bj a b=true):a≤b:=by
 unfold Bj at h
 split at h
 ·exact Int.ofNat_le.2 (Na h)
 ·cases h
 ·exact Sk (Int.le_of_lt (Int.negSucc_lt_zero _)) (yP _)
 ·have:=Na h;simp only[Int.negSucc_eq];omega
def AHf(a b:Int):Int:=bif Bj a b then a else b
def AJU(a b:Int):Int:=bif Bj a b then b else a
theorem V7{a b:Int}(h:Bj a b=false):b≤a:=by
 unfold Bj at h
 split at h
 ·rename_i m n
  have:¬ m≤n:=fun hle=>by rw[zh hle] at h;cases h
  exact Int.ofNat_le.2 (by omega)
 ·exact Sk (Int.le_of_lt (Int.negSucc_lt_zero _)) (yP _)
 ·cases h
 ·rename_i m n
  have:¬ n≤m:=fun hle=>by rw[zh hle] at h;cases h
  simp only[Int.negSucc_eq];omega
theorem AIz(a b:Int):AHf a b≤a∧AHf a b≤b:=by
 unfold AHf
 cases h:Bj a b with
 |true=>exact⟨lw _,BB h⟩
 |false=>exact⟨V7 h,lw _⟩
theorem AHl(a b:Int):a≤AJU a b∧b≤AJU a b:=by
 unfold AJU
 cases h:Bj a b with
 |true=>exact⟨BB h,lw _⟩
 |false=>exact⟨lw _,V7 h⟩
theorem JV{k:IntKind}{n:Int}(h:JC k n):k.wrap n=n:=by
 obtain⟨h1,h2⟩:=h
 cases k<;>simp only[IntKind.min,IntKind.max,IntKind.bits,IntKind.signed] at h1 h2<;>simp[IntKind.wrap,IntKind.bits,IntKind.signed]<;>simp at h1 h2<;>omega
def K3:IntKind→Nat
 | .u8=>8 | .u16=>16 | .u32=>32 | .u64=>64
 |_=>0
theorem SQ{k:IntKind}(hk:Pm k=true)(n:Int):k.wrap n=n%2^K3 k:=by
 cases k<;>first|exact absurd hk (by decide)|(simp[IntKind.wrap,IntKind.bits,IntKind.signed,K3])
theorem Ox{k:IntKind}(hk:Pm k=true){n:Int}:JC k n↔0≤n∧n<2^K3 k:=by
 cases k<;>first|exact absurd hk (by decide)|(simp[JC,IntKind.min,IntKind.max,IntKind.bits,IntKind.signed,K3];try omega)
theorem nU{k:IntKind}(hk:Pm k=true):k.bits=K3 k:=by
 cases k<;>first|exact absurd hk (by decide)|rfl
theorem JL{k:IntKind}(hk:Pm k=true){x y:Int}(hx:JC k x)(hy:JC k y):
  Dl .and k x y=((x.toNat &&& y.toNat:Nat):Int)∧Dl .or k x y=((x.toNat ||| y.toNat:Nat):Int)∧Dl .xor k x y=((x.toNat ^^^ y.toNat:Nat):Int):=by
 have hx':=(Ox hk).1 hx;have hy':=(Ox hk).1 hy;obtain⟨a,rfl⟩:=cu hx'.1;obtain⟨b,rfl⟩:=cu hy'.1;have ha:a<2^K3 k:=by exact_mod_cast hx'.2
 have hb:b<2^K3 k:=by exact_mod_cast hy'.2
 have hbv:∀ c:Nat,c<2^K3 k→(BitVec.ofInt k.bits (c:Int)).toNat=c:=fun c hc=>by
  rw[nU hk,BitVec.toNat_ofInt];have:((c:Int)%((2^K3 k:Nat):Int)).toNat=c%2^K3 k:=by omega
  rw[this,Nat.mod_eq_of_lt hc]
 have hwr:∀ c:Nat,c<2^K3 k→k.wrap (c:Int)=c:=fun c hc=>JV ((Ox hk).2 ⟨yP _,by exact_mod_cast hc⟩)
 refine⟨?_,?_,?_⟩
 ·simp only[Dl,BitVec.toNat_and,hbv a ha,hbv b hb,TJ];exact hwr _ (Nat.lt_of_le_of_lt Nat.and_le_left ha)
 ·simp only[Dl,BitVec.toNat_or,hbv a ha,hbv b hb,TJ];exact hwr _ (Nat.or_lt_two_pow ha hb)
 ·simp only[Dl,BitVec.toNat_xor,hbv a ha,hbv b hb,TJ];exact hwr _ (Nat.xor_lt_two_pow ha hb)
theorem qU{k:IntKind}(hk:Pm k=true){x:Int}(hx:JC k x){m:Nat}(hm:m≤K3 k):Dl .and k x (2^m-1)=x%2^m:=by
 have hx':=(Ox hk).1 hx;have hp:(1:Int)≤2^m:=by exact_mod_cast Nat.one_le_two_pow
 have hle:(2:Int)^m≤2^K3 k:=by exact_mod_cast Nat.pow_le_pow_right (by omega) hm
 rw[(JL hk hx ((Ox hk).2 ⟨by omega,by omega⟩)).1];have:((2:Int)^m-1).toNat=2^m-1:=by
  have:(2:Int)^m=((2^m:Nat):Int):=by push_cast;rfl
  rw[this];omega
 rw[this,Nat.and_two_pow_sub_one_eq_mod];obtain⟨a,rfl⟩:=cu hx'.1;simp
theorem aN{k:IntKind}(hk:Pm k=true){x y:Int}(hx:JC k x)(hy:JC k y){m:Nat}(h:(2:Int)^m ∣ x)(hlt:y<2^m):Dl .or k x y=x+y∧Dl .or k y x=x+y:=by
 have hx':=(Ox hk).1 hx;have hy':=(Ox hk).1 hy;rw[(JL hk hx hy).2.1,(JL hk hy hx).2.1];obtain⟨c,rfl⟩:=h;have hp:(0:Int)<2^m:=by exact_mod_cast Nat.two_pow_pos m
 have hc:0≤c:=by
  rcases Int.lt_or_le c 0 with h|h
  ·have:=Int.mul_neg_of_pos_of_neg hp h;omega
  ·exact h
 obtain⟨n,rfl⟩:=cu hc;obtain⟨b,rfl⟩:=cu hy'.1;have e1:((2:Int)^m*(n:Int)).toNat=2^m*n:=by
  have:(2:Int)^m*(n:Int)=((2^m*n:Nat):Int):=by push_cast;rfl
  rw[this,TJ]
 have hb:b<2^m:=by exact_mod_cast hlt
 have e2:=Nat.two_pow_add_eq_or_of_lt hb n;rw[e1,TJ];refine⟨?_,?_⟩
 ·rw[← e2];push_cast;rfl
 ·rw[Nat.or_comm, ← e2];push_cast;rfl
end
section
open Go
structure AV where
 p:Gd
 lo:Int
 hi:Int
 tz:Nat
def AV.ok(ρ:Bl)(x:Int)(a:AV):Prop:=x=F8 ρ a.p∧a.lo≤x∧x≤a.hi∧(2:Int)^a.tz ∣ x
inductive FK where
 |mulc (c:Nat)
 |mul64
 |cmov
structure CS where
 vs:List (Nat×List AV)
 bs:List Nat
 mm:List (Nat×(X×X))
def PT(ρ:Bl)(s:CS):Prop:=
 (∀ i η,lk i s.vs=some η→∀ (k:Nat) (a:AV),η[k]? = some a→a.ok ρ ((ρ i).getD k 0))∧Pv ρ s.bs∧
  ∀ n x y,lk n s.mm=some (x,y)→0≤x.den ρ∧0≤y.den ρ∧(ρ n).getD 0 0=x.den ρ*y.den ρ/18446744073709551616
def CS.x(s:CS):X→Option AV
 | .lit c=>some ⟨bJ c,c,c,0⟩
 | .v i k=>match lk i s.vs with
  |some η=>η[k]?
  |none=>none
theorem CS.x_ok{ρ:Bl}{s:CS}(h:PT ρ s){x:X}{a:AV}(hx:s.x x=some a):a.ok ρ (x.den ρ):=by
 cases x with
 |lit c=>
  simp only[CS.x,Am] at hx;subst hx;exact⟨(RP ρ c).symm,lw _,lw _,by simp[X.den]⟩
 |v i k=>
  simp only[CS.x] at hx
  split at hx
  ·rename_i η hv;exact h.1 i η hv k a hx
  ·cases hx
def AO9(p:Gd)(i k m:Nat):Gd:=match p with
 | [([t],.ofNat 1)]=>bif Nat.blt (t%128+m) 128 then Jq (t+m) else Jq (enc i k m)
 |_=>Jq (enc i k m)
theorem AHG{ρ:Bl}{i k m:Nat}{p:Gd}(hk:k<4096)(hm:m<128)(h:(ρ i).getD k 0=F8 ρ p):F8 ρ (AO9 p i k m)=(ρ i).getD k 0/2^m:=by
 unfold AO9
 split
 ·rename_i t
  cases hb:Nat.blt (t%128+m) 128 with
  |false=>rw[cond_false,Gu,αv_enc ρ hk hm]
  |true=>
   have hb:=EF hb;rw[cond_true,Gu,h];have e:F8 ρ [([t],Int.ofNat 1)]=αv ρ t:=Gu ρ t;rw[e];unfold αv;rw[show (t+m)/524288=t/524288 by omega,show (t+m)/128=t/128 by omega,show (t+m)%128=t%128+m by omega,Int.pow_add,Int.ediv_ediv_of_nonneg];have:(0:Int)<2^(t%128):=by exact_mod_cast Nat.two_pow_pos _
   omega
 ·rw[Gu,αv_enc ρ hk hm]
def AIx(x:X)(a:AV)(m:Nat):Option AV:=match x with
 | .lit c=>bif Nat.blt m 128 then some ⟨bJ (c/2^m),c/2^m,c/2^m,0⟩ else none
 | .v i k=>bif Bj (2^m) a.hi || !(Bj 0 a.lo) then (bif Nat.blt k 4096&&Nat.blt m 128 then some ⟨AO9 a.p i k m,a.lo/2^m,a.hi/2^m,0⟩ else none) else some ⟨[],0,0,0⟩
theorem xW{ρ:Bl}{x:X}{a q:AV}{m:Nat}(ha:a.ok ρ (x.den ρ))(h:AIx x a m=some q):q.ok ρ (x.den ρ/2^m):=by
 have hp:(0:Int)<2^m:=by exact_mod_cast Nat.two_pow_pos m
 unfold AIx at h
 split at h
 ·rename_i c
  cases hb:Nat.blt m 128 with
  |false=>rw[hb] at h;cases h
  |true=>
   rw[hb,cond_true,Am] at h;subst h;exact⟨(RP ρ _).symm,lw _,lw _,by simp⟩
 ·rename_i i k
  cases hb:(Bj (2^m) a.hi || !(Bj 0 a.lo)) with
  | true=>
   rw[hb,cond_true] at h
   cases hc:(Nat.blt k 4096&&Nat.blt m 128) with
   |false=>rw[hc] at h;cases h
   |true=>
    rw[hc,cond_true,Am] at h;subst h;simp only[Bd] at hc;refine⟨?_,Int.ediv_le_ediv hp ha.2.1,Int.ediv_le_ediv hp ha.2.2.1,by simp⟩;exact (AHG (EF hc.1) (EF hc.2) ha.1).symm
  | false=>
   rw[hb,cond_false,Am] at h;subst h;rw[Bool.or_eq_false_iff,Bool.not_eq_false'] at hb;have h1:a.hi<2^m:=by
    rcases Int.lt_or_le a.hi (2^m) with h|h
    ·exact h
    ·have:=hb.1;have h2:=V7 (a:=a.hi) (b:=2^m)
     cases h3:Bj a.hi (2^m) with
     | true=>
      have h4:=BB h3;have:a.hi=2^m:=Int.le_antisymm h4 h;rw[this] at hb;have:Bj ((2:Int)^m) (2^m)=true:=by
       have:(2:Int)^m=((2^m:Nat):Int):=by push_cast;rfl
       rw[this];exact zh (JP _)
      rw[this] at hb;cases hb.1
     | false=>
      exfalso;have h5:¬ (2:Int)^m≤a.hi:=fun hle=>by
       have:(2:Int)^m=((2^m:Nat):Int):=by push_cast;rfl
       rw[this] at hle hb;have h6:0≤a.hi:=Sk (yP _) hle;obtain⟨z,hz⟩:=cu h6;rw[hz] at hle hb;have:Bj ((2^m:Nat):Int) (z:Int)=true:=zh (by exact_mod_cast hle);rw[this] at hb;cases hb.1
      exact h5 h
   have h0:=BB hb.2;have hz:X.den ρ (.v i k)/2^m=0:=Int.ediv_eq_zero_of_lt (Sk h0 ha.2.1) (Int.lt_of_le_of_lt ha.2.2.1 h1);rw[hz];exact⟨rfl,lw _,lw _,by simp⟩
def AEn(x:X)(a:AV)(m:Nat):Option AV:=match AIx x a m with
 |some q=>(match q.p with
  | []=>some ⟨a.p,a.lo,a.hi,a.tz⟩
  |_=>some ⟨De a.p (Cq (-(2^m:Nat)) q.p),0,(2^m:Nat)-1,0⟩)
 |none=>none
theorem jh{ρ:Bl}{x:X}{a q:AV}{m:Nat}(ha:a.ok ρ (x.den ρ))(h:AEn x a m=some q):q.ok ρ (x.den ρ%2^m):=by
 have hp:(0:Int)<2^m:=by exact_mod_cast Nat.two_pow_pos m
 have hcast:((2^m:Nat):Int)=2^m:=by push_cast;rfl
 unfold AEn at h
 split at h
 ·rename_i s hs
  have hs':=xW ha hs;have hdm:=Int.mul_ediv_add_emod (x.den ρ) (2^m)
  split at h
  ·rename_i hq
   simp only[Am] at h;subst h;have:x.den ρ/2^m=0:=by rw[hs'.1,hq];rfl
   rw[this,Int.mul_zero,zcx] at hdm;rw[hdm];exact ha
  ·simp only[Am] at h;subst h;refine⟨?_,Int.emod_nonneg _ (by omega),by rw[hcast];have:=Int.emod_lt_of_pos (x.den ρ) hp;simp only;omega,by simp⟩;rw[Cc,CW, ← ha.1, ← hs'.1,hcast,Int.neg_mul];omega
 ·cases h
def uU(c:Int):Option Nat:=match c with
 | .ofNat n=>bif Nat.beq (2^(Nat.log2 (n+1))) (n+1) then some (Nat.log2 (n+1)) else none
 |_=>none
theorem ABL{c:Int}{m:Nat}(h:uU c=some m):c=2^m-1:=by
 unfold uU at h
 split at h
 ·rename_i n
  cases hb:Nat.beq (2^(Nat.log2 (n+1))) (n+1) with
  |false=>rw[hb] at h;cases h
  |true=>
   rw[hb,cond_true,Am] at h;subst h;have:=CL hb;have h2:((2^(Nat.log2 (n+1)):Nat):Int)=((n+1:Nat):Int):=by rw[this]
   have h3:((2^(Nat.log2 (n+1)):Nat):Int)=(2:Int)^(Nat.log2 (n+1)):=by push_cast;rfl
   rw[← h3,h2];show (n:Int)=_;omega
 ·cases h
def Q5(k:IntKind)(lo hi:Int):Bool:=Bj k.min lo&&Bj hi k.max
theorem Kq{k:IntKind}{lo hi x:Int}(h:Q5 k lo hi=true)(h1:lo≤x)(h2:x≤hi):JC k x:=by
 simp only[Q5,Bd] at h;exact⟨Sk (BB h.1) h1,Sk h2 (BB h.2)⟩
def AV.mk0(p:Gd)(lo hi:Int):AV:=⟨p,lo,hi,0⟩
def ADW(κ:IntKind)(n:Nat):Option AV:=bif Pm κ then some (.mk0 (Jq (enc n 0 0)) 0 κ.max) else none
def ADk(bs:List Nat)(op:BinOp)(κ:IntKind)(x y:X)(a b:AV)(n:Nat):Option AV:=
 match op with
 | .add=>bif Q5 κ (a.lo+b.lo) (a.hi+b.hi) then some (.mk0 (De a.p b.p) (a.lo+b.lo) (a.hi+b.hi)) else ADW κ n
 | .sub=>bif Q5 κ (a.lo-b.hi) (a.hi-b.lo) then some (.mk0 (De a.p (Cq (-1) b.p)) (a.lo-b.hi) (a.hi-b.lo)) else ADW κ n
 | .mul=>bif Bj 0 a.lo&&Bj 0 b.lo&&Q5 κ (a.lo*b.lo) (a.hi*b.hi) then some (.mk0 (VQ bs a.p b.p) (a.lo*b.lo) (a.hi*b.hi)) else ADW κ n
 | .and=>bif Pm κ&&Q5 κ a.lo a.hi&&Q5 κ b.lo b.hi then (match y with
  | .lit c=>(match uU c with
   |some m=>bif Nat.ble m (K3 κ) then AEn x a m else none
   |none=>none)
  |_=>none) else none
 | .or=>bif Pm κ&&Q5 κ a.lo a.hi&&Q5 κ b.lo b.hi then
   (bif Bj b.hi (2^a.tz-1)&&Q5 κ (a.lo+b.lo) (a.hi+b.hi) then some (.mk0 (De a.p b.p) (a.lo+b.lo) (a.hi+b.hi))
   else bif Bj a.hi (2^b.tz-1)&&Q5 κ (a.lo+b.lo) (a.hi+b.hi) then some (.mk0 (De a.p b.p) (a.lo+b.lo) (a.hi+b.hi)) else none) else none
 | .shr=>(match y with
  | .lit (.ofNat m)=>bif Nat.blt m κ.bits then AIx x a m else none
  |_=>none)
 | .shl=>(match y with
  | .lit (.ofNat m)=>bif Pm κ&&Nat.ble m (K3 κ)&&Bj 0 a.lo then (match AEn x a (K3 κ-m) with
   |some r=>some ⟨Cq (2^m:Nat) r.p,(2^m:Nat)*r.lo,(2^m:Nat)*r.hi,m⟩
   |none=>none) else none
  |_=>none)
 | .eql | .neq | .lss | .leq | .gtr | .geq=>some (.mk0 (Jq (enc n 0 0)) 0 1)
 |_=>none
def yI (M:List (Nat×FK)) (s:CS) (n:Nat) (d:FR):Option (List AV×List Nat×List (Nat×(X×X))):=
 match d.op,d.args with
 | .bin op κ,[.xs [x],.xs [y]]=>(match s.x x,s.x y with
  |some a,some b=>(match ADk s.bs op κ x y a b n with
   |some r=>some ([r],bif TS op then [enc n 0 0] else [],[])
   |none=>none)
  |_,_=>none)
 | .conv κ,[.xs [x]]=>(match s.x x with
  | some a=>bif Q5 κ a.lo a.hi then some ([⟨a.p,a.lo,a.hi,a.tz⟩],[],[])
   else bif Pm κ&&Bj 0 a.lo then (match AEn x a (K3 κ) with
    |some r=>some ([r],[],[])
    |none=>none) else none
  |none=>none)
 | .add64,[.xs [x],.xs [y],.xs [z]]=>(match s.x x,s.x y,s.x z with
  | some a,some b,some c=>
   bif Bj 0 a.lo&&Bj 0 b.lo&&Bj 0 c.lo&&Bj c.hi 1&&Q5 .u64 a.lo a.hi&&Q5 .u64 b.lo b.hi then
    let S:=De (De a.p b.p) c.p
    bif Bj (a.hi+b.hi+c.hi) 18446744073709551615 then some ([.mk0 S (a.lo+b.lo+c.lo) (a.hi+b.hi+c.hi),.mk0 [] 0 0],[],[])
    else bif PQ 18446744073709551616 S then some ([.mk0 [] 0 0,.mk0 (AAz 18446744073709551616 S) 0 1],[],[])
    else some ([.mk0 (De S (Cq (-18446744073709551616) (Jq (enc n 1 0)))) 0 18446744073709551615,.mk0 (Jq (enc n 1 0)) 0 1],[enc n 1 0],[])
   else none
  |_,_,_=>none)
 | .sub64,[.xs [x],.xs [y],.xs [z]]=>(match s.x x,s.x y,s.x z with
  | some a,some b,some c=>
   bif Bj 0 a.lo&&Bj 0 b.lo&&Bj 0 c.lo&&Bj c.hi 1&&Q5 .u64 a.lo a.hi&&Q5 .u64 b.lo b.hi then
    some ([.mk0 (De (De a.p (Cq (-1) (De b.p c.p))) (Cq 18446744073709551616 (Jq (enc n 1 0)))) 0 18446744073709551615,.mk0 (Jq (enc n 1 0)) 0 1],[enc n 1 0],[])
   else none
  |_,_,_=>none)
 | .fn f true o,as=>(match lk f M with
  | some (.mulc c)=>(match o,as with
   |0,[.xs [x]]=>(match s.x x with
    |some a=>bif Bj 0 a.lo&&Q5 .u64 a.lo a.hi&&Q5 .u64 (c*a.lo) (c*a.hi) then some ([.mk0 (Cq c a.p) (c*a.lo) (c*a.hi)],[],[]) else none
    |none=>none)
   |_,_=>none)
  | some .mul64=>(match as with
   | [.xs [x],.xs [y]]=>(match s.x x,s.x y with
    | some a,some b=>bif Bj 0 a.lo&&Bj 0 b.lo&&Q5 .u64 a.lo a.hi&&Q5 .u64 b.lo b.hi then (match o with
     |0=>some ([.mk0 (Jq (enc n 0 0)) (a.lo*b.lo/18446744073709551616) (a.hi*b.hi/18446744073709551616)],[],[(n,(x,y))])
     |1=>bif Bj (a.hi*b.hi) 18446744073709551615 then some ([.mk0 (VQ s.bs a.p b.p) (a.lo*b.lo) (a.hi*b.hi)],[],[])
      else (match lk (n-1) s.mm with
      |some (x',y')=>bif x.beq x'&&y.beq y' then some ([.mk0 (De (VQ s.bs a.p b.p) (Cq (-18446744073709551616) (Jq (enc (n-1) 0 0)))) 0 18446744073709551615],[],[]) else none
      |none=>none)
     |_=>none) else none
    |_,_=>none)
   |_=>none)
  | some .cmov=>(match o,as with
   |0,[_,.xs [c],.xs [z],.xs [y]]=>(match s.x c,s.x z,s.x y with
    |some c,some a,some b=>bif Bj 0 c.lo&&Bj c.hi 1&&Q5 .u64 a.lo a.hi&&Q5 .u64 b.lo b.hi then some ([.mk0 (De a.p (VQ s.bs c.p (De b.p (Cq (-1) a.p)))) (AHf a.lo b.lo) (AJU a.hi b.hi)],[],[]) else none
    |_,_,_=>none)
   |_,_=>none)
  |none=>none)
 |_,_=>none
end
section
open Go
def vW(T:Tb)(f:Nat):FK→Prop
 | .mulc c=>∀ x,JC .u64 x→OP.den T (.fn f true 0) [[x]]= [IntKind.u64.wrap (c*x)]
 | .mul64=>∀ x y,JC .u64 x→JC .u64 y→OP.den T (.fn f true 0) [[x],[y]]= [x*y/18446744073709551616]∧OP.den T (.fn f true 1) [[x],[y]]= [x*y%18446744073709551616]
 | .cmov=>∀ o c z y,c=0∨c=1→JC .u64 z→JC .u64 y→OP.den T (.fn f true 0) [o,[c],[z],[y]]= [if c=0 then z else y]
def Xx(T:Tb)(M:List (Nat×FK)):Prop:=∀ f κ,lk f M=some κ→vW T f κ
theorem YJ(x:Int):d1 [x]=x:=rfl
theorem JB{ρ:Bl}{x:Int}{p:Gd}{lo hi:Int}(h1:x=F8 ρ p)(h2:lo≤x)(h3:x≤hi):(AV.mk0 p lo hi).ok ρ x:=⟨h1,h2,h3,by simp[AV.mk0]⟩
theorem AFL{ρ:Bl}{bs:List Nat}(hbs:Pv ρ bs){op:BinOp}{κ:IntKind}{x y:X}{a b r:AV}{n:Nat}(ha:a.ok ρ (x.den ρ))(hb:b.ok ρ (y.den ρ))(hn:(ρ n).getD 0 0=Ao op κ (x.den ρ) (y.den ρ))(h:ADk bs op κ x y a b n=some r):
  r.ok ρ (Ao op κ (x.den ρ) (y.den ρ)):=by
 have hcmp:∀ q:Bool,Ao op κ (x.den ρ) (y.den ρ)=K9 q→some (AV.mk0 (Jq (enc n 0 0)) 0 1)=some r→r.ok ρ (Ao op κ (x.den ρ) (y.den ρ)):=fun q hq hr=>by
  simp only[Am] at hr;subst hr;refine JB ?_ ?_ ?_
  ·rw[Gu,αv_enc0 ρ (by omega),hn]
  ·rw[hq];cases q<;>simp[K9]
  ·rw[hq];cases q<;>simp[K9]
 have hany:∀ z:Int,Ao op κ (x.den ρ) (y.den ρ)=κ.wrap z→ADW κ n=some r→r.ok ρ (Ao op κ (x.den ρ) (y.den ρ)):=fun z hz hr=>by
  unfold ADW at hr
  cases hu:Pm κ with
  |false=>rw[hu] at hr;cases hr
  |true=>
   rw[hu,cond_true,Am] at hr;subst hr;have hw:=UQ κ z;rw[← hz] at hw;exact JB (by rw[Gu,αv_enc0 ρ (by omega),hn]) ((Ox hu).1 hw).1 hw.2
 cases op<;>simp only[ADk,reduceCtorEq] at h
 case add=>
  cases hc:Q5 κ (a.lo+b.lo) (a.hi+b.hi) with
  |false=>rw[hc] at h;exact hany _ rfl h
  |true=>
   rw[hc,cond_true,Am] at h;subst h;have h1:a.lo+b.lo≤x.den ρ+y.den ρ:=Int.add_le_add ha.2.1 hb.2.1;have h2:x.den ρ+y.den ρ≤a.hi+b.hi:=Int.add_le_add ha.2.2.1 hb.2.2.1;simp only[Ao];rw[JV (Kq hc h1 h2)];exact JB (by rw[Cc, ← ha.1, ← hb.1]) h1 h2
 case sub=>
  cases hc:Q5 κ (a.lo-b.hi) (a.hi-b.lo) with
  |false=>rw[hc] at h;exact hany _ rfl h
  |true=>
   rw[hc,cond_true,Am] at h;subst h;have h1:a.lo-b.hi≤x.den ρ-y.den ρ:=Int.sub_le_sub ha.2.1 hb.2.2.1;have h2:x.den ρ-y.den ρ≤a.hi-b.lo:=Int.sub_le_sub ha.2.2.1 hb.2.1;simp only[Ao];rw[JV (Kq hc h1 h2)];exact JB (by rw[Cc,CW, ← ha.1, ← hb.1];omega) h1 h2
 case mul=>
  cases hc:(Bj 0 a.lo&&Bj 0 b.lo&&Q5 κ (a.lo*b.lo) (a.hi*b.hi)) with
  |false=>rw[hc] at h;exact hany _ rfl h
  |true=>
   rw[hc,cond_true,Am] at h;subst h;simp only[Bd] at hc;have p1:=BB hc.1.1;have p2:=BB hc.1.2;have h1:a.lo*b.lo≤x.den ρ*y.den ρ:=Int.mul_le_mul ha.2.1 hb.2.1 p2 (Sk p1 ha.2.1);have h2:x.den ρ*y.den ρ≤a.hi*b.hi:=Int.mul_le_mul ha.2.2.1 hb.2.2.1 (Sk p2 hb.2.1) (Sk (Sk p1 ha.2.1) ha.2.2.1);simp only[Ao];rw[JV (Kq hc.2 h1 h2)];exact JB (by rw[VH hbs, ← ha.1, ← hb.1]) h1 h2
 case and=>
  cases hc:(Pm κ&&Q5 κ a.lo a.hi&&Q5 κ b.lo b.hi) with
  |false=>rw[hc] at h;cases h
  | true=>
   rw[hc,cond_true] at h;simp only[Bd] at hc
   split at h
   ·rename_i c
    split at h
    ·rename_i m hm
     cases hle:Nat.ble m (K3 κ) with
     |false=>rw[hle] at h;cases h
     |true=>
      rw[hle,cond_true] at h;have hx:=Kq hc.1.2 ha.2.1 ha.2.2.1;simp only[Ao,X.den_lit];rw[ABL hm,qU hc.1.1 hx (Na hle)];exact jh ha h
    ·cases h
   ·cases h
 case or=>
  cases hc:(Pm κ&&Q5 κ a.lo a.hi&&Q5 κ b.lo b.hi) with
  |false=>rw[hc] at h;cases h
  | true=>
   rw[hc,cond_true] at h;simp only[Bd] at hc;have hx:=Kq hc.1.2 ha.2.1 ha.2.2.1;have hy:=Kq hc.2 hb.2.1 hb.2.2.1;have h1:a.lo+b.lo≤x.den ρ+y.den ρ:=Int.add_le_add ha.2.1 hb.2.1;have h2:x.den ρ+y.den ρ≤a.hi+b.hi:=Int.add_le_add ha.2.2.1 hb.2.2.1;have fin:Ao .or κ (x.den ρ) (y.den ρ)=x.den ρ+y.den ρ→some (AV.mk0 (De a.p b.p) (a.lo+b.lo) (a.hi+b.hi))=some r→r.ok ρ (Ao .or κ (x.den ρ) (y.den ρ)):=fun e hr=>by
    simp only[Am] at hr;subst hr;rw[e];exact JB (by rw[Cc, ← ha.1, ← hb.1]) h1 h2
   cases hd:(Bj b.hi (2^a.tz-1)&&Q5 κ (a.lo+b.lo) (a.hi+b.hi)) with
   |true=>
    rw[hd,cond_true] at h;simp only[Bd] at hd;have:=BB hd.1;exact fin (aN hc.1.1 hx hy ha.2.2.2 (by have:=hb.2.2.1;omega)).1 h
   | false=>
    rw[hd,cond_false] at h
    cases he:(Bj a.hi (2^b.tz-1)&&Q5 κ (a.lo+b.lo) (a.hi+b.hi)) with
    |false=>rw[he] at h;cases h
    |true=>
     rw[he,cond_true] at h;simp only[Bd] at he;have:=BB he.1;refine fin ?_ h;have:=(aN hc.1.1 hy hx hb.2.2.2 (by have:=ha.2.2.1;omega)).2;rw[Int.add_comm];exact this
 case shr=>
  split at h
  ·rename_i m
   cases hm:Nat.blt m κ.bits with
   |false=>rw[hm] at h;cases h
   | true=>
    rw[hm,cond_true] at h;have hlt:=EF hm;have hmin:min (X.den ρ (.lit (Int.ofNat m))).toNat κ.bits=m:=by
     show min ((m:Int)).toNat κ.bits=m;rw[TJ];omega
    simp only[Ao];rw[hmin,Int.fdiv_eq_ediv_of_nonneg _ (by exact_mod_cast Nat.zero_le (2^m))];exact xW ha h
  ·cases h
 case shl=>
  split at h
  ·rename_i m
   cases hm:(Pm κ&&Nat.ble m (K3 κ)&&Bj 0 a.lo) with
   |false=>rw[hm] at h;cases h
   | true=>
    rw[hm,cond_true] at h;simp only[Bd] at hm;have hle:=Na hm.1.2
    split at h
    ·rename_i r' hr
     simp only[Am] at h;subst h;have hr':=jh ha hr;have hmin:min (X.den ρ (.lit (Int.ofNat m))).toNat κ.bits=m:=by
      show min ((m:Int)).toNat κ.bits=m;rw[TJ,nU hm.1.1];omega
     have hcast:((2^m:Nat):Int)=2^m:=by push_cast;rfl
     have hp:(0:Int)<2^m:=by exact_mod_cast Nat.two_pow_pos m
     have key:Ao .shl κ (x.den ρ) (X.den ρ (.lit (Int.ofNat m)))=2^m*(x.den ρ%2^(K3 κ-m)):=by
      simp only[Ao];rw[hmin,SQ hm.1.1];have:(2:Int)^K3 κ=2^m*2^(K3 κ-m):=by rw[← Int.pow_add];congr 1;omega
      rw[this,Y6 (x.den ρ),Int.mul_emod_mul_of_pos _ _ hp]
     rw[key];refine⟨?_,?_,?_,⟨_,rfl⟩⟩
     ·rw[CW, ← hr'.1,hcast]
     ·rw[hcast];exact Int.mul_le_mul_of_nonneg_left hr'.2.1 (by omega)
     ·rw[hcast];exact Int.mul_le_mul_of_nonneg_left hr'.2.2.1 (by omega)
    ·cases h
  ·cases h
 case eql=>exact hcmp _ rfl h
 case neq=>exact hcmp _ rfl h
 case lss=>exact hcmp _ rfl h
 case leq=>exact hcmp _ rfl h
 case gtr=>exact hcmp _ rfl h
 case geq=>exact hcmp _ rfl h
theorem ATD{op:BinOp}{κ:IntKind}{x y:Int}(h:TS op=true):Ao op κ x y=0∨Ao op κ x y=1:=by
 have:∀ q:Bool,K9 q=0∨K9 q=1:=fun q=>by cases q<;>simp[K9]
 cases op<;>first|exact absurd h (by decide)|exact this _
theorem QF{a r:AV}{k:Nat}(h: [r][k]? = some a):k=0∧a=r:=by
 cases k with
 |zero=>simp at h;exact⟨rfl,h.symm⟩
 |succ k=>simp at h
theorem Zy{a r q:AV}{k:Nat}(h: [r,q][k]? = some a):(k=0∧a=r)∨(k=1∧a=q):=by
 cases k with
 |zero=>simp at h;exact .inl ⟨rfl,h.symm⟩
 |succ k=>cases k with
  |zero=>simp at h;exact .inr ⟨rfl,h.symm⟩
  |succ k=>simp at h
theorem Pv.nil(ρ:Bl):Pv ρ []:=fun a h=>by simp[EH] at h
theorem Pv.one{ρ:Bl}{a:Nat}(h:αv ρ a=0∨αv ρ a=1):Pv ρ [a]:=fun b hb=>by
 simp only[EH,Bool.or_false] at hb;have:=CL hb;subst this;exact h
theorem rT {T:Tb} {M:List (Nat×FK)} (hM:Xx T M) {ρ:Bl} {s:CS} (hs:PT ρ s) {n:Nat} {d:FR} (hn:ρ n=d.den T ρ) {η:List AV} {nb:List Nat} {nm:List (Nat×(X×X))} (h:yI M s n d=some (η,nb,nm)):
  (∀ (k:Nat) (a:AV),η[k]? = some a→a.ok ρ ((ρ n).getD k 0))∧Pv ρ nb∧∀ m x y,lk m nm=some (x,y)→0≤x.den ρ∧0≤y.den ρ∧(ρ m).getD 0 0=x.den ρ*y.den ρ/18446744073709551616:=by
 have nomm:∀ m x y,lk m ([]:List (Nat×(X×X)))=some (x,y)→0≤x.den ρ∧0≤y.den ρ∧(ρ m).getD 0 0=x.den ρ*y.den ρ/18446744073709551616:=fun m x y h=>by simp[lk] at h
 obtain⟨op,args⟩:=d;unfold yI at h;simp only at h
 split at h
 ·rename_i op κ x y
  split at h
  ·rename_i a b hx hy
   split at h
   ·rename_i r hr
    simp only[Am,Prod.mk.injEq] at h;obtain⟨rfl,rfl,rfl⟩:=h;have hv:(ρ n).getD 0 0=Ao op κ (x.den ρ) (y.den ρ):=by
     rw[hn];rfl
    have hok:=AFL hs.2.1 (CS.x_ok hs hx) (CS.x_ok hs hy) hv hr;refine⟨fun k a' ha=>?_,?_,nomm⟩
    ·obtain⟨rfl,rfl⟩:=QF ha;rw[hv];exact hok
    ·cases hc:TS op with
     |false=>exact Pv.nil _
     |true=>
      refine Pv.one ?_;rw[αv_enc0 ρ (by omega),hv];exact ATD hc
   ·cases h
  ·cases h
 ·rename_i κ x
  have hv:(ρ n).getD 0 0=κ.wrap (x.den ρ):=by rw[hn];rfl
  split at h
  ·rename_i a hx
   have ha:=CS.x_ok hs hx
   cases hb:Q5 κ a.lo a.hi with
   |true=>
    rw[hb,cond_true] at h;simp only[Am,Prod.mk.injEq] at h;obtain⟨rfl,rfl,rfl⟩:=h;refine⟨fun k a' ha'=>?_,Pv.nil _,nomm⟩;obtain⟨rfl,rfl⟩:=QF ha';rw[hv,JV (Kq hb ha.2.1 ha.2.2.1)];exact ha
   | false=>
    rw[hb,cond_false] at h
    cases hc:(Pm κ&&Bj 0 a.lo) with
    |false=>rw[hc] at h;cases h
    | true=>
     rw[hc,cond_true] at h;simp only[Bd] at hc
     split at h
     ·rename_i r hr
      simp only[Am,Prod.mk.injEq] at h;obtain⟨rfl,rfl,rfl⟩:=h;refine⟨fun k a' ha'=>?_,Pv.nil _,nomm⟩;obtain⟨rfl,rfl⟩:=QF ha';rw[hv,SQ hc.1];exact jh ha hr
     ·cases h
  ·cases h
 ·rename_i x y z
  split at h
  ·rename_i a b c hx hy hz
   have ha:=CS.x_ok hs hx;have hb:=CS.x_ok hs hy;have hc:=CS.x_ok hs hz
   cases hg:(Bj 0 a.lo&&Bj 0 b.lo&&Bj 0 c.lo&&Bj c.hi 1&&Q5 .u64 a.lo a.hi&&Q5 .u64 b.lo b.hi) with
   |false=>rw[hg] at h;cases h
   |true=>
   rw[hg,cond_true] at h;simp only[Bd] at hg;obtain⟨⟨⟨⟨⟨g1,g2⟩,g3⟩,g4⟩,g5⟩,g6⟩:=hg;have ra:=Kq g5 ha.2.1 ha.2.2.1;have rb:=Kq g6 hb.2.1 hb.2.2.1;have ra2:x.den ρ≤18446744073709551615:=ra.2;have rb2:y.den ρ≤18446744073709551615:=rb.2;have ra1:0≤x.den ρ:=ra.1;have rb1:0≤y.den ρ:=rb.1;have rc1:0≤z.den ρ:=Sk (BB g3) hc.2.1;have rc2:z.den ρ≤1:=Sk hc.2.2.1 (BB g4);have hS:x.den ρ+y.den ρ+z.den ρ=F8 ρ (De (De a.p b.p) c.p):=by rw[Cc,Cc, ← ha.1, ← hb.1, ← hc.1]
   have v0:(ρ n).getD 0 0=(x.den ρ+y.den ρ+z.den ρ)%18446744073709551616:=by rw[hn];rfl
   have v1:(ρ n).getD 1 0=if x.den ρ+y.den ρ+z.den ρ<18446744073709551616 then 0 else 1:=by rw[hn];rfl
   cases h1:Bj (a.hi+b.hi+c.hi) 18446744073709551615 with
   | true=>
    rw[h1,cond_true] at h;simp only[Am,Prod.mk.injEq] at h;obtain⟨rfl,rfl,rfl⟩:=h;have h2:=BB h1;have h3:x.den ρ+y.den ρ+z.den ρ≤a.hi+b.hi+c.hi:=Int.add_le_add (Int.add_le_add ha.2.2.1 hb.2.2.1) hc.2.2.1;refine⟨fun k a' ha'=>?_,Pv.nil _,nomm⟩
    rcases Zy ha' with ⟨rfl,rfl⟩|⟨rfl,rfl⟩
    ·rw[v0,zcd (by omega) (by omega)];exact JB hS (Int.add_le_add (Int.add_le_add ha.2.1 hb.2.1) hc.2.1) h3
    ·rw[v1,if_pos (by omega)];exact JB rfl (lw _) (lw _)
   |false=>
   rw[h1,cond_false] at h
   cases h2:PQ 18446744073709551616 (De (De a.p b.p) c.p) with
   | true=>
    rw[h2,cond_true] at h;simp only[Am,Prod.mk.injEq] at h;obtain⟨rfl,rfl,rfl⟩:=h;have hd:=mD ρ _ _ h2;rw[← hS] at hd;have hd':x.den ρ+y.den ρ+z.den ρ=18446744073709551616*F8 ρ (AAz 18446744073709551616 (De (De a.p b.p) c.p)):=hd;refine⟨fun k a' ha'=>?_,Pv.nil _,nomm⟩
    rcases Zy ha' with ⟨rfl,rfl⟩|⟨rfl,rfl⟩
    ·rw[v0,hd',Int.mul_emod_right];exact JB rfl (lw _) (lw _)
    ·rw[v1];refine JB ?_ ?_ ?_
     ·split<;>omega
     ·split<;>omega
     ·split<;>omega
   | false=>
    rw[h2,cond_false] at h;simp only[Am,Prod.mk.injEq] at h;obtain⟨rfl,rfl,rfl⟩:=h;refine⟨fun k a' ha'=>?_,Pv.one ?_,nomm⟩
    ·rcases Zy ha' with ⟨rfl,rfl⟩|⟨rfl,rfl⟩
     ·refine JB ?_ ?_ ?_
      ·rw[Cc,CW,Gu,αv_enc0 ρ (by omega),v0,v1, ← hS];split<;>omega
      ·rw[v0];omega
      ·rw[v0];omega
     ·refine JB ?_ ?_ ?_
      ·rw[Gu,αv_enc0 ρ (by omega)]
      ·rw[v1];split<;>omega
      ·rw[v1];split<;>omega
    ·rw[αv_enc0 ρ (by omega),v1];split<;>simp
  ·cases h
 ·rename_i x y z
  split at h
  ·rename_i a b c hx hy hz
   have ha:=CS.x_ok hs hx;have hb:=CS.x_ok hs hy;have hc:=CS.x_ok hs hz
   cases hg:(Bj 0 a.lo&&Bj 0 b.lo&&Bj 0 c.lo&&Bj c.hi 1&&Q5 .u64 a.lo a.hi&&Q5 .u64 b.lo b.hi) with
   |false=>rw[hg] at h;cases h
   |true=>
   rw[hg,cond_true] at h;simp only[Bd] at hg;obtain⟨⟨⟨⟨⟨g1,g2⟩,g3⟩,g4⟩,g5⟩,g6⟩:=hg;have ra:=Kq g5 ha.2.1 ha.2.2.1;have rb:=Kq g6 hb.2.1 hb.2.2.1;have ra2:x.den ρ≤18446744073709551615:=ra.2;have rb2:y.den ρ≤18446744073709551615:=rb.2;have ra1:0≤x.den ρ:=ra.1;have rb1:0≤y.den ρ:=rb.1;have rc1:0≤z.den ρ:=Sk (BB g3) hc.2.1;have rc2:z.den ρ≤1:=Sk hc.2.2.1 (BB g4);have v0:(ρ n).getD 0 0=(x.den ρ+18446744073709551616-y.den ρ-z.den ρ)%18446744073709551616:=by rw[hn];rfl
   have v1:(ρ n).getD 1 0=if x.den ρ<y.den ρ+z.den ρ then 1 else 0:=by rw[hn];rfl
   simp only[Am,Prod.mk.injEq] at h;obtain⟨rfl,rfl,rfl⟩:=h;refine⟨fun k a' ha'=>?_,Pv.one ?_,nomm⟩
   ·rcases Zy ha' with ⟨rfl,rfl⟩|⟨rfl,rfl⟩
    ·refine JB ?_ ?_ ?_
     ·rw[Cc,Cc,CW,CW,Cc,Gu,αv_enc0 ρ (by omega),v0,v1, ← ha.1, ← hb.1, ← hc.1];split<;>omega
     ·rw[v0];omega
     ·rw[v0];omega
    ·refine JB ?_ ?_ ?_
     ·rw[Gu,αv_enc0 ρ (by omega)]
     ·rw[v1];split<;>omega
     ·rw[v1];split<;>omega
   ·rw[αv_enc0 ρ (by omega),v1];split<;>simp
  ·cases h
 ·skip
  rename_i f o
  split at h
  ·rename_i c hf
   have hk:vW T f (.mulc c):=hM f _ hf
   split at h
   ·rename_i x
    split at h
    ·rename_i a hx
     have ha:=CS.x_ok hs hx
     cases hg:(Bj 0 a.lo&&Q5 .u64 a.lo a.hi&&Q5 .u64 (c*a.lo) (c*a.hi)) with
     |false=>rw[hg] at h;cases h
     |true=>
     rw[hg,cond_true] at h;simp only[Bd] at hg;simp only[Am,Prod.mk.injEq] at h;obtain⟨rfl,rfl,rfl⟩:=h;have ra:=Kq hg.1.2 ha.2.1 ha.2.2.1;have h1:(c:Int)*a.lo≤c*x.den ρ:=Int.mul_le_mul_of_nonneg_left ha.2.1 (yP _);have h2:(c:Int)*x.den ρ≤c*a.hi:=Int.mul_le_mul_of_nonneg_left ha.2.2.1 (yP _);have v0:(ρ n).getD 0 0=c*x.den ρ:=by
      rw[hn];have:=hk (x.den ρ) ra;show (OP.den T (.fn f true 0) [[x.den ρ]]).getD 0 0=_;rw[this,Qu,JV (Kq hg.2 h1 h2)]
     refine⟨fun k a' ha'=>?_,Pv.nil _,nomm⟩;obtain⟨rfl,rfl⟩:=QF ha';rw[v0];exact JB (by rw[CW, ← ha.1]) h1 h2
    ·cases h
   ·cases h
  ·rename_i hf
   have hk:vW T f .mul64:=hM f _ hf
   split at h
   ·rename_i x y
    split at h
    ·rename_i a b hx hy
     have ha:=CS.x_ok hs hx;have hb:=CS.x_ok hs hy
     cases hg:(Bj 0 a.lo&&Bj 0 b.lo&&Q5 .u64 a.lo a.hi&&Q5 .u64 b.lo b.hi) with
     |false=>rw[hg] at h;cases h
     |true=>
     rw[hg,cond_true] at h;simp only[Bd] at hg;have p1:=BB hg.1.1.1;have p2:=BB hg.1.1.2;have ra:=Kq hg.1.2 ha.2.1 ha.2.2.1;have rb:=Kq hg.2 hb.2.1 hb.2.2.1;have x0:0≤x.den ρ:=Sk p1 ha.2.1;have y0:0≤y.den ρ:=Sk p2 hb.2.1;have h1:a.lo*b.lo≤x.den ρ*y.den ρ:=Int.mul_le_mul ha.2.1 hb.2.1 p2 x0;have h2:x.den ρ*y.den ρ≤a.hi*b.hi:=Int.mul_le_mul ha.2.2.1 hb.2.2.1 y0 (Sk x0 ha.2.2.1);obtain⟨k0,k1⟩:=hk _ _ ra rb;have xy0:0≤x.den ρ*y.den ρ:=Int.mul_nonneg x0 y0
     split at h
     ·simp only[Am,Prod.mk.injEq] at h;obtain⟨rfl,rfl,rfl⟩:=h;have v0:(ρ n).getD 0 0=x.den ρ*y.den ρ/18446744073709551616:=by
       rw[hn];show (OP.den T (.fn f true 0) [[x.den ρ],[y.den ρ]]).getD 0 0=_;rw[k0];rfl
      refine⟨fun k a' ha'=>?_,Pv.nil _,fun m x' y' hm=>?_⟩
      ·obtain⟨rfl,rfl⟩:=QF ha';refine JB ?_ ?_ ?_
       ·rw[Gu,αv_enc0 ρ (by omega)]
       ·rw[v0];exact Int.ediv_le_ediv (by omega) h1
       ·rw[v0];exact Int.ediv_le_ediv (by omega) h2
      ·simp only[lk] at hm
       cases hbm:Nat.beq n m with
       |false=>rw[hbm] at hm;cases hm
       |true=>
        rw[hbm,cond_true,Am,Prod.mk.injEq] at hm;obtain⟨rfl,rfl⟩:=hm;have:=CL hbm;subst this;exact⟨x0,y0,v0⟩
     ·have v0:(ρ n).getD 0 0=x.den ρ*y.den ρ%18446744073709551616:=by
       rw[hn];show (OP.den T (.fn f true 1) [[x.den ρ],[y.den ρ]]).getD 0 0=_;rw[k1];rfl
      cases hc:Bj (a.hi*b.hi) 18446744073709551615 with
      |true=>
       rw[hc,cond_true] at h;simp only[Am,Prod.mk.injEq] at h;obtain⟨rfl,rfl,rfl⟩:=h;have:=BB hc;refine⟨fun k a' ha'=>?_,Pv.nil _,nomm⟩;obtain⟨rfl,rfl⟩:=QF ha';rw[v0,zcd xy0 (by omega)];exact JB (by rw[VH hs.2.1, ← ha.1, ← hb.1]) h1 h2
      | false=>
       rw[hc,cond_false] at h
       split at h
       ·rename_i x' y' hmm
        cases hq:(x.beq x'&&y.beq y') with
        |false=>rw[hq] at h;cases h
        |true=>
         rw[hq,cond_true] at h;simp only[Bd] at hq;have e1:=X.beq_eq hq.1;have e2:=X.beq_eq hq.2;subst e1;subst e2;simp only[Am,Prod.mk.injEq] at h;obtain⟨rfl,rfl,rfl⟩:=h;obtain⟨-, -,q3⟩:=hs.2.2 _ _ _ hmm;refine⟨fun k a' ha'=>?_,Pv.nil _,nomm⟩;obtain⟨rfl,rfl⟩:=QF ha';rw[v0];refine JB ?_ (by omega) (by omega);rw[Cc,CW,Gu,αv_enc0 ρ (by omega),q3,VH hs.2.1, ← ha.1, ← hb.1];omega
       ·cases h
     ·cases h
    ·cases h
   ·cases h
  ·rename_i hf
   have hk:vW T f .cmov:=hM f _ hf
   split at h
   ·rename_i old c z y
    split at h
    ·rename_i c' a b hc hz hy
     have ω:=CS.x_ok hs hc;have ha:=CS.x_ok hs hz;have hb:=CS.x_ok hs hy
     cases hg:(Bj 0 c'.lo&&Bj c'.hi 1&&Q5 .u64 a.lo a.hi&&Q5 .u64 b.lo b.hi) with
     |false=>rw[hg] at h;cases h
     |true=>
     rw[hg,cond_true] at h;simp only[Bd] at hg;simp only[Am,Prod.mk.injEq] at h;obtain⟨rfl,rfl,rfl⟩:=h;have c1:=Sk (BB hg.1.1.1) ω.2.1;have c2:=Sk ω.2.2.1 (BB hg.1.1.2);have c01:c.den ρ=0∨c.den ρ=1:=by omega
     have v0:(ρ n).getD 0 0=if c.den ρ=0 then z.den ρ else y.den ρ:=by
      rw[hn];have:=hk (old.den ρ) (c.den ρ) (z.den ρ) (y.den ρ) c01 (Kq hg.1.2 ha.2.1 ha.2.2.1) (Kq hg.2 hb.2.1 hb.2.2.1);show (OP.den T (.fn f true 0) [old.den ρ,[c.den ρ],[z.den ρ],[y.den ρ]]).getD 0 0=_;rw[this];rfl
     obtain⟨m1,m2⟩:=AIz a.lo b.lo;obtain⟨m3,m4⟩:=AHl a.hi b.hi;refine⟨fun k a' ha'=>?_,Pv.nil _,nomm⟩;obtain⟨rfl,rfl⟩:=QF ha';rw[v0];refine JB ?_ ?_ ?_
     ·rw[Cc,VH hs.2.1,Cc,CW, ← ω.1, ← ha.1, ← hb.1]
      rcases c01 with e|e<;>simp only[e]<;>simp<;>omega
     ·have:=ha.2.1;have:=hb.2.1;split<;>omega
     ·have:=ha.2.2.1;have:=hb.2.2.1;split<;>omega
    ·cases h
   ·cases h
  ·cases h
 ·cases h
end
section
open Go
def nC:Nat→List (Nat×FR)→Nat
 |lo,[]=>lo
 |_,(n,_)::r=>nC (n+1) r
theorem cB{hi:Nat}:∀ {ds:List (Nat×FR)} {lo:Nat},GM lo hi ds=true→lo≤nC lo ds
 | [],lo,_=>JP _
 |(n,d)::r,lo,h=>by
  simp only[GM,Bd] at h;have:=Na h.1.1.1;have:=cB h.2;simp only[nC];omega
theorem WZ(T:Tb){hi:Nat}:∀ {ds:List (Nat×FR)} {lo:Nat} (ρ:Bl),GM lo hi ds=true→Jt lo ρ (Dc T ρ ds)∧VJ T (Dc T ρ ds) ds
 | [],_,ρ,_=>⟨Jt.refl _ _,fun p hp=>by cases hp⟩
 | (n,d)::r,lo,ρ,h=>by
  simp only[GM,Bd] at h;have h1:=Na h.1.1.1;obtain⟨g1,g2⟩:=WZ T (fun i=>if i=n then d.den T ρ else ρ i) h.2;have ha:Jt n ρ (Dc T ρ ((n,d)::r)):=fun i hi=>by
   show Dc T _ r i=_;rw[g1 i (by omega)];simp;intro e;omega
  refine⟨fun i hi=>ha i (by omega),fun p hp=>?_⟩
  rcases J4.1 hp with rfl|hp
  ·show Dc T _ r n=_;rw[g1 n (by omega),FR.den_agE ha h.1.2];simp
  ·exact g2 p hp
theorem Q9(T:Tb):∀ (a b:List (Nat×FR)) (ρ:Bl),Dc T ρ (a++b)=Dc T (Dc T ρ a) b
 | [],_b,_ρ=>rfl
 |(_n,_d)::a,b,_ρ=>Q9 T a b _
def gQ:Bc→Option (List (Nat×FR)×List JM×Ex×St)
 | .leaf e st=>some ([],[],e,st)
 | .evs ds ob t=>(match gQ t with
  |some (ds',ob',e,st)=>some (ds++ds',ob++ob',e,st)
  |none=>none)
 |_=>none
def Lp:Nat→Bc→Bool
 |_,.leaf _ _=>true
 |lo,.evs ds ob t=>GM lo (nC lo ds) ds&&J7 (nC lo ds) ob&&Lp (nC lo ds) t
 |_,_=>false
theorem Pp{T:Tb}:∀ {t:Bc} {lo:Nat} {ρ:Bl} {ds:List (Nat×FR)} {ob:List JM} {e:Ex} {st:St},Lp lo t=true→gQ t=some (ds,ob,e,st)→
  Jt lo ρ (Dc T ρ ds)∧VJ T (Dc T ρ ds) ds∧XR T t ρ=some (Dc T ρ ds,e,st)∧Xq T t ρ=some (Dc T ρ ds,st)∧((∀ q∈ob,q.den T (Dc T ρ ds))→Cn T t ρ)
 | .leaf e st,lo,ρ,ds,ob,e',st',_,h=>by
  simp only[gQ,Am,Prod.mk.injEq] at h;obtain⟨rfl,rfl,rfl,rfl⟩:=h;exact⟨Jt.refl _ _,fun p hp=>(by cases hp),rfl,rfl,fun _=>trivial⟩
 | .evs ds0 ob0 t,lo,ρ,ds,ob,e,st,hk,h=>by
  simp only[Lp,Bd] at hk;unfold gQ at h
  split at h
  ·rename_i ds' ob' e' st' ht
   simp only[Am,Prod.mk.injEq] at h;obtain⟨rfl,rfl,rfl,rfl⟩:=h;obtain⟨g1,g2⟩:=WZ T ρ hk.1.1;obtain⟨k1,k2,k3,k4,k5⟩:=Pp (T:=T) (ρ:=Dc T ρ ds0) hk.2 ht;have hle:=cB hk.1.1;rw[Q9];refine⟨g1.trans k1 hle,fun p hp=>?_,k3,k4,fun ho=>⟨fun q hq=>?_,k5 fun q hq=>ho q (vH _ hq)⟩⟩
   ·rcases iQ.1 hp with hp|hp
    ·exact (g2.agE hk.1.1 k1) p hp
    ·exact k2 p hp
   ·exact (JM.den_agE k1 hk.1.2 q hq).1 (ho q (List.mem_append_left _ hq))
  ·cases h
 | .br _ _ _,_,_,_,_,_,_,hk,_=>by cases hk
 | .brc _ _ _ _,_,_,_,_,_,_,hk,_=>by cases hk
 | .chk _ _,_,_,_,_,_,_,hk,_=>by cases hk
 | .bad _,_,_,_,_,_,_,hk,_=>by cases hk
def aG(M:List (Nat×FK)):CS→List (Nat×FR)→Option CS
 |s,[]=>some s
 |s,(n,d)::r=>match yI M s n d with
  |some (η,nb,nm)=>aG M ⟨(n,η)::s.vs,nb++s.bs,nm++s.mm⟩ r
  |none=>none
theorem VB{α:Type}{t:Nat}{v:α}:∀ {a b:List (Nat×α)},lk t (a++b)=some v→lk t a=some v∨lk t b=some v
 | [],b,h=>.inr h
 |(k,u)::a,b,h=>by
  simp only[zcm,lk] at h ⊢
  cases hb:Nat.beq k t with
  |true=>rw[hb] at h;exact .inl h
  |false=>rw[hb] at h;exact VB h
theorem Xi{T:Tb}{M:List (Nat×FK)}(hM:Xx T M){ρ:Bl}:∀ {ds:List (Nat×FR)} {s s':CS},PT ρ s→VJ T ρ ds→aG M s ds=some s'→PT ρ s'
 | [],s,s',hs,_,h=>by simp only[aG,Am] at h;subst h;exact hs
 | (n,d)::r,s,s',hs,hd,h=>by
  unfold aG at h
  split at h
  ·rename_i η nb nm hc
   obtain⟨g1,g2,g3⟩:=rT hM hs (hd (n,d) LA) hc;refine Xi hM ⟨fun i as hi k a ha=>?_,fun a ha=>?_,fun m x y hm=>?_⟩ (fun p hp=>hd p (MQ _ hp)) h
   ·simp only[lk] at hi
    cases hb:Nat.beq n i with
    |true=>
     rw[hb,cond_true,Am] at hi;have:=CL hb;subst this;subst hi;exact g1 k a ha
    |false=>rw[hb,cond_false] at hi;exact hs.1 i as hi k a ha
   ·rcases iQ.1 (Eh.1 ha) with h|h
    ·exact g2 a (Eh.2 h)
    ·exact hs.2.1 a (Eh.2 h)
   ·rcases VB hm with h|h
    ·exact g3 m x y h
    ·exact hs.2.2 m x y h
  ·cases h
def qJ(s:CS):JM→Bool
 | .c01 x=>(match s.x x with|some a=>Bj 0 a.lo&&Bj a.hi 1|none=>false)
 | .rng x n=>(match s.x x with|some a=>Bj 0 a.lo&&Bj a.hi ((n:Int)-1)|none=>false)
 | .ge0 x=>(match s.x x with|some a=>Bj 0 a.lo|none=>false)
 | .zr x=>(match s.x x with|some a=>Bj 0 a.lo&&Bj a.hi 0|none=>false)
 | .nz x=>(match s.x x with|some a=>Bj 1 a.lo|none=>false)
 | .pre _ _=>false
theorem jg{T:Tb}{ρ:Bl}{s:CS}(hs:PT ρ s){q:JM}(h:qJ s q=true):q.den T ρ:=by
 cases q<;>simp only[qJ] at h
 case pre=>cases h
 all_goals
  split at h
  ·rename_i a ha
   have hx:=CS.x_ok hs ha
   first
    |(simp only[Bd] at h;have h1:=BB h.1;have h2:=BB h.2;have:=hx.2.1;have:=hx.2.2.1;simp only[JM.den];omega)
    |(have h1:=BB h;have:=hx.2.1;simp only[JM.den];omega)
  ·cases h
def vF(j:Nat)(b:List (Int×Int)):List AV:=b.zipIdx.map fun (p,k)=>.mk0 (Jq (enc j k 0)) p.1 p.2
def uo:Nat→List (List (Int×Int))→List (Nat×List AV)
 |_,[]=>[]
 |j,b::r=>(j,vF j b)::uo (j+1) r
def AEK(ζ:List (List (Int×Int))):CS:=⟨uo 0 ζ,[],[]⟩
def NR(ζ:List (List (Int×Int)))(ins:List (List Int)):Prop:=
 ∀ (j:Nat) (b:List (Int×Int)),ζ[j]? = some b→b.length≤4096∧∀ (k:Nat) (p:Int×Int),b[k]? = some p→p.1≤(ins.getD j []).getD k 0∧(ins.getD j []).getD k 0≤p.2
theorem rQ:∀ {ζ:List (List (Int×Int))} {j i:Nat} {η:List AV},lk i (uo j ζ)=some η→∃ k b,i=j+k∧ζ[k]? = some b∧η=vF i b
 | [],j,i,η,h=>by simp[uo,lk] at h
 | b::r,j,i,η,h=>by
  simp only[uo,lk] at h
  cases hb:Nat.beq j i with
  |true=>
   rw[hb,cond_true,Am] at h;have:=CL hb;subst this;exact⟨0,b,rfl,rfl,h.symm⟩
  |false=>
   rw[hb,cond_false] at h;obtain⟨k,b',h1,h2,h3⟩:=rQ h;exact⟨k+1,b',by omega,by simpa using h2,h3⟩
theorem Zc{ζ:List (List (Int×Int))}{ins:List (List Int)}(hb:NR ζ ins){ρ:Bl}(hρ:∀ j,j<ζ.length→ρ j=ins.getD j []):PT ρ (AEK ζ):=by
 refine⟨fun i η hi k a ha=>?_,Pv.nil _,fun n x y h=>by simp[AEK,lk] at h⟩;obtain⟨j,b,h1,h2,h3⟩:=rQ hi;rw[NU] at h1;subst h1;subst h3;obtain⟨hl,hbk⟩:=hb i b h2;unfold vF at ha;simp only[OX,Ya] at ha;obtain⟨⟨p,k'⟩,h4,rfl⟩:=ha;rw[List.getElem?_zipIdx,Ya] at h4;obtain⟨p',h5,h6⟩:=h4;simp only[Prod.mk.injEq,NU] at h6;obtain⟨rfl,rfl⟩:=h6;have hk:k<b.length:=(Pi.1 h5).1;have hlt:i<ζ.length:=(Pi.1 h2).1;rw[hρ i hlt];obtain⟨b1,b2⟩:=hbk k p' h5;refine JB ?_ b1 b2;rw[Gu,αv_enc0 ρ (by omega),hρ i hlt]
def uy(s:CS):List X→Option (List AV)
 | []=>some []
 |x::r=>match s.x x,uy s r with
  |some a,some as=>some (a::as)
  |_,_=>none
def bX(s:CS):TP→Option (List (List AV))
 | []=>some []
 |e::r=>match uy s e.1,bX s r with
  |some a,some as=>some (a::as)
  |_,_=>none
def X9(i:AQ)(C:Cx)(M:List (Nat×FK))(ζ:List (List (Int×Int))):Option (List (List AV)):=
 match gQ (i.tree C) with
 | some (ds,ob,_e,st)=>bif Lp i.s0.params.length (i.tree C)&&Nat.beq ζ.length i.s0.params.length then (match aG M (AEK ζ) ds with
  |some s=>bif ob.all (qJ s) then (match Lr C i.s0 i.rvs st with
   |some es=>bX s es
   |none=>none) else none
  |none=>none) else none
 |none=>none
def fJ(ρ:Bl)(r:List Int)(η:List AV):Prop:=r.length=η.length∧∀ (j:Nat) (x:Int) (a:AV),r[j]? = some x→η[j]? = some a→a.ok ρ x
theorem WV{ρ:Bl}{s:CS}(hs:PT ρ s):∀ {xs:List X} {η:List AV},uy s xs=some η→fJ ρ (xs.map (·.den ρ)) η
 | [],η,h=>by simp only[uy,Am] at h;subst h;exact⟨rfl,fun j x a h=>by simp at h⟩
 | x::r,η,h=>by
  unfold uy at h
  split at h
  ·rename_i a as h1 h2
   simp only[Am] at h;subst h;obtain⟨g1,g2⟩:=WV hs h2;refine⟨by simpa using g1,fun j y b hy hb=>?_⟩
   cases j with
   |zero=>
    simp only[NT,VT,Am] at hy hb;subst hy;subst hb;exact CS.x_ok hs h1
   |succ j=>exact g2 j y b (by simpa using hy) (by simpa using hb)
  ·cases h
theorem VE{s:CS}:∀ {es:TP} {θ:List (List AV)},bX s es=some θ→∀ (k:Nat) (η:List AV),θ[k]? = some η→∃ e,es[k]? = some e∧uy s e.1=some η
 | [],θ,h,k,η,hk=>by simp only[bX,Am] at h;subst h;simp at hk
 | e::r,θ,h,k,η,hk=>by
  unfold bX at h
  split at h
  ·rename_i a as h1 h2
   simp only[Am] at h;subst h
   cases k with
   |zero=>
    simp only[VT,Am] at hk;subst hk;exact⟨e,rfl,h1⟩
   |succ k=>
    obtain⟨e',g1,g2⟩:=VE h2 k η (by simpa using hk);exact⟨e',by simpa using g1,g2⟩
  ·cases h
theorem mF{i:AQ}{C:Cx}{M:List (Nat×FK)}(hM:Xx C.T M){ζ:List (List (Int×Int))}{θ:List (List AV)}(h:X9 i C M ζ=some θ){ins:List (List Int)}(hb:NR ζ ins):
  Cn C.T (i.tree C) (A8 ins)∧∃ ρ:Bl,(∀ j,j<i.s0.params.length→ρ j=ins.getD j [])∧∀ (k:Nat) (η:List AV),θ[k]? = some η→fJ ρ (i.raw C k ins) η:=by
 unfold X9 at h
 split at h
 ·rename_i ds ob e st hl
  cases hc:(Lp i.s0.params.length (i.tree C)&&Nat.beq ζ.length i.s0.params.length) with
  |false=>rw[hc] at h;cases h
  |true=>
  rw[hc,cond_true] at h;simp only[Bd] at hc;have hlen:=CL hc.2;obtain⟨k1,k2,k3,k4,k5⟩:=Pp (T:=C.T) (ρ:=A8 ins) hc.1 hl
  split at h
  ·rename_i s hs
   cases ho:ob.all (qJ s) with
   |false=>rw[ho] at h;cases h
   |true=>
   rw[ho,cond_true] at h
   split at h
   ·rename_i es Θ
    have hρ:∀ j,j<i.s0.params.length→Dc C.T (A8 ins) ds j=ins.getD j []:=fun j hj=>by rw[k1 j hj];rfl
    have hin:=Zc hb (ρ:=Dc C.T (A8 ins) ds) (fun j hj=>hρ j (by omega));have hS:=Xi hM hin k2 hs;refine⟨k5 fun q hq=>jg hS (Ll.1 ho q hq),Dc C.T (A8 ins) ds,hρ,fun k η hk=>?_⟩;obtain⟨e',g1,g2⟩:=VE h k η hk;have:i.raw C k ins=e'.1.map (·.den (Dc C.T (A8 ins) ds)):=by
     unfold AQ.raw SF;rw[k4];simp only[Θ,g1]
    rw[this];exact WV hS g2
   ·cases h
  ·cases h
 ·cases h
end
section
open Go
def MN:Nat:=57896044618658097711785492504343953926634992332820282019728792003956564819949
def Nk(l:List Int):Int:=l.getD 0 0+2251799813685248*l.getD 1 0+5070602400912917605986812821504*l.getD 2 0+11417981541647679048466287755595961091061972992*l.getD 3 0+25711008708143844408671393477458601640355247900524685364822016*l.getD 4 0
def fB:Int:=2251799813947392
def feG(l:List Int):Prop:=l.length=5∧∀ k,k<5→0≤l.getD k 0∧l.getD k 0≤fB
def TI(η:List (Gd)):Gd:=match η with
 | [a,b,c,d,e]=>De a (De (Cq 2251799813685248 b) (De (Cq 5070602400912917605986812821504 c) (De (Cq 11417981541647679048466287755595961091061972992 d) (Cq 25711008708143844408671393477458601640355247900524685364822016 e))))
 |_=>[]
def inP(j o:Nat):Gd:=TI [Jq (enc j o 0),Jq (enc j (o+1) 0),Jq (enc j (o+2) 0),Jq (enc j (o+3) 0),Jq (enc j (o+4) 0)]
def avG(a:AV):Bool:=Bj 0 a.lo&&Bj a.hi fB
def X4(k:Nat)(target:Gd)(θ:Option (List (List AV))):Bool:=match θ with
 |some θ=>(match θ[k]? with
  |some η=>Nat.beq η.length 5&&η.all avG&&PQ MN (De (TI (η.map (·.p))) (Cq (-1) target))
  |none=>false)
 |none=>false
theorem ANE{α:Type}{l:List α}(h:l.length=5):∃ a b c d e,l= [a,b,c,d,e]:=by
 match l,h with
 | [a,b,c,d,e],_=>exact⟨a,b,c,d,e,rfl⟩
theorem UY(ρ:Bl){j:Nat}{l:List Int}(h:ρ j=l):F8 ρ (inP j 0)=Nk l:=by
 simp only[inP,TI,Cc,CW,Gu];rw[αv_enc0 ρ (by omega),αv_enc0 ρ (by omega),αv_enc0 ρ (by omega),αv_enc0 ρ (by omega),αv_enc0 ρ (by omega),h];simp only[NU];unfold Nk;omega
theorem rJ{ρ:Bl}{r:List Int}{η:List AV}(h:fJ ρ r η)(h5:η.length=5):F8 ρ (TI (η.map (·.p)))=Nk r:=by
 obtain⟨hl,hk⟩:=h;obtain⟨a,b,c,d,e,rfl⟩:=ANE h5;obtain⟨x,y,z,u,v,rfl⟩:=ANE (hl.trans h5);have h0:=(hk 0 x a rfl rfl).1;have h1:=(hk 1 y b rfl rfl).1;have h2:=(hk 2 z c rfl rfl).1;have h3:=(hk 3 u d rfl rfl).1;have h4:=(hk 4 v e rfl rfl).1;simp only[NT,Vi,TI,Cc,CW, ← h0, ← h1, ← h2, ← h3, ← h4];unfold Nk;simp only[Qu,Ze];omega
theorem AAB{ρ:Bl}{r:List Int}{η:List AV}(h:fJ ρ r η)(h5:η.length=5)(hg:η.all avG=true):feG r:=by
 obtain⟨hl,hk⟩:=h;refine⟨hl.trans h5,fun k h=>?_⟩;have h1:k<r.length:=by omega
 have h2:k<η.length:=by omega
 have:=hk k r[k] η[k] (Jo h1) (Jo h2);have hb:=Ll.1 hg η[k] (qj h2);simp only[avG,Bd] at hb;rw[List.getD,Jo h1];exact⟨Sk (BB hb.1) this.2.1,Sk this.2.2.1 (BB hb.2)⟩
theorem AJ0{i:AQ}{C:Cx}{M:List (Nat×FK)}(hM:Xx C.T M){ζ:List (List (Int×Int))}{k:Nat}{target:Gd}(h:X4 k target (X9 i C M ζ)=true){ins:List (List Int)}(hb:NR ζ ins):
  Cn C.T (i.tree C) (A8 ins)∧feG (i.raw C k ins)∧∃ ρ:Bl,(∀ j,j<i.s0.params.length→ρ j=ins.getD j [])∧(MN:Int) ∣ Nk (i.raw C k ins)-F8 ρ target:=by
 unfold X4 at h
 split at h
 ·rename_i θ hc
  obtain⟨h1,ρ,h2,h3⟩:=mF hM hc hb
  split at h
  ·rename_i η hk
   simp only[Bd] at h;have h5:=CL h.1.1;have hA:=h3 k η hk;refine⟨h1,AAB hA h5 h.1.2,ρ,h2,?_⟩;have hd:=Wt ρ h.2;rw[Cc,CW,rJ hA h5] at hd;have e:Nk (i.raw C k ins)-F8 ρ target=Nk (i.raw C k ins) + -1*F8 ρ target:=by omega
   rw[e];exact hd
  ·cases h
 ·cases h
def bF:List (Int×Int):=List.replicate 5 (0,fB)
theorem WR{ζ:List (List (Int×Int))}{ins:List (List Int)}:∀ (b:List (Int×Int)) (x:List Int),(b.length≤4096∧∀ (k:Nat) (p:Int×Int),b[k]? = some p→p.1≤x.getD k 0∧x.getD k 0≤p.2)→NR ζ ins→NR (b::ζ) (x::ins):=by
 intro b x h hb j b' hj
 cases j with
 |zero=>simp only[VT,Am] at hj;subst hj;exact h
 |succ j=>exact hb j b' (by simpa using hj)
theorem Ie(ins:List (List Int)):NR [] ins:=fun j b h=>by simp at h
theorem Yu{ζ:List (List (Int×Int))}{ins:List (List Int)}{x:List Int}(h:feG x)(hb:NR ζ ins):NR (bF::ζ) (x::ins):=
 WR bF x ⟨by decide,fun k p hk=>by
  have hlt:k<5:=by have:=(Pi.1 hk).1;simpa[bF] using this
  simp only[bF,zby,hlt,if_true,Am] at hk;subst hk;exact h.2 k hlt⟩ hb
theorem Mt{ζ:List (List (Int×Int))}{ins:List (List Int)}(x:List Int)(hb:NR ζ ins):NR ([]::ζ) (x::ins):=
 WR [] x ⟨by decide,fun k p hk=>by simp at hk⟩ hb
end
section
open Go
structure ANj where
 ds:List (Nat×FR)
 ob:List JM
 cn:List (X×Bool)
 e:Ex
 st:St
def kQ:List Bool→Bc→Option ANj
 |_,.leaf e st=>some ⟨[],[],[],e,st⟩
 |bs,.evs ds ob t=>(match kQ bs t with
  |some p=>some ⟨ds++p.ds,ob++p.ob,p.cn,p.e,p.st⟩
  |none=>none)
 |b::bs,.br x t f=>(match bif b then kQ bs t else kQ bs f with
  |some p=>some ⟨p.ds,p.ob,(x,b)::p.cn,p.e,p.st⟩
  |none=>none)
 |_,_=>none
def Sz:Nat→List Bool→Bc→Bool
 |_,_,.leaf _ _=>true
 |lo,bs,.evs ds ob t=>GM lo (nC lo ds) ds&&J7 (nC lo ds) ob&&Sz (nC lo ds) bs t
 |lo,b::bs,.br x t f=>x.lt lo&&bif b then Sz lo bs t else Sz lo bs f
 |_,_,_=>false
def AI6(ρ:Bl)(cn:List (X×Bool)):Prop:=∀ q∈cn,(q.1.den ρ=0↔q.2=false)
theorem WW{T:Tb}:∀ {t:Bc} {lo:Nat} {bs:List Bool} {ρ:Bl} {p:ANj},Sz lo bs t=true→kQ bs t=some p→
  Jt lo ρ (Dc T ρ p.ds)∧VJ T (Dc T ρ p.ds) p.ds∧(AI6 (Dc T ρ p.ds) p.cn→XR T t ρ=some (Dc T ρ p.ds,p.e,p.st)∧Xq T t ρ=some (Dc T ρ p.ds,p.st)∧((∀ q∈p.ob,q.den T (Dc T ρ p.ds))→Cn T t ρ))
 | .leaf e st,lo,bs,ρ,p,_,h=>by
  simp only[kQ,Am] at h;subst h;exact⟨Jt.refl _ _,fun p hp=>(by cases hp),fun _=>⟨rfl,rfl,fun _=>trivial⟩⟩
 | .evs ds0 ob0 t,lo,bs,ρ,p,hk,h=>by
  unfold Sz at hk;simp only[Bd] at hk;unfold kQ at h
  split at h
  ·rename_i p' ht
   simp only[Am] at h;subst h;obtain⟨g1,g2⟩:=WZ T ρ hk.1.1;obtain⟨k1,k2,k3⟩:=WW (T:=T) (ρ:=Dc T ρ ds0) hk.2 ht;have hle:=cB hk.1.1;simp only;rw[Q9];refine⟨g1.trans k1 hle,fun p hp=>?_,fun hc=>?_⟩
   ·rcases iQ.1 hp with hp|hp
    ·exact (g2.agE hk.1.1 k1) p hp
    ·exact k2 p hp
   ·obtain⟨c1,c2,c3⟩:=k3 hc;exact⟨c1,c2,fun ho=>⟨fun q hq=>(JM.den_agE k1 hk.1.2 q hq).1 (ho q (List.mem_append_left _ hq)),c3 fun q hq=>ho q (vH _ hq)⟩⟩
  ·cases h
 | .br x t f,lo,[],ρ,p,hk,h=>by cases hk
 | .br x t f,lo,b::bs,ρ,p,hk,h=>by
  unfold Sz at hk;simp only[Bd] at hk;unfold kQ at h
  split at h
  ·rename_i p' ht
   simp only[Am] at h;subst h
   cases b with
   | true=>
    rw[cond_true] at ht hk;obtain⟨k1,k2,k3⟩:=WW (T:=T) (ρ:=ρ) hk.2 ht;refine⟨k1,k2,fun hc=>?_⟩;have hx:¬ x.den ρ=0:=by
     have:=hc (x,true) LA;simp only[X.den_agE k1 hk.1,Bool.true_eq_false,iff_false] at this;exact this
    obtain⟨c1,c2,c3⟩:=k3 fun q hq=>hc q (MQ _ hq)
    exact⟨by unfold XR;rw[if_neg hx];exact c1,by unfold Xq;rw[if_neg hx];exact c2,fun ho=>⟨fun h0=>absurd h0 hx,fun _=>c3 ho⟩⟩
   | false=>
    rw[cond_false] at ht hk;obtain⟨k1,k2,k3⟩:=WW (T:=T) (ρ:=ρ) hk.2 ht;refine⟨k1,k2,fun hc=>?_⟩;have hx:x.den ρ=0:=by
     have:=hc (x,false) LA;simp only[X.den_agE k1 hk.1,iff_true] at this;exact this
    obtain⟨c1,c2,c3⟩:=k3 fun q hq=>hc q (MQ _ hq)
    exact⟨by unfold XR;rw[if_pos hx];exact c1,by unfold Xq;rw[if_pos hx];exact c2,fun ho=>⟨fun _=>c3 ho,fun h0=>absurd hx h0⟩⟩
  ·cases h
 | .brc _ _ _ _,_,bs,_,_,hk,_=>by cases bs<;>cases hk
 | .chk _ _,_,bs,_,_,hk,_=>by cases bs<;>cases hk
 | .bad _,_,bs,_,_,hk,_=>by cases bs<;>cases hk
def o8(s:CS):List Iq→Option (List (List AV))
 | []=>some []
 | .xs l::r=>(match uy s l,o8 s r with
  |some a,some as=>some (a::as)
  |_,_=>none)
 | .vec _::_=>none
theorem qL{ρ:Bl}{s:CS}(hs:PT ρ s):∀ {as:List Iq} {θ:List (List AV)},o8 s as=some θ→as.length=θ.length∧∀ (k:Nat) (η:List AV),θ[k]? = some η→fJ ρ ((as.map (·.den ρ)).getD k []) η
 | [],θ,h=>by simp only[o8,Am] at h;subst h;exact⟨rfl,fun k η h=>by simp at h⟩
 | .xs l::r,θ,h=>by
  unfold o8 at h
  split at h
  ·rename_i a as h1 h2
   simp only[Am] at h;subst h;obtain⟨g1,g2⟩:=qL hs h2;refine⟨by simp[g1],fun k η hk=>?_⟩
   cases k with
   |zero=>
    simp only[VT,Am] at hk;subst hk;exact WV hs h1
   |succ k=>exact g2 k η (by simpa using hk)
  ·cases h
 | .vec j::r,θ,h=>by cases h
structure LpR where
 p:ANj
 b:Bool
 av:List (List AV)
def AJw (i:I7) (C:Cx) (M:List (Nat×FK)) (ζ:List (List (Int×Int))) (path:List Bool):Option LpR:=
 match kQ path (i.tree C) with
 | some p=>bif Sz i.s0.params.length path (i.tree C)&&Nat.beq ζ.length i.s0.params.length then (match aG M (AEK ζ) p.ds with
  | some s=>bif p.ob.all (qJ s) then (match i.leaf p.e p.st with
   |some (b,as)=>(match o8 s as with
    |some θ=>some ⟨p,b,θ⟩
    |none=>none)
   |none=>none) else none
  |none=>none) else none
 |none=>none
theorem AAW{i:I7}{C:Cx}{M:List (Nat×FK)}(hM:Xx C.T M){ζ:List (List (Int×Int))}{path:List Bool}{R:LpR}(h:AJw i C M ζ path=some R){ins:List (List Int)}(hb:NR ζ ins):
  ∃ ρ:Bl,(∀ j,j<i.s0.params.length→ρ j=ins.getD j [])∧VJ C.T ρ R.p.ds∧(AI6 ρ R.p.cn→Cn C.T (i.tree C) (A8 ins)∧∃ r,i.step C ins=some (R.b,r)∧r.length=R.av.length∧∀ (k:Nat) (η:List AV),R.av[k]? = some η→fJ ρ (r.getD k []) η):=by
 unfold AJw at h
 split at h
 ·rename_i p hl
  cases hc:(Sz i.s0.params.length path (i.tree C)&&Nat.beq ζ.length i.s0.params.length) with
  |false=>rw[hc] at h;cases h
  |true=>
  rw[hc,cond_true] at h;simp only[Bd] at hc;have hlen:=CL hc.2;obtain⟨k1,k2,k3⟩:=WW (T:=C.T) (ρ:=A8 ins) hc.1 hl
  split at h
  ·rename_i s hs
   cases ho:p.ob.all (qJ s) with
   |false=>rw[ho] at h;cases h
   |true=>
   rw[ho,cond_true] at h
   split at h
   ·rename_i b as hlf
    split at h
    ·rename_i θ hav
     simp only[Am] at h;subst h;have hρ:∀ j,j<i.s0.params.length→Dc C.T (A8 ins) p.ds j=ins.getD j []:=fun j hj=>by rw[k1 j hj];rfl
     have hin:=Zc hb (ρ:=Dc C.T (A8 ins) p.ds) (fun j hj=>hρ j (by omega));have hS:=Xi hM hin k2 hs;refine⟨Dc C.T (A8 ins) p.ds,hρ,k2,fun hcn=>?_⟩;obtain⟨c1,c2,c3⟩:=k3 hcn;obtain⟨g1,g2⟩:=qL hS hav;refine⟨c3 fun q hq=>jg hS (Ll.1 ho q hq),as.map (·.den (Dc C.T (A8 ins) p.ds)),?_,by simpa using g1,g2⟩;unfold I7.step;rw[c1];simp only[hlf]
    ·cases h
   ·cases h
  ·cases h
 ·cases h
def AJh(R:LpR)(b:Bool)(i n:Nat):Bool:=match R.p.cn with
 | [(.v m 0,b')]=>(match lk m R.p.ds with
  |some ⟨.bin .lss .i64,[.xs [.v i' 0],.xs [.v n' 0]]⟩=>Nat.beq i i'&&Nat.beq n n'&&(bif b then b' else !b')
  |_=>false)
 |_=>false
theorem xn{R:LpR}{b:Bool}{i n:Nat}(h:AJh R b i n=true){T:Tb}{ρ:Bl}(hd:VJ T ρ R.p.ds)(hc:b=decide ((ρ i).getD 0 0<(ρ n).getD 0 0)):AI6 ρ R.p.cn:=by
 unfold AJh at h
 split at h
 ·rename_i m b' hcn
  split at h
  ·rename_i i' n' hm
   simp only[Bd] at h;have e1:=CL h.1.1;have e2:=CL h.1.2;subst e1;subst e2;have hb:b'=b:=by cases b<;>cases b'<;>simp_all
   subst hb;have hv:=hd (m,_) (Oo hm)
   intro q hq
   rw[hcn,Nc] at hq;subst hq;simp only[X.den];rw[hv];simp only[FR.den,OP.den,NT,Vi,Iq.den,X.den,Qu,Ze,YJ,Ao,K9];rw[hc];generalize (ρ i).getD 0 0=x;generalize (ρ n).getD 0 0=y
   by_cases hlt:x<y
   ·rw[decide_eq_true hlt];decide
   ·rw[decide_eq_false hlt];decide
  ·cases h
 ·cases h
theorem Zp{T:Tb}{f:Nat}{s:Az}{as:List Iq}{ρ:Bl}{args:List (List Int)}(hT:lk f T=some (.one s))(ha:as.map (·.den ρ)=args)(hp:s.pre args):(JM.pre f as).den T ρ:=by
 subst ha;simp only[JM.den,hT];exact hp
theorem I7.pre_of{i:I7}{C:Cx}{ins:List (List Int)}{n:Nat}(hf:i.fuel ins=n)(h:Rj (i.step C) (fun ins=>Cn C.T (i.tree C) (A8 ins)) n ins):i.pre C ins:=by
 unfold I7.pre;rw[hf];exact h
theorem I7.sum_pre{i:I7}{C:Cx}{ins:List (List Int)}(h:i.pre C ins):(i.sum C (i.pre C)).pre ins:=h
theorem I7.val_of{i:I7}{C:Cx}{ins:List (List Int)}{n:Nat}(hf:i.fuel ins=n):i.val C ins=Gf (i.step C) n ins:=by
 unfold I7.val;rw[hf]
end
section
open Go
def Yg (i:AQ) (C:Cx) (M:List (Nat×FK)) (ζ:List (List (Int×Int))):Option (CS×List (List AV)):=
 match gQ (i.tree C) with
 | some (ds,ob,_e,st)=>bif Lp i.s0.params.length (i.tree C)&&Nat.beq ζ.length i.s0.params.length then (match aG M (AEK ζ) ds with
  | some s=>bif ob.all (qJ s) then (match Lr C i.s0 i.rvs st with
   |some es=>(match bX s es with
    |some r=>some (s,r)
    |none=>none)
   |none=>none) else none
  |none=>none) else none
 |none=>none
theorem SE{i:AQ}{C:Cx}{M:List (Nat×FK)}(hM:Xx C.T M){ζ:List (List (Int×Int))}{s:CS}{θ:List (List AV)}(h:Yg i C M ζ=some (s,θ)){ins:List (List Int)}(hb:NR ζ ins):
  Cn C.T (i.tree C) (A8 ins)∧∃ ρ:Bl,(∀ j,j<i.s0.params.length→ρ j=ins.getD j [])∧PT ρ s∧∀ (k:Nat) (η:List AV),θ[k]? = some η→fJ ρ (i.raw C k ins) η:=by
 unfold Yg at h
 split at h
 ·rename_i ds ob e st hl
  cases hc:(Lp i.s0.params.length (i.tree C)&&Nat.beq ζ.length i.s0.params.length) with
  |false=>rw[hc] at h;cases h
  |true=>
  rw[hc,cond_true] at h;simp only[Bd] at hc;have hlen:=CL hc.2;obtain⟨k1,k2,k3,k4,k5⟩:=Pp (T:=C.T) (ρ:=A8 ins) hc.1 hl
  split at h
  ·rename_i s' hs
   cases ho:ob.all (qJ s') with
   |false=>rw[ho] at h;cases h
   |true=>
   rw[ho,cond_true] at h
   split at h
   ·rename_i es Θ
    split at h
    ·rename_i r hr
     simp only[Am,Prod.mk.injEq] at h;obtain⟨rfl,rfl⟩:=h;have hρ:∀ j,j<i.s0.params.length→Dc C.T (A8 ins) ds j=ins.getD j []:=fun j hj=>by rw[k1 j hj];rfl
     have hin:=Zc hb (ρ:=Dc C.T (A8 ins) ds) (fun j hj=>hρ j (by omega));have hS:=Xi hM hin k2 hs;refine⟨k5 fun q hq=>jg hS (Ll.1 ho q hq),Dc C.T (A8 ins) ds,hρ,hS,fun k η hk=>?_⟩;obtain⟨e',g1,g2⟩:=VE hr k η hk;have:i.raw C k ins=e'.1.map (·.den (Dc C.T (A8 ins) ds)):=by
      unfold AQ.raw SF;rw[k4];simp only[Θ,g1]
     rw[this];exact WV hS g2
    ·cases h
   ·cases h
  ·cases h
 ·cases h
def IG:List Int→Int
 | []=>0
 |b::r=>b+256*IG r
def leP:List AV→Gd
 | []=>[]
 |b::r=>De b.p (Cq 256 (leP r))
def byB(a:AV):Bool:=Bj 0 a.lo&&Bj a.hi 255
def by8(l:List Int):Prop:=∀ x∈l,0≤x∧x≤255
theorem fJ.cons{ρ:Bl}{x:Int}{l:List Int}{a:AV}{as:List AV}(h:fJ ρ (x::l) (a::as)):a.ok ρ x∧fJ ρ l as:=
 ⟨h.2 0 x a rfl rfl,by have:=h.1;simpa using this,fun j y b hy hb=>h.2 (j+1) y b (by simpa using hy) (by simpa using hb)⟩
theorem sD{ρ:Bl}:∀ {as:List AV} {l:List Int},fJ ρ l as→F8 ρ (leP as)=IG l
 | [],[],_=>rfl
 | [],x::l,h=>by have:=h.1;simp at this
 |a::as,[],h=>by have:=h.1;simp at this
 |a::as,x::l,h=>by
  obtain⟨h1,h2⟩:=h.cons;simp only[leP,IG,Cc,CW,sD h2, ← h1.1]
theorem vV{ρ:Bl}:∀ {as:List AV} {l:List Int},fJ ρ l as→as.all byB=true→by8 l
 | [],[],_,_=>fun x hx=>by cases hx
 | [],x::l,h,_=>by have:=h.1;simp at this
 |a::as,[],h,_=>by have:=h.1;simp at this
 |a::as,x::l,h,hb=>by
  obtain⟨h1,h2⟩:=h.cons;simp only[List.all_cons,Bd] at hb;have:=hb.1;simp only[byB,Bd] at this
  intro y hy
  rcases J4.1 hy with rfl|hy
  ·exact⟨Sk (BB this.1) h1.2.1,Sk h1.2.2.1 (BB this.2)⟩
  ·exact vV h2 hb.2 y hy
theorem Xy:∀ {l:List Int},by8 l→0≤IG l∧IG l<256^l.length
 | [],_=>⟨lw _,by decide⟩
 |x::l,h=>by
  have h1:=h x LA;have h2:=Xy (l:=l) fun y hy=>h y (MQ _ hy)
  simp only[IG,Oq,zcq];omega
def flr(s:CS)(n m:Nat):Option Gd:=match lk n s.vs with
 |some (a::_)=>bif Nat.blt m 128 then some (De a.p (Cq (-(2^m:Nat)) (Jq (enc n 0 m)))) else none
 |_=>none
theorem YO{ρ:Bl}{s:CS}(hs:PT ρ s){n m:Nat}{p:Gd}(h:flr s n m=some p):0≤F8 ρ p∧F8 ρ p<(2^m:Nat):=by
 unfold flr at h
 split at h
 ·rename_i a r hl
  cases hb:Nat.blt m 128 with
  |false=>rw[hb] at h;cases h
  | true=>
   rw[hb,cond_true,Am] at h;subst h;have hm:m<128:=Na hb;have ha:=hs.1 n _ hl 0 a rfl;rw[Cc,CW, ← ha.1,Gu,αv_enc ρ (by omega) hm];have h2:(0:Int)<((2^m:Nat):Int):=by
    have:=Nat.two_pow_pos m;omega
   have e:(2:Int)^m=((2^m:Nat):Int):=by
    rw[Int.natCast_pow];rfl
   rw[e];generalize ((2^m:Nat):Int)=M at *
   have h3:=Int.mul_ediv_add_emod ((ρ n).getD 0 0) M;have h4:=Int.emod_nonneg ((ρ n).getD 0 0) (Int.ne_of_gt h2);have h5:=Int.emod_lt_of_pos ((ρ n).getD 0 0) h2;rw[Int.neg_mul];omega
 ·cases h
def AIW(i:AQ)(C:Cx):Option (List (Nat×FR)×List (List X)):=match gQ (i.tree C) with
 |some (ds,_,_,st)=>bif Lp i.s0.params.length (i.tree C) then (match Lr C i.s0 i.rvs st with
  |some es=>some (ds,es.map (·.1))
  |none=>none) else none
 |none=>none
theorem xZ{i:AQ}{C:Cx}{ds:List (Nat×FR)}{xss:List (List X)}(h:AIW i C=some (ds,xss))(ins:List (List Int)):
  ∃ ρ:Bl,(∀ j,j<i.s0.params.length→ρ j=ins.getD j [])∧VJ C.T ρ ds∧∀ (k:Nat) (xs:List X),xss[k]? = some xs→i.raw C k ins=xs.map (·.den ρ):=by
 unfold AIW at h
 split at h
 ·rename_i ds' ob e st hl
  cases hc:Lp i.s0.params.length (i.tree C) with
  |false=>rw[hc] at h;cases h
  | true=>
   rw[hc,cond_true] at h;obtain⟨k1,k2,k3,k4,k5⟩:=Pp (T:=C.T) (ρ:=A8 ins) hc hl
   split at h
   ·rename_i es Θ
    simp only[Am,Prod.mk.injEq] at h;obtain⟨rfl,rfl⟩:=h;refine⟨Dc C.T (A8 ins) ds',fun j hj=>by rw[k1 j hj];rfl,k2,fun k xs hk=>?_⟩;rw[OX,Ya] at hk;obtain⟨e',g1,rfl⟩:=hk;unfold AQ.raw SF;rw[k4];simp only[Θ,g1]
   ·cases h
 ·cases h
end
section
open Go
def uR(nx ny k:Nat)(ds:List (Nat×FR)):Nat→List (X×Bool)→Bool
 |i,[]=>Nat.beq i (bif Nat.blt k 32 then k+1 else 32)
 |i,(.v m 0,b)::r=>(match lk m ds with
  |some ⟨.bin .neq .u8,[.xs [.v x a],.xs [.v y c]]⟩=>Nat.beq x nx&&Nat.beq y ny&&Nat.beq a i&&Nat.beq c i&&(bif b then Nat.beq i k else Nat.blt i k)
  |_=>false)&&uR nx ny k ds (i+1) r
 |_,_=>false
theorem yZ{T:Tb}{ρ:Bl}{nx ny k:Nat}{ds:List (Nat×FR)}(hd:VJ T ρ ds)(h1:∀ i,i<k→(ρ nx).getD i 0=(ρ ny).getD i 0)(h2:k<32→(ρ nx).getD k 0≠(ρ ny).getD k 0)(hk:k≤32):∀ {cn:List (X×Bool)} {i:Nat},i≤32→uR nx ny k ds i cn=true→AI6 ρ cn
 | [],_,_,_=>fun q hq=>by cases hq
 | (.v m 0,b)::r,i,hi,h=>by
  unfold uR at h;simp only[Bd] at h;obtain⟨h3,h4⟩:=h
  split at h3
  ·rename_i x a y c hm
   simp only[Bd] at h3;obtain⟨⟨⟨⟨e1,e2⟩,e3⟩,e4⟩,e5⟩:=h3;have e1:=CL e1;have e2:=CL e2;have e3:=CL e3;have e4:=CL e4;subst e1;subst e2;subst e3;subst e4;have hv:=hd (m,_) (Oo hm);have hden:(X.v m 0).den ρ=K9 ((ρ x).getD c 0 != (ρ y).getD c 0):=by
    show (ρ m).getD 0 0=_;rw[show ρ m=_ from hv];rfl
   have hlt : c<32:=by
    cases b with
    | true =>
         rw[cond_true] at e5;have:=CL e5;have:c=k:=this; 
         by_cases hk2:k<32
         ·omega
         ·exfalso;have hk3:k=32:=by omega
          have hlen:∀ {r:List (X×Bool)} {i:Nat},uR x y k ds i r=true→i≤32∨True:=fun _=>.inr trivial
          have:∀ {r:List (X×Bool)} {i:Nat},uR x y k ds i r=true→i≤(bif Nat.blt k 32 then k+1 else 32):=by
           intro r
           induction r with
           |nil=>intro i h;exact Nat.le_of_eq (CL h)
           | cons q r ih=>
            intro i h
            obtain⟨x',b'⟩:=q
            cases x' with
            |lit _=>cases h
            | v m' k'=>
             cases k' with
             |zero=>
              unfold uR at h;simp only[Bd] at h;have:=ih h.2;omega
             |succ _=>cases h
          have h5:=this h4;rw[hk3] at h5;have:(bif Nat.blt 32 32 then 32+1 else 32)=32:=rfl;omega
    |false=>rw[cond_false] at e5;have:=Na e5;omega
   intro q hq
   rcases J4.1 hq with rfl|hq
   ·simp only;rw[hden]
    cases b with
    |true=>
     rw[cond_true] at e5;have e:=CL e5;subst e;rw[bne_iff_ne.2 (h2 hlt)];decide
    |false=>
     rw[cond_false] at e5;have e:=Na e5;rw[h1 c e,bne_self_eq_false];decide
   ·exact yZ hd h1 h2 hk (by omega) h4 q hq
  ·cases h3
 |(.lit _,_)::_,_,_,h=>by cases h
 |(.v _ (_+1),_)::_,_,_,h=>by cases h
def ACu(k:Nat):List Bool:=List.replicate k false++(bif Nat.blt k 32 then [true] else [])
def eqP (i:AQ) (C:Cx) (fb nx ny k:Nat):Bool:=match kQ (ACu k) (i.tree C) with
 | some p=>Sz i.s0.params.length (ACu k) (i.tree C)&&uR nx ny k p.ds 0 p.cn&&(match p.ob with
   | []=>true
   |_=>false)&&(match Lr C i.s0 i.rvs p.st with
   |some (e::_)=>(match e.1 with
    | [.lit (.ofNat c)]=>Nat.beq c (bif Nat.blt k 32 then 0 else 1)
    |_=>false)
   |_=>false)&&(match lk nx p.ds,lk ny p.ds with
   |some ⟨.fn f true 0,[.vec 1]⟩,some ⟨.fn g true 0,[.vec 0]⟩=>Nat.beq f fb&&Nat.beq g fb
   |_,_=>false)
 |none=>false
theorem uA{X Y:List Int}(hx:X.length=32)(hy:Y.length=32):X=Y∨∃ k,k<32∧(∀ i,i<k→X.getD i 0=Y.getD i 0)∧X.getD k 0≠Y.getD k 0:=by
 by_cases h:∃ k,k<32∧X.getD k 0≠Y.getD k 0
 ·right
  obtain⟨k,hk⟩:=h
  induction k using Nat.strongRecOn with
  | _ k ih=>
   by_cases h2:∃ i,i<k∧X.getD i 0≠Y.getD i 0
   ·obtain⟨i,hi,hne⟩:=h2;exact ih i hi ⟨by omega,hne⟩
   ·refine⟨k,hk.1,fun i hi=>Classical.byContradiction fun hne=>h2 ⟨i,hi,hne⟩,hk.2⟩
 ·left
  apply List.ext_getElem (by omega)
  intro i h1 h2
  have:=Classical.byContradiction fun hne:¬ X.getD i 0=Y.getD i 0=>h ⟨i,by omega,hne⟩
  rw[List.getD,List.getD,Jo h1,Jo h2] at this;exact this
theorem AOQ{i:AQ}{C:Cx}{fb nx ny:Nat}{s:Az}(hs:lk fb C.T=some (.one s))(hnp:i.s0.params.length=2)(h:(List.range 33).all (eqP i C fb nx ny)=true){a b X Y:List Int}(hX:(s.pr 0).den [b]=X)(hY:(s.pr 0).den [a]=Y)(hx:X.length=32)(hy:Y.length=32):
  i.raw C 0 [a,b]= [bif decide (X=Y) then 1 else 0]:=by
 have key:∀ k,k≤32→(∀ i,i<k→X.getD i 0=Y.getD i 0)→(k<32→X.getD k 0≠Y.getD k 0)→i.raw C 0 [a,b]= [bif Nat.blt k 32 then 0 else 1]:=by
  intro k hk h1 h2
  have hp:=Ll.1 h k (fD.2 (by omega));unfold eqP at hp
  split at hp
  ·rename_i p hl
   simp only[Bd] at hp;obtain⟨⟨⟨⟨t1,t2⟩,_⟩,t4⟩,t5⟩:=hp;obtain⟨g1,g2,g3⟩:=WW (T:=C.T) (ρ:=A8 [a,b]) t1 hl;have hρ:∀ j,j<2→Dc C.T (A8 [a,b]) p.ds j= [a,b].getD j []:=fun j hj=>by rw[g1 j (by omega)];rfl
   split at t5
   ·rename_i f g hn1 hn2
    simp only[Bd] at t5;have e1:=CL t5.1;have e2:=CL t5.2;subst e1;subst e2;have n1:Dc C.T (A8 [a,b]) p.ds nx=X:=by
     have:=g2 (nx,_) (Oo hn1);rw[show Dc C.T (A8 [a,b]) p.ds nx=_ from this];simp only[FR.den,OP.den,hs,NT,Vi,Iq.den,hρ 1 (by omega)];exact hX
    have n2:Dc C.T (A8 [a,b]) p.ds ny=Y:=by
     have:=g2 (ny,_) (Oo hn2);rw[show Dc C.T (A8 [a,b]) p.ds ny=_ from this];simp only[FR.den,OP.den,hs,NT,Vi,Iq.den,hρ 0 (by omega)];exact hY
    obtain⟨_,g4,_⟩:=g3 (yZ (nx:=nx) (ny:=ny) (k:=k) g2 (by rw[n1,n2];exact h1) (by rw[n1,n2];exact h2) hk (by omega) t2);unfold AQ.raw SF;rw[g4];simp only
    split at t4
    ·rename_i e es Θ
     rw[Θ];simp only[VT]
     split at t4
     ·rename_i c hc
      have:=CL t4;rw[hc,this]
      cases Nat.blt k 32<;>rfl
     ·cases t4
    ·cases t4
   ·cases t5
  ·cases hp
 rcases uA hx hy with he|⟨k,h1,h2,h3⟩
 ·rw[decide_eq_true he];exact key 32 (by omega) (fun i _=>by rw[he]) (by omega)
 ·rw[decide_eq_false (fun he=>h3 (by rw[he])),key k (by omega) h2 (fun _=>h3)];have:Nat.blt k 32=true:=zh h1;rw[this];rfl
theorem wU:∀ {l m:List Int},by8 l→by8 m→l.length=m.length→IG l=IG m→l=m
 | [],[],_,_,_,_=>rfl
 | [],_::_,_,_,h,_=>by simp at h
 |_::_,[],_,_,h,_=>by simp at h
 |x::l,y::m,h1,h2,h3,h4=>by
  have a1:=h1 x LA;have a2:=h2 y LA;simp only[IG] at h4;have e:x=y:=by omega
  subst e;rw[wU (fun z hz=>h1 z (MQ _ hz)) (fun z hz=>h2 z (MQ _ hz)) (by simpa using h3) (by omega)]
end
section
open Go
def ANn(s:CS)(d:FR):Option AV:=match d with
 |⟨.bin .shl κ,[.xs [x],.xs [.lit (.ofNat m)]]⟩=>(match s.x x with
  |some a=>bif !Pm κ&&Nat.blt m κ.bits&&Bj 0 a.lo&&Q5 κ ((2^m:Nat)*a.lo) ((2^m:Nat)*a.hi) then some (.mk0 (Cq (2^m:Nat) a.p) ((2^m:Nat)*a.lo) ((2^m:Nat)*a.hi)) else none
  |none=>none)
 |_=>none
theorem AJ2{T:Tb}{ρ:Bl}{s:CS}(hs:PT ρ s){d:FR}{r:AV}(h:ANn s d=some r):∃ z,d.den T ρ= [z]∧r.ok ρ z:=by
 unfold ANn at h
 split at h
 ·rename_i κ x m
  split at h
  ·rename_i a ha
   cases hb:(!Pm κ&&Nat.blt m κ.bits&&Bj 0 a.lo&&Q5 κ ((2^m:Nat)*a.lo) ((2^m:Nat)*a.hi)) with
   |false=>rw[hb] at h;cases h
   | true=>
    rw[hb,cond_true,Am] at h;subst h;simp only[Bd] at hb;obtain⟨⟨⟨_,h1⟩,h2⟩,h3⟩:=hb;have hx:=CS.x_ok hs ha;have hlt:=EF h1;have hp:(0:Int)≤((2^m:Nat):Int):=yP _;have l1:((2^m:Nat):Int)*a.lo≤((2^m:Nat):Int)*x.den ρ:=Int.mul_le_mul_of_nonneg_left hx.2.1 hp;have l2:((2^m:Nat):Int)*x.den ρ≤((2^m:Nat):Int)*a.hi:=Int.mul_le_mul_of_nonneg_left hx.2.2.1 hp;have hw:=JV (Kq h3 l1 l2);have hmin:min (Int.ofNat m).toNat κ.bits=m:=by
     show min ((m:Int)).toNat κ.bits=m;rw[TJ];omega
    have hcast:((2^m:Nat):Int)=2^m:=by push_cast;rfl
    refine⟨((2^m:Nat):Int)*x.den ρ,?_,JB ?_ l1 l2⟩
    ·show [Ao .shl κ (x.den ρ) (Int.ofNat m)]=_;simp only[Ao];rw[hmin, ← hcast,Y6 (x.den ρ),hw]
    ·rw[CW, ← hx.1]
  ·cases h
 ·cases h
def WE(M:List (Nat×FK))(sk:List Nat):CS→List (Nat×FR)→Option CS
 |s,[]=>some s
 |s,(n,d)::r=>bif EH n sk then WE M sk s r else (match ANn s d with
  |some a=>WE M sk ⟨(n,[a])::s.vs,s.bs,s.mm⟩ r
  |none=>match yI M s n d with
  |some (η,nb,nm)=>WE M sk ⟨(n,η)::s.vs,nb++s.bs,nm++s.mm⟩ r
  |none=>none)
theorem Us{T:Tb}{M:List (Nat×FK)}(hM:Xx T M){sk:List Nat}{ρ:Bl}:∀ {ds:List (Nat×FR)} {s s':CS},PT ρ s→VJ T ρ ds→WE M sk s ds=some s'→PT ρ s'
 | [],s,s',hs,_,h=>by simp only[WE,Am] at h;subst h;exact hs
 | (n,d)::r,s,s',hs,hd,h=>by
  unfold WE at h
  cases hsk:EH n sk with
  |true=>
   rw[hsk,cond_true] at h;exact Us hM hs (fun p hp=>hd p (MQ _ hp)) h
  |false=>
  rw[hsk,cond_false] at h
  split at h
  ·rename_i a0 ha0
   obtain⟨z,hz,hok⟩:=AJ2 (T:=T) hs ha0;have hn:ρ n=d.den T ρ:=hd (n,d) LA;refine Us (s:=⟨(n,[a0])::s.vs,s.bs,s.mm⟩) hM ⟨fun i as hi k a ha=>?_,hs.2.1,hs.2.2⟩ (fun p hp=>hd p (MQ _ hp)) h;simp only[lk] at hi
   cases hb:Nat.beq n i with
   |true=>
    rw[hb,cond_true,Am] at hi;have:=CL hb;subst this;subst hi;obtain⟨rfl,rfl⟩:=QF ha;rw[hn,hz];exact hok
   |false=>rw[hb,cond_false] at hi;exact hs.1 i as hi k a ha
  ·split at h
   rename_i η nb nm hc
   obtain⟨g1,g2,g3⟩:=rT hM hs (hd (n,d) LA) hc;refine Us hM ⟨fun i as hi k a ha=>?_,fun a ha=>?_,fun m x y hm=>?_⟩ (fun p hp=>hd p (MQ _ hp)) h
   ·simp only[lk] at hi
    cases hb:Nat.beq n i with
    |true=>
     rw[hb,cond_true,Am] at hi;have:=CL hb;subst this;subst hi;exact g1 k a ha
    |false=>rw[hb,cond_false] at hi;exact hs.1 i as hi k a ha
   ·rcases iQ.1 (Eh.1 ha) with h|h
    ·exact g2 a (Eh.2 h)
    ·exact hs.2.1 a (Eh.2 h)
   ·rcases VB hm with h|h
    ·exact g3 m x y h
    ·exact hs.2.2 m x y h
   ·cases h
def AFf (i:AQ) (C:Cx) (M:List (Nat×FK)) (ζ:List (List (Int×Int))) (n:Nat) (b:List (Int×Int)):Option (List (Nat×FR)×List JM×CS×List (List AV)):=
 match gQ (i.tree C) with
 | some (ds,ob,_,st)=>bif Lp i.s0.params.length (i.tree C)&&Nat.beq ζ.length i.s0.params.length then (match WE M [n] ⟨uo 0 ζ ++ [(n,vF n b)],[],[]⟩ ds with
  | some s=>(match Lr C i.s0 i.rvs st with
   |some es=>(match bX s es with
    |some r=>some (ds,ob,s,r)
    |none=>none)
   |none=>none)
  |none=>none) else none
 |none=>none
theorem AJZ{ρ:Bl}{n:Nat}{b:List (Int×Int)}(hl:b.length≤4096)(hb:∀ (k:Nat) (p:Int×Int),b[k]? = some p→p.1≤(ρ n).getD k 0∧(ρ n).getD k 0≤p.2){k:Nat}{a:AV}(ha:(vF n b)[k]? = some a):a.ok ρ ((ρ n).getD k 0):=by
 unfold vF at ha;simp only[OX,Ya] at ha;obtain⟨⟨p,k'⟩,h4,rfl⟩:=ha;rw[List.getElem?_zipIdx,Ya] at h4;obtain⟨p',h5,h6⟩:=h4;simp only[Prod.mk.injEq,NU] at h6;obtain⟨rfl,rfl⟩:=h6;have hk:k<b.length:=(Pi.1 h5).1;obtain⟨b1,b2⟩:=hb k p' h5;refine JB ?_ b1 b2;rw[Gu,αv_enc0 ρ (by omega)]
theorem AF7 {i:AQ} {C:Cx} {M:List (Nat×FK)} (hM:Xx C.T M) {ζ:List (List (Int×Int))} {n:Nat} {b:List (Int×Int)} {ds:List (Nat×FR)} {ob:List JM} {s:CS} {θ:List (List AV)} (h:AFf i C M ζ n b=some (ds,ob,s,θ)) {ins:List (List Int)} (hb:NR ζ ins) (hl:b.length≤4096)
  (hn:∀ ρ:Bl,(∀ j,j<i.s0.params.length→ρ j=ins.getD j [])→VJ C.T ρ ds→∀ (k:Nat) (p:Int×Int),b[k]? = some p→p.1≤(ρ n).getD k 0∧(ρ n).getD k 0≤p.2):
  ∃ ρ:Bl,(∀ j,j<i.s0.params.length→ρ j=ins.getD j [])∧VJ C.T ρ ds∧PT ρ s∧((∀ q∈ob,q.den C.T ρ)→Cn C.T (i.tree C) (A8 ins))∧∀ (k:Nat) (η:List AV),θ[k]? = some η→fJ ρ (i.raw C k ins) η:=by
 unfold AFf at h
 split at h
 ·rename_i ds' ob' e st hl'
  cases hc:(Lp i.s0.params.length (i.tree C)&&Nat.beq ζ.length i.s0.params.length) with
  |false=>rw[hc] at h;cases h
  |true=>
  rw[hc,cond_true] at h;simp only[Bd] at hc;have hlen:=CL hc.2;obtain⟨k1,k2,k3,k4,k5⟩:=Pp (T:=C.T) (ρ:=A8 ins) hc.1 hl'
  split at h
  ·rename_i s' hs
   split at h
   ·rename_i es Θ
    split at h
    ·rename_i r hr
     simp only[Am,Prod.mk.injEq] at h;obtain⟨rfl,rfl,rfl,rfl⟩:=h;have hρ:∀ j,j<i.s0.params.length→Dc C.T (A8 ins) ds' j=ins.getD j []:=fun j hj=>by rw[k1 j hj];rfl
     have hin:=Zc hb (ρ:=Dc C.T (A8 ins) ds') (fun j hj=>hρ j (by omega));have hin':PT (Dc C.T (A8 ins) ds') ⟨uo 0 ζ ++ [(n,vF n b)],[],[]⟩:=by
      refine⟨fun i' η hi k a ha=>?_,hin.2.1,fun m x y hm=>by simp[lk] at hm⟩
      rcases VB hi with h1|h1
      ·exact hin.1 i' η h1 k a ha
      ·simp only[lk] at h1
       cases hbb:Nat.beq n i' with
       |true=>
        rw[hbb,cond_true,Am] at h1;have:=CL hbb;subst this;subst h1;exact AJZ hl (hn _ hρ k2) ha
       |false=>rw[hbb] at h1;cases h1
     have hS:=Us hM hin' k2 hs;refine⟨Dc C.T (A8 ins) ds',hρ,k2,hS,k5,fun k η hk=>?_⟩;obtain⟨e',g1,g2⟩:=VE hr k η hk;have:i.raw C k ins=e'.1.map (·.den (Dc C.T (A8 ins) ds')):=by
      unfold AQ.raw SF;rw[k4];simp only[Θ,g1]
     rw[this];exact WV hS g2
    ·cases h
   ·cases h
  ·cases h
 ·cases h
end
end Go.Proofs.YtloibefkijfdlaaGreatDoor
