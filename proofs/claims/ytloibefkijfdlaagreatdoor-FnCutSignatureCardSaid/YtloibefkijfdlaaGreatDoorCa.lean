/- A checker of word arithmetic, part 1: polynomials over the values of names; words. -/
import Derived.Test.YtloibefkijfdlaaGreatDoorSb
namespace Go.Proofs.YtloibefkijfdlaaGreatDoor
section
open Go
def enc(i k m:Nat):Nat:=(i*4096+k)*128+m
def αv(ρ:Br)(a:Nat):Int:=((ρ (a/524288)).getD (a/128%4096) 0)/2^(a%128)
theorem αv_enc(ρ:Br){i k m:Nat}(hk:k<4096)(hm:m<128):αv ρ (enc i k m)=((ρ i).getD k 0)/2^m:=by
 unfold αv enc;rw[show((i*4096+k)*128+m)/524288=i by omega,show((i*4096+k)*128+m)/128%4096=k by omega,show((i*4096+k)*128+m)%128=m by omega]
theorem αv_enc0(ρ:Br){i k:Nat}(hk:k<4096):αv ρ (enc i k 0)=(ρ i).getD k 0:=by
 rw[αv_enc ρ hk (by omega),Int.pow_zero,Int.ediv_one]
abbrev VY:=List Nat
abbrev GU:=List (VY×Int)
def ek(ρ:Br):VY->Int
 | []=>1
 |a::r=>αv ρ a*ek ρ r
def FU(ρ:Br):GU->Int
 | []=>0
 |(m,c)::r=>c*ek ρ m+FU ρ r
def yE:VY->VY->Nat
 | [],[]=>1
 | [],_::_=>0
 |_::_,[]=>2
 |a::r,b::s=>bif Nat.beq a b then yE r s else bif Nat.blt a b then 0 else 2
theorem sJ:∀ {a b:VY},yE a b=1->a=b
 | [],[],_=>rfl
 | [],_::_,h=>by simp[yE] at h
 |_::_,[],h=>by simp[yE] at h
 |a::r,b::s,h=>by
  unfold yE at h;cases hb:Nat.beq a b with
  |true=>rw[hb] at h;rw[CR hb,sJ h]
  |false=>rw[hb] at h;cases hc:Nat.blt a b<;>simp[hc] at h
def J1:Int->Bool
 | .ofNat 0=>true
 |_=>false
theorem gP{n:Int}(h:J1 n=true):n=0:=by
 unfold J1 at h;split at h<;>first|rfl|cases h
def xh(m:VY)(c:Int):GU->GU
 | []=>bif J1 c then[] else[(m,c)]
 |(m',c')::r=>match yE m m' with
  |0=>bif J1 c then(m',c')::r else(m,c)::(m',c')::r
  |1=>bif J1 (c+c') then r else(m',c+c')::r
  |_=>(m',c')::xh m c r
theorem dG(ρ:Br)(m:VY)(c:Int):∀p,FU ρ (xh m c p)=c*ek ρ m+FU ρ p
 | []=>by
  unfold xh;cases h:J1 c with
  |true=>rw[gP h];simp[FU]
  |false=>simp[FU]
 | (m',c')::r=>by
  unfold xh;split
  ·cases h:J1 c with
   |true=>rw[gP h];simp[FU]
   |false=>simp[FU]
  ·rename_i hm;rw[sJ hm];cases h:J1 (c+c') with
   |true=>
    have:=gP h;simp only[cond_true,FU];rw[<- Int.add_assoc, <- HW,this];simp
   |false=>simp only[cond_false,FU];rw[HW,Int.add_assoc]
  ·simp only[FU,dG ρ m c r];omega
def Di:GU->GU->GU
 | [],q=>q
 |(m,c)::r,q=>xh m c (Di r q)
theorem Cg(ρ:Br):∀p q,FU ρ (Di p q)=FU ρ p+FU ρ q
 | [],q=>by simp[Di,FU]
 |(m,c)::r,q=>by simp only[Di,dG,Cg ρ r q,FU];omega
def Cr(d:Int):GU->GU
 | []=>[]
 |(m,c)::r=>(m,d*c)::Cr d r
theorem CZ(ρ:Br)(d:Int):∀p,FU ρ (Cr d p)=d*FU ρ p
 | []=>by simp[Cr,FU]
 |(m,c)::r=>by simp only[Cr,FU,CZ ρ d r,qR,Xt]
def AG4(bs:List Nat)(a:Nat):VY->VY
 | []=>[a]
 |b::r=>bif Nat.beq a b then(bif ED a bs then b::r else a::b::r) else bif Nat.blt a b then a::b::r else b::AG4 bs a r
def Od(ρ:Br)(bs:List Nat):Prop:=∀a,ED a bs=true->αv ρ a=0\/αv ρ a=1
theorem rZ{ρ:Br}{bs:List Nat}(hb:Od ρ bs)(a:Nat):∀m,ek ρ (AG4 bs a m)=αv ρ a*ek ρ m
 | []=>rfl
 | b::r=>by
  unfold AG4;cases h:Nat.beq a b with
  | true=>
   have:=CR h;subst this;simp only[cond_true];cases h2:ED a bs with
   |true=>
    simp only[cond_true,ek];rcases hb a h2 with e|e<;>rw[e]<;>simp
   |false=>rfl
  |false=>
   simp only[cond_false];cases h2:Nat.blt a b with
   |true=>rfl
   |false=>simp only[cond_false,ek,rZ hb a r];rw[<- Xt,Xg (αv ρ b),Xt]
def ABb(bs:List Nat):VY->VY->VY
 | [],m=>m
 |a::r,m=>AG4 bs a (ABb bs r m)
theorem uz{ρ:Br}{bs:List Nat}(hb:Od ρ bs):∀m n,ek ρ (ABb bs m n)=ek ρ m*ek ρ n
 | [],m=>by simp[ABb,ek]
 |a::r,m=>by simp only[ABb,rZ hb,uz hb r m,ek,Xt]
def jO(bs:List Nat)(m:VY)(c:Int):GU->GU->GU
 | [],acc=>acc
 |(n,d)::r,acc=>xh (ABb bs m n) (c*d) (jO bs m c r acc)
theorem jS{ρ:Br}{bs:List Nat}(hb:Od ρ bs)(m:VY)(c:Int):∀p acc,FU ρ (jO bs m c p acc)=c*ek ρ m*FU ρ p+FU ρ acc
 | [],acc=>by simp[jO,FU]
 | (n,d)::r,acc=>by
  simp only[jO,dG,jS hb m c r acc,FU,uz hb,qR];have:c*d*(ek ρ m*ek ρ n)=c*ek ρ m*(d*ek ρ n):=by
   rw[Xt,Xt, <- Xt d,Xg d,Xt]
  rw[this];omega
def Tn(bs:List Nat):GU->GU->GU
 | [],_=>[]
 |(m,c)::r,q=>jO bs m c q (Tn bs r q)
theorem TR{ρ:Br}{bs:List Nat}(hb:Od ρ bs):∀p q,FU ρ (Tn bs p q)=FU ρ p*FU ρ q
 | [],q=>by simp[Tn,FU]
 |(m,c)::r,q=>by simp only[Tn,jS hb,TR hb r q,FU,HW]
def X8(c:Int):GU:=bif J1 c then[] else[([],c)]
theorem P8(ρ:Br)(c:Int):FU ρ (X8 c)=c:=by
 unfold X8;cases h:J1 c with
 |true=>rw[gP h];rfl
 |false=>simp[FU,ek]
def JV(a:Nat):GU:=[([a],1)]
theorem Gi(ρ:Br)(a:Nat):FU ρ (JV a)=αv ρ a:=by simp[JV,FU,ek]
def OC(M:Nat):GU->Bool
 | []=>true
 |(_,c)::r=>Nat.beq (c.natAbs%M) 0&&OC M r
def xD(M:Nat):GU->GU
 | []=>[]
 |(m,c)::r=>(m,c/M)::xD M r
theorem bS(ρ:Br)(M:Nat):∀p,OC M p=true->FU ρ p=M*FU ρ (xD M p)
 | [],_=>by simp[xD,FU]
 |(m,c)::r,h=>by
  simp only[OC,Bl] at h;have h1:(M:Int) ∣ c:=Int.natAbs_dvd_natAbs.1 (by rw[Int.natAbs_natCast];exact Nat.dvd_of_mod_eq_zero (CR h.1));simp only[xD,FU,bS ρ M r h.2,qR];rw[<- Xt,Int.mul_ediv_cancel' h1]
theorem VB(ρ:Br){M:Nat}{p:GU}(h:OC M p=true):(M:Int) ∣ FU ρ p:=⟨_,bS ρ M p h⟩
def Bh(a b:Int):Bool:=match a,b with
 | .ofNat m,.ofNat n=>Nat.ble m n
 | .ofNat _,.negSucc _=>false
 | .negSucc _,.ofNat _=>true
 | .negSucc m,.negSucc n=>Nat.ble n m
theorem A8{a b:Int}(h:Bh a b=true):a<=b:=by
 unfold Bh at h;split at h
 ·exact Int.ofNat_le.2 (MQ h)
 ·cases h
 ·exact RP (Int.le_of_lt (Int.negSucc_lt_zero _)) (sU _)
 ·have:=MQ h;simp only[Int.negSucc_eq];omega
def AE9(a b:Int):Int:=bif Bh a b then a else b
def AGZ(a b:Int):Int:=bif Bh a b then b else a
theorem Ui{a b:Int}(h:Bh a b=false):b<=a:=by
 unfold Bh at h;split at h
 ·rename_i m n;have:¬m<=n:=λhle=>by rw[vM hle] at h;cases h
  exact Int.ofNat_le.2 (by omega)
 ·exact RP (Int.le_of_lt (Int.negSucc_lt_zero _)) (sU _)
 ·cases h
 ·rename_i m n;have:¬n<=m:=λhle=>by rw[vM hle] at h;cases h
  simp only[Int.negSucc_eq];omega
theorem AD6(a b:Int):AE9 a b<=a/\AE9 a b<=b:=by
 unfold AE9;cases h:Bh a b with
 |true=>exact⟨lh _,A8 h⟩
 |false=>exact⟨Ui h,lh _⟩
theorem AGo(a b:Int):a<=AGZ a b/\b<=AGZ a b:=by
 unfold AGZ;cases h:Bh a b with
 |true=>exact⟨A8 h,lh _⟩
 |false=>exact⟨lh _,Ui h⟩
theorem JZ{k:IntKind}{n:Int}(h:IU k n):k.wrap n=n:=by
 obtain⟨h1,h2⟩:=h;cases k<;>simp only[IntKind.min,IntKind.max,IntKind.bits,IntKind.signed] at h1 h2<;>simp[IntKind.wrap,IntKind.bits,IntKind.signed]<;>simp at h1 h2<;>omega
def Jn:IntKind->Nat
 | .u8=>8 | .u16=>16 | .u32=>32 | .u64=>64
 |_=>0
theorem KC{k:IntKind}(hk:Ob k=true)(n:Int):k.wrap n=n%2^Jn k:=by
 cases k<;>first|exact absurd hk (by decide)|(simp[IntKind.wrap,IntKind.bits,IntKind.signed,Jn])
theorem I1{k:IntKind}(hk:Ob k=true){n:Int}:IU k n↔0<=n/\n<2^Jn k:=by
 cases k<;>first|exact absurd hk (by decide)|(simp[IU,IntKind.min,IntKind.max,IntKind.bits,IntKind.signed,Jn];try omega)
theorem jl{k:IntKind}(hk:Ob k=true):k.bits=Jn k:=by
 cases k<;>first|exact absurd hk (by decide)|rfl
theorem Iy{k:IntKind}(hk:Ob k=true){x y:Int}(hx:IU k x)(hy:IU k y):
  Dp .and k x y=((x.toNat &&& y.toNat:Nat):Int)/\Dp .or k x y=((x.toNat ||| y.toNat:Nat):Int)/\Dp .xor k x y=((x.toNat ^^^ y.toNat:Nat):Int):=by
 have eV:=(I1 hk).1 hx;have hy':=(I1 hk).1 hy;obtain⟨a,rfl⟩:=YD eV.1;obtain⟨b,rfl⟩:=YD hy'.1;have ha:a<2^Jn k:=by exact_mod_cast eV.2
 have hb:b<2^Jn k:=by exact_mod_cast hy'.2
 have mC:∀c:Nat,c<2^Jn k->(BitVec.ofInt k.bits (c:Int)).toNat=c:=λc hc=>by
  rw[jl hk,BitVec.toNat_ofInt];have:((c:Int)%((2^Jn k:Nat):Int)).toNat=c%2^Jn k:=by omega
  rw[this,Nat.mod_eq_of_lt hc]
 have pe:∀c:Nat,c<2^Jn k->k.wrap (c:Int)=c:=λc hc=>JZ ((I1 hk).2 ⟨sU _,by exact_mod_cast hc⟩)
 refine⟨?_,?_,?_⟩
 ·simp only[Dp,BitVec.toNat_and,mC a ha,mC b hb,SN];exact pe _ (zdb Nat.and_le_left ha)
 ·simp only[Dp,BitVec.toNat_or,mC a ha,mC b hb,SN];exact pe _ (Nat.or_lt_two_pow ha hb)
 ·simp only[Dp,BitVec.toNat_xor,mC a ha,mC b hb,SN];exact pe _ (Nat.xor_lt_two_pow ha hb)
theorem Vw{k:IntKind}(hk:Ob k=true){x:Int}(hx:IU k x){m:Nat}(hm:m<=Jn k):Dp .and k x (2^m-1)=x%2^m:=by
 have eV:=(I1 hk).1 hx;have hp:(1:Int)<=2^m:=by exact_mod_cast Nat.one_le_two_pow
 have hle:(2:Int)^m<=2^Jn k:=by exact_mod_cast XS (by omega) hm
 rw[(Iy hk hx ((I1 hk).2 ⟨by omega,by omega⟩)).1];have:((2:Int)^m-1).toNat=2^m-1:=by
  have:(2:Int)^m=((2^m:Nat):Int):=by push_cast;rfl
  rw[this];omega
 rw[this,Nat.and_two_pow_sub_one_eq_mod];obtain⟨a,rfl⟩:=YD eV.1;simp
theorem UI{k:IntKind}(hk:Ob k=true){x y:Int}(hx:IU k x)(hy:IU k y){m:Nat}(h:(2:Int)^m ∣ x)(cf:y<2^m):Dp .or k x y=x+y/\Dp .or k y x=x+y:=by
 have eV:=(I1 hk).1 hx;have hy':=(I1 hk).1 hy;rw[(Iy hk hx hy).2.1,(Iy hk hy hx).2.1];obtain⟨c,rfl⟩:=h;have hp:(0:Int)<2^m:=by exact_mod_cast Nat.two_pow_pos m
 have hc:0<=c:=by
  rcases Int.lt_or_le c 0 with h|h
  ·have:=Int.mul_neg_of_pos_of_neg hp h;omega
  ·exact h
 obtain⟨n,rfl⟩:=YD hc;obtain⟨b,rfl⟩:=YD hy'.1;have e1:((2:Int)^m*(n:Int)).toNat=2^m*n:=by
  have:(2:Int)^m*(n:Int)=((2^m*n:Nat):Int):=by push_cast;rfl
  rw[this,SN]
 have hb:b<2^m:=by exact_mod_cast cf
 have e2:=Nat.two_pow_add_eq_or_of_lt hb n;rw[e1,SN];refine⟨?_,?_⟩
 ·rw[<- e2];push_cast;rfl
 ·rw[Nat.or_comm, <- e2];push_cast;rfl
end
section
open Go
structure AV where
 p:GU
 lo:Int
 hi:Int
 tz:Nat
def AV.ok(ρ:Br)(x:Int)(a:AV):Prop:=x=FU ρ a.p/\a.lo<=x/\x<=a.hi/\(2:Int)^a.tz ∣ x
inductive FK where
 |Cl (c:Nat)
 |tA
 |CN
structure CS where
 vs:List (Nat×List AV)
 bs:List Nat
 mm:List (Nat×(X×X))
def OL(ρ:Br)(s:CS):Prop:=
 (∀i ι,lk i s.vs=some ι->∀(k:Nat) (a:AV),ι[k]? = some a->a.ok ρ ((ρ i).getD k 0))/\Od ρ s.bs/\
  ∀n x y,lk n s.mm=some (x,y)->0<=x.den ρ/\0<=y.den ρ/\(ρ n).getD 0 0=x.den ρ*y.den ρ/18446744073709551616
def CS.x(s:CS):X->Option AV
 | .lit c=>some ⟨X8 c,c,c,0⟩
 | .v i k=>match lk i s.vs with
  |some ι=>ι[k]?
  |none=>none
theorem CS.gR{ρ:Br}{s:CS}(h:OL ρ s){x:X}{a:AV}(hx:s.x x=some a):a.ok ρ (x.den ρ):=by
 cases x with
 |lit c=>
  simp only[CS.x,Ai] at hx;subst hx;exact⟨(P8 ρ c).symm,lh _,lh _,by simp[X.den]⟩
 |v i k=>
  simp only[CS.x] at hx;split at hx
  ·rename_i ι hv;exact h.1 i ι hv k a hx
  ·cases hx
def AL9(p:GU)(i k m:Nat):GU:=match p with
 | [([t],.ofNat 1)]=>bif Nat.blt (t%128+m) 128 then JV (t+m) else JV (enc i k m)
 |_=>JV (enc i k m)
theorem AGr{ρ:Br}{i k m:Nat}{p:GU}(hk:k<4096)(hm:m<128)(h:(ρ i).getD k 0=FU ρ p):FU ρ (AL9 p i k m)=(ρ i).getD k 0/2^m:=by
 unfold AL9;split
 ·rename_i t;cases hb:Nat.blt (t%128+m) 128 with
  |false=>rw[cond_false,Gi,αv_enc ρ hk hm]
  |true=>
   have hb:=D7 hb;rw[cond_true,Gi,h];have e:FU ρ [([t],Int.ofNat 1)]=αv ρ t:=Gi ρ t;rw[e];unfold αv;rw[show(t+m)/524288=t/524288 by omega,show(t+m)/128=t/128 by omega,show(t+m)%128=t%128+m by omega,Int.pow_add,Int.ediv_ediv_of_nonneg];have:(0:Int)<2^(t%128):=by exact_mod_cast Nat.two_pow_pos _
   omega
 ·rw[Gi,αv_enc ρ hk hm]
def AD1(x:X)(a:AV)(m:Nat):Option AV:=match x with
 | .lit c=>bif Nat.blt m 128 then some ⟨X8 (c/2^m),c/2^m,c/2^m,0⟩ else none
 | .v i k=>bif Bh (2^m) a.hi || !(Bh 0 a.lo) then(bif Nat.blt k 4096&&Nat.blt m 128 then some ⟨AL9 a.p i k m,a.lo/2^m,a.hi/2^m,0⟩ else none) else some ⟨[],0,0,0⟩
theorem sF{ρ:Br}{x:X}{a q:AV}{m:Nat}(ha:a.ok ρ (x.den ρ))(h:AD1 x a m=some q):q.ok ρ (x.den ρ/2^m):=by
 have hp:(0:Int)<2^m:=by exact_mod_cast Nat.two_pow_pos m
 unfold AD1 at h;split at h
 ·rename_i c;cases hb:Nat.blt m 128 with
  |false=>rw[hb] at h;cases h
  |true=>
   rw[hb,cond_true,Ai] at h;subst h;exact⟨(P8 ρ _).symm,lh _,lh _,by simp⟩
 ·rename_i i k;cases hb:(Bh (2^m) a.hi || !(Bh 0 a.lo)) with
  | true=>
   rw[hb,cond_true] at h;cases hc:(Nat.blt k 4096&&Nat.blt m 128) with
   |false=>rw[hc] at h;cases h
   |true=>
    rw[hc,cond_true,Ai] at h;subst h;simp only[Bl] at hc;refine⟨?_,Int.ediv_le_ediv hp ha.2.1,Int.ediv_le_ediv hp ha.2.2.1,by simp⟩;exact(AGr (D7 hc.1) (D7 hc.2) ha.1).symm
  | false=>
   rw[hb,cond_false,Ai] at h;subst h;rw[Bool.or_eq_false_iff,Bool.not_eq_false'] at hb;have h1:a.hi<2^m:=by
    rcases Int.lt_or_le a.hi (2^m) with h|h
    ·exact h
    ·have:=hb.1;have h2:=Ui (a:=a.hi) (b:=2^m);cases h3:Bh a.hi (2^m) with
     | true=>
      have h4:=A8 h3;have:a.hi=2^m:=Int.le_antisymm h4 h;rw[this] at hb;have:Bh ((2:Int)^m) (2^m)=true:=by
       have:(2:Int)^m=((2^m:Nat):Int):=by push_cast;rfl
       rw[this];exact vM (KA _)
      rw[this] at hb;cases hb.1
     | false=>
      exfalso;have h5:¬(2:Int)^m<=a.hi:=λhle=>by
       have:(2:Int)^m=((2^m:Nat):Int):=by push_cast;rfl
       rw[this] at hle hb;have h6:0<=a.hi:=RP (sU _) hle;obtain⟨z,hz⟩:=YD h6;rw[hz] at hle hb;have:Bh ((2^m:Nat):Int) (z:Int)=true:=vM (by exact_mod_cast hle);rw[this] at hb;cases hb.1
      exact h5 h
   have h0:=A8 hb.2;have hz:X.den ρ (.v i k)/2^m=0:=Int.ediv_eq_zero_of_lt (RP h0 ha.2.1) (Int.lt_of_le_of_lt ha.2.2.1 h1);rw[hz];exact⟨rfl,lh _,lh _,by simp⟩
def AAg(x:X)(a:AV)(m:Nat):Option AV:=match AD1 x a m with
 |some q=>(match q.p with
  | []=>some ⟨a.p,a.lo,a.hi,a.tz⟩
  |_=>some ⟨Di a.p (Cr (-(2^m:Nat)) q.p),0,(2^m:Nat)-1,0⟩)
 |none=>none
theorem dZ{ρ:Br}{x:X}{a q:AV}{m:Nat}(ha:a.ok ρ (x.den ρ))(h:AAg x a m=some q):q.ok ρ (x.den ρ%2^m):=by
 have hp:(0:Int)<2^m:=by exact_mod_cast Nat.two_pow_pos m
 have pC:((2^m:Nat):Int)=2^m:=by push_cast;rfl
 unfold AAg at h;split at h
 ·rename_i s hs;have Ks:=sF ha hs;have hdm:=Int.mul_ediv_add_emod (x.den ρ) (2^m);split at h
  ·rename_i hq;simp only[Ai] at h;subst h;have:x.den ρ/2^m=0:=by rw[Ks.1,hq];rfl
   rw[this,Int.mul_zero,zcz] at hdm;rw[hdm];exact ha
  ·simp only[Ai] at h;subst h;refine⟨?_,Int.emod_nonneg _ (by omega),by rw[pC];have:=Int.emod_lt_of_pos (x.den ρ) hp;simp only;omega,by simp⟩;rw[Cg,CZ, <- ha.1, <- Ks.1,pC,Int.neg_mul];omega
 ·cases h
def mI(c:Int):Option Nat:=match c with
 | .ofNat n=>bif Nat.beq (2^(Nat.log2 (n+1))) (n+1) then some (Nat.log2 (n+1)) else none
 |_=>none
theorem yX{c:Int}{m:Nat}(h:mI c=some m):c=2^m-1:=by
 unfold mI at h;split at h
 ·rename_i n;cases hb:Nat.beq (2^(Nat.log2 (n+1))) (n+1) with
  |false=>rw[hb] at h;cases h
  |true=>
   rw[hb,cond_true,Ai] at h;subst h;have:=CR hb;have h2:((2^(Nat.log2 (n+1)):Nat):Int)=((n+1:Nat):Int):=by rw[this]
   have h3:((2^(Nat.log2 (n+1)):Nat):Int)=(2:Int)^(Nat.log2 (n+1)):=by push_cast;rfl
   rw[<- h3,h2];show(n:Int)=_;omega
 ·cases h
def QI(k:IntKind)(lo hi:Int):Bool:=Bh k.min lo&&Bh hi k.max
theorem KX{k:IntKind}{lo hi x:Int}(h:QI k lo hi=true)(h1:lo<=x)(h2:x<=hi):IU k x:=by
 simp only[QI,Bl] at h;exact⟨RP (A8 h.1) h1,RP h2 (A8 h.2)⟩
def AV.pD(p:GU)(lo hi:Int):AV:=⟨p,lo,hi,0⟩
def ACz(κ:IntKind)(n:Nat):Option AV:=bif Ob κ then some (.pD (JV (enc n 0 0)) 0 κ.max) else none
def zP(bs:List Nat)(op:BinOp)(κ:IntKind)(x y:X)(a b:AV)(n:Nat):Option AV:=
 match op with
 | .add=>bif QI κ (a.lo+b.lo) (a.hi+b.hi) then some (.pD (Di a.p b.p) (a.lo+b.lo) (a.hi+b.hi)) else ACz κ n
 | .sub=>bif QI κ (a.lo-b.hi) (a.hi-b.lo) then some (.pD (Di a.p (Cr (-1) b.p)) (a.lo-b.hi) (a.hi-b.lo)) else ACz κ n
 | .mul=>bif Bh 0 a.lo&&Bh 0 b.lo&&QI κ (a.lo*b.lo) (a.hi*b.hi) then some (.pD (Tn bs a.p b.p) (a.lo*b.lo) (a.hi*b.hi)) else ACz κ n
 | .and=>bif Ob κ&&QI κ a.lo a.hi&&QI κ b.lo b.hi then(match y with
  | .lit c=>(match mI c with
   |some m=>bif Nat.ble m (Jn κ) then AAg x a m else none
   |none=>none)
  |_=>none) else none
 | .or=>bif Ob κ&&QI κ a.lo a.hi&&QI κ b.lo b.hi then
   (bif Bh b.hi (2^a.tz-1)&&QI κ (a.lo+b.lo) (a.hi+b.hi) then some (.pD (Di a.p b.p) (a.lo+b.lo) (a.hi+b.hi))
   else bif Bh a.hi (2^b.tz-1)&&QI κ (a.lo+b.lo) (a.hi+b.hi) then some (.pD (Di a.p b.p) (a.lo+b.lo) (a.hi+b.hi)) else none) else none
 | .shr=>(match y with
  | .lit (.ofNat m)=>bif Nat.blt m κ.bits then AD1 x a m else none
  |_=>none)
 | .shl=>(match y with
  | .lit (.ofNat m)=>bif Ob κ&&Nat.ble m (Jn κ)&&Bh 0 a.lo then(match AAg x a (Jn κ-m) with
   |some r=>some ⟨Cr (2^m:Nat) r.p,(2^m:Nat)*r.lo,(2^m:Nat)*r.hi,m⟩
   |none=>none) else none
  |_=>none)
 | .eql | .neq | .lss | .leq | .gtr | .geq=>some (.pD (JV (enc n 0 0)) 0 1)
 |_=>none
def uR (M:List (Nat×FK)) (s:CS) (n:Nat) (d:GG):Option (List AV×List Nat×List (Nat×(X×X))):=
 match d.op,d.args with
 | .bin op κ,[.xs [x],.xs [y]]=>(match s.x x,s.x y with
  |some a,some b=>(match zP s.bs op κ x y a b n with
   |some r=>some ([r],bif Rq op then[enc n 0 0] else[],[])
   |none=>none)
  |_,_=>none)
 | .conv κ,[.xs [x]]=>(match s.x x with
  | some a=>bif QI κ a.lo a.hi then some ([⟨a.p,a.lo,a.hi,a.tz⟩],[],[])
   else bif Ob κ&&Bh 0 a.lo then(match AAg x a (Jn κ) with
    |some r=>some ([r],[],[])
    |none=>none) else none
  |none=>none)
 | .rN,[.xs [x],.xs [y],.xs [z]]=>(match s.x x,s.x y,s.x z with
  | some a,some b,some c=>
   bif Bh 0 a.lo&&Bh 0 b.lo&&Bh 0 c.lo&&Bh c.hi 1&&QI .u64 a.lo a.hi&&QI .u64 b.lo b.hi then
    let S:=Di (Di a.p b.p) c.p
    bif Bh (a.hi+b.hi+c.hi) 18446744073709551615 then some ([.pD S (a.lo+b.lo+c.lo) (a.hi+b.hi+c.hi),.pD [] 0 0],[],[])
    else bif OC 18446744073709551616 S then some ([.pD [] 0 0,.pD (xD 18446744073709551616 S) 0 1],[],[])
    else some ([.pD (Di S (Cr (-18446744073709551616) (JV (enc n 1 0)))) 0 18446744073709551615,.pD (JV (enc n 1 0)) 0 1],[enc n 1 0],[])
   else none
  |_,_,_=>none)
 | .sC,[.xs [x],.xs [y],.xs [z]]=>(match s.x x,s.x y,s.x z with
  | some a,some b,some c=>
   bif Bh 0 a.lo&&Bh 0 b.lo&&Bh 0 c.lo&&Bh c.hi 1&&QI .u64 a.lo a.hi&&QI .u64 b.lo b.hi then
    some ([.pD (Di (Di a.p (Cr (-1) (Di b.p c.p))) (Cr 18446744073709551616 (JV (enc n 1 0)))) 0 18446744073709551615,.pD (JV (enc n 1 0)) 0 1],[enc n 1 0],[])
   else none
  |_,_,_=>none)
 | .fn f true o,as=>(match lk f M with
  | some (.Cl c)=>(match o,as with
   |0,[.xs [x]]=>(match s.x x with
    |some a=>bif Bh 0 a.lo&&QI .u64 a.lo a.hi&&QI .u64 (c*a.lo) (c*a.hi) then some ([.pD (Cr c a.p) (c*a.lo) (c*a.hi)],[],[]) else none
    |none=>none)
   |_,_=>none)
  | some .tA=>(match as with
   | [.xs [x],.xs [y]]=>(match s.x x,s.x y with
    | some a,some b=>bif Bh 0 a.lo&&Bh 0 b.lo&&QI .u64 a.lo a.hi&&QI .u64 b.lo b.hi then(match o with
     |0=>some ([.pD (JV (enc n 0 0)) (a.lo*b.lo/18446744073709551616) (a.hi*b.hi/18446744073709551616)],[],[(n,(x,y))])
     |1=>bif Bh (a.hi*b.hi) 18446744073709551615 then some ([.pD (Tn s.bs a.p b.p) (a.lo*b.lo) (a.hi*b.hi)],[],[])
      else(match lk (n-1) s.mm with
      |some (x',y')=>bif x.beq x'&&y.beq y' then some ([.pD (Di (Tn s.bs a.p b.p) (Cr (-18446744073709551616) (JV (enc (n-1) 0 0)))) 0 18446744073709551615],[],[]) else none
      |none=>none)
     |_=>none) else none
    |_,_=>none)
   |_=>none)
  | some .CN=>(match o,as with
   |0,[_,.xs [c],.xs [z],.xs [y]]=>(match s.x c,s.x z,s.x y with
    |some c,some a,some b=>bif Bh 0 c.lo&&Bh c.hi 1&&QI .u64 a.lo a.hi&&QI .u64 b.lo b.hi then some ([.pD (Di a.p (Tn s.bs c.p (Di b.p (Cr (-1) a.p)))) (AE9 a.lo b.lo) (AGZ a.hi b.hi)],[],[]) else none
    |_,_,_=>none)
   |_,_=>none)
  |none=>none)
 |_,_=>none
end
section
open Go
def nZ(T:Tb)(f:Nat):FK->Prop
 | .Cl c=>∀x,IU .u64 x->Na.den T (.fn f true 0) [[x]]= [IntKind.u64.wrap (c*x)]
 | .tA=>∀x y,IU .u64 x->IU .u64 y->Na.den T (.fn f true 0) [[x],[y]]= [x*y/18446744073709551616]/\Na.den T (.fn f true 1) [[x],[y]]= [x*y%18446744073709551616]
 | .CN=>∀o c z y,c=0\/c=1->IU .u64 z->IU .u64 y->Na.den T (.fn f true 0) [o,[c],[z],[y]]= [if c=0 then z else y]
def Wh(T:Tb)(M:List (Nat×FK)):Prop:=∀f κ,lk f M=some κ->nZ T f κ
theorem WZ(x:Int):d1 [x]=x:=rfl
theorem Io{ρ:Br}{x:Int}{p:GU}{lo hi:Int}(h1:x=FU ρ p)(h2:lo<=x)(h3:x<=hi):(AV.pD p lo hi).ok ρ x:=⟨h1,h2,h3,by simp[AV.pD]⟩
theorem ABy{ρ:Br}{bs:List Nat}(ij:Od ρ bs){op:BinOp}{κ:IntKind}{x y:X}{a b r:AV}{n:Nat}(ha:a.ok ρ (x.den ρ))(hb:b.ok ρ (y.den ρ))(hn:(ρ n).getD 0 0=Ah op κ (x.den ρ) (y.den ρ))(h:zP bs op κ x y a b n=some r):
  r.ok ρ (Ah op κ (x.den ρ) (y.den ρ)):=by
 have CI:∀q:Bool,Ah op κ (x.den ρ) (y.den ρ)=XH q->some (AV.pD (JV (enc n 0 0)) 0 1)=some r->r.ok ρ (Ah op κ (x.den ρ) (y.den ρ)):=λq hq hr=>by
  simp only[Ai] at hr;subst hr;refine Io ?_ ?_ ?_
  ·rw[Gi,αv_enc0 ρ (by omega),hn]
  ·rw[hq];cases q<;>simp[XH]
  ·rw[hq];cases q<;>simp[XH]
 have aaa:∀z:Int,Ah op κ (x.den ρ) (y.den ρ)=κ.wrap z->ACz κ n=some r->r.ok ρ (Ah op κ (x.den ρ) (y.den ρ)):=λz hz hr=>by
  unfold ACz at hr;cases hu:Ob κ with
  |false=>rw[hu] at hr;cases hr
  |true=>
   rw[hu,cond_true,Ai] at hr;subst hr;have hw:=Uv κ z;rw[<- hz] at hw;exact Io (by rw[Gi,αv_enc0 ρ (by omega),hn]) ((I1 hu).1 hw).1 hw.2
 cases op<;>simp only[zP,reduceCtorEq] at h
 case add=>
  cases hc:QI κ (a.lo+b.lo) (a.hi+b.hi) with
  |false=>rw[hc] at h;exact aaa _ rfl h
  |true=>
   rw[hc,cond_true,Ai] at h;subst h;have h1:a.lo+b.lo<=x.den ρ+y.den ρ:=Int.add_le_add ha.2.1 hb.2.1;have h2:x.den ρ+y.den ρ<=a.hi+b.hi:=Int.add_le_add ha.2.2.1 hb.2.2.1;simp only[Ah];rw[JZ (KX hc h1 h2)];exact Io (by rw[Cg, <- ha.1, <- hb.1]) h1 h2
 case sub=>
  cases hc:QI κ (a.lo-b.hi) (a.hi-b.lo) with
  |false=>rw[hc] at h;exact aaa _ rfl h
  |true=>
   rw[hc,cond_true,Ai] at h;subst h;have h1:a.lo-b.hi<=x.den ρ-y.den ρ:=Int.sub_le_sub ha.2.1 hb.2.2.1;have h2:x.den ρ-y.den ρ<=a.hi-b.lo:=Int.sub_le_sub ha.2.2.1 hb.2.1;simp only[Ah];rw[JZ (KX hc h1 h2)];exact Io (by rw[Cg,CZ, <- ha.1, <- hb.1];omega) h1 h2
 case mul=>
  cases hc:(Bh 0 a.lo&&Bh 0 b.lo&&QI κ (a.lo*b.lo) (a.hi*b.hi)) with
  |false=>rw[hc] at h;exact aaa _ rfl h
  |true=>
   rw[hc,cond_true,Ai] at h;subst h;simp only[Bl] at hc;have p1:=A8 hc.1.1;have p2:=A8 hc.1.2;have h1:a.lo*b.lo<=x.den ρ*y.den ρ:=Int.mul_le_mul ha.2.1 hb.2.1 p2 (RP p1 ha.2.1);have h2:x.den ρ*y.den ρ<=a.hi*b.hi:=Int.mul_le_mul ha.2.2.1 hb.2.2.1 (RP p2 hb.2.1) (RP (RP p1 ha.2.1) ha.2.2.1);simp only[Ah];rw[JZ (KX hc.2 h1 h2)];exact Io (by rw[TR ij, <- ha.1, <- hb.1]) h1 h2
 case and=>
  cases hc:(Ob κ&&QI κ a.lo a.hi&&QI κ b.lo b.hi) with
  |false=>rw[hc] at h;cases h
  | true=>
   rw[hc,cond_true] at h;simp only[Bl] at hc;split at h
   ·rename_i c;split at h
    ·rename_i m hm;cases hle:Nat.ble m (Jn κ) with
     |false=>rw[hle] at h;cases h
     |true=>
      rw[hle,cond_true] at h;have hx:=KX hc.1.2 ha.2.1 ha.2.2.1;simp only[Ah,X.be];rw[yX hm,Vw hc.1.1 hx (MQ hle)];exact dZ ha h
    ·cases h
   ·cases h
 case or=>
  cases hc:(Ob κ&&QI κ a.lo a.hi&&QI κ b.lo b.hi) with
  |false=>rw[hc] at h;cases h
  | true=>
   rw[hc,cond_true] at h;simp only[Bl] at hc;have hx:=KX hc.1.2 ha.2.1 ha.2.2.1;have hy:=KX hc.2 hb.2.1 hb.2.2.1;have h1:a.lo+b.lo<=x.den ρ+y.den ρ:=Int.add_le_add ha.2.1 hb.2.1;have h2:x.den ρ+y.den ρ<=a.hi+b.hi:=Int.add_le_add ha.2.2.1 hb.2.2.1;have fin:Ah .or κ (x.den ρ) (y.den ρ)=x.den ρ+y.den ρ->some (AV.pD (Di a.p b.p) (a.lo+b.lo) (a.hi+b.hi))=some r->r.ok ρ (Ah .or κ (x.den ρ) (y.den ρ)):=λe hr=>by
    simp only[Ai] at hr;subst hr;rw[e];exact Io (by rw[Cg, <- ha.1, <- hb.1]) h1 h2
   cases hd:(Bh b.hi (2^a.tz-1)&&QI κ (a.lo+b.lo) (a.hi+b.hi)) with
   |true=>
    rw[hd,cond_true] at h;simp only[Bl] at hd;have:=A8 hd.1;exact fin (UI hc.1.1 hx hy ha.2.2.2 (by have:=hb.2.2.1;omega)).1 h
   | false=>
    rw[hd,cond_false] at h;cases he:(Bh a.hi (2^b.tz-1)&&QI κ (a.lo+b.lo) (a.hi+b.hi)) with
    |false=>rw[he] at h;cases h
    |true=>
     rw[he,cond_true] at h;simp only[Bl] at he;have:=A8 he.1;refine fin ?_ h;have:=(UI hc.1.1 hy hx hb.2.2.2 (by have:=ha.2.2.1;omega)).2;rw[Int.add_comm];exact this
 case shr=>
  split at h
  ·rename_i m;cases hm:Nat.blt m κ.bits with
   |false=>rw[hm] at h;cases h
   | true=>
    rw[hm,cond_true] at h;have cf:=D7 hm;have HA:min (X.den ρ (.lit (Int.ofNat m))).toNat κ.bits=m:=by
     show min ((m:Int)).toNat κ.bits=m;rw[SN];omega
    simp only[Ah];rw[HA,Int.fdiv_eq_ediv_of_nonneg _ (by exact_mod_cast Nat.zero_le (2^m))];exact sF ha h
  ·cases h
 case shl=>
  split at h
  ·rename_i m;cases hm:(Ob κ&&Nat.ble m (Jn κ)&&Bh 0 a.lo) with
   |false=>rw[hm] at h;cases h
   | true=>
    rw[hm,cond_true] at h;simp only[Bl] at hm;have hle:=MQ hm.1.2;split at h
    ·rename_i r' hr;simp only[Ai] at h;subst h;have cL:=dZ ha hr;have HA:min (X.den ρ (.lit (Int.ofNat m))).toNat κ.bits=m:=by
      show min ((m:Int)).toNat κ.bits=m;rw[SN,jl hm.1.1];omega
     have pC:((2^m:Nat):Int)=2^m:=by push_cast;rfl
     have hp:(0:Int)<2^m:=by exact_mod_cast Nat.two_pow_pos m
     have key:Ah .shl κ (x.den ρ) (X.den ρ (.lit (Int.ofNat m)))=2^m*(x.den ρ%2^(Jn κ-m)):=by
      simp only[Ah];rw[HA,KC hm.1.1];have:(2:Int)^Jn κ=2^m*2^(Jn κ-m):=by rw[<- Int.pow_add];congr 1;omega
      rw[this,Xg (x.den ρ),Int.mul_emod_mul_of_pos _ _ hp]
     rw[key];refine⟨?_,?_,?_,⟨_,rfl⟩⟩
     ·rw[CZ, <- cL.1,pC]
     ·rw[pC];exact Int.mul_le_mul_of_nonneg_left cL.2.1 (by omega)
     ·rw[pC];exact Int.mul_le_mul_of_nonneg_left cL.2.2.1 (by omega)
    ·cases h
  ·cases h
 case eql=>exact CI _ rfl h
 case neq=>exact CI _ rfl h
 case lss=>exact CI _ rfl h
 case leq=>exact CI _ rfl h
 case gtr=>exact CI _ rfl h
 case geq=>exact CI _ rfl h
theorem ANh{op:BinOp}{κ:IntKind}{x y:Int}(h:Rq op=true):Ah op κ x y=0\/Ah op κ x y=1:=by
 have:∀q:Bool,XH q=0\/XH q=1:=λq=>by cases q<;>simp[XH]
 cases op<;>first|exact absurd h (by decide)|exact this _
theorem O1{a r:AV}{k:Nat}(h: [r][k]? = some a):k=0/\a=r:=by
 cases k with
 |zero=>simp at h;exact⟨rfl,h.symm⟩
 |succ k=>simp at h
theorem Xu{a r q:AV}{k:Nat}(h: [r,q][k]? = some a):(k=0/\a=r)\/(k=1/\a=q):=by
 cases k with
 |zero=>simp at h;exact .inl ⟨rfl,h.symm⟩
 |succ k=>cases k with
  |zero=>simp at h;exact .inr ⟨rfl,h.symm⟩
  |succ k=>simp at h
theorem Od.nil(ρ:Br):Od ρ []:=λa h=>by simp[ED] at h
theorem Od.one{ρ:Br}{a:Nat}(h:αv ρ a=0\/αv ρ a=1):Od ρ [a]:=λb hb=>by
 simp only[ED,Bool.or_false] at hb;have:=CR hb;subst this;exact h
theorem lQ {T:Tb} {M:List (Nat×FK)} (hM:Wh T M) {ρ:Br} {s:CS} (hs:OL ρ s) {n:Nat} {d:GG} (hn:ρ n=d.den T ρ) {ι:List AV} {nb:List Nat} {nm:List (Nat×(X×X))} (h:uR M s n d=some (ι,nb,nm)):
  (∀(k:Nat) (a:AV),ι[k]? = some a->a.ok ρ ((ρ n).getD k 0))/\Od ρ nb/\∀m x y,lk m nm=some (x,y)->0<=x.den ρ/\0<=y.den ρ/\(ρ m).getD 0 0=x.den ρ*y.den ρ/18446744073709551616:=by
 have sE:∀m x y,lk m ([]:List (Nat×(X×X)))=some (x,y)->0<=x.den ρ/\0<=y.den ρ/\(ρ m).getD 0 0=x.den ρ*y.den ρ/18446744073709551616:=λm x y h=>by simp[lk] at h
 obtain⟨op,args⟩:=d;unfold uR at h;simp only at h;split at h
 ·rename_i op κ x y;split at h
  ·rename_i a b hx hy;split at h
   ·rename_i r hr;simp only[Ai,Prod.mk.injEq] at h;obtain⟨rfl,rfl,rfl⟩:=h;have hv:(ρ n).getD 0 0=Ah op κ (x.den ρ) (y.den ρ):=by
     rw[hn];rfl
    have fS:=ABy hs.2.1 (CS.gR hs hx) (CS.gR hs hy) hv hr;refine⟨λk a' ha=>?_,?_,sE⟩
    ·obtain⟨rfl,rfl⟩:=O1 ha;rw[hv];exact fS
    ·cases hc:Rq op with
     |false=>exact Od.nil _
     |true=>
      refine Od.one ?_;rw[αv_enc0 ρ (by omega),hv];exact ANh hc
   ·cases h
  ·cases h
 ·rename_i κ x;have hv:(ρ n).getD 0 0=κ.wrap (x.den ρ):=by rw[hn];rfl
  split at h
  ·rename_i a hx;have ha:=CS.gR hs hx;cases hb:QI κ a.lo a.hi with
   |true=>
    rw[hb,cond_true] at h;simp only[Ai,Prod.mk.injEq] at h;obtain⟨rfl,rfl,rfl⟩:=h;refine⟨λk a' pP=>?_,Od.nil _,sE⟩;obtain⟨rfl,rfl⟩:=O1 pP;rw[hv,JZ (KX hb ha.2.1 ha.2.2.1)];exact ha
   | false=>
    rw[hb,cond_false] at h;cases hc:(Ob κ&&Bh 0 a.lo) with
    |false=>rw[hc] at h;cases h
    | true=>
     rw[hc,cond_true] at h;simp only[Bl] at hc;split at h
     ·rename_i r hr;simp only[Ai,Prod.mk.injEq] at h;obtain⟨rfl,rfl,rfl⟩:=h;refine⟨λk a' pP=>?_,Od.nil _,sE⟩;obtain⟨rfl,rfl⟩:=O1 pP;rw[hv,KC hc.1];exact dZ ha hr
     ·cases h
  ·cases h
 ·rename_i x y z;split at h
  ·rename_i a b c hx hy hz;have ha:=CS.gR hs hx;have hb:=CS.gR hs hy;have hc:=CS.gR hs hz;cases hg:(Bh 0 a.lo&&Bh 0 b.lo&&Bh 0 c.lo&&Bh c.hi 1&&QI .u64 a.lo a.hi&&QI .u64 b.lo b.hi) with
   |false=>rw[hg] at h;cases h
   |true=>
   rw[hg,cond_true] at h;simp only[Bl] at hg;obtain⟨⟨⟨⟨⟨g1,g2⟩,g3⟩,g4⟩,g5⟩,g6⟩:=hg;have ra:=KX g5 ha.2.1 ha.2.2.1;have rb:=KX g6 hb.2.1 hb.2.2.1;have ra2:x.den ρ<=18446744073709551615:=ra.2;have rb2:y.den ρ<=18446744073709551615:=rb.2;have ra1:0<=x.den ρ:=ra.1;have rb1:0<=y.den ρ:=rb.1;have rc1:0<=z.den ρ:=RP (A8 g3) hc.2.1;have rc2:z.den ρ<=1:=RP hc.2.2.1 (A8 g4);have hS:x.den ρ+y.den ρ+z.den ρ=FU ρ (Di (Di a.p b.p) c.p):=by rw[Cg,Cg, <- ha.1, <- hb.1, <- hc.1]
   have v0:(ρ n).getD 0 0=(x.den ρ+y.den ρ+z.den ρ)%18446744073709551616:=by rw[hn];rfl
   have v1:(ρ n).getD 1 0=if x.den ρ+y.den ρ+z.den ρ<18446744073709551616 then 0 else 1:=by rw[hn];rfl
   cases h1:Bh (a.hi+b.hi+c.hi) 18446744073709551615 with
   | true=>
    rw[h1,cond_true] at h;simp only[Ai,Prod.mk.injEq] at h;obtain⟨rfl,rfl,rfl⟩:=h;have h2:=A8 h1;have h3:x.den ρ+y.den ρ+z.den ρ<=a.hi+b.hi+c.hi:=Int.add_le_add (Int.add_le_add ha.2.2.1 hb.2.2.1) hc.2.2.1;refine⟨λk a' pP=>?_,Od.nil _,sE⟩;rcases Xu pP with⟨rfl,rfl⟩|⟨rfl,rfl⟩
    ·rw[v0,Th (by omega) (by omega)];exact Io hS (Int.add_le_add (Int.add_le_add ha.2.1 hb.2.1) hc.2.1) h3
    ·rw[v1,if_pos (by omega)];exact Io rfl (lh _) (lh _)
   |false=>
   rw[h1,cond_false] at h;cases h2:OC 18446744073709551616 (Di (Di a.p b.p) c.p) with
   | true=>
    rw[h2,cond_true] at h;simp only[Ai,Prod.mk.injEq] at h;obtain⟨rfl,rfl,rfl⟩:=h;have hd:=bS ρ _ _ h2;rw[<- hS] at hd;have qt:x.den ρ+y.den ρ+z.den ρ=18446744073709551616*FU ρ (xD 18446744073709551616 (Di (Di a.p b.p) c.p)):=hd;refine⟨λk a' pP=>?_,Od.nil _,sE⟩;rcases Xu pP with⟨rfl,rfl⟩|⟨rfl,rfl⟩
    ·rw[v0,qt,Int.mul_emod_right];exact Io rfl (lh _) (lh _)
    ·rw[v1];refine Io ?_ ?_ ?_
     ·split<;>omega
     ·split<;>omega
     ·split<;>omega
   | false=>
    rw[h2,cond_false] at h;simp only[Ai,Prod.mk.injEq] at h;obtain⟨rfl,rfl,rfl⟩:=h;refine⟨λk a' pP=>?_,Od.one ?_,sE⟩
    ·rcases Xu pP with⟨rfl,rfl⟩|⟨rfl,rfl⟩
     ·refine Io ?_ ?_ ?_
      ·rw[Cg,CZ,Gi,αv_enc0 ρ (by omega),v0,v1, <- hS];split<;>omega
      ·rw[v0];omega
      ·rw[v0];omega
     ·refine Io ?_ ?_ ?_
      ·rw[Gi,αv_enc0 ρ (by omega)]
      ·rw[v1];split<;>omega
      ·rw[v1];split<;>omega
    ·rw[αv_enc0 ρ (by omega),v1];split<;>simp
  ·cases h
 ·rename_i x y z;split at h
  ·rename_i a b c hx hy hz;have ha:=CS.gR hs hx;have hb:=CS.gR hs hy;have hc:=CS.gR hs hz;cases hg:(Bh 0 a.lo&&Bh 0 b.lo&&Bh 0 c.lo&&Bh c.hi 1&&QI .u64 a.lo a.hi&&QI .u64 b.lo b.hi) with
   |false=>rw[hg] at h;cases h
   |true=>
   rw[hg,cond_true] at h;simp only[Bl] at hg;obtain⟨⟨⟨⟨⟨g1,g2⟩,g3⟩,g4⟩,g5⟩,g6⟩:=hg;have ra:=KX g5 ha.2.1 ha.2.2.1;have rb:=KX g6 hb.2.1 hb.2.2.1;have ra2:x.den ρ<=18446744073709551615:=ra.2;have rb2:y.den ρ<=18446744073709551615:=rb.2;have ra1:0<=x.den ρ:=ra.1;have rb1:0<=y.den ρ:=rb.1;have rc1:0<=z.den ρ:=RP (A8 g3) hc.2.1;have rc2:z.den ρ<=1:=RP hc.2.2.1 (A8 g4);have v0:(ρ n).getD 0 0=(x.den ρ+18446744073709551616-y.den ρ-z.den ρ)%18446744073709551616:=by rw[hn];rfl
   have v1:(ρ n).getD 1 0=if x.den ρ<y.den ρ+z.den ρ then 1 else 0:=by rw[hn];rfl
   simp only[Ai,Prod.mk.injEq] at h;obtain⟨rfl,rfl,rfl⟩:=h;refine⟨λk a' pP=>?_,Od.one ?_,sE⟩
   ·rcases Xu pP with⟨rfl,rfl⟩|⟨rfl,rfl⟩
    ·refine Io ?_ ?_ ?_
     ·rw[Cg,Cg,CZ,CZ,Cg,Gi,αv_enc0 ρ (by omega),v0,v1, <- ha.1, <- hb.1, <- hc.1];split<;>omega
     ·rw[v0];omega
     ·rw[v0];omega
    ·refine Io ?_ ?_ ?_
     ·rw[Gi,αv_enc0 ρ (by omega)]
     ·rw[v1];split<;>omega
     ·rw[v1];split<;>omega
   ·rw[αv_enc0 ρ (by omega),v1];split<;>simp
  ·cases h
 ·skip
  rename_i f o;split at h
  ·rename_i c hf;have hk:nZ T f (.Cl c):=hM f _ hf;split at h
   ·rename_i x;split at h
    ·rename_i a hx;have ha:=CS.gR hs hx;cases hg:(Bh 0 a.lo&&QI .u64 a.lo a.hi&&QI .u64 (c*a.lo) (c*a.hi)) with
     |false=>rw[hg] at h;cases h
     |true=>
     rw[hg,cond_true] at h;simp only[Bl] at hg;simp only[Ai,Prod.mk.injEq] at h;obtain⟨rfl,rfl,rfl⟩:=h;have ra:=KX hg.1.2 ha.2.1 ha.2.2.1;have h1:(c:Int)*a.lo<=c*x.den ρ:=Int.mul_le_mul_of_nonneg_left ha.2.1 (sU _);have h2:(c:Int)*x.den ρ<=c*a.hi:=Int.mul_le_mul_of_nonneg_left ha.2.2.1 (sU _);have v0:(ρ n).getD 0 0=c*x.den ρ:=by
      rw[hn];have:=hk (x.den ρ) ra;show(Na.den T (.fn f true 0) [[x.den ρ]]).getD 0 0=_;rw[this,Ru,JZ (KX hg.2 h1 h2)]
     refine⟨λk a' pP=>?_,Od.nil _,sE⟩;obtain⟨rfl,rfl⟩:=O1 pP;rw[v0];exact Io (by rw[CZ, <- ha.1]) h1 h2
    ·cases h
   ·cases h
  ·rename_i hf;have hk:nZ T f .tA:=hM f _ hf;split at h
   ·rename_i x y;split at h
    ·rename_i a b hx hy;have ha:=CS.gR hs hx;have hb:=CS.gR hs hy;cases hg:(Bh 0 a.lo&&Bh 0 b.lo&&QI .u64 a.lo a.hi&&QI .u64 b.lo b.hi) with
     |false=>rw[hg] at h;cases h
     |true=>
     rw[hg,cond_true] at h;simp only[Bl] at hg;have p1:=A8 hg.1.1.1;have p2:=A8 hg.1.1.2;have ra:=KX hg.1.2 ha.2.1 ha.2.2.1;have rb:=KX hg.2 hb.2.1 hb.2.2.1;have x0:0<=x.den ρ:=RP p1 ha.2.1;have y0:0<=y.den ρ:=RP p2 hb.2.1;have h1:a.lo*b.lo<=x.den ρ*y.den ρ:=Int.mul_le_mul ha.2.1 hb.2.1 p2 x0;have h2:x.den ρ*y.den ρ<=a.hi*b.hi:=Int.mul_le_mul ha.2.2.1 hb.2.2.1 y0 (RP x0 ha.2.2.1);obtain⟨k0,k1⟩:=hk _ _ ra rb;have xy0:0<=x.den ρ*y.den ρ:=Int.mul_nonneg x0 y0;split at h
     ·simp only[Ai,Prod.mk.injEq] at h;obtain⟨rfl,rfl,rfl⟩:=h;have v0:(ρ n).getD 0 0=x.den ρ*y.den ρ/18446744073709551616:=by
       rw[hn];show(Na.den T (.fn f true 0) [[x.den ρ],[y.den ρ]]).getD 0 0=_;rw[k0];rfl
      refine⟨λk a' pP=>?_,Od.nil _,λm x' y' hm=>?_⟩
      ·obtain⟨rfl,rfl⟩:=O1 pP;refine Io ?_ ?_ ?_
       ·rw[Gi,αv_enc0 ρ (by omega)]
       ·rw[v0];exact Int.ediv_le_ediv (by omega) h1
       ·rw[v0];exact Int.ediv_le_ediv (by omega) h2
      ·simp only[lk] at hm;cases hbm:Nat.beq n m with
       |false=>rw[hbm] at hm;cases hm
       |true=>
        rw[hbm,cond_true,Ai,Prod.mk.injEq] at hm;obtain⟨rfl,rfl⟩:=hm;have:=CR hbm;subst this;exact⟨x0,y0,v0⟩
     ·have v0:(ρ n).getD 0 0=x.den ρ*y.den ρ%18446744073709551616:=by
       rw[hn];show(Na.den T (.fn f true 1) [[x.den ρ],[y.den ρ]]).getD 0 0=_;rw[k1];rfl
      cases hc:Bh (a.hi*b.hi) 18446744073709551615 with
      |true=>
       rw[hc,cond_true] at h;simp only[Ai,Prod.mk.injEq] at h;obtain⟨rfl,rfl,rfl⟩:=h;have:=A8 hc;refine⟨λk a' pP=>?_,Od.nil _,sE⟩;obtain⟨rfl,rfl⟩:=O1 pP;rw[v0,Th xy0 (by omega)];exact Io (by rw[TR hs.2.1, <- ha.1, <- hb.1]) h1 h2
      | false=>
       rw[hc,cond_false] at h;split at h
       ·rename_i x' y' hmm;cases hq:(x.beq x'&&y.beq y') with
        |false=>rw[hq] at h;cases h
        |true=>
         rw[hq,cond_true] at h;simp only[Bl] at hq;have e1:=X.beq_eq hq.1;have e2:=X.beq_eq hq.2;subst e1;subst e2;simp only[Ai,Prod.mk.injEq] at h;obtain⟨rfl,rfl,rfl⟩:=h;obtain⟨-, -,q3⟩:=hs.2.2 _ _ _ hmm;refine⟨λk a' pP=>?_,Od.nil _,sE⟩;obtain⟨rfl,rfl⟩:=O1 pP;rw[v0];refine Io ?_ (by omega) (by omega);rw[Cg,CZ,Gi,αv_enc0 ρ (by omega),q3,TR hs.2.1, <- ha.1, <- hb.1];omega
       ·cases h
     ·cases h
    ·cases h
   ·cases h
  ·rename_i hf;have hk:nZ T f .CN:=hM f _ hf;split at h
   ·rename_i c8 c z y;split at h
    ·rename_i c' a b hc hz hy;have i6:=CS.gR hs hc;have ha:=CS.gR hs hz;have hb:=CS.gR hs hy;cases hg:(Bh 0 c'.lo&&Bh c'.hi 1&&QI .u64 a.lo a.hi&&QI .u64 b.lo b.hi) with
     |false=>rw[hg] at h;cases h
     |true=>
     rw[hg,cond_true] at h;simp only[Bl] at hg;simp only[Ai,Prod.mk.injEq] at h;obtain⟨rfl,rfl,rfl⟩:=h;have c1:=RP (A8 hg.1.1.1) i6.2.1;have c2:=RP i6.2.2.1 (A8 hg.1.1.2);have vn:c.den ρ=0\/c.den ρ=1:=by omega
     have v0:(ρ n).getD 0 0=if c.den ρ=0 then z.den ρ else y.den ρ:=by
      rw[hn];have:=hk (c8.den ρ) (c.den ρ) (z.den ρ) (y.den ρ) vn (KX hg.1.2 ha.2.1 ha.2.2.1) (KX hg.2 hb.2.1 hb.2.2.1);show(Na.den T (.fn f true 0) [c8.den ρ,[c.den ρ],[z.den ρ],[y.den ρ]]).getD 0 0=_;rw[this];rfl
     obtain⟨m1,m2⟩:=AD6 a.lo b.lo;obtain⟨m3,m4⟩:=AGo a.hi b.hi;refine⟨λk a' pP=>?_,Od.nil _,sE⟩;obtain⟨rfl,rfl⟩:=O1 pP;rw[v0];refine Io ?_ ?_ ?_
     ·rw[Cg,TR hs.2.1,Cg,CZ, <- i6.1, <- ha.1, <- hb.1];rcases vn with e|e<;>simp only[e]<;>simp<;>omega
     ·have:=ha.2.1;have:=hb.2.1;split<;>omega
     ·have:=ha.2.2.1;have:=hb.2.2.1;split<;>omega
    ·cases h
   ·cases h
  ·cases h
 ·cases h
end
section
open Go
def iC:Nat->List (Nat×GG)->Nat
 |lo,[]=>lo
 |_,(n,_)::r=>iC (n+1) r
theorem YC{hi:Nat}:∀ {ds:List (Nat×GG)} {lo:Nat},GL lo hi ds=true->lo<=iC lo ds
 | [],lo,_=>KA _
 |(n,d)::r,lo,h=>by
  simp only[GL,Bl] at h;have:=MQ h.1.1.1;have:=YC h.2;simp only[iC];omega
theorem VH(T:Tb){hi:Nat}:∀ {ds:List (Nat×GG)} {lo:Nat} (ρ:Br),GL lo hi ds=true->JW lo ρ (Dl T ρ ds)/\Tp T (Dl T ρ ds) ds
 | [],_,ρ,_=>⟨JW.refl _ _,λp hp=>by cases hp⟩
 | (n,d)::r,lo,ρ,h=>by
  simp only[GL,Bl] at h;have h1:=MQ h.1.1.1;obtain⟨g1,g2⟩:=VH T (λi=>if i=n then d.den T ρ else ρ i) h.2;have ha:JW n ρ (Dl T ρ ((n,d)::r)):=λi hi=>by
   show Dl T _ r i=_;rw[g1 i (by omega)];simp;intro e;omega
  refine⟨λi hi=>ha i (by omega),λp hp=>?_⟩;rcases IR.1 hp with rfl|hp
  ·show Dl T _ r n=_;rw[g1 n (by omega),GG.cj ha h.1.2];simp
  ·exact g2 p hp
theorem QC(T:Tb):∀(a b:List (Nat×GG)) (ρ:Br),Dl T ρ (a++b)=Dl T (Dl T ρ a) b
 | [],_b,_ρ=>rfl
 |(_n,_d)::a,b,_ρ=>QC T a b _
def Zk:Bz->Option (List (Nat×GG)×List JU×Ex×St)
 | .leaf e st=>some ([],[],e,st)
 | .fz ds ob t=>(match Zk t with
  |some (Fc,ob',e,st)=>some (ds++Fc,ob++ob',e,st)
  |none=>none)
 |_=>none
def LU:Nat->Bz->Bool
 |_,.leaf _ _=>true
 |lo,.fz ds ob t=>GL lo (iC lo ds) ds&&Jm (iC lo ds) ob&&LU (iC lo ds) t
 |_,_=>false
theorem OY{T:Tb}:∀ {t:Bz} {lo:Nat} {ρ:Br} {ds:List (Nat×GG)} {ob:List JU} {e:Ex} {st:St},LU lo t=true->Zk t=some (ds,ob,e,st)->
  JW lo ρ (Dl T ρ ds)/\Tp T (Dl T ρ ds) ds/\Wz T t ρ=some (Dl T ρ ds,e,st)/\WG T t ρ=some (Dl T ρ ds,st)/\((∀q∈ob,q.den T (Dl T ρ ds))->EY T t ρ)
 | .leaf e st,lo,ρ,ds,ob,e',cH,_,h=>by
  simp only[Zk,Ai,Prod.mk.injEq] at h;obtain⟨rfl,rfl,rfl,rfl⟩:=h;exact⟨JW.refl _ _,λp hp=>(by cases hp),rfl,rfl,λ_=>trivial⟩
 | .fz yd ob0 t,lo,ρ,ds,ob,e,st,hk,h=>by
  simp only[LU,Bl] at hk;unfold Zk at h;split at h
  ·rename_i Fc ob' e' cH ht;simp only[Ai,Prod.mk.injEq] at h;obtain⟨rfl,rfl,rfl,rfl⟩:=h;obtain⟨g1,g2⟩:=VH T ρ hk.1.1;obtain⟨k1,k2,k3,k4,k5⟩:=OY (T:=T) (ρ:=Dl T ρ yd) hk.2 ht;have hle:=YC hk.1.1;rw[QC];refine⟨g1.trans k1 hle,λp hp=>?_,k3,k4,λho=>⟨λq hq=>?_,k5 λq hq=>ho q (iB _ hq)⟩⟩
   ·rcases jd.1 hp with hp|hp
    ·exact(g2.agE hk.1.1 k1) p hp
    ·exact k2 p hp
   ·exact(JU.cj k1 hk.1.2 q hq).1 (ho q (List.mem_append_left _ hq))
  ·cases h
 | .br _ _ _,_,_,_,_,_,_,hk,_=>by cases hk
 | .j8 _ _ _ _,_,_,_,_,_,_,hk,_=>by cases hk
 | .dc _ _,_,_,_,_,_,_,hk,_=>by cases hk
 | .bad _,_,_,_,_,_,_,hk,_=>by cases hk
def YK(M:List (Nat×FK)):CS->List (Nat×GG)->Option CS
 |s,[]=>some s
 |s,(n,d)::r=>match uR M s n d with
  |some (ι,nb,nm)=>YK M ⟨(n,ι)::s.vs,nb++s.bs,nm++s.mm⟩ r
  |none=>none
theorem Te{α:Type}{t:Nat}{v:α}:∀ {a b:List (Nat×α)},lk t (a++b)=some v->lk t a=some v\/lk t b=some v
 | [],b,h=>.inr h
 |(k,u)::a,b,h=>by
  simp only[zct,lk] at h ⊢;cases hb:Nat.beq k t with
  |true=>rw[hb] at h;exact .inl h
  |false=>rw[hb] at h;exact Te h
theorem Ux{T:Tb}{M:List (Nat×FK)}(hM:Wh T M){ρ:Br}:∀ {ds:List (Nat×GG)} {s s':CS},OL ρ s->Tp T ρ ds->YK M s ds=some s'->OL ρ s'
 | [],s,s',hs,_,h=>by simp only[YK,Ai] at h;subst h;exact hs
 | (n,d)::r,s,s',hs,hd,h=>by
  unfold YK at h;split at h
  ·rename_i ι nb nm hc;obtain⟨g1,g2,g3⟩:=lQ hM hs (hd (n,d) Kh) hc;refine Ux hM ⟨λi as hi k a ha=>?_,λa ha=>?_,λm x y hm=>?_⟩ (λp hp=>hd p (Lv _ hp)) h
   ·simp only[lk] at hi;cases hb:Nat.beq n i with
    |true=>
     rw[hb,cond_true,Ai] at hi;have:=CR hb;subst this;subst hi;exact g1 k a ha
    |false=>rw[hb,cond_false] at hi;exact hs.1 i as hi k a ha
   ·rcases jd.1 (Gp.1 ha) with h|h
    ·exact g2 a (Gp.2 h)
    ·exact hs.2.1 a (Gp.2 h)
   ·rcases Te hm with h|h
    ·exact g3 m x y h
    ·exact hs.2.2 m x y h
  ·cases h
def lJ(s:CS):JU->Bool
 | .vn x=>(match s.x x with|some a=>Bh 0 a.lo&&Bh a.hi 1|none=>false)
 | .jn x n=>(match s.x x with|some a=>Bh 0 a.lo&&Bh a.hi ((n:Int)-1)|none=>false)
 | .vq x=>(match s.x x with|some a=>Bh 0 a.lo|none=>false)
 | .zr x=>(match s.x x with|some a=>Bh 0 a.lo&&Bh a.hi 0|none=>false)
 | .nz x=>(match s.x x with|some a=>Bh 1 a.lo|none=>false)
 | .pre _ _=>false
theorem dQ{T:Tb}{ρ:Br}{s:CS}(hs:OL ρ s){q:JU}(h:lJ s q=true):q.den T ρ:=by
 cases q<;>simp only[lJ] at h
 case pre=>cases h
 all_goals
  split at h
  ·rename_i a ha;have hx:=CS.gR hs ha
   first
    |(simp only[Bl] at h;have h1:=A8 h.1;have h2:=A8 h.2;have:=hx.2.1;have:=hx.2.2.1;simp only[JU.den];omega)
    |(have h1:=A8 h;have:=hx.2.1;simp only[JU.den];omega)
  ·cases h
def nR(j:Nat)(b:List (Int×Int)):List AV:=b.zipIdx.map λ(p,k)=>.pD (JV (enc j k 0)) p.1 p.2
def qh:Nat->List (List (Int×Int))->List (Nat×List AV)
 |_,[]=>[]
 |j,b::r=>(j,nR j b)::qh (j+1) r
def ABt(ζ:List (List (Int×Int))):CS:=⟨qh 0 ζ,[],[]⟩
def Mv(ζ:List (List (Int×Int)))(ins:List (List Int)):Prop:=
 ∀(j:Nat) (b:List (Int×Int)),ζ[j]? = some b->b.length<=4096/\∀(k:Nat) (p:Int×Int),b[k]? = some p->p.1<=(ins.getD j []).getD k 0/\(ins.getD j []).getD k 0<=p.2
theorem lG:∀ {ζ:List (List (Int×Int))} {j i:Nat} {ι:List AV},lk i (qh j ζ)=some ι->∃k b,i=j+k/\ζ[k]? = some b/\ι=nR i b
 | [],j,i,ι,h=>by simp[qh,lk] at h
 | b::r,j,i,ι,h=>by
  simp only[qh,lk] at h;cases hb:Nat.beq j i with
  |true=>
   rw[hb,cond_true,Ai] at h;have:=CR hb;subst this;exact⟨0,b,rfl,rfl,h.symm⟩
  |false=>
   rw[hb,cond_false] at h;obtain⟨k,b',h1,h2,h3⟩:=lG h;exact⟨k+1,b',by omega,by simpa using h2,h3⟩
theorem Xb{ζ:List (List (Int×Int))}{ins:List (List Int)}(hb:Mv ζ ins){ρ:Br}(hρ:∀j,j<ζ.length->ρ j=ins.getD j []):OL ρ (ABt ζ):=by
 refine⟨λi ι hi k a ha=>?_,Od.nil _,λn x y h=>by simp[ABt,lk] at h⟩;obtain⟨j,b,h1,h2,h3⟩:=lG hi;rw[Km] at h1;subst h1;subst h3;obtain⟨hl,hbk⟩:=hb i b h2;unfold nR at ha;simp only[Ng,Vu] at ha;obtain⟨⟨p,k'⟩,h4,rfl⟩:=ha;rw[List.getElem?_zipIdx,Vu] at h4;obtain⟨p',h5,h6⟩:=h4;simp only[Prod.mk.injEq,Km] at h6;obtain⟨rfl,rfl⟩:=h6;have hk:k<b.length:=(OQ.1 h5).1;have cf:i<ζ.length:=(OQ.1 h2).1;rw[hρ i cf];obtain⟨b1,b2⟩:=hbk k p' h5;refine Io ?_ b1 b2;rw[Gi,αv_enc0 ρ (by omega),hρ i cf]
def oV(s:CS):List X->Option (List AV)
 | []=>some []
 |x::r=>match s.x x,oV s r with
  |some a,some as=>some (a::as)
  |_,_=>none
def Y8(s:CS):Rt->Option (List (List AV))
 | []=>some []
 |e::r=>match oV s e.1,Y8 s r with
  |some a,some as=>some (a::as)
  |_,_=>none
def Wd(i:Ad)(C:Cx)(M:List (Nat×FK))(ζ:List (List (Int×Int))):Option (List (List AV)):=
 match Zk (i.tree C) with
 | some (ds,ob,_e,st)=>bif LU i.s0.params.length (i.tree C)&&Nat.beq ζ.length i.s0.params.length then(match YK M (ABt ζ) ds with
  |some s=>bif ob.all (lJ s) then(match Ml C i.s0 i.cF st with
   |some es=>Y8 s es
   |none=>none) else none
  |none=>none) else none
 |none=>none
def Za(ρ:Br)(r:List Int)(ι:List AV):Prop:=r.length=ι.length/\∀(j:Nat) (x:Int) (a:AV),r[j]? = some x->ι[j]? = some a->a.ok ρ x
theorem VG{ρ:Br}{s:CS}(hs:OL ρ s):∀ {xs:List X} {ι:List AV},oV s xs=some ι->Za ρ (xs.map (·.den ρ)) ι
 | [],ι,h=>by simp only[oV,Ai] at h;subst h;exact⟨rfl,λj x a h=>by simp at h⟩
 | x::r,ι,h=>by
  unfold oV at h;split at h
  ·rename_i a as h1 h2;simp only[Ai] at h;subst h;obtain⟨g1,g2⟩:=VG hs h2;refine⟨by simpa using g1,λj y b hy hb=>?_⟩;cases j with
   |zero=>
    simp only[NE,Ul,Ai] at hy hb;subst hy;subst hb;exact CS.gR hs h1
   |succ j=>exact g2 j y b (by simpa using hy) (by simpa using hb)
  ·cases h
theorem TW{s:CS}:∀ {es:Rt} {π:List (List AV)},Y8 s es=some π->∀(k:Nat) (ι:List AV),π[k]? = some ι->∃e,es[k]? = some e/\oV s e.1=some ι
 | [],π,h,k,ι,hk=>by simp only[Y8,Ai] at h;subst h;simp at hk
 | e::r,π,h,k,ι,hk=>by
  unfold Y8 at h;split at h
  ·rename_i a as h1 h2;simp only[Ai] at h;subst h;cases k with
   |zero=>
    simp only[Ul,Ai] at hk;subst hk;exact⟨e,rfl,h1⟩
   |succ k=>
    obtain⟨e',g1,g2⟩:=TW h2 k ι (by simpa using hk);exact⟨e',by simpa using g1,g2⟩
  ·cases h
theorem gD{i:Ad}{C:Cx}{M:List (Nat×FK)}(hM:Wh C.T M){ζ:List (List (Int×Int))}{π:List (List AV)}(h:Wd i C M ζ=some π){ins:List (List Int)}(hb:Mv ζ ins):
  EY C.T (i.tree C) (Ce ins)/\∃ ρ:Br,(∀j,j<i.s0.params.length->ρ j=ins.getD j [])/\∀(k:Nat) (ι:List AV),π[k]? = some ι->Za ρ (i.raw C k ins) ι:=by
 unfold Wd at h;split at h
 ·rename_i ds ob e st hl;cases hc:(LU i.s0.params.length (i.tree C)&&Nat.beq ζ.length i.s0.params.length) with
  |false=>rw[hc] at h;cases h
  |true=>
  rw[hc,cond_true] at h;simp only[Bl] at hc;have hlen:=CR hc.2;obtain⟨k1,k2,k3,k4,k5⟩:=OY (T:=C.T) (ρ:=Ce ins) hc.1 hl;split at h
  ·rename_i s hs;cases ho:ob.all (lJ s) with
   |false=>rw[ho] at h;cases h
   |true=>
   rw[ho,cond_true] at h;split at h
   ·rename_i es nn;have hρ:∀j,j<i.s0.params.length->Dl C.T (Ce ins) ds j=ins.getD j []:=λj hj=>by rw[k1 j hj];rfl
    have eC:=Xb hb (ρ:=Dl C.T (Ce ins) ds) (λj hj=>hρ j (by omega));have hS:=Ux hM eC k2 hs;refine⟨k5 λq hq=>dQ hS (Mx.1 ho q hq),Dl C.T (Ce ins) ds,hρ,λk ι hk=>?_⟩;obtain⟨e',g1,g2⟩:=TW h k ι hk;have:i.raw C k ins=e'.1.map (·.den (Dl C.T (Ce ins) ds)):=by
     unfold Ad.raw Vo;rw[k4];simp only[nn,g1]
    rw[this];exact VG hS g2
   ·cases h
  ·cases h
 ·cases h
end
section
open Go
def Mh:Nat:=57896044618658097711785492504343953926634992332820282019728792003956564819949
def NG(l:List Int):Int:=l.getD 0 0+2251799813685248*l.getD 1 0+5070602400912917605986812821504*l.getD 2 0+11417981541647679048466287755595961091061972992*l.getD 3 0+25711008708143844408671393477458601640355247900524685364822016*l.getD 4 0
def fB:Int:=2251799813947392
def Is(l:List Int):Prop:=l.length=5/\∀k,k<5->0<=l.getD k 0/\l.getD k 0<=fB
def Ro(ι:List (GU)):GU:=match ι with
 | [a,b,c,d,e]=>Di a (Di (Cr 2251799813685248 b) (Di (Cr 5070602400912917605986812821504 c) (Di (Cr 11417981541647679048466287755595961091061972992 d) (Cr 25711008708143844408671393477458601640355247900524685364822016 e))))
 |_=>[]
def GS(j o:Nat):GU:=Ro [JV (enc j o 0),JV (enc j (o+1) 0),JV (enc j (o+2) 0),JV (enc j (o+3) 0),JV (enc j (o+4) 0)]
def avG(a:AV):Bool:=Bh 0 a.lo&&Bh a.hi fB
def WC(k:Nat)(target:GU)(π:Option (List (List AV))):Bool:=match π with
 |some π=>(match π[k]? with
  |some ι=>Nat.beq ι.length 5&&ι.all avG&&OC Mh (Di (Ro (ι.map (·.p))) (Cr (-1) target))
  |none=>false)
 |none=>false
theorem AJF{α:Type}{l:List α}(h:l.length=5):∃a b c d e,l= [a,b,c,d,e]:=by
 match l,h with
 | [a,b,c,d,e],_=>exact⟨a,b,c,d,e,rfl⟩
theorem Sr(ρ:Br){j:Nat}{l:List Int}(h:ρ j=l):FU ρ (GS j 0)=NG l:=by
 simp only[GS,Ro,Cg,CZ,Gi];rw[αv_enc0 ρ (by omega),αv_enc0 ρ (by omega),αv_enc0 ρ (by omega),αv_enc0 ρ (by omega),αv_enc0 ρ (by omega),h];simp only[Km];unfold NG;omega
theorem ik{ρ:Br}{r:List Int}{ι:List AV}(h:Za ρ r ι)(h5:ι.length=5):FU ρ (Ro (ι.map (·.p)))=NG r:=by
 obtain⟨hl,hk⟩:=h;obtain⟨a,b,c,d,e,rfl⟩:=AJF h5;obtain⟨x,y,z,u,v,rfl⟩:=AJF (hl.trans h5);have h0:=(hk 0 x a rfl rfl).1;have h1:=(hk 1 y b rfl rfl).1;have h2:=(hk 2 z c rfl rfl).1;have h3:=(hk 3 u d rfl rfl).1;have h4:=(hk 4 v e rfl rfl).1;simp only[NE,Uf,Ro,Cg,CZ, <- h0, <- h1, <- h2, <- h3, <- h4];unfold NG;simp only[Ru,X7];omega
theorem ru{ρ:Br}{r:List Int}{ι:List AV}(h:Za ρ r ι)(h5:ι.length=5)(hg:ι.all avG=true):Is r:=by
 obtain⟨hl,hk⟩:=h;refine⟨hl.trans h5,λk h=>?_⟩;have h1:k<r.length:=by omega
 have h2:k<ι.length:=by omega
 have:=hk k r[k] ι[k] (JC h1) (JC h2);have hb:=Mx.1 hg ι[k] (lY h2);simp only[avG,Bl] at hb;rw[List.getD,JC h1];exact⟨RP (A8 hb.1) this.2.1,RP this.2.2.1 (A8 hb.2)⟩
theorem AEv{i:Ad}{C:Cx}{M:List (Nat×FK)}(hM:Wh C.T M){ζ:List (List (Int×Int))}{k:Nat}{target:GU}(h:WC k target (Wd i C M ζ)=true){ins:List (List Int)}(hb:Mv ζ ins):
  EY C.T (i.tree C) (Ce ins)/\Is (i.raw C k ins)/\∃ ρ:Br,(∀j,j<i.s0.params.length->ρ j=ins.getD j [])/\(Mh:Int) ∣ NG (i.raw C k ins)-FU ρ target:=by
 unfold WC at h;split at h
 ·rename_i π hc;obtain⟨h1,ρ,h2,h3⟩:=gD hM hc hb;split at h
  ·rename_i ι hk;simp only[Bl] at h;have h5:=CR h.1.1;have hA:=h3 k ι hk;refine⟨h1,ru hA h5 h.1.2,ρ,h2,?_⟩;have hd:=VB ρ h.2;rw[Cg,CZ,ik hA h5] at hd;have e:NG (i.raw C k ins)-FU ρ target=NG (i.raw C k ins) + -1*FU ρ target:=by omega
   rw[e];exact hd
  ·cases h
 ·cases h
def bF:List (Int×Int):=List.replicate 5 (0,fB)
theorem Vj{ζ:List (List (Int×Int))}{ins:List (List Int)}:∀(b:List (Int×Int)) (x:List Int),(b.length<=4096/\∀(k:Nat) (p:Int×Int),b[k]? = some p->p.1<=x.getD k 0/\x.getD k 0<=p.2)->Mv ζ ins->Mv (b::ζ) (x::ins):=by
 intro b x h hb j b' hj;cases j with
 |zero=>simp only[Ul,Ai] at hj;subst hj;exact h
 |succ j=>exact hb j b' (by simpa using hj)
theorem IL(ins:List (List Int)):Mv [] ins:=λj b h=>by simp at h
theorem XL{ζ:List (List (Int×Int))}{ins:List (List Int)}{x:List Int}(h:Is x)(hb:Mv ζ ins):Mv (bF::ζ) (x::ins):=
 Vj bF x ⟨by decide,λk p hk=>by
  have cf:k<5:=by have:=(OQ.1 hk).1;simpa[bF] using this
  simp only[bF,iD,cf,if_true,Ai] at hk;subst hk;exact h.2 k cf⟩ hb
theorem Me{ζ:List (List (Int×Int))}{ins:List (List Int)}(x:List Int)(hb:Mv ζ ins):Mv ([]::ζ) (x::ins):=
 Vj [] x ⟨by decide,λk p hk=>by simp at hk⟩ hb
end
section
open Go
structure AMz where
 ds:List (Nat×GG)
 ob:List JU
 cn:List (X×Bool)
 e:Ex
 st:St
def cu:List Bool->Bz->Option AMz
 |_,.leaf e st=>some ⟨[],[],[],e,st⟩
 |bs,.fz ds ob t=>(match cu bs t with
  |some p=>some ⟨ds++p.ds,ob++p.ob,p.cn,p.e,p.st⟩
  |none=>none)
 |b::bs,.br x t f=>(match bif b then cu bs t else cu bs f with
  |some p=>some ⟨p.ds,p.ob,(x,b)::p.cn,p.e,p.st⟩
  |none=>none)
 |_,_=>none
def RH:Nat->List Bool->Bz->Bool
 |_,_,.leaf _ _=>true
 |lo,bs,.fz ds ob t=>GL lo (iC lo ds) ds&&Jm (iC lo ds) ob&&RH (iC lo ds) bs t
 |lo,b::bs,.br x t f=>x.lt lo&&bif b then RH lo bs t else RH lo bs f
 |_,_,_=>false
def AFX(ρ:Br)(cn:List (X×Bool)):Prop:=∀q∈cn,(q.1.den ρ=0↔q.2=false)
theorem Vp{T:Tb}:∀ {t:Bz} {lo:Nat} {bs:List Bool} {ρ:Br} {p:AMz},RH lo bs t=true->cu bs t=some p->
  JW lo ρ (Dl T ρ p.ds)/\Tp T (Dl T ρ p.ds) p.ds/\(AFX (Dl T ρ p.ds) p.cn->Wz T t ρ=some (Dl T ρ p.ds,p.e,p.st)/\WG T t ρ=some (Dl T ρ p.ds,p.st)/\((∀q∈p.ob,q.den T (Dl T ρ p.ds))->EY T t ρ))
 | .leaf e st,lo,bs,ρ,p,_,h=>by
  simp only[cu,Ai] at h;subst h;exact⟨JW.refl _ _,λp hp=>(by cases hp),λ_=>⟨rfl,rfl,λ_=>trivial⟩⟩
 | .fz yd ob0 t,lo,bs,ρ,p,hk,h=>by
  unfold RH at hk;simp only[Bl] at hk;unfold cu at h;split at h
  ·rename_i p' ht;simp only[Ai] at h;subst h;obtain⟨g1,g2⟩:=VH T ρ hk.1.1;obtain⟨k1,k2,k3⟩:=Vp (T:=T) (ρ:=Dl T ρ yd) hk.2 ht;have hle:=YC hk.1.1;simp only;rw[QC];refine⟨g1.trans k1 hle,λp hp=>?_,λhc=>?_⟩
   ·rcases jd.1 hp with hp|hp
    ·exact(g2.agE hk.1.1 k1) p hp
    ·exact k2 p hp
   ·obtain⟨c1,c2,c3⟩:=k3 hc;exact⟨c1,c2,λho=>⟨λq hq=>(JU.cj k1 hk.1.2 q hq).1 (ho q (List.mem_append_left _ hq)),c3 λq hq=>ho q (iB _ hq)⟩⟩
  ·cases h
 | .br x t f,lo,[],ρ,p,hk,h=>by cases hk
 | .br x t f,lo,b::bs,ρ,p,hk,h=>by
  unfold RH at hk;simp only[Bl] at hk;unfold cu at h;split at h
  ·rename_i p' ht;simp only[Ai] at h;subst h;cases b with
   | true=>
    rw[cond_true] at ht hk;obtain⟨k1,k2,k3⟩:=Vp (T:=T) (ρ:=ρ) hk.2 ht;refine⟨k1,k2,λhc=>?_⟩;have hx:¬x.den ρ=0:=by
     have:=hc (x,true) Kh;simp only[X.cj k1 hk.1,Bool.true_eq_false,iff_false] at this;exact this
    obtain⟨c1,c2,c3⟩:=k3 λq hq=>hc q (Lv _ hq)
    exact⟨by unfold Wz;rw[if_neg hx];exact c1,by unfold WG;rw[if_neg hx];exact c2,λho=>⟨λh0=>absurd h0 hx,λ_=>c3 ho⟩⟩
   | false=>
    rw[cond_false] at ht hk;obtain⟨k1,k2,k3⟩:=Vp (T:=T) (ρ:=ρ) hk.2 ht;refine⟨k1,k2,λhc=>?_⟩;have hx:x.den ρ=0:=by
     have:=hc (x,false) Kh;simp only[X.cj k1 hk.1,iff_true] at this;exact this
    obtain⟨c1,c2,c3⟩:=k3 λq hq=>hc q (Lv _ hq)
    exact⟨by unfold Wz;rw[if_pos hx];exact c1,by unfold WG;rw[if_pos hx];exact c2,λho=>⟨λ_=>c3 ho,λh0=>absurd hx h0⟩⟩
  ·cases h
 | .j8 _ _ _ _,_,bs,_,_,hk,_=>by cases bs<;>cases hk
 | .dc _ _,_,bs,_,_,hk,_=>by cases bs<;>cases hk
 | .bad _,_,bs,_,_,hk,_=>by cases bs<;>cases hk
def kg(s:CS):List IZ->Option (List (List AV))
 | []=>some []
 | .xs l::r=>(match oV s l,kg s r with
  |some a,some as=>some (a::as)
  |_,_=>none)
 | .vec _::_=>none
theorem iU{ρ:Br}{s:CS}(hs:OL ρ s):∀ {as:List IZ} {π:List (List AV)},kg s as=some π->as.length=π.length/\∀(k:Nat) (ι:List AV),π[k]? = some ι->Za ρ ((as.map (·.den ρ)).getD k []) ι
 | [],π,h=>by simp only[kg,Ai] at h;subst h;exact⟨rfl,λk ι h=>by simp at h⟩
 | .xs l::r,π,h=>by
  unfold kg at h;split at h
  ·rename_i a as h1 h2;simp only[Ai] at h;subst h;obtain⟨g1,g2⟩:=iU hs h2;refine⟨by simp[g1],λk ι hk=>?_⟩;cases k with
   |zero=>
    simp only[Ul,Ai] at hk;subst hk;exact VG hs h1
   |succ k=>exact g2 k ι (by simpa using hk)
  ·cases h
 | .vec j::r,π,h=>by cases h
structure LpR where
 p:AMz
 b:Bool
 av:List (List AV)
def AEi (i:JJ) (C:Cx) (M:List (Nat×FK)) (ζ:List (List (Int×Int))) (path:List Bool):Option LpR:=
 match cu path (i.tree C) with
 | some p=>bif RH i.s0.params.length path (i.tree C)&&Nat.beq ζ.length i.s0.params.length then(match YK M (ABt ζ) p.ds with
  | some s=>bif p.ob.all (lJ s) then(match i.leaf p.e p.st with
   |some (b,as)=>(match kg s as with
    |some π=>some ⟨p,b,π⟩
    |none=>none)
   |none=>none) else none
  |none=>none) else none
 |none=>none
theorem vI{i:JJ}{C:Cx}{M:List (Nat×FK)}(hM:Wh C.T M){ζ:List (List (Int×Int))}{path:List Bool}{R:LpR}(h:AEi i C M ζ path=some R){ins:List (List Int)}(hb:Mv ζ ins):
  ∃ ρ:Br,(∀j,j<i.s0.params.length->ρ j=ins.getD j [])/\Tp C.T ρ R.p.ds/\(AFX ρ R.p.cn->EY C.T (i.tree C) (Ce ins)/\∃r,i.step C ins=some (R.b,r)/\r.length=R.av.length/\∀(k:Nat) (ι:List AV),R.av[k]? = some ι->Za ρ (r.getD k []) ι):=by
 unfold AEi at h;split at h
 ·rename_i p hl;cases hc:(RH i.s0.params.length path (i.tree C)&&Nat.beq ζ.length i.s0.params.length) with
  |false=>rw[hc] at h;cases h
  |true=>
  rw[hc,cond_true] at h;simp only[Bl] at hc;have hlen:=CR hc.2;obtain⟨k1,k2,k3⟩:=Vp (T:=C.T) (ρ:=Ce ins) hc.1 hl;split at h
  ·rename_i s hs;cases ho:p.ob.all (lJ s) with
   |false=>rw[ho] at h;cases h
   |true=>
   rw[ho,cond_true] at h;split at h
   ·rename_i b as hlf;split at h
    ·rename_i π hav;simp only[Ai] at h;subst h;have hρ:∀j,j<i.s0.params.length->Dl C.T (Ce ins) p.ds j=ins.getD j []:=λj hj=>by rw[k1 j hj];rfl
     have eC:=Xb hb (ρ:=Dl C.T (Ce ins) p.ds) (λj hj=>hρ j (by omega));have hS:=Ux hM eC k2 hs;refine⟨Dl C.T (Ce ins) p.ds,hρ,k2,λhcn=>?_⟩;obtain⟨c1,c2,c3⟩:=k3 hcn;obtain⟨g1,g2⟩:=iU hS hav;refine⟨c3 λq hq=>dQ hS (Mx.1 ho q hq),as.map (·.den (Dl C.T (Ce ins) p.ds)),?_,by simpa using g1,g2⟩;unfold JJ.step;rw[c1];simp only[hlf]
    ·cases h
   ·cases h
  ·cases h
 ·cases h
def AEl(R:LpR)(b:Bool)(i n:Nat):Bool:=match R.p.cn with
 | [(.v m 0,b')]=>(match lk m R.p.ds with
  |some ⟨.bin .lss .i64,[.xs [.v i' 0],.xs [.v n' 0]]⟩=>Nat.beq i i'&&Nat.beq n n'&&(bif b then b' else !b')
  |_=>false)
 |_=>false
theorem vL{R:LpR}{b:Bool}{i n:Nat}(h:AEl R b i n=true){T:Tb}{ρ:Br}(hd:Tp T ρ R.p.ds)(hc:b=decide ((ρ i).getD 0 0<(ρ n).getD 0 0)):AFX ρ R.p.cn:=by
 unfold AEl at h;split at h
 ·rename_i m b' hcn;split at h
  ·rename_i i' n' hm;simp only[Bl] at h;have e1:=CR h.1.1;have e2:=CR h.1.2;subst e1;subst e2;have hb:b'=b:=by cases b<;>cases b'<;>simp_all
   subst hb;have hv:=hd (m,_) (Ni hm);intro q hq;rw[hcn,NB] at hq;subst hq;simp only[X.den];rw[hv];simp only[GG.den,Na.den,NE,Uf,IZ.den,X.den,Ru,X7,WZ,Ah,XH];rw[hc];generalize (ρ i).getD 0 0=x;generalize (ρ n).getD 0 0=y;by_cases cf:x<y
   ·rw[decide_eq_true cf];decide
   ·rw[decide_eq_false cf];decide
  ·cases h
 ·cases h
theorem Xn{T:Tb}{f:Nat}{s:BH}{as:List IZ}{ρ:Br}{args:List (List Int)}(hT:lk f T=some (.one s))(ha:as.map (·.den ρ)=args)(hp:s.pre args):(JU.pre f as).den T ρ:=by
 subst ha;simp only[JU.den,hT];exact hp
theorem JJ.Ax{i:JJ}{C:Cx}{ins:List (List Int)}{n:Nat}(hf:i.fuel ins=n)(h:jJ (i.step C) (λins=>EY C.T (i.tree C) (Ce ins)) n ins):i.pre C ins:=by
 unfold JJ.pre;rw[hf];exact h
theorem JJ.vf{i:JJ}{C:Cx}{ins:List (List Int)}(h:i.pre C ins):(i.sum C (i.pre C)).pre ins:=h
theorem JJ.Z3{i:JJ}{C:Cx}{ins:List (List Int)}{n:Nat}(hf:i.fuel ins=n):i.val C ins=K6 (i.step C) n ins:=by
 unfold JJ.val;rw[hf]
end
section
open Go
def XE (i:Ad) (C:Cx) (M:List (Nat×FK)) (ζ:List (List (Int×Int))):Option (CS×List (List AV)):=
 match Zk (i.tree C) with
 | some (ds,ob,_e,st)=>bif LU i.s0.params.length (i.tree C)&&Nat.beq ζ.length i.s0.params.length then(match YK M (ABt ζ) ds with
  | some s=>bif ob.all (lJ s) then(match Ml C i.s0 i.cF st with
   |some es=>(match Y8 s es with
    |some r=>some (s,r)
    |none=>none)
   |none=>none) else none
  |none=>none) else none
 |none=>none
theorem Q0{i:Ad}{C:Cx}{M:List (Nat×FK)}(hM:Wh C.T M){ζ:List (List (Int×Int))}{s:CS}{π:List (List AV)}(h:XE i C M ζ=some (s,π)){ins:List (List Int)}(hb:Mv ζ ins):
  EY C.T (i.tree C) (Ce ins)/\∃ ρ:Br,(∀j,j<i.s0.params.length->ρ j=ins.getD j [])/\OL ρ s/\∀(k:Nat) (ι:List AV),π[k]? = some ι->Za ρ (i.raw C k ins) ι:=by
 unfold XE at h;split at h
 ·rename_i ds ob e st hl;cases hc:(LU i.s0.params.length (i.tree C)&&Nat.beq ζ.length i.s0.params.length) with
  |false=>rw[hc] at h;cases h
  |true=>
  rw[hc,cond_true] at h;simp only[Bl] at hc;have hlen:=CR hc.2;obtain⟨k1,k2,k3,k4,k5⟩:=OY (T:=C.T) (ρ:=Ce ins) hc.1 hl;split at h
  ·rename_i s' hs;cases ho:ob.all (lJ s') with
   |false=>rw[ho] at h;cases h
   |true=>
   rw[ho,cond_true] at h;split at h
   ·rename_i es nn;split at h
    ·rename_i r hr;simp only[Ai,Prod.mk.injEq] at h;obtain⟨rfl,rfl⟩:=h;have hρ:∀j,j<i.s0.params.length->Dl C.T (Ce ins) ds j=ins.getD j []:=λj hj=>by rw[k1 j hj];rfl
     have eC:=Xb hb (ρ:=Dl C.T (Ce ins) ds) (λj hj=>hρ j (by omega));have hS:=Ux hM eC k2 hs;refine⟨k5 λq hq=>dQ hS (Mx.1 ho q hq),Dl C.T (Ce ins) ds,hρ,hS,λk ι hk=>?_⟩;obtain⟨e',g1,g2⟩:=TW hr k ι hk;have:i.raw C k ins=e'.1.map (·.den (Dl C.T (Ce ins) ds)):=by
      unfold Ad.raw Vo;rw[k4];simp only[nn,g1]
     rw[this];exact VG hS g2
    ·cases h
   ·cases h
  ·cases h
 ·cases h
def Ct:List Int->Int
 | []=>0
 |b::r=>b+256*Ct r
def leP:List AV->GU
 | []=>[]
 |b::r=>Di b.p (Cr 256 (leP r))
def byB(a:AV):Bool:=Bh 0 a.lo&&Bh a.hi 255
def cM(l:List Int):Prop:=∀x∈l,0<=x/\x<=255
theorem Za.cons{ρ:Br}{x:Int}{l:List Int}{a:AV}{as:List AV}(h:Za ρ (x::l) (a::as)):a.ok ρ x/\Za ρ l as:=
 ⟨h.2 0 x a rfl rfl,by have:=h.1;simpa using this,λj y b hy hb=>h.2 (j+1) y b (by simpa using hy) (by simpa using hb)⟩
theorem oG{ρ:Br}:∀ {as:List AV} {l:List Int},Za ρ l as->FU ρ (leP as)=Ct l
 | [],[],_=>rfl
 | [],x::l,h=>by have:=h.1;simp at this
 |a::as,[],h=>by have:=h.1;simp at this
 |a::as,x::l,h=>by
  obtain⟨h1,h2⟩:=h.cons;simp only[leP,Ct,Cg,CZ,oG h2, <- h1.1]
theorem nA{ρ:Br}:∀ {as:List AV} {l:List Int},Za ρ l as->as.all byB=true->cM l
 | [],[],_,_=>λx hx=>by cases hx
 | [],x::l,h,_=>by have:=h.1;simp at this
 |a::as,[],h,_=>by have:=h.1;simp at this
 |a::as,x::l,h,hb=>by
  obtain⟨h1,h2⟩:=h.cons;simp only[List.all_cons,Bl] at hb;have:=hb.1;simp only[byB,Bl] at this;intro y hy;rcases IR.1 hy with rfl|hy
  ·exact⟨RP (A8 this.1) h1.2.1,RP h1.2.2.1 (A8 this.2)⟩
  ·exact nA h2 hb.2 y hy
theorem KV:∀ {l:List Int},cM l->0<=Ct l/\Ct l<256^l.length
 | [],_=>⟨lh _,by decide⟩
 |x::l,h=>by
  have h1:=h x Kh;have h2:=KV (l:=l) λy hy=>h y (Lv _ hy)
  simp only[Ct,Uk,RW];omega
def Ts(s:CS)(n m:Nat):Option GU:=match lk n s.vs with
 |some (a::_)=>bif Nat.blt m 128 then some (Di a.p (Cr (-(2^m:Nat)) (JV (enc n 0 m)))) else none
 |_=>none
theorem Wn{ρ:Br}{s:CS}(hs:OL ρ s){n m:Nat}{p:GU}(h:Ts s n m=some p):0<=FU ρ p/\FU ρ p<(2^m:Nat):=by
 unfold Ts at h;split at h
 ·rename_i a r hl;cases hb:Nat.blt m 128 with
  |false=>rw[hb] at h;cases h
  | true=>
   rw[hb,cond_true,Ai] at h;subst h;have hm:m<128:=MQ hb;have ha:=hs.1 n _ hl 0 a rfl;rw[Cg,CZ, <- ha.1,Gi,αv_enc ρ (by omega) hm];have h2:(0:Int)<((2^m:Nat):Int):=by
    have:=Nat.two_pow_pos m;omega
   have e:(2:Int)^m=((2^m:Nat):Int):=by
    rw[Int.natCast_pow];rfl
   rw[e];generalize ((2^m:Nat):Int)=M at *
   have h3:=Int.mul_ediv_add_emod ((ρ n).getD 0 0) M;have h4:=Int.emod_nonneg ((ρ n).getD 0 0) (Int.ne_of_gt h2);have h5:=Int.emod_lt_of_pos ((ρ n).getD 0 0) h2;rw[Int.neg_mul];omega
 ·cases h
def AD8(i:Ad)(C:Cx):Option (List (Nat×GG)×List (List X)):=match Zk (i.tree C) with
 |some (ds,_,_,st)=>bif LU i.s0.params.length (i.tree C) then(match Ml C i.s0 i.cF st with
  |some es=>some (ds,es.map (·.1))
  |none=>none) else none
 |none=>none
theorem vN{i:Ad}{C:Cx}{ds:List (Nat×GG)}{xss:List (List X)}(h:AD8 i C=some (ds,xss))(ins:List (List Int)):
  ∃ ρ:Br,(∀j,j<i.s0.params.length->ρ j=ins.getD j [])/\Tp C.T ρ ds/\∀(k:Nat) (xs:List X),xss[k]? = some xs->i.raw C k ins=xs.map (·.den ρ):=by
 unfold AD8 at h;split at h
 ·rename_i Fc ob e st hl;cases hc:LU i.s0.params.length (i.tree C) with
  |false=>rw[hc] at h;cases h
  | true=>
   rw[hc,cond_true] at h;obtain⟨k1,k2,k3,k4,k5⟩:=OY (T:=C.T) (ρ:=Ce ins) hc hl;split at h
   ·rename_i es nn;simp only[Ai,Prod.mk.injEq] at h;obtain⟨rfl,rfl⟩:=h;refine⟨Dl C.T (Ce ins) Fc,λj hj=>by rw[k1 j hj];rfl,k2,λk xs hk=>?_⟩;rw[Ng,Vu] at hk;obtain⟨e',g1,rfl⟩:=hk;unfold Ad.raw Vo;rw[k4];simp only[nn,g1]
   ·cases h
 ·cases h
end
section
open Go
def qJ(nx ny k:Nat)(ds:List (Nat×GG)):Nat->List (X×Bool)->Bool
 |i,[]=>Nat.beq i (bif Nat.blt k 32 then k+1 else 32)
 |i,(.v m 0,b)::r=>(match lk m ds with
  |some ⟨.bin .neq .u8,[.xs [.v x a],.xs [.v y c]]⟩=>Nat.beq x nx&&Nat.beq y ny&&Nat.beq a i&&Nat.beq c i&&(bif b then Nat.beq i k else Nat.blt i k)
  |_=>false)&&qJ nx ny k ds (i+1) r
 |_,_=>false
theorem uN{T:Tb}{ρ:Br}{nx ny k:Nat}{ds:List (Nat×GG)}(hd:Tp T ρ ds)(h1:∀i,i<k->(ρ nx).getD i 0=(ρ ny).getD i 0)(h2:k<32->(ρ nx).getD k 0≠(ρ ny).getD k 0)(hk:k<=32):∀ {cn:List (X×Bool)} {i:Nat},i<=32->qJ nx ny k ds i cn=true->AFX ρ cn
 | [],_,_,_=>λq hq=>by cases hq
 | (.v m 0,b)::r,i,hi,h=>by
  unfold qJ at h;simp only[Bl] at h;obtain⟨h3,h4⟩:=h;split at h3
  ·rename_i x a y c hm;simp only[Bl] at h3;obtain⟨⟨⟨⟨e1,e2⟩,e3⟩,e4⟩,e5⟩:=h3;have e1:=CR e1;have e2:=CR e2;have e3:=CR e3;have e4:=CR e4;subst e1;subst e2;subst e3;subst e4;have hv:=hd (m,_) (Ni hm);have HH:(X.v m 0).den ρ=XH ((ρ x).getD c 0 != (ρ y).getD c 0):=by
    show(ρ m).getD 0 0=_;rw[show ρ m=_ from hv];rfl
   have cf : c<32:=by
    cases b with
    | true =>
         rw[cond_true] at e5;have:=CR e5;have:c=k:=this;by_cases oX:k<32
         ·omega
         ·exfalso;have hk3:k=32:=by omega
          have hlen:∀ {r:List (X×Bool)} {i:Nat},qJ x y k ds i r=true->i<=32\/True:=λ_=>.inr trivial
          have:∀ {r:List (X×Bool)} {i:Nat},qJ x y k ds i r=true->i<=(bif Nat.blt k 32 then k+1 else 32):=by
           intro r
           induction r with
           |nil=>intro i h;exact Nat.le_of_eq (CR h)
           | cons q r ih=>
            intro i h;obtain⟨x',b'⟩:=q;cases x' with
            |lit _=>cases h
            | v m' k'=>
             cases k' with
             |zero=>
              unfold qJ at h;simp only[Bl] at h;have:=ih h.2;omega
             |succ _=>cases h
          have h5:=this h4;rw[hk3] at h5;have:(bif Nat.blt 32 32 then 32+1 else 32)=32:=rfl;omega
    |false=>rw[cond_false] at e5;have:=MQ e5;omega
   intro q hq;rcases IR.1 hq with rfl|hq
   ·simp only;rw[HH];cases b with
    |true=>
     rw[cond_true] at e5;have e:=CR e5;subst e;rw[bne_iff_ne.2 (h2 cf)];decide
    |false=>
     rw[cond_false] at e5;have e:=MQ e5;rw[h1 c e,bne_self_eq_false];decide
   ·exact uN hd h1 h2 hk (by omega) h4 q hq
  ·cases h3
 |(.lit _,_)::_,_,_,h=>by cases h
 |(.v _ (_+1),_)::_,_,_,h=>by cases h
def ACn(k:Nat):List Bool:=List.replicate k false++(bif Nat.blt k 32 then[true] else[])
def eqP (i:Ad) (C:Cx) (fb nx ny k:Nat):Bool:=match cu (ACn k) (i.tree C) with
 | some p=>RH i.s0.params.length (ACn k) (i.tree C)&&qJ nx ny k p.ds 0 p.cn&&(match p.ob with
   | []=>true
   |_=>false)&&(match Ml C i.s0 i.cF p.st with
   |some (e::_)=>(match e.1 with
    | [.lit (.ofNat c)]=>Nat.beq c (bif Nat.blt k 32 then 0 else 1)
    |_=>false)
   |_=>false)&&(match lk nx p.ds,lk ny p.ds with
   |some ⟨.fn f true 0,[.vec 1]⟩,some ⟨.fn g true 0,[.vec 0]⟩=>Nat.beq f fb&&Nat.beq g fb
   |_,_=>false)
 |none=>false
theorem oP{X Y:List Int}(hx:X.length=32)(hy:Y.length=32):X=Y\/∃k,k<32/\(∀i,i<k->X.getD i 0=Y.getD i 0)/\X.getD k 0≠Y.getD k 0:=by
 by_cases h:∃k,k<32/\X.getD k 0≠Y.getD k 0
 ·right
  obtain⟨k,hk⟩:=h
  induction k using Nat.strongRecOn with
  | _ k ih=>
   by_cases h2:∃i,i<k/\X.getD i 0≠Y.getD i 0
   ·obtain⟨i,hi,cq⟩:=h2;exact ih i hi ⟨by omega,cq⟩
   ·refine⟨k,hk.1,λi hi=>Classical.byContradiction λcq=>h2 ⟨i,hi,cq⟩,hk.2⟩
 ·left
  apply List.ext_getElem (by omega);intro i h1 h2;have:=Classical.byContradiction λcq:¬X.getD i 0=Y.getD i 0=>h ⟨i,by omega,cq⟩
  rw[List.getD,List.getD,JC h1,JC h2] at this;exact this
theorem AL2{i:Ad}{C:Cx}{fb nx ny:Nat}{s:BH}(hs:lk fb C.T=some (.one s))(iu:i.s0.params.length=2)(h:(List.range 33).all (eqP i C fb nx ny)=true){a b X Y:List Int}(hX:(s.pr 0).den [b]=X)(hY:(s.pr 0).den [a]=Y)(hx:X.length=32)(hy:Y.length=32):
  i.raw C 0 [a,b]= [bif decide (X=Y) then 1 else 0]:=by
 have key:∀k,k<=32->(∀i,i<k->X.getD i 0=Y.getD i 0)->(k<32->X.getD k 0≠Y.getD k 0)->i.raw C 0 [a,b]= [bif Nat.blt k 32 then 0 else 1]:=by
  intro k hk h1 h2;have hp:=Mx.1 h k (lZ.2 (by omega));unfold eqP at hp;split at hp
  ·rename_i p hl;simp only[Bl] at hp;obtain⟨⟨⟨⟨t1,t2⟩,_⟩,t4⟩,t5⟩:=hp;obtain⟨g1,g2,g3⟩:=Vp (T:=C.T) (ρ:=Ce [a,b]) t1 hl;have hρ:∀j,j<2->Dl C.T (Ce [a,b]) p.ds j= [a,b].getD j []:=λj hj=>by rw[g1 j (by omega)];rfl
   split at t5
   ·rename_i f g OS So;simp only[Bl] at t5;have e1:=CR t5.1;have e2:=CR t5.2;subst e1;subst e2;have n1:Dl C.T (Ce [a,b]) p.ds nx=X:=by
     have:=g2 (nx,_) (Ni OS);rw[show Dl C.T (Ce [a,b]) p.ds nx=_ from this];simp only[GG.den,Na.den,hs,NE,Uf,IZ.den,hρ 1 (by omega)];exact hX
    have n2:Dl C.T (Ce [a,b]) p.ds ny=Y:=by
     have:=g2 (ny,_) (Ni So);rw[show Dl C.T (Ce [a,b]) p.ds ny=_ from this];simp only[GG.den,Na.den,hs,NE,Uf,IZ.den,hρ 0 (by omega)];exact hY
    obtain⟨_,g4,_⟩:=g3 (uN (nx:=nx) (ny:=ny) (k:=k) g2 (by rw[n1,n2];exact h1) (by rw[n1,n2];exact h2) hk (by omega) t2);unfold Ad.raw Vo;rw[g4];simp only;split at t4
    ·rename_i e es nn;rw[nn];simp only[Ul];split at t4
     ·rename_i c hc;have:=CR t4;rw[hc,this];cases Nat.blt k 32<;>rfl
     ·cases t4
    ·cases t4
   ·cases t5
  ·cases hp
 rcases oP hx hy with he|⟨k,h1,h2,h3⟩
 ·rw[decide_eq_true he];exact key 32 (by omega) (λi _=>by rw[he]) (by omega)
 ·rw[decide_eq_false (λhe=>h3 (by rw[he])),key k (by omega) h2 (λ_=>h3)];have:Nat.blt k 32=true:=vM h1;rw[this];rfl
theorem vP:∀ {l m:List Int},cM l->cM m->l.length=m.length->Ct l=Ct m->l=m
 | [],[],_,_,_,_=>rfl
 | [],_::_,_,_,h,_=>by simp at h
 |_::_,[],_,_,h,_=>by simp at h
 |x::l,y::m,h1,h2,h3,h4=>by
  have a1:=h1 x Kh;have a2:=h2 y Kh;simp only[Ct] at h4;have e:x=y:=by omega
  subst e;rw[vP (λz hz=>h1 z (Lv _ hz)) (λz hz=>h2 z (Lv _ hz)) (by simpa using h3) (by omega)]
end
section
open Go
def AKC(s:CS)(d:GG):Option AV:=match d with
 |⟨.bin .shl κ,[.xs [x],.xs [.lit (.ofNat m)]]⟩=>(match s.x x with
  |some a=>bif !Ob κ&&Nat.blt m κ.bits&&Bh 0 a.lo&&QI κ ((2^m:Nat)*a.lo) ((2^m:Nat)*a.hi) then some (.pD (Cr (2^m:Nat) a.p) ((2^m:Nat)*a.lo) ((2^m:Nat)*a.hi)) else none
  |none=>none)
 |_=>none
theorem AGO{T:Tb}{ρ:Br}{s:CS}(hs:OL ρ s){d:GG}{r:AV}(h:AKC s d=some r):∃z,d.den T ρ= [z]/\r.ok ρ z:=by
 unfold AKC at h;split at h
 ·rename_i κ x m;split at h
  ·rename_i a ha;cases hb:(!Ob κ&&Nat.blt m κ.bits&&Bh 0 a.lo&&QI κ ((2^m:Nat)*a.lo) ((2^m:Nat)*a.hi)) with
   |false=>rw[hb] at h;cases h
   | true=>
    rw[hb,cond_true,Ai] at h;subst h;simp only[Bl] at hb;obtain⟨⟨⟨_,h1⟩,h2⟩,h3⟩:=hb;have hx:=CS.gR hs ha;have cf:=D7 h1;have hp:(0:Int)<=((2^m:Nat):Int):=sU _;have l1:((2^m:Nat):Int)*a.lo<=((2^m:Nat):Int)*x.den ρ:=Int.mul_le_mul_of_nonneg_left hx.2.1 hp;have l2:((2^m:Nat):Int)*x.den ρ<=((2^m:Nat):Int)*a.hi:=Int.mul_le_mul_of_nonneg_left hx.2.2.1 hp;have hw:=JZ (KX h3 l1 l2);have HA:min (Int.ofNat m).toNat κ.bits=m:=by
     show min ((m:Int)).toNat κ.bits=m;rw[SN];omega
    have pC:((2^m:Nat):Int)=2^m:=by push_cast;rfl
    refine⟨((2^m:Nat):Int)*x.den ρ,?_,Io ?_ l1 l2⟩
    ·show[Ah .shl κ (x.den ρ) (Int.ofNat m)]=_;simp only[Ah];rw[HA, <- pC,Xg (x.den ρ),hw]
    ·rw[CZ, <- hx.1]
  ·cases h
 ·cases h
def UW(M:List (Nat×FK))(sk:List Nat):CS->List (Nat×GG)->Option CS
 |s,[]=>some s
 |s,(n,d)::r=>bif ED n sk then UW M sk s r else(match AKC s d with
  |some a=>UW M sk ⟨(n,[a])::s.vs,s.bs,s.mm⟩ r
  |none=>match uR M s n d with
  |some (ι,nb,nm)=>UW M sk ⟨(n,ι)::s.vs,nb++s.bs,nm++s.mm⟩ r
  |none=>none)
theorem TQ{T:Tb}{M:List (Nat×FK)}(hM:Wh T M){sk:List Nat}{ρ:Br}:∀ {ds:List (Nat×GG)} {s s':CS},OL ρ s->Tp T ρ ds->UW M sk s ds=some s'->OL ρ s'
 | [],s,s',hs,_,h=>by simp only[UW,Ai] at h;subst h;exact hs
 | (n,d)::r,s,s',hs,hd,h=>by
  unfold UW at h;cases hsk:ED n sk with
  |true=>
   rw[hsk,cond_true] at h;exact TQ hM hs (λp hp=>hd p (Lv _ hp)) h
  |false=>
  rw[hsk,cond_false] at h;split at h
  ·rename_i a0 wi;obtain⟨z,hz,fS⟩:=AGO (T:=T) hs wi;have hn:ρ n=d.den T ρ:=hd (n,d) Kh;refine TQ (s:=⟨(n,[a0])::s.vs,s.bs,s.mm⟩) hM ⟨λi as hi k a ha=>?_,hs.2.1,hs.2.2⟩ (λp hp=>hd p (Lv _ hp)) h;simp only[lk] at hi;cases hb:Nat.beq n i with
   |true=>
    rw[hb,cond_true,Ai] at hi;have:=CR hb;subst this;subst hi;obtain⟨rfl,rfl⟩:=O1 ha;rw[hn,hz];exact fS
   |false=>rw[hb,cond_false] at hi;exact hs.1 i as hi k a ha
  ·split at h;rename_i ι nb nm hc;obtain⟨g1,g2,g3⟩:=lQ hM hs (hd (n,d) Kh) hc;refine TQ hM ⟨λi as hi k a ha=>?_,λa ha=>?_,λm x y hm=>?_⟩ (λp hp=>hd p (Lv _ hp)) h
   ·simp only[lk] at hi;cases hb:Nat.beq n i with
    |true=>
     rw[hb,cond_true,Ai] at hi;have:=CR hb;subst this;subst hi;exact g1 k a ha
    |false=>rw[hb,cond_false] at hi;exact hs.1 i as hi k a ha
   ·rcases jd.1 (Gp.1 ha) with h|h
    ·exact g2 a (Gp.2 h)
    ·exact hs.2.1 a (Gp.2 h)
   ·rcases Te hm with h|h
    ·exact g3 m x y h
    ·exact hs.2.2 m x y h
   ·cases h
def ABX (i:Ad) (C:Cx) (M:List (Nat×FK)) (ζ:List (List (Int×Int))) (n:Nat) (b:List (Int×Int)):Option (List (Nat×GG)×List JU×CS×List (List AV)):=
 match Zk (i.tree C) with
 | some (ds,ob,_,st)=>bif LU i.s0.params.length (i.tree C)&&Nat.beq ζ.length i.s0.params.length then(match UW M [n] ⟨qh 0 ζ ++ [(n,nR n b)],[],[]⟩ ds with
  | some s=>(match Ml C i.s0 i.cF st with
   |some es=>(match Y8 s es with
    |some r=>some (ds,ob,s,r)
    |none=>none)
   |none=>none)
  |none=>none) else none
 |none=>none
theorem AFl{ρ:Br}{n:Nat}{b:List (Int×Int)}(hl:b.length<=4096)(hb:∀(k:Nat) (p:Int×Int),b[k]? = some p->p.1<=(ρ n).getD k 0/\(ρ n).getD k 0<=p.2){k:Nat}{a:AV}(ha:(nR n b)[k]? = some a):a.ok ρ ((ρ n).getD k 0):=by
 unfold nR at ha;simp only[Ng,Vu] at ha;obtain⟨⟨p,k'⟩,h4,rfl⟩:=ha;rw[List.getElem?_zipIdx,Vu] at h4;obtain⟨p',h5,h6⟩:=h4;simp only[Prod.mk.injEq,Km] at h6;obtain⟨rfl,rfl⟩:=h6;have hk:k<b.length:=(OQ.1 h5).1;obtain⟨b1,b2⟩:=hb k p' h5;refine Io ?_ b1 b2;rw[Gi,αv_enc0 ρ (by omega)]
theorem zi {i:Ad} {C:Cx} {M:List (Nat×FK)} (hM:Wh C.T M) {ζ:List (List (Int×Int))} {n:Nat} {b:List (Int×Int)} {ds:List (Nat×GG)} {ob:List JU} {s:CS} {π:List (List AV)} (h:ABX i C M ζ n b=some (ds,ob,s,π)) {ins:List (List Int)} (hb:Mv ζ ins) (hl:b.length<=4096)
  (hn:∀ ρ:Br,(∀j,j<i.s0.params.length->ρ j=ins.getD j [])->Tp C.T ρ ds->∀(k:Nat) (p:Int×Int),b[k]? = some p->p.1<=(ρ n).getD k 0/\(ρ n).getD k 0<=p.2):
  ∃ ρ:Br,(∀j,j<i.s0.params.length->ρ j=ins.getD j [])/\Tp C.T ρ ds/\OL ρ s/\((∀q∈ob,q.den C.T ρ)->EY C.T (i.tree C) (Ce ins))/\∀(k:Nat) (ι:List AV),π[k]? = some ι->Za ρ (i.raw C k ins) ι:=by
 unfold ABX at h;split at h
 ·rename_i Fc ob' e st pT;cases hc:(LU i.s0.params.length (i.tree C)&&Nat.beq ζ.length i.s0.params.length) with
  |false=>rw[hc] at h;cases h
  |true=>
  rw[hc,cond_true] at h;simp only[Bl] at hc;have hlen:=CR hc.2;obtain⟨k1,k2,k3,k4,k5⟩:=OY (T:=C.T) (ρ:=Ce ins) hc.1 pT;split at h
  ·rename_i s' hs;split at h
   ·rename_i es nn;split at h
    ·rename_i r hr;simp only[Ai,Prod.mk.injEq] at h;obtain⟨rfl,rfl,rfl,rfl⟩:=h;have hρ:∀j,j<i.s0.params.length->Dl C.T (Ce ins) Fc j=ins.getD j []:=λj hj=>by rw[k1 j hj];rfl
     have eC:=Xb hb (ρ:=Dl C.T (Ce ins) Fc) (λj hj=>hρ j (by omega));have HB:OL (Dl C.T (Ce ins) Fc) ⟨qh 0 ζ ++ [(n,nR n b)],[],[]⟩:=by
      refine⟨λi' ι hi k a ha=>?_,eC.2.1,λm x y hm=>by simp[lk] at hm⟩;rcases Te hi with h1|h1
      ·exact eC.1 i' ι h1 k a ha
      ·simp only[lk] at h1;cases tI:Nat.beq n i' with
       |true=>
        rw[tI,cond_true,Ai] at h1;have:=CR tI;subst this;subst h1;exact AFl hl (hn _ hρ k2) ha
       |false=>rw[tI] at h1;cases h1
     have hS:=TQ hM HB k2 hs;refine⟨Dl C.T (Ce ins) Fc,hρ,k2,hS,k5,λk ι hk=>?_⟩;obtain⟨e',g1,g2⟩:=TW hr k ι hk;have:i.raw C k ins=e'.1.map (·.den (Dl C.T (Ce ins) Fc)):=by
      unfold Ad.raw Vo;rw[k4];simp only[nn,g1]
     rw[this];exact VG hS g2
    ·cases h
   ·cases h
  ·cases h
 ·cases h
end
end Go.Proofs.YtloibefkijfdlaaGreatDoor
