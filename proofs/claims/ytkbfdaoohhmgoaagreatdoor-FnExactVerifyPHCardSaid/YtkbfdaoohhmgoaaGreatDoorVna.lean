/- The digits of a scalar of which few are not zero: plain law. -/
import Derived.Test.YtkbfdaoohhmgoaaGreatDoorLy
namespace Go.Proofs.YtkbfdaoohhmgoaaGreatDoor
section
open Go
def Nn:List Int->Int
 | []=>0
 |x::r=>x+2*Nn r
theorem lI:∀(d:List Int) (i:Nat) (x:Int),i<d.length->d.getD i 0=0->Nn (d.set i x)=Nn d+2^i*x
 | [],i,_,h,_=>by simp at h
 |y::r,0,x,_,h0=>by
  have hy:y=0:=h0;subst hy;show x+2*Nn r=0+2*Nn r+2^0*x;omega
 |y::r,i+1,x,h,h0=>by
  have h1:i<r.length:=by simpa using h
  have h2:r.getD i 0=0:=by simpa using h0
  show y+2*Nn (r.set i x)=y+2*Nn r+2^(i+1)*x;rw[lI r i x h1 h2,Hi];generalize (2:Int)^i=t;grind
theorem gP:∀n,Nn (List.replicate n 0)=0
 |0=>rfl
 |n+1=>by
  show 0+2*Nn (List.replicate n 0)=0;rw[gP n];rfl
def tJ(w:Nat)(x:Int):Prop:=x=0\/(x%2=1/\ -(2^(w-1):Nat)<x/\x<(2^(w-1):Nat))
structure YG (w m:Nat) (d:List Int) (pos c:Nat):Prop where
 len:d.length=256
 sum:Nn d+2^pos*((c+m/2^pos:Nat):Int)=m
 cs:c<=1
 zero:∀i,pos<=i->d.getD i 0=0
 Cd:∀i,tJ w (d.getD i 0)
 fin:256<=pos->c=0
theorem fO(n i:Nat):(List.replicate n (0:Int)).getD i 0=0:=by
 rw[List.getD_eq_getElem?_getD,iF];split<;>rfl
theorem ACm(w m:Nat):YG w m (List.replicate 256 0) 0 0:=by
 refine⟨Rp,?_,by omega,λi _=>fO _ _,λi=>.inl (fO _ _),λh=>by omega⟩;rw[gP,Nat.pow_zero,Nat.div_one,Int.pow_zero];omega
theorem AFQ{w m pos c:Nat}{d:List Int}(h:YG w m d pos c)(hw:1<=w)(hm:m<2^253)(hp:pos<256)(he:(c+m/2^pos%2^w)%2=0):YG w m d (pos+1) c:=by
 have h2:m/2^pos%2^w%2=m/2^pos%2:=Nat.mod_mod_of_dvd _ (by
  obtain⟨k,rfl⟩:∃k,w=k+1:=⟨w-1,by omega⟩;exact⟨2^k,by rw[kw,qI]⟩)
 have hx:m/2^(pos+1)=m/2^pos/2:=by rw[kw,Nat.div_div_eq_div_mul]
 have hc:=h.cs;have hs:=h.sum;refine⟨h.len,?_,h.cs,λi hi=>h.zero i (by omega),h.Cd,λhf=>?_⟩
 ·rw[hx];generalize m/2^pos=x at *
  have e:c+x=2*(c+x/2):=by omega
  rw[e] at hs;rw[Hi];generalize (2:Int)^pos=t at *
  push_cast at hs ⊢;grind
 ·have hp5:pos=255:=by omega
  subst hp5;have h0:m/2^255=0:=Nat.div_eq_of_lt (qm hm (T0 (by decide) (by decide)));rw[h0,Nat.zero_mod] at he;omega
theorem nZ{d:List Int}{i j:Nat}{x:Int}(hi:i<d.length):(d.set i x).getD j 0=if j=i then x else d.getD j 0:=by
 rw[List.getD_eq_getElem?_getD,List.getD_eq_getElem?_getD,List.getElem?_set];by_cases h:i=j
 ·subst h;simp[hi]
 ·rw[if_neg h,if_neg (Ne.symm h)]
theorem oZ{w m pos c c':Nat}{d:List Int}{x:Int}(h:YG w m d pos c)(hw:1<=w)(hp:pos<256)(j8:c'<=1)(hx:x+(c'*2^w:Nat)=((c+m/2^pos%2^w:Nat):Int))(hd:tJ w x)(hf:256<=pos+w->c'=0):YG w m (d.set pos x) (pos+w) c':=by
 have bj:pos<d.length:=by rw[h.len];exact hp
 have hs:=h.sum;refine⟨by rw[List.length_set];exact h.len,?_,j8,λi hi=>?_,λi=>?_,hf⟩
 ·rw[lI d pos x bj (h.zero pos (Ie _))];have hq:m/2^(pos+w)=m/2^pos/2^w:=by rw[Nat.pow_add,Nat.div_div_eq_div_mul]
  have hdm:=Nat.div_add_mod (m/2^pos) (2^w);rw[hq,Int.pow_add];generalize m/2^pos=y at *
  have e2:((2:Int)^w)=((2^w:Nat):Int):=by push_cast;rfl
  rw[e2];generalize 2^w=W at *
  generalize y/W=q at *
  generalize y%W=r at *
  generalize (2:Int)^pos=t at *
  subst hdm;push_cast at *
  grind
 ·rw[nZ bj,if_neg (by omega)];exact h.zero i (by omega)
 ·rw[nZ bj];split
  ·exact hd
  ·exact h.Cd i
theorem Q0{w:Nat}(hw:1<=w):2^w=2*2^(w-1):=by
 obtain⟨k,rfl⟩:∃k,w=k+1:=⟨w-1,by omega⟩;rw[kw,qI,Nat.add_sub_cancel]
theorem AHN{w m pos c:Nat}{d:List Int}(h:YG w m d pos c)(hw:1<=w)(hp:pos<256)(ho:(c+m/2^pos%2^w)%2=1)(hl:c+m/2^pos%2^w<2^(w-1)):YG w m (d.set pos ((c+m/2^pos%2^w:Nat):Int)) (pos+w) 0:=by
 refine oZ h hw hp (by omega) (by simp) (.inr ⟨by omega,?_,?_⟩) λ_=>rfl
 ·have:0<2^(w-1):=P1 (by decide);omega
 ·exact C5.2 hl
theorem AFN{w m pos c:Nat}{d:List Int}(h:YG w m d pos c)(hw:3<=w)(hm:m<2^253)(hp:pos<256)(ho:(c+m/2^pos%2^w)%2=1)(hl:¬c+m/2^pos%2^w<2^(w-1)):YG w m (d.set pos (((c+m/2^pos%2^w:Nat):Int)-(2^w:Nat))) (pos+w) 1:=by
 have hc:=h.cs;have oY:=Q0 (w:=w) (by omega);have hr:m/2^pos%2^w<2^w:=L4 _ (P1 (by decide));have ada:2^(w-1)%2=0:=by
  have:=Q0 (w:=w-1) (by omega);omega
 refine oZ h (by omega) hp (by omega) (by push_cast;omega) (.inr ⟨by omega,by omega,by omega⟩) λhf=>?_
 have h3:m/2^pos<2^(w-3):=by
  refine Nat.div_lt_of_lt_mul (qm hm ?_);rw[<- Nat.pow_add];exact T0 (by decide) (by omega)
 have h4:m/2^pos%2^w<=m/2^pos:=Nat.mod_le _ _;have h5:=Q0 (w:=w-1) (by omega);have h6:=Q0 (w:=w-1-1) (by omega);have h7:0<2^(w-3):=P1 (by decide);rw[show w-1-1-1=w-3 by omega] at h6;omega
theorem AHd{w m pos c:Nat}{d:List Int}(h:YG w m d pos c)(hm:m<2^253)(hp:256<=pos):Nn d=m:=by
 have hs:=h.sum;rw[h.fin hp,Nat.div_eq_of_lt (qm hm (T0 (by decide) (by omega)))] at hs;simpa using hs
end
section
open Go
def nR(D:Nat->Nat):Nat:=D 0+2^64*(D 1+2^64*(D 2+2^64*D 3))
theorem AGc{D:Nat->Nat}(h4:D 4=0)(hD:∀i,D i<2^64){i:Nat}(hi:i<4):∃R,nR D/2^(64*i)=D i+2^64*(D (i+1)+2^64*R):=by
 have h0:=hD 0;have h1:=hD 1;have h2:=hD 2;unfold nR
 match i,hi with
 |0,_=>exact⟨D 2+2^64*D 3,by rw[Nat.mul_zero,Nat.pow_zero,Nat.div_one]⟩
 |1,_=>
  refine⟨D 3,?_⟩;rw[Nat.mul_one,Nat.add_mul_div_left _ _ (by decide),Nat.div_eq_of_lt h0,KN]
 |2,_=>
  refine⟨0,?_⟩;rw[show 64*2=64+64 from rfl,Nat.pow_add, <- Nat.div_div_eq_div_mul,Nat.add_mul_div_left _ _ (by decide),Nat.div_eq_of_lt h0,KN,Nat.add_mul_div_left _ _ (by decide),Nat.div_eq_of_lt h1,KN,Nat.mul_zero,QO]
 |3,_=>
  refine⟨0,?_⟩;rw[show 64*3=64+64+64 from rfl,Nat.pow_add,Nat.pow_add, <- Nat.div_div_eq_div_mul, <- Nat.div_div_eq_div_mul,Nat.add_mul_div_left _ _ (by decide),Nat.div_eq_of_lt h0,KN,Nat.add_mul_div_left _ _ (by decide),Nat.div_eq_of_lt h1,KN,Nat.add_mul_div_left _ _ (by decide),Nat.div_eq_of_lt h2,KN];show D 3=D 3+2^64*(D 4+2^64*0);rw[h4];rfl
theorem PL{a b:Nat}(h:b<=a):2^a=2^b*2^(a-b):=by rw[<- Nat.pow_add];congr 1;omega
theorem zB{D:Nat->Nat}(h4:D 4=0)(hD:∀i,D i<2^64){pos w:Nat}(hp:pos<256)(hw:w<=64):
  nR D/2^pos%2^w=(D (pos/64)/2^(pos%64)+2^(64-pos%64)*D (pos/64+1))%2^w:=by
 obtain⟨R,hR⟩:=AGc h4 hD (i:=pos/64) (by omega);have hb:pos%64<64:=L4 _ (by decide);have e1:nR D/2^pos=nR D/2^(64*(pos/64))/2^(pos%64):=by
  rw[Nat.div_div_eq_div_mul, <- Nat.pow_add]
  congr 2
  omega
 rw[e1,hR];generalize pos%64=b at *
 generalize D (pos/64)=x;generalize D (pos/64+1)=y;rw[PL (a:=64) (b:=b) (by omega),Nat.mul_assoc,Nat.add_mul_div_left _ _ (P1 (by decide)), <- PL (a:=64) (b:=b) (by omega),Nat.mul_add, <- WZ];have e2:2^(64-b)*(2^64*R)=2^w*(2^(64-w)*(2^(64-b)*R)):=by
  rw[PL (a:=64) (b:=w) hw];simp only[Nat.mul_assoc,Nat.mul_left_comm]
 rw[e2,Nat.add_mul_mod_self_left]
theorem AIn{D:Nat->Nat}(h4:D 4=0)(hD:∀i,D i<2^64){pos w:Nat}(hp:pos<256)(hw:pos%64+w<=64):
  nR D/2^pos%2^w=D (pos/64)/2^(pos%64)%2^w:=by
 rw[zB h4 hD hp (by omega),PL (a:=64-pos%64) (b:=w) (by omega),Nat.mul_assoc,Nat.add_mul_mod_self_left]
theorem AEc{x:Nat}(h:x<2^64):IJ .u64 (x:Int):=(IA rfl).2 ⟨by omega,by
 have e:((2:Int)^JA .u64)=((2^64:Nat):Int):=rfl;rw[e];exact C5.2 h⟩
theorem tN{x w:Nat}(hx:x<2^64)(hw:w<=64):Ak .and .u64 (x:Int) ((2:Int)^w-1)=((x%2^w:Nat):Int):=by
 have h:=VY (k:=.u64) rfl (AEc hx) (m:=w) (show w<=64 from hw);have e:Ak .and .u64 (x:Int) ((2:Int)^w-1)=Es .and .u64 (x:Int) ((2:Int)^w-1):=rfl;rw[e,h];push_cast;rfl
theorem AEp{x b:Nat}(hb:b<=64):Ak .shr .u64 (x:Int) (b:Int)=((x/2^b:Nat):Int):=by
 show(x:Int).fdiv (2^(min ((b:Int)).toNat 64))=_;rw[Rh,Nat.min_eq_left hb,Int.fdiv_eq_ediv_of_nonneg _ (Int.le_of_lt (Int.pow_pos (by decide)))];push_cast;rfl
theorem ACE{x b:Nat}(hb:b<=64):Ak .shl .u64 (x:Int) (b:Int)=((x*2^b%2^64:Nat):Int):=by
 show IntKind.u64.wrap (x*2^(min ((b:Int)).toNat 64))=_;rw[JZ rfl,Rh,Nat.min_eq_left hb,Int.natCast_emod,Int.natCast_mul,Int.natCast_pow];rfl
theorem ARg{x y b:Nat}(hx:x<2^(64-b))(hb:b<=64):Ak .or .u64 (x:Int) ((y*2^(64-b)%2^64:Nat):Int)=((x+y*2^(64-b)%2^64:Nat):Int):=by
 have bj:x<2^64:=qm hx (T0 (by decide) (by omega));have hy:y*2^(64-b)%2^64<2^64:=L4 _ (by decide);have hd:(2:Int)^(64-b) ∣ ((y*2^(64-b)%2^64:Nat):Int):=by
  have:2^(64-b) ∣ y*2^(64-b)%2^64:=(Nat.dvd_mod_iff (Nat.pow_dvd_pow 2 (by omega))).2 (Nat.dvd_mul_left _ _);obtain⟨k,hk⟩:=this;exact⟨k,by rw[hk];push_cast;rfl⟩
 have h:=(Tt (k:=.u64) rfl (AEc hy) (AEc bj) hd (by
  have e:((2:Int)^(64-b))=((2^(64-b):Nat):Int):=by push_cast;rfl
  rw[e];exact C5.2 hx)).2
 have e:Ak .or .u64 (x:Int) ((y*2^(64-b)%2^64:Nat):Int)=Es .or .u64 (x:Int) ((y*2^(64-b)%2^64:Nat):Int):=rfl;rw[e,h,Int.natCast_add];omega
theorem AMo{D:Nat->Nat}(h4:D 4=0)(hD:∀i,D i<2^64){pos w:Nat}(hp:pos<256)(hw:w<=64):
  Ak .and .u64 (Ak .or .u64 (Ak .shr .u64 (D (pos/64):Int) ((pos%64:Nat):Int)) (Ak .shl .u64 (D (pos/64+1):Int) ((64-pos%64:Nat):Int))) ((2:Int)^w-1)=((nR D/2^pos%2^w:Nat):Int):=by
 have hb:pos%64<64:=L4 _ (by decide);have hx:D (pos/64)/2^(pos%64)<2^(64-pos%64):=by
  refine Nat.div_lt_of_lt_mul ?_;rw[<- PL (by omega)];exact hD _
 rw[AEp (by omega),ACE (by omega),ARg hx (by omega)];have hs:D (pos/64)/2^(pos%64)+D (pos/64+1)*2^(64-pos%64)%2^64<2^64:=by
  have hdv:2^(64-pos%64) ∣ D (pos/64+1)*2^(64-pos%64)%2^64:=(Nat.dvd_mod_iff (Nat.pow_dvd_pow 2 (by omega))).2 (Nat.dvd_mul_left _ _);obtain⟨k,hk⟩:=hdv;have bj:D (pos/64+1)*2^(64-pos%64)%2^64<2^64:=L4 _ (by decide);have Mp:=PL (a:=64) (b:=64-pos%64) (by omega);rw[hk] at bj ⊢;generalize 2^(64-pos%64)=W at *
  rw[Mp] at bj ⊢;generalize 2^(64-(64-pos%64))=V at *
  have nB:k<V:=Nat.lt_of_mul_lt_mul_left bj;have:W*k+W<=W*V:=by rw[<- Nat.mul_succ];exact Nat.mul_le_mul_left _ nB
  omega
 rw[tN hs hw,zB h4 hD hp hw]
 congr 1
 rw[Nat.add_mod,Nat.mod_mod_of_dvd _ (Nat.pow_dvd_pow 2 hw), <- Nat.add_mod,qI (D (pos/64+1))]
theorem AOA{D:Nat->Nat}(h4:D 4=0)(hD:∀i,D i<2^64){pos w:Nat}(hp:pos<256)(hw:pos%64+w<=64):
  Ak .and .u64 (Ak .shr .u64 (D (pos/64):Int) ((pos%64:Nat):Int)) ((2:Int)^w-1)=((nR D/2^pos%2^w:Nat):Int):=by
 rw[AEp (by omega),tN (zdb (Nat.div_le_self _ _) (hD _)) (by omega),AIn h4 hD hp hw]
end
section
open Go Go.RowKit Go.Lib Ma
section
variable{ρ:Operand->Value}{d:Option Tmp}{x y:Operand}{ty t t':TypeId}{pos:String}{af:Array Edge}{w:World}{b o:Nat}
theorem uV{i:Int}{k:Nat}(hx:ρ x= .int .u64 i)(hy:ρ y= .int .u64 (k:Int)):(execOp ρ ⟨d,.binOp .shl t x y t',ty,pos,af,none⟩).run Tryz.prog w= .ok (.value (.int .u64 (Ak .shl .u64 i (k:Int)))) w:=by
 simp[execOp,go_sem,hx,hy,Ak]
theorem ABX{i:Int}{k:Nat}(hx:ρ x= .int .u64 i)(hy:ρ y= .int .u64 (k:Int)):(execOp ρ ⟨d,.binOp .shr t x y t',ty,pos,af,none⟩).run Tryz.prog w= .ok (.value (.int .u64 (Ak .shr .u64 i (k:Int)))) w:=by
 simp[execOp,go_sem,hx,hy,Ak];rw[Int.fdiv_eq_ediv_of_nonneg _ (Int.le_of_lt (Int.pow_pos (by decide)))]
theorem AKZ{i j:Int}(hx:ρ x= .int .u64 i)(hy:ρ y= .int .u64 j):(execOp ρ ⟨d,.binOp .or t x y t',ty,pos,af,none⟩).run Tryz.prog w= .ok (.value (.int .u64 (Ak .or .u64 i j))) w:=by
 simp[execOp,go_sem,hx,hy];rfl
theorem AD4{i j:Int}(hx:ρ x= .int .u64 i)(hy:ρ y= .int .u64 j):(execOp ρ ⟨d,.binOp .and t x y t',ty,pos,af,none⟩).run Tryz.prog w= .ok (.value (.int .u64 (Ak .and .u64 i j))) w:=by
 simp[execOp,go_sem,hx,hy];rfl
theorem iU{i j:Int}(hx:ρ x= .int .u64 i)(hy:ρ y= .int .u64 j):(execOp ρ ⟨d,.binOp .add t x y t',ty,pos,af,none⟩).run Tryz.prog w= .ok (.value (.int .u64 (IntKind.u64.wrap (i+j)))) w:=by
 simp[execOp,go_sem,hx,hy]
theorem rC{i j:Int}(hx:ρ x= .int .u64 i)(hy:ρ y= .int .u64 j):(execOp ρ ⟨d,.binOp .sub t x y t',ty,pos,af,none⟩).run Tryz.prog w= .ok (.value (.int .u64 (IntKind.u64.wrap (i-j)))) w:=by
 simp[execOp,go_sem,hx,hy]
theorem Zx{i j:Int}(hx:ρ x= .int .u64 i)(hy:ρ y= .int .u64 j):(execOp ρ ⟨d,.binOp .lss t x y t',ty,pos,af,none⟩).run Tryz.prog w= .ok (.value (.bool (decide (i<j)))) w:=by
 simp[execOp,go_sem,hx,hy]
theorem ig{i j:Int}{k:IntKind}(hx:ρ x= .int k i)(hy:ρ y= .int k j):(execOp ρ ⟨d,.binOp .gtr t x y t',ty,pos,af,none⟩).run Tryz.prog w= .ok (.value (.bool (decide (j<i)))) w:=by
 simp[execOp,go_sem,hx,hy]
theorem ACj{i j:Int}(hx:ρ x= .int .u64 i)(hy:ρ y= .int .u64 j):(execOp ρ ⟨d,.binOp .eql t x y t',ty,pos,af,none⟩).run Tryz.prog w= .ok (.value (.bool (i == j))) w:=by
 simp[execOp,go_sem,hx,hy]
theorem AE1{i j:Nat}(hx:ρ x= .int .u64 i)(hy:ρ y= .int .u64 j)(hj:0<j)(hi:i<2^64):(execOp ρ ⟨d,.binOp .quo t x y t',ty,pos,af,none⟩).run Tryz.prog w= .ok (.value (.int .u64 ((i/j:Nat):Int))) w:=by
 have hw:IntKind.u64.wrap ((i/j:Nat):Int)=((i/j:Nat):Int):=by
  have:i/j<=i:=Nat.div_le_self _ _;rw[JZ rfl];exact uu (nI _) (by
   have e:((2:Int)^JA .u64)=((2^64:Nat):Int):=rfl;rw[e];exact C5.2 (by omega))
 simp[execOp,go_sem,hx,hy];rw[if_neg (by omega)];show Result.ok (Next.value (Value.int .u64 (IntKind.u64.wrap ((i:Int).tdiv j)))) w=_;have e:(i:Int).tdiv (j:Int)=((i/j:Nat):Int):=rfl;rw[e,hw];rfl
theorem AOK{i j:Nat}(hx:ρ x= .int .u64 i)(hy:ρ y= .int .u64 j)(hj:0<j):(execOp ρ ⟨d,.binOp .rem t x y t',ty,pos,af,none⟩).run Tryz.prog w= .ok (.value (.int .u64 ((i%j:Nat):Int))) w:=by
 simp[execOp,go_sem,hx,hy];rw[if_neg (by omega)];rfl
theorem AMg{i:Int}(h:ρ x= .int .u8 i):(execOp ρ ⟨d,.convert 5 38 x,ty,pos,af,none⟩).run Tryz.prog w= .ok (.value (.int .u64 (IntKind.u64.wrap i))) w:=by
 simp[execOp,go_sem,h]
theorem AMP{i j:Int}(hx:ρ x= .int .i64 i)(hy:ρ y= .int .i64 j):(execOp ρ ⟨d,.binOp .mul t x y t',ty,pos,af,none⟩).run Tryz.prog w= .ok (.value (.int .i64 (IntKind.i64.wrap (i*j)))) w:=by
 simp[execOp,go_sem,hx,hy]
end
theorem AEw{x:List Int}(h8:∀z∈x,0<=z/\z<=255):∀n,x.length=n->0<=Cm x/\Cm x<256^n:=by
 intro n
 induction n generalizing x with
 |zero=>intro hl;rw[HW hl];exact⟨gq _,by decide⟩
 | succ n ih=>
  intro hl
  match x,hl with
  |z::r,hl=>
   have h1:=h8 z (by simp);have h2:=ih (x:=r) (λy hy=>h8 y (by simp[hy])) (by simpa using hl);show 0<=z+256*Cm r/\z+256*Cm r<256^(n+1);rw[Hi];generalize (256:Int)^n=t at *
   omega
set_option maxRecDepth 100000 in
theorem O7{w:World}{b o n c:Nat}{x:List Int}(h:DD w b o x)(hl:x.length=8)(hn:8<=n):Calls Tryz.prog 120 #[.slice (some ⟨b,o,none⟩) n c] w (λe w'=>e= .returned (.int .u64 (Cm x))/\w=w'):=by
 refine enter (args:=[.slice (some ⟨b,o,none⟩) n c]) Tryz.func120 rfl (n:=18) rfl λa F=>?_
 refine AP (Aj F rfl λa F=>AJ ?_);refine AP (Aj F rfl λa F=>AJ ?_);refine GM (J:=λa w'=>∃f,Fr a 18 f/\f 3= .int .u64 (Cm x)/\w=w') (AP (Aj F rfl λa F=>AJ ?_)) ?_
 ·refine wp_block (wp_loop_rounds _ (Gj (J:=λk a w'=>∃f,Fr a 18 f/\f 0= .slice (some ⟨b,o,none⟩) n c/\f 3= .int .u64 (Cm (x.drop k))/\f 4= .int .i64 (MJ k)/\k<=8/\w=w') ?_ ?_ 8 _ _ ⟨_,F,rfl,CV (Value.int .u64) (show(0:Int)=Cm (x.drop 8) by rw[List.drop_of_length_le (by omega)];rfl),rfl,Ie _,rfl⟩))
  ·intro a w' ⟨f,F,e0,e3,e4,_,hw⟩;refine wp_seq (wp_seq (cp (AA F rfl λa F=>AZ F rfl (Np (F.ev e4) rfl) λa F=>CY ?_)));refine wp_cond (t:=false) F.e (wp_exit ?_);exact⟨rfl,_,F,e3,hw⟩
  ·intro k a w' ⟨f,F,e0,e3,e4,hk,hw⟩;subst hw;have hb:decide ((0:Int)<=MJ (k+1))=true:=decide_eq_true (nI k);have hz:0<=x.getD k 0/\x.getD k 0<=255:=h.1 _ (by rw[List.getD,Io (by omega)];exact ku _);have cR:w.cell? ⟨b,o+k,none⟩=some (.int .u8 (x.getD k 0)):=h.2 k (by omega);have hv:=AEw (x:=x.drop (k+1)) (λz hz=>h.1 z (HK hz)) (7-k) (by rw[VK];omega);have hp:(256:Int)^(7-k)<=256^7:=by
    have h1:(256:Nat)^(7-k)<=256^7:=T0 (by decide) (by omega);have h2:=Int.ofNat_le.2 h1;rw[Int.natCast_pow,Int.natCast_pow] at h2;exact h2
   have e7:(256:Int)^7=72057594037927936:=by decide
   have hmb:Ak .or .u64 (Ak .shl .u64 (Cm (x.drop (k+1))) ((8:Nat):Int)) (IntKind.u64.wrap (x.getD k 0))=Cm (x.drop k):=by
    have h1:=Sl (acc:=Cm (x.drop (k+1))) (b:=x.getD k 0) hv.1 (by omega) hz.1 hz.2;rw[qG (i:=k) (by omega),Int.add_comm];exact h1
   refine wp_seq (wp_seq (cp (AA F rfl λa F=>AZ F rfl (Np (F.ev e4) rfl) λa F=>CY ?_)));refine wp_cond (t:=true) (F.ev (CV Value.bool hb)) (wp_skip ?_);refine wp_seq (wp_block (cp (AA F rfl λa F=>AZ F rfl (uV (k:=8) (F.ev e3) rfl) λa F=>AA F rfl λa F=>AA F rfl λa F=>AZ F rfl (mE (k:=k) (F.ev e0) (F.ev e4) (by omega)) λa F=>AZ F rfl (lH F.e cR) λa F=>AZ F rfl (AMg F.e) λa F=>AZ F rfl (AKZ F.e F.e) λa F=>AB F rfl λa F=>CY ?_)));refine cp (AA F rfl λa F=>AZ F rfl (TQ (i:=MJ (k+1)) (j:=1) (F.ev e4) rfl) λa F=>AB F rfl λa F=>CY ?_);exact⟨rfl,_,F,e0,CV (Value.int .u64) hmb,CV (Value.int .i64) (MQ (n:=k) (by omega)),by omega,rfl⟩
 ·intro a w' ⟨f,F,e3,hw⟩;refine AP (AA F rfl λa F=>AB F rfl λa F=>AJ ?_);refine Cn ⟨F.df,.int .u64 (Cm x),?_,rfl,hw⟩;have q:=(F.tm 2).trans e3;rw[YJ] at q;simp[results,Tryz.results120,go_sem];exact q
end
section
open Go Go.RowKit Go.Lib Ma
def K7:List IntKind:=List.replicate 256 .i8
def U5:List IntKind:=List.replicate 5 .u64
def D5(D:Nat->Nat):List Int:=[(D 0:Int),(D 1:Int),(D 2:Int),(D 3:Int),(D 4:Int)]
theorem AO.xf{w:World}{b o i:Nat}{ks:List IntKind}{xs:List Int}{k:IntKind}{v:Int}(h:AO true w (b,o) ks xs)(hk:ks[i]? = some k)(hv:IJ k v):AO true (w.setCell ⟨b,o+i,none⟩ (.int k v)) (b,o) ks (xs.set i v):=by
 have hi:i<xs.length:=by
  rw[h.1.1];exact(Oa.1 hk).1
 refine⟨⟨by rw[List.length_set];exact h.1.1,λj k' x hj hx=>?_⟩,λj k' x hj hx=>?_⟩
 ·rw[List.getElem?_set] at hx;by_cases ue:i=j
  ·subst ue;rw[if_pos rfl,if_pos hi,Ai] at hx;rw[hk,Ai] at hj;subst hj;subst hx;exact hv
  ·rw[if_neg ue] at hx;exact h.1.2 j k' x hj hx
 ·rw[List.getElem?_set] at hx;by_cases ue:i=j
  ·subst ue;rw[if_pos rfl,if_pos hi,Ai] at hx;rw[hk,Ai] at hj;subst hj;subst hx;obtain⟨u,hu⟩:∃u,xs[i]? = some u:=⟨_,Io hi⟩;exact(h.2 i k u hk hu).lR
  ·rw[if_neg ue] at hx;exact(h.2 j k' x hj hx).cU λe=>ue (by have:=e.2;omega)
theorem AO.cell{f:Bool}{w:World}{b i n:Nat}{k:IntKind}{xs:List Int}(h:AO f w (b,0) (List.replicate n k) xs)(hi:i<n):CP f w b (0+i) (.int k (xs.getD i 0)):=by
 have hl:xs.length=n:=by have:=h.1.1;rwa [Rp] at this
 exact h.2 i k _ (by rw[iF,if_pos hi]) (by simp[List.getD,hl,hi])
section
variable{ρ:Operand->Value}{d:Option Tmp}{x y:Operand}{ty t t':TypeId}{pos:String}{af:Array Edge}{w:World}{b o:Nat}
theorem zP{kk:IntKind}{k:Nat}(h:ρ x= .pointer (some ⟨b,o,none⟩))(hy:ρ y= .int kk k)(hk:k<5):(execOp ρ ⟨d,.indexAddr 189 x y,ty,pos,af,none⟩).run Tryz.prog w= .ok (.value (.pointer (some ⟨b,o+k,none⟩))) w:=by
 simp[execOp,go_sem,h,hy];intro h;omega
theorem JM{kk:IntKind}{k:Nat}(h:ρ x= .pointer (some ⟨b,o,none⟩))(hy:ρ y= .int kk k)(hk:k<256):(execOp ρ ⟨d,.indexAddr 141 x y,ty,pos,af,none⟩).run Tryz.prog w= .ok (.value (.pointer (some ⟨b,o+k,none⟩))) w:=by
 simp[execOp,go_sem,h,hy];intro h;omega
theorem RO{i:Int}(h:ρ x= .pointer (some ⟨b,o,none⟩))(hc:w.cell? ⟨b,o,none⟩=some (.int .i8 i)):(execOp ρ ⟨d,.load 140 x,ty,pos,af,none⟩).run Tryz.prog w= .ok (.value (.int .i8 i)) w:=by
 simp[execOp,go_sem,h,hc]
theorem AKm{i j:Int}(h:ρ x= .pointer (some ⟨b,o,none⟩))(hy:ρ y= .int .i8 j)(hc:CP true w b o (.int .i8 i)):(execOp ρ ⟨d,.store 140 x y,ty,pos,af,none⟩).run Tryz.prog w= .ok .skip (w.setCell ⟨b,o,none⟩ (.int .i8 j)):=by
 simp[execOp,go_sem,h,hy,hc.1,hc.2 rfl]
theorem sj{i:Int}(h:ρ x= .int .u64 i):(execOp ρ ⟨d,.convert 38 140 x,ty,pos,af,none⟩).run Tryz.prog w= .ok (.value (.int .i8 (IntKind.i8.wrap i))) w:=by
 simp[execOp,go_sem,h]
theorem ALD{i j:Int}(hx:ρ x= .int .i8 i)(hy:ρ y= .int .i8 j):(execOp ρ ⟨d,.binOp .sub t x y t',ty,pos,af,none⟩).run Tryz.prog w= .ok (.value (.int .i8 (IntKind.i8.wrap (i-j)))) w:=by
 simp[execOp,go_sem,hx,hy]
set_option maxRecDepth 100000 in
theorem Yh:(execOp ρ ⟨d,.alloc 141,ty,pos,af,none⟩).run Tryz.prog w= .ok (.value (.pointer (some ⟨w.heap.size,0,none⟩))) (w.alloc (.cells (Array.replicate 256 (.int .i8 0)) 141)):=by
 simp[execOp,go_sem];rfl
theorem ARI:(execOp ρ ⟨d,.alloc 189,ty,pos,af,none⟩).run Tryz.prog w= .ok (.value (.pointer (some ⟨w.heap.size,0,none⟩))) (w.alloc (.cells (Array.replicate 5 (.int .u64 0)) 189)):=by
 simp[execOp,go_sem];rfl
end
theorem rR{x:Nat}(h:x<2^64):IntKind.u64.wrap (x:Int)=(x:Int):=by
 rw[JZ rfl];exact uu (nI _) ((IA rfl).1 (AEc h)).2
theorem wi8{x:Int}(h: -128<=x)(h2:x<=127):IntKind.i8.wrap x=x:=H7 (k:=.i8) ⟨h,h2⟩
theorem AGo{x y:Int}:IntKind.i8.wrap (IntKind.i8.wrap x-IntKind.i8.wrap y)=IntKind.i8.wrap (x-y):=by
 have e:∀z:Int,IntKind.i8.wrap z=if z%256 >= 128 then z%256-256 else z%256:=λz=>by
  show(if(true&&decide (z%256 >= 128))=true then z%256-256 else z%256)=_;simp
 simp only[e];split<;>split<;>split<;>split<;>omega
structure NJ (GC:Nat->Nat->Option Value) (w:World) (B4 B6 B7 W n:Nat) (D:Nat->Nat) (pos c:Nat) (d:List Int) (f:Nat->Value) (w':World):Prop where
 f1:f 1= .int .u64 (W:Int)
 f4:f 4= .pointer (some ⟨B4,0,none⟩)
 f6:f 6= .pointer (some ⟨B6,0,none⟩)
 f7:f 7= .pointer (some ⟨B7,0,none⟩)
 f9:f 9= .int .u64 ((2^W:Nat):Int)
 f10:f 10= .int .u64 ((2:Int)^W-1)
 f11:f 11= .int .u64 (pos:Int)
 f12:f 12= .int .u64 (c:Int)
 m4:AO true w' (B4,0) K7 (List.replicate 256 0)
 m6:AO true w' (B6,0) K7 d
 m7:AO true w' (B7,0) U5 (D5 D)
 ni:YG W n d pos c
 pl:pos<=256+W
 fr:BD w w' (λ_ _=>False)
 gw:GW GC w'
theorem ABm(D:Nat->Nat):∀ {i:Nat},i<5->(D5 D).getD i 0=(D i:Int)
 |0,_=>rfl
 |1,_=>rfl
 |2,_=>rfl
 |3,_=>rfl
 |4,_=>rfl
 |i+5,h=>by omega
theorem AI6{P:Program}{Q:Exit->Act->World->Prop}{a:Act}{w:World}{id:Nat}{l:List Oper}(hm:P.follows .mixedOrders=true)(hB:Region.lexB .any l.toArray=true)(h:wpStill P l.toArray { w with drawn:=w.drawn+1 } (λa'=>Q .normal a' { w with drawn:=w.drawn+1 }) l a):(Code.region id l.toArray true).wp P Q a w:=wp_region_still_lit hm hB h
set_option maxRecDepth 100000 in
theorem AAm{GB:Nat}{GC:Nat->Nat->Option Value}{ad:Nat->Nat×Nat}(hG:GI GB GC ad){w:World}{B4 B6 B7 W n:Nat}{D:Nat->Nat}(ε:GW GC w)(δ:GB<=w.heap.size)(h6:w.heap.size<=B6)(DE:B6≠B4)(h67:B6≠B7)(hW:3<=W)(hW8:W<=8)(hn:n<2^253)(hnD:nR D=n)(hD4:D 4=0)(hD:∀i,D i<2^64){X:Code}(hX:X=PU 2 (Ab Tryz.f91)){pos c:Nat}{d:List Int}(hp:pos<256){a:Act}{w':World}{f:Nat->Value}(F:Fr a 102 f)(J:NJ GC w B4 B6 B7 W n D pos c d f w'):
  X.wp Tryz.prog (λe a' w'=>e= .normal/\∃f pos' c' d',Fr a' 102 f/\NJ GC w B4 B6 B7 W n D pos' c' d' f w'/\pos<pos') a w':=by
 subst hX;subst hnD;have hb:decide ((pos:Int)<256)=true:=decide_eq_true (by omega);have hc:=J.ni.cs;have hW2:2^W<=256:=EX (T0 (by decide) hW8) (by decide);have hW0:0<2^W:=P1 (by decide);have aAX:pos/64<4:=by omega
 have c7:CP true w' B7 (0+pos/64) (.int .u64 (D (pos/64):Int)):=by
  have:=J.m7.cell (i:=pos/64) (by omega);rwa [ABm D (by omega)] at this
 have c7':CP true w' B7 (0+(pos/64+1)) (.int .u64 (D (pos/64+1):Int)):=by
  have:=J.m7.cell (i:=pos/64+1) (by omega);rwa [ABm D (by omega)] at this
 refine wp_seq (wp_seq (cp (AA F rfl λa F=>AZ F rfl (Zx (F.ev J.f11) rfl) λa F=>CY ?_)));refine wp_cond (t:=true) (F.ev (CV Value.bool hb)) (wp_skip ?_);refine wp_block ?_;refine AP (AA F rfl λa F=>AZ F rfl (AE1 (i:=pos) (j:=64) (F.ev J.f11) rfl (by decide) (by omega)) λa F=>AB F rfl λa F=>AJ ?_);refine AP (AA F rfl λa F=>AZ F rfl (AOK (i:=pos) (j:=64) (F.ev J.f11) rfl (by decide)) λa F=>AB F rfl λa F=>AJ ?_);refine AP (Aj F rfl λa F=>AJ ?_);have ai3:IntKind.u64.wrap (64-(W:Int))=((64-W:Nat):Int):=by
  have:=rR (x:=64-W) (by omega);rw[<- this]
  congr 1
  omega
 refine GM (J:=λa w1=>∃buf f',Ak .and .u64 buf ((2:Int)^W-1)=((nR D/2^pos%2^W:Nat):Int)/\Fr a 102 f'/\(∀t,t ∈ [1,4,6,7,9,10,11,12]->f' t=f t)/\f' 15= .int .u64 buf/\BD w' w1 (λ_ _=>False)/\GW GC w1) (AP (AA F rfl λa F=>AA F rfl λa F=>AZ F rfl (rC (i:=64) (j:=(W:Int)) rfl (F.ev J.f1)) λa F=>AZ F rfl (Zx F.e (F.ev (CV (Value.int .u64) ai3))) λa F=>AJ ?_)) ?_
 ·by_cases bj:pos%64<64-W
  ·have cV:decide (((pos%64:Nat):Int)<((64-W:Nat):Int))=true:=decide_eq_true (C5.2 bj);refine wp_cond (t:=true) (F.ev (CV Value.bool cV)) ?_;refine cp (AA F rfl λa F=>AZ F rfl (zP (k:=pos/64) (F.ev J.f7) F.e (by omega)) λa F=>AZ F rfl (QA F.e c7.1) λa F=>AA F rfl λa F=>AZ F rfl (ABX (k:=pos%64) F.e F.e) λa F=>AB F rfl λa F=>CY ?_);refine⟨rfl,_,_,AOA hD4 hD hp (by omega),F,λt ht=>?_,rfl,BD.refl _ _,J.gw⟩;simp only[G9,List.not_mem_nil,or_false] at ht;rcases ht with rfl|rfl|rfl|rfl|rfl|rfl|rfl|rfl<;>rfl
  ·have cV:decide (((pos%64:Nat):Int)<((64-W:Nat):Int))=false:=decide_eq_false (λh=>bj (C5.1 h));refine wp_cond (t:=false) (F.ev (CV Value.bool cV)) ?_;have fd:=Xi w';refine AI6 mixed (by kernel_rfl) ?_;generalize ({ w' with drawn:=w'.drawn+1 }:World)=w1 at fd ⊢;have h1:=(fd.fk c7 λh=>h).1;have h2:=(fd.fk c7' λh=>h).1;have Ft:IntKind.u64.wrap (1+((pos/64:Nat):Int))=((pos/64+1:Nat):Int):=by
    have:=rR (x:=pos/64+1) (by omega);rw[<- this]
    congr 1
    omega
   have aik:IntKind.u64.wrap (64-((pos%64:Nat):Int))=((64-pos%64:Nat):Int):=by
    have:=rR (x:=64-pos%64) (by omega);rw[<- this]
    congr 1
    omega
   refine Dm F rfl λa F=>BZ F rfl rfl rfl (zP (k:=pos/64) (F.ev J.f7) F.e (by omega)) λa F=>BZ F rfl rfl rfl (QA F.e h1) λa F=>Dm F rfl λa F=>BZ F rfl rfl rfl (ABX (k:=pos%64) F.e F.e) λa F=>Dm F rfl λa F=>BZ F rfl rfl rfl (iU (i:=1) (j:=((pos/64:Nat):Int)) rfl F.e) λa F=>BZ F rfl rfl rfl (zP (k:=pos/64+1) (F.ev J.f7) (F.ev (CV (Value.int .u64) Ft)) (by omega)) λa F=>BZ F rfl rfl rfl (QA F.e h2) λa F=>Dm F rfl λa F=>BZ F rfl rfl rfl (rC (i:=64) (j:=((pos%64:Nat):Int)) rfl F.e) λa F=>BZ F rfl rfl rfl (uV (k:=64-pos%64) F.e (F.ev (CV (Value.int .u64) aik))) λa F=>BZ F rfl rfl rfl (AKZ F.e F.e) λa F=>BZ F rfl rfl rfl (by simp only[execOp,F.ev (t:=72) rfl];rfl) λa F=>wpStill_nil ?_
   refine⟨rfl,_,_,AMo hD4 hD hp (by omega),F,λt ht=>?_,rfl,fd,F4 hG J.gw fd (EX δ J.fr.1)⟩;simp only[G9,List.not_mem_nil,or_false] at ht;rcases ht with rfl|rfl|rfl|rfl|rfl|rfl|rfl|rfl<;>rfl
 ·rintro a w1 ⟨buf,f',afu,F,hk,e15,fr1,gw1⟩;have k1:f' 1= .int .u64 (W:Int):=(hk 1 (by decide)).trans J.f1;have k4:f' 4= .pointer (some ⟨B4,0,none⟩):=(hk 4 (by decide)).trans J.f4;have k6:f' 6= .pointer (some ⟨B6,0,none⟩):=(hk 6 (by decide)).trans J.f6;have k7:f' 7= .pointer (some ⟨B7,0,none⟩):=(hk 7 (by decide)).trans J.f7;have k9:f' 9= .int .u64 ((2^W:Nat):Int):=(hk 9 (by decide)).trans J.f9;have k10:f' 10= .int .u64 ((2:Int)^W-1):=(hk 10 (by decide)).trans J.f10;have k11:f' 11= .int .u64 (pos:Int):=(hk 11 (by decide)).trans J.f11;have k12:f' 12= .int .u64 (c:Int):=(hk 12 (by decide)).trans J.f12;have n4:=J.m4.an fr1 λ_ _ h=>h
  have n6:=J.m6.an fr1 λ_ _ h=>h
  have n7:=J.m7.an fr1 λ_ _ h=>h
  have fr2:=J.fr.trans fr1;have hni:=J.ni;have Cl:=AFQ hni (by omega) hn hp;have PJ:=AHN hni (by omega) hp;have Iv:=AFN hni hW hn hp;have Th:nR D/2^pos%2^W<2^W:=L4 _ hW0;clear hk J;generalize nR D/2^pos%2^W=bits at *
  have LN:IntKind.u64.wrap ((c:Int)+Ak .and .u64 buf ((2:Int)^W-1))=((c+bits:Nat):Int):=by
   rw[afu];have:=rR (x:=c+bits) (by omega);rw[<- this]
   congr 1
  have ada:Ak .and .u64 ((c+bits:Nat):Int) 1=((((c+bits)%2:Nat)):Int):=tN (x:=c+bits) (w:=1) (by omega) (by omega);refine AP (AA F rfl λa F=>AA F rfl λa F=>AA F rfl λa F=>AZ F rfl (AD4 (i:=buf) (j:=(2:Int)^W-1) (F.ev e15) (F.ev k10)) λa F=>AZ F rfl (iU (F.ev k12) F.e) λa F=>AB F rfl λa F=>AJ ?_);refine wp_seq (AP (AA F rfl λa F=>AZ F rfl (AD4 (i:=((c+bits:Nat):Int)) (j:=1) (F.ev (CV (Value.int .u64) LN)) rfl) λa F=>AZ F rfl (ACj (i:=((((c+bits)%2:Nat)):Int)) (j:=0) (F.ev (CV (Value.int .u64) ada)) rfl) λa F=>AJ ?_));by_cases hpe:(c+bits)%2=0
  ·have hb3:(((((c+bits)%2:Nat)):Int) == 0)=true:=by rw[hpe];rfl
   refine wp_cond (t:=true) (F.ev (CV Value.bool hb3)) ?_;have Ft:IntKind.u64.wrap ((pos:Int)+1)=((pos+1:Nat):Int):=by
    have:=rR (x:=pos+1) (by omega);rw[<- this]
    congr 1
   refine AP (AA F rfl λa F=>AZ F rfl (iU (i:=(pos:Int)) (j:=1) (F.ev k11) rfl) λa F=>AB F rfl λa F=>AJ (wp_exit ?_));exact⟨rfl,_,pos+1,c,d,F,⟨k1,k4,k6,k7,k9,k10,CV (Value.int .u64) Ft,k12,n4,n6,n7,Cl hpe,by omega,fr2,gw1⟩,by omega⟩
  ·have hpo:(c+bits)%2=1:=by omega
   have hb3:(((((c+bits)%2:Nat)):Int) == 0)=false:=by rw[hpo];rfl
   refine wp_cond (t:=false) (F.ev (CV Value.bool hb3)) (wp_skip ?_);have hhf:2^W/2=2^(W-1):=by rw[Q0 (w:=W) (by omega)];omega
   have hph:=Q0 (w:=W) (by omega);have aeK:IntKind.u64.wrap ((pos:Int)+(W:Int))=((pos+W:Nat):Int):=by
    have:=rR (x:=pos+W) (by omega);rw[<- this]
    congr 1
   have xF:∀ {a:Act} {f'':Nat->Value} {w2:World} {c':Nat} {v:Int},Fr a 102 f''->(∀t,t ∈ [1,4,6,7,9,10,11]->f'' t=f' t)->f'' 12= .int .u64 (c':Int)->AO true w2 (B6,0) K7 (d.set pos v)->BD w1 w2 (λb _=>b=B6)->YG W (nR D) (d.set pos v) (pos+W) c'->
     (Uk 33 (Ab Tryz.f91)).wp Tryz.prog (λe a' w'=>e= .normal/\∃f pos' c' d',Fr a' 102 f/\NJ GC w B4 B6 B7 W (nR D) D pos' c' d' f w'/\pos<pos') a w2:=by
    intro a f'' w2 c' v F nB rh m2 zd US;have fr3:BD w w2 (λ_ _=>False):=fr2.trans' zd λb i hb (h:b=B6)=>by omega
    refine cp (AA F rfl λa F=>AA F rfl λa F=>AZ F rfl (iU (i:=(pos:Int)) (j:=(W:Int)) (F.ev ((nB 11 (by decide)).trans k11)) (F.ev ((nB 1 (by decide)).trans k1))) λa F=>AB F rfl λa F=>CY ?_);exact⟨rfl,_,pos+W,c',_,F,⟨(nB 1 (by decide)).trans k1,(nB 4 (by decide)).trans k4,(nB 6 (by decide)).trans k6,(nB 7 (by decide)).trans k7,(nB 9 (by decide)).trans k9,(nB 10 (by decide)).trans k10,CV (Value.int .u64) aeK,rh,n4.an zd λ_ _ h=>DE h.symm,m2,n7.an zd λ_ _ h=>h67 h.symm,US,by omega,fr3,F4 hG ε fr3 δ⟩,by omega⟩
   have c6:CP true w1 B6 (0+pos) (.int .i8 (d.getD pos 0)):=n6.cell hp;refine wp_seq (AP (AA F rfl λa F=>AA F rfl λa F=>AZ F rfl (AE1 (i:=2^W) (j:=2) (F.ev k9) rfl (by decide) (by omega)) λa F=>AZ F rfl (Zx (i:=((c+bits:Nat):Int)) (j:=((2^W/2:Nat):Int)) (F.ev (CV (Value.int .u64) LN)) F.e) λa F=>AJ ?_));by_cases bj:c+bits<2^(W-1)
   ·have xj:decide (((c+bits:Nat):Int)<((2^W/2:Nat):Int))=true:=decide_eq_true (by rw[hhf];exact C5.2 bj);have HI:IntKind.i8.wrap ((c+bits:Nat):Int)=((c+bits:Nat):Int):=wi8 (by omega) (by omega);refine wp_cond (t:=true) (F.ev (CV Value.bool xj)) ?_;refine AP (Aj F rfl λa F=>AJ (cp (AA F rfl λa F=>AA F rfl λa F=>AZ F rfl (sj (i:=((c+bits:Nat):Int)) (F.ev (CV (Value.int .u64) LN))) λa F=>AZ F rfl (JM (k:=pos) (F.ev k6) (F.ev k11) hp) λa F=>FB F rfl rfl (AKm (j:=((c+bits:Nat):Int)) F.e (F.ev (CV (Value.int .i8) HI)) c6) λa F=>CY ?_)));refine wp_mono (xF (v:=((c+bits:Nat):Int)) (c':=0) F (λt ht=>?_) rfl (n6.xf (by rw[K7,iF,if_pos hp]) ⟨by show(-128:Int)<=_;omega,by show _<=(127:Int);omega⟩) ((BD.refl _ _).setCell (.inr rfl)) (PJ hpo bj)) λe a2 w2 ⟨he,h⟩=>(by subst he;exact⟨rfl,h⟩)
    simp only[G9,List.not_mem_nil,or_false] at ht;rcases ht with rfl|rfl|rfl|rfl|rfl|rfl|rfl<;>rfl
   ·have xj:decide (((c+bits:Nat):Int)<((2^W/2:Nat):Int))=false:=decide_eq_false (by rw[hhf];exact λh=>bj (C5.1 h));have HI:IntKind.i8.wrap (IntKind.i8.wrap ((c+bits:Nat):Int)-IntKind.i8.wrap ((2^W:Nat):Int))=((c+bits:Nat):Int)-((2^W:Nat):Int):=by
     rw[AGo];exact wi8 (by omega) (by omega)
    refine wp_cond (t:=false) (F.ev (CV Value.bool xj)) ?_;refine AP (Aj F rfl λa F=>AJ (cp (AA F rfl λa F=>AA F rfl λa F=>AZ F rfl (sj (i:=((c+bits:Nat):Int)) (F.ev (CV (Value.int .u64) LN))) λa F=>AA F rfl λa F=>AZ F rfl (sj (i:=((2^W:Nat):Int)) (F.ev k9)) λa F=>AZ F rfl (ALD F.e F.e) λa F=>AZ F rfl (JM (k:=pos) (F.ev k6) (F.ev k11) hp) λa F=>FB F rfl rfl (AKm (j:=((c+bits:Nat):Int)-((2^W:Nat):Int)) F.e (F.ev (CV (Value.int .i8) HI)) c6) λa F=>CY ?_)));refine wp_mono (xF (v:=((c+bits:Nat):Int)-((2^W:Nat):Int)) (c':=1) F (λt ht=>?_) rfl (n6.xf (by rw[K7,iF,if_pos hp]) ⟨by show(-128:Int)<=_;omega,by show _<=(127:Int);omega⟩) ((BD.refl _ _).setCell (.inr rfl)) (Iv hpo bj)) λe a2 w2 ⟨he,h⟩=>(by subst he;exact⟨rfl,h⟩)
    simp only[G9,List.not_mem_nil,or_false] at ht;rcases ht with rfl|rfl|rfl|rfl|rfl|rfl|rfl<;>rfl
end
section
open Go Go.RowKit Go.Lib Ma
theorem DD.sub{w:World}{b o i k:Nat}{xs:List Int}(h:DD w b o xs)(hik:i+k<=xs.length):DD w b (o+i) ((xs.drop i).take k):=by
 refine⟨λz hz=>h.1 z (HK (List.mem_of_mem_take hz)),λj hj=>?_⟩;rw[Qw,VK] at hj;have:=h.2 (i+j) (by omega);rw[show o+i+j=o+(i+j) by omega,this];have hjk:j<k:=by omega
 simp[List.getD,hjk,List.getElem?_drop]
theorem fD:∀(j k n:Nat),j<=k->(cC k n).drop j=cC (k-j) (n/256^j)
 |0,k,n,_=>by simp
 |j+1,0,n,h=>by omega
 |j+1,k+1,n,h=>by
  show(cC k (n/256)).drop j=_;rw[fD j k (n/256) (by omega),Nat.div_div_eq_div_mul,kw,qI]
  congr 1
  omega
theorem dO:∀(j k n:Nat),j<=k->(cC k n).take j=cC j n
 |0,k,n,_=>by simp[cC]
 |j+1,0,n,h=>by omega
 |j+1,k+1,n,h=>by
  show(((n%256:Nat):Int)::cC k (n/256)).take (j+1)=((n%256:Nat):Int)::cC j (n/256);rw[List.take_succ_cons,dO j k (n/256) (by omega)]
def vZ(n i:Nat):Nat:=if i<4 then n/2^(64*i)%2^64 else 0
theorem AB7(n i:Nat):vZ n i<2^64:=by
 unfold vZ;split
 ·exact L4 _ (by decide)
 ·decide
theorem AHf{n:Nat}(h:n<2^256):nR (vZ n)=n:=by
 unfold nR vZ;simp only[Nat.mul_zero,Nat.pow_zero,Nat.div_one,show(0:Nat)<4 from by decide,show(1:Nat)<4 from by decide,show(2:Nat)<4 from by decide,show(3:Nat)<4 from by decide,if_true,Nat.mul_one];have e2:n/2^(64*2)=n/2^64/2^64:=by rw[Nat.div_div_eq_div_mul]
 have e3:n/2^(64*3)=n/2^64/2^64/2^64:=by rw[Nat.div_div_eq_div_mul,Nat.div_div_eq_div_mul]
 rw[e2,e3];have h0:=Nat.mod_add_div n (2^64);have h1:=Nat.mod_add_div (n/2^64) (2^64);have h2:=Nat.mod_add_div (n/2^64/2^64) (2^64);have h3:n/2^64/2^64/2^64%2^64=n/2^64/2^64/2^64:=by
  refine Nat.mod_eq_of_lt ?_;rw[Nat.div_div_eq_div_mul,Nat.div_div_eq_div_mul];refine Nat.div_lt_of_lt_mul (qm h (Nat.le_of_eq (by decide)))
 rw[h3,h2,h1,h0]
theorem AEE{n i:Nat}(hi:i<4):Cm (((cC 32 n).drop (8*i)).take 8)=(vZ n i:Int):=by
 rw[fD _ _ _ (by omega),dO _ _ _ (by omega),ZE];unfold vZ;rw[if_pos hi];have e1:(256:Nat)^(8*i)=2^(64*i):=by
  rw[show(256:Nat)=2^8 from rfl, <- Nat.pow_mul]
  congr 1
  omega
 have e2:(256:Nat)^8=2^64:=by decide
 rw[e1,e2]
def dgL(n i:Nat):List Int:=(List.range 5).map λj=>if j<i then(vZ n j:Int) else 0
theorem AG9(n:Nat):∀ {i:Nat},i<4->(dgL n i).set i (vZ n i:Int)=dgL n (i+1)
 |0,_=>rfl
 |1,_=>rfl
 |2,_=>rfl
 |3,_=>rfl
 |i+4,h=>by omega
theorem ARk(n:Nat):dgL n 4=D5 (vZ n):=rfl
theorem ASN(n:Nat):dgL n 0=List.replicate 5 0:=rfl
theorem U1{P:Program}{X:Code}{J:Nat->Act->World->Prop}{Q:Exit->Act->World->Prop}(hs:∀k a w,J k a w->X.wp P (λe a' w'=>e= .normal/\∃k',k'<k/\J k' a' w') a w\/X.wp P (Exit.then (λ_ _=>False) Q) a w):∀(n k:Nat) (a:Act) (w:World),k<n->J k a w->Code.rounds P X Q n a w
 |0,k,a,w,h,_=>by omega
 | n+1,k,a,w,h,hj=>by
  rcases hs k a w hj with h1|h1
  ·refine wp_mono h1 λe a' w' ⟨he,k',hk,oE⟩=>?_
   subst he;exact U1 hs n k' a' w' (by omega) oE
  ·refine wp_mono h1 λe a' w' h2=>?_
   cases e<;>first|exact h2|exact h2.elim
section
variable{GB:Nat}{GC:Nat->Nat->Option Value}{ad:Nat->Nat×Nat}(hG:GI GB GC ad){w:World}(ε:GW GC w)(δ:GB<=w.heap.size)
include hG ε δ
theorem AHJ{bp op:Nat}{s:List Int}(mp:AO false w (bp,op) U4 s):Calls Tryz.prog 129 #[.pointer (some ⟨bp,op,none⟩)] w (PbP GC (sbF s) w):=by
 have h:=Ob hG true [.pointer (some ⟨bp,op,none⟩)] [s] [(bp,op)] w ε δ ⟨⟨rfl,mp,λh=>(by cases h)⟩,trivial⟩ ⟨λ_ h=>(by cases h),trivial⟩ (λ_=>AJS _) rfl;refine h.mono λe w' ⟨fb,vs,he,hq⟩=>?_
 simp only[FE.cf] at hq;have hr:=hq.ret
 match vs,hr with
 | [v],hr=>
 obtain⟨b,hb,hv⟩:=hr.1;subst hv;have hm:=hq.fresh 0 (List.replicate 32 .u8,λa=>BF 32 (Aw.raw Al 0 a)) b rfl hb;have e1:sbF s=BF 32 (Aw.raw Al 0 [s]):=by
  unfold sbF;rw[Bf (s:=CW) AJ6,AC4];rfl
 refine⟨⟨b.1,b.2,he,hq.fr b (MB hb),by rw[e1];exact hm⟩,hq.an.mono λb' o' _ hs=>?_,hq.gw⟩;obtain⟨p,eA,_⟩:=hs;cases eA
end
structure ATp (GC:Nat->Nat->Option Value) (W n:Nat) (w:World) (e:Ending) (w':World):Prop where
 ex:∃d,Nn d=n/\d.length=256/\(∀i,tJ W (d.getD i 0))/\ql GC K7 d w e w'
set_option maxRecDepth 100000 in
theorem xN{GB:Nat}{GC:Nat->Nat->Option Value}{ad:Nat->Nat×Nat}(hG:GI GB GC ad){w:World}{bs os W n:Nat}{s:List Int}{v:Int}(ε:GW GC w)(δ:GB<=w.heap.size)(ms:AO false w (bs,os) U4 s)(hs:Qu s v)(hn:((n:Nat):Int)=v%Vu)(hW:3<=W)(hW8:W<=8):
  Calls Tryz.prog 91 #[.pointer (some ⟨bs,os,none⟩),.int .u64 (W:Int)] w (ATp GC W n w):=by
 have hnL:n<2^253:=by
  have h1:((n:Nat):Int)<Vu:=by rw[hn];exact Int.emod_lt_of_pos _ (by decide +kernel)
  have h2:Vu<((2^253:Nat):Int):=by decide +kernel
  exact C5.1 (Int.lt_trans h1 h2)
 have hsb:=AH0 hs hn;refine enter (args:=[.pointer (some ⟨bs,os,none⟩),.int .u64 (W:Int)]) Tryz.func91 rfl (n:=102) rfl λa F=>?_
 refine AP (AZ F rfl Yh λa F=>AJ ?_);have M1:=Dj w 256 .i8 141 ⟨by decide,by decide⟩;have f1:BD w (w.alloc (.cells (Array.replicate 256 (.int .i8 0)) 141)) (λ_ _=>False):=BC _ _ _;have s1:=EC w (.cells (Array.replicate 256 (.int .i8 0)) 141);generalize w.alloc (.cells (Array.replicate 256 (.int .i8 0)) 141)=w1 at M1 f1 s1 ⊢;refine AP (AA F rfl λa F=>EG F rfl (BJ rfl F.e Tryz.call129) (AHJ hG (F4 hG ε f1 δ) (EX δ f1.1) (ms.an f1 λ_ _ h=>h)) λe w2 h2=>?_);obtain⟨B5,o5,he2,hB5,M2⟩:=h2.ret;rw[hsb] at M2;have f2:=f1.trans h2.an;have M1':=M1.an h2.an λ_ _ h=>h
 have s2:=h2.an.1;refine⟨_,he2,λa F=>AB F rfl λa F=>AJ ?_⟩;have H2:DD w2 B5 o5 (cC 32 n):=⟨M2.jz,λi hi=>(M2.at8 (by rw[MO] at hi;exact hi)).1.1⟩;have avx:(cC 32 n).getD 31 0<=127:=by
  rw[Vk (by decide)];have:n/256^31<32:=Nat.div_lt_of_lt_mul (qm hnL (by decide));have h3:n/256^31%256<=n/256^31:=Nat.mod_le _ _;generalize n/256^31=q at *
  omega
 have yy:decide ((127:Int)<(cC 32 n).getD 31 0)=false:=decide_eq_false (by omega);have c31:=H2.2 31 (by rw[MO];decide);refine wp_seq (wp_seq (cp (AA F rfl λa F=>AZ F rfl (mE (k:=31) F.e rfl (by decide)) λa F=>AZ F rfl (lH F.e c31) λa F=>AZ F rfl (ig (k:=.u8) F.e rfl) λa F=>CY ?_)));refine wp_cond (t:=false) (F.ev (CV Value.bool yy)) (wp_skip ?_);have hd2:decide ((W:Int)<2)=false:=decide_eq_false (by omega);have hd8:decide ((8:Int)<(W:Int))=false:=decide_eq_false (by omega);refine wp_seq (wp_seq (cp (AA F rfl λa F=>AZ F rfl (Zx F.e rfl) λa F=>CY ?_)));refine wp_cond (t:=false) (F.ev (CV Value.bool hd2)) ?_;refine AP (AA F rfl λa F=>AZ F rfl (ig (k:=.u64) F.e rfl) λa F=>AJ ?_);refine wp_cond (t:=false) (F.ev (CV Value.bool hd8)) (wp_skip ?_);refine AP (AZ F rfl Yh λa F=>AJ ?_);have M3:=Dj w2 256 .i8 141 ⟨by decide,by decide⟩;have f3:BD w2 (w2.alloc (.cells (Array.replicate 256 (.int .i8 0)) 141)) (λ_ _=>False):=BC _ _ _;have s3:=EC w2 (.cells (Array.replicate 256 (.int .i8 0)) 141);generalize w2.alloc (.cells (Array.replicate 256 (.int .i8 0)) 141)=w3 at M3 f3 s3 ⊢;refine AP (AZ F rfl ARI λa F=>AJ ?_);have M4:=Dj w3 5 .u64 189 ⟨by decide,by decide⟩;have f4:BD w3 (w3.alloc (.cells (Array.replicate 5 (.int .u64 0)) 189)) (λ_ _=>False):=BC _ _ _;generalize w3.alloc (.cells (Array.replicate 5 (.int .u64 0)) 189)=w4 at M4 f4 ⊢;have g4:BD w w4 (λ_ _=>False):=(f2.trans f3).trans f4;have m14:AO true w4 (w.heap.size,0) K7 (List.replicate 256 0):=(M1'.an f3 λ_ _ h=>h).an f4 λ_ _ h=>h
 have m34:AO true w4 (w2.heap.size,0) K7 (List.replicate 256 0):=M3.an f4 λ_ _ h=>h
 have H4:DD w4 B5 o5 (cC 32 n):=H2.cr (f3.trans f4);have aCT:B5<w2.heap.size:=H2.lt (by rw[MO];decide);obtain⟨f0,F0,k1,k4,k5,k6,k7⟩:∃f',Fr a 102 f'/\f' 1= .int .u64 (W:Int)/\f' 4= .pointer (some ⟨w.heap.size,0,none⟩)/\f' 5= .slice (some ⟨B5,o5,none⟩) 32 32/\f' 6= .pointer (some ⟨w2.heap.size,0,none⟩)/\f' 7= .pointer (some ⟨w3.heap.size,0,none⟩):=⟨_,F,rfl,rfl,rfl,rfl,rfl⟩;clear F M1 M1' M3 yy hd2 hd8;refine GM (J:=λa w'=>∃f,Fr a 102 f/\f 1= .int .u64 (W:Int)/\f 4= .pointer (some ⟨w.heap.size,0,none⟩)/\f 6= .pointer (some ⟨w2.heap.size,0,none⟩)/\f 7= .pointer (some ⟨w3.heap.size,0,none⟩)/\AO true w' (w3.heap.size,0) U5 (dgL n 4)/\BD w4 w' (λb _=>b=w3.heap.size)) (AP (Aj F0 rfl λa F=>AJ ?_)) ?_
 ·refine wp_block (wp_loop_rounds _ (Gj (J:=λk a w'=>∃f,Fr a 102 f/\f 1= .int .u64 (W:Int)/\f 4= .pointer (some ⟨w.heap.size,0,none⟩)/\f 5= .slice (some ⟨B5,o5,none⟩) 32 32/\f 6= .pointer (some ⟨w2.heap.size,0,none⟩)/\f 7= .pointer (some ⟨w3.heap.size,0,none⟩)/\f 8= .int .i64 ((4-k:Nat):Int)/\AO true w' (w3.heap.size,0) U5 (dgL n (4-k))/\BD w4 w' (λb _=>b=w3.heap.size)/\k<=4) ?_ ?_ 4 _ _ ⟨_,F,k1,k4,k5,k6,k7,rfl,(by rw[HF,ASN];exact M4),BD.refl _ _,Ie _⟩))
  ·intro a w' ⟨f,F,k1,k4,k5,k6,k7,k8,m,fr,_⟩;refine wp_seq (wp_seq (cp (AA F rfl λa F=>AZ F rfl (Qc (F.ev k8) rfl) λa F=>CY ?_)));refine wp_cond (t:=false) F.e (wp_exit ?_);exact⟨rfl,_,F,k1,k4,k6,k7,m,fr⟩
  ·intro k a w' ⟨f,F,k1,k4,k5,k6,k7,k8,m,fr,hk⟩;have hb:decide (((4-(k+1):Nat):Int)<4)=true:=decide_eq_true (by omega);refine wp_seq (wp_seq (cp (AA F rfl λa F=>AZ F rfl (Qc (F.ev k8) rfl) λa F=>CY ?_)));refine wp_cond (t:=true) (F.ev (CV Value.bool hb)) (wp_skip ?_);have Wr:IntKind.i64.wrap (((4-(k+1):Nat):Int)+1)=((4-k:Nat):Int):=by
    rw[YB (by omega) (by omega)];omega
   have adJ:4-k=4-(k+1)+1:=by omega
   generalize hi:4-(k+1)=i at *
   have hi4:i<4:=by omega
   have hmul:IntKind.i64.wrap ((i:Int)*8)=((8*i:Nat):Int):=by
    rw[YB (by omega) (by omega)];omega
   have Hw:DD w' B5 o5 (cC 32 n):=H4.LR fr (by omega);have Hs:=Hw.sub (i:=8*i) (k:=8) (by rw[MO];omega);have acI:=AEE (n:=n) hi4;have hc:=m.cell (k:=.u64) (n:=5) (i:=i) (by omega);refine wp_seq (wp_block (cp (AA F rfl λa F=>AA F rfl λa F=>AA F rfl λa F=>AZ F rfl (AMP (F.ev k8) rfl) λa F=>AZ F rfl (AFM (k:=8*i) (F.ev k5) (F.ev (CV (Value.int .i64) hmul)) (by omega) (Ie _)) λa F=>EG F rfl (BJ rfl F.e Tryz.call120) (O7 Hs (by rw[Qw,VK,MO];omega) (by omega)) λe w5 h5=>⟨_,h5.1,λa F=>?_⟩)));obtain⟨-,rfl⟩:=h5;rw[acI] at F;refine AZ F rfl (zP (k:=i) (F.ev k7) (F.ev k8) (by omega)) λa F=>FB F rfl rfl (AKu F.e F.e hc) λa F=>CY ?_
   have m2:=m.xf (i:=i) (k:=.u64) (v:=(vZ n i:Int)) (by rw[U5,iF,if_pos (by omega)]) (AEc (AB7 n i));rw[AG9 n hi4, <- adJ] at m2;have fr2:=fr.setCell (b:=w3.heap.size) (o:=0+i) (v:=.int .u64 (vZ n i:Int)) (.inr rfl);refine cp (AA F rfl λa F=>AZ F rfl (XK (i:=(i:Int)) (j:=1) (F.ev k8) rfl) λa F=>AB F rfl λa F=>CY ?_);exact⟨rfl,_,F,k1,k4,k5,k6,k7,CV (Value.int .i64) Wr,m2,fr2,by omega⟩
 clear F0 k1 k4 k5 k6 k7 M4;rintro a w5 ⟨f,F,k1,k4,k6,k7,M5,f45⟩;rw[ARk] at M5;have g5:BD w w5 (λ_ _=>False):=g4.trans' f45 λb i hb (h:b=w3.heap.size)=>by have:=(f2.trans f3).1;omega
 have m15:AO true w5 (w.heap.size,0) K7 (List.replicate 256 0):=m14.an f45 λ_ _ h=>by have:=f3.1;omega
 have m35:AO true w5 (w2.heap.size,0) K7 (List.replicate 256 0):=m34.an f45 λ_ _ h=>by have:=s3;omega
 have h1W:Ak .shl .u64 1 (W:Int)=((2^W:Nat):Int):=by
  have h:=ACE (x:=1) (b:=W) (by omega);have h2:1*2^W%2^64=2^W:=by
   rw[Nat.one_mul];exact Nat.mod_eq_of_lt (Nat.pow_lt_pow_right (by decide) (by omega))
  rw[h2] at h;exact h
 have h1M:IntKind.u64.wrap (((2^W:Nat):Int)-1)=(2:Int)^W-1:=by
  have h0:0<2^W:=P1 (by decide);have h2:2^W<2^64:=Nat.pow_lt_pow_right (by decide) (by omega);have h:=rR (x:=2^W-1) (by omega);have e1:((2^W-1:Nat):Int)=((2^W:Nat):Int)-1:=by omega
  have e2:((2^W:Nat):Int)=(2:Int)^W:=by rw[Int.natCast_pow];rfl
  rw[e1] at h;rw[h,e2]
 refine AP (AA F rfl λa F=>AZ F rfl (uV (i:=1) (k:=W) rfl (F.ev k1)) λa F=>AB F rfl λa F=>AJ ?_);refine AP (AA F rfl λa F=>AZ F rfl (rC (i:=((2^W:Nat):Int)) (j:=1) (F.ev (CV (Value.int .u64) h1W)) rfl) λa F=>AB F rfl λa F=>AJ ?_);refine AP (Aj F rfl λa F=>AJ ?_);refine AP (Aj F rfl λa F=>AJ ?_);have hDn:nR (vZ n)=n:=AHf (qm hnL (by decide));obtain⟨f5,F5,hJ⟩:∃f5,Fr a 102 f5/\NJ GC w w.heap.size w2.heap.size w3.heap.size W n (vZ n) 0 0 (List.replicate 256 0) f5 w5:=⟨_,F,k1,k4,k6,k7,CV (Value.int .u64) h1W,CV (Value.int .u64) h1M,rfl,rfl,m15,m35,M5,ACm W n,by omega,g5,F4 hG ε g5 δ⟩;refine GM (J:=λa w'=>∃f d,Fr a 102 f/\f 4= .pointer (some ⟨w.heap.size,0,none⟩)/\f 6= .pointer (some ⟨w2.heap.size,0,none⟩)/\AO true w' (w.heap.size,0) K7 (List.replicate 256 0)/\AO true w' (w2.heap.size,0) K7 d/\Nn d=n/\d.length=256/\(∀i,tJ W (d.getD i 0))/\BD w w' (λ_ _=>False)) ?_ ?_
 ·refine wp_block (wp_loop_rounds _ (U1 (J:=λk a w'=>∃f pos c d,Fr a 102 f/\NJ GC w w.heap.size w2.heap.size w3.heap.size W n (vZ n) pos c d f w'/\pos+k=256+W) ?_ _ _ _ _ (Nat.lt_succ_self _) ⟨f5,0,0,_,F5,hJ,KN _⟩));rintro k a w' ⟨f,pos,c,d,F,J,hk⟩;by_cases hp:pos<256
  ·refine .inl (wp_mono (AAm hG ε δ (by omega) (by omega) (by omega) hW hW8 hnL hDn rfl (AB7 n) rfl hp F J) ?_);rintro e a' w'' ⟨he,f',pos',c',d',F',J',bj⟩;exact⟨he,256+W-pos',by have:=J'.pl;omega,f',pos',c',d',F',J',by have:=J'.pl;omega⟩
  ·have hb:decide ((pos:Int)<256)=false:=decide_eq_false (by omega);refine .inr ?_;refine wp_seq (wp_seq (cp (AA F rfl λa F=>AZ F rfl (Zx (F.ev J.f11) rfl) λa F=>CY ?_)));refine wp_cond (t:=false) (F.ev (CV Value.bool hb)) (wp_exit ?_);exact⟨rfl,_,d,F,J.f4,J.f6,J.m4,J.m6,AHd J.ni hnL (by omega),J.ni.len,J.ni.Cd,J.fr⟩
 ·rintro a w6 ⟨f,d,F,e4,e6,m4,m6,ad9,hlen,afj,fr6⟩;have hl:(AL K7 d).length=256:=Cg m6.1.1;refine AP (AZ F rfl (OL (cs:=AL K7 d) (λw=>by simp[go_sem]) (λw=>by rw[hl];simp[go_sem]) (F.ev e6) m6.cJ) λa F=>FB F rfl rfl (Kb (cs:=AL K7 d) (λw=>by rw[hl];simp[go_sem]) (F.ev e4) F.e D7 (λj hj=>m4.ex j (by rw[hl] at hj;exact hj))) λa F=>AJ ?_);have M9:=Iw m6.1 m4.ex;have f9:BD w (w6.setCells w.heap.size 0 (AL K7 d)) (λ_ _=>False):=BG _ _ fr6 λ_ _=>.inl (Ie _)
  refine Cn ⟨F.df,.agg (AL K7 d).toArray,?_,d,ad9,hlen,afj,rfl,m6.1,f9,F4 hG ε f9 δ⟩;exact TH rfl ((F.tm 4).trans e4) (V6 (cs:=AL K7 d) (λw=>by simp[go_sem]) (λw=>by rw[hl];simp[go_sem]) M9.cJ)
end
end Go.Proofs.YtkbfdaoohhmgoaaGreatDoor
