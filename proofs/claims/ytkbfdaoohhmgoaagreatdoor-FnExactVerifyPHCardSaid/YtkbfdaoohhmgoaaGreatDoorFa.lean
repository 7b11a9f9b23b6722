/- Small functions as numbers: a product by 19, a product of two words, a choice. -/
import Derived.Test.YtkbfdaoohhmgoaaGreatDoorCa
import Derived.Test.YtkbfdaoohhmgoaaGreatDoorDz
namespace Go.Proofs.YtkbfdaoohhmgoaaGreatDoor
section
open Go
theorem Tv{T:Tb}{f o:Nat}{s:Az}(h:lk f T=some (.one s))(args:List (List Int)):NR.den T (.fn f true o) args=(s.pr o).den args:=by
 simp only[NR.den,h];rfl
theorem XU{z:Int}(h:0<=z)(h2:z<18446744073709551616):IJ .u64 z:=(IA (k:=.u64) rfl).2 ⟨h,h2⟩
theorem uE{z:Int}(h:IJ .u64 z):0<=z/\z<18446744073709551616:=(IA (k:=.u64) rfl).1 h
theorem AKA(z:Int):IntKind.u64.wrap z=z%18446744073709551616:=JZ (k:=.u64) rfl z
theorem AAY(x:Int):(Qs.raw Qq 0 [[x]])= [Ak .add .u64 x (Ak .shl .u64 (Ak .add .u64 x (Ak .shl .u64 x 3)) 1)]:=by kernel_rfl
theorem oL{T:Tb}{f:Nat}(h:lk f T=some (.one Dt)):tC T f (.AN 19):=λx _=>by
 rw[Tv h];show[d1 (Qs.raw Qq 0 [[x]])]=_;rw[AAY,W9];have e3:min (3:Int).toNat IntKind.u64.bits=3:=rfl;have e1:min (1:Int).toNat IntKind.u64.bits=1:=rfl;simp only[Ak,e3,e1,AKA]
 congr 1
 omega
def hiW(x y:Int):Int:=
 let x0:=Ak .and .u64 x 4294967295
 let x1:=Ak .shr .u64 x 32
 let y0:=Ak .and .u64 y 4294967295
 let y1:=Ak .shr .u64 y 32
 let w0:=Ak .mul .u64 x0 y0
 let t:=Ak .add .u64 (Ak .mul .u64 x1 y0) (Ak .shr .u64 w0 32)
 let w1:=Ak .add .u64 (Ak .and .u64 t 4294967295) (Ak .mul .u64 x0 y1)
 Ak .add .u64 (Ak .add .u64 (Ak .mul .u64 x1 y1) (Ak .shr .u64 t 32)) (Ak .shr .u64 w1 32)
theorem eX(x y:Int):Mf.raw MV 0 [[x],[y]]= [hiW x y]/\Mf.raw MV 1 [[x],[y]]= [IntKind.u64.wrap (x*y)]:=⟨by kernel_rfl,by kernel_rfl⟩
theorem AFZ{x:Int}(h:0<=x)(h2:x<18446744073709551616):Ak .and .u64 x 4294967295=x%4294967296:=by
 have:=VY (k:=.u64) rfl (XU h h2) (m:=32) (by decide);exact this
theorem AP9{x:Int}:Ak .shr .u64 x 32=x/4294967296:=by
 show x.fdiv (2^(min (32:Int).toNat 64))=_;rw[Int.fdiv_eq_ediv_of_nonneg _ (by decide)];rfl
theorem dN{x y:Int}(h:0<=x+y)(h2:x+y<18446744073709551616):Ak .add .u64 x y=x+y:=H7 (XU h h2)
theorem yg{x y:Int}(h:0<=x*y)(h2:x*y<18446744073709551616):Ak .mul .u64 x y=x*y:=H7 (XU h h2)
theorem Wn{a b:Int}(h1:0<=a)(h2:a<4294967296)(h3:0<=b)(h4:b<4294967296):0<=a*b/\a*b<=18446744065119617025:=by
 refine⟨Int.mul_nonneg h1 h3,?_⟩;have:a*b<=4294967295*4294967295:=Int.mul_le_mul (by omega) (by omega) h3 (by omega);omega
theorem ANa{x y:Int}(hx:IJ .u64 x)(hy:IJ .u64 y):hiW x y=x*y/18446744073709551616:=by
 have eg:=uE hx;have Mn:=uE hy;have ax:=Int.mul_ediv_add_emod x 4294967296;have ay:=Int.mul_ediv_add_emod y 4294967296;have bx0:0<=x%4294967296:=Int.emod_nonneg _ (by omega);have bx1:x%4294967296<4294967296:=Int.emod_lt_of_pos _ (by omega);have by0:0<=y%4294967296:=Int.emod_nonneg _ (by omega);have by1:y%4294967296<4294967296:=Int.emod_lt_of_pos _ (by omega);have cx0:0<=x/4294967296:=by omega
 have cx1:x/4294967296<4294967296:=by omega
 have cy0:0<=y/4294967296:=by omega
 have cy1:y/4294967296<4294967296:=by omega
 unfold hiW;simp only[AFZ eg.1 eg.2,AFZ Mn.1 Mn.2,AP9];generalize x%4294967296=x0 at *
 generalize x/4294967296=x1 at *
 generalize y%4294967296=y0 at *
 generalize y/4294967296=y1 at *
 have p00:=Wn bx0 bx1 by0 by1;have p10:=Wn cx0 cx1 by0 by1;have p01:=Wn bx0 bx1 cy0 cy1;have oe:=Wn cx0 cx1 cy0 cy1;rw[yg p00.1 (by omega),yg p10.1 (by omega),yg p01.1 (by omega),yg oe.1 (by omega)];have Rr:x*y=18446744073709551616*(x1*y1)+4294967296*(x1*y0+x0*y1)+x0*y0:=by
  rw[<- ax, <- ay,Bx,wK,wK,YL,Int.mul_left_comm x1, <- YL 4294967296 4294967296,YL 4294967296 x1 y0,Int.mul_left_comm x0];omega
 rw[Rr];generalize x0*y0=a at *
 generalize x1*y0=b at *
 generalize x0*y1=c at *
 generalize x1*y1=d at *
 rw[dN (x:=b) (by omega) (by omega)];rw[AFZ (by omega) (by omega)];rw[dN (x:=(b+a/4294967296)%4294967296) (by omega) (by omega)];rw[dN (x:=d) (by omega) (by omega)];rw[dN (by omega) (by omega)];omega
theorem oQ{T:Tb}{f:Nat}(h:lk f T=some (.one EK)):tC T f .sE:=λx y hx hy=>by
 rw[Tv h,Tv h];refine⟨?_,?_⟩
 ·show[d1 (Mf.raw MV 0 [[x],[y]])]=_;rw[(eX x y).1,W9,ANa hx hy]
 ·show[d1 (Mf.raw MV 1 [[x],[y]])]=_;rw[(eX x y).2,W9,AKA]
end
section
open Go
def Mfe:List (Nat×FK):=[(139,.AN 19),(122,.sE)]
theorem iP{T:Tb}(h1:lk 139 T=some (.one Dt))(h2:lk 122 T=some (.one EK)):aP T Mfe:=λf κ h=>by
 simp only[Mfe,lk] at h;cases hb:Nat.beq 139 f with
 |true=>
  rw[hb,cond_true,Ai] at h;have:=Ca hb;subst this;subst h;exact oL h1
 | false=>
  rw[hb,cond_false] at h;cases cV:Nat.beq 122 f with
  |true=>
   rw[cV,cond_true,Ai] at h;have:=Ca cV;subst this;subst h;exact oQ h2
  |false=>rw[cV] at h;cases h
def Mf1:List (Nat×FK):=[(139,.AN 19)]
theorem uH{T:Tb}(h1:lk 139 T=some (.one Dt)):aP T Mf1:=λf κ h=>by
 simp only[Mf1,lk] at h;cases hb:Nat.beq 139 f with
 |true=>
  rw[hb,cond_true,Ai] at h;have:=Ca hb;subst this;subst h;exact oL h1
 |false=>rw[hb] at h;cases h
theorem ARN:XP 0 (Ub [] (Gk 1 0) (Gk 2 0)) (XT IQ IX Mfe [[],bF,bF])=true:=by kernel_rfl
theorem AT5:XP 0 (Ub [] (Gk 1 0) (Gk 1 0)) (XT JK JO Mfe [[],bF])=true:=by kernel_rfl
theorem ARo:XP 0 (DZ (Gk 1 0) (Gk 2 0)) (XT Kl Kt Mf1 [[],bF,bF])=true:=by kernel_rfl
theorem AQI:XP 0 (DZ (Gk 1 0) (Cq (-1) (Gk 2 0))) (XT Dq Du Mf1 [[],bF,bF])=true:=by kernel_rfl
end
end Go.Proofs.YtkbfdaoohhmgoaaGreatDoor
