/- Small functions as numbers: a product by 19, a product of two words, a choice. -/
import Derived.Test.YtloibefkijfdlaaGreatDoorCa
import Derived.Test.YtloibefkijfdlaaGreatDoorDz
namespace Go.Proofs.YtloibefkijfdlaaGreatDoor
section
open Go
theorem Sj{T:Tb}{f o:Nat}{s:BH}(h:lk f T=some (.one s))(args:List (List Int)):Na.den T (.fn f true o) args=(s.pr o).den args:=by
 simp only[Na.den,h];rfl
theorem UQ{z:Int}(h:0<=z)(h2:z<18446744073709551616):IU .u64 z:=(I1 (k:=.u64) rfl).2 ⟨h,h2⟩
theorem p9{z:Int}(h:IU .u64 z):0<=z/\z<18446744073709551616:=(I1 (k:=.u64) rfl).1 h
theorem AHy(z:Int):IntKind.u64.wrap z=z%18446744073709551616:=KC (k:=.u64) rfl z
theorem yf(x:Int):(Qa.raw QX 0 [[x]])= [Ah .add .u64 x (Ah .shl .u64 (Ah .add .u64 x (Ah .shl .u64 x 3)) 1)]:=by kernel_rfl
theorem ji{T:Tb}{f:Nat}(h:lk f T=some (.one EG)):nZ T f (.Cl 19):=λx _=>by
 rw[Sj h];show[d1 (Qa.raw QX 0 [[x]])]=_;rw[yf,WZ];have e3:min (3:Int).toNat IntKind.u64.bits=3:=rfl;have e1:min (1:Int).toNat IntKind.u64.bits=1:=rfl;simp only[Ah,e3,e1,AHy]
 congr 1
 omega
def hiW(x y:Int):Int:=
 let x0:=Ah .and .u64 x 4294967295
 let x1:=Ah .shr .u64 x 32
 let y0:=Ah .and .u64 y 4294967295
 let y1:=Ah .shr .u64 y 32
 let w0:=Ah .mul .u64 x0 y0
 let t:=Ah .add .u64 (Ah .mul .u64 x1 y0) (Ah .shr .u64 w0 32)
 let w1:=Ah .add .u64 (Ah .and .u64 t 4294967295) (Ah .mul .u64 x0 y1)
 Ah .add .u64 (Ah .add .u64 (Ah .mul .u64 x1 y1) (Ah .shr .u64 t 32)) (Ah .shr .u64 w1 32)
theorem aC(x y:Int):NR.raw NM 0 [[x],[y]]= [hiW x y]/\NR.raw NM 1 [[x],[y]]= [IntKind.u64.wrap (x*y)]:=⟨by kernel_rfl,by kernel_rfl⟩
theorem zy{x:Int}(h:0<=x)(h2:x<18446744073709551616):Ah .and .u64 x 4294967295=x%4294967296:=by
 have:=Vw (k:=.u64) rfl (UQ h h2) (m:=32) (by decide);exact this
theorem AP3{x:Int}:Ah .shr .u64 x 32=x/4294967296:=by
 show x.fdiv (2^(min (32:Int).toNat 64))=_;rw[Int.fdiv_eq_ediv_of_nonneg _ (by decide)];rfl
theorem kG{x y:Int}(h:0<=x+y)(h2:x+y<18446744073709551616):Ah .add .u64 x y=x+y:=JZ (UQ h h2)
theorem ul{x y:Int}(h:0<=x*y)(h2:x*y<18446744073709551616):Ah .mul .u64 x y=x*y:=JZ (UQ h h2)
theorem Vf{a b:Int}(h1:0<=a)(h2:a<4294967296)(h3:0<=b)(h4:b<4294967296):0<=a*b/\a*b<=18446744065119617025:=by
 refine⟨Int.mul_nonneg h1 h3,?_⟩;have:a*b<=4294967295*4294967295:=Int.mul_le_mul (by omega) (by omega) h3 (by omega);omega
theorem AKJ{x y:Int}(hx:IU .u64 x)(hy:IU .u64 y):hiW x y=x*y/18446744073709551616:=by
 have eV:=p9 hx;have hy':=p9 hy;have ax:=Int.mul_ediv_add_emod x 4294967296;have ay:=Int.mul_ediv_add_emod y 4294967296;have bx0:0<=x%4294967296:=Int.emod_nonneg _ (by omega);have bx1:x%4294967296<4294967296:=Int.emod_lt_of_pos _ (by omega);have by0:0<=y%4294967296:=Int.emod_nonneg _ (by omega);have S6:y%4294967296<4294967296:=Int.emod_lt_of_pos _ (by omega);have cx0:0<=x/4294967296:=by omega
 have cx1:x/4294967296<4294967296:=by omega
 have cy0:0<=y/4294967296:=by omega
 have cy1:y/4294967296<4294967296:=by omega
 unfold hiW;simp only[zy eV.1 eV.2,zy hy'.1 hy'.2,AP3];generalize x%4294967296=x0 at *
 generalize x/4294967296=x1 at *
 generalize y%4294967296=y0 at *
 generalize y/4294967296=y1 at *
 have p00:=Vf bx0 bx1 by0 S6;have p10:=Vf cx0 cx1 by0 S6;have p01:=Vf bx0 bx1 cy0 cy1;have lA:=Vf cx0 cx1 cy0 cy1;rw[ul p00.1 (by omega),ul p10.1 (by omega),ul p01.1 (by omega),ul lA.1 (by omega)];have Wb:x*y=18446744073709551616*(x1*y1)+4294967296*(x1*y0+x0*y1)+x0*y0:=by
  rw[<- ax, <- ay,HW,qR,qR,Xt,Int.mul_left_comm x1, <- Xt 4294967296 4294967296,Xt 4294967296 x1 y0,Int.mul_left_comm x0];omega
 rw[Wb];generalize x0*y0=a at *
 generalize x1*y0=b at *
 generalize x0*y1=c at *
 generalize x1*y1=d at *
 rw[kG (x:=b) (by omega) (by omega)];rw[zy (by omega) (by omega)];rw[kG (x:=(b+a/4294967296)%4294967296) (by omega) (by omega)];rw[kG (x:=d) (by omega) (by omega)];rw[kG (by omega) (by omega)];omega
theorem jo{T:Tb}{f:Nat}(h:lk f T=some (.one Ef)):nZ T f .tA:=λx y hx hy=>by
 rw[Sj h,Sj h];refine⟨?_,?_⟩
 ·show[d1 (NR.raw NM 0 [[x],[y]])]=_;rw[(aC x y).1,WZ,AKJ hx hy]
 ·show[d1 (NR.raw NM 1 [[x],[y]])]=_;rw[(aC x y).2,WZ,AHy]
end
section
open Go
def Mfe:List (Nat×FK):=[(197,.Cl 19),(172,.tA)]
theorem dF{T:Tb}(h1:lk 197 T=some (.one EG))(h2:lk 172 T=some (.one Ef)):Wh T Mfe:=λf κ h=>by
 simp only[Mfe,lk] at h;cases hb:Nat.beq 197 f with
 |true=>
  rw[hb,cond_true,Ai] at h;have:=CR hb;subst this;subst h;exact ji h1
 | false=>
  rw[hb,cond_false] at h;cases fx:Nat.beq 172 f with
  |true=>
   rw[fx,cond_true,Ai] at h;have:=CR fx;subst this;subst h;exact jo h2
  |false=>rw[fx] at h;cases h
def Mf1:List (Nat×FK):=[(197,.Cl 19)]
theorem nS{T:Tb}(h1:lk 197 T=some (.one EG)):Wh T Mf1:=λf κ h=>by
 simp only[Mf1,lk] at h;cases hb:Nat.beq 197 f with
 |true=>
  rw[hb,cond_true,Ai] at h;have:=CR hb;subst this;subst h;exact ji h1
 |false=>rw[hb] at h;cases h
theorem AP0:WC 0 (Tn [] (GS 1 0) (GS 2 0)) (Wd JG JN Mfe [[],bF,bF])=true:=by kernel_rfl
theorem ASc:WC 0 (Tn [] (GS 1 0) (GS 1 0)) (Wd Jp Ju Mfe [[],bF])=true:=by kernel_rfl
theorem APx:WC 0 (Di (GS 1 0) (GS 2 0)) (Wd LY Lf Mf1 [[],bF,bF])=true:=by kernel_rfl
theorem AQC:WC 0 (Di (GS 1 0) (Cr (-1) (GS 2 0))) (Wd EF EE Mf1 [[],bF,bF])=true:=by kernel_rfl
end
end Go.Proofs.YtloibefkijfdlaaGreatDoor
