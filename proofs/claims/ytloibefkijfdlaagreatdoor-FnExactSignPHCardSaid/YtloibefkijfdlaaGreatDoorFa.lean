/- Small functions as numbers: a product by 19, a product of two words, a choice. -/
import Derived.Test.YtloibefkijfdlaaGreatDoorCa
import Derived.Test.YtloibefkijfdlaaGreatDoorDz
namespace Go.Proofs.YtloibefkijfdlaaGreatDoor
section
open Go
theorem UM{T:Tb}{f o:Nat}{s:Az}(h:lk f T=some (.one s))(args:List (List Int)):OP.den T (.fn f true o) args=(s.pr o).den args:=by
 simp only[OP.den,h];rfl
theorem Vr{z:Int}(h:0≤z)(h2:z<18446744073709551616):JC .u64 z:=(Ox (k:=.u64) rfl).2 ⟨h,h2⟩
theorem uI{z:Int}(h:JC .u64 z):0≤z∧z<18446744073709551616:=(Ox (k:=.u64) rfl).1 h
theorem AKs(z:Int):IntKind.u64.wrap z=z%18446744073709551616:=SQ (k:=.u64) rfl z
theorem AAl(x:Int):(Rm.raw RU 0 [[x]])= [Ao .add .u64 x (Ao .shl .u64 (Ao .add .u64 x (Ao .shl .u64 x 3)) 1)]:=by kernel_rfl
theorem ol{T:Tb}{f:Nat}(h:lk f T=some (.one EM)):vW T f (.mulc 19):=fun x _=>by
 rw[UM h];show [d1 (Rm.raw RU 0 [[x]])]=_;rw[AAl,YJ];have e3:min (3:Int).toNat IntKind.u64.bits=3:=rfl;have e1:min (1:Int).toNat IntKind.u64.bits=1:=rfl;simp only[Ao,e3,e1,AKs]
 congr 1
 omega
def hiW(x y:Int):Int:=
 let x0:=Ao .and .u64 x 4294967295
 let x1:=Ao .shr .u64 x 32
 let y0:=Ao .and .u64 y 4294967295
 let y1:=Ao .shr .u64 y 32
 let w0:=Ao .mul .u64 x0 y0
 let t:=Ao .add .u64 (Ao .mul .u64 x1 y0) (Ao .shr .u64 w0 32)
 let w1:=Ao .add .u64 (Ao .and .u64 t 4294967295) (Ao .mul .u64 x0 y1)
 Ao .add .u64 (Ao .add .u64 (Ao .mul .u64 x1 y1) (Ao .shr .u64 t 32)) (Ao .shr .u64 w1 32)
theorem jI(x y:Int):Ns.raw OH 0 [[x],[y]]= [hiW x y]∧Ns.raw OH 1 [[x],[y]]= [IntKind.u64.wrap (x*y)]:=⟨by kernel_rfl,by kernel_rfl⟩
theorem AFa{x:Int}(h:0≤x)(h2:x<18446744073709551616):Ao .and .u64 x 4294967295=x%4294967296:=by
 have:=qU (k:=.u64) rfl (Vr h h2) (m:=32) (by decide);exact this
theorem ASM{x:Int}:Ao .shr .u64 x 32=x/4294967296:=by
 show x.fdiv (2^(min (32:Int).toNat 64))=_;rw[Int.fdiv_eq_ediv_of_nonneg _ (by decide)];rfl
theorem jD{x y:Int}(h:0≤x+y)(h2:x+y<18446744073709551616):Ao .add .u64 x y=x+y:=JV (Vr h h2)
theorem wm{x y:Int}(h:0≤x*y)(h2:x*y<18446744073709551616):Ao .mul .u64 x y=x*y:=JV (Vr h h2)
theorem XE{a b:Int}(h1:0≤a)(h2:a<4294967296)(h3:0≤b)(h4:b<4294967296):0≤a*b∧a*b≤18446744065119617025:=by
 refine⟨Int.mul_nonneg h1 h3,?_⟩;have:a*b≤4294967295*4294967295:=Int.mul_le_mul (by omega) (by omega) h3 (by omega);omega
theorem APK{x y:Int}(hx:JC .u64 x)(hy:JC .u64 y):hiW x y=x*y/18446744073709551616:=by
 have hx':=uI hx;have hy':=uI hy;have ax:=Int.mul_ediv_add_emod x 4294967296;have ay:=Int.mul_ediv_add_emod y 4294967296;have bx0:0≤x%4294967296:=Int.emod_nonneg _ (by omega);have bx1:x%4294967296<4294967296:=Int.emod_lt_of_pos _ (by omega);have by0:0≤y%4294967296:=Int.emod_nonneg _ (by omega);have by1:y%4294967296<4294967296:=Int.emod_lt_of_pos _ (by omega);have cx0:0≤x/4294967296:=by omega
 have cx1:x/4294967296<4294967296:=by omega
 have cy0:0≤y/4294967296:=by omega
 have cy1:y/4294967296<4294967296:=by omega
 unfold hiW;simp only[AFa hx'.1 hx'.2,AFa hy'.1 hy'.2,ASM];generalize x%4294967296=x0 at *
 generalize x/4294967296=x1 at *
 generalize y%4294967296=y0 at *
 generalize y/4294967296=y1 at *
 have p00:=XE bx0 bx1 by0 by1;have p10:=XE cx0 cx1 by0 by1;have p01:=XE bx0 bx1 cy0 cy1;have p11:=XE cx0 cx1 cy0 cy1;rw[wm p00.1 (by omega),wm p10.1 (by omega),wm p01.1 (by omega),wm p11.1 (by omega)];have hxy:x*y=18446744073709551616*(x1*y1)+4294967296*(x1*y0+x0*y1)+x0*y0:=by
  rw[← ax, ← ay,sI,qC,qC,Xr,Int.mul_left_comm x1, ← Xr 4294967296 4294967296,Xr 4294967296 x1 y0,Int.mul_left_comm x0];omega
 rw[hxy];generalize x0*y0=a at *
 generalize x1*y0=b at *
 generalize x0*y1=c at *
 generalize x1*y1=d at *
 rw[jD (x:=b) (by omega) (by omega)];rw[AFa (by omega) (by omega)];rw[jD (x:=(b+a/4294967296)%4294967296) (by omega) (by omega)];rw[jD (x:=d) (by omega) (by omega)];rw[jD (by omega) (by omega)];omega
theorem pR{T:Tb}{f:Nat}(h:lk f T=some (.one Ef)):vW T f .mul64:=fun x y hx hy=>by
 rw[UM h,UM h];refine⟨?_,?_⟩
 ·show [d1 (Ns.raw OH 0 [[x],[y]])]=_;rw[(jI x y).1,YJ,APK hx hy]
 ·show [d1 (Ns.raw OH 1 [[x],[y]])]=_;rw[(jI x y).2,YJ,AKs]
end
section
open Go
def Mfe:List (Nat×FK):=[(197,.mulc 19),(172,.mul64)]
theorem lI{T:Tb}(h1:lk 197 T=some (.one EM))(h2:lk 172 T=some (.one Ef)):Xx T Mfe:=fun f κ h=>by
 simp only[Mfe,lk] at h
 cases hb:Nat.beq 197 f with
 |true=>
  rw[hb,cond_true,Am] at h;have:=CL hb;subst this;subst h;exact ol h1
 | false=>
  rw[hb,cond_false] at h
  cases hb2:Nat.beq 172 f with
  |true=>
   rw[hb2,cond_true,Am] at h;have:=CL hb2;subst this;subst h;exact pR h2
  |false=>rw[hb2] at h;cases h
def Mf1:List (Nat×FK):=[(197,.mulc 19)]
theorem ve{T:Tb}(h1:lk 197 T=some (.one EM)):Xx T Mf1:=fun f κ h=>by
 simp only[Mf1,lk] at h
 cases hb:Nat.beq 197 f with
 |true=>
  rw[hb,cond_true,Am] at h;have:=CL hb;subst this;subst h;exact ol h1
 |false=>rw[hb] at h;cases h
theorem ATN:X4 0 (VQ [] (inP 1 0) (inP 2 0)) (X9 Jm JZ Mfe [[],bF,bF])=true:=by kernel_rfl
theorem AVn:X4 0 (VQ [] (inP 1 0) (inP 1 0)) (X9 KJ KM Mfe [[],bF])=true:=by kernel_rfl
theorem ATM:X4 0 (De (inP 1 0) (inP 2 0)) (X9 MI Lx Mf1 [[],bF,bF])=true:=by kernel_rfl
theorem ARx:X4 0 (De (inP 1 0) (Cq (-1) (inP 2 0))) (X9 EL EJ Mf1 [[],bF,bF])=true:=by kernel_rfl
end
end Go.Proofs.YtloibefkijfdlaaGreatDoor
