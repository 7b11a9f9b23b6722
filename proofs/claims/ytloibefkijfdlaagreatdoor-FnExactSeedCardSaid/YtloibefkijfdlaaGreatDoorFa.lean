/- Small functions as numbers: a product by 19, a product of two words, a choice. The operations of the field as numbers. -/
import Derived.Test.YtloibefkijfdlaaGreatDoorCa
import Derived.Test.YtloibefkijfdlaaGreatDoorDz
namespace Go.Proofs.YtloibefkijfdlaaGreatDoor
open Go
theorem fn_den{T:Tb}{f o:Nat}{s:FSum}(h:lk f T=some (.one s))(args:List (List Int)):DOp.den T (.fn f true o) args=(s.pr o).den args:=by
 simp only[DOp.den,h]; rfl
theorem u64_in{z:Int}(h:0≤z)(h2:z<18446744073709551616):inR .u64 z:=(inR_uns (k:=.u64) rfl).2 ⟨h,h2⟩
theorem u64_of{z:Int}(h:inR .u64 z):0≤z∧z<18446744073709551616:=(inR_uns (k:=.u64) rfl).1 h
theorem w_u64(z:Int):IntKind.u64.wrap z=z%18446744073709551616:=wrap_uns (k:=.u64) rfl z
theorem raw_mul19(x:Int):(i_field_mul19.raw C_field_mul19 0 [[x]])= [binD .add .u64 x (binD .shl .u64 (binD .add .u64 x (binD .shl .u64 x 3)) 1)]:=by kernel_rfl
theorem fk_mul19{T:Tb}{f:Nat}(h:lk f T=some (.one s_field_mul19)):FKOk T f (.mulc 19):=fun x _=>by
 rw[fn_den h]
 show [d1 (i_field_mul19.raw C_field_mul19 0 [[x]])]=_
 rw[raw_mul19,d1_one]
 have e3:min (3:Int).toNat IntKind.u64.bits=3:=rfl
 have e1:min (1:Int).toNat IntKind.u64.bits=1:=rfl
 simp only[binD,e3,e1,w_u64]
 congr 1
 omega
def hiW(x y:Int):Int:=
 let x0:=binD .and .u64 x 4294967295
 let x1:=binD .shr .u64 x 32
 let y0:=binD .and .u64 y 4294967295
 let y1:=binD .shr .u64 y 32
 let w0:=binD .mul .u64 x0 y0
 let t:=binD .add .u64 (binD .mul .u64 x1 y0) (binD .shr .u64 w0 32)
 let w1:=binD .add .u64 (binD .and .u64 t 4294967295) (binD .mul .u64 x0 y1)
 binD .add .u64 (binD .add .u64 (binD .mul .u64 x1 y1) (binD .shr .u64 t 32)) (binD .shr .u64 w1 32)
theorem raw_mul64(x y:Int):i_bits_Mul64.raw C_bits_Mul64 0 [[x],[y]]= [hiW x y]∧i_bits_Mul64.raw C_bits_Mul64 1 [[x],[y]]= [IntKind.u64.wrap (x*y)]:=⟨by kernel_rfl,by kernel_rfl⟩
theorem w_and{x:Int}(h:0≤x)(h2:x<18446744073709551616):binD .and .u64 x 4294967295=x%4294967296:=by
 have:=and_mask (k:=.u64) rfl (u64_in h h2) (m:=32) (by decide)
 exact this
theorem w_shr{x:Int}:binD .shr .u64 x 32=x/4294967296:=by
 show x.fdiv (2^(min (32:Int).toNat 64))=_
 rw[Int.fdiv_eq_ediv_of_nonneg _ (by decide)]; rfl
theorem w_add{x y:Int}(h:0≤x+y)(h2:x+y<18446744073709551616):binD .add .u64 x y=x+y:=wrap_in (u64_in h h2)
theorem w_mul{x y:Int}(h:0≤x*y)(h2:x*y<18446744073709551616):binD .mul .u64 x y=x*y:=wrap_in (u64_in h h2)
theorem mul_lt32{a b:Int}(h1:0≤a)(h2:a<4294967296)(h3:0≤b)(h4:b<4294967296):0≤a*b∧a*b≤18446744065119617025:=by
 refine⟨Int.mul_nonneg h1 h3,?_⟩
 have:a*b≤4294967295*4294967295:=Int.mul_le_mul (by omega) (by omega) h3 (by omega)
 omega
theorem hiW_eq{x y:Int}(hx:inR .u64 x)(hy:inR .u64 y):hiW x y=x*y/18446744073709551616:=by
 have hx':=u64_of hx
 have hy':=u64_of hy
 have ax:=Int.mul_ediv_add_emod x 4294967296
 have ay:=Int.mul_ediv_add_emod y 4294967296
 have bx0:0≤x%4294967296:=Int.emod_nonneg _ (by omega)
 have bx1:x%4294967296<4294967296:=Int.emod_lt_of_pos _ (by omega)
 have by0:0≤y%4294967296:=Int.emod_nonneg _ (by omega)
 have by1:y%4294967296<4294967296:=Int.emod_lt_of_pos _ (by omega)
 have cx0:0≤x/4294967296:=by omega
 have cx1:x/4294967296<4294967296:=by omega
 have cy0:0≤y/4294967296:=by omega
 have cy1:y/4294967296<4294967296:=by omega
 unfold hiW
 simp only[w_and hx'.1 hx'.2,w_and hy'.1 hy'.2,w_shr]
 generalize x%4294967296=x0 at *
 generalize x/4294967296=x1 at *
 generalize y%4294967296=y0 at *
 generalize y/4294967296=y1 at *
 have p00:=mul_lt32 bx0 bx1 by0 by1
 have p10:=mul_lt32 cx0 cx1 by0 by1
 have p01:=mul_lt32 bx0 bx1 cy0 cy1
 have p11:=mul_lt32 cx0 cx1 cy0 cy1
 rw[w_mul p00.1 (by omega),w_mul p10.1 (by omega),w_mul p01.1 (by omega),w_mul p11.1 (by omega)]
 have hxy:x*y=18446744073709551616*(x1*y1)+4294967296*(x1*y0+x0*y1)+x0*y0:=by
  rw[← ax, ← ay,Int.add_mul,Int.mul_add,Int.mul_add,Int.mul_assoc,Int.mul_left_comm x1, ← Int.mul_assoc 4294967296 4294967296,Int.mul_assoc 4294967296 x1 y0,Int.mul_left_comm x0]
  omega
 rw[hxy]
 generalize x0*y0=a at *
 generalize x1*y0=b at *
 generalize x0*y1=c at *
 generalize x1*y1=d at *
 rw[w_add (x:=b) (by omega) (by omega)]
 rw[w_and (by omega) (by omega)]
 rw[w_add (x:=(b+a/4294967296)%4294967296) (by omega) (by omega)]
 rw[w_add (x:=d) (by omega) (by omega)]
 rw[w_add (by omega) (by omega)]
 omega
theorem fk_mul64{T:Tb}{f:Nat}(h:lk f T=some (.one s_bits_Mul64)):FKOk T f .mul64:=fun x y hx hy=>by
 rw[fn_den h,fn_den h]
 refine⟨?_,?_⟩
 ·show [d1 (i_bits_Mul64.raw C_bits_Mul64 0 [[x],[y]])]=_
  rw[(raw_mul64 x y).1,d1_one,hiW_eq hx hy]
 ·show [d1 (i_bits_Mul64.raw C_bits_Mul64 1 [[x],[y]])]=_
  rw[(raw_mul64 x y).2,d1_one,w_u64]
end Go.Proofs.YtloibefkijfdlaaGreatDoor

namespace Go.Proofs.YtloibefkijfdlaaGreatDoor
open Go
def Mfe:List (Nat×FK):= [(197,.mulc 19),(172,.mul64)]
theorem Mfe_ok{T:Tb}(h1:lk 197 T=some (.one s_field_mul19))(h2:lk 172 T=some (.one s_bits_Mul64)):MOkF T Mfe:=fun f κ h=>by
 simp only[Mfe,lk] at h
 cases hb:Nat.beq 197 f with
 |true=>
  rw[hb,cond_true,osE] at h
  have:=nbE hb
  subst this; subst h
  exact fk_mul19 h1
 | false=>
  rw[hb,cond_false] at h
  cases hb2:Nat.beq 172 f with
  |true=>
   rw[hb2,cond_true,osE] at h
   have:=nbE hb2
   subst this; subst h
   exact fk_mul64 h2
  |false=>rw[hb2] at h; cases h
def Mf1:List (Nat×FK):= [(197,.mulc 19)]
theorem Mf1_ok{T:Tb}(h1:lk 197 T=some (.one s_field_mul19)):MOkF T Mf1:=fun f κ h=>by
 simp only[Mf1,lk] at h
 cases hb:Nat.beq 197 f with
 |true=>
  rw[hb,cond_true,osE] at h
  have:=nbE hb
  subst this; subst h
  exact fk_mul19 h1
 |false=>rw[hb] at h; cases h
theorem t_mul:feTest 0 (pmul [] (inP 1 0) (inP 2 0)) (ckFn i_field_Element_Multiply C_field_Element_Multiply Mfe [[],bF,bF])=true:=by kernel_rfl
theorem t_sq:feTest 0 (pmul [] (inP 1 0) (inP 1 0)) (ckFn i_field_Element_Square C_field_Element_Square Mfe [[],bF])=true:=by kernel_rfl
theorem t_add:feTest 0 (padd (inP 1 0) (inP 2 0)) (ckFn i_field_Element_Add C_field_Element_Add Mf1 [[],bF,bF])=true:=by kernel_rfl
theorem t_sub:feTest 0 (padd (inP 1 0) (psmul (-1) (inP 2 0))) (ckFn i_field_Element_Subtract C_field_Element_Subtract Mf1 [[],bF,bF])=true:=by kernel_rfl
end Go.Proofs.YtloibefkijfdlaaGreatDoor
