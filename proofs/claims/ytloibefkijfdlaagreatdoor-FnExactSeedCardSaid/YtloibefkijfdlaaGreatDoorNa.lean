/- Contracts that the trees give: the reference: small functions. The reference's numbers: digits of 32 bits. The reference's numbers: which is less, sums and differences modulo a number, bytes to digits and back. The reference's numbers: bytes to digits and back, the clamped scalar. The reference's numbers: the constants, the opposite, the clamped scalar. The reference's clamped scalar. -/
import Derived.Test.YtloibefkijfdlaaGreatDoorCa
import Derived.Test.YtloibefkijfdlaaGreatDoorDa
import Derived.Test.YtloibefkijfdlaaGreatDoorFa
namespace Go.Proofs.YtloibefkijfdlaaGreatDoor
open Go
section
variable{GB:Nat}{GC:Nat→Nat→Option Value}{ad:Nat→Nat×Nat}(hG:GOk GB GC ad)
include hG
noncomputable def i_spec_small:FnI:=⟨6000,bodyOf Tryz.f68,Tryz.f68.ntmps,Tryz.f68.results.toList,[],⟨[.int .u64],false,fun _=>True,[],[],[.agg (List.replicate 8 .u64) z1]⟩⟩
noncomputable def C_spec_small:Cx:=mkC [] []
noncomputable def s_spec_small:FSum:=i_spec_small.sum C_spec_small
theorem ok_spec_small:FEOk Tryz.prog GB GC 68 (.one s_spec_small):=FnI.fin hG .nil .nil Tryz.func68 rfl rfl rfl (.inl rfl) (by kernel_rfl)
noncomputable def i_spec_prime:FnI:=⟨6000,bodyOf Tryz.f79,Tryz.f79.ntmps,Tryz.f79.results.toList,[],⟨[],false,fun _=>True,[],[],[.agg (List.replicate 8 .u64) z1]⟩⟩
noncomputable def C_spec_prime:Cx:=mkC [] []
noncomputable def s_spec_prime:FSum:=i_spec_prime.sum C_spec_prime
theorem ok_spec_prime:FEOk Tryz.prog GB GC 79 (.one s_spec_prime):=FnI.fin hG .nil .nil Tryz.func79 rfl rfl rfl (.inl rfl) (by kernel_rfl)
noncomputable def i_spec_less:FnI:=⟨6000,bodyOf Tryz.f54,Tryz.f54.ntmps,Tryz.f54.results.toList,[],⟨[.agg (List.replicate 8 .u64),.agg (List.replicate 8 .u64)],false,fun _=>True,[],[],[.bool z0]⟩⟩
noncomputable def C_spec_less:Cx:=mkC [] []
noncomputable def s_spec_less:FSum:=i_spec_less.sum C_spec_less
theorem ok_spec_less:FEOk Tryz.prog GB GC 54 (.one s_spec_less):=FnI.fin hG .nil .nil Tryz.func54 rfl rfl rfl (.inl rfl) (by kernel_rfl)
noncomputable def i_spec_sum:FnI:=⟨6000,bodyOf Tryz.f60,Tryz.f60.ntmps,Tryz.f60.results.toList,[],⟨[.agg (List.replicate 8 .u64),.agg (List.replicate 8 .u64)],false,fun _=>True,[],[],[.agg (List.replicate 8 .u64) z1]⟩⟩
noncomputable def C_spec_sum:Cx:=mkC [] []
noncomputable def s_spec_sum:FSum:=i_spec_sum.sum C_spec_sum
theorem ok_spec_sum:FEOk Tryz.prog GB GC 60 (.one s_spec_sum):=FnI.fin hG .nil .nil Tryz.func60 rfl rfl rfl (.inl rfl) (by kernel_rfl)
noncomputable def i_spec_rest:FnI:=⟨6000,bodyOf Tryz.f86,Tryz.f86.ntmps,Tryz.f86.results.toList,[],⟨[.agg (List.replicate 8 .u64),.agg (List.replicate 8 .u64)],false,fun _=>True,[],[],[.agg (List.replicate 8 .u64) z1]⟩⟩
noncomputable def C_spec_rest:Cx:=mkC [] []
noncomputable def s_spec_rest:FSum:=i_spec_rest.sum C_spec_rest
theorem ok_spec_rest:FEOk Tryz.prog GB GC 86 (.one s_spec_rest):=FnI.fin hG .nil .nil Tryz.func86 rfl rfl rfl (.inl rfl) (by kernel_rfl)
noncomputable def i_spec_plus:FnI:=⟨6000,bodyOf Tryz.f71,Tryz.f71.ntmps,Tryz.f71.results.toList,[],⟨[.agg (List.replicate 8 .u64),.agg (List.replicate 8 .u64),.agg (List.replicate 8 .u64)],false,fun _=>True,[],[],[.agg (List.replicate 8 .u64) z1]⟩⟩
noncomputable def C_spec_plus:Cx:=mkC [(54,.one s_spec_less),(60,.one s_spec_sum),(86,.one s_spec_rest)] []
noncomputable def s_spec_plus:FSum:=i_spec_plus.sum C_spec_plus
theorem ok_spec_plus:FEOk Tryz.prog GB GC 71 (.one s_spec_plus):=FnI.fin hG (.cons (k:=54) rfl (ok_spec_less hG) Tryz.call54 (FnI.len _ _) (.cons (k:=60) rfl (ok_spec_sum hG) Tryz.call60 (FnI.len _ _) (.cons (k:=86) rfl (ok_spec_rest hG) Tryz.call86 (FnI.len _ _) .nil))) .nil Tryz.func71 rfl rfl rfl (.inl rfl) (by kernel_rfl)
noncomputable def i_spec_minus:FnI:=⟨6000,bodyOf Tryz.f78,Tryz.f78.ntmps,Tryz.f78.results.toList,[],⟨[.agg (List.replicate 8 .u64),.agg (List.replicate 8 .u64),.agg (List.replicate 8 .u64)],false,fun _=>True,[],[],[.agg (List.replicate 8 .u64) z1]⟩⟩
noncomputable def C_spec_minus:Cx:=mkC [(54,.one s_spec_less),(60,.one s_spec_sum),(86,.one s_spec_rest)] []
noncomputable def s_spec_minus:FSum:=i_spec_minus.sum C_spec_minus
theorem ok_spec_minus:FEOk Tryz.prog GB GC 78 (.one s_spec_minus):=FnI.fin hG (.cons (k:=54) rfl (ok_spec_less hG) Tryz.call54 (FnI.len _ _) (.cons (k:=60) rfl (ok_spec_sum hG) Tryz.call60 (FnI.len _ _) (.cons (k:=86) rfl (ok_spec_rest hG) Tryz.call86 (FnI.len _ _) .nil))) .nil Tryz.func78 rfl rfl rfl (.inl rfl) (by kernel_rfl)
noncomputable def i_spec_whole:FnI:=⟨6000,bodyOf Tryz.f53,Tryz.f53.ntmps,Tryz.f53.results.toList,[],⟨[.agg (List.replicate 32 .u8)],false,fun _=>True,[],[],[.agg (List.replicate 8 .u64) z1]⟩⟩
noncomputable def C_spec_whole:Cx:=mkC [] []
noncomputable def s_spec_whole:FSum:=i_spec_whole.sum C_spec_whole
theorem ok_spec_whole:FEOk Tryz.prog GB GC 53 (.one s_spec_whole):=FnI.fin hG .nil .nil Tryz.func53 rfl rfl rfl (.inl rfl) (by kernel_rfl)
noncomputable def i_spec_clamped:FnI:=⟨6000,bodyOf Tryz.f37,Tryz.f37.ntmps,Tryz.f37.results.toList,[],⟨[.agg (List.replicate 32 .u8)],false,fun _=>True,[],[],[.agg (List.replicate 8 .u64) z1]⟩⟩
noncomputable def C_spec_clamped:Cx:=mkC [(53,.one s_spec_whole)] []
noncomputable def s_spec_clamped:FSum:=i_spec_clamped.sum C_spec_clamped
theorem ok_spec_clamped:FEOk Tryz.prog GB GC 37 (.one s_spec_clamped):=FnI.fin hG (.cons (k:=53) rfl (ok_spec_whole hG) Tryz.call53 (FnI.len _ _) .nil) .nil Tryz.func37 rfl rfl rfl (.inl rfl) (by kernel_rfl)
noncomputable def i_spec_octets:FnI:=⟨6000,bodyOf Tryz.f45,Tryz.f45.ntmps,Tryz.f45.results.toList,[],⟨[.agg (List.replicate 8 .u64)],false,fun _=>True,[],[],[.agg (List.replicate 32 .u8) z1]⟩⟩
noncomputable def C_spec_octets:Cx:=mkC [] []
noncomputable def s_spec_octets:FSum:=i_spec_octets.sum C_spec_octets
theorem ok_spec_octets:FEOk Tryz.prog GB GC 45 (.one s_spec_octets):=FnI.fin hG .nil .nil Tryz.func45 rfl rfl rfl (.inl rfl) (by kernel_rfl)
noncomputable def i_spec_opposite:FnI:=⟨6000,bodyOf Tryz.f55,Tryz.f55.ntmps,Tryz.f55.results.toList,[],⟨[.agg (List.replicate 8 .u64)],false,fun _=>True,[],[],[.agg (List.replicate 8 .u64) z1]⟩⟩
noncomputable def C_spec_opposite:Cx:=mkC [(78,.one s_spec_minus),(79,.one s_spec_prime)] []
noncomputable def s_spec_opposite:FSum:=i_spec_opposite.sum C_spec_opposite
theorem ok_spec_opposite:FEOk Tryz.prog GB GC 55 (.one s_spec_opposite):=FnI.fin hG (.cons (k:=78) rfl (ok_spec_minus hG) Tryz.call78 (FnI.len _ _) (.cons (k:=79) rfl (ok_spec_prime hG) Tryz.call79 (FnI.len _ _) .nil)) .nil Tryz.func55 rfl rfl rfl (.inl rfl) (by kernel_rfl)
noncomputable def i_spec_thirty:FnI:=⟨6000,bodyOf Tryz.f38,Tryz.f38.ntmps,Tryz.f38.results.toList,[],⟨[.sl (List.replicate 32 .u8) 0 false],false,fun _=>True,[],[],[.agg (List.replicate 32 .u8) z1]⟩⟩
noncomputable def C_spec_thirty:Cx:=mkC [] []
noncomputable def s_spec_thirty:FSum:=i_spec_thirty.sum C_spec_thirty
theorem ok_spec_thirty:FEOk Tryz.prog GB GC 38 (.one s_spec_thirty):=FnI.fin hG .nil .nil Tryz.func38 rfl rfl rfl (.inl rfl) (by kernel_rfl)
noncomputable def i_spec_bit:FnI:=⟨6000,bodyOf Tryz.f67,Tryz.f67.ntmps,Tryz.f67.results.toList,[],⟨[.agg (List.replicate 8 .u64),.int .i64],false,fun _=>True,[],[],[.bool z0]⟩⟩
noncomputable def C_spec_bit:Cx:=mkC [] []
noncomputable def s_spec_bit:FSum:=i_spec_bit.sumP C_spec_bit
theorem ok_spec_bit:FEOk Tryz.prog GB GC 67 (.one s_spec_bit):=FnI.finP hG .nil .nil Tryz.func67 rfl rfl rfl (.inl rfl) (by kernel_rfl)
end
end Go.Proofs.YtloibefkijfdlaaGreatDoor

namespace Go.Proofs.YtloibefkijfdlaaGreatDoor
open Go
def nv:List Int→Int
 | []=>0
 |x::r=>x+4294967296*nv r
def dg(l:List Int):Prop:=∀ x∈l,0≤x∧x<4294967296
theorem dg.cons{x:Int}{l:List Int}(h:dg (x::l)):(0≤x∧x<4294967296)∧dg l:=⟨h x lmS,fun y hy=>h y (lmM _ hy)⟩
theorem dg.mk{x:Int}{l:List Int}(h:0≤x∧x<4294967296)(hl:dg l):dg (x::l):=fun y hy=>by
 rcases List.mem_cons.1 hy with rfl|hy
 ·exact h
 ·exact hl y hy
theorem dg.nil:dg []:=fun x hx=>by cases hx
def pw:Nat→Int
 |0=>1
 |n+1=>4294967296*pw n
theorem nv_bd:∀ {l:List Int},dg l→0≤nv l∧nv l<pw l.length
 | [],_=>by simp[nv,pw]
 |x::r,h=>by
  obtain⟨h1,h2⟩:=h.cons
  have:=nv_bd h2
  simp only[nv,pw,List.length_cons]
  omega
abbrev u64o (op:BinOp) (x y:Int):Int:=binD op .u64 x y
def sumO:Int→List Int→List Int→List Int
 |c,x::xs,y::ys=>u64o .rem (u64o .add (u64o .add c x) y) 4294967296::sumO (u64o .quo (u64o .add (u64o .add c x) y) 4294967296) xs ys
 |_,_,_=> []
theorem u_add{x y:Int}(h:0≤x+y)(h2:x+y<18446744073709551616):u64o .add x y=x+y:=w_add h h2
theorem u_rem{x:Int}(h:0≤x):u64o .rem x 4294967296=x%4294967296:=by
 show x.tmod 4294967296=_
 exact Int.tmod_eq_emod_of_nonneg h
theorem u_quo{x:Int}(h:0≤x)(h2:x<18446744073709551616):u64o .quo x 4294967296=x/4294967296:=by
 show IntKind.u64.wrap (x.tdiv 4294967296)=_
 rw[Int.tdiv_eq_ediv_of_nonneg h]
 exact wrap_in (k:=.u64) ⟨by show (0:Int)≤_; omega,by show _≤(18446744073709551615:Int); omega⟩
theorem sumO_ok:∀ {xs ys:List Int} {c:Int},xs.length=ys.length→dg xs→dg ys→0≤c→c<4294967296→dg (sumO c xs ys)∧(sumO c xs ys).length=xs.length∧∃ k,0≤k∧c+nv xs+nv ys=nv (sumO c xs ys)+k*pw xs.length
 | [],[],c,_,_,_,h0,_=>⟨dg.nil,rfl,c,h0,by simp[sumO,nv,pw]⟩
 |x::xs,y::ys,c,hl,hx,hy,h0,h1=>by
  obtain⟨x1,x2⟩:=hx.cons
  obtain⟨y1,y2⟩:=hy.cons
  have e1:u64o .add (u64o .add c x) y=c+x+y:=by rw[u_add (x:=c) (y:=x) (by omega) (by omega),u_add (by omega) (by omega)]
  have e2:u64o .rem (c+x+y) 4294967296=(c+x+y)%4294967296:=u_rem (by omega)
  have e3:u64o .quo (c+x+y) 4294967296=(c+x+y)/4294967296:=u_quo (by omega) (by omega)
  obtain⟨i1,i2,k,k0,k1⟩:=sumO_ok (xs:=xs) (ys:=ys) (c:=(c+x+y)/4294967296) (by simpa using hl) x2 y2 (by omega) (by omega)
  unfold sumO
  rw[e1,e2,e3]
  refine⟨dg.mk ⟨by omega,by omega⟩ i1,by rw[List.length_cons,i2,List.length_cons],k,k0,?_⟩
  simp only[nv,List.length_cons,pw]
  have e4:k*(4294967296*pw xs.length)=4294967296*(k*pw xs.length):=by rw[Int.mul_left_comm]
  rw[e4]
  omega
 | [],_::_,_,h,_,_,_,_=>by simp at h
 |_::_,[],_,h,_,_,_,_=>by simp at h
theorem raw_sum{a b c d e f g h a' b' c' d' e' f' g' h':Int}:i_spec_sum.raw C_spec_sum 0 [[a,b,c,d,e,f,g,h],[a',b',c',d',e',f',g',h']]=sumO 0 [a,b,c,d,e,f,g,h] [a',b',c',d',e',f',g',h']:=by kernel_rfl
def resO:Int→List Int→List Int→List Int
 |w,x::xs,y::ys=>u64o .rem (u64o .sub (u64o .sub (u64o .add 4294967296 x) y) w) 4294967296::resO (u64o .sub 1 (u64o .quo (u64o .sub (u64o .sub (u64o .add 4294967296 x) y) w) 4294967296)) xs ys
 |_,_,_=> []
theorem raw_rest{a b c d e f g h a' b' c' d' e' f' g' h':Int}:i_spec_rest.raw C_spec_rest 0 [[a,b,c,d,e,f,g,h],[a',b',c',d',e',f',g',h']]=resO 0 [a,b,c,d,e,f,g,h] [a',b',c',d',e',f',g',h']:=by kernel_rfl
theorem u_sub{x y:Int}(h:0≤x-y)(h2:x-y<18446744073709551616):u64o .sub x y=x-y:=wrap_in (k:=.u64) ⟨h,by show _≤(18446744073709551615:Int); omega⟩
theorem resO_ok:∀ {xs ys:List Int} {w:Int},xs.length=ys.length→dg xs→dg ys→0≤w→w≤1→dg (resO w xs ys)∧(resO w xs ys).length=xs.length∧∃ k,0≤k∧k≤1∧nv xs-nv ys-w=nv (resO w xs ys)-k*pw xs.length
 | [],[],w,_,_,_,h0,h1=>⟨dg.nil,rfl,w,h0,h1,by simp[resO,nv,pw]⟩
 |x::xs,y::ys,w,hl,hx,hy,h0,h1=>by
  obtain⟨x1,x2⟩:=hx.cons
  obtain⟨y1,y2⟩:=hy.cons
  have e1:u64o .sub (u64o .sub (u64o .add 4294967296 x) y) w=4294967296+x-y-w:=by rw[u_add (by omega) (by omega),u_sub (x:=4294967296+x) (by omega) (by omega),u_sub (by omega) (by omega)]
  have e2:u64o .rem (4294967296+x-y-w) 4294967296=(4294967296+x-y-w)%4294967296:=u_rem (by omega)
  have e3:u64o .quo (4294967296+x-y-w) 4294967296=(4294967296+x-y-w)/4294967296:=u_quo (by omega) (by omega)
  have e5:u64o .sub 1 ((4294967296+x-y-w)/4294967296)=1-(4294967296+x-y-w)/4294967296:=u_sub (by omega) (by omega)
  obtain⟨i1,i2,k,k0,k1,k2⟩:=resO_ok (xs:=xs) (ys:=ys) (w:=1-(4294967296+x-y-w)/4294967296) (by simpa using hl) x2 y2 (by omega) (by omega)
  unfold resO
  rw[e1,e2,e3,e5]
  refine⟨dg.mk ⟨by omega,by omega⟩ i1,by rw[List.length_cons,i2,List.length_cons],k,k0,k1,?_⟩
  simp only[nv,List.length_cons,pw]
  have e4:k*(4294967296*pw xs.length)=4294967296*(k*pw xs.length):=by rw[Int.mul_left_comm]
  rw[e4]
  omega
 | [],_::_,_,h,_,_,_,_=>by simp at h
 |_::_,[],_,h,_,_,_,_=>by simp at h
structure N8 (l:List Int) (n:Int):Prop where
 len:l.length=8
 dg:dg l
 val:nv l=n
theorem N8.bd{l:List Int}{n:Int}(h:N8 l n):0≤n∧n<pw 8:=by
 have:=nv_bd h.dg
 rw[h.len,h.val] at this
 exact this
theorem sum_n8{a b:List Int}{m n:Int}(ha:N8 a m)(hb:N8 b n)(h:m+n<pw 8):N8 (i_spec_sum.raw C_spec_sum 0 [a,b]) (m+n):=by
 have e:i_spec_sum.raw C_spec_sum 0 [a,b]=sumO 0 a b:=by
  match a,ha.len,b,hb.len with
  | [_,_,_,_,_,_,_,_],_,[_,_,_,_,_,_,_,_],_=>exact raw_sum
 obtain⟨h1,h2,k,k0,k1⟩:=sumO_ok (c:=0) (by rw[ha.len,hb.len]) ha.dg hb.dg (by omega) (by omega)
 rw[e]
 refine⟨by rw[h2,ha.len],h1,?_⟩
 have hb2:=nv_bd h1
 rw[h2,ha.len] at hb2
 rw[ha.len,ha.val,hb.val] at k1
 have:=ha.bd
 have:=hb.bd
 have:k=0:=by
  rcases (by omega:k<1∨1≤k) with hk|hk
  ·omega
  ·have:pw 8≤k*pw 8:=by
    have h8:(0:Int)≤pw 8:=by omega
    calc pw 8=1*pw 8:=by rw[Int.one_mul]
     _≤k*pw 8:=Int.mul_le_mul_of_nonneg_right hk h8
   omega
 subst this
 omega
theorem rest_n8{a b:List Int}{m n:Int}(ha:N8 a m)(hb:N8 b n)(h:n≤m):N8 (i_spec_rest.raw C_spec_rest 0 [a,b]) (m-n):=by
 have e:i_spec_rest.raw C_spec_rest 0 [a,b]=resO 0 a b:=by
  match a,ha.len,b,hb.len with
  | [_,_,_,_,_,_,_,_],_,[_,_,_,_,_,_,_,_],_=>exact raw_rest
 obtain⟨h1,h2,k,k0,k1,k2⟩:=resO_ok (w:=0) (by rw[ha.len,hb.len]) ha.dg hb.dg (by omega) (by omega)
 rw[e]
 refine⟨by rw[h2,ha.len],h1,?_⟩
 have hb2:=nv_bd h1
 rw[h2,ha.len] at hb2
 rw[ha.len,ha.val,hb.val] at k2
 have:k=0:=by
  rcases (by omega:k<1∨1≤k) with hk|hk
  ·omega
  ·have:k=1:=by omega
   subst this
   omega
 subst this
 omega
end Go.Proofs.YtloibefkijfdlaaGreatDoor

namespace Go.Proofs.YtloibefkijfdlaaGreatDoor
open Go
def leafV(C:Cx)(s0:FSum)(rvs:List ResultVar)(k:Nat)(ρ:Env)(st:St):List Int:=
 match leafE C s0 rvs st with
 |some es=>(match es[k]? with
  |some e=>e.1.map (·.den ρ)
  |none=> [])
 |none=> []
def evXt(C:Cx)(s0:FSum)(rvs:List ResultVar)(k:Nat):Tree→Env→List Int
 | .leaf _ st,ρ=>leafV C s0 rvs k ρ st
 | .evs ds _ t,ρ=>evXt C s0 rvs k t (upds C.T ρ ds)
 | .br x t f,ρ=>if x.den ρ=0 then evXt C s0 rvs k f ρ else evXt C s0 rvs k t ρ
 | .brc f ar t e,ρ=>match lk f C.T with
  |some fe=>cond (fe.cnd (ar.map (·.den ρ))) (evXt C s0 rvs k t ρ) (evXt C s0 rvs k e ρ)
  |none=> []
 | .chk _ t,ρ=>evXt C s0 rvs k t ρ
 | .bad _,_=> []
def rawV(C:Cx)(s0:FSum)(rvs:List ResultVar)(k:Nat):Option (Env×St)→List Int
 |some (ρ,st)=>leafV C s0 rvs k ρ st
 |none=> []
theorem evX_eq{C:Cx}{s0:FSum}{rvs:List ResultVar}{k:Nat}:∀ {t:Tree} {ρ:Env},rawV C s0 rvs k (evT C.T t ρ)=evXt C s0 rvs k t ρ
 | .leaf _ st,ρ=>rfl
 | .evs ds _ t,ρ=>evX_eq (t:=t)
 | .br x t f,ρ=>by
  unfold evT evXt
  split
  ·exact evX_eq (t:=f)
  ·exact evX_eq (t:=t)
 | .brc f ar t e,ρ=>by
  unfold evT evXt
  cases lk f C.T with
  |none=>rfl
  |some fe=>
   show rawV C s0 rvs k (cond _ _ _)=cond _ _ _
   cases fe.cnd (ar.map (·.den ρ)) with
   |true=>exact evX_eq (t:=t)
   |false=>exact evX_eq (t:=e)
 | .chk _ t,ρ=>evX_eq (t:=t)
 | .bad _,_=>rfl
theorem raw_evX{C:Cx}{i:FnI}{k:Nat}{ins:List (List Int)}:i.raw C k ins=evXt C i.s0 i.rvs k (i.tree C) (insE ins):=by
 rw[← evX_eq]
 show rawT C i.s0 i.rvs (i.tree C) k ins=_
 unfold rawT
 cases evT C.T (i.tree C) (insE ins) with
 |none=>rfl
 |some p=>rfl
def lessO:List Int→List Int→List Int
 |x::xs,y::ys=>if u64o .neq x y=0 then lessO xs ys else [u64o .lss x y]
 |_,_=> [0]
theorem raw_less{a b c d e f g h a' b' c' d' e' f' g' h':Int}:i_spec_less.raw C_spec_less 0 [[a,b,c,d,e,f,g,h],[a',b',c',d',e',f',g',h']]=lessO [h,g,f,e,d,c,b,a] [h',g',f',e',d',c',b',a']:=by
 rw[raw_evX]
 kernel_rfl
def nm:List Int→Int
 | []=>0
 |x::r=>x*pw r.length+nm r
theorem nm_bd:∀ {l:List Int},dg l→0≤nm l∧nm l<pw l.length
 | [],_=>by simp[nm,pw]
 |x::r,h=>by
  obtain⟨h1,h2⟩:=h.cons
  have i:=nm_bd h2
  have hp:0<pw r.length:=by omega
  have h3:x*pw r.length≤4294967295*pw r.length:=Int.mul_le_mul_of_nonneg_right (by omega) (by omega)
  have h4:0≤x*pw r.length:=Int.mul_nonneg h1.1 (by omega)
  simp only[nm,pw,List.length_cons]
  omega
theorem lessO_ok:∀ {xs ys:List Int},xs.length=ys.length→dg xs→dg ys→lessO xs ys= [b01 (decide (nm xs<nm ys))]
 | [],[],_,_,_=>by simp[lessO,nm,b01]
 | x::xs,y::ys,hl,hx,hy=>by
  obtain⟨x1,x2⟩:=hx.cons
  obtain⟨y1,y2⟩:=hy.cons
  have hl':xs.length=ys.length:=by simpa using hl
  have ih:=lessO_ok hl' x2 y2
  have bx:=nm_bd x2
  have by':=nm_bd y2
  rw[hl'] at bx
  unfold lessO
  by_cases he:x=y
  ·subst he
   have e:u64o .neq x x=0:=by show b01 (x != x)=0; simp[b01]
   rw[if_pos e,ih]
   simp only[nm,hl']
   congr 2
   exact decide_eq_decide.2 (by omega)
  ·have e:¬ u64o .neq x y=0:=by
    show ¬ b01 (x != y)=0
    have:(x != y)=true:=by simpa using he
    rw[this]; simp[b01]
   rw[if_neg e]
   show [b01 (decide (x<y))]=_
   simp only[nm,hl']
   congr 2
   refine decide_eq_decide.2 ?_
   rcases (by omega:x+1≤y∨y+1≤x) with hk|hk
   ·have h3:(x+1)*pw ys.length≤y*pw ys.length:=Int.mul_le_mul_of_nonneg_right hk (by omega)
    rw[Int.add_mul] at h3
    omega
   ·have h3:(y+1)*pw ys.length≤x*pw ys.length:=Int.mul_le_mul_of_nonneg_right hk (by omega)
    rw[Int.add_mul] at h3
    omega
 | [],_::_,h,_,_=>by simp at h
 |_::_,[],h,_,_=>by simp at h
theorem less_n8{a b:List Int}{m n:Int}(ha:N8 a m)(hb:N8 b n):i_spec_less.raw C_spec_less 0 [a,b]= [b01 (decide (m<n))]:=by
 match a,ha,b,hb with
 | [a0,a1,a2,a3,a4,a5,a6,a7],ha,[b0,b1,b2,b3,b4,b5,b6,b7],hb=>
  rw[raw_less,lessO_ok (xs:= [a7,a6,a5,a4,a3,a2,a1,a0]) (ys:= [b7,b6,b5,b4,b3,b2,b1,b0]) rfl]
  ·have h1:=ha.val
   have h2:=hb.val
   simp only[nv] at h1 h2
   simp only[nm,pw,List.length_cons,List.length_nil]
   congr 2
   refine decide_eq_decide.2 ?_
   omega
  ·intro x hx
   exact ha.dg x (by simp only[List.mem_cons,List.not_mem_nil,or_false] at hx ⊢; omega)
  ·intro x hx
   exact hb.dg x (by simp only[List.mem_cons,List.not_mem_nil,or_false] at hx ⊢; omega)
def l8(s:List Int):List Int:= [s.getD 0 0,s.getD 1 0,s.getD 2 0,s.getD 3 0,s.getD 4 0,s.getD 5 0,s.getD 6 0,s.getD 7 0]
theorem l8_id{s:List Int}(h:s.length=8):l8 s=s:=by
 match s,h with
 | [_,_,_,_,_,_,_,_],_=>rfl
noncomputable def sum8(a b:List Int):List Int:=fixL 8 (i_spec_sum.raw C_spec_sum 0 [a,b])
noncomputable def rest8(a b:List Int):List Int:=fixL 8 (i_spec_rest.raw C_spec_rest 0 [a,b])
noncomputable def less1(a b:List Int):List Int:= [d1 (i_spec_less.raw C_spec_less 0 [a,b])]
theorem raw_plus{a b p:List Int}:i_spec_plus.raw C_spec_plus 0 [a,b,p]=if (less1 (sum8 a b) p).getD 0 0=0 then l8 (rest8 (sum8 a b) p) else l8 (sum8 a b):=by
 rw[raw_evX]
 kernel_rfl
theorem raw_minus{a b p:List Int}:i_spec_minus.raw C_spec_minus 0 [a,b,p]=if (less1 a b).getD 0 0=0 then l8 (rest8 a b) else l8 (rest8 (sum8 a p) b):=by
 rw[raw_evX]
 kernel_rfl
theorem sum8_n8{a b:List Int}{m n:Int}(ha:N8 a m)(hb:N8 b n)(h:m+n<pw 8):N8 (sum8 a b) (m+n):=by
 have:=sum_n8 ha hb h
 unfold sum8
 rwa [fixL_id this.len]
theorem rest8_n8{a b:List Int}{m n:Int}(ha:N8 a m)(hb:N8 b n)(h:n≤m):N8 (rest8 a b) (m-n):=by
 have:=rest_n8 ha hb h
 unfold rest8
 rwa [fixL_id this.len]
theorem less1_n8{a b:List Int}{m n:Int}(ha:N8 a m)(hb:N8 b n):(less1 a b).getD 0 0=0↔n≤m:=by
 unfold less1
 rw[less_n8 ha hb]
 show b01 _=0↔_
 by_cases h:m<n
 ·rw[decide_eq_true h]
  exact⟨fun e=>absurd (show (1:Int)=0 from e) (by decide),fun e=>absurd h (by omega)⟩
 ·rw[decide_eq_false h]
  exact⟨fun _=>by omega,fun _=>rfl⟩
theorem plus_n8{a b p:List Int}{m n q:Int}(ha:N8 a m)(hb:N8 b n)(hp:N8 p q)(hm:m<q)(hn:n<q)(h2:2*q≤pw 8):N8 (i_spec_plus.raw C_spec_plus 0 [a,b,p]) ((m+n)%q):=by
 have:=ha.bd
 have:=hb.bd
 have hs:=sum8_n8 ha hb (by omega)
 rw[raw_plus]
 by_cases h:q≤m+n
 ·have hr:=rest8_n8 hs hp h
  rw[if_pos ((less1_n8 hs hp).2 h),l8_id hr.len]
  have e:(m+n)%q=m+n-q:=by
   rw[← Int.sub_emod_right,Int.emod_eq_of_lt (by omega) (by omega)]
  rwa [e]
 ·rw[if_neg (fun e=>h ((less1_n8 hs hp).1 e)),l8_id hs.len,Int.emod_eq_of_lt (by omega) (by omega)]
  exact hs
theorem minus_n8{a b p:List Int}{m n q:Int}(ha:N8 a m)(hb:N8 b n)(hp:N8 p q)(hm:m<q)(hn:n≤q)(_h0:n=q→m=0)(h2:2*q≤pw 8):N8 (i_spec_minus.raw C_spec_minus 0 [a,b,p]) ((m-n)%q):=by
 have:=ha.bd
 have:=hb.bd
 rw[raw_minus]
 by_cases h:n≤m
 ·have hr:=rest8_n8 ha hb h
  rw[if_pos ((less1_n8 ha hb).2 h),l8_id hr.len,Int.emod_eq_of_lt (by omega) (by omega)]
  exact hr
 ·have hs:=sum8_n8 ha hp (by omega)
  have hr:=rest8_n8 hs hb (by omega)
  rw[if_neg (fun e=>h ((less1_n8 ha hb).1 e)),l8_id hr.len]
  have e:(m-n)%q=m+q-n:=by
   rw[← Int.add_emod_right,Int.emod_eq_of_lt (by omega) (by omega)]
   omega
  rwa [e]
end Go.Proofs.YtloibefkijfdlaaGreatDoor

namespace Go.Proofs.YtloibefkijfdlaaGreatDoor
open Go
def shO(x k:Int):Int:=u64o .shl (IntKind.u64.wrap x) k
def wdO(a b c d:Int):Int:=u64o .add (u64o .add (u64o .add (u64o .add 0 (shO a 0)) (shO b 8)) (shO c 16)) (shO d 24)
def wholO:List Int→List Int
 |a::b::c::d::r=>wdO a b c d::wholO r
 |_=> []
theorem raw_whole{b0 b1 b2 b3 b4 b5 b6 b7 b8 b9 b10 b11 b12 b13 b14 b15 b16 b17 b18 b19 b20 b21 b22 b23 b24 b25 b26 b27 b28 b29 b30 b31:Int}:i_spec_whole.raw C_spec_whole 0 [[b0,b1,b2,b3,b4,b5,b6,b7,b8,b9,b10,b11,b12,b13,b14,b15,b16,b17,b18,b19,b20,b21,b22,b23,b24,b25,b26,b27,b28,b29,b30,b31]]=wholO [b0,b1,b2,b3,b4,b5,b6,b7,b8,b9,b10,b11,b12,b13,b14,b15,b16,b17,b18,b19,b20,b21,b22,b23,b24,b25,b26,b27,b28,b29,b30,b31]:=by kernel_rfl
theorem u64_w{x:Int}(h:0≤x)(h2:x<18446744073709551616):IntKind.u64.wrap x=x:=wrap_in (k:=.u64) ⟨h,by show _≤(18446744073709551615:Int); omega⟩
theorem sh_0{x:Int}(h:0≤x∧x≤255):shO x 0=x:=by
 show IntKind.u64.wrap (IntKind.u64.wrap x*1)=_
 rw[u64_w (x:=x) (by omega) (by omega),u64_w (by omega) (by omega),Int.mul_one]
theorem sh_8{x:Int}(h:0≤x∧x≤255):shO x 8=256*x:=by
 show IntKind.u64.wrap (IntKind.u64.wrap x*256)=_
 rw[u64_w (x:=x) (by omega) (by omega),u64_w (by omega) (by omega),Int.mul_comm]
theorem sh_16{x:Int}(h:0≤x∧x≤255):shO x 16=65536*x:=by
 show IntKind.u64.wrap (IntKind.u64.wrap x*65536)=_
 rw[u64_w (x:=x) (by omega) (by omega),u64_w (by omega) (by omega),Int.mul_comm]
theorem sh_24{x:Int}(h:0≤x∧x≤255):shO x 24=16777216*x:=by
 show IntKind.u64.wrap (IntKind.u64.wrap x*16777216)=_
 rw[u64_w (x:=x) (by omega) (by omega),u64_w (by omega) (by omega),Int.mul_comm]
theorem wdO_ok{a b c d:Int}(ha:0≤a∧a≤255)(hb:0≤b∧b≤255)(hc:0≤c∧c≤255)(hd:0≤d∧d≤255):wdO a b c d=a+256*b+65536*c+16777216*d:=by
 unfold wdO
 rw[sh_0 ha,sh_8 hb,sh_16 hc,sh_24 hd,u_add (x:=0) (y:=a) (by omega) (by omega),u_add (x:=0+a) (by omega) (by omega),u_add (x:=0+a+256*b) (by omega) (by omega),u_add (by omega) (by omega)]
 omega
theorem by8.cons{x:Int}{l:List Int}(h:by8 (x::l)):(0≤x∧x≤255)∧by8 l:=⟨h x lmS,fun y hy=>h y (lmM _ hy)⟩
theorem by8.mk{x:Int}{l:List Int}(h:0≤x∧x≤255)(hl:by8 l):by8 (x::l):=fun y hy=>by
 rcases List.mem_cons.1 hy with rfl|hy
 ·exact h
 ·exact hl y hy
theorem wholO_ok:∀ (n:Nat) {l:List Int},l.length=4*n→by8 l→dg (wholO l)∧(wholO l).length=n∧nv (wholO l)=leV l
 |0,l,h,_=>by
  obtain rfl:l= []:=by simpa using h
  exact⟨dg.nil,rfl,rfl⟩
 |n+1,a::b::c::d::r,h,hb=>by
  obtain⟨h1,hb⟩:=hb.cons
  obtain⟨h2,hb⟩:=hb.cons
  obtain⟨h3,hb⟩:=hb.cons
  obtain⟨h4,hb⟩:=hb.cons
  obtain⟨i1,i2,i3⟩:=wholO_ok n (l:=r) (by simp only[List.length_cons] at h; omega) hb
  unfold wholO
  rw[wdO_ok h1 h2 h3 h4]
  refine⟨dg.mk ⟨by omega,by omega⟩ i1,by rw[List.length_cons,i2],?_⟩
  simp only[nv,leV,i3]
  omega
 |n+1,[],h,_=>by simp at h
 |n+1,[_],h,_=>by simp only[List.length_cons,List.length_nil] at h; omega
 |n+1,[_,_],h,_=>by simp only[List.length_cons,List.length_nil] at h; omega
 |n+1,[_,_,_],h,_=>by simp only[List.length_cons,List.length_nil] at h; omega
theorem whole_n8{l:List Int}(hl:l.length=32)(h:by8 l):N8 (i_spec_whole.raw C_spec_whole 0 [l]) (leV l):=by
 have e:i_spec_whole.raw C_spec_whole 0 [l]=wholO l:=by
  match l,hl with
  | [_,_,_,_,_,_,_,_,_,_,_,_,_,_,_,_,_,_,_,_,_,_,_,_,_,_,_,_,_,_,_,_],_=>exact raw_whole
 obtain⟨h1,h2,h3⟩:=wholO_ok 8 hl h
 rw[e]
 exact⟨h2,h1,h3⟩
def byO(x k:Int):Int:=IntKind.u8.wrap (u64o .shr x k)
def octO:List Int→List Int
 |d::r=>byO d 0::byO d 8::byO d 16::byO d 24::octO r
 | []=> []
theorem raw_octets{a b c d e f g h:Int}:i_spec_octets.raw C_spec_octets 0 [[a,b,c,d,e,f,g,h]]=octO [a,b,c,d,e,f,g,h]:=by kernel_rfl
theorem u8_w{x:Int}:IntKind.u8.wrap x=x%256:=by
 simp[IntKind.wrap,IntKind.bits,IntKind.signed]
theorem by_0{x:Int}:byO x 0=x%256:=by
 show IntKind.u8.wrap (x.fdiv 1)=_
 rw[u8_w,Int.fdiv_one]
theorem by_8{x:Int}:byO x 8=x/256%256:=by
 show IntKind.u8.wrap (x.fdiv 256)=_
 rw[u8_w,Int.fdiv_eq_ediv_of_nonneg _ (by decide)]
theorem by_16{x:Int}:byO x 16=x/65536%256:=by
 show IntKind.u8.wrap (x.fdiv 65536)=_
 rw[u8_w,Int.fdiv_eq_ediv_of_nonneg _ (by decide)]
theorem by_24{x:Int}:byO x 24=x/16777216%256:=by
 show IntKind.u8.wrap (x.fdiv 16777216)=_
 rw[u8_w,Int.fdiv_eq_ediv_of_nonneg _ (by decide)]
theorem octO_ok:∀ {l:List Int},dg l→by8 (octO l)∧(octO l).length=4*l.length∧leV (octO l)=nv l
 | [],_=>⟨fun x hx=>(nomatch hx),rfl,rfl⟩
 |d::r,h=>by
  obtain⟨h1,h2⟩:=h.cons
  obtain⟨i1,i2,i3⟩:=octO_ok h2
  unfold octO
  rw[by_0,by_8,by_16,by_24]
  refine⟨.mk ⟨by omega,by omega⟩ (.mk ⟨by omega,by omega⟩ (.mk ⟨by omega,by omega⟩ (.mk ⟨by omega,by omega⟩ i1))),by simp only[List.length_cons,i2]; omega,?_⟩
  simp only[nv,leV,i3]
  omega
structure B32 (l:List Int) (n:Int):Prop where
 len:l.length=32
 by8:by8 l
 val:leV l=n
theorem octets_n8{a:List Int}{m:Int}(ha:N8 a m):B32 (i_spec_octets.raw C_spec_octets 0 [a]) m:=by
 have e:i_spec_octets.raw C_spec_octets 0 [a]=octO a:=by
  match a,ha.len with
  | [_,_,_,_,_,_,_,_],_=>exact raw_octets
 obtain⟨h1,h2,h3⟩:=octO_ok ha.dg
 rw[e]
 exact⟨by rw[h2,ha.len],h1,by rw[h3,ha.val]⟩
end Go.Proofs.YtloibefkijfdlaaGreatDoor

namespace Go.Proofs.YtloibefkijfdlaaGreatDoor
open Go
def spP:Int:=57896044618658097711785492504343953926634992332820282019728792003956564819949
def dgB(l:List Int):Bool:=l.all fun x=>ileB 0 x&&ileB x 4294967295
theorem dgB_ok{l:List Int}(h:dgB l=true):dg l:=fun x hx=>by
 have:=List.all_eq_true.1 h x hx
 simp only[baE] at this
 exact⟨ileB_le this.1,by have:=ileB_le this.2; omega⟩
theorem prime_n8:N8 (i_spec_prime.raw C_spec_prime 0 []) spP:=⟨by kernel_rfl,dgB_ok (by kernel_rfl),by kernel_rfl⟩
theorem raw_small{x:Int}:i_spec_small.raw C_spec_small 0 [[x]]= [x,0,0,0,0,0,0,0]:=by kernel_rfl
theorem small_n8{x:Int}(h:0≤x∧x<4294967296):N8 (i_spec_small.raw C_spec_small 0 [[x]]) x:=by
 rw[raw_small]
 have z:(0:Int)≤0∧(0:Int)<4294967296:=by omega
 exact⟨rfl,.mk h (.mk z (.mk z (.mk z (.mk z (.mk z (.mk z (.mk z .nil))))))),by simp only[nv]; omega⟩
noncomputable def prm8:List Int:=fixL 8 (i_spec_prime.raw C_spec_prime 0 [])
noncomputable def min8(a b p:List Int):List Int:=fixL 8 (i_spec_minus.raw C_spec_minus 0 [a,b,p])
theorem raw_opposite{a:List Int}:i_spec_opposite.raw C_spec_opposite 0 [a]=l8 (min8 [0,0,0,0,0,0,0,0] a prm8):=by kernel_rfl
theorem opposite_n8{a:List Int}{m:Int}(ha:N8 a m)(hm:m<spP):N8 (i_spec_opposite.raw C_spec_opposite 0 [a]) (-m%spP):=by
 have z:(0:Int)≤0∧(0:Int)<4294967296:=by omega
 have h0:N8 [0,0,0,0,0,0,0,0] 0:=⟨rfl,.mk z (.mk z (.mk z (.mk z (.mk z (.mk z (.mk z (.mk z .nil))))))),rfl⟩
 have hp:N8 prm8 spP:=by
  have:=prime_n8
  unfold prm8
  rwa [fixL_id this.len]
 have h:=minus_n8 h0 ha hp (by decide) (by omega) (fun _=>rfl) (by decide)
 rw[raw_opposite]
 unfold min8
 rw[fixL_id h.len,l8_id h.len]
 rwa [Int.zero_sub] at h
end Go.Proofs.YtloibefkijfdlaaGreatDoor

namespace Go.Proofs.YtloibefkijfdlaaGreatDoor
open Go
def clLo(b:Int):Int:=binD .andNot .u8 b 7
def clHi(b:Int):Int:=binD .or .u8 (binD .rem .u8 b 128) 64
def clB:List Int→List Int
 | [b0,b1,b2,b3,b4,b5,b6,b7,b8,b9,b10,b11,b12,b13,b14,b15,b16,b17,b18,b19,b20,b21,b22,b23,b24,b25,b26,b27,b28,b29,b30,b31]=> [clLo b0,b1,b2,b3,b4,b5,b6,b7,b8,b9,b10,b11,b12,b13,b14,b15,b16,b17,b18,b19,b20,b21,b22,b23,b24,b25,b26,b27,b28,b29,b30,clHi b31]
 |_=> []
noncomputable def whole8(l:List Int):List Int:=fixL 8 (i_spec_whole.raw C_spec_whole 0 [l])
theorem raw_clamped{b0 b1 b2 b3 b4 b5 b6 b7 b8 b9 b10 b11 b12 b13 b14 b15 b16 b17 b18 b19 b20 b21 b22 b23 b24 b25 b26 b27 b28 b29 b30 b31:Int}:i_spec_clamped.raw C_spec_clamped 0 [[b0,b1,b2,b3,b4,b5,b6,b7,b8,b9,b10,b11,b12,b13,b14,b15,b16,b17,b18,b19,b20,b21,b22,b23,b24,b25,b26,b27,b28,b29,b30,b31]]=l8 (whole8 (clB [b0,b1,b2,b3,b4,b5,b6,b7,b8,b9,b10,b11,b12,b13,b14,b15,b16,b17,b18,b19,b20,b21,b22,b23,b24,b25,b26,b27,b28,b29,b30,b31])):=by kernel_rfl
theorem clLo_nat:∀ n:Fin 256,clLo ((n.val:Nat):Int)=((n.val/8*8:Nat):Int):=by decide +kernel
theorem clHi_nat:∀ n:Fin 256,clHi ((n.val:Nat):Int)=((n.val%64+64:Nat):Int):=by decide +kernel
theorem clLo_eq{b:Int}(h:0≤b∧b≤255):clLo b=b/8*8:=by
 obtain⟨n,rfl⟩:=Int.eq_ofNat_of_zero_le h.1
 have:=clLo_nat ⟨n,by omega⟩
 simp only at this
 rw[this]
 omega
theorem clHi_eq{b:Int}(h:0≤b∧b≤255):clHi b=b%64+64:=by
 obtain⟨n,rfl⟩:=Int.eq_ofNat_of_zero_le h.1
 have:=clHi_nat ⟨n,by omega⟩
 simp only at this
 rw[this]
 omega
theorem clamped_n8{l:List Int}(hl:l.length=32)(h:by8 l):N8 (i_spec_clamped.raw C_spec_clamped 0 [l]) (leV (clB l))∧(clB l).length=32∧by8 (clB l):=by
 match l,hl with
 | [b0,b1,b2,b3,b4,b5,b6,b7,b8,b9,b10,b11,b12,b13,b14,b15,b16,b17,b18,b19,b20,b21,b22,b23,b24,b25,b26,b27,b28,b29,b30,b31],_=>
  have h0:=h b0 (by simp)
  have h31:=h b31 (by simp)
  have hb:by8 (clB [b0,b1,b2,b3,b4,b5,b6,b7,b8,b9,b10,b11,b12,b13,b14,b15,b16,b17,b18,b19,b20,b21,b22,b23,b24,b25,b26,b27,b28,b29,b30,b31]):=by
   show by8 [clLo b0,b1,b2,b3,b4,b5,b6,b7,b8,b9,b10,b11,b12,b13,b14,b15,b16,b17,b18,b19,b20,b21,b22,b23,b24,b25,b26,b27,b28,b29,b30,clHi b31]
   rw[clLo_eq h0,clHi_eq h31]
   intro x hx
   rcases List.mem_cons.1 hx with rfl|hx
   ·omega
   ·rcases List.mem_append.1 (show x ∈ [b1,b2,b3,b4,b5,b6,b7,b8,b9,b10,b11,b12,b13,b14,b15,b16,b17,b18,b19,b20,b21,b22,b23,b24,b25,b26,b27,b28,b29,b30] ++ [b31%64+64] from hx) with hx|hx
    ·exact h x (lmM _ (List.mem_append.2 (Or.inl hx):x ∈ [b1,b2,b3,b4,b5,b6,b7,b8,b9,b10,b11,b12,b13,b14,b15,b16,b17,b18,b19,b20,b21,b22,b23,b24,b25,b26,b27,b28,b29,b30] ++ [b31]))
    ·have:=List.mem_singleton.1 hx
     omega
  have hw:=whole_n8 (l:=clB [b0,b1,b2,b3,b4,b5,b6,b7,b8,b9,b10,b11,b12,b13,b14,b15,b16,b17,b18,b19,b20,b21,b22,b23,b24,b25,b26,b27,b28,b29,b30,b31]) rfl hb
  refine⟨?_,rfl,hb⟩
  rw[raw_clamped]
  unfold whole8
  rw[fixL_id hw.len,l8_id hw.len]
  exact hw
end Go.Proofs.YtloibefkijfdlaaGreatDoor
