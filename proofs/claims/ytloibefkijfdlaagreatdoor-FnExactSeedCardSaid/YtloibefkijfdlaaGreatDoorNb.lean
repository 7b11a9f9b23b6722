/- Contracts of the reference: folded. The reference's numbers: folded. The reference's numbers: the value of folded's pass and of what follows. The reference's numbers: the value of folded. -/
import Derived.Test.YtloibefkijfdlaaGreatDoorNa
import Derived.Test.YtloibefkijfdlaaGreatDoorSq
namespace Go.Proofs.YtloibefkijfdlaaGreatDoor
open Go
def fo1:List (List Int)→Prop
 | [a,[k]]=>0≤k∧k<4294967296∧∃ m,N8 a m∧m+38*k<pw 8
 |_=>False
def fo2:List (List Int)→Prop
 | [a,[k]]=>0≤k∧k<4294967296∧∃ m,N8 a m
 |_=>False
noncomputable def i_spec_folded:FnI:=⟨170,bodyOf Tryz.f87,Tryz.f87.ntmps,Tryz.f87.results.toList,[],⟨[.agg (List.replicate 8 .u64),.int .u64],true,fun _=>False,[],[],[.agg (List.replicate 8 .u64) z1]⟩⟩
noncomputable def s_spec_folded0:FSum:=autoS ⟨[.agg (List.replicate 8 .u64),.int .u64],true,fun _=>False,[],[],[.agg (List.replicate 8 .u64) z1]⟩ (fun _ _=> []) true (fun _=>False)
noncomputable def C_spec_folded1:Cx:=mkC [(54,.one s_spec_less),(79,.one s_spec_prime),(86,.one s_spec_rest),(87,.one s_spec_folded0)] []
noncomputable def s_spec_folded1:FSum:=i_spec_folded.sumHT C_spec_folded1 fo1
theorem chk_spec_folded1:i_spec_folded.chkt C_spec_folded1=true:=by kernel_rfl
noncomputable def C_spec_folded2:Cx:=mkC [(54,.one s_spec_less),(79,.one s_spec_prime),(86,.one s_spec_rest),(87,.one s_spec_folded1)] []
noncomputable def s_spec_folded2:FSum:=i_spec_folded.sumHT C_spec_folded2 fo2
theorem chk_spec_folded2:i_spec_folded.chkt C_spec_folded2=true:=by kernel_rfl
end Go.Proofs.YtloibefkijfdlaaGreatDoor

namespace Go.Proofs.YtloibefkijfdlaaGreatDoor
open Go
theorem rawt_evX{C:Cx}{i:FnI}{k:Nat}{ins:List (List Int)}:i.rawt C k ins=evXt C i.s0 i.rvs k (i.treet C) (insE ins):=by
 rw[← evX_eq]
 show rawT C i.s0 i.rvs (i.treet C) k ins=_
 unfold rawT
 cases evT C.T (i.treet C) (insE ins) with
 |none=>rfl
 |some p=>rfl
def pasO:Int→List Int→List Int
 |c,x::r=>u64o .rem (u64o .add c x) 4294967296::pasO (u64o .quo (u64o .add c x) 4294967296) r
 |_,[]=> []
def carO:Int→List Int→Int
 |c,x::r=>carO (u64o .quo (u64o .add c x) 4294967296) r
 |c,[]=>c
noncomputable def dnO:Nat→List Int→List Int
 |0,d=>l8 d
 |n+1,d=>if b01 ((less1 d prm8).getD 0 0 == 0)=0 then l8 d else dnO n (rest8 d prm8)
def z8(_:List Int)(_:Int):List Int:=fixL 8 []
noncomputable def fold8(C:Cx)(a:List Int)(c:Int):List Int:=fixL 8 (i_spec_folded.rawt C 0 [a,[c]])
theorem raw_folded1{a b c d e f g h k:Int}:i_spec_folded.rawt C_spec_folded1 0 [[a,b,c,d,e,f,g,h],[k]]=if u64o .gtr (carO (u64o .mul 38 k) [a,b,c,d,e,f,g,h]) 0=0 then dnO 3 (pasO (u64o .mul 38 k) [a,b,c,d,e,f,g,h])
  else l8 (z8 (pasO (u64o .mul 38 k) [a,b,c,d,e,f,g,h]) (carO (u64o .mul 38 k) [a,b,c,d,e,f,g,h])):=by
 rw[rawt_evX]
 kernel_rfl
theorem raw_folded2{a b c d e f g h k:Int}:i_spec_folded.rawt C_spec_folded2 0 [[a,b,c,d,e,f,g,h],[k]]=if u64o .gtr (carO (u64o .mul 38 k) [a,b,c,d,e,f,g,h]) 0=0 then dnO 3 (pasO (u64o .mul 38 k) [a,b,c,d,e,f,g,h])
  else l8 (fold8 C_spec_folded1 (pasO (u64o .mul 38 k) [a,b,c,d,e,f,g,h]) (carO (u64o .mul 38 k) [a,b,c,d,e,f,g,h])):=by
 rw[rawt_evX]
 kernel_rfl
noncomputable def dnP:Nat→List Int→Prop
 |0,d=>b01 ((less1 d prm8).getD 0 0 == 0)=0∧True
 |n+1,d=>if b01 ((less1 d prm8).getD 0 0 == 0)=0 then True else dnP n (rest8 d prm8)
theorem ob_folded1{a b c d e f g h k:Int}:evObX C_spec_folded1.T (i_spec_folded.treet C_spec_folded1) (insE [[a,b,c,d,e,f,g,h],[k]])=if u64o .gtr (carO (u64o .mul 38 k) [a,b,c,d,e,f,g,h]) 0=0 then dnP 3 (pasO (u64o .mul 38 k) [a,b,c,d,e,f,g,h]) else False∧True:=by kernel_rfl
theorem ob_folded2{a b c d e f g h k:Int}:evObX C_spec_folded2.T (i_spec_folded.treet C_spec_folded2) (insE [[a,b,c,d,e,f,g,h],[k]])=if u64o .gtr (carO (u64o .mul 38 k) [a,b,c,d,e,f,g,h]) 0=0 then dnP 3 (pasO (u64o .mul 38 k) [a,b,c,d,e,f,g,h]) else fo1 [pasO (u64o .mul 38 k) [a,b,c,d,e,f,g,h],[carO (u64o .mul 38 k) [a,b,c,d,e,f,g,h]]]∧True:=by kernel_rfl
end Go.Proofs.YtloibefkijfdlaaGreatDoor

namespace Go.Proofs.YtloibefkijfdlaaGreatDoor
open Go
theorem pasO_ok:∀ {l:List Int} {c:Int},dg l→0≤c→c<9223372036854775808→dg (pasO c l)∧(pasO c l).length=l.length∧0≤carO c l∧carO c l<9223372036854775808∧c+nv l=nv (pasO c l)+carO c l*pw l.length
 | [],c,_,h0,h1=>⟨.nil,rfl,h0,h1,by simp[pasO,carO,nv,pw]⟩
 |x::r,c,h,h0,h1=>by
  obtain⟨x1,x2⟩:=h.cons
  have e1:u64o .add c x=c+x:=u_add (by omega) (by omega)
  have e2:u64o .rem (c+x) 4294967296=(c+x)%4294967296:=u_rem (by omega)
  have e3:u64o .quo (c+x) 4294967296=(c+x)/4294967296:=u_quo (by omega) (by omega)
  obtain⟨i1,i2,i3,i4,i5⟩:=pasO_ok (l:=r) (c:=(c+x)/4294967296) x2 (by omega) (by omega)
  unfold pasO carO
  rw[e1,e2,e3]
  refine⟨.mk ⟨by omega,by omega⟩ i1,by rw[List.length_cons,i2,List.length_cons],i3,i4,?_⟩
  simp only[nv,List.length_cons,pw]
  have e4:carO ((c+x)/4294967296) r*(4294967296*pw r.length)=4294967296*(carO ((c+x)/4294967296) r*pw r.length):=by rw[Int.mul_left_comm]
  rw[e4]
  omega
theorem n8_fix{a:List Int}{m:Int}(h:N8 a m):N8 (fixL 8 a) m:=by rw[fixL_id h.len]; exact h
theorem prm8_n8:N8 prm8 spP:=n8_fix prime_n8
set_option maxRecDepth 100000 in
theorem not0{a:Int}:b01 (a == 0)=0↔a≠0:=by
 by_cases h:a=0
 ·subst h
  exact⟨fun e=>absurd (show (1:Int)=0 from e) (by decide),fun e=>absurd rfl e⟩
 ·have:(a == 0)=false:=by simpa using h
  rw[this]
  exact⟨fun _=>h,fun _=>rfl⟩
theorem dnO_gen{P:Int}(hp:N8 prm8 P):∀ (n:Nat) {d:List Int} {m:Int},N8 d m→m<((n:Int)+1)*P→N8 (dnO n d) (m%P)
 |0,d,m,h,hm=>by
  have:=h.bd
  unfold dnO
  rw[l8_id h.len,Int.emod_eq_of_lt (by omega) (by omega)]
  exact h
 | n+1,d,m,h,hm=>by
  have hb:=h.bd
  unfold dnO
  by_cases hl:P≤m
  ·rw[if_neg (fun e=>not0.1 e ((less1_n8 h hp).2 hl)), ← Int.sub_emod_right]
   refine dnO_gen hp n (rest8_n8 h hp hl) ?_
   have:((n+1:Nat):Int)+1=((n:Int)+1)+1:=by omega
   rw[this,Int.add_mul ((n:Int)+1)] at hm
   omega
  ·rw[if_pos (not0.2 fun e=>hl ((less1_n8 h hp).1 e)),l8_id h.len,Int.emod_eq_of_lt hb.1 (by omega)]
   exact h
theorem dnO_n8(n:Nat){d:List Int}{m:Int}(h:N8 d m)(hm:m<((n:Int)+1)*spP):N8 (dnO n d) (m%spP):=dnO_gen prm8_n8 n h hm
end Go.Proofs.YtloibefkijfdlaaGreatDoor

namespace Go.Proofs.YtloibefkijfdlaaGreatDoor
open Go
theorem gtr0{k:Int}:u64o .gtr k 0=0↔k≤0:=by
 show b01 (decide (k>0))=0↔_
 by_cases h:k>0
 ·rw[decide_eq_true h]
  exact⟨fun e=>absurd (show (1:Int)=0 from e) (by decide),fun e=>absurd h (by omega)⟩
 ·rw[decide_eq_false h]
  exact⟨fun _=>by omega,fun _=>rfl⟩
theorem pw8:pw 8=115792089237316195423570985008687907853269984665640564039457584007913129639936:=by kernel_rfl
theorem u_mul38{k:Int}(h0:0≤k)(h1:k<4294967296):u64o .mul 38 k=38*k:=by
 show IntKind.u64.wrap (38*k)=_
 exact u64_w (by omega) (by omega)
theorem pas_n8{a:List Int}{m k:Int}(ha:N8 a m)(h0:0≤k)(h1:k<4294967296):N8 (pasO (38*k) a) (m+38*k-carO (38*k) a*pw 8)∧0≤carO (38*k) a:=by
 obtain⟨i1,i2,i3,_,i5⟩:=pasO_ok (l:=a) (c:=38*k) ha.dg (by omega) (by omega)
 rw[ha.len,ha.val] at i5
 exact⟨⟨by rw[i2,ha.len],i1,by omega⟩,i3⟩
theorem fold1_n8{a:List Int}{m k:Int}(ha:N8 a m)(h0:0≤k)(h1:k<4294967296)(h:m+38*k<pw 8):N8 (i_spec_folded.rawt C_spec_folded1 0 [a,[k]]) ((m+38*k)%spP):=by
 obtain⟨p1,p2⟩:=pas_n8 ha h0 h1
 have hb:=p1.bd
 have hc:carO (38*k) a=0:=by
  rw[pw8] at hb h
  omega
 rw[hc,Int.zero_mul,Int.sub_zero] at p1
 match a,ha.len with
 | [a0,a1,a2,a3,a4,a5,a6,a7],_=>
  rw[raw_folded1,u_mul38 h0 h1,hc,if_pos (gtr0.2 (Int.le_refl _))]
  exact dnO_n8 3 p1 (by rw[pw8] at h; unfold spP; omega)
theorem fold2_n8{a:List Int}{m k:Int}(ha:N8 a m)(h0:0≤k)(h1:k<4294967296):N8 (i_spec_folded.rawt C_spec_folded2 0 [a,[k]]) ((m+38*k)%spP):=by
 obtain⟨p1,p2⟩:=pas_n8 ha h0 h1
 have hb:=p1.bd
 have hm:=ha.bd
 have hc:carO (38*k) a=0∨carO (38*k) a=1:=by
  rw[pw8] at hb hm
  omega
 match a,ha.len with
 | [a0,a1,a2,a3,a4,a5,a6,a7],_=>
  rw[raw_folded2,u_mul38 h0 h1]
  rcases hc with hc|hc
  ·rw[hc,Int.zero_mul,Int.sub_zero] at p1
   rw[hc,if_pos (gtr0.2 (Int.le_refl _))]
   have:=p1.bd
   exact dnO_n8 3 p1 (by rw[pw8] at this; unfold spP; omega)
  ·rw[hc,Int.one_mul] at p1
   rw[hc,if_neg (fun e=>by have:=gtr0.1 e; omega)]
   have hf:=fold1_n8 p1 (k:=1) (by omega) (by omega) (by rw[pw8] at hm ⊢; omega)
   unfold fold8
   rw[fixL_id hf.len,l8_id hf.len]
   have e:(m+38*k-pw 8+38*1)=(m+38*k) + -2*spP:=by rw[pw8]; unfold spP; omega
   rw[e,Int.add_mul_emod_self_right] at hf
   exact hf
theorem dnP_gen{P:Int}(hp:N8 prm8 P):∀ (n:Nat) {d:List Int} {m:Int},N8 d m→m<((n:Int)+1)*P→dnP n d
 |0,d,m,h,hm=>⟨not0.2 fun e=>by have:=(less1_n8 h hp).1 e; omega,trivial⟩
 | n+1,d,m,h,hm=>by
  unfold dnP
  by_cases hl:P≤m
  ·rw[if_neg (fun e=>not0.1 e ((less1_n8 h hp).2 hl))]
   refine dnP_gen hp n (rest8_n8 h hp hl) ?_
   have:((n+1:Nat):Int)+1=((n:Int)+1)+1:=by omega
   rw[this,Int.add_mul ((n:Int)+1)] at hm
   omega
  ·rw[if_pos (not0.2 fun e=>hl ((less1_n8 h hp).1 e))]
   trivial
theorem fo1_ob{a:List Int}{m k:Int}(ha:N8 a m)(h0:0≤k)(h1:k<4294967296)(h:m+38*k<pw 8):evOb C_spec_folded1.T (i_spec_folded.treet C_spec_folded1) (insE [a,[k]]):=by
 refine evObX_ok ?_
 obtain⟨p1,p2⟩:=pas_n8 ha h0 h1
 have hb:=p1.bd
 have hc:carO (38*k) a=0:=by
  rw[pw8] at hb h
  omega
 rw[hc,Int.zero_mul,Int.sub_zero] at p1
 match a,ha.len with
 | [a0,a1,a2,a3,a4,a5,a6,a7],_=>
  rw[ob_folded1,u_mul38 h0 h1,hc,if_pos (gtr0.2 (Int.le_refl _))]
  exact dnP_gen prm8_n8 3 p1 (by rw[pw8] at h; unfold spP; omega)
theorem fo2_ob{a:List Int}{m k:Int}(ha:N8 a m)(h0:0≤k)(h1:k<4294967296):evOb C_spec_folded2.T (i_spec_folded.treet C_spec_folded2) (insE [a,[k]]):=by
 refine evObX_ok ?_
 obtain⟨p1,p2⟩:=pas_n8 ha h0 h1
 have hb:=p1.bd
 have hm:=ha.bd
 have hc:carO (38*k) a=0∨carO (38*k) a=1:=by
  rw[pw8] at hb hm
  omega
 match a,ha.len with
 | [a0,a1,a2,a3,a4,a5,a6,a7],_=>
  rw[ob_folded2,u_mul38 h0 h1]
  rcases hc with hc|hc
  ·rw[hc,Int.zero_mul,Int.sub_zero] at p1
   rw[hc,if_pos (gtr0.2 (Int.le_refl _))]
   have:=p1.bd
   exact dnP_gen prm8_n8 3 p1 (by rw[pw8] at this; unfold spP; omega)
  ·rw[hc,Int.one_mul] at p1
   rw[hc,if_neg (fun e=>by have:=gtr0.1 e; omega)]
   exact⟨⟨by omega,by omega,_,p1,by rw[pw8] at hm ⊢; omega⟩,trivial⟩
theorem fo_cases{Q:List Int→Int→Prop}{ins:List (List Int)} (h:match ins with
 | [a,[k]]=>Q a k
 |_=>False):∃ a k,ins= [a,[k]]∧Q a k:=by
 match ins,h with
 | [a,[k]],h=>exact⟨a,k,rfl,h⟩
section
variable{GB:Nat}{GC:Nat→Nat→Option Value}{ad:Nat→Nat×Nat}
theorem ok_spec_folded0:FEOk Tryz.prog GB GC 87 (.one s_spec_folded0):=FEOk.one fun _ _ _ _ _ _ _ _ h=>(h rfl).elim
theorem ok_spec_folded1(hG:GOk GB GC ad):FEOk Tryz.prog GB GC 87 (.one s_spec_folded1):=FnI.okHT (mkC_ok hG (.cons (k:=54) rfl (ok_spec_less hG) Tryz.call54 (FnI.len _ _) (.cons (k:=79) rfl (ok_spec_prime hG) Tryz.call79 (FnI.len _ _) (.cons (k:=86) rfl (ok_spec_rest hG) Tryz.call86 (FnI.len _ _) (.cons (k:=87) rfl ok_spec_folded0 Tryz.call87 (fun _=>LenOk_auto _ _ _ _) .nil)))) .nil) Tryz.func87 rfl rfl rfl rfl (gls_of hG (.inl rfl)).1 (gls_of hG (.inl rfl)).2 chk_spec_folded1 fun ins _ h=>by
 obtain⟨a,k,rfl,h0,h1,m,h2,h3⟩:=fo_cases h
 exact fo1_ob h2 h0 h1 h3
theorem ok_spec_folded2(hG:GOk GB GC ad):FEOk Tryz.prog GB GC 87 (.one s_spec_folded2):=FnI.okHT (mkC_ok hG (.cons (k:=54) rfl (ok_spec_less hG) Tryz.call54 (FnI.len _ _) (.cons (k:=79) rfl (ok_spec_prime hG) Tryz.call79 (FnI.len _ _) (.cons (k:=86) rfl (ok_spec_rest hG) Tryz.call86 (FnI.len _ _) (.cons (k:=87) rfl (ok_spec_folded1 hG) Tryz.call87 (fun _=>LenOk_auto _ _ _ _) .nil)))) .nil) Tryz.func87 rfl rfl rfl rfl (gls_of hG (.inl rfl)).1 (gls_of hG (.inl rfl)).2 chk_spec_folded2 fun ins _ h=>by
 obtain⟨a,k,rfl,h0,h1,m,h2⟩:=fo_cases h
 exact fo2_ob h2 h0 h1
end
end Go.Proofs.YtloibefkijfdlaaGreatDoor
