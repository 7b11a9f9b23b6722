/- Contracts of the reference: folded. -/
import Derived.Test.YtloibefkijfdlaaGreatDoorNa
import Derived.Test.YtloibefkijfdlaaGreatDoorSq
namespace Go.Proofs.YtloibefkijfdlaaGreatDoor
noncomputable section
open Go
def fo1:List (List Int)→Prop
 | [a,[k]]=>0≤k∧k<4294967296∧∃ m,N8 a m∧m+38*k<pw 8
 |_=>False
def fo2:List (List Int)→Prop
 | [a,[k]]=>0≤k∧k<4294967296∧∃ m,N8 a m
 |_=>False
def EK:AQ:=⟨170,Ab Tryz.f87,Tryz.f87.ntmps,Tryz.f87.results.toList,[],⟨[.agg (List.replicate 8 .u64),.int .u64],true,fun _=>False,[],[],[.agg (List.replicate 8 .u64) z1]⟩⟩
def Tw:Az:=Lu ⟨[.agg (List.replicate 8 .u64),.int .u64],true,fun _=>False,[],[],[.agg (List.replicate 8 .u64) z1]⟩ (fun _ _=>[]) true (fun _=>False)
def GU:Cx:=GJ [(54,.one PU),(79,.one EQ),(86,.one KC),(87,.one Tw)] []
def UK:Az:=EK.sumHT GU fo1
theorem X7:EK.chkt GU=true:=by kernel_rfl
def Dt:Cx:=GJ [(54,.one PU),(79,.one EQ),(86,.one KC),(87,.one UK)] []
def Qh:Az:=EK.sumHT Dt fo2
theorem YG:EK.chkt Dt=true:=by kernel_rfl
end
noncomputable section
open Go
theorem oq{C:Cx}{i:AQ}{k:Nat}{ins:List (List Int)}:i.rawt C k ins=Wl C i.s0 i.rvs k (i.treet C) (A8 ins):=by
 rw[← Tm];show SF C i.s0 i.rvs (i.treet C) k ins=_;unfold SF
 cases Xq C.T (i.treet C) (A8 ins) with
 |none=>rfl
 |some p=>rfl
def Xh:Int→List Int→List Int
 |c,x::r=>CZ .rem (CZ .add c x) 4294967296::Xh (CZ .quo (CZ .add c x) 4294967296) r
 |_,[]=>[]
def Qb:Int→List Int→Int
 |c,x::r=>Qb (CZ .quo (CZ .add c x) 4294967296) r
 |c,[]=>c
def dnO:Nat→List Int→List Int
 |0,d=>l8 d
 |n+1,d=>if K9 ((aZ d fH).getD 0 0 == 0)=0 then l8 d else dnO n (cO d fH)
def z8(_:List Int)(_:Int):List Int:=Aw 8 []
def Ym(C:Cx)(a:List Int)(c:Int):List Int:=Aw 8 (EK.rawt C 0 [a,[c]])
theorem qK{a b c d e f g h k:Int}:EK.rawt GU 0 [[a,b,c,d,e,f,g,h],[k]]=if CZ .gtr (Qb (CZ .mul 38 k) [a,b,c,d,e,f,g,h]) 0=0 then dnO 3 (Xh (CZ .mul 38 k) [a,b,c,d,e,f,g,h])
  else l8 (z8 (Xh (CZ .mul 38 k) [a,b,c,d,e,f,g,h]) (Qb (CZ .mul 38 k) [a,b,c,d,e,f,g,h])):=by
 rw[oq]
 kernel_rfl
theorem qo{a b c d e f g h k:Int}:EK.rawt Dt 0 [[a,b,c,d,e,f,g,h],[k]]=if CZ .gtr (Qb (CZ .mul 38 k) [a,b,c,d,e,f,g,h]) 0=0 then dnO 3 (Xh (CZ .mul 38 k) [a,b,c,d,e,f,g,h])
  else l8 (Ym GU (Xh (CZ .mul 38 k) [a,b,c,d,e,f,g,h]) (Qb (CZ .mul 38 k) [a,b,c,d,e,f,g,h])):=by
 rw[oq]
 kernel_rfl
def dnP:Nat→List Int→Prop
 |0,d=>K9 ((aZ d fH).getD 0 0 == 0)=0∧True
 |n+1,d=>if K9 ((aZ d fH).getD 0 0 == 0)=0 then True else dnP n (cO d fH)
theorem uD{a b c d e f g h k:Int}:J9 GU.T (EK.treet GU) (A8 [[a,b,c,d,e,f,g,h],[k]])=if CZ .gtr (Qb (CZ .mul 38 k) [a,b,c,d,e,f,g,h]) 0=0 then dnP 3 (Xh (CZ .mul 38 k) [a,b,c,d,e,f,g,h]) else False∧True:=by kernel_rfl
theorem vv{a b c d e f g h k:Int}:J9 Dt.T (EK.treet Dt) (A8 [[a,b,c,d,e,f,g,h],[k]])=if CZ .gtr (Qb (CZ .mul 38 k) [a,b,c,d,e,f,g,h]) 0=0 then dnP 3 (Xh (CZ .mul 38 k) [a,b,c,d,e,f,g,h]) else fo1 [Xh (CZ .mul 38 k) [a,b,c,d,e,f,g,h],[Qb (CZ .mul 38 k) [a,b,c,d,e,f,g,h]]]∧True:=by kernel_rfl
end
section
open Go
theorem ww:∀ {l:List Int} {c:Int},dg l→0≤c→c<9223372036854775808→dg (Xh c l)∧(Xh c l).length=l.length∧0≤Qb c l∧Qb c l<9223372036854775808∧c+nv l=nv (Xh c l)+Qb c l*pw l.length
 | [],c,_,h0,h1=>⟨.nil,rfl,h0,h1,by simp[Xh,Qb,nv,pw]⟩
 |x::r,c,h,h0,h1=>by
  obtain⟨x1,x2⟩:=h.cons;have e1:CZ .add c x=c+x:=TH (by omega) (by omega);have e2:CZ .rem (c+x) 4294967296=(c+x)%4294967296:=jS (by omega);have e3:CZ .quo (c+x) 4294967296=(c+x)/4294967296:=iM (by omega) (by omega);obtain⟨i1,i2,i3,i4,i5⟩:=ww (l:=r) (c:=(c+x)/4294967296) x2 (by omega) (by omega);unfold Xh Qb;rw[e1,e2,e3];refine⟨.mk ⟨by omega,by omega⟩ i1,by rw[Oq,i2,Oq],i3,i4,?_⟩;simp only[nv,Oq,pw];have e4:Qb ((c+x)/4294967296) r*(4294967296*pw r.length)=4294967296*(Qb ((c+x)/4294967296) r*pw r.length):=by rw[Int.mul_left_comm]
  rw[e4];omega
theorem vL{a:List Int}{m:Int}(h:N8 a m):N8 (Aw 8 a) m:=by rw[Au h.len];exact h
theorem kr:N8 fH Vf:=vL dD
set_option maxRecDepth 100000 in
theorem AEf{a:Int}:K9 (a == 0)=0↔a≠0:=by
 by_cases h:a=0
 ·subst h;exact⟨fun e=>absurd (show (1:Int)=0 from e) (by decide),fun e=>absurd rfl e⟩
 ·have:(a == 0)=false:=by simpa using h
  rw[this];exact⟨fun _=>h,fun _=>rfl⟩
theorem xh{P:Int}(hp:N8 fH P):∀ (n:Nat) {d:List Int} {m:Int},N8 d m→m<((n:Int)+1)*P→N8 (dnO n d) (m%P)
 |0,d,m,h,hm=>by
  have:=h.bd;unfold dnO;rw[UT h.len,zcd (by omega) (by omega)];exact h
 | n+1,d,m,h,hm=>by
  have hb:=h.bd;unfold dnO
  by_cases hl:P≤m
  ·rw[if_neg (fun e=>AEf.1 e ((Nz h hp).2 hl)), ← Int.sub_emod_right];refine xh hp n (Uc h hp hl) ?_;have:((n+1:Nat):Int)+1=((n:Int)+1)+1:=by omega
   rw[this,sI ((n:Int)+1)] at hm;omega
  ·rw[if_pos (AEf.2 fun e=>hl ((Nz h hp).1 e)),UT h.len,zcd hb.1 (by omega)];exact h
theorem AF2(n:Nat){d:List Int}{m:Int}(h:N8 d m)(hm:m<((n:Int)+1)*Vf):N8 (dnO n d) (m%Vf):=xh kr n h hm
end
section
open Go
theorem ABA{k:Int}:CZ .gtr k 0=0↔k≤0:=by
 show K9 (decide (k>0))=0↔_
 by_cases h:k>0
 ·rw[decide_eq_true h];exact⟨fun e=>absurd (show (1:Int)=0 from e) (by decide),fun e=>absurd h (by omega)⟩
 ·rw[decide_eq_false h];exact⟨fun _=>by omega,fun _=>rfl⟩
theorem pw8:pw 8=115792089237316195423570985008687907853269984665640564039457584007913129639936:=by kernel_rfl
theorem Zu{k:Int}(h0:0≤k)(h1:k<4294967296):CZ .mul 38 k=38*k:=by
 show IntKind.u64.wrap (38*k)=_;exact TW (by omega) (by omega)
theorem lQ{a:List Int}{m k:Int}(ha:N8 a m)(h0:0≤k)(h1:k<4294967296):N8 (Xh (38*k) a) (m+38*k-Qb (38*k) a*pw 8)∧0≤Qb (38*k) a:=by
 obtain⟨i1,i2,i3,_,i5⟩:=ww (l:=a) (c:=38*k) ha.dg (by omega) (by omega);rw[ha.len,ha.val] at i5;exact⟨⟨by rw[i2,ha.len],i1,by omega⟩,i3⟩
theorem ADU{a:List Int}{m k:Int}(ha:N8 a m)(h0:0≤k)(h1:k<4294967296)(h:m+38*k<pw 8):N8 (EK.rawt GU 0 [a,[k]]) ((m+38*k)%Vf):=by
 obtain⟨p1,p2⟩:=lQ ha h0 h1;have hb:=p1.bd;have hc:Qb (38*k) a=0:=by
  rw[pw8] at hb h;omega
 rw[hc,zcr,Int.sub_zero] at p1
 match a,ha.len with
 | [a0,a1,a2,a3,a4,a5,a6,a7],_=>
  rw[qK,Zu h0 h1,hc,if_pos (ABA.2 (lw _))];exact AF2 3 p1 (by rw[pw8] at h;unfold Vf;omega)
theorem AB7{a:List Int}{m k:Int}(ha:N8 a m)(h0:0≤k)(h1:k<4294967296):N8 (EK.rawt Dt 0 [a,[k]]) ((m+38*k)%Vf):=by
 obtain⟨p1,p2⟩:=lQ ha h0 h1;have hb:=p1.bd;have hm:=ha.bd;have hc:Qb (38*k) a=0∨Qb (38*k) a=1:=by
  rw[pw8] at hb hm;omega
 match a,ha.len with
 | [a0,a1,a2,a3,a4,a5,a6,a7],_=>
  rw[qo,Zu h0 h1]
  rcases hc with hc|hc
  ·rw[hc,zcr,Int.sub_zero] at p1;rw[hc,if_pos (ABA.2 (lw _))];have:=p1.bd;exact AF2 3 p1 (by rw[pw8] at this;unfold Vf;omega)
  ·rw[hc,zcw] at p1;rw[hc,if_neg (fun e=>by have:=ABA.1 e;omega)];have hf:=ADU p1 (k:=1) (by omega) (by omega) (by rw[pw8] at hm ⊢;omega);unfold Ym;rw[Au hf.len,UT hf.len];have e:(m+38*k-pw 8+38*1)=(m+38*k) + -2*Vf:=by rw[pw8];unfold Vf;omega
   rw[e,Int.add_mul_emod_self_right] at hf;exact hf
theorem kw{P:Int}(hp:N8 fH P):∀ (n:Nat) {d:List Int} {m:Int},N8 d m→m<((n:Int)+1)*P→dnP n d
 |0,d,m,h,hm=>⟨AEf.2 fun e=>by have:=(Nz h hp).1 e;omega,trivial⟩
 | n+1,d,m,h,hm=>by
  unfold dnP
  by_cases hl:P≤m
  ·rw[if_neg (fun e=>AEf.1 e ((Nz h hp).2 hl))];refine kw hp n (Uc h hp hl) ?_;have:((n+1:Nat):Int)+1=((n:Int)+1)+1:=by omega
   rw[this,sI ((n:Int)+1)] at hm;omega
  ·rw[if_pos (AEf.2 fun e=>hl ((Nz h hp).1 e))];trivial
theorem AOw{a:List Int}{m k:Int}(ha:N8 a m)(h0:0≤k)(h1:k<4294967296)(h:m+38*k<pw 8):Cn GU.T (EK.treet GU) (A8 [a,[k]]):=by
 refine Dk ?_;obtain⟨p1,p2⟩:=lQ ha h0 h1;have hb:=p1.bd;have hc:Qb (38*k) a=0:=by
  rw[pw8] at hb h;omega
 rw[hc,zcr,Int.sub_zero] at p1
 match a,ha.len with
 | [a0,a1,a2,a3,a4,a5,a6,a7],_=>
  rw[uD,Zu h0 h1,hc,if_pos (ABA.2 (lw _))];exact kw kr 3 p1 (by rw[pw8] at h;unfold Vf;omega)
theorem ALp{a:List Int}{m k:Int}(ha:N8 a m)(h0:0≤k)(h1:k<4294967296):Cn Dt.T (EK.treet Dt) (A8 [a,[k]]):=by
 refine Dk ?_;obtain⟨p1,p2⟩:=lQ ha h0 h1;have hb:=p1.bd;have hm:=ha.bd;have hc:Qb (38*k) a=0∨Qb (38*k) a=1:=by
  rw[pw8] at hb hm;omega
 match a,ha.len with
 | [a0,a1,a2,a3,a4,a5,a6,a7],_=>
  rw[vv,Zu h0 h1]
  rcases hc with hc|hc
  ·rw[hc,zcr,Int.sub_zero] at p1;rw[hc,if_pos (ABA.2 (lw _))];have:=p1.bd;exact kw kr 3 p1 (by rw[pw8] at this;unfold Vf;omega)
  ·rw[hc,zcw] at p1;rw[hc,if_neg (fun e=>by have:=ABA.1 e;omega)];exact⟨⟨by omega,by omega,_,p1,by rw[pw8] at hm ⊢;omega⟩,trivial⟩
theorem qA{Q:List Int→Int→Prop}{ins:List (List Int)} (h:match ins with
 | [a,[k]]=>Q a k
 |_=>False):∃ a k,ins= [a,[k]]∧Q a k:=by
 match ins,h with
 | [a,[k]],h=>exact⟨a,k,rfl,h⟩
section
variable{GB:Nat}{GC:Nat→Nat→Option Value}{ad:Nat→Nat×Nat}
theorem Y9:Bp Tryz.prog GB GC 87 (.one Tw):=Bp.one fun _ _ _ _ _ _ _ _ h=>(h rfl).elim
theorem ZB(hG:Jk GB GC ad):Bp Tryz.prog GB GC 87 (.one UK):=AQ.okHT (OJ hG (.cons (k:=54) rfl (QJ hG) Tryz.call54 (AQ.len _ _) (.cons (k:=79) rfl (Ji hG) Tryz.call79 (AQ.len _ _) (.cons (k:=86) rfl (Ni hG) Tryz.call86 (AQ.len _ _) (.cons (k:=87) rfl Y9 Tryz.call87 (fun _=>FO _ _ _ _) .nil)))) .nil) Tryz.func87 rfl rfl rfl rfl (EE hG (.inl rfl)).1 (EE hG (.inl rfl)).2 X7 fun ins _ h=>by
 obtain⟨a,k,rfl,h0,h1,m,h2,h3⟩:=qA h;exact AOw h2 h0 h1 h3
theorem TN(hG:Jk GB GC ad):Bp Tryz.prog GB GC 87 (.one Qh):=AQ.okHT (OJ hG (.cons (k:=54) rfl (QJ hG) Tryz.call54 (AQ.len _ _) (.cons (k:=79) rfl (Ji hG) Tryz.call79 (AQ.len _ _) (.cons (k:=86) rfl (Ni hG) Tryz.call86 (AQ.len _ _) (.cons (k:=87) rfl (ZB hG) Tryz.call87 (fun _=>FO _ _ _ _) .nil)))) .nil) Tryz.func87 rfl rfl rfl rfl (EE hG (.inl rfl)).1 (EE hG (.inl rfl)).2 YG fun ins _ h=>by
 obtain⟨a,k,rfl,h0,h1,m,h2⟩:=qA h;exact ALp h2 h0 h1
end
end
end Go.Proofs.YtloibefkijfdlaaGreatDoor
