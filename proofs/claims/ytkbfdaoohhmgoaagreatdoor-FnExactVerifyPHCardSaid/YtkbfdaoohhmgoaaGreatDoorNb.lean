/- Contracts of the reference: folded. -/
import Derived.Test.YtkbfdaoohhmgoaaGreatDoorNa
import Derived.Test.YtkbfdaoohhmgoaaGreatDoorSq
namespace Go.Proofs.YtkbfdaoohhmgoaaGreatDoor
noncomputable section
open Go
def fo1:List (List Int)->Prop
 | [a,[k]]=>0<=k/\k<4294967296/\∃m,N8 a m/\m+38*k<pw 8
 |_=>False
def fo2:List (List Int)->Prop
 | [a,[k]]=>0<=k/\k<4294967296/\∃m,N8 a m
 |_=>False
def Dr:Ac:=⟨170,Ab Tryz.f47,Tryz.f47.ntmps,Tryz.f47.results.toList,[],⟨[.agg (List.replicate 8 .u64),.int .u64],true,λ_=>False,[],[],[.agg (List.replicate 8 .u64) z1]⟩⟩
def Te:Az:=Kc ⟨[.agg (List.replicate 8 .u64),.int .u64],true,λ_=>False,[],[],[.agg (List.replicate 8 .u64) z1]⟩ (λ_ _=>[]) true (λ_=>False)
def FJ:Cx:=F7 [(18,.one Ny),(35,.one Dy),(49,.one I9),(47,.one Te)] []
def Sy:Az:=Dr.D0 FJ fo1
theorem XI:Dr.vi FJ=true:=by kernel_rfl
def DW:Cx:=F7 [(18,.one Ny),(35,.one Dy),(49,.one I9),(47,.one Sy)] []
def PZ:Az:=Dr.D0 DW fo2
theorem XH:Dr.vi DW=true:=by kernel_rfl
end
noncomputable section
open Go
theorem nC{C:Cx}{i:Ac}{k:Nat}{ins:List (List Int)}:i.fW C k ins=WE C i.s0 i.cA k (i.fx C) (BK ins):=by
 rw[<- Sq];show Ru C i.s0 i.cA (i.fx C) k ins=_;unfold Ru;cases Wu C.T (i.fx C) (BK ins) with
 |none=>rfl
 |some p=>rfl
def Vp:Int->List Int->List Int
 |c,x::r=>CU .rem (CU .add c x) 4294967296::Vp (CU .quo (CU .add c x) 4294967296) r
 |_,[]=>[]
def Pn:Int->List Int->Int
 |c,x::r=>Pn (CU .quo (CU .add c x) 4294967296) r
 |c,[]=>c
def TO:Nat->List Int->List Int
 |0,d=>l8 d
 |n+1,d=>if KQ ((ZR d ZM).getD 0 0 == 0)=0 then l8 d else TO n (aQ d ZM)
def z8(_:List Int)(_:Int):List Int:=BF 8 []
def X3(C:Cx)(a:List Int)(c:Int):List Int:=BF 8 (Dr.fW C 0 [a,[c]])
theorem oG{a b c d e f g h k:Int}:Dr.fW FJ 0 [[a,b,c,d,e,f,g,h],[k]]=if CU .gtr (Pn (CU .mul 38 k) [a,b,c,d,e,f,g,h]) 0=0 then TO 3 (Vp (CU .mul 38 k) [a,b,c,d,e,f,g,h])
  else l8 (z8 (Vp (CU .mul 38 k) [a,b,c,d,e,f,g,h]) (Pn (CU .mul 38 k) [a,b,c,d,e,f,g,h])):=by
 rw[nC]
 kernel_rfl
theorem nJ{a b c d e f g h k:Int}:Dr.fW DW 0 [[a,b,c,d,e,f,g,h],[k]]=if CU .gtr (Pn (CU .mul 38 k) [a,b,c,d,e,f,g,h]) 0=0 then TO 3 (Vp (CU .mul 38 k) [a,b,c,d,e,f,g,h])
  else l8 (X3 FJ (Vp (CU .mul 38 k) [a,b,c,d,e,f,g,h]) (Pn (CU .mul 38 k) [a,b,c,d,e,f,g,h])):=by
 rw[nC]
 kernel_rfl
def dnP:Nat->List Int->Prop
 |0,d=>KQ ((ZR d ZM).getD 0 0 == 0)=0/\True
 |n+1,d=>if KQ ((ZR d ZM).getD 0 0 == 0)=0 then True else dnP n (aQ d ZM)
theorem uN{a b c d e f g h k:Int}:Ji FJ.T (Dr.fx FJ) (BK [[a,b,c,d,e,f,g,h],[k]])=if CU .gtr (Pn (CU .mul 38 k) [a,b,c,d,e,f,g,h]) 0=0 then dnP 3 (Vp (CU .mul 38 k) [a,b,c,d,e,f,g,h]) else False/\True:=by kernel_rfl
theorem vC{a b c d e f g h k:Int}:Ji DW.T (Dr.fx DW) (BK [[a,b,c,d,e,f,g,h],[k]])=if CU .gtr (Pn (CU .mul 38 k) [a,b,c,d,e,f,g,h]) 0=0 then dnP 3 (Vp (CU .mul 38 k) [a,b,c,d,e,f,g,h]) else fo1 [Vp (CU .mul 38 k) [a,b,c,d,e,f,g,h],[Pn (CU .mul 38 k) [a,b,c,d,e,f,g,h]]]/\True:=by kernel_rfl
end
section
open Go
theorem yO:∀ {l:List Int} {c:Int},dg l->0<=c->c<9223372036854775808->dg (Vp c l)/\(Vp c l).length=l.length/\0<=Pn c l/\Pn c l<9223372036854775808/\c+nv l=nv (Vp c l)+Pn c l*pw l.length
 | [],c,_,h0,h1=>⟨.nil,rfl,h0,h1,by simp[Vp,Pn,nv,pw]⟩
 |x::r,c,h,h0,h1=>by
  obtain⟨x1,x2⟩:=h.cons;have e1:CU .add c x=c+x:=SQ (by omega) (by omega);have e2:CU .rem (c+x) 4294967296=(c+x)%4294967296:=fI (by omega);have e3:CU .quo (c+x) 4294967296=(c+x)/4294967296:=gX (by omega) (by omega);obtain⟨i1,i2,i3,i4,i5⟩:=yO (l:=r) (c:=(c+x)/4294967296) x2 (by omega) (by omega);unfold Vp Pn;rw[e1,e2,e3];refine⟨.mk ⟨by omega,by omega⟩ i1,by rw[NY,i2,NY],i3,i4,?_⟩;simp only[nv,NY,pw];have e4:Pn ((c+x)/4294967296) r*(4294967296*pw r.length)=4294967296*(Pn ((c+x)/4294967296) r*pw r.length):=by rw[Int.mul_left_comm]
  rw[e4];omega
theorem rZ{a:List Int}{m:Int}(h:N8 a m):N8 (BF 8 a) m:=by rw[Ay h.len];exact h
theorem jG:N8 ZM Ux:=rZ bP
set_option maxRecDepth 100000 in
theorem AEG{a:Int}:KQ (a == 0)=0↔a≠0:=by
 by_cases h:a=0
 ·subst h;exact⟨λe=>absurd (show(1:Int)=0 from e) (by decide),λe=>absurd rfl e⟩
 ·have:(a == 0)=false:=by simpa using h
  rw[this];exact⟨λ_=>h,λ_=>rfl⟩
theorem wE{P:Int}(hp:N8 ZM P):∀(n:Nat) {d:List Int} {m:Int},N8 d m->m<((n:Int)+1)*P->N8 (TO n d) (m%P)
 |0,d,m,h,hm=>by
  have:=h.bd;unfold TO;rw[Uh h.len,uu (by omega) (by omega)];exact h
 | n+1,d,m,h,hm=>by
  have hb:=h.bd;unfold TO;by_cases hl:P<=m
  ·rw[if_neg (λe=>AEG.1 e ((Mq h hp).2 hl)), <- Int.sub_emod_right];refine wE hp n (TR h hp hl) ?_;have:((n+1:Nat):Int)+1=((n:Int)+1)+1:=by omega
   rw[this,Bx ((n:Int)+1)] at hm;omega
  ·rw[if_pos (AEG.2 λe=>hl ((Mq h hp).1 e)),Uh h.len,uu hb.1 (by omega)];exact h
theorem ACG(n:Nat){d:List Int}{m:Int}(h:N8 d m)(hm:m<((n:Int)+1)*Ux):N8 (TO n d) (m%Ux):=wE jG n h hm
end
section
open Go
theorem ABH{k:Int}:CU .gtr k 0=0↔k<=0:=by
 show KQ (decide (k>0))=0↔_;by_cases h:k>0
 ·rw[decide_eq_true h];exact⟨λe=>absurd (show(1:Int)=0 from e) (by decide),λe=>absurd h (by omega)⟩
 ·rw[decide_eq_false h];exact⟨λ_=>by omega,λ_=>rfl⟩
theorem CI:pw 8=115792089237316195423570985008687907853269984665640564039457584007913129639936:=by kernel_rfl
theorem Yw{k:Int}(h0:0<=k)(h1:k<4294967296):CU .mul 38 k=38*k:=by
 show IntKind.u64.wrap (38*k)=_;exact SN (by omega) (by omega)
theorem jo{a:List Int}{m k:Int}(ha:N8 a m)(h0:0<=k)(h1:k<4294967296):N8 (Vp (38*k) a) (m+38*k-Pn (38*k) a*pw 8)/\0<=Pn (38*k) a:=by
 obtain⟨i1,i2,i3,_,i5⟩:=yO (l:=a) (c:=38*k) ha.dg (by omega) (by omega);rw[ha.len,ha.val] at i5;exact⟨⟨by rw[i2,ha.len],i1,by omega⟩,i3⟩
theorem AB0{a:List Int}{m k:Int}(ha:N8 a m)(h0:0<=k)(h1:k<4294967296)(h:m+38*k<pw 8):N8 (Dr.fW FJ 0 [a,[k]]) ((m+38*k)%Ux):=by
 obtain⟨p1,p2⟩:=jo ha h0 h1;have hb:=p1.bd;have hc:Pn (38*k) a=0:=by
  rw[CI] at hb h;omega
 rw[hc,RW,Int.sub_zero] at p1
 match a,ha.len with
 | [a0,a1,a2,a3,a4,a5,a6,a7],_=>
  rw[oG,Yw h0 h1,hc,if_pos (ABH.2 (gq _))];exact ACG 3 p1 (by rw[CI] at h;unfold Ux;omega)
theorem ADF{a:List Int}{m k:Int}(ha:N8 a m)(h0:0<=k)(h1:k<4294967296):N8 (Dr.fW DW 0 [a,[k]]) ((m+38*k)%Ux):=by
 obtain⟨p1,p2⟩:=jo ha h0 h1;have hb:=p1.bd;have hm:=ha.bd;have hc:Pn (38*k) a=0\/Pn (38*k) a=1:=by
  rw[CI] at hb hm;omega
 match a,ha.len with
 | [a0,a1,a2,a3,a4,a5,a6,a7],_=>
  rw[nJ,Yw h0 h1];rcases hc with hc|hc
  ·rw[hc,RW,Int.sub_zero] at p1;rw[hc,if_pos (ABH.2 (gq _))];have:=p1.bd;exact ACG 3 p1 (by rw[CI] at this;unfold Ux;omega)
  ·rw[hc,zda] at p1;rw[hc,if_neg (λe=>by have:=ABH.1 e;omega)];have hf:=AB0 p1 (k:=1) (by omega) (by omega) (by rw[CI] at hm ⊢;omega);unfold X3;rw[Ay hf.len,Uh hf.len];have e:(m+38*k-pw 8+38*1)=(m+38*k) + -2*Ux:=by rw[CI];unfold Ux;omega
   rw[e,Int.add_mul_emod_self_right] at hf;exact hf
theorem ic{P:Int}(hp:N8 ZM P):∀(n:Nat) {d:List Int} {m:Int},N8 d m->m<((n:Int)+1)*P->dnP n d
 |0,d,m,h,hm=>⟨AEG.2 λe=>by have:=(Mq h hp).1 e;omega,trivial⟩
 | n+1,d,m,h,hm=>by
  unfold dnP;by_cases hl:P<=m
  ·rw[if_neg (λe=>AEG.1 e ((Mq h hp).2 hl))];refine ic hp n (TR h hp hl) ?_;have:((n+1:Nat):Int)+1=((n:Int)+1)+1:=by omega
   rw[this,Bx ((n:Int)+1)] at hm;omega
  ·rw[if_pos (AEG.2 λe=>hl ((Mq h hp).1 e))];trivial
theorem AOl{a:List Int}{m k:Int}(ha:N8 a m)(h0:0<=k)(h1:k<4294967296)(h:m+38*k<pw 8):Cv FJ.T (Dr.fx FJ) (BK [a,[k]]):=by
 refine Dl ?_;obtain⟨p1,p2⟩:=jo ha h0 h1;have hb:=p1.bd;have hc:Pn (38*k) a=0:=by
  rw[CI] at hb h;omega
 rw[hc,RW,Int.sub_zero] at p1
 match a,ha.len with
 | [a0,a1,a2,a3,a4,a5,a6,a7],_=>
  rw[uN,Yw h0 h1,hc,if_pos (ABH.2 (gq _))];exact ic jG 3 p1 (by rw[CI] at h;unfold Ux;omega)
theorem AOq{a:List Int}{m k:Int}(ha:N8 a m)(h0:0<=k)(h1:k<4294967296):Cv DW.T (Dr.fx DW) (BK [a,[k]]):=by
 refine Dl ?_;obtain⟨p1,p2⟩:=jo ha h0 h1;have hb:=p1.bd;have hm:=ha.bd;have hc:Pn (38*k) a=0\/Pn (38*k) a=1:=by
  rw[CI] at hb hm;omega
 match a,ha.len with
 | [a0,a1,a2,a3,a4,a5,a6,a7],_=>
  rw[vC,Yw h0 h1];rcases hc with hc|hc
  ·rw[hc,RW,Int.sub_zero] at p1;rw[hc,if_pos (ABH.2 (gq _))];have:=p1.bd;exact ic jG 3 p1 (by rw[CI] at this;unfold Ux;omega)
  ·rw[hc,zda] at p1;rw[hc,if_neg (λe=>by have:=ABH.1 e;omega)];exact⟨⟨by omega,by omega,_,p1,by rw[CI] at hm ⊢;omega⟩,trivial⟩
theorem pF{Q:List Int->Int->Prop}{ins:List (List Int)} (h:match ins with
 | [a,[k]]=>Q a k
 |_=>False):∃a k,ins= [a,[k]]/\Q a k:=by
 match ins,h with
 | [a,[k]],h=>exact⟨a,k,rfl,h⟩
section
variable{GB:Nat}{GC:Nat->Nat->Option Value}{ad:Nat->Nat×Nat}
theorem YM:Bv Tryz.prog GB GC 47 (.one Te):=Bv.one λ_ _ _ _ _ _ _ _ h=>(h rfl).elim
theorem YC(hG:GI GB GC ad):Bv Tryz.prog GB GC 47 (.one Sy):=Ac.adt (PT hG (.cons (k:=18) rfl (Me hG) Tryz.call18 (Ac.len _ _) (.cons (k:=35) rfl (Ib hG) Tryz.call35 (Ac.len _ _) (.cons (k:=49) rfl (Ml hG) Tryz.call49 (Ac.len _ _) (.cons (k:=47) rfl YM Tryz.call47 (λ_=>Eh _ _ _ _) .nil)))) .nil) Tryz.func47 rfl rfl rfl rfl (ER hG (.inl rfl)).1 (ER hG (.inl rfl)).2 XI λins _ h=>by
 obtain⟨a,k,rfl,h0,h1,m,h2,h3⟩:=pF h;exact AOl h2 h0 h1 h3
theorem SL(hG:GI GB GC ad):Bv Tryz.prog GB GC 47 (.one PZ):=Ac.adt (PT hG (.cons (k:=18) rfl (Me hG) Tryz.call18 (Ac.len _ _) (.cons (k:=35) rfl (Ib hG) Tryz.call35 (Ac.len _ _) (.cons (k:=49) rfl (Ml hG) Tryz.call49 (Ac.len _ _) (.cons (k:=47) rfl (YC hG) Tryz.call47 (λ_=>Eh _ _ _ _) .nil)))) .nil) Tryz.func47 rfl rfl rfl rfl (ER hG (.inl rfl)).1 (ER hG (.inl rfl)).2 XH λins _ h=>by
 obtain⟨a,k,rfl,h0,h1,m,h2⟩:=pF h;exact AOq h2 h0 h1
end
end
end Go.Proofs.YtkbfdaoohhmgoaaGreatDoor
