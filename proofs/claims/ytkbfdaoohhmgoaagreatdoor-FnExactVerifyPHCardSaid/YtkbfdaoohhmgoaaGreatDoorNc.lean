/- The reference's numbers: products modulo the prime, an element's bytes; their contracts. -/
import Derived.Test.YtkbfdaoohhmgoaaGreatDoorPb
namespace Go.Proofs.YtkbfdaoohhmgoaaGreatDoor
section
open Go
theorem AMs{x y:Int}(hx:0<=x/\x<4294967296)(hy:0<=y/\y<4294967296):CU .mul x y=x*y/\0<=x*y/\x*y<=4294967295*4294967295:=by
 have h1:0<=x*y:=Int.mul_nonneg hx.1 hy.1;have h2:x*y<=4294967295*4294967295:=Int.mul_le_mul (by omega) (by omega) hy.1 (by omega);refine⟨?_,h1,h2⟩;show IntKind.u64.wrap (x*y)=_;exact SN h1 (by omega)
theorem zS:∀ {os bs:List Int} {c a:Int},os.length=bs.length->dg os->dg bs->0<=c/\c<4294967296->0<=a/\a<4294967296->dg (Zl c os a bs)/\(Zl c os a bs).length=os.length+1/\nv (Zl c os a bs)=c+nv os+a*nv bs
 | [],[],c,a,_,_,_,hc,_=>⟨.mk hc .nil,rfl,by simp[Zl,nv]⟩
 |o::os,b::bs,c,a,hl,ho,hb,hc,ha=>by
  obtain⟨o1,o2⟩:=ho.cons;obtain⟨b1,b2⟩:=hb.cons;obtain⟨m1,m2,m3⟩:=AMs ha b1;have e1:CU .add (CU .add c o) (CU .mul a b)=c+o+a*b:=by rw[SQ (x:=c) (y:=o) (by omega) (by omega),m1,SQ (by omega) (by omega)]
  have e2:CU .rem (c+o+a*b) 4294967296=(c+o+a*b)%4294967296:=fI (by omega);have e3:CU .quo (c+o+a*b) 4294967296=(c+o+a*b)/4294967296:=gX (by omega) (by omega);obtain⟨i1,i2,i3⟩:=zS (os:=os) (bs:=bs) (c:=(c+o+a*b)/4294967296) (by simpa using hl) o2 b2 (by omega) ha;unfold Zl;rw[e1,e2,e3];refine⟨.mk ⟨by omega,by omega⟩ i1,by rw[NY,i2,NY],?_⟩;simp only[nv,i3];have e4:a*(b+4294967296*nv bs)=a*b+4294967296*(a*nv bs):=by rw[wK,Int.mul_left_comm]
  rw[e4];omega
 | [],_::_,_,_,h,_,_,_,_=>by simp at h
 |_::_,[],_,_,h,_,_,_,_=>by simp at h
theorem ADj:∀ {xs acc b:List Int},acc.length=b.length->dg xs->dg acc->dg b->dg (Fk xs acc b)/\(Fk xs acc b).length=xs.length+acc.length/\nv (Fk xs acc b)=nv acc+nv xs*nv b
 | [],acc,b,_,_,ha,_=>⟨ha,by simp[Fk],by simp[Fk,nv]⟩
 | x::xs,acc,b,hl,hx,ha,hb=>by
  obtain⟨x1,x2⟩:=hx.cons;obtain⟨r1,r2,r3⟩:=zS (c:=0) hl ha hb (by omega) x1;unfold Fk
  match hr:Zl 0 acc x b,r1,r2,r3 with
  |r0::rs,r1,r2,r3=>
   obtain⟨q1,q2⟩:=r1.cons;have hlen:rs.length=acc.length:=by simpa using r2
   obtain⟨i1,i2,i3⟩:=ADj (xs:=xs) (acc:=rs) (b:=b) (by omega) x2 q2 hb;simp only[Qx,List.drop_succ_cons,W7];refine⟨.mk q1 i1,by simp only[NY,i2];omega,?_⟩;simp only[nv] at r3 ⊢;rw[i3,Bx,YL];omega
  | [],r1,r2,r3=>simp at r2
theorem aj:∀ {xs ys:List Int} {c:Int},xs.length=ys.length->(Si c xs ys).length=xs.length
 | [],[],_,_=>rfl
 |_::xs,_::ys,c,h=>by
  unfold Si;rw[NY,aj (by simpa using h),NY]
 | [],_::_,_,h=>by simp at h
 |_::_,[],_,h=>by simp at h
theorem AKq(x y:Int):0<=CU .add x y/\CU .add x y<18446744073709551616:=by
 have h:=TY .u64 (x+y);have h1:0<=IntKind.u64.wrap (x+y):=h.1;have h2:IntKind.u64.wrap (x+y)<=18446744073709551615:=h.2;show 0<=IntKind.u64.wrap (x+y)/\IntKind.u64.wrap (x+y)<_;omega
theorem jk:∀ {xs ys:List Int} {c:Int},dg (Si c xs ys)
 |x::xs,y::ys,c=>by
  unfold Si;obtain⟨h1,h2⟩:=AKq (CU .add c x) (CU .mul 38 y);rw[fI h1];exact .mk (by omega) jk
 | [],_,_=>by unfold Si;exact .nil
 |_::_,[],_=>by unfold Si;exact .nil
theorem Zw:∀ {xs ys:List Int} {c:Int},0<=c/\c<4294967296->0<=VB c xs ys/\VB c xs ys<4294967296
 |x::xs,y::ys,c,_=>by
  unfold VB;obtain⟨h1,h2⟩:=AKq (CU .add c x) (CU .mul 38 y);rw[gX h1 h2];exact Zw (by omega)
 | [],_,_,h=>by unfold VB;exact h
 |_::_,[],_,h=>by unfold VB;exact h
theorem yZ:∀ {xs ys:List Int} {c:Int},xs.length=ys.length->dg xs->dg ys->0<=c/\c<4294967296->c+nv xs+38*nv ys=nv (Si c xs ys)+VB c xs ys*pw xs.length
 | [],[],c,_,_,_,_=>by simp[Si,VB,nv,pw]
 | x::xs,y::ys,c,hl,hx,hy,hc=>by
  obtain⟨x1,x2⟩:=hx.cons;obtain⟨y1,y2⟩:=hy.cons;have e0:CU .mul 38 y=38*y:=by
   show IntKind.u64.wrap (38*y)=_;exact SN (by omega) (by omega)
  have e1:CU .add (CU .add c x) (CU .mul 38 y)=c+x+38*y:=by rw[SQ (x:=c) (y:=x) (by omega) (by omega),e0,SQ (by omega) (by omega)]
  have e2:CU .rem (c+x+38*y) 4294967296=(c+x+38*y)%4294967296:=fI (by omega);have e3:CU .quo (c+x+38*y) 4294967296=(c+x+38*y)/4294967296:=gX (by omega) (by omega);have i:=yZ (xs:=xs) (ys:=ys) (c:=(c+x+38*y)/4294967296) (by simpa using hl) x2 y2 (by omega);unfold Si VB;rw[e1,e2,e3];simp only[nv,NY,pw];rw[Int.mul_left_comm (VB _ _ _)];omega
 | [],_::_,_,h,_,_,_=>by simp at h
 |_::_,[],_,h,_,_,_=>by simp at h
theorem ACc:∀ {x y:List Int},nv (x++y)=nv x+pw x.length*nv y
 | [],y=>by simp[nv,pw]
 |a::x,y=>by
  simp only[LS,nv,NY,pw,ACc (x:=x) (y:=y)];rw[YL,wK];omega
theorem ACX{a:List Int}{m k:Int}(ha:N8 a m)(h0:0<=k)(h1:k<4294967296):N8 (X3 DW a k) ((m+38*k)%Ux):=by
 have:=ADF ha h0 h1;unfold X3;rwa [Ay this.len]
theorem AC6{a b:List Int}{m n:Int}(ha:N8 a m)(hb:N8 b n):N8 (Gy.fW GA 0 [a,b]) (m*n%Ux):=by
 have z:(0:Int)<=0/\(0:Int)<4294967296:=by omega
 have d0:dg [0,0,0,0,0,0,0,0]:=.mk z (.mk z (.mk z (.mk z (.mk z (.mk z (.mk z (.mk z .nil)))))));obtain⟨t1,t2,t3⟩:=ADj (xs:=a) (acc:=[0,0,0,0,0,0,0,0]) (b:=b) (by rw[hb.len];rfl) ha.dg d0 hb.dg;change dg (N9 a b) at t1;change (N9 a b).length=_ at t2;change nv (N9 a b)=_ at t3;have awX:(N9 a b).length=16:=by rw[t2,ha.len];rfl
 rw[show nv [0,0,0,0,0,0,0,0]=0 from rfl,ha.val,hb.val,zde] at t3;have e:Gy.fW GA 0 [a,b]=l8 (X3 DW (Si 0 ((N9 a b).take 8) ((N9 a b).drop 8)) (VB 0 ((N9 a b).take 8) ((N9 a b).drop 8))):=by
  match a,ha.len,b,hb.len with
  | [_,_,_,_,_,_,_,_],_,[_,_,_,_,_,_,_,_],_=>exact AAU
 generalize N9 a b=t at *
 have l1:(t.take 8).length=8:=by rw[Qw];omega
 have l2:(t.drop 8).length=8:=by rw[VK];omega
 have x1:dg (t.take 8):=λx hx=>t1 x (List.mem_of_mem_take hx)
 have x2:dg (t.drop 8):=λx hx=>t1 x (HK hx)
 have hv:=yZ (c:=0) (by rw[l1,l2]) x1 x2 (by omega);have hN:N8 (Si 0 (t.take 8) (t.drop 8)) (nv (Si 0 (t.take 8) (t.drop 8))):=⟨by rw[aj (by rw[l1,l2]),l1],jk,rfl⟩;obtain⟨c1,c2⟩:=Zw (xs:=t.take 8) (ys:=t.drop 8) (c:=0) (by omega);have hf:=ACX hN c1 c2;rw[e,Uh hf.len];have ht:nv t=nv (t.take 8)+pw 8*nv (t.drop 8):=by
  have:=ACc (x:=t.take 8) (y:=t.drop 8);rwa [List.take_append_drop,l1] at this
 rw[l1] at hv;generalize nv (Si 0 (t.take 8) (t.drop 8))=lo at *
 generalize VB 0 (t.take 8) (t.drop 8)=cc at *
 generalize nv (t.take 8)=u at *
 generalize nv (t.drop 8)=v at *
 have e2:m*n%Ux=(lo+38*cc)%Ux:=by
  rw[<- t3,ht, <- zdd (lo+38*cc) (Int.dvd_refl Ux),zdd _ (Int.dvd_refl Ux)];refine Int.emod_eq_emod_iff_emod_sub_eq_zero.2 ?_;have:u+pw 8*v-(lo+38*cc)=Ux*(2*v+2*cc):=by
   rw[CI] at *
   unfold Ux;omega
  rw[this];exact Int.mul_emod_right _ _
 rw[e2];exact hf
theorem AQQ{ks:List IntKind}{ins:List (List Int)}(h:J8 [.agg ks,.agg ks] ins):∃a b,ins= [a,b]/\EP ks a/\EP ks b:=by
 match ins,h with
 | [a,b],h=>exact⟨a,b,rfl,h.1,h.2.1⟩
theorem AUF{ks:List IntKind}{ins:List (List Int)}(h:J8 [.agg ks] ins):∃a,ins= [a]/\EP ks a:=by
 match ins,h with
 | [a],h=>exact⟨a,rfl,h.1⟩
theorem ABY{a b:List Int}(ha:a.length=8)(hb:b.length=8):(N9 a b).length=16:=by
 have key:∀(os bs:List Int) (c x:Int),os.length=bs.length->(Zl c os x bs).length=os.length+1:=λos=>by
  induction os with
  |nil=>intro bs c x h;cases bs<;>rfl
  | cons o os ih=>
   intro bs c x h
   match bs,h with
   |b::bs,h=>
    unfold Zl;rw[NY,ih bs _ _ (by simpa using h),NY]
   | [],h=>simp at h
 have k2:∀(xs acc:List Int),acc.length=b.length->(Fk xs acc b).length=xs.length+acc.length:=λxs=>by
  induction xs with
  |nil=>intro acc _;simp[Fk]
  |cons x xs ih=>
   intro acc h;unfold Fk;have:=key acc b 0 x h;rw[NY,ih _ (by rw[VK];omega),VK,NY];omega
 have:=k2 a [0,0,0,0,0,0,0,0] (by rw[hb];rfl);rw[ha] at this;exact this
theorem ADk{ins:List (List Int)}(h:J8 Gy.s0.params ins):Cv GA.T (Gy.fx GA) (BK ins):=by
 obtain⟨a,b,rfl,ha,hb⟩:=AQQ h;have la:a.length=8:=ha.1;have lb:b.length=8:=hb.1;refine Dl ?_;have ht:=ABY la lb;have hl:(Si 0 ((N9 a b).take 8) ((N9 a b).drop 8)).length=8:=by rw[aj (by rw[Qw,VK];omega),Qw];omega
 obtain⟨c1,c2⟩:=Zw (xs:=(N9 a b).take 8) (ys:=(N9 a b).drop 8) (c:=0) (by omega);have hf:fo2 [Si 0 ((N9 a b).take 8) ((N9 a b).drop 8),[VB 0 ((N9 a b).take 8) ((N9 a b).drop 8)]]:=⟨c1,c2,_,hl,jk,rfl⟩
 match a,la,b,lb with
 | [_,_,_,_,_,_,_,_],_,[_,_,_,_,_,_,_,_],_=>
  rw[AFY];exact⟨hf,trivial⟩
def HQ:List Int->List Int
 | [b0,b1,b2,b3,b4,b5,b6,b7,b8,b9,b10,b11,ω,Γ,b14,b15,b16,b17,b18,Δ,b20,b21,b22,b23,Θ,Ψ,Ξ,b27,b28,b29,b30,b31]=>[b0,b1,b2,b3,b4,b5,b6,b7,b8,b9,b10,b11,ω,Γ,b14,b15,b16,b17,b18,Δ,b20,b21,b22,b23,Θ,Ψ,Ξ,b27,b28,b29,b30,Ak .rem .u8 b31 128]
 |_=>[]
theorem nA{b0 b1 b2 b3 b4 b5 b6 b7 b8 b9 b10 b11 ω Γ b14 b15 b16 b17 b18 Δ b20 b21 b22 b23 Θ Ψ Ξ b27 b28 b29 b30 b31:Int}:GQ.fW Ew 0 [[b0,b1,b2,b3,b4,b5,b6,b7,b8,b9,b10,b11,ω,Γ,b14,b15,b16,b17,b18,Δ,b20,b21,b22,b23,Θ,Ψ,Ξ,b27,b28,b29,b30,b31]]=l8 (X3 DW (jh (HQ [b0,b1,b2,b3,b4,b5,b6,b7,b8,b9,b10,b11,ω,Γ,b14,b15,b16,b17,b18,Δ,b20,b21,b22,b23,Θ,Ψ,Ξ,b27,b28,b29,b30,b31])) 0):=by kernel_rfl
theorem ui{b0 b1 b2 b3 b4 b5 b6 b7 b8 b9 b10 b11 ω Γ b14 b15 b16 b17 b18 Δ b20 b21 b22 b23 Θ Ψ Ξ b27 b28 b29 b30 b31:Int}:Ji Ew.T (GQ.fx Ew) (BK [[b0,b1,b2,b3,b4,b5,b6,b7,b8,b9,b10,b11,ω,Γ,b14,b15,b16,b17,b18,Δ,b20,b21,b22,b23,Θ,Ψ,Ξ,b27,b28,b29,b30,b31]])=(fo2 [jh (HQ [b0,b1,b2,b3,b4,b5,b6,b7,b8,b9,b10,b11,ω,Γ,b14,b15,b16,b17,b18,Δ,b20,b21,b22,b23,Θ,Ψ,Ξ,b27,b28,b29,b30,b31]),[0]]/\True):=by kernel_rfl
theorem ALm{b:Int}(h:0<=b/\b<=255):Ak .rem .u8 b 128=b%128:=by
 show b.tmod 128=_;exact Int.tmod_eq_emod_of_nonneg h.1
theorem SA:∀ {x y:List Int},Cm (x++y)=Cm x+256^x.length*Cm y
 | [],y=>by simp[Cm]
 |a::x,y=>by
  simp only[LS,Cm,NY,Hi,SA (x:=x) (y:=y)];rw[wK,bf (256^x.length) 256,YL];omega
theorem rG{l:List Int}(hl:l.length=32)(h:cI l):HQ l=l.take 31 ++ [l.getD 31 0%128]:=by
 match l,hl with
 | [b0,b1,b2,b3,b4,b5,b6,b7,b8,b9,b10,b11,ω,Γ,b14,b15,b16,b17,b18,Δ,b20,b21,b22,b23,Θ,Ψ,Ξ,b27,b28,b29,b30,b31],_=>
  have wc:=h b31 (by simp);show[b0,b1,b2,b3,b4,b5,b6,b7,b8,b9,b10,b11,ω,Γ,b14,b15,b16,b17,b18,Δ,b20,b21,b22,b23,Θ,Ψ,Ξ,b27,b28,b29,b30,Ak .rem .u8 b31 128]=_;rw[ALm wc];rfl
theorem AEL{l:List Int}(hl:l.length=32)(h:cI l):cI (HQ l)/\(HQ l).length=32:=by
 rw[rG hl h];refine⟨λx hx=>?_,by rw[NC,Qw,hl];rfl⟩;rcases qM.1 hx with hx|hx
 ·exact h x (List.mem_of_mem_take hx)
 ·have:=NU.1 hx;omega
theorem vU{l:List Int}(hl:l.length=32)(h:cI l):N8 (GQ.fW Ew 0 [l]) (Cm (HQ l)%Ux):=by
 obtain⟨h1,h2⟩:=AEL hl h;have hw:=rZ (Ws h2 h1);have hf:=ACX hw (k:=0) (by omega) (by omega);rw[Int.mul_zero,Mb] at hf
 match l,hl with
 | [_,_,_,_,_,_,_,_,_,_,_,_,_,_,_,_,_,_,_,_,_,_,_,_,_,_,_,_,_,_,_,_],_=>
  rw[nA];change N8 (X3 DW (jh _) 0) _ at hf;rw[Uh hf.len];exact hf
theorem EP.cI{l:List Int}{n:Nat}(h:EP (List.replicate n .u8) l):l.length=n/\cI l:=by
 have hl:l.length=n:=by have:=h.1;simpa using this
 refine⟨hl,λx hx=>?_⟩;obtain⟨i,hi,rfl⟩:=kY hx;have:=h.2 i .u8 l[i] (by rw[iF,if_pos (by omega)]) (Io hi);exact⟨this.1,this.2⟩
theorem vF{ins:List (List Int)}(h:J8 GQ.s0.params ins):Cv Ew.T (GQ.fx Ew) (BK ins):=by
 obtain⟨a,rfl,ha⟩:=AUF h;obtain⟨la,h8⟩:=ha.cI;obtain⟨h1,h2⟩:=AEL la h8;have hw:=rZ (Ws h2 h1);have hf:fo2 [jh (HQ a),[0]]:=⟨by decide,by decide,_,hw⟩;refine Dl ?_
 match a,la with
 | [_,_,_,_,_,_,_,_,_,_,_,_,_,_,_,_,_,_,_,_,_,_,_,_,_,_,_,_,_,_,_,_],_=>
  rw[ui];exact⟨hf,trivial⟩
section
variable{GB:Nat}{GC:Nat->Nat->Option Value}{ad:Nat->Nat×Nat}(hG:GI GB GC ad)
include hG
theorem IU:Bv Tryz.prog GB GC 32 (.one Cw):=Ac.okF (PT hG (.cons (k:=47) rfl (SL hG) Tryz.call47 (λ_=>Eh _ _ _ _) .nil) .nil) Tryz.func32 rfl rfl rfl rfl (ER hG (.inl rfl)).1 (ER hG (.inl rfl)).2 Z6 λ_ h=>ADk h
theorem YF:Bv Tryz.prog GB GC 31 (.one KC):=Ac.okF (PT hG (.cons (k:=17) rfl (Uq hG) Tryz.call17 (Ac.len _ _) (.cons (k:=47) rfl (SL hG) Tryz.call47 (λ_=>Eh _ _ _ _) .nil)) .nil) Tryz.func31 rfl rfl rfl rfl (ER hG (.inl rfl)).1 (ER hG (.inl rfl)).2 XM λ_ h=>vF h
end
end
noncomputable section
open Go
theorem Bv.AF{P:Program}{GB:Nat}{GC:Nat->Nat->Option Value}{f:Nat}{s:Az}(h:Bv P GB GC f (.one s))(hp:∀ins,J8 s.params ins->s.pre ins):Bv P GB GC f (.one { s with hp:=false }):=
 Bv.one λargs ins bs w h1 h2 h3 h4 _=>(h true args ins bs w h1 h2 h3 h4 (λ_=>hp ins (Yc h3)) rfl).mono λ_ _ ⟨fb,vs,he,hq⟩=>⟨fb,vs,he,⟨hq.len,hq.fr,hq.fd,hq.an,hq.outs,hq.fresh,hq.ret,hq.gw⟩⟩
def zX(T:Tb)(i:Ih):Be->Bu->Option (Bool×List (List Int))
 | .leaf e st,ρ=>match i.leaf e st with
  |some (b,al)=>some (b,al.map (·.den ρ))
  |none=>none
 | .ep ds _ t,ρ=>zX T i t (Df T ρ ds)
 | .br x t f,ρ=>if x.den ρ=0 then zX T i f ρ else zX T i t ρ
 | .gr f ar t e,ρ=>match lk f T with
  |some fe=>cond (fe.j7 (ar.map (·.den ρ))) (zX T i t ρ) (zX T i e ρ)
  |none=>none
 | .cN _ k,ρ=>zX T i k ρ
 | .bad _,_=>none
theorem Uy{T:Tb}{i:Ih}:∀ {t:Be} {ρ:Bu},(match WS T t ρ with
 |some (ρ,e,st)=>(match i.leaf e st with
  |some (b,al)=>some (b,al.map (·.den ρ))
  |none=>none)
 |none=>none)=zX T i t ρ
 | .leaf _ _,_=>rfl
 | .ep _ _ t,_=>Uy (t:=t)
 | .br x t f,ρ=>by
  unfold WS zX;by_cases h:x.den ρ=0
  ·rw[if_pos h,if_pos h];exact Uy (t:=f)
  ·rw[if_neg h,if_neg h];exact Uy (t:=t)
 | .gr f ar t e,ρ=>by
  unfold WS zX;cases lk f T with
  |none=>rfl
  |some fe=>
   simp only;cases fe.j7 (ar.map (·.den ρ)) with
   |true=>exact Uy (t:=t)
   |false=>exact Uy (t:=e)
 | .cN _ k,_=>Uy (t:=k)
 | .bad _,_=>rfl
theorem K3{i:Ih}{C:Cx}{ins:List (List Int)}:i.step C ins=zX C.T i (i.tree C) (BK ins):=Uy
def U8:List IntKind:=List.replicate 8 .u64
def BL:Ih:=⟨6000,PU 0 (Ab Tryz.f50),Tryz.f50.ntmps,0,[],⟨[.int .i64,.mem U8 1 true,.mem U8 2 false,.mem U8 3 false],true,λ_=>True,[(1,U8,z1)],[],[]⟩,[6,5,2,3],[8,9,10,11,12,13,14,15,16,17,18,19,20],λ_=>257⟩
def Af:Cx:=F7 [(32,.one Cw),(42,.one Ha)] []
def Gu:Ac:=⟨6000,Ab Tryz.f50,Tryz.f50.ntmps,Tryz.f50.results.toList,[],⟨[.agg U8,.agg U8],true,λ_=>True,[],[],[.agg U8 z1]⟩⟩
def GD:Cx:=kM ((1000000+50,.one (BL.sum Af (BL.pre Af))) :: [(34,.one DF)]) [] [(BL.id,⟨1000000+50,BL.ps,BL.ss,BL.cl,BL.nt⟩)]
def KY:Az:= { Gu.vu GD (λ_=>True) with hp:=false }
theorem YK:BL.cN Af=true:=by kernel_rfl
theorem ZF:Gu.cN GD=true:=by kernel_rfl
theorem aG{T:Tb}{i:Int}{o a e:List Int}:zX T BL (BL.tree Af) (BK [[i],o,a,e])=if KQ (decide (i >= 0))=0 then some (false,[[i],o,a,e]) else
  if(gv T 42 0 [e,[i]]).getD 0 0=0 then some (true,[[Ak .sub .i64 i 1],gv T 32 0 [o,o],a,e]) else some (true,[[Ak .sub .i64 i 1],gv T 32 0 [gv T 32 0 [o,o],a],a,e]):=by kernel_rfl
def AI9(e:List Int)(i:Int):Prop:=Ha.pre [e,[i]]
theorem dP{i:Int}{o a e:List Int}:Ji Af.T (BL.tree Af) (BK [[i],o,a,e])=if KQ (decide (i >= 0))=0 then True else
  (AI9 e i/\if(gv Af.T 42 0 [e,[i]]).getD 0 0=0 then True else True):=by kernel_rfl
theorem ABp{a e:List Int}:Ji GD.T (Gu.tree GD) (BK [a,e])=(BL.pre Af [[255],BF 8 [1,0,0,0,0,0,0,0],a,e]/\True):=by kernel_rfl
theorem AA5{a e:List Int}:Gu.raw GD 0 [a,e]=BF 8 ((BL.val Af [[255],BF 8 [1,0,0,0,0,0,0,0],a,e]).getD 1 []):=by kernel_rfl
end
section
open Go Ma
def NF(l:List Int)(x:Fp):Prop:=N8 l (x.val:Int)
theorem AOw:Ux=((PP:Nat):Int):=by kernel_rfl
theorem NF.of{l:List Int}{m:Int}{x:Fp}(h:N8 l (m%Ux))(hx:Jn m=x):NF l x:=by
 subst hx;unfold NF;rw[KX];exact h
theorem Xo(x:Fp):Jn (x.val:Int)=x:=AMR x
theorem ACY:Cw.pr 0= .l λa=>BF 8 (Gy.fW GA 0 a):=rfl
theorem Yz{T:Tb}(h:lk 32 T=some (.one Cw)){a b:List Int}{x y:Fp}(ha:NF a x)(hb:NF b y):NF (gv T 32 0 [a,b]) (x*y):=by
 have hn:=AC6 ha hb;rw[Bf h,ACY];show NF (BF 8 _) _;rw[Ay hn.len];exact NF.of hn (by rw[Yu,Xo,Xo])
def AOP(e:List Int)(i:Int):Int:=CU .eql (CU .rem (CU .shr (e.getD (Ak .quo .i64 i 32).toNat 0) (Ak .rem .i64 i 32)) 2) 1
theorem AHy{e:List Int}{i:Int}:NW.raw J3 0 [e,[i]]= [AOP e i]:=by kernel_rfl
theorem ALu{e:List Int}{i:Int}:Ji J3.T (NW.tree J3) (BK [e,[i]])=((0<=Ak .quo .i64 i 32/\Ak .quo .i64 i 32<((8:Nat):Int))/\0<=Ak .rem .i64 i 32/\True):=by kernel_rfl
theorem AKc{n:Nat}(h:n<1000):Ak .quo .i64 (n:Int) 32=((n/32:Nat):Int):=by
 show IntKind.i64.wrap ((n:Int).tdiv 32)=_;rw[Int.tdiv_eq_ediv_of_nonneg (by omega),H7 (k:=.i64) ⟨by show(-9223372036854775808:Int)<=_;omega,by show _<=(9223372036854775807:Int);omega⟩];omega
theorem AJ5{n:Nat}:Ak .rem .i64 (n:Int) 32=((n%32:Nat):Int):=by
 show(n:Int).tmod 32=_;rw[Int.tmod_eq_emod_of_nonneg (by omega)];omega
theorem AGY{e:List Int}{n:Nat}(h:n<256):Ha.pre [e,[(n:Int)]]:=by
 show Cv J3.T (NW.tree J3) (BK [e,[(n:Int)]]);refine Dl ?_;rw[ALu,AKc (by omega),AJ5];exact⟨⟨by omega,by omega⟩,by omega,trivial⟩
theorem APt{x a:Int}{r:Nat}(h:r<32):(x+4294967296*a)/2^r%2=x/2^r%2:=by
 have hp:(0:Int)<2^r:=Int.pow_pos (by decide);have e:(4294967296:Int)=2^r*(2*2^(31-r)):=by
  rw[show(2:Int)*2^(31-r)=2^(32-r) by rw[show 32-r=(31-r)+1 by omega,Hi,bf], <- Int.pow_add,show r+(32-r)=32 by omega];rfl
 rw[e,YL,Int.add_mul_ediv_left _ _ (Int.ne_of_gt hp),YL,Int.add_mul_emod_self_left]
theorem AB4:∀ {l:List Int} {q r:Nat},dg l->r<32->nv l/2^(32*q+r)%2=l.getD q 0/2^r%2
 | [],q,r,_,_=>by simp[nv]
 |x::l,0,r,_,hr=>by
  rw[Nat.mul_zero,KN,Qx];exact APt hr
 |x::l,q+1,r,h,hr=>by
  obtain⟨h1,h2⟩:=h.cons;have i:=AB4 (l:=l) (q:=q) h2 hr;rw[aa, <- i,show 32*(q+1)+r=32+(32*q+r) by omega,Int.pow_add, <- Int.ediv_ediv_of_nonneg (by decide)]
  congr 2
  simp only[nv];rw[show(2:Int)^32=4294967296 from rfl];omega
theorem AKM{l:List Int}(h:dg l)(q:Nat):0<=l.getD q 0/\l.getD q 0<4294967296:=by
 by_cases hq:q<l.length
 ·rw[show l.getD q 0=l[q] by simp[List.getD,hq]];exact h _ (ku hq)
 ·rw[show l.getD q 0=0 by simp[List.getD,hq]];omega
theorem AHC{e:List Int}{E n:Nat}(h:N8 e (E:Int))(hn:n<256):AOP e (n:Int)=KQ (decide (E/2^n%2=1)):=by
 unfold AOP;rw[AKc (by omega),AJ5,Rh];have hd:=AKM h.dg (n/32);have e1:CU .shr (e.getD (n/32) 0) ((n%32:Nat):Int)=e.getD (n/32) 0/2^(n%32):=by
  show(e.getD (n/32) 0).fdiv (2^(min ((n%32:Nat):Int).toNat 64))=_;rw[Rh,Nat.min_eq_left (by omega),Int.fdiv_eq_ediv_of_nonneg _ (Int.le_of_lt (Int.pow_pos (by decide)))]
 have e2:0<=e.getD (n/32) 0/2^(n%32):=Int.ediv_nonneg hd.1 (Int.le_of_lt (Int.pow_pos (by decide)));rw[e1];show KQ ((e.getD (n/32) 0/2^(n%32)).tmod 2 == 1)=_;rw[Int.tmod_eq_emod_of_nonneg e2, <- AB4 h.dg (L4 _ (by decide)),Nat.div_add_mod,h.val]
 congr 1
 have e3:(E:Int)/2^n%2=((E/2^n%2:Nat):Int):=by
  rw[Int.natCast_emod,Int.natCast_ediv,AC9];rfl
 rw[e3];by_cases hb:E/2^n%2=1
 ·rw[hb];rfl
 ·rw[decide_eq_false hb];have:¬(((E/2^n%2:Nat):Int)=1):=by omega
  simpa using this
theorem ANv:Ha.pr 0= .i λa=>d1 (NW.raw J3 0 a):=rfl
theorem ACn{T:Tb}(h:lk 42 T=some (.one Ha)){e:List Int}{E n:Nat}(he:N8 e (E:Int))(hn:n<256):gv T 42 0 [e,[(n:Int)]]= [KQ (decide (E/2^n%2=1))]:=by
 rw[Bf h,ANv];show[d1 (NW.raw J3 0 [e,[(n:Int)]])]=_;rw[AHy, <- AHC he hn];rfl
theorem Un{p:Prop}[Decidable p]:KQ (decide p)=0↔¬p:=by
 by_cases h:p
 ·rw[decide_eq_true h];exact⟨λe=>absurd (show(1:Int)=0 from e) (by decide),λe=>absurd h e⟩
 ·rw[decide_eq_false h];exact⟨λ_=>h,λ_=>rfl⟩
theorem API{n:Nat}(h:n<1000):Ak .sub .i64 ((n+1:Nat):Int) 1=(n:Int):=by
 show IntKind.i64.wrap (((n+1:Nat):Int)-1)=_;rw[H7 (k:=.i64) ⟨by show(-9223372036854775808:Int)<=_;omega,by show _<=(9223372036854775807:Int);omega⟩];omega
theorem AN1:Ak .sub .i64 (0:Int) 1= -1:=by decide +kernel
def MJ:Nat->Int
 |0=> -1
 |n+1=>n
theorem MQ:∀ {n:Nat},n<1000->Ak .sub .i64 (MJ (n+1)) 1=MJ n
 |0,_=>AN1
 |_+1,h=>API (by omega)
theorem YT:KQ (decide (MJ 0 >= 0))=0:=by decide
theorem UM(n:Nat):¬KQ (decide (MJ (n+1) >= 0))=0:=by
 rw[Un];have:MJ (n+1) >= 0:=nI n;exact λh=>h this
section
variable{st:List (List Int)->Option (Bool×List (List Int))}{ob:List (List Int)->Prop}{ins r:List (List Int)}{f:Nat}
theorem WC(h:ob ins)(hs:st ins=some (false,r)):Rm st ob (f+1) ins:=⟨h,by rw[hs];trivial⟩
theorem Ty(h:ob ins)(hs:st ins=some (true,r))(hn:Rm st ob f r):Rm st ob (f+1) ins:=⟨h,by rw[hs];exact hn⟩
theorem UF(hs:st ins=some (false,r)):Ht st (f+1) ins=r:=by unfold Ht;rw[hs]
theorem RF(hs:st ins=some (true,r)):Ht st (f+1) ins=Ht st f r:=by rw[Ht];rw[hs]
end
section
variable{o a e:List Int}{n:Nat}
theorem AEh:BL.step Af [[MJ 0],o,a,e]=some (false,[[MJ 0],o,a,e]):=by rw[K3,aG,if_pos YT]
theorem APb(hn:n<1000)(hb:(gv Af.T 42 0 [e,[MJ (n+1)]]).getD 0 0=0):BL.step Af [[MJ (n+1)],o,a,e]=some (true,[[MJ n],gv Af.T 32 0 [o,o],a,e]):=by rw[K3,aG,if_neg (UM n),if_pos hb,MQ hn]
theorem AP0(hn:n<1000)(hb:¬(gv Af.T 42 0 [e,[MJ (n+1)]]).getD 0 0=0):BL.step Af [[MJ (n+1)],o,a,e]=some (true,[[MJ n],gv Af.T 32 0 [gv Af.T 32 0 [o,o],a],a,e]):=by rw[K3,aG,if_neg (UM n),if_neg hb,MQ hn]
theorem ASL{p:Prop}[Decidable p]:if p then True else True:=by split<;>trivial
theorem xD(n:Nat):MJ (n+1)=(n:Int):=rfl
theorem yf(hn:n<256):AI9 e (MJ (n+1)):=by
 rw[xD];unfold AI9;exact AGY hn
theorem AOk:Cv Af.T (BL.tree Af) (BK [[MJ 0],o,a,e]):=Dl (by rw[dP,if_pos YT];trivial)
theorem AE0{X A c d:Prop}[Decidable c][Decidable d](h:X=if c then True else(A/\if d then True else True))(hc:¬c)(hA:A):X:=by
 rw[h,if_neg hc];exact⟨hA,ASL⟩
theorem AKN(hn:n<256):Cv Af.T (BL.tree Af) (BK [[MJ (n+1)],o,a,e]):=Dl (AE0 dP (UM n) (yf hn))
end
theorem qy:∀(n:Nat) {f:Nat} {o a e:List Int},n<=256->n<f->Rm (BL.step Af) (λins=>Cv Af.T (BL.tree Af) (BK ins)) f [[MJ n],o,a,e]
 |_,0,_,_,_,_,h=>by omega
 |0,f+1,o,a,e,_,_=>WC AOk AEh
 |n+1,f+1,o,a,e,hn,hf=>by
  by_cases hb:(gv Af.T 42 0 [e,[MJ (n+1)]]).getD 0 0=0
  ·exact Ty (AKN (by omega)) (APb (by omega) hb) (qy n (by omega) (by omega))
  ·exact Ty (AKN (by omega)) (AP0 (by omega) hb) (qy n (by omega) (by omega))
theorem Vf:MJ 256=255:=rfl
theorem rO{ins:List (List Int)}:BL.pre Af ins=Rm (BL.step Af) (λins=>Cv Af.T (BL.tree Af) (BK ins)) 257 ins:=rfl
theorem AAL{o a e:List Int}:BL.pre Af [[255],o,a,e]:=by
 have h:=qy 256 (f:=257) (o:=o) (a:=a) (e:=e) (Ie _) (by omega);rw[Vf] at h;rw[rO];exact h
theorem Ye{X A:Prop}(h:X=(A/\True))(hA:A):X:=by
 rw[h];exact⟨hA,trivial⟩
theorem AEj{ins:List (List Int)}(h:J8 Gu.s0.params ins):Cv GD.T (Gu.tree GD) (BK ins):=by
 obtain⟨a,b,rfl,-, -⟩:=AQQ h;exact Dl (Ye ABp AAL)
def pwB(E:Nat)(m:Fp):Nat->Fp->Fp
 |0,x=>x
 |n+1,x=>pwB E m n (if E/2^n%2=1 then x*x*m else x*x)
theorem AKE:lk 32 Af.T=some (.one Cw):=by kernel_rfl
theorem ARe:lk 42 Af.T=some (.one Ha):=by kernel_rfl
theorem ADz{E n:Nat}{e:List Int}(he:N8 e (E:Int))(hn:n<256):(gv Af.T 42 0 [e,[MJ (n+1)]]).getD 0 0=0↔¬E/2^n%2=1:=by
 have h:gv Af.T 42 0 [e,[MJ (n+1)]]= [KQ (decide (E/2^n%2=1))]:=ACn ARe he hn;rw[h,Qx];exact Un
theorem jg:∀(n:Nat) {f E:Nat} {o a e:List Int} {x m:Fp},n<=256->n<f->NF o x->NF a m->N8 e (E:Int)->NF ((Ht (BL.step Af) f [[MJ n],o,a,e]).getD 1 []) (pwB E m n x)
 |_,0,_,_,_,_,_,_,_,h,_,_,_=>by omega
 |0,f+1,E,o,a,e,x,m,_,_,ho,_,_=>by
  rw[UF AEh];exact ho
 | n+1,f+1,E,o,a,e,x,m,hn,hf,ho,ha,he=>by
  have h2:=Yz AKE ho ho;unfold pwB;by_cases hB:E/2^n%2=1
  ·rw[RF (AP0 (by omega) (λh=>(ADz he (by omega)).1 h hB)),if_pos hB];exact jg n (by omega) (by omega) (Yz AKE h2 ha) ha he
  ·rw[RF (APb (by omega) ((ADz he (by omega)).2 hB)),if_neg hB];exact jg n (by omega) (by omega) h2 ha he
theorem ABZ(E:Nat)(m:Fp):∀(n:Nat) (x:Fp),pwB E m n x=Ja x (2^n)*Ja m (E%2^n)
 |0,x=>by
  rw[Nat.pow_zero,Nat.mod_one,OQ,Oy];show x=x*1;grind
 | n+1,x=>by
  have e1:Ja (x*x) (2^n)=Ja x (2^(n+1)):=by
   have:x*x=Ja x 2:=by rw[IG,Oy]
   rw[this,UO,kw,qI]
  have e2:E%2^(n+1)=E%2^n+2^n*(E/2^n%2):=by
   rw[kw,Nat.mod_mul]
  have e3:∀(a b:Fp) (k:Nat),Ja (a*b) k=Ja a k*Ja b k:=λa b k=>by
   induction k with
   |zero=>rw[OQ,OQ,OQ];grind
   |succ k ih=>rw[IG,IG,IG,ih];grind
  unfold pwB;rw[ABZ E m n,e2];split
  ·rename_i hb;rw[hb,Nat.mul_one,LH,e3,e1];grind
  ·rename_i hb;have:E/2^n%2=0:=by omega
   rw[this,Nat.mul_zero,e1];rfl
theorem AGg{E n:Nat}(m:Fp)(h:E<2^n):pwB E m n 1=Ja m E:=by
 rw[ABZ,Nat.mod_eq_of_lt h];generalize 2^n=k;rw[AD5];grind
theorem AAT{ins:List (List Int)}:BL.val Af ins=Ht (BL.step Af) 257 ins:=rfl
theorem AOZ:NF (BF 8 [1,0,0,0,0,0,0,0]) (1:Fp):=by
 have:=mQ (x:=1) (by decide);rw[fZ] at this;exact this
theorem AKb{e:List Int}{E n:Nat}(he:N8 e (E:Int))(h:pw 8=((2^n:Nat):Int)):E<2^n:=by
 have:=he.bd.2;rw[h] at this;omega
theorem AKv:pw 8=((2^256:Nat):Int):=by decide +kernel
theorem AFR{a e:List Int}{m:Fp}{E:Nat}(ha:NF a m)(he:N8 e (E:Int)):NF (Gu.raw GD 0 [a,e]) (Ja m E):=by
 have h:=jg 256 (f:=257) (Ie _) (by omega) AOZ ha he;rw[AGg m (AKb he AKv),Vf] at h;rw[AA5,AAT,Ay h.len];exact h
section
variable{GB:Nat}{GC:Nat->Nat->Option Value}{ad:Nat->Nat×Nat}(hG:GI GB GC ad)
include hG
theorem Ur:Bv Tryz.prog GB GC 50 (.one KY):=(Ac.Fm hG (i:=Gu) (l:=BL) (T':=[(32,.one Cw),(42,.one Ha)]) (L:=[]) (L':=[]) (pre:=λ_=>True) (pl:=BL.pre Af) (tg:=1000000+50) (Cb:=Af) (C1:=GD) (by decide) rfl rfl
 (.cons (k:=34) rfl (G7 hG) Tryz.call34 (Ac.len _ _) .nil) .nil .nil Tryz.func50 rfl rfl rfl (.inl rfl) (.inl rfl) (λ_ _ h=>h)
 (.cons (k:=32) rfl (IU hG) Tryz.call32 (λ_=>Eh _ _ _ _) (.cons (k:=42) rfl (Xx hG) Tryz.call42 (Ac.fX _ _) .nil)) YK (by kernel_rfl) (by kernel_rfl) ZF λ_ h _=>AEj h).AF λ_ _=>trivial
end
end
end Go.Proofs.YtkbfdaoohhmgoaaGreatDoor
