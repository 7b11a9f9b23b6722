/- The reference's numbers: products modulo the prime, an element's bytes; their contracts. -/
import Derived.Test.YtloibefkijfdlaaGreatDoorDq3
import Derived.Test.YtloibefkijfdlaaGreatDoorFe2
namespace Go.Proofs.YtloibefkijfdlaaGreatDoor
section
open Go
theorem AML{x y:Int}(hx:0≤x∧x<4294967296)(hy:0≤y∧y<4294967296):CZ .mul x y=x*y∧0≤x*y∧x*y≤4294967295*4294967295:=by
 have h1:0≤x*y:=Int.mul_nonneg hx.1 hy.1;have h2:x*y≤4294967295*4294967295:=Int.mul_le_mul (by omega) (by omega) hy.1 (by omega);refine⟨?_,h1,h2⟩;show IntKind.u64.wrap (x*y)=_;exact TW h1 (by omega)
theorem xe:∀ {os bs:List Int} {c a:Int},os.length=bs.length→dg os→dg bs→0≤c∧c<4294967296→0≤a∧a<4294967296→dg (aP c os a bs)∧(aP c os a bs).length=os.length+1∧nv (aP c os a bs)=c+nv os+a*nv bs
 | [],[],c,a,_,_,_,hc,_=>⟨.mk hc .nil,rfl,by simp[aP,nv]⟩
 |o::os,b::bs,c,a,hl,ho,hb,hc,ha=>by
  obtain⟨o1,o2⟩:=ho.cons;obtain⟨b1,b2⟩:=hb.cons;obtain⟨m1,m2,m3⟩:=AML ha b1;have e1:CZ .add (CZ .add c o) (CZ .mul a b)=c+o+a*b:=by rw[TH (x:=c) (y:=o) (by omega) (by omega),m1,TH (by omega) (by omega)]
  have e2:CZ .rem (c+o+a*b) 4294967296=(c+o+a*b)%4294967296:=jS (by omega);have e3:CZ .quo (c+o+a*b) 4294967296=(c+o+a*b)/4294967296:=iM (by omega) (by omega);obtain⟨i1,i2,i3⟩:=xe (os:=os) (bs:=bs) (c:=(c+o+a*b)/4294967296) (by simpa using hl) o2 b2 (by omega) ha;unfold aP;rw[e1,e2,e3];refine⟨.mk ⟨by omega,by omega⟩ i1,by rw[Oq,i2,Oq],?_⟩;simp only[nv,i3];have e4:a*(b+4294967296*nv bs)=a*b+4294967296*(a*nv bs):=by rw[qC,Int.mul_left_comm]
  rw[e4];omega
 | [],_::_,_,_,h,_,_,_,_=>by simp at h
 |_::_,[],_,_,h,_,_,_,_=>by simp at h
theorem AEY:∀ {xs acc b:List Int},acc.length=b.length→dg xs→dg acc→dg b→dg (tmO xs acc b)∧(tmO xs acc b).length=xs.length+acc.length∧nv (tmO xs acc b)=nv acc+nv xs*nv b
 | [],acc,b,_,_,ha,_=>⟨ha,by simp[tmO],by simp[tmO,nv]⟩
 | x::xs,acc,b,hl,hx,ha,hb=>by
  obtain⟨x1,x2⟩:=hx.cons;obtain⟨r1,r2,r3⟩:=xe (c:=0) hl ha hb (by omega) x1;unfold tmO
  match hr:aP 0 acc x b,r1,r2,r3 with
  |r0::rs,r1,r2,r3=>
   obtain⟨q1,q2⟩:=r1.cons;have hlen:rs.length=acc.length:=by simpa using r2
   obtain⟨i1,i2,i3⟩:=AEY (xs:=xs) (acc:=rs) (b:=b) (by omega) x2 q2 hb;simp only[Qu,List.drop_succ_cons,zda];refine⟨.mk q1 i1,by simp only[Oq,i2];omega,?_⟩;simp only[nv] at r3 ⊢;rw[i3,sI,Xr];omega
  | [],r1,r2,r3=>simp at r2
theorem aa:∀ {xs ys:List Int} {c:Int},xs.length=ys.length→(Td c xs ys).length=xs.length
 | [],[],_,_=>rfl
 |_::xs,_::ys,c,h=>by
  unfold Td;rw[Oq,aa (by simpa using h),Oq]
 | [],_::_,_,h=>by simp at h
 |_::_,[],_,h=>by simp at h
theorem ALh(x y:Int):0≤CZ .add x y∧CZ .add x y<18446744073709551616:=by
 have h:=UQ .u64 (x+y);have h1:0≤IntKind.u64.wrap (x+y):=h.1;have h2:IntKind.u64.wrap (x+y)≤18446744073709551615:=h.2;show 0≤IntKind.u64.wrap (x+y)∧IntKind.u64.wrap (x+y)<_;omega
theorem je:∀ {xs ys:List Int} {c:Int},dg (Td c xs ys)
 |x::xs,y::ys,c=>by
  unfold Td;obtain⟨h1,h2⟩:=ALh (CZ .add c x) (CZ .mul 38 y);rw[jS h1];exact .mk (by omega) je
 | [],_,_=>by unfold Td;exact .nil
 |_::_,[],_=>by unfold Td;exact .nil
theorem eG:∀ {xs ys:List Int} {c:Int},0≤c∧c<4294967296→0≤V3 c xs ys∧V3 c xs ys<4294967296
 |x::xs,y::ys,c,_=>by
  unfold V3;obtain⟨h1,h2⟩:=ALh (CZ .add c x) (CZ .mul 38 y);rw[iM h1 h2];exact eG (by omega)
 | [],_,_,h=>by unfold V3;exact h
 |_::_,[],_,h=>by unfold V3;exact h
theorem zi:∀ {xs ys:List Int} {c:Int},xs.length=ys.length→dg xs→dg ys→0≤c∧c<4294967296→c+nv xs+38*nv ys=nv (Td c xs ys)+V3 c xs ys*pw xs.length
 | [],[],c,_,_,_,_=>by simp[Td,V3,nv,pw]
 | x::xs,y::ys,c,hl,hx,hy,hc=>by
  obtain⟨x1,x2⟩:=hx.cons;obtain⟨y1,y2⟩:=hy.cons;have e0:CZ .mul 38 y=38*y:=by
   show IntKind.u64.wrap (38*y)=_;exact TW (by omega) (by omega)
  have e1:CZ .add (CZ .add c x) (CZ .mul 38 y)=c+x+38*y:=by rw[TH (x:=c) (y:=x) (by omega) (by omega),e0,TH (by omega) (by omega)]
  have e2:CZ .rem (c+x+38*y) 4294967296=(c+x+38*y)%4294967296:=jS (by omega);have e3:CZ .quo (c+x+38*y) 4294967296=(c+x+38*y)/4294967296:=iM (by omega) (by omega);have i:=zi (xs:=xs) (ys:=ys) (c:=(c+x+38*y)/4294967296) (by simpa using hl) x2 y2 (by omega);unfold Td V3;rw[e1,e2,e3];simp only[nv,Oq,pw];rw[Int.mul_left_comm (V3 _ _ _)];omega
 | [],_::_,_,h,_,_,_=>by simp at h
 |_::_,[],_,h,_,_,_=>by simp at h
theorem AE8:∀ {x y:List Int},nv (x++y)=nv x+pw x.length*nv y
 | [],y=>by simp[nv,pw]
 |a::x,y=>by
  simp only[zcm,nv,Oq,pw,AE8 (x:=x) (y:=y)];rw[Xr,qC];omega
theorem ACn{a:List Int}{m k:Int}(ha:N8 a m)(h0:0≤k)(h1:k<4294967296):N8 (Ym Dt a k) ((m+38*k)%Vf):=by
 have:=AB7 ha h0 h1;unfold Ym
 rwa [Au this.len]
theorem ACH{a b:List Int}{m n:Int}(ha:N8 a m)(hb:N8 b n):N8 (Ic.rawt Hd 0 [a,b]) (m*n%Vf):=by
 have z:(0:Int)≤0∧(0:Int)<4294967296:=by omega
 have d0:dg [0,0,0,0,0,0,0,0]:=.mk z (.mk z (.mk z (.mk z (.mk z (.mk z (.mk z (.mk z .nil)))))));obtain⟨t1,t2,t3⟩:=AEY (xs:=a) (acc:=[0,0,0,0,0,0,0,0]) (b:=b) (by rw[hb.len];rfl) ha.dg d0 hb.dg
 change dg (PV a b) at t1
 change (PV a b).length=_ at t2
 change nv (PV a b)=_ at t3
 have hl16:(PV a b).length=16:=by rw[t2,ha.len];rfl
 rw[show nv [0,0,0,0,0,0,0,0]=0 from rfl,ha.val,hb.val,zcx] at t3;have e:Ic.rawt Hd 0 [a,b]=l8 (Ym Dt (Td 0 ((PV a b).take 8) ((PV a b).drop 8)) (V3 0 ((PV a b).take 8) ((PV a b).drop 8))):=by
  match a,ha.len,b,hb.len with
  | [_,_,_,_,_,_,_,_],_,[_,_,_,_,_,_,_,_],_=>exact ABb
 generalize PV a b=t at *
 have l1:(t.take 8).length=8:=by rw[Y3];omega
 have l2:(t.drop 8).length=8:=by rw[nO];omega
 have x1:dg (t.take 8):=fun x hx=>t1 x (List.mem_of_mem_take hx)
 have x2:dg (t.drop 8):=fun x hx=>t1 x (zcs hx)
 have hv:=zi (c:=0) (by rw[l1,l2]) x1 x2 (by omega);have hN:N8 (Td 0 (t.take 8) (t.drop 8)) (nv (Td 0 (t.take 8) (t.drop 8))):=⟨by rw[aa (by rw[l1,l2]),l1],je,rfl⟩;obtain⟨c1,c2⟩:=eG (xs:=t.take 8) (ys:=t.drop 8) (c:=0) (by omega);have hf:=ACn hN c1 c2;rw[e,UT hf.len];have ht:nv t=nv (t.take 8)+pw 8*nv (t.drop 8):=by
  have:=AE8 (x:=t.take 8) (y:=t.drop 8)
  rwa [List.take_append_drop,l1] at this
 rw[l1] at hv;generalize nv (Td 0 (t.take 8) (t.drop 8))=lo at *
 generalize V3 0 (t.take 8) (t.drop 8)=cc at *
 generalize nv (t.take 8)=u at *
 generalize nv (t.drop 8)=v at *
 have e2:m*n%Vf=(lo+38*cc)%Vf:=by
  rw[← t3,ht, ← zct (lo+38*cc) (Int.dvd_refl Vf),zct _ (Int.dvd_refl Vf)];refine Int.emod_eq_emod_iff_emod_sub_eq_zero.2 ?_;have:u+pw 8*v-(lo+38*cc)=Vf*(2*v+2*cc):=by
   rw[pw8] at *
   unfold Vf;omega
  rw[this];exact Int.mul_emod_right _ _
 rw[e2];exact hf
theorem ASv{ks:List IntKind}{ins:List (List Int)}(h:Ka [.agg ks,.agg ks] ins):∃ a b,ins= [a,b]∧Hf ks a∧Hf ks b:=by
 match ins,h with
 | [a,b],h=>exact⟨a,b,rfl,h.1,h.2.1⟩
theorem AU2{ks:List IntKind}{ins:List (List Int)}(h:Ka [.agg ks] ins):∃ a,ins= [a]∧Hf ks a:=by
 match ins,h with
 | [a],h=>exact⟨a,rfl,h.1⟩
theorem ACO{a b:List Int}(ha:a.length=8)(hb:b.length=8):(PV a b).length=16:=by
 have key:∀ (os bs:List Int) (c x:Int),os.length=bs.length→(aP c os x bs).length=os.length+1:=fun os=>by
  induction os with
  |nil=>intro bs c x h;cases bs<;>rfl
  | cons o os ih=>
   intro bs c x h
   match bs,h with
   |b::bs,h=>
    unfold aP;rw[Oq,ih bs _ _ (by simpa using h),Oq]
   | [],h=>simp at h
 have k2:∀ (xs acc:List Int),acc.length=b.length→(tmO xs acc b).length=xs.length+acc.length:=fun xs=>by
  induction xs with
  |nil=>intro acc _;simp[tmO]
  |cons x xs ih=>
   intro acc h
   unfold tmO;have:=key acc b 0 x h;rw[Oq,ih _ (by rw[nO];omega),nO,Oq];omega
 have:=k2 a [0,0,0,0,0,0,0,0] (by rw[hb];rfl);rw[ha] at this;exact this
theorem ACq{ins:List (List Int)}(h:Ka Ic.s0.params ins):Cn Hd.T (Ic.treet Hd) (A8 ins):=by
 obtain⟨a,b,rfl,ha,hb⟩:=ASv h;have la:a.length=8:=ha.1;have lb:b.length=8:=hb.1;refine Dk ?_;have ht:=ACO la lb;have hl:(Td 0 ((PV a b).take 8) ((PV a b).drop 8)).length=8:=by rw[aa (by rw[Y3,nO];omega),Y3];omega
 obtain⟨c1,c2⟩:=eG (xs:=(PV a b).take 8) (ys:=(PV a b).drop 8) (c:=0) (by omega);have hf:fo2 [Td 0 ((PV a b).take 8) ((PV a b).drop 8),[V3 0 ((PV a b).take 8) ((PV a b).drop 8)]]:=⟨c1,c2,_,hl,je,rfl⟩
 match a,la,b,lb with
 | [_,_,_,_,_,_,_,_],_,[_,_,_,_,_,_,_,_],_=>
  rw[AFB];exact⟨hf,trivial⟩
def elB:List Int→List Int
 | [b0,b1,b2,b3,b4,b5,b6,b7,b8,b9,Ω,b11,b12,b13,b14,b15,b16,Ψ,b18,b19,b20,b21,b22,b23,b24,Ξ,b26,b27,b28,b29,b30,Γ]=>[b0,b1,b2,b3,b4,b5,b6,b7,b8,b9,Ω,b11,b12,b13,b14,b15,b16,Ψ,b18,b19,b20,b21,b22,b23,b24,Ξ,b26,b27,b28,b29,b30,Ao .rem .u8 Γ 128]
 |_=>[]
theorem qY{b0 b1 b2 b3 b4 b5 b6 b7 b8 b9 Ω b11 b12 b13 b14 b15 b16 Ψ b18 b19 b20 b21 b22 b23 b24 Ξ b26 b27 b28 b29 b30 Γ:Int}:H9.rawt GN 0 [[b0,b1,b2,b3,b4,b5,b6,b7,b8,b9,Ω,b11,b12,b13,b14,b15,b16,Ψ,b18,b19,b20,b21,b22,b23,b24,Ξ,b26,b27,b28,b29,b30,Γ]]=l8 (Ym Dt (YS (elB [b0,b1,b2,b3,b4,b5,b6,b7,b8,b9,Ω,b11,b12,b13,b14,b15,b16,Ψ,b18,b19,b20,b21,b22,b23,b24,Ξ,b26,b27,b28,b29,b30,Γ])) 0):=by kernel_rfl
theorem vz{b0 b1 b2 b3 b4 b5 b6 b7 b8 b9 Ω b11 b12 b13 b14 b15 b16 Ψ b18 b19 b20 b21 b22 b23 b24 Ξ b26 b27 b28 b29 b30 Γ:Int}:J9 GN.T (H9.treet GN) (A8 [[b0,b1,b2,b3,b4,b5,b6,b7,b8,b9,Ω,b11,b12,b13,b14,b15,b16,Ψ,b18,b19,b20,b21,b22,b23,b24,Ξ,b26,b27,b28,b29,b30,Γ]])=(fo2 [YS (elB [b0,b1,b2,b3,b4,b5,b6,b7,b8,b9,Ω,b11,b12,b13,b14,b15,b16,Ψ,b18,b19,b20,b21,b22,b23,b24,Ξ,b26,b27,b28,b29,b30,Γ]),[0]]∧True):=by kernel_rfl
theorem AOy{b:Int}(h:0≤b∧b≤255):Ao .rem .u8 b 128=b%128:=by
 show b.tmod 128=_;exact Int.tmod_eq_emod_of_nonneg h.1
theorem RD:∀ {x y:List Int},IG (x++y)=IG x+256^x.length*IG y
 | [],y=>by simp[IG]
 |a::x,y=>by
  simp only[zcm,IG,Oq,zcq,RD (x:=x) (y:=y)];rw[qC,Y6 (256^x.length) 256,Xr];omega
theorem AEF{l:List Int}(hl:l.length=32)(h:by8 l):elB l=l.take 31 ++ [l.getD 31 0%128]:=by
 match l,hl with
 | [b0,b1,b2,b3,b4,b5,b6,b7,b8,b9,Ω,b11,b12,b13,b14,b15,b16,Ψ,b18,b19,b20,b21,b22,b23,b24,Ξ,b26,b27,b28,b29,b30,Γ],_=>
  have h31:=h Γ (by simp);show [b0,b1,b2,b3,b4,b5,b6,b7,b8,b9,Ω,b11,b12,b13,b14,b15,b16,Ψ,b18,b19,b20,b21,b22,b23,b24,Ξ,b26,b27,b28,b29,b30,Ao .rem .u8 Γ 128]=_;rw[AOy h31];rfl
theorem AGB{l:List Int}(hl:l.length=32)(h:by8 l):by8 (elB l)∧(elB l).length=32:=by
 rw[AEF hl h];refine⟨fun x hx=>?_,by rw[K6,Y3,hl];rfl⟩
 rcases iQ.1 hx with hx|hx
 ·exact h x (List.mem_of_mem_take hx)
 ·have:=Nc.1 hx;omega
theorem tC{l:List Int}(hl:l.length=32)(h:by8 l):N8 (H9.rawt GN 0 [l]) (IG (elB l)%Vf):=by
 obtain⟨h1,h2⟩:=AGB hl h;have hw:=vL (dG h2 h1);have hf:=ACn hw (k:=0) (by omega) (by omega);rw[Int.mul_zero,wP] at hf
 match l,hl with
 | [_,_,_,_,_,_,_,_,_,_,_,_,_,_,_,_,_,_,_,_,_,_,_,_,_,_,_,_,_,_,_,_],_=>
  rw[qY]
  change N8 (Ym Dt (YS _) 0) _ at hf
  rw[UT hf.len];exact hf
theorem Hf.by8{l:List Int}{n:Nat}(h:Hf (List.replicate n .u8) l):l.length=n∧by8 l:=by
 have hl:l.length=n:=by have:=h.1;simpa using this
 refine⟨hl,fun x hx=>?_⟩;obtain⟨i,hi,rfl⟩:=lu hx;have:=h.2 i .u8 l[i] (by rw[zby,if_pos (by omega)]) (Jo hi);exact⟨this.1,this.2⟩
theorem wQ{ins:List (List Int)}(h:Ka H9.s0.params ins):Cn GN.T (H9.treet GN) (A8 ins):=by
 obtain⟨a,rfl,ha⟩:=AU2 h;obtain⟨la,h8⟩:=ha.by8;obtain⟨h1,h2⟩:=AGB la h8;have hw:=vL (dG h2 h1);have hf:fo2 [YS (elB a),[0]]:=⟨by decide,by decide,_,hw⟩;refine Dk ?_
 match a,la with
 | [_,_,_,_,_,_,_,_,_,_,_,_,_,_,_,_,_,_,_,_,_,_,_,_,_,_,_,_,_,_,_,_],_=>
  rw[vz];exact⟨hf,trivial⟩
section
variable{GB:Nat}{GC:Nat→Nat→Option Value}{ad:Nat→Nat×Nat}(hG:Jk GB GC ad)
include hG
theorem Jh:Bp Tryz.prog GB GC 66 (.one C8):=AQ.okF (OJ hG (.cons (k:=87) rfl (TN hG) Tryz.call87 (fun _=>FO _ _ _ _) .nil) .nil) Tryz.func66 rfl rfl rfl rfl (EE hG (.inl rfl)).1 (EE hG (.inl rfl)).2 dU fun _ h=>ACq h
theorem Y4:Bp Tryz.prog GB GC 77 (.one LZ):=AQ.okF (OJ hG (.cons (k:=53) rfl (VX hG) Tryz.call53 (AQ.len _ _) (.cons (k:=87) rfl (TN hG) Tryz.call87 (fun _=>FO _ _ _ _) .nil)) .nil) Tryz.func77 rfl rfl rfl rfl (EE hG (.inl rfl)).1 (EE hG (.inl rfl)).2 Xt fun _ h=>wQ h
end
end
noncomputable section
open Go
theorem Bp.noPre{P:Program}{GB:Nat}{GC:Nat→Nat→Option Value}{f:Nat}{s:Az}(h:Bp P GB GC f (.one s))(hp:∀ ins,Ka s.params ins→s.pre ins):Bp P GB GC f (.one { s with hp:=false }):=
 Bp.one fun args ins bs w h1 h2 h3 h4 _=>(h true args ins bs w h1 h2 h3 h4 (fun _=>hp ins (ZY h3)) rfl).mono fun _ _ ⟨fb,vs,he,hq⟩=>⟨fb,vs,he,⟨hq.len,hq.fr,hq.fd,hq.frm,hq.outs,hq.fresh,hq.ret,hq.gw⟩⟩
def sJ(T:Tb)(i:I7):Bc→Bl→Option (Bool×List (List Int))
 | .leaf e st,ρ=>match i.leaf e st with
  |some (b,al)=>some (b,al.map (·.den ρ))
  |none=>none
 | .evs ds _ t,ρ=>sJ T i t (Dc T ρ ds)
 | .br x t f,ρ=>if x.den ρ=0 then sJ T i f ρ else sJ T i t ρ
 | .brc f ar t e,ρ=>match lk f T with
  |some fe=>cond (fe.cnd (ar.map (·.den ρ))) (sJ T i t ρ) (sJ T i e ρ)
  |none=>none
 | .chk _ k,ρ=>sJ T i k ρ
 | .bad _,_=>none
theorem Vx{T:Tb}{i:I7}:∀ {t:Bc} {ρ:Bl},(match XR T t ρ with
 |some (ρ,e,st)=>(match i.leaf e st with
  |some (b,al)=>some (b,al.map (·.den ρ))
  |none=>none)
 |none=>none)=sJ T i t ρ
 | .leaf _ _,_=>rfl
 | .evs _ _ t,_=>Vx (t:=t)
 | .br x t f,ρ=>by
  unfold XR sJ
  by_cases h:x.den ρ=0
  ·rw[if_pos h,if_pos h];exact Vx (t:=f)
  ·rw[if_neg h,if_neg h];exact Vx (t:=t)
 | .brc f ar t e,ρ=>by
  unfold XR sJ
  cases lk f T with
  |none=>rfl
  |some fe=>
   simp only
   cases fe.cnd (ar.map (·.den ρ)) with
   |true=>exact Vx (t:=t)
   |false=>exact Vx (t:=e)
 | .chk _ k,_=>Vx (t:=k)
 | .bad _,_=>rfl
theorem Jz{i:I7}{C:Cx}{ins:List (List Int)}:i.step C ins=sJ C.T i (i.tree C) (A8 ins):=Vx
def U8:List IntKind:=List.replicate 8 .u64
def BO:I7:=⟨6000,Sj 0 (Ab Tryz.f85),Tryz.f85.ntmps,0,[],⟨[.int .i64,.mem U8 1 true,.mem U8 2 false,.mem U8 3 false],true,fun _=>True,[(1,U8,z1)],[],[]⟩,[6,5,2,3],[8,9,10,11,12,13,14,15,16,17,18,19,20],fun _=>257⟩
def Ai:Cx:=GJ [(66,.one C8),(67,.one GZ)] []
def Ih:AQ:=⟨6000,Ab Tryz.f85,Tryz.f85.ntmps,Tryz.f85.results.toList,[],⟨[.agg U8,.agg U8],true,fun _=>True,[],[],[.agg U8 z1]⟩⟩
def HY:Cx:=aL ((1000000+85,.one (BO.sum Ai (BO.pre Ai))) :: [(68,.one DU)]) [] [(BO.id,⟨1000000+85,BO.ps,BO.ss,BO.cl,BO.nt⟩)]
def Lj:Az:= { Ih.sumH HY (fun _=>True) with hp:=false }
theorem ZI:BO.chk Ai=true:=by kernel_rfl
theorem dh:Ih.chk HY=true:=by kernel_rfl
theorem bG{T:Tb}{i:Int}{o a e:List Int}:sJ T BO (BO.tree Ai) (A8 [[i],o,a,e])=if K9 (decide (i ≥ 0))=0 then some (false,[[i],o,a,e]) else
  if (gv T 67 0 [e,[i]]).getD 0 0=0 then some (true,[[Ao .sub .i64 i 1],gv T 66 0 [o,o],a,e]) else some (true,[[Ao .sub .i64 i 1],gv T 66 0 [gv T 66 0 [o,o],a],a,e]):=by kernel_rfl
def AEl(e:List Int)(i:Int):Prop:=GZ.pre [e,[i]]
theorem jQ{i:Int}{o a e:List Int}:J9 Ai.T (BO.tree Ai) (A8 [[i],o,a,e])=if K9 (decide (i ≥ 0))=0 then True else
  (AEl e i∧if (gv Ai.T 67 0 [e,[i]]).getD 0 0=0 then True else True):=by kernel_rfl
theorem AEs{a e:List Int}:J9 HY.T (Ih.tree HY) (A8 [a,e])=(BO.pre Ai [[255],Aw 8 [1,0,0,0,0,0,0,0],a,e]∧True):=by kernel_rfl
theorem ABE{a e:List Int}:Ih.raw HY 0 [a,e]=Aw 8 ((BO.val Ai [[255],Aw 8 [1,0,0,0,0,0,0,0],a,e]).getD 1 []):=by kernel_rfl
end
section
open Go Ma
def NF(l:List Int)(x:Fp):Prop:=N8 l (x.val:Int)
theorem AMC:Vf=((PP:Nat):Int):=by kernel_rfl
theorem NF.of{l:List Int}{m:Int}{x:Fp}(h:N8 l (m%Vf))(hx:Ki m=x):NF l x:=by
 subst hx;unfold NF;rw[Lf];exact h
theorem Yd(x:Fp):Ki (x.val:Int)=x:=APG x
theorem ACb:C8.pr 0= .l fun a=>Aw 8 (Ic.rawt Hd 0 a):=rfl
theorem bq{T:Tb}(h:lk 66 T=some (.one C8)){a b:List Int}{x y:Fp}(ha:NF a x)(hb:NF b y):NF (gv T 66 0 [a,b]) (x*y):=by
 have hn:=ACH ha hb;rw[Bg h,ACb];show NF (Aw 8 _) _;rw[Au hn.len];exact NF.of hn (by rw[ZR,Yd,Yd])
def ANC(e:List Int)(i:Int):Int:=CZ .eql (CZ .rem (CZ .shr (e.getD (Ao .quo .i64 i 32).toNat 0) (Ao .rem .i64 i 32)) 2) 1
theorem AHE{e:List Int}{i:Int}:Ou.raw La 0 [e,[i]]= [ANC e i]:=by kernel_rfl
theorem APj{e:List Int}{i:Int}:J9 La.T (Ou.tree La) (A8 [e,[i]])=((0≤Ao .quo .i64 i 32∧Ao .quo .i64 i 32<((8:Nat):Int))∧0≤Ao .rem .i64 i 32∧True):=by kernel_rfl
theorem AKd{n:Nat}(h:n<1000):Ao .quo .i64 (n:Int) 32=((n/32:Nat):Int):=by
 show IntKind.i64.wrap ((n:Int).tdiv 32)=_;rw[Int.tdiv_eq_ediv_of_nonneg (by omega),JV (k:=.i64) ⟨by show (-9223372036854775808:Int)≤_;omega,by show _≤(9223372036854775807:Int);omega⟩];omega
theorem AKb{n:Nat}:Ao .rem .i64 (n:Int) 32=((n%32:Nat):Int):=by
 show (n:Int).tmod 32=_;rw[Int.tmod_eq_emod_of_nonneg (by omega)];omega
theorem AGn{e:List Int}{n:Nat}(h:n<256):GZ.pre [e,[(n:Int)]]:=by
 show Cn La.T (Ou.tree La) (A8 [e,[(n:Int)]]);refine Dk ?_;rw[APj,AKd (by omega),AKb];exact⟨⟨by omega,by omega⟩,by omega,trivial⟩
theorem ARQ{x a:Int}{r:Nat}(h:r<32):(x+4294967296*a)/2^r%2=x/2^r%2:=by
 have hp:(0:Int)<2^r:=Int.pow_pos (by decide);have e:(4294967296:Int)=2^r*(2*2^(31-r)):=by
  rw[show (2:Int)*2^(31-r)=2^(32-r) by rw[show 32-r=(31-r)+1 by omega,zcq,Y6], ← Int.pow_add,show r+(32-r)=32 by omega];rfl
 rw[e,Xr,Int.add_mul_ediv_left _ _ (Int.ne_of_gt hp),Xr,Int.add_mul_emod_self_left]
theorem AE3:∀ {l:List Int} {q r:Nat},dg l→r<32→nv l/2^(32*q+r)%2=l.getD q 0/2^r%2
 | [],q,r,_,_=>by simp[nv]
 |x::l,0,r,_,hr=>by
  rw[Nat.mul_zero,NU,Qu];exact ARQ hr
 |x::l,q+1,r,h,hr=>by
  obtain⟨h1,h2⟩:=h.cons;have i:=AE3 (l:=l) (q:=q) h2 hr;rw[Ze, ← i,show 32*(q+1)+r=32+(32*q+r) by omega,Int.pow_add, ← Int.ediv_ediv_of_nonneg (by decide)]
  congr 2
  simp only[nv];rw[show (2:Int)^32=4294967296 from rfl];omega
theorem AKX{l:List Int}(h:dg l)(q:Nat):0≤l.getD q 0∧l.getD q 0<4294967296:=by
 by_cases hq:q<l.length
 ·rw[show l.getD q 0=l[q] by simp[List.getD,hq]];exact h _ (qj hq)
 ·rw[show l.getD q 0=0 by simp[List.getD,hq]];omega
theorem AHb{e:List Int}{E n:Nat}(h:N8 e (E:Int))(hn:n<256):ANC e (n:Int)=K9 (decide (E/2^n%2=1)):=by
 unfold ANC;rw[AKd (by omega),AKb,TJ];have hd:=AKX h.dg (n/32);have e1:CZ .shr (e.getD (n/32) 0) ((n%32:Nat):Int)=e.getD (n/32) 0/2^(n%32):=by
  show (e.getD (n/32) 0).fdiv (2^(min ((n%32:Nat):Int).toNat 64))=_;rw[TJ,Nat.min_eq_left (by omega),Int.fdiv_eq_ediv_of_nonneg _ (Int.le_of_lt (Int.pow_pos (by decide)))]
 have e2:0≤e.getD (n/32) 0/2^(n%32):=Int.ediv_nonneg hd.1 (Int.le_of_lt (Int.pow_pos (by decide)));rw[e1];show K9 ((e.getD (n/32) 0/2^(n%32)).tmod 2 == 1)=_;rw[Int.tmod_eq_emod_of_nonneg e2, ← AE3 h.dg (zcy _ (by decide)),Nat.div_add_mod,h.val]
 congr 1
 have e3:(E:Int)/2^n%2=((E/2^n%2:Nat):Int):=by
  rw[Int.natCast_emod,Int.natCast_ediv,ADr];rfl
 rw[e3]
 by_cases hb:E/2^n%2=1
 ·rw[hb];rfl
 ·rw[decide_eq_false hb];have:¬ (((E/2^n%2:Nat):Int)=1):=by omega
  simpa using this
theorem APb:GZ.pr 0= .i fun a=>d1 (Ou.raw La 0 a):=rfl
theorem tF{T:Tb}(h:lk 67 T=some (.one GZ)){e:List Int}{E n:Nat}(he:N8 e (E:Int))(hn:n<256):gv T 67 0 [e,[(n:Int)]]= [K9 (decide (E/2^n%2=1))]:=by
 rw[Bg h,APb];show [d1 (Ou.raw La 0 [e,[(n:Int)]])]=_;rw[AHE, ← AHb he hn];rfl
theorem UV{p:Prop}[Decidable p]:K9 (decide p)=0↔¬ p:=by
 by_cases h:p
 ·rw[decide_eq_true h];exact⟨fun e=>absurd (show (1:Int)=0 from e) (by decide),fun e=>absurd h e⟩
 ·rw[decide_eq_false h];exact⟨fun _=>h,fun _=>rfl⟩
theorem ATH{n:Nat}(h:n<1000):Ao .sub .i64 ((n+1:Nat):Int) 1=(n:Int):=by
 show IntKind.i64.wrap (((n+1:Nat):Int)-1)=_;rw[JV (k:=.i64) ⟨by show (-9223372036854775808:Int)≤_;omega,by show _≤(9223372036854775807:Int);omega⟩];omega
theorem ANK:Ao .sub .i64 (0:Int) 1= -1:=by decide +kernel
def Ls:Nat→Int
 |0=> -1
 |n+1=>n
theorem PD:∀ {n:Nat},n<1000→Ao .sub .i64 (Ls (n+1)) 1=Ls n
 |0,_=>ANK
 |_+1,h=>ATH (by omega)
theorem VA:K9 (decide (Ls 0 ≥ 0))=0:=by decide
theorem QE(n:Nat):¬ K9 (decide (Ls (n+1) ≥ 0))=0:=by
 rw[UV];have:Ls (n+1) ≥ 0:=yP n;exact fun h=>h this
section
variable{st:List (List Int)→Option (Bool×List (List Int))}{ob:List (List Int)→Prop}{ins r:List (List Int)}{f:Nat}
theorem Tt(h:ob ins)(hs:st ins=some (false,r)):Rj st ob (f+1) ins:=⟨h,by rw[hs];trivial⟩
theorem RF(h:ob ins)(hs:st ins=some (true,r))(hn:Rj st ob f r):Rj st ob (f+1) ins:=⟨h,by rw[hs];exact hn⟩
theorem Rv(hs:st ins=some (false,r)):Gf st (f+1) ins=r:=by unfold Gf;rw[hs]
theorem PY(hs:st ins=some (true,r)):Gf st (f+1) ins=Gf st f r:=by rw[Gf];rw[hs]
end
section
variable{o a e:List Int}{n:Nat}
theorem ACP:BO.step Ai [[Ls 0],o,a,e]=some (false,[[Ls 0],o,a,e]):=by rw[Jz,bG,if_pos VA]
theorem ATf(hn:n<1000)(hb:(gv Ai.T 67 0 [e,[Ls (n+1)]]).getD 0 0=0):BO.step Ai [[Ls (n+1)],o,a,e]=some (true,[[Ls n],gv Ai.T 66 0 [o,o],a,e]):=by rw[Jz,bG,if_neg (QE n),if_pos hb,PD hn]
theorem ASf(hn:n<1000)(hb:¬ (gv Ai.T 67 0 [e,[Ls (n+1)]]).getD 0 0=0):BO.step Ai [[Ls (n+1)],o,a,e]=some (true,[[Ls n],gv Ai.T 66 0 [gv Ai.T 66 0 [o,o],a],a,e]):=by rw[Jz,bG,if_neg (QE n),if_neg hb,PD hn]
theorem ASC{p:Prop}[Decidable p]:if p then True else True:=by split<;>trivial
theorem zb(n:Nat):Ls (n+1)=(n:Int):=rfl
theorem j6(hn:n<256):AEl e (Ls (n+1)):=by
 rw[zb];unfold AEl;exact AGn hn
theorem AMI:Cn Ai.T (BO.tree Ai) (A8 [[Ls 0],o,a,e]):=Dk (by rw[jQ,if_pos VA];trivial)
theorem sF{X A c d:Prop}[Decidable c][Decidable d](h:X=if c then True else (A∧if d then True else True))(hc:¬ c)(hA:A):X:=by
 rw[h,if_neg hc];exact⟨hA,ASC⟩
theorem ALT(hn:n<256):Cn Ai.T (BO.tree Ai) (A8 [[Ls (n+1)],o,a,e]):=Dk (sF jQ (QE n) (j6 hn))
end
theorem uE:∀ (n:Nat) {f:Nat} {o a e:List Int},n≤256→n<f→Rj (BO.step Ai) (fun ins=>Cn Ai.T (BO.tree Ai) (A8 ins)) f [[Ls n],o,a,e]
 |_,0,_,_,_,_,h=>by omega
 |0,f+1,o,a,e,_,_=>Tt AMI ACP
 |n+1,f+1,o,a,e,hn,hf=>by
  by_cases hb:(gv Ai.T 67 0 [e,[Ls (n+1)]]).getD 0 0=0
  ·exact RF (ALT (by omega)) (ATf (by omega) hb) (uE n (by omega) (by omega))
  ·exact RF (ALT (by omega)) (ASf (by omega) hb) (uE n (by omega) (by omega))
theorem Ut:Ls 256=255:=rfl
theorem tT{ins:List (List Int)}:BO.pre Ai ins=Rj (BO.step Ai) (fun ins=>Cn Ai.T (BO.tree Ai) (A8 ins)) 257 ins:=rfl
theorem AAw{o a e:List Int}:BO.pre Ai [[255],o,a,e]:=by
 have h:=uE 256 (f:=257) (o:=o) (a:=a) (e:=e) (JP _) (by omega);rw[Ut] at h;rw[tT];exact h
theorem Ww{X A:Prop}(h:X=(A∧True))(hA:A):X:=by
 rw[h];exact⟨hA,trivial⟩
theorem AFN{ins:List (List Int)}(h:Ka Ih.s0.params ins):Cn HY.T (Ih.tree HY) (A8 ins):=by
 obtain⟨a,b,rfl,-, -⟩:=ASv h;exact Dk (Ww AEs AAw)
def pwB(E:Nat)(m:Fp):Nat→Fp→Fp
 |0,x=>x
 |n+1,x=>pwB E m n (if E/2^n%2=1 then x*x*m else x*x)
theorem ALG:lk 66 Ai.T=some (.one C8):=by kernel_rfl
theorem AQh:lk 67 Ai.T=some (.one GZ):=by kernel_rfl
theorem AEv{E n:Nat}{e:List Int}(he:N8 e (E:Int))(hn:n<256):(gv Ai.T 67 0 [e,[Ls (n+1)]]).getD 0 0=0↔¬ E/2^n%2=1:=by
 have h:gv Ai.T 67 0 [e,[Ls (n+1)]]= [K9 (decide (E/2^n%2=1))]:=tF AQh he hn;rw[h,Qu];exact UV
theorem kM:∀ (n:Nat) {f E:Nat} {o a e:List Int} {x m:Fp},n≤256→n<f→NF o x→NF a m→N8 e (E:Int)→NF ((Gf (BO.step Ai) f [[Ls n],o,a,e]).getD 1 []) (pwB E m n x)
 |_,0,_,_,_,_,_,_,_,h,_,_,_=>by omega
 |0,f+1,E,o,a,e,x,m,_,_,ho,_,_=>by
  rw[Rv ACP];exact ho
 | n+1,f+1,E,o,a,e,x,m,hn,hf,ho,ha,he=>by
  have h2:=bq ALG ho ho;unfold pwB
  by_cases hB:E/2^n%2=1
  ·rw[PY (ASf (by omega) (fun h=>(AEv he (by omega)).1 h hB)),if_pos hB];exact kM n (by omega) (by omega) (bq ALG h2 ha) ha he
  ·rw[PY (ATf (by omega) ((AEv he (by omega)).2 hB)),if_neg hB];exact kM n (by omega) (by omega) h2 ha he
theorem AC5(E:Nat)(m:Fp):∀ (n:Nat) (x:Fp),pwB E m n x=Kl x (2^n)*Kl m (E%2^n)
 |0,x=>by
  rw[Nat.pow_zero,Nat.mod_one,PE,QD];show x=x*1
  grind
 | n+1,x=>by
  have e1:Kl (x*x) (2^n)=Kl x (2^(n+1)):=by
   have:x*x=Kl x 2:=by rw[JS,QD]
   rw[this,Uq,r9,zcp]
  have e2:E%2^(n+1)=E%2^n+2^n*(E/2^n%2):=by
   rw[r9,Nat.mod_mul]
  have e3:∀ (a b:Fp) (k:Nat),Kl (a*b) k=Kl a k*Kl b k:=fun a b k=>by
   induction k with
   |zero=>rw[PE,PE,PE];grind
   |succ k ih=>rw[JS,JS,JS,ih];grind
  unfold pwB;rw[AC5 E m n,e2]
  split
  ·rename_i hb
   rw[hb,Nat.mul_one,Mr,e3,e1]
   grind
  ·rename_i hb
   have:E/2^n%2=0:=by omega
   rw[this,Nat.mul_zero,e1];rfl
theorem AKE{E n:Nat}(m:Fp)(h:E<2^n):pwB E m n 1=Kl m E:=by
 rw[AC5,Nat.mod_eq_of_lt h];generalize 2^n=k;rw[AE7]
 grind
theorem AAm{ins:List (List Int)}:BO.val Ai ins=Gf (BO.step Ai) 257 ins:=rfl
theorem AL5:NF (Aw 8 [1,0,0,0,0,0,0,0]) (1:Fp):=by
 have:=qm (x:=1) (by decide);rw[iX] at this;exact this
theorem AFV{e:List Int}{E n:Nat}(he:N8 e (E:Int))(h:pw 8=((2^n:Nat):Int)):E<2^n:=by
 have:=he.bd.2;rw[h] at this;omega
theorem AEX:pw 8=((2^256:Nat):Int):=by decide +kernel
theorem ADo{a e:List Int}{m:Fp}{E:Nat}(ha:NF a m)(he:N8 e (E:Int)):NF (Ih.raw HY 0 [a,e]) (Kl m E):=by
 have h:=kM 256 (f:=257) (JP _) (by omega) AL5 ha he;rw[AKE m (AFV he AEX),Ut] at h;rw[ABE,AAm,Au h.len];exact h
section
variable{GB:Nat}{GC:Nat→Nat→Option Value}{ad:Nat→Nat×Nat}(hG:Jk GB GC ad)
include hG
theorem VZ:Bp Tryz.prog GB GC 85 (.one Lj):=(AQ.finL hG (i:=Ih) (l:=BO) (T':=[(66,.one C8),(67,.one GZ)]) (L:=[]) (L':=[]) (pre:=fun _=>True) (pl:=BO.pre Ai) (lid:=1000000+85) (Cb:=Ai) (C1:=HY) (by decide) rfl rfl
 (.cons (k:=68) rfl (Ik hG) Tryz.call68 (AQ.len _ _) .nil) .nil .nil Tryz.func85 rfl rfl rfl (.inl rfl) (.inl rfl) (fun _ _ h=>h)
 (.cons (k:=66) rfl (Jh hG) Tryz.call66 (fun _=>FO _ _ _ _) (.cons (k:=67) rfl (UE hG) Tryz.call67 (AQ.lenP _ _) .nil)) ZI (by kernel_rfl) (by kernel_rfl) dh fun _ h _=>AFN h).noPre fun _ _=>trivial
end
end
end Go.Proofs.YtloibefkijfdlaaGreatDoor
