/- Contracts that the trees give: the reference: small functions. -/
import Derived.Test.YtloibefkijfdlaaGreatDoorFa
namespace Go.Proofs.YtloibefkijfdlaaGreatDoor
noncomputable section
open Go
section
variable{GB:Nat}{GC:Nat→Nat→Option Value}{ad:Nat→Nat×Nat}(hG:Jk GB GC ad)
include hG
def QS:AQ:=⟨6000,Ab Tryz.f68,Tryz.f68.ntmps,Tryz.f68.results.toList,[],⟨[.int .u64],false,fun _=>True,[],[],[.agg (List.replicate 8 .u64) z1]⟩⟩
def QB:Cx:=GJ [] []
def DU:Az:=QS.sum QB
theorem Ik:Bp Tryz.prog GB GC 68 (.one DU):=AQ.fin hG .nil .nil Tryz.func68 rfl rfl rfl (.inl rfl) (by kernel_rfl)
def QC:AQ:=⟨6000,Ab Tryz.f79,Tryz.f79.ntmps,Tryz.f79.results.toList,[],⟨[],false,fun _=>True,[],[],[.agg (List.replicate 8 .u64) z1]⟩⟩
def QH:Cx:=GJ [] []
def EQ:Az:=QC.sum QH
theorem Ji:Bp Tryz.prog GB GC 79 (.one EQ):=AQ.fin hG .nil .nil Tryz.func79 rfl rfl rfl (.inl rfl) (by kernel_rfl)
def Hg:AQ:=⟨6000,Ab Tryz.f43,Tryz.f43.ntmps,Tryz.f43.results.toList,[],⟨[],false,fun _=>True,[],[],[.agg (List.replicate 8 .u64) z1]⟩⟩
def Hl:Cx:=GJ [] []
def mR:Az:=Hg.sum Hl
theorem fO:Bp Tryz.prog GB GC 43 (.one mR):=AQ.fin hG .nil .nil Tryz.func43 rfl rfl rfl (.inl rfl) (by kernel_rfl)
def RN:AQ:=⟨6000,Ab Tryz.f54,Tryz.f54.ntmps,Tryz.f54.results.toList,[],⟨[.agg (List.replicate 8 .u64),.agg (List.replicate 8 .u64)],false,fun _=>True,[],[],[.bool z0]⟩⟩
def RO:Cx:=GJ [] []
def PU:Az:=RN.sum RO
theorem QJ:Bp Tryz.prog GB GC 54 (.one PU):=AQ.fin hG .nil .nil Tryz.func54 rfl rfl rfl (.inl rfl) (by kernel_rfl)
def Qp:AQ:=⟨6000,Ab Tryz.f60,Tryz.f60.ntmps,Tryz.f60.results.toList,[],⟨[.agg (List.replicate 8 .u64),.agg (List.replicate 8 .u64)],false,fun _=>True,[],[],[.agg (List.replicate 8 .u64) z1]⟩⟩
def Qj:Cx:=GJ [] []
def WO:Az:=Qp.sum Qj
theorem Yv:Bp Tryz.prog GB GC 60 (.one WO):=AQ.fin hG .nil .nil Tryz.func60 rfl rfl rfl (.inl rfl) (by kernel_rfl)
def NL:AQ:=⟨6000,Ab Tryz.f86,Tryz.f86.ntmps,Tryz.f86.results.toList,[],⟨[.agg (List.replicate 8 .u64),.agg (List.replicate 8 .u64)],false,fun _=>True,[],[],[.agg (List.replicate 8 .u64) z1]⟩⟩
def NI:Cx:=GJ [] []
def KC:Az:=NL.sum NI
theorem Ni:Bp Tryz.prog GB GC 86 (.one KC):=AQ.fin hG .nil .nil Tryz.func86 rfl rfl rfl (.inl rfl) (by kernel_rfl)
def LH:AQ:=⟨6000,Ab Tryz.f71,Tryz.f71.ntmps,Tryz.f71.results.toList,[],⟨[.agg (List.replicate 8 .u64),.agg (List.replicate 8 .u64),.agg (List.replicate 8 .u64)],false,fun _=>True,[],[],[.agg (List.replicate 8 .u64) z1]⟩⟩
def LY:Cx:=GJ [(54,.one PU),(60,.one WO),(86,.one KC)] []
def Eb:Az:=LH.sum LY
theorem Lh:Bp Tryz.prog GB GC 71 (.one Eb):=AQ.fin hG (.cons (k:=54) rfl (QJ hG) Tryz.call54 (AQ.len _ _) (.cons (k:=60) rfl (Yv hG) Tryz.call60 (AQ.len _ _) (.cons (k:=86) rfl (Ni hG) Tryz.call86 (AQ.len _ _) .nil))) .nil Tryz.func71 rfl rfl rfl (.inl rfl) (by kernel_rfl)
def OB:AQ:=⟨6000,Ab Tryz.f78,Tryz.f78.ntmps,Tryz.f78.results.toList,[],⟨[.agg (List.replicate 8 .u64),.agg (List.replicate 8 .u64),.agg (List.replicate 8 .u64)],false,fun _=>True,[],[],[.agg (List.replicate 8 .u64) z1]⟩⟩
def Nq:Cx:=GJ [(54,.one PU),(60,.one WO),(86,.one KC)] []
def IZ:Az:=OB.sum Nq
theorem O8:Bp Tryz.prog GB GC 78 (.one IZ):=AQ.fin hG (.cons (k:=54) rfl (QJ hG) Tryz.call54 (AQ.len _ _) (.cons (k:=60) rfl (Yv hG) Tryz.call60 (AQ.len _ _) (.cons (k:=86) rfl (Ni hG) Tryz.call86 (AQ.len _ _) .nil))) .nil Tryz.func78 rfl rfl rfl (.inl rfl) (by kernel_rfl)
def Nu:AQ:=⟨6000,Ab Tryz.f53,Tryz.f53.ntmps,Tryz.f53.results.toList,[],⟨[.agg (List.replicate 32 .u8)],false,fun _=>True,[],[],[.agg (List.replicate 8 .u64) z1]⟩⟩
def Nh:Cx:=GJ [] []
def TA:Az:=Nu.sum Nh
theorem VX:Bp Tryz.prog GB GC 53 (.one TA):=AQ.fin hG .nil .nil Tryz.func53 rfl rfl rfl (.inl rfl) (by kernel_rfl)
def Iw:AQ:=⟨6000,Ab Tryz.f37,Tryz.f37.ntmps,Tryz.f37.results.toList,[],⟨[.agg (List.replicate 32 .u8)],false,fun _=>True,[],[],[.agg (List.replicate 8 .u64) z1]⟩⟩
def I4:Cx:=GJ [(53,.one TA)] []
def dF:Az:=Iw.sum I4
theorem Y5:Bp Tryz.prog GB GC 37 (.one dF):=AQ.fin hG (.cons (k:=53) rfl (VX hG) Tryz.call53 (AQ.len _ _) .nil) .nil Tryz.func37 rfl rfl rfl (.inl rfl) (by kernel_rfl)
def Jg:AQ:=⟨6000,Ab Tryz.f45,Tryz.f45.ntmps,Tryz.f45.results.toList,[],⟨[.agg (List.replicate 8 .u64)],false,fun _=>True,[],[],[.agg (List.replicate 32 .u8) z1]⟩⟩
def JW:Cx:=GJ [] []
def JY:Az:=Jg.sum JW
theorem Qi:Bp Tryz.prog GB GC 45 (.one JY):=AQ.fin hG .nil .nil Tryz.func45 rfl rfl rfl (.inl rfl) (by kernel_rfl)
def Mo:AQ:=⟨6000,Ab Tryz.f55,Tryz.f55.ntmps,Tryz.f55.results.toList,[],⟨[.agg (List.replicate 8 .u64)],false,fun _=>True,[],[],[.agg (List.replicate 8 .u64) z1]⟩⟩
def Mm:Cx:=GJ [(78,.one IZ),(79,.one EQ)] []
def IP:Az:=Mo.sum Mm
theorem Rw:Bp Tryz.prog GB GC 55 (.one IP):=AQ.fin hG (.cons (k:=78) rfl (O8 hG) Tryz.call78 (AQ.len _ _) (.cons (k:=79) rfl (Ji hG) Tryz.call79 (AQ.len _ _) .nil)) .nil Tryz.func55 rfl rfl rfl (.inl rfl) (by kernel_rfl)
def Ra:AQ:=⟨6000,Ab Tryz.f38,Tryz.f38.ntmps,Tryz.f38.results.toList,[],⟨[.sl (List.replicate 32 .u8) 0 false],false,fun _=>True,[],[],[.agg (List.replicate 32 .u8) z1]⟩⟩
def Rs:Cx:=GJ [] []
def fu:Az:=Ra.sum Rs
theorem cK:Bp Tryz.prog GB GC 38 (.one fu):=AQ.fin hG .nil .nil Tryz.func38 rfl rfl rfl (.inl rfl) (by kernel_rfl)
def Ou:AQ:=⟨6000,Ab Tryz.f67,Tryz.f67.ntmps,Tryz.f67.results.toList,[],⟨[.agg (List.replicate 8 .u64),.int .i64],false,fun _=>True,[],[],[.bool z0]⟩⟩
def La:Cx:=GJ [] []
def GZ:Az:=Ou.sumP La
theorem UE:Bp Tryz.prog GB GC 67 (.one GZ):=AQ.finP hG .nil .nil Tryz.func67 rfl rfl rfl (.inl rfl) (by kernel_rfl)
end
end
section
open Go
def nv:List Int→Int
 | []=>0
 |x::r=>x+4294967296*nv r
def dg(l:List Int):Prop:=∀ x∈l,0≤x∧x<4294967296
theorem dg.cons{x:Int}{l:List Int}(h:dg (x::l)):(0≤x∧x<4294967296)∧dg l:=⟨h x LA,fun y hy=>h y (MQ _ hy)⟩
theorem dg.mk{x:Int}{l:List Int}(h:0≤x∧x<4294967296)(hl:dg l):dg (x::l):=fun y hy=>by
 rcases J4.1 hy with rfl|hy
 ·exact h
 ·exact hl y hy
theorem dg.nil:dg []:=fun x hx=>by cases hx
def pw:Nat→Int
 |0=>1
 |n+1=>4294967296*pw n
theorem wh:∀ {l:List Int},dg l→0≤nv l∧nv l<pw l.length
 | [],_=>by simp[nv,pw]
 |x::r,h=>by
  obtain⟨h1,h2⟩:=h.cons;have:=wh h2;simp only[nv,pw,Oq];omega
abbrev CZ (op:BinOp) (x y:Int):Int:=Ao op .u64 x y
def rG:Int→List Int→List Int→List Int
 |c,x::xs,y::ys=>CZ .rem (CZ .add (CZ .add c x) y) 4294967296::rG (CZ .quo (CZ .add (CZ .add c x) y) 4294967296) xs ys
 |_,_,_=>[]
theorem TH{x y:Int}(h:0≤x+y)(h2:x+y<18446744073709551616):CZ .add x y=x+y:=jD h h2
theorem jS{x:Int}(h:0≤x):CZ .rem x 4294967296=x%4294967296:=by
 show x.tmod 4294967296=_;exact Int.tmod_eq_emod_of_nonneg h
theorem iM{x:Int}(h:0≤x)(h2:x<18446744073709551616):CZ .quo x 4294967296=x/4294967296:=by
 show IntKind.u64.wrap (x.tdiv 4294967296)=_;rw[Int.tdiv_eq_ediv_of_nonneg h];exact JV (k:=.u64) ⟨by show (0:Int)≤_;omega,by show _≤(18446744073709551615:Int);omega⟩
theorem zM:∀ {xs ys:List Int} {c:Int},xs.length=ys.length→dg xs→dg ys→0≤c→c<4294967296→dg (rG c xs ys)∧(rG c xs ys).length=xs.length∧∃ k,0≤k∧c+nv xs+nv ys=nv (rG c xs ys)+k*pw xs.length
 | [],[],c,_,_,_,h0,_=>⟨dg.nil,rfl,c,h0,by simp[rG,nv,pw]⟩
 |x::xs,y::ys,c,hl,hx,hy,h0,h1=>by
  obtain⟨x1,x2⟩:=hx.cons;obtain⟨y1,y2⟩:=hy.cons;have e1:CZ .add (CZ .add c x) y=c+x+y:=by rw[TH (x:=c) (y:=x) (by omega) (by omega),TH (by omega) (by omega)]
  have e2:CZ .rem (c+x+y) 4294967296=(c+x+y)%4294967296:=jS (by omega);have e3:CZ .quo (c+x+y) 4294967296=(c+x+y)/4294967296:=iM (by omega) (by omega);obtain⟨i1,i2,k,k0,k1⟩:=zM (xs:=xs) (ys:=ys) (c:=(c+x+y)/4294967296) (by simpa using hl) x2 y2 (by omega) (by omega);unfold rG;rw[e1,e2,e3];refine⟨dg.mk ⟨by omega,by omega⟩ i1,by rw[Oq,i2,Oq],k,k0,?_⟩;simp only[nv,Oq,pw];have e4:k*(4294967296*pw xs.length)=4294967296*(k*pw xs.length):=by rw[Int.mul_left_comm]
  rw[e4];omega
 | [],_::_,_,h,_,_,_,_=>by simp at h
 |_::_,[],_,h,_,_,_,_=>by simp at h
theorem AJL{a b c d e f g h a' b' c' d' e' f' g' h':Int}:Qp.raw Qj 0 [[a,b,c,d,e,f,g,h],[a',b',c',d',e',f',g',h']]=rG 0 [a,b,c,d,e,f,g,h] [a',b',c',d',e',f',g',h']:=by kernel_rfl
def pU:Int→List Int→List Int→List Int
 |w,x::xs,y::ys=>CZ .rem (CZ .sub (CZ .sub (CZ .add 4294967296 x) y) w) 4294967296::pU (CZ .sub 1 (CZ .quo (CZ .sub (CZ .sub (CZ .add 4294967296 x) y) w) 4294967296)) xs ys
 |_,_,_=>[]
theorem AFW{a b c d e f g h a' b' c' d' e' f' g' h':Int}:NL.raw NI 0 [[a,b,c,d,e,f,g,h],[a',b',c',d',e',f',g',h']]=pU 0 [a,b,c,d,e,f,g,h] [a',b',c',d',e',f',g',h']:=by kernel_rfl
theorem AGI{x y:Int}(h:0≤x-y)(h2:x-y<18446744073709551616):CZ .sub x y=x-y:=JV (k:=.u64) ⟨h,by show _≤(18446744073709551615:Int);omega⟩
theorem AAN:∀ {xs ys:List Int} {w:Int},xs.length=ys.length→dg xs→dg ys→0≤w→w≤1→dg (pU w xs ys)∧(pU w xs ys).length=xs.length∧∃ k,0≤k∧k≤1∧nv xs-nv ys-w=nv (pU w xs ys)-k*pw xs.length
 | [],[],w,_,_,_,h0,h1=>⟨dg.nil,rfl,w,h0,h1,by simp[pU,nv,pw]⟩
 |x::xs,y::ys,w,hl,hx,hy,h0,h1=>by
  obtain⟨x1,x2⟩:=hx.cons;obtain⟨y1,y2⟩:=hy.cons;have e1:CZ .sub (CZ .sub (CZ .add 4294967296 x) y) w=4294967296+x-y-w:=by rw[TH (by omega) (by omega),AGI (x:=4294967296+x) (by omega) (by omega),AGI (by omega) (by omega)]
  have e2:CZ .rem (4294967296+x-y-w) 4294967296=(4294967296+x-y-w)%4294967296:=jS (by omega);have e3:CZ .quo (4294967296+x-y-w) 4294967296=(4294967296+x-y-w)/4294967296:=iM (by omega) (by omega);have e5:CZ .sub 1 ((4294967296+x-y-w)/4294967296)=1-(4294967296+x-y-w)/4294967296:=AGI (by omega) (by omega);obtain⟨i1,i2,k,k0,k1,k2⟩:=AAN (xs:=xs) (ys:=ys) (w:=1-(4294967296+x-y-w)/4294967296) (by simpa using hl) x2 y2 (by omega) (by omega);unfold pU;rw[e1,e2,e3,e5];refine⟨dg.mk ⟨by omega,by omega⟩ i1,by rw[Oq,i2,Oq],k,k0,k1,?_⟩;simp only[nv,Oq,pw];have e4:k*(4294967296*pw xs.length)=4294967296*(k*pw xs.length):=by rw[Int.mul_left_comm]
  rw[e4];omega
 | [],_::_,_,h,_,_,_,_=>by simp at h
 |_::_,[],_,h,_,_,_,_=>by simp at h
structure N8 (l:List Int) (n:Int):Prop where
 len:l.length=8
 dg:dg l
 val:nv l=n
theorem N8.bd{l:List Int}{n:Int}(h:N8 l n):0≤n∧n<pw 8:=by
 have:=wh h.dg;rw[h.len,h.val] at this;exact this
theorem ANA{a b:List Int}{m n:Int}(ha:N8 a m)(hb:N8 b n)(h:m+n<pw 8):N8 (Qp.raw Qj 0 [a,b]) (m+n):=by
 have e:Qp.raw Qj 0 [a,b]=rG 0 a b:=by
  match a,ha.len,b,hb.len with
  | [_,_,_,_,_,_,_,_],_,[_,_,_,_,_,_,_,_],_=>exact AJL
 obtain⟨h1,h2,k,k0,k1⟩:=zM (c:=0) (by rw[ha.len,hb.len]) ha.dg hb.dg (by omega) (by omega);rw[e];refine⟨by rw[h2,ha.len],h1,?_⟩;have hb2:=wh h1;rw[h2,ha.len] at hb2;rw[ha.len,ha.val,hb.val] at k1;have:=ha.bd;have:=hb.bd;have:k=0:=by
  rcases (by omega:k<1∨1≤k) with hk|hk
  ·omega
  ·have:pw 8≤k*pw 8:=by
    have h8:(0:Int)≤pw 8:=by omega
    calc pw 8=1*pw 8:=by rw[zcw]
     _≤k*pw 8:=Int.mul_le_mul_of_nonneg_right hk h8
   omega
 subst this;omega
theorem AAS{a b:List Int}{m n:Int}(ha:N8 a m)(hb:N8 b n)(h:n≤m):N8 (NL.raw NI 0 [a,b]) (m-n):=by
 have e:NL.raw NI 0 [a,b]=pU 0 a b:=by
  match a,ha.len,b,hb.len with
  | [_,_,_,_,_,_,_,_],_,[_,_,_,_,_,_,_,_],_=>exact AFW
 obtain⟨h1,h2,k,k0,k1,k2⟩:=AAN (w:=0) (by rw[ha.len,hb.len]) ha.dg hb.dg (by omega) (by omega);rw[e];refine⟨by rw[h2,ha.len],h1,?_⟩;have hb2:=wh h1;rw[h2,ha.len] at hb2;rw[ha.len,ha.val,hb.val] at k2;have:k=0:=by
  rcases (by omega:k<1∨1≤k) with hk|hk
  ·omega
  ·have:k=1:=by omega
   subst this;omega
 subst this;omega
end
noncomputable section
open Go
def ADu(C:Cx)(s0:Az)(rvs:List ResultVar)(k:Nat)(ρ:Bl)(st:St):List Int:=
 match Lr C s0 rvs st with
 |some es=>(match es[k]? with
  |some e=>e.1.map (·.den ρ)
  |none=>[])
 |none=>[]
def Wl(C:Cx)(s0:Az)(rvs:List ResultVar)(k:Nat):Bc→Bl→List Int
 | .leaf _ st,ρ=>ADu C s0 rvs k ρ st
 | .evs ds _ t,ρ=>Wl C s0 rvs k t (Dc C.T ρ ds)
 | .br x t f,ρ=>if x.den ρ=0 then Wl C s0 rvs k f ρ else Wl C s0 rvs k t ρ
 | .brc f ar t e,ρ=>match lk f C.T with
  |some fe=>cond (fe.cnd (ar.map (·.den ρ))) (Wl C s0 rvs k t ρ) (Wl C s0 rvs k e ρ)
  |none=>[]
 | .chk _ t,ρ=>Wl C s0 rvs k t ρ
 | .bad _,_=>[]
def ARX(C:Cx)(s0:Az)(rvs:List ResultVar)(k:Nat):Option (Bl×St)→List Int
 |some (ρ,st)=>ADu C s0 rvs k ρ st
 |none=>[]
theorem Tm{C:Cx}{s0:Az}{rvs:List ResultVar}{k:Nat}:∀ {t:Bc} {ρ:Bl},ARX C s0 rvs k (Xq C.T t ρ)=Wl C s0 rvs k t ρ
 | .leaf _ st,ρ=>rfl
 | .evs ds _ t,ρ=>Tm (t:=t)
 | .br x t f,ρ=>by
  unfold Xq Wl
  split
  ·exact Tm (t:=f)
  ·exact Tm (t:=t)
 | .brc f ar t e,ρ=>by
  unfold Xq Wl
  cases lk f C.T with
  |none=>rfl
  |some fe=>
   show ARX C s0 rvs k (cond _ _ _)=cond _ _ _
   cases fe.cnd (ar.map (·.den ρ)) with
   |true=>exact Tm (t:=t)
   |false=>exact Tm (t:=e)
 | .chk _ t,ρ=>Tm (t:=t)
 | .bad _,_=>rfl
theorem ZN{C:Cx}{i:AQ}{k:Nat}{ins:List (List Int)}:i.raw C k ins=Wl C i.s0 i.rvs k (i.tree C) (A8 ins):=by
 rw[← Tm];show SF C i.s0 i.rvs (i.tree C) k ins=_;unfold SF
 cases Xq C.T (i.tree C) (A8 ins) with
 |none=>rfl
 |some p=>rfl
def qI:List Int→List Int→List Int
 |x::xs,y::ys=>if CZ .neq x y=0 then qI xs ys else [CZ .lss x y]
 |_,_=>[0]
theorem AFw{a b c d e f g h a' b' c' d' e' f' g' h':Int}:RN.raw RO 0 [[a,b,c,d,e,f,g,h],[a',b',c',d',e',f',g',h']]=qI [h,g,f,e,d,c,b,a] [h',g',f',e',d',c',b',a']:=by
 rw[ZN]
 kernel_rfl
def nm:List Int→Int
 | []=>0
 |x::r=>x*pw r.length+nm r
theorem AEj:∀ {l:List Int},dg l→0≤nm l∧nm l<pw l.length
 | [],_=>by simp[nm,pw]
 |x::r,h=>by
  obtain⟨h1,h2⟩:=h.cons;have i:=AEj h2;have hp:0<pw r.length:=by omega
  have h3:x*pw r.length≤4294967295*pw r.length:=Int.mul_le_mul_of_nonneg_right (by omega) (by omega);have h4:0≤x*pw r.length:=Int.mul_nonneg h1.1 (by omega);simp only[nm,pw,Oq];omega
theorem qE:∀ {xs ys:List Int},xs.length=ys.length→dg xs→dg ys→qI xs ys= [K9 (decide (nm xs<nm ys))]
 | [],[],_,_,_=>by simp[qI,nm,K9]
 | x::xs,y::ys,hl,hx,hy=>by
  obtain⟨x1,x2⟩:=hx.cons;obtain⟨y1,y2⟩:=hy.cons;have hl':xs.length=ys.length:=by simpa using hl
  have ih:=qE hl' x2 y2;have bx:=AEj x2;have by':=AEj y2;rw[hl'] at bx;unfold qI
  by_cases he:x=y
  ·subst he;have e:CZ .neq x x=0:=by show K9 (x != x)=0;simp[K9]
   rw[if_pos e,ih];simp only[nm,hl']
   congr 2
   exact decide_eq_decide.2 (by omega)
  ·have e:¬ CZ .neq x y=0:=by
    show ¬ K9 (x != y)=0;have:(x != y)=true:=by simpa using he
    rw[this];simp[K9]
   rw[if_neg e];show [K9 (decide (x<y))]=_;simp only[nm,hl']
   congr 2
   refine decide_eq_decide.2 ?_
   rcases (by omega:x+1≤y∨y+1≤x) with hk|hk
   ·have h3:(x+1)*pw ys.length≤y*pw ys.length:=Int.mul_le_mul_of_nonneg_right hk (by omega);rw[sI] at h3;omega
   ·have h3:(y+1)*pw ys.length≤x*pw ys.length:=Int.mul_le_mul_of_nonneg_right hk (by omega);rw[sI] at h3;omega
 | [],_::_,h,_,_=>by simp at h
 |_::_,[],h,_,_=>by simp at h
theorem AJy{a b:List Int}{m n:Int}(ha:N8 a m)(hb:N8 b n):RN.raw RO 0 [a,b]= [K9 (decide (m<n))]:=by
 match a,ha,b,hb with
 | [a0,a1,a2,a3,a4,a5,a6,a7],ha,[b0,b1,b2,b3,b4,b5,b6,b7],hb=>
  rw[AFw,qE (xs:=[a7,a6,a5,a4,a3,a2,a1,a0]) (ys:=[b7,b6,b5,b4,b3,b2,b1,b0]) rfl]
  ·have h1:=ha.val;have h2:=hb.val;simp only[nv] at h1 h2;simp only[nm,pw,Oq,zcj]
   congr 2
   refine decide_eq_decide.2 ?_;omega
  ·intro x hx
   exact ha.dg x (by simp only[J4,List.not_mem_nil,or_false] at hx ⊢;omega)
  ·intro x hx
   exact hb.dg x (by simp only[J4,List.not_mem_nil,or_false] at hx ⊢;omega)
def l8(s:List Int):List Int:=[s.getD 0 0,s.getD 1 0,s.getD 2 0,s.getD 3 0,s.getD 4 0,s.getD 5 0,s.getD 6 0,s.getD 7 0]
theorem UT{s:List Int}(h:s.length=8):l8 s=s:=by
 match s,h with
 | [_,_,_,_,_,_,_,_],_=>rfl
def ABN(a b:List Int):List Int:=Aw 8 (Qp.raw Qj 0 [a,b])
def cO(a b:List Int):List Int:=Aw 8 (NL.raw NI 0 [a,b])
def aZ(a b:List Int):List Int:=[d1 (RN.raw RO 0 [a,b])]
theorem AE0{a b p:List Int}:LH.raw LY 0 [a,b,p]=if (aZ (ABN a b) p).getD 0 0=0 then l8 (cO (ABN a b) p) else l8 (ABN a b):=by
 rw[ZN]
 kernel_rfl
theorem ABJ{a b p:List Int}:OB.raw Nq 0 [a,b,p]=if (aZ a b).getD 0 0=0 then l8 (cO a b) else l8 (cO (ABN a p) b):=by
 rw[ZN]
 kernel_rfl
theorem wX{a b:List Int}{m n:Int}(ha:N8 a m)(hb:N8 b n)(h:m+n<pw 8):N8 (ABN a b) (m+n):=by
 have:=ANA ha hb h;unfold ABN
 rwa [Au this.len]
theorem Uc{a b:List Int}{m n:Int}(ha:N8 a m)(hb:N8 b n)(h:n≤m):N8 (cO a b) (m-n):=by
 have:=AAS ha hb h;unfold cO
 rwa [Au this.len]
theorem Nz{a b:List Int}{m n:Int}(ha:N8 a m)(hb:N8 b n):(aZ a b).getD 0 0=0↔n≤m:=by
 unfold aZ;rw[AJy ha hb];show K9 _=0↔_
 by_cases h:m<n
 ·rw[decide_eq_true h];exact⟨fun e=>absurd (show (1:Int)=0 from e) (by decide),fun e=>absurd h (by omega)⟩
 ·rw[decide_eq_false h];exact⟨fun _=>by omega,fun _=>rfl⟩
theorem ZQ{a b p:List Int}{m n q:Int}(ha:N8 a m)(hb:N8 b n)(hp:N8 p q)(hm:m<q)(hn:n<q)(h2:2*q≤pw 8):N8 (LH.raw LY 0 [a,b,p]) ((m+n)%q):=by
 have:=ha.bd;have:=hb.bd;have hs:=wX ha hb (by omega);rw[AE0]
 by_cases h:q≤m+n
 ·have hr:=Uc hs hp h;rw[if_pos ((Nz hs hp).2 h),UT hr.len];have e:(m+n)%q=m+n-q:=by
   rw[← Int.sub_emod_right,zcd (by omega) (by omega)]
  rwa [e]
 ·rw[if_neg (fun e=>h ((Nz hs hp).1 e)),UT hs.len,zcd (by omega) (by omega)];exact hs
theorem nN{a b p:List Int}{m n q:Int}(ha:N8 a m)(hb:N8 b n)(hp:N8 p q)(hm:m<q)(hn:n≤q)(_h0:n=q→m=0)(h2:2*q≤pw 8):N8 (OB.raw Nq 0 [a,b,p]) ((m-n)%q):=by
 have:=ha.bd;have:=hb.bd;rw[ABJ]
 by_cases h:n≤m
 ·have hr:=Uc ha hb h;rw[if_pos ((Nz ha hb).2 h),UT hr.len,zcd (by omega) (by omega)];exact hr
 ·have hs:=wX ha hp (by omega);have hr:=Uc hs hb (by omega);rw[if_neg (fun e=>h ((Nz ha hb).1 e)),UT hr.len];have e:(m-n)%q=m+q-n:=by
   rw[← Int.add_emod_right,zcd (by omega) (by omega)];omega
  rwa [e]
end
section
open Go
def shO(x k:Int):Int:=CZ .shl (IntKind.u64.wrap x) k
def wdO(a b c d:Int):Int:=CZ .add (CZ .add (CZ .add (CZ .add 0 (shO a 0)) (shO b 8)) (shO c 16)) (shO d 24)
def dR:List Int→List Int
 |a::b::c::d::r=>wdO a b c d::dR r
 |_=>[]
theorem ABe{b0 b1 b2 b3 b4 b5 b6 b7 b8 b9 Ω b11 b12 b13 b14 b15 b16 Ψ b18 b19 b20 b21 b22 b23 b24 Ξ b26 b27 b28 b29 b30 Γ:Int}:Nu.raw Nh 0 [[b0,b1,b2,b3,b4,b5,b6,b7,b8,b9,Ω,b11,b12,b13,b14,b15,b16,Ψ,b18,b19,b20,b21,b22,b23,b24,Ξ,b26,b27,b28,b29,b30,Γ]]=dR [b0,b1,b2,b3,b4,b5,b6,b7,b8,b9,Ω,b11,b12,b13,b14,b15,b16,Ψ,b18,b19,b20,b21,b22,b23,b24,Ξ,b26,b27,b28,b29,b30,Γ]:=by kernel_rfl
theorem TW{x:Int}(h:0≤x)(h2:x<18446744073709551616):IntKind.u64.wrap x=x:=JV (k:=.u64) ⟨h,by show _≤(18446744073709551615:Int);omega⟩
theorem AVL{x:Int}(h:0≤x∧x≤255):shO x 0=x:=by
 show IntKind.u64.wrap (IntKind.u64.wrap x*1)=_;rw[TW (x:=x) (by omega) (by omega),TW (by omega) (by omega),zcz]
theorem AV0{x:Int}(h:0≤x∧x≤255):shO x 8=256*x:=by
 show IntKind.u64.wrap (IntKind.u64.wrap x*256)=_;rw[TW (x:=x) (by omega) (by omega),TW (by omega) (by omega),Y6]
theorem ASX{x:Int}(h:0≤x∧x≤255):shO x 16=65536*x:=by
 show IntKind.u64.wrap (IntKind.u64.wrap x*65536)=_;rw[TW (x:=x) (by omega) (by omega),TW (by omega) (by omega),Y6]
theorem ATh{x:Int}(h:0≤x∧x≤255):shO x 24=16777216*x:=by
 show IntKind.u64.wrap (IntKind.u64.wrap x*16777216)=_;rw[TW (x:=x) (by omega) (by omega),TW (by omega) (by omega),Y6]
theorem AL3{a b c d:Int}(ha:0≤a∧a≤255)(hb:0≤b∧b≤255)(hc:0≤c∧c≤255)(hd:0≤d∧d≤255):wdO a b c d=a+256*b+65536*c+16777216*d:=by
 unfold wdO;rw[AVL ha,AV0 hb,ASX hc,ATh hd,TH (x:=0) (y:=a) (by omega) (by omega),TH (x:=0+a) (by omega) (by omega),TH (x:=0+a+256*b) (by omega) (by omega),TH (by omega) (by omega)];omega
theorem by8.cons{x:Int}{l:List Int}(h:by8 (x::l)):(0≤x∧x≤255)∧by8 l:=⟨h x LA,fun y hy=>h y (MQ _ hy)⟩
theorem by8.mk{x:Int}{l:List Int}(h:0≤x∧x≤255)(hl:by8 l):by8 (x::l):=fun y hy=>by
 rcases J4.1 hy with rfl|hy
 ·exact h
 ·exact hl y hy
theorem rC:∀ (n:Nat) {l:List Int},l.length=4*n→by8 l→dg (dR l)∧(dR l).length=n∧nv (dR l)=IG l
 |0,l,h,_=>by
  obtain rfl:l= []:=by simpa using h
  exact⟨dg.nil,rfl,rfl⟩
 |n+1,a::b::c::d::r,h,hb=>by
  obtain⟨h1,hb⟩:=hb.cons;obtain⟨h2,hb⟩:=hb.cons;obtain⟨h3,hb⟩:=hb.cons;obtain⟨h4,hb⟩:=hb.cons;obtain⟨i1,i2,i3⟩:=rC n (l:=r) (by simp only[Oq] at h;omega) hb;unfold dR;rw[AL3 h1 h2 h3 h4];refine⟨dg.mk ⟨by omega,by omega⟩ i1,by rw[Oq,i2],?_⟩;simp only[nv,IG,i3];omega
 |n+1,[],h,_=>by simp at h
 |n+1,[_],h,_=>by simp only[Oq,zcj] at h;omega
 |n+1,[_,_],h,_=>by simp only[Oq,zcj] at h;omega
 |n+1,[_,_,_],h,_=>by simp only[Oq,zcj] at h;omega
theorem dG{l:List Int}(hl:l.length=32)(h:by8 l):N8 (Nu.raw Nh 0 [l]) (IG l):=by
 have e:Nu.raw Nh 0 [l]=dR l:=by
  match l,hl with
  | [_,_,_,_,_,_,_,_,_,_,_,_,_,_,_,_,_,_,_,_,_,_,_,_,_,_,_,_,_,_,_,_],_=>exact ABe
 obtain⟨h1,h2,h3⟩:=rC 8 hl h;rw[e];exact⟨h2,h1,h3⟩
def byO(x k:Int):Int:=IntKind.u8.wrap (CZ .shr x k)
def vT:List Int→List Int
 |d::r=>byO d 0::byO d 8::byO d 16::byO d 24::vT r
 | []=>[]
theorem vK{a b c d e f g h:Int}:Jg.raw JW 0 [[a,b,c,d,e,f,g,h]]=vT [a,b,c,d,e,f,g,h]:=by kernel_rfl
theorem uS{x:Int}:IntKind.u8.wrap x=x%256:=by
 simp[IntKind.wrap,IntKind.bits,IntKind.signed]
theorem AU3{x:Int}:byO x 0=x%256:=by
 show IntKind.u8.wrap (x.fdiv 1)=_;rw[uS,Int.fdiv_one]
theorem AVD{x:Int}:byO x 8=x/256%256:=by
 show IntKind.u8.wrap (x.fdiv 256)=_;rw[uS,Int.fdiv_eq_ediv_of_nonneg _ (by decide)]
theorem ARb{x:Int}:byO x 16=x/65536%256:=by
 show IntKind.u8.wrap (x.fdiv 65536)=_;rw[uS,Int.fdiv_eq_ediv_of_nonneg _ (by decide)]
theorem AR7{x:Int}:byO x 24=x/16777216%256:=by
 show IntKind.u8.wrap (x.fdiv 16777216)=_;rw[uS,Int.fdiv_eq_ediv_of_nonneg _ (by decide)]
theorem xG:∀ {l:List Int},dg l→by8 (vT l)∧(vT l).length=4*l.length∧IG (vT l)=nv l
 | [],_=>⟨fun x hx=>(nomatch hx),rfl,rfl⟩
 |d::r,h=>by
  obtain⟨h1,h2⟩:=h.cons;obtain⟨i1,i2,i3⟩:=xG h2;unfold vT;rw[AU3,AVD,ARb,AR7];refine⟨.mk ⟨by omega,by omega⟩ (.mk ⟨by omega,by omega⟩ (.mk ⟨by omega,by omega⟩ (.mk ⟨by omega,by omega⟩ i1))),by simp only[Oq,i2];omega,?_⟩;simp only[nv,IG,i3];omega
structure B32 (l:List Int) (n:Int):Prop where
 len:l.length=32
 by8:by8 l
 val:IG l=n
theorem iN{a:List Int}{m:Int}(ha:N8 a m):B32 (Jg.raw JW 0 [a]) m:=by
 have e:Jg.raw JW 0 [a]=vT a:=by
  match a,ha.len with
  | [_,_,_,_,_,_,_,_],_=>exact vK
 obtain⟨h1,h2,h3⟩:=xG ha.dg;rw[e];exact⟨by rw[h2,ha.len],h1,by rw[h3,ha.val]⟩
end
noncomputable section
open Go
def Vf:Int:=57896044618658097711785492504343953926634992332820282019728792003956564819949
def nT:Int:=7237005577332262213973186563042994240857116359379907606001950938285454250989
def dgB(l:List Int):Bool:=l.all fun x=>Bj 0 x&&Bj x 4294967295
theorem fE{l:List Int}(h:dgB l=true):dg l:=fun x hx=>by
 have:=Ll.1 h x hx;simp only[Bd] at this;exact⟨BB this.1,by have:=BB this.2;omega⟩
theorem dD:N8 (QC.raw QH 0 []) Vf:=⟨by kernel_rfl,fE (by kernel_rfl),by kernel_rfl⟩
theorem Ui:N8 (Hg.raw Hl 0 []) nT:=⟨by kernel_rfl,fE (by kernel_rfl),by kernel_rfl⟩
theorem iX{x:Int}:QS.raw QB 0 [[x]]= [x,0,0,0,0,0,0,0]:=by kernel_rfl
theorem qm{x:Int}(h:0≤x∧x<4294967296):N8 (QS.raw QB 0 [[x]]) x:=by
 rw[iX];have z:(0:Int)≤0∧(0:Int)<4294967296:=by omega
 exact⟨rfl,.mk h (.mk z (.mk z (.mk z (.mk z (.mk z (.mk z (.mk z .nil))))))),by simp only[nv];omega⟩
def fH:List Int:=Aw 8 (QC.raw QH 0 [])
def AQ2(a b p:List Int):List Int:=Aw 8 (OB.raw Nq 0 [a,b,p])
theorem kU{a:List Int}:Mo.raw Mm 0 [a]=l8 (AQ2 [0,0,0,0,0,0,0,0] a fH):=by kernel_rfl
theorem rA{a:List Int}{m:Int}(ha:N8 a m)(hm:m<Vf):N8 (Mo.raw Mm 0 [a]) (-m%Vf):=by
 have z:(0:Int)≤0∧(0:Int)<4294967296:=by omega
 have h0:N8 [0,0,0,0,0,0,0,0] 0:=⟨rfl,.mk z (.mk z (.mk z (.mk z (.mk z (.mk z (.mk z (.mk z .nil))))))),rfl⟩;have hp:N8 fH Vf:=by
  have:=dD;unfold fH
  rwa [Au this.len]
 have h:=nN h0 ha hp (by decide) (by omega) (fun _=>rfl) (by decide);rw[kU];unfold AQ2;rw[Au h.len,UT h.len]
 rwa [Int.zero_sub] at h
end
section
open Go
def vZ(b:Int):Int:=Ao .andNot .u8 b 7
def vQ(b:Int):Int:=Ao .or .u8 (Ao .rem .u8 b 128) 64
def clB:List Int→List Int
 | [b0,b1,b2,b3,b4,b5,b6,b7,b8,b9,Ω,b11,b12,b13,b14,b15,b16,Ψ,b18,b19,b20,b21,b22,b23,b24,Ξ,b26,b27,b28,b29,b30,Γ]=>[vZ b0,b1,b2,b3,b4,b5,b6,b7,b8,b9,Ω,b11,b12,b13,b14,b15,b16,Ψ,b18,b19,b20,b21,b22,b23,b24,Ξ,b26,b27,b28,b29,b30,vQ Γ]
 |_=>[]
noncomputable def YS(l:List Int):List Int:=Aw 8 (Nu.raw Nh 0 [l])
theorem pQ{b0 b1 b2 b3 b4 b5 b6 b7 b8 b9 Ω b11 b12 b13 b14 b15 b16 Ψ b18 b19 b20 b21 b22 b23 b24 Ξ b26 b27 b28 b29 b30 Γ:Int}:Iw.raw I4 0 [[b0,b1,b2,b3,b4,b5,b6,b7,b8,b9,Ω,b11,b12,b13,b14,b15,b16,Ψ,b18,b19,b20,b21,b22,b23,b24,Ξ,b26,b27,b28,b29,b30,Γ]]=l8 (YS (clB [b0,b1,b2,b3,b4,b5,b6,b7,b8,b9,Ω,b11,b12,b13,b14,b15,b16,Ψ,b18,b19,b20,b21,b22,b23,b24,Ξ,b26,b27,b28,b29,b30,Γ])):=by kernel_rfl
theorem ACf:∀ n:Fin 256,vZ ((n.val:Nat):Int)=((n.val/8*8:Nat):Int):=by decide +kernel
theorem ACl:∀ n:Fin 256,vQ ((n.val:Nat):Int)=((n.val%64+64:Nat):Int):=by decide +kernel
theorem AGr{b:Int}(h:0≤b∧b≤255):vZ b=b/8*8:=by
 obtain⟨n,rfl⟩:=cu h.1;have:=ACf ⟨n,by omega⟩;simp only at this;rw[this];omega
theorem AHu{b:Int}(h:0≤b∧b≤255):vQ b=b%64+64:=by
 obtain⟨n,rfl⟩:=cu h.1;have:=ACl ⟨n,by omega⟩;simp only at this;rw[this];omega
theorem Oi{l:List Int}(hl:l.length=32)(h:by8 l):N8 (Iw.raw I4 0 [l]) (IG (clB l))∧(clB l).length=32∧by8 (clB l):=by
 match l,hl with
 | [b0,b1,b2,b3,b4,b5,b6,b7,b8,b9,Ω,b11,b12,b13,b14,b15,b16,Ψ,b18,b19,b20,b21,b22,b23,b24,Ξ,b26,b27,b28,b29,b30,Γ],_=>
  have h0:=h b0 (by simp);have h31:=h Γ (by simp);have hb:by8 (clB [b0,b1,b2,b3,b4,b5,b6,b7,b8,b9,Ω,b11,b12,b13,b14,b15,b16,Ψ,b18,b19,b20,b21,b22,b23,b24,Ξ,b26,b27,b28,b29,b30,Γ]):=by
   show by8 [vZ b0,b1,b2,b3,b4,b5,b6,b7,b8,b9,Ω,b11,b12,b13,b14,b15,b16,Ψ,b18,b19,b20,b21,b22,b23,b24,Ξ,b26,b27,b28,b29,b30,vQ Γ];rw[AGr h0,AHu h31]
   intro x hx
   rcases J4.1 hx with rfl|hx
   ·omega
   ·rcases iQ.1 (show x ∈ [b1,b2,b3,b4,b5,b6,b7,b8,b9,Ω,b11,b12,b13,b14,b15,b16,Ψ,b18,b19,b20,b21,b22,b23,b24,Ξ,b26,b27,b28,b29,b30] ++ [Γ%64+64] from hx) with hx|hx
    ·exact h x (MQ _ (iQ.2 (Or.inl hx):x ∈ [b1,b2,b3,b4,b5,b6,b7,b8,b9,Ω,b11,b12,b13,b14,b15,b16,Ψ,b18,b19,b20,b21,b22,b23,b24,Ξ,b26,b27,b28,b29,b30] ++ [Γ]))
    ·have:=Nc.1 hx;omega
  have hw:=dG (l:=clB [b0,b1,b2,b3,b4,b5,b6,b7,b8,b9,Ω,b11,b12,b13,b14,b15,b16,Ψ,b18,b19,b20,b21,b22,b23,b24,Ξ,b26,b27,b28,b29,b30,Γ]) rfl hb;refine⟨?_,rfl,hb⟩;rw[pQ];unfold YS;rw[Au hw.len,UT hw.len];exact hw
end
end Go.Proofs.YtloibefkijfdlaaGreatDoor
