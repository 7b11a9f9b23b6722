/- Contracts that the trees give: the reference: small functions. -/
import Derived.Test.YtloibefkijfdlaaGreatDoorFa
namespace Go.Proofs.YtloibefkijfdlaaGreatDoor
noncomputable section
open Go
section
variable{GB:Nat}{GC:Nat->Nat->Option Value}{ad:Nat->Nat×Nat}(hG:Gw GB GC ad)
include hG
def J7:Ad:=⟨6000,Ak Tryz.f43,Tryz.f43.ntmps,Tryz.f43.results.toList,[],⟨[],false,λ_=>True,[],[],[.agg (List.replicate 8 .u64) z1]⟩⟩
def Jq:Cx:=Ht [] []
def dC:BH:=J7.sum Jq
theorem Zh:Ck Tryz.prog GB GC 43 (.one dC):=Ad.fin hG .nil .nil Tryz.func43 rfl rfl rfl (.inl rfl) (by kernel_rfl)
def MZ:Ad:=⟨6000,Ak Tryz.f60,Tryz.f60.ntmps,Tryz.f60.results.toList,[],⟨[.agg (List.replicate 8 .u64),.agg (List.replicate 8 .u64)],false,λ_=>True,[],[],[.agg (List.replicate 8 .u64) z1]⟩⟩
def Md:Cx:=Ht [] []
def oL:BH:=MZ.sum Md
theorem jk:Ck Tryz.prog GB GC 60 (.one oL):=Ad.fin hG .nil .nil Tryz.func60 rfl rfl rfl (.inl rfl) (by kernel_rfl)
def IQ:Ad:=⟨6000,Ak Tryz.f53,Tryz.f53.ntmps,Tryz.f53.results.toList,[],⟨[.agg (List.replicate 32 .u8)],false,λ_=>True,[],[],[.agg (List.replicate 8 .u64) z1]⟩⟩
def IJ:Cx:=Ht [] []
def U9:BH:=IQ.sum IJ
theorem Zr:Ck Tryz.prog GB GC 53 (.one U9):=Ad.fin hG .nil .nil Tryz.func53 rfl rfl rfl (.inl rfl) (by kernel_rfl)
def Si:Ad:=⟨6000,Ak Tryz.f37,Tryz.f37.ntmps,Tryz.f37.results.toList,[],⟨[.agg (List.replicate 32 .u8)],false,λ_=>True,[],[],[.agg (List.replicate 8 .u64) z1]⟩⟩
def SL:Cx:=Ht [(53,.one U9)] []
def MJ:Ad:=⟨6000,Ak Tryz.f45,Tryz.f45.ntmps,Tryz.f45.results.toList,[],⟨[.agg (List.replicate 8 .u64)],false,λ_=>True,[],[],[.agg (List.replicate 32 .u8) z1]⟩⟩
def Ll:Cx:=Ht [] []
def Zl:BH:=MJ.sum Ll
theorem ZU:Ck Tryz.prog GB GC 45 (.one Zl):=Ad.fin hG .nil .nil Tryz.func45 rfl rfl rfl (.inl rfl) (by kernel_rfl)
def Ql:Ad:=⟨6000,Ak Tryz.f38,Tryz.f38.ntmps,Tryz.f38.results.toList,[],⟨[.sl (List.replicate 32 .u8) 0 false],false,λ_=>True,[],[],[.agg (List.replicate 32 .u8) z1]⟩⟩
def Qg:Cx:=Ht [] []
def Zo:BH:=Ql.sum Qg
theorem Y5:Ck Tryz.prog GB GC 38 (.one Zo):=Ad.fin hG .nil .nil Tryz.func38 rfl rfl rfl (.inl rfl) (by kernel_rfl)
end
end
section
open Go
def nv:List Int->Int
 | []=>0
 |x::r=>x+4294967296*nv r
def dg(l:List Int):Prop:=∀x∈l,0<=x/\x<4294967296
theorem dg.cons{x:Int}{l:List Int}(h:dg (x::l)):(0<=x/\x<4294967296)/\dg l:=⟨h x Kh,λy hy=>h y (Lv _ hy)⟩
theorem dg.mk{x:Int}{l:List Int}(h:0<=x/\x<4294967296)(hl:dg l):dg (x::l):=λy hy=>by
 rcases IR.1 hy with rfl|hy
 ·exact h
 ·exact hl y hy
theorem dg.nil:dg []:=λx hx=>by cases hx
def pw:Nat->Int
 |0=>1
 |n+1=>4294967296*pw n
theorem AAu:∀ {l:List Int},dg l->0<=nv l/\nv l<pw l.length
 | [],_=>by simp[nv,pw]
 |x::r,h=>by
  obtain⟨h1,h2⟩:=h.cons;have:=AAu h2;simp only[nv,pw,Uk];omega
abbrev Rl (op:BinOp) (x y:Int):Int:=Ah op .u64 x y
def ic:Int->List Int->List Int->List Int
 |c,x::xs,y::ys=>Rl .rem (Rl .add (Rl .add c x) y) 4294967296::ic (Rl .quo (Rl .add (Rl .add c x) y) 4294967296) xs ys
 |_,_,_=>[]
theorem ah{x y:Int}(h:0<=x+y)(h2:x+y<18446744073709551616):Rl .add x y=x+y:=kG h h2
theorem AP7{x:Int}(h:0<=x):Rl .rem x 4294967296=x%4294967296:=by
 show x.tmod 4294967296=_;exact Int.tmod_eq_emod_of_nonneg h
theorem APJ{x:Int}(h:0<=x)(h2:x<18446744073709551616):Rl .quo x 4294967296=x/4294967296:=by
 show IntKind.u64.wrap (x.tdiv 4294967296)=_;rw[Int.tdiv_eq_ediv_of_nonneg h];exact JZ (k:=.u64) ⟨by show(0:Int)<=_;omega,by show _<=(18446744073709551615:Int);omega⟩
theorem wP:∀ {xs ys:List Int} {c:Int},xs.length=ys.length->dg xs->dg ys->0<=c->c<4294967296->dg (ic c xs ys)/\(ic c xs ys).length=xs.length/\∃k,0<=k/\c+nv xs+nv ys=nv (ic c xs ys)+k*pw xs.length
 | [],[],c,_,_,_,h0,_=>⟨dg.nil,rfl,c,h0,by simp[ic,nv,pw]⟩
 |x::xs,y::ys,c,hl,hx,hy,h0,h1=>by
  obtain⟨x1,x2⟩:=hx.cons;obtain⟨y1,y2⟩:=hy.cons;have e1:Rl .add (Rl .add c x) y=c+x+y:=by rw[ah (x:=c) (y:=x) (by omega) (by omega),ah (by omega) (by omega)]
  have e2:Rl .rem (c+x+y) 4294967296=(c+x+y)%4294967296:=AP7 (by omega);have e3:Rl .quo (c+x+y) 4294967296=(c+x+y)/4294967296:=APJ (by omega) (by omega);obtain⟨i1,i2,k,k0,k1⟩:=wP (xs:=xs) (ys:=ys) (c:=(c+x+y)/4294967296) (by simpa using hl) x2 y2 (by omega) (by omega);unfold ic;rw[e1,e2,e3];refine⟨dg.mk ⟨by omega,by omega⟩ i1,by rw[Uk,i2,Uk],k,k0,?_⟩;simp only[nv,Uk,pw];have e4:k*(4294967296*pw xs.length)=4294967296*(k*pw xs.length):=by rw[Int.mul_left_comm]
  rw[e4];omega
 | [],_::_,_,h,_,_,_,_=>by simp at h
 |_::_,[],_,h,_,_,_,_=>by simp at h
theorem AFq{a b c d e f g h a' b' c' d' e' f' g' h':Int}:MZ.raw Md 0 [[a,b,c,d,e,f,g,h],[a',b',c',d',e',f',g',h']]=ic 0 [a,b,c,d,e,f,g,h] [a',b',c',d',e',f',g',h']:=by kernel_rfl
structure N8 (l:List Int) (n:Int):Prop where
 len:l.length=8
 dg:dg l
 val:nv l=n
theorem N8.bd{l:List Int}{n:Int}(h:N8 l n):0<=n/\n<pw 8:=by
 have:=AAu h.dg;rw[h.len,h.val] at this;exact this
theorem ADC{a b:List Int}{m n:Int}(ha:N8 a m)(hb:N8 b n)(h:m+n<pw 8):N8 (MZ.raw Md 0 [a,b]) (m+n):=by
 have e:MZ.raw Md 0 [a,b]=ic 0 a b:=by
  match a,ha.len,b,hb.len with
  | [_,_,_,_,_,_,_,_],_,[_,_,_,_,_,_,_,_],_=>exact AFq
 obtain⟨h1,h2,k,k0,k1⟩:=wP (c:=0) (by rw[ha.len,hb.len]) ha.dg hb.dg (by omega) (by omega);rw[e];refine⟨by rw[h2,ha.len],h1,?_⟩;have fx:=AAu h1;rw[h2,ha.len] at fx;rw[ha.len,ha.val,hb.val] at k1;have:=ha.bd;have:=hb.bd;have:k=0:=by
  rcases(by omega:k<1\/1<=k) with hk|hk
  ·omega
  ·have:pw 8<=k*pw 8:=by
    have h8:(0:Int)<=pw 8:=by omega
    calc pw 8=1*pw 8:=by rw[zda]
     _<=k*pw 8:=Int.mul_le_mul_of_nonneg_right hk h8
   omega
 subst this;omega
end
section
open Go
def ABa(C:Cx)(s0:BH)(cF:List ResultVar)(k:Nat)(ρ:Br)(st:St):List Int:=
 match Ml C s0 cF st with
 |some es=>(match es[k]? with
  |some e=>e.1.map (·.den ρ)
  |none=>[])
 |none=>[]
def Wt(C:Cx)(s0:BH)(cF:List ResultVar)(k:Nat):Bz->Br->List Int
 | .leaf _ st,ρ=>ABa C s0 cF k ρ st
 | .fz ds _ t,ρ=>Wt C s0 cF k t (Dl C.T ρ ds)
 | .br x t f,ρ=>if x.den ρ=0 then Wt C s0 cF k f ρ else Wt C s0 cF k t ρ
 | .j8 f ar t e,ρ=>match lk f C.T with
  |some fe=>cond (fe.oe (ar.map (·.den ρ))) (Wt C s0 cF k t ρ) (Wt C s0 cF k e ρ)
  |none=>[]
 | .dc _ t,ρ=>Wt C s0 cF k t ρ
 | .bad _,_=>[]
def APW(C:Cx)(s0:BH)(cF:List ResultVar)(k:Nat):Option (Br×St)->List Int
 |some (ρ,st)=>ABa C s0 cF k ρ st
 |none=>[]
theorem UG{C:Cx}{s0:BH}{cF:List ResultVar}{k:Nat}:∀ {t:Bz} {ρ:Br},APW C s0 cF k (WG C.T t ρ)=Wt C s0 cF k t ρ
 | .leaf _ st,ρ=>rfl
 | .fz ds _ t,ρ=>UG (t:=t)
 | .br x t f,ρ=>by
  unfold WG Wt;split
  ·exact UG (t:=f)
  ·exact UG (t:=t)
 | .j8 f ar t e,ρ=>by
  unfold WG Wt;cases lk f C.T with
  |none=>rfl
  |some fe=>
   show APW C s0 cF k (cond _ _ _)=cond _ _ _;cases fe.oe (ar.map (·.den ρ)) with
   |true=>exact UG (t:=t)
   |false=>exact UG (t:=e)
 | .dc _ t,ρ=>UG (t:=t)
 | .bad _,_=>rfl
theorem AHK{C:Cx}{i:Ad}{k:Nat}{ins:List (List Int)}:i.raw C k ins=Wt C i.s0 i.cF k (i.tree C) (Ce ins):=by
 rw[<- UG];show Vo C i.s0 i.cF (i.tree C) k ins=_;unfold Vo;cases WG C.T (i.tree C) (Ce ins) with
 |none=>rfl
 |some p=>rfl
def l8(s:List Int):List Int:=[s.getD 0 0,s.getD 1 0,s.getD 2 0,s.getD 3 0,s.getD 4 0,s.getD 5 0,s.getD 6 0,s.getD 7 0]
theorem AQk{s:List Int}(h:s.length=8):l8 s=s:=by
 match s,h with
 | [_,_,_,_,_,_,_,_],_=>rfl
end
section
open Go
def Q2(x k:Int):Int:=Rl .shl (IntKind.u64.wrap x) k
def wdO(a b c d:Int):Int:=Rl .add (Rl .add (Rl .add (Rl .add 0 (Q2 a 0)) (Q2 b 8)) (Q2 c 16)) (Q2 d 24)
def ZT:List Int->List Int
 |a::b::c::d::r=>wdO a b c d::ZT r
 |_=>[]
theorem wX{b0 b1 b2 b3 b4 b5 b6 b7 b8 b9 Ξ Ψ υ τ b14 b15 b16 b17 Ω ψ b20 b21 b22 b23 Δ Γ Θ b27 b28 b29 b30 χ:Int}:IQ.raw IJ 0 [[b0,b1,b2,b3,b4,b5,b6,b7,b8,b9,Ξ,Ψ,υ,τ,b14,b15,b16,b17,Ω,ψ,b20,b21,b22,b23,Δ,Γ,Θ,b27,b28,b29,b30,χ]]=ZT [b0,b1,b2,b3,b4,b5,b6,b7,b8,b9,Ξ,Ψ,υ,τ,b14,b15,b16,b17,Ω,ψ,b20,b21,b22,b23,Δ,Γ,Θ,b27,b28,b29,b30,χ]:=by kernel_rfl
theorem XM{x:Int}(h:0<=x)(h2:x<18446744073709551616):IntKind.u64.wrap x=x:=JZ (k:=.u64) ⟨h,by show _<=(18446744073709551615:Int);omega⟩
theorem ARp{x:Int}(h:0<=x/\x<=255):Q2 x 0=x:=by
 show IntKind.u64.wrap (IntKind.u64.wrap x*1)=_;rw[XM (x:=x) (by omega) (by omega),XM (by omega) (by omega),zdd]
theorem ASx{x:Int}(h:0<=x/\x<=255):Q2 x 8=256*x:=by
 show IntKind.u64.wrap (IntKind.u64.wrap x*256)=_;rw[XM (x:=x) (by omega) (by omega),XM (by omega) (by omega),Xg]
theorem AQX{x:Int}(h:0<=x/\x<=255):Q2 x 16=65536*x:=by
 show IntKind.u64.wrap (IntKind.u64.wrap x*65536)=_;rw[XM (x:=x) (by omega) (by omega),XM (by omega) (by omega),Xg]
theorem AN9{x:Int}(h:0<=x/\x<=255):Q2 x 24=16777216*x:=by
 show IntKind.u64.wrap (IntKind.u64.wrap x*16777216)=_;rw[XM (x:=x) (by omega) (by omega),XM (by omega) (by omega),Xg]
theorem AIu{a b c d:Int}(ha:0<=a/\a<=255)(hb:0<=b/\b<=255)(hc:0<=c/\c<=255)(hd:0<=d/\d<=255):wdO a b c d=a+256*b+65536*c+16777216*d:=by
 unfold wdO;rw[ARp ha,ASx hb,AQX hc,AN9 hd,ah (x:=0) (y:=a) (by omega) (by omega),ah (x:=0+a) (by omega) (by omega),ah (x:=0+a+256*b) (by omega) (by omega),ah (by omega) (by omega)];omega
theorem cM.cons{x:Int}{l:List Int}(h:cM (x::l)):(0<=x/\x<=255)/\cM l:=⟨h x Kh,λy hy=>h y (Lv _ hy)⟩
theorem cM.mk{x:Int}{l:List Int}(h:0<=x/\x<=255)(hl:cM l):cM (x::l):=λy hy=>by
 rcases IR.1 hy with rfl|hy
 ·exact h
 ·exact hl y hy
theorem je:∀(n:Nat) {l:List Int},l.length=4*n->cM l->dg (ZT l)/\(ZT l).length=n/\nv (ZT l)=Ct l
 |0,l,h,_=>by
  obtain rfl:l= []:=by simpa using h
  exact⟨dg.nil,rfl,rfl⟩
 |n+1,a::b::c::d::r,h,hb=>by
  obtain⟨h1,hb⟩:=hb.cons;obtain⟨h2,hb⟩:=hb.cons;obtain⟨h3,hb⟩:=hb.cons;obtain⟨h4,hb⟩:=hb.cons;obtain⟨i1,i2,i3⟩:=je n (l:=r) (by simp only[Uk] at h;omega) hb;unfold ZT;rw[AIu h1 h2 h3 h4];refine⟨dg.mk ⟨by omega,by omega⟩ i1,by rw[Uk,i2],?_⟩;simp only[nv,Ct,i3];omega
 |n+1,[],h,_=>by simp at h
 |n+1,[_],h,_=>by simp only[Uk,SM] at h;omega
 |n+1,[_,_],h,_=>by simp only[Uk,SM] at h;omega
 |n+1,[_,_,_],h,_=>by simp only[Uk,SM] at h;omega
theorem YS{l:List Int}(hl:l.length=32)(h:cM l):N8 (IQ.raw IJ 0 [l]) (Ct l):=by
 have e:IQ.raw IJ 0 [l]=ZT l:=by
  match l,hl with
  | [_,_,_,_,_,_,_,_,_,_,_,_,_,_,_,_,_,_,_,_,_,_,_,_,_,_,_,_,_,_,_,_],_=>exact wX
 obtain⟨h1,h2,h3⟩:=je 8 hl h;rw[e];exact⟨h2,h1,h3⟩
def T0(x k:Int):Int:=IntKind.u8.wrap (Rl .shr x k)
def oF:List Int->List Int
 |d::r=>T0 d 0::T0 d 8::T0 d 16::T0 d 24::oF r
 | []=>[]
theorem qD{a b c d e f g h:Int}:MJ.raw Ll 0 [[a,b,c,d,e,f,g,h]]=oF [a,b,c,d,e,f,g,h]:=by kernel_rfl
theorem ABV{x:Int}:IntKind.u8.wrap x=x%256:=by
 simp[IntKind.wrap,IntKind.bits,IntKind.signed]
theorem ASr{x:Int}:T0 x 0=x%256:=by
 show IntKind.u8.wrap (x.fdiv 1)=_;rw[ABV,Int.fdiv_one]
theorem ARP{x:Int}:T0 x 8=x/256%256:=by
 show IntKind.u8.wrap (x.fdiv 256)=_;rw[ABV,Int.fdiv_eq_ediv_of_nonneg _ (by decide)]
theorem AOK{x:Int}:T0 x 16=x/65536%256:=by
 show IntKind.u8.wrap (x.fdiv 65536)=_;rw[ABV,Int.fdiv_eq_ediv_of_nonneg _ (by decide)]
theorem AOP{x:Int}:T0 x 24=x/16777216%256:=by
 show IntKind.u8.wrap (x.fdiv 16777216)=_;rw[ABV,Int.fdiv_eq_ediv_of_nonneg _ (by decide)]
theorem wU:∀ {l:List Int},dg l->cM (oF l)/\(oF l).length=4*l.length/\Ct (oF l)=nv l
 | [],_=>⟨λx hx=>(nomatch hx),rfl,rfl⟩
 |d::r,h=>by
  obtain⟨h1,h2⟩:=h.cons;obtain⟨i1,i2,i3⟩:=wU h2;unfold oF;rw[ASr,ARP,AOK,AOP];refine⟨.mk ⟨by omega,by omega⟩ (.mk ⟨by omega,by omega⟩ (.mk ⟨by omega,by omega⟩ (.mk ⟨by omega,by omega⟩ i1))),by simp only[Uk,i2];omega,?_⟩;simp only[nv,Ct,i3];omega
structure B32 (l:List Int) (n:Int):Prop where
 len:l.length=32
 cM:cM l
 val:Ct l=n
theorem yM{a:List Int}{m:Int}(ha:N8 a m):B32 (MJ.raw Ll 0 [a]) m:=by
 have e:MJ.raw Ll 0 [a]=oF a:=by
  match a,ha.len with
  | [_,_,_,_,_,_,_,_],_=>exact qD
 obtain⟨h1,h2,h3⟩:=wU ha.dg;rw[e];exact⟨by rw[h2,ha.len],h1,by rw[h3,ha.val]⟩
end
section
open Go
def spP:Int:=57896044618658097711785492504343953926634992332820282019728792003956564819949
def Qm:Int:=7237005577332262213973186563042994240857116359379907606001950938285454250989
def dgB(l:List Int):Bool:=l.all λx=>Bh 0 x&&Bh x 4294967295
theorem AKm{l:List Int}(h:dgB l=true):dg l:=λx hx=>by
 have:=Mx.1 h x hx;simp only[Bl] at this;exact⟨A8 this.1,by have:=A8 this.2;omega⟩
theorem Yp:N8 (J7.raw Jq 0 []) Qm:=⟨by kernel_rfl,AKm (by kernel_rfl),by kernel_rfl⟩
end
section
open Go
def mG(b:Int):Int:=Ah .andNot .u8 b 7
def oU(b:Int):Int:=Ah .or .u8 (Ah .rem .u8 b 128) 64
def Pa:List Int->List Int
 | [b0,b1,b2,b3,b4,b5,b6,b7,b8,b9,Ξ,Ψ,υ,τ,b14,b15,b16,b17,Ω,ψ,b20,b21,b22,b23,Δ,Γ,Θ,b27,b28,b29,b30,χ]=>[mG b0,b1,b2,b3,b4,b5,b6,b7,b8,b9,Ξ,Ψ,υ,τ,b14,b15,b16,b17,Ω,ψ,b20,b21,b22,b23,Δ,Γ,Θ,b27,b28,b29,b30,oU χ]
 |_=>[]
noncomputable def ACx(l:List Int):List Int:=BK 8 (IQ.raw IJ 0 [l])
theorem jC{b0 b1 b2 b3 b4 b5 b6 b7 b8 b9 Ξ Ψ υ τ b14 b15 b16 b17 Ω ψ b20 b21 b22 b23 Δ Γ Θ b27 b28 b29 b30 χ:Int}:Si.raw SL 0 [[b0,b1,b2,b3,b4,b5,b6,b7,b8,b9,Ξ,Ψ,υ,τ,b14,b15,b16,b17,Ω,ψ,b20,b21,b22,b23,Δ,Γ,Θ,b27,b28,b29,b30,χ]]=l8 (ACx (Pa [b0,b1,b2,b3,b4,b5,b6,b7,b8,b9,Ξ,Ψ,υ,τ,b14,b15,b16,b17,Ω,ψ,b20,b21,b22,b23,Δ,Γ,Θ,b27,b28,b29,b30,χ])):=by kernel_rfl
theorem zY:∀n:Fin 256,mG ((n.val:Nat):Int)=((n.val/8*8:Nat):Int):=by decide +kernel
theorem ABY:∀n:Fin 256,oU ((n.val:Nat):Int)=((n.val%64+64:Nat):Int):=by decide +kernel
theorem AEf{b:Int}(h:0<=b/\b<=255):mG b=b/8*8:=by
 obtain⟨n,rfl⟩:=YD h.1;have:=zY ⟨n,by omega⟩;simp only at this;rw[this];omega
theorem AE6{b:Int}(h:0<=b/\b<=255):oU b=b%64+64:=by
 obtain⟨n,rfl⟩:=YD h.1;have:=ABY ⟨n,by omega⟩;simp only at this;rw[this];omega
theorem ol{l:List Int}(hl:l.length=32)(h:cM l):N8 (Si.raw SL 0 [l]) (Ct (Pa l))/\(Pa l).length=32/\cM (Pa l):=by
 match l,hl with
 | [b0,b1,b2,b3,b4,b5,b6,b7,b8,b9,Ξ,Ψ,υ,τ,b14,b15,b16,b17,Ω,ψ,b20,b21,b22,b23,Δ,Γ,Θ,b27,b28,b29,b30,χ],_=>
  have h0:=h b0 (by simp);have tg:=h χ (by simp);have hb:cM (Pa [b0,b1,b2,b3,b4,b5,b6,b7,b8,b9,Ξ,Ψ,υ,τ,b14,b15,b16,b17,Ω,ψ,b20,b21,b22,b23,Δ,Γ,Θ,b27,b28,b29,b30,χ]):=by
   show cM [mG b0,b1,b2,b3,b4,b5,b6,b7,b8,b9,Ξ,Ψ,υ,τ,b14,b15,b16,b17,Ω,ψ,b20,b21,b22,b23,Δ,Γ,Θ,b27,b28,b29,b30,oU χ];rw[AEf h0,AE6 tg];intro x hx;rcases IR.1 hx with rfl|hx
   ·omega
   ·rcases jd.1 (show x ∈ [b1,b2,b3,b4,b5,b6,b7,b8,b9,Ξ,Ψ,υ,τ,b14,b15,b16,b17,Ω,ψ,b20,b21,b22,b23,Δ,Γ,Θ,b27,b28,b29,b30] ++ [χ%64+64] from hx) with hx|hx
    ·exact h x (Lv _ (jd.2 (Or.inl hx):x ∈ [b1,b2,b3,b4,b5,b6,b7,b8,b9,Ξ,Ψ,υ,τ,b14,b15,b16,b17,Ω,ψ,b20,b21,b22,b23,Δ,Γ,Θ,b27,b28,b29,b30] ++ [χ]))
    ·have:=NB.1 hx;omega
  have hw:=YS (l:=Pa [b0,b1,b2,b3,b4,b5,b6,b7,b8,b9,Ξ,Ψ,υ,τ,b14,b15,b16,b17,Ω,ψ,b20,b21,b22,b23,Δ,Γ,Θ,b27,b28,b29,b30,χ]) rfl hb;refine⟨?_,rfl,hb⟩;rw[jC];unfold ACx;rw[Bn hw.len,AQk hw.len];exact hw
end
end Go.Proofs.YtloibefkijfdlaaGreatDoor
