/- Contracts that the trees give: the reference: small functions. -/
import Derived.Test.YtkbfdaoohhmgoaaGreatDoorFa
namespace Go.Proofs.YtkbfdaoohhmgoaaGreatDoor
noncomputable section
open Go
section
variable{GB:Nat}{GC:Nat->Nat->Option Value}{ad:Nat->Nat×Nat}(hG:GI GB GC ad)
include hG
def Oj:Ac:=⟨6000,Ab Tryz.f34,Tryz.f34.ntmps,Tryz.f34.results.toList,[],⟨[.int .u64],false,λ_=>True,[],[],[.agg (List.replicate 8 .u64) z1]⟩⟩
def Ow:Cx:=F7 [] []
def DF:Az:=Oj.sum Ow
theorem G7:Bv Tryz.prog GB GC 34 (.one DF):=Ac.fin hG .nil .nil Tryz.func34 rfl rfl rfl (.inl rfl) (by kernel_rfl)
def Ou:Ac:=⟨6000,Ab Tryz.f35,Tryz.f35.ntmps,Tryz.f35.results.toList,[],⟨[],false,λ_=>True,[],[],[.agg (List.replicate 8 .u64) z1]⟩⟩
def PE:Cx:=F7 [] []
def Dy:Az:=Ou.sum PE
theorem Ib:Bv Tryz.prog GB GC 35 (.one Dy):=Ac.fin hG .nil .nil Tryz.func35 rfl rfl rfl (.inl rfl) (by kernel_rfl)
def H8:Ac:=⟨6000,Ab Tryz.f19,Tryz.f19.ntmps,Tryz.f19.results.toList,[],⟨[],false,λ_=>True,[],[],[.agg (List.replicate 8 .u64) z1]⟩⟩
def IE:Cx:=F7 [] []
def je:Az:=H8.sum IE
theorem dD:Bv Tryz.prog GB GC 19 (.one je):=Ac.fin hG .nil .nil Tryz.func19 rfl rfl rfl (.inl rfl) (by kernel_rfl)
def Ns:Ac:=⟨6000,Ab Tryz.f18,Tryz.f18.ntmps,Tryz.f18.results.toList,[],⟨[.agg (List.replicate 8 .u64),.agg (List.replicate 8 .u64)],false,λ_=>True,[],[],[.bool z0]⟩⟩
def Nw:Cx:=F7 [] []
def Ny:Az:=Ns.sum Nw
theorem Me:Bv Tryz.prog GB GC 18 (.one Ny):=Ac.fin hG .nil .nil Tryz.func18 rfl rfl rfl (.inl rfl) (by kernel_rfl)
def Pi:Ac:=⟨6000,Ab Tryz.f48,Tryz.f48.ntmps,Tryz.f48.results.toList,[],⟨[.agg (List.replicate 8 .u64),.agg (List.replicate 8 .u64)],false,λ_=>True,[],[],[.agg (List.replicate 8 .u64) z1]⟩⟩
def Pp:Cx:=F7 [] []
def VP:Az:=Pi.sum Pp
theorem Xt:Bv Tryz.prog GB GC 48 (.one VP):=Ac.fin hG .nil .nil Tryz.func48 rfl rfl rfl (.inl rfl) (by kernel_rfl)
def Lu:Ac:=⟨6000,Ab Tryz.f49,Tryz.f49.ntmps,Tryz.f49.results.toList,[],⟨[.agg (List.replicate 8 .u64),.agg (List.replicate 8 .u64)],false,λ_=>True,[],[],[.agg (List.replicate 8 .u64) z1]⟩⟩
def L6:Cx:=F7 [] []
def I9:Az:=Lu.sum L6
theorem Ml:Bv Tryz.prog GB GC 49 (.one I9):=Ac.fin hG .nil .nil Tryz.func49 rfl rfl rfl (.inl rfl) (by kernel_rfl)
def Jz:Ac:=⟨6000,Ab Tryz.f36,Tryz.f36.ntmps,Tryz.f36.results.toList,[],⟨[.agg (List.replicate 8 .u64),.agg (List.replicate 8 .u64),.agg (List.replicate 8 .u64)],false,λ_=>True,[],[],[.agg (List.replicate 8 .u64) z1]⟩⟩
def J7:Cx:=F7 [(18,.one Ny),(48,.one VP),(49,.one I9)] []
def G5:Az:=Jz.sum J7
theorem PD:Bv Tryz.prog GB GC 36 (.one G5):=Ac.fin hG (.cons (k:=18) rfl (Me hG) Tryz.call18 (Ac.len _ _) (.cons (k:=48) rfl (Xt hG) Tryz.call48 (Ac.len _ _) (.cons (k:=49) rfl (Ml hG) Tryz.call49 (Ac.len _ _) .nil))) .nil Tryz.func36 rfl rfl rfl (.inl rfl) (by kernel_rfl)
def Mr:Ac:=⟨6000,Ab Tryz.f33,Tryz.f33.ntmps,Tryz.f33.results.toList,[],⟨[.agg (List.replicate 8 .u64),.agg (List.replicate 8 .u64),.agg (List.replicate 8 .u64)],false,λ_=>True,[],[],[.agg (List.replicate 8 .u64) z1]⟩⟩
def Mm:Cx:=F7 [(18,.one Ny),(48,.one VP),(49,.one I9)] []
def Gw:Az:=Mr.sum Mm
theorem Nl:Bv Tryz.prog GB GC 33 (.one Gw):=Ac.fin hG (.cons (k:=18) rfl (Me hG) Tryz.call18 (Ac.len _ _) (.cons (k:=48) rfl (Xt hG) Tryz.call48 (Ac.len _ _) (.cons (k:=49) rfl (Ml hG) Tryz.call49 (Ac.len _ _) .nil))) .nil Tryz.func33 rfl rfl rfl (.inl rfl) (by kernel_rfl)
def Gz:Ac:=⟨6000,Ab Tryz.f17,Tryz.f17.ntmps,Tryz.f17.results.toList,[],⟨[.agg (List.replicate 32 .u8)],false,λ_=>True,[],[],[.agg (List.replicate 8 .u64) z1]⟩⟩
def Gr:Cx:=F7 [] []
def Ve:Az:=Gz.sum Gr
theorem Uq:Bv Tryz.prog GB GC 17 (.one Ve):=Ac.fin hG .nil .nil Tryz.func17 rfl rfl rfl (.inl rfl) (by kernel_rfl)
def Jd:Ac:=⟨6000,Ab Tryz.f41,Tryz.f41.ntmps,Tryz.f41.results.toList,[],⟨[.agg (List.replicate 8 .u64)],false,λ_=>True,[],[],[.agg (List.replicate 32 .u8) z1]⟩⟩
def Jc:Cx:=F7 [] []
def Ia:Az:=Jd.sum Jc
theorem Tj:Bv Tryz.prog GB GC 41 (.one Ia):=Ac.fin hG .nil .nil Tryz.func41 rfl rfl rfl (.inl rfl) (by kernel_rfl)
def JU:Ac:=⟨6000,Ab Tryz.f20,Tryz.f20.ntmps,Tryz.f20.results.toList,[],⟨[.agg (List.replicate 8 .u64)],false,λ_=>True,[],[],[.agg (List.replicate 8 .u64) z1]⟩⟩
def JY:Cx:=F7 [(33,.one Gw),(35,.one Dy)] []
def FP:Az:=JU.sum JY
theorem NN:Bv Tryz.prog GB GC 20 (.one FP):=Ac.fin hG (.cons (k:=33) rfl (Nl hG) Tryz.call33 (Ac.len _ _) (.cons (k:=35) rfl (Ib hG) Tryz.call35 (Ac.len _ _) .nil)) .nil Tryz.func20 rfl rfl rfl (.inl rfl) (by kernel_rfl)
def Qi:Ac:=⟨6000,Ab Tryz.f16,Tryz.f16.ntmps,Tryz.f16.results.toList,[],⟨[.sl (List.replicate 32 .u8) 0 false],false,λ_=>True,[],[],[.agg (List.replicate 32 .u8) z1]⟩⟩
def Ql:Cx:=F7 [] []
def bn:Az:=Qi.sum Ql
theorem Y0:Bv Tryz.prog GB GC 16 (.one bn):=Ac.fin hG .nil .nil Tryz.func16 rfl rfl rfl (.inl rfl) (by kernel_rfl)
def NW:Ac:=⟨6000,Ab Tryz.f42,Tryz.f42.ntmps,Tryz.f42.results.toList,[],⟨[.agg (List.replicate 8 .u64),.int .i64],false,λ_=>True,[],[],[.bool z0]⟩⟩
def J3:Cx:=F7 [] []
def Ha:Az:=NW.cQ J3
theorem Xx:Bv Tryz.prog GB GC 42 (.one Ha):=Ac.fg hG .nil .nil Tryz.func42 rfl rfl rfl (.inl rfl) (by kernel_rfl)
end
end
section
open Go
def nv:List Int->Int
 | []=>0
 |x::r=>x+4294967296*nv r
def dg(l:List Int):Prop:=∀x∈l,0<=x/\x<4294967296
theorem dg.cons{x:Int}{l:List Int}(h:dg (x::l)):(0<=x/\x<4294967296)/\dg l:=⟨h x Jv,λy hy=>h y (MN _ hy)⟩
theorem dg.mk{x:Int}{l:List Int}(h:0<=x/\x<4294967296)(hl:dg l):dg (x::l):=λy hy=>by
 rcases G9.1 hy with rfl|hy
 ·exact h
 ·exact hl y hy
theorem dg.nil:dg []:=λx hx=>by cases hx
def pw:Nat->Int
 |0=>1
 |n+1=>4294967296*pw n
theorem vk:∀ {l:List Int},dg l->0<=nv l/\nv l<pw l.length
 | [],_=>by simp[nv,pw]
 |x::r,h=>by
  obtain⟨h1,h2⟩:=h.cons;have:=vk h2;simp only[nv,pw,NY];omega
abbrev CU (op:BinOp) (x y:Int):Int:=Ak op .u64 x y
def oJ:Int->List Int->List Int->List Int
 |c,x::xs,y::ys=>CU .rem (CU .add (CU .add c x) y) 4294967296::oJ (CU .quo (CU .add (CU .add c x) y) 4294967296) xs ys
 |_,_,_=>[]
theorem SQ{x y:Int}(h:0<=x+y)(h2:x+y<18446744073709551616):CU .add x y=x+y:=dN h h2
theorem fI{x:Int}(h:0<=x):CU .rem x 4294967296=x%4294967296:=by
 show x.tmod 4294967296=_;exact Int.tmod_eq_emod_of_nonneg h
theorem gX{x:Int}(h:0<=x)(h2:x<18446744073709551616):CU .quo x 4294967296=x/4294967296:=by
 show IntKind.u64.wrap (x.tdiv 4294967296)=_;rw[Int.tdiv_eq_ediv_of_nonneg h];exact H7 (k:=.u64) ⟨by show(0:Int)<=_;omega,by show _<=(18446744073709551615:Int);omega⟩
theorem zU:∀ {xs ys:List Int} {c:Int},xs.length=ys.length->dg xs->dg ys->0<=c->c<4294967296->dg (oJ c xs ys)/\(oJ c xs ys).length=xs.length/\∃k,0<=k/\c+nv xs+nv ys=nv (oJ c xs ys)+k*pw xs.length
 | [],[],c,_,_,_,h0,_=>⟨dg.nil,rfl,c,h0,by simp[oJ,nv,pw]⟩
 |x::xs,y::ys,c,hl,hx,hy,h0,h1=>by
  obtain⟨x1,x2⟩:=hx.cons;obtain⟨y1,y2⟩:=hy.cons;have e1:CU .add (CU .add c x) y=c+x+y:=by rw[SQ (x:=c) (y:=x) (by omega) (by omega),SQ (by omega) (by omega)]
  have e2:CU .rem (c+x+y) 4294967296=(c+x+y)%4294967296:=fI (by omega);have e3:CU .quo (c+x+y) 4294967296=(c+x+y)/4294967296:=gX (by omega) (by omega);obtain⟨i1,i2,k,k0,k1⟩:=zU (xs:=xs) (ys:=ys) (c:=(c+x+y)/4294967296) (by simpa using hl) x2 y2 (by omega) (by omega);unfold oJ;rw[e1,e2,e3];refine⟨dg.mk ⟨by omega,by omega⟩ i1,by rw[NY,i2,NY],k,k0,?_⟩;simp only[nv,NY,pw];have e4:k*(4294967296*pw xs.length)=4294967296*(k*pw xs.length):=by rw[Int.mul_left_comm]
  rw[e4];omega
 | [],_::_,_,h,_,_,_,_=>by simp at h
 |_::_,[],_,h,_,_,_,_=>by simp at h
theorem AIT{a b c d e f g h a' b' c' d' e' f' g' h':Int}:Pi.raw Pp 0 [[a,b,c,d,e,f,g,h],[a',b',c',d',e',f',g',h']]=oJ 0 [a,b,c,d,e,f,g,h] [a',b',c',d',e',f',g',h']:=by kernel_rfl
def nX:Int->List Int->List Int->List Int
 |w,x::xs,y::ys=>CU .rem (CU .sub (CU .sub (CU .add 4294967296 x) y) w) 4294967296::nX (CU .sub 1 (CU .quo (CU .sub (CU .sub (CU .add 4294967296 x) y) w) 4294967296)) xs ys
 |_,_,_=>[]
theorem AE5{a b c d e f g h a' b' c' d' e' f' g' h':Int}:Lu.raw L6 0 [[a,b,c,d,e,f,g,h],[a',b',c',d',e',f',g',h']]=nX 0 [a,b,c,d,e,f,g,h] [a',b',c',d',e',f',g',h']:=by kernel_rfl
theorem AEQ{x y:Int}(h:0<=x-y)(h2:x-y<18446744073709551616):CU .sub x y=x-y:=H7 (k:=.u64) ⟨h,by show _<=(18446744073709551615:Int);omega⟩
theorem xw:∀ {xs ys:List Int} {w:Int},xs.length=ys.length->dg xs->dg ys->0<=w->w<=1->dg (nX w xs ys)/\(nX w xs ys).length=xs.length/\∃k,0<=k/\k<=1/\nv xs-nv ys-w=nv (nX w xs ys)-k*pw xs.length
 | [],[],w,_,_,_,h0,h1=>⟨dg.nil,rfl,w,h0,h1,by simp[nX,nv,pw]⟩
 |x::xs,y::ys,w,hl,hx,hy,h0,h1=>by
  obtain⟨x1,x2⟩:=hx.cons;obtain⟨y1,y2⟩:=hy.cons;have e1:CU .sub (CU .sub (CU .add 4294967296 x) y) w=4294967296+x-y-w:=by rw[SQ (by omega) (by omega),AEQ (x:=4294967296+x) (by omega) (by omega),AEQ (by omega) (by omega)]
  have e2:CU .rem (4294967296+x-y-w) 4294967296=(4294967296+x-y-w)%4294967296:=fI (by omega);have e3:CU .quo (4294967296+x-y-w) 4294967296=(4294967296+x-y-w)/4294967296:=gX (by omega) (by omega);have e5:CU .sub 1 ((4294967296+x-y-w)/4294967296)=1-(4294967296+x-y-w)/4294967296:=AEQ (by omega) (by omega);obtain⟨i1,i2,k,k0,k1,k2⟩:=xw (xs:=xs) (ys:=ys) (w:=1-(4294967296+x-y-w)/4294967296) (by simpa using hl) x2 y2 (by omega) (by omega);unfold nX;rw[e1,e2,e3,e5];refine⟨dg.mk ⟨by omega,by omega⟩ i1,by rw[NY,i2,NY],k,k0,k1,?_⟩;simp only[nv,NY,pw];have e4:k*(4294967296*pw xs.length)=4294967296*(k*pw xs.length):=by rw[Int.mul_left_comm]
  rw[e4];omega
 | [],_::_,_,h,_,_,_,_=>by simp at h
 |_::_,[],_,h,_,_,_,_=>by simp at h
structure N8 (l:List Int) (n:Int):Prop where
 len:l.length=8
 dg:dg l
 val:nv l=n
theorem N8.bd{l:List Int}{n:Int}(h:N8 l n):0<=n/\n<pw 8:=by
 have:=vk h.dg;rw[h.len,h.val] at this;exact this
theorem AMY{a b:List Int}{m n:Int}(ha:N8 a m)(hb:N8 b n)(h:m+n<pw 8):N8 (Pi.raw Pp 0 [a,b]) (m+n):=by
 have e:Pi.raw Pp 0 [a,b]=oJ 0 a b:=by
  match a,ha.len,b,hb.len with
  | [_,_,_,_,_,_,_,_],_,[_,_,_,_,_,_,_,_],_=>exact AIT
 obtain⟨h1,h2,k,k0,k1⟩:=zU (c:=0) (by rw[ha.len,hb.len]) ha.dg hb.dg (by omega) (by omega);rw[e];refine⟨by rw[h2,ha.len],h1,?_⟩;have cV:=vk h1;rw[h2,ha.len] at cV;rw[ha.len,ha.val,hb.val] at k1;have:=ha.bd;have:=hb.bd;have:k=0:=by
  rcases(by omega:k<1\/1<=k) with hk|hk
  ·omega
  ·have:pw 8<=k*pw 8:=by
    have h8:(0:Int)<=pw 8:=by omega
    calc pw 8=1*pw 8:=by rw[zda]
     _<=k*pw 8:=Int.mul_le_mul_of_nonneg_right hk h8
   omega
 subst this;omega
theorem xe{a b:List Int}{m n:Int}(ha:N8 a m)(hb:N8 b n)(h:n<=m):N8 (Lu.raw L6 0 [a,b]) (m-n):=by
 have e:Lu.raw L6 0 [a,b]=nX 0 a b:=by
  match a,ha.len,b,hb.len with
  | [_,_,_,_,_,_,_,_],_,[_,_,_,_,_,_,_,_],_=>exact AE5
 obtain⟨h1,h2,k,k0,k1,k2⟩:=xw (w:=0) (by rw[ha.len,hb.len]) ha.dg hb.dg (by omega) (by omega);rw[e];refine⟨by rw[h2,ha.len],h1,?_⟩;have cV:=vk h1;rw[h2,ha.len] at cV;rw[ha.len,ha.val,hb.val] at k2;have:k=0:=by
  rcases(by omega:k<1\/1<=k) with hk|hk
  ·omega
  ·have:k=1:=by omega
   subst this;omega
 subst this;omega
end
noncomputable section
open Go
def AES(C:Cx)(s0:Az)(cA:List ResultVar)(k:Nat)(ρ:Bu)(st:St):List Int:=
 match Ky C s0 cA st with
 |some es=>(match es[k]? with
  |some e=>e.1.map (·.den ρ)
  |none=>[])
 |none=>[]
def WE(C:Cx)(s0:Az)(cA:List ResultVar)(k:Nat):Be->Bu->List Int
 | .leaf _ st,ρ=>AES C s0 cA k ρ st
 | .ep ds _ t,ρ=>WE C s0 cA k t (Df C.T ρ ds)
 | .br x t f,ρ=>if x.den ρ=0 then WE C s0 cA k f ρ else WE C s0 cA k t ρ
 | .gr f ar t e,ρ=>match lk f C.T with
  |some fe=>cond (fe.j7 (ar.map (·.den ρ))) (WE C s0 cA k t ρ) (WE C s0 cA k e ρ)
  |none=>[]
 | .cN _ t,ρ=>WE C s0 cA k t ρ
 | .bad _,_=>[]
def ASJ(C:Cx)(s0:Az)(cA:List ResultVar)(k:Nat):Option (Bu×St)->List Int
 |some (ρ,st)=>AES C s0 cA k ρ st
 |none=>[]
theorem Sq{C:Cx}{s0:Az}{cA:List ResultVar}{k:Nat}:∀ {t:Be} {ρ:Bu},ASJ C s0 cA k (Wu C.T t ρ)=WE C s0 cA k t ρ
 | .leaf _ st,ρ=>rfl
 | .ep ds _ t,ρ=>Sq (t:=t)
 | .br x t f,ρ=>by
  unfold Wu WE;split
  ·exact Sq (t:=f)
  ·exact Sq (t:=t)
 | .gr f ar t e,ρ=>by
  unfold Wu WE;cases lk f C.T with
  |none=>rfl
  |some fe=>
   show ASJ C s0 cA k (cond _ _ _)=cond _ _ _;cases fe.j7 (ar.map (·.den ρ)) with
   |true=>exact Sq (t:=t)
   |false=>exact Sq (t:=e)
 | .cN _ t,ρ=>Sq (t:=t)
 | .bad _,_=>rfl
theorem Yf{C:Cx}{i:Ac}{k:Nat}{ins:List (List Int)}:i.raw C k ins=WE C i.s0 i.cA k (i.tree C) (BK ins):=by
 rw[<- Sq];show Ru C i.s0 i.cA (i.tree C) k ins=_;unfold Ru;cases Wu C.T (i.tree C) (BK ins) with
 |none=>rfl
 |some p=>rfl
def oU:List Int->List Int->List Int
 |x::xs,y::ys=>if CU .neq x y=0 then oU xs ys else[CU .lss x y]
 |_,_=>[0]
theorem ADt{a b c d e f g h a' b' c' d' e' f' g' h':Int}:Ns.raw Nw 0 [[a,b,c,d,e,f,g,h],[a',b',c',d',e',f',g',h']]=oU [h,g,f,e,d,c,b,a] [h',g',f',e',d',c',b',a']:=by
 rw[Yf]
 kernel_rfl
def nm:List Int->Int
 | []=>0
 |x::r=>x*pw r.length+nm r
theorem ADR:∀ {l:List Int},dg l->0<=nm l/\nm l<pw l.length
 | [],_=>by simp[nm,pw]
 |x::r,h=>by
  obtain⟨h1,h2⟩:=h.cons;have i:=ADR h2;have hp:0<pw r.length:=by omega
  have h3:x*pw r.length<=4294967295*pw r.length:=Int.mul_le_mul_of_nonneg_right (by omega) (by omega);have h4:0<=x*pw r.length:=Int.mul_nonneg h1.1 (by omega);simp only[nm,pw,NY];omega
theorem oI:∀ {xs ys:List Int},xs.length=ys.length->dg xs->dg ys->oU xs ys= [KQ (decide (nm xs<nm ys))]
 | [],[],_,_,_=>by simp[oU,nm,KQ]
 | x::xs,y::ys,hl,hx,hy=>by
  obtain⟨x1,x2⟩:=hx.cons;obtain⟨y1,y2⟩:=hy.cons;have ta:xs.length=ys.length:=by simpa using hl
  have ih:=oI ta x2 y2;have bx:=ADR x2;have pB:=ADR y2;rw[ta] at bx;unfold oU;by_cases he:x=y
  ·subst he;have e:CU .neq x x=0:=by show KQ (x != x)=0;simp[KQ]
   rw[if_pos e,ih];simp only[nm,ta]
   congr 2
   exact decide_eq_decide.2 (by omega)
  ·have e:¬CU .neq x y=0:=by
    show ¬KQ (x != y)=0;have:(x != y)=true:=by simpa using he
    rw[this];simp[KQ]
   rw[if_neg e];show[KQ (decide (x<y))]=_;simp only[nm,ta]
   congr 2
   refine decide_eq_decide.2 ?_;rcases(by omega:x+1<=y\/y+1<=x) with hk|hk
   ·have h3:(x+1)*pw ys.length<=y*pw ys.length:=Int.mul_le_mul_of_nonneg_right hk (by omega);rw[Bx] at h3;omega
   ·have h3:(y+1)*pw ys.length<=x*pw ys.length:=Int.mul_le_mul_of_nonneg_right hk (by omega);rw[Bx] at h3;omega
 | [],_::_,h,_,_=>by simp at h
 |_::_,[],h,_,_=>by simp at h
theorem zH{a b:List Int}{m n:Int}(ha:N8 a m)(hb:N8 b n):Ns.raw Nw 0 [a,b]= [KQ (decide (m<n))]:=by
 match a,ha,b,hb with
 | [a0,a1,a2,a3,a4,a5,a6,a7],ha,[b0,b1,b2,b3,b4,b5,b6,b7],hb=>
  rw[ADt,oI (xs:=[a7,a6,a5,a4,a3,a2,a1,a0]) (ys:=[b7,b6,b5,b4,b3,b2,b1,b0]) rfl]
  ·have h1:=ha.val;have h2:=hb.val;simp only[nv] at h1 h2;simp only[nm,pw,NY,HM]
   congr 2
   refine decide_eq_decide.2 ?_;omega
  ·intro x hx;exact ha.dg x (by simp only[G9,List.not_mem_nil,or_false] at hx ⊢;omega)
  ·intro x hx;exact hb.dg x (by simp only[G9,List.not_mem_nil,or_false] at hx ⊢;omega)
def l8(s:List Int):List Int:=[s.getD 0 0,s.getD 1 0,s.getD 2 0,s.getD 3 0,s.getD 4 0,s.getD 5 0,s.getD 6 0,s.getD 7 0]
theorem Uh{s:List Int}(h:s.length=8):l8 s=s:=by
 match s,h with
 | [_,_,_,_,_,_,_,_],_=>rfl
def ABA(a b:List Int):List Int:=BF 8 (Pi.raw Pp 0 [a,b])
def aQ(a b:List Int):List Int:=BF 8 (Lu.raw L6 0 [a,b])
def ZR(a b:List Int):List Int:=[d1 (Ns.raw Nw 0 [a,b])]
theorem ADS{a b p:List Int}:Jz.raw J7 0 [a,b,p]=if(ZR (ABA a b) p).getD 0 0=0 then l8 (aQ (ABA a b) p) else l8 (ABA a b):=by
 rw[Yf]
 kernel_rfl
theorem AAg{a b p:List Int}:Mr.raw Mm 0 [a,b,p]=if(ZR a b).getD 0 0=0 then l8 (aQ a b) else l8 (aQ (ABA a p) b):=by
 rw[Yf]
 kernel_rfl
theorem yT{a b:List Int}{m n:Int}(ha:N8 a m)(hb:N8 b n)(h:m+n<pw 8):N8 (ABA a b) (m+n):=by
 have:=AMY ha hb h;unfold ABA;rwa [Ay this.len]
theorem TR{a b:List Int}{m n:Int}(ha:N8 a m)(hb:N8 b n)(h:n<=m):N8 (aQ a b) (m-n):=by
 have:=xe ha hb h;unfold aQ;rwa [Ay this.len]
theorem Mq{a b:List Int}{m n:Int}(ha:N8 a m)(hb:N8 b n):(ZR a b).getD 0 0=0↔n<=m:=by
 unfold ZR;rw[zH ha hb];show KQ _=0↔_;by_cases h:m<n
 ·rw[decide_eq_true h];exact⟨λe=>absurd (show(1:Int)=0 from e) (by decide),λe=>absurd h (by omega)⟩
 ·rw[decide_eq_false h];exact⟨λ_=>by omega,λ_=>rfl⟩
theorem Yy{a b p:List Int}{m n q:Int}(ha:N8 a m)(hb:N8 b n)(hp:N8 p q)(hm:m<q)(hn:n<q)(h2:2*q<=pw 8):N8 (Jz.raw J7 0 [a,b,p]) ((m+n)%q):=by
 have:=ha.bd;have:=hb.bd;have hs:=yT ha hb (by omega);rw[ADS];by_cases h:q<=m+n
 ·have hr:=TR hs hp h;rw[if_pos ((Mq hs hp).2 h),Uh hr.len];have e:(m+n)%q=m+n-q:=by
   rw[<- Int.sub_emod_right,uu (by omega) (by omega)]
  rwa [e]
 ·rw[if_neg (λe=>h ((Mq hs hp).1 e)),Uh hs.len,uu (by omega) (by omega)];exact hs
theorem pu{a b p:List Int}{m n q:Int}(ha:N8 a m)(hb:N8 b n)(hp:N8 p q)(hm:m<q)(hn:n<=q)(_h0:n=q->m=0)(h2:2*q<=pw 8):N8 (Mr.raw Mm 0 [a,b,p]) ((m-n)%q):=by
 have:=ha.bd;have:=hb.bd;rw[AAg];by_cases h:n<=m
 ·have hr:=TR ha hb h;rw[if_pos ((Mq ha hb).2 h),Uh hr.len,uu (by omega) (by omega)];exact hr
 ·have hs:=yT ha hp (by omega);have hr:=TR hs hb (by omega);rw[if_neg (λe=>h ((Mq ha hb).1 e)),Uh hr.len];have e:(m-n)%q=m+q-n:=by
   rw[<- Int.add_emod_right,uu (by omega) (by omega)];omega
  rwa [e]
end
section
open Go
def Sf(x k:Int):Int:=CU .shl (IntKind.u64.wrap x) k
def wdO(a b c d:Int):Int:=CU .add (CU .add (CU .add (CU .add 0 (Sf a 0)) (Sf b 8)) (Sf c 16)) (Sf d 24)
def ZO:List Int->List Int
 |a::b::c::d::r=>wdO a b c d::ZO r
 |_=>[]
theorem ABF{b0 b1 b2 b3 b4 b5 b6 b7 b8 b9 b10 b11 ω Γ b14 b15 b16 b17 b18 Δ b20 b21 b22 b23 Θ Ψ Ξ b27 b28 b29 b30 b31:Int}:Gz.raw Gr 0 [[b0,b1,b2,b3,b4,b5,b6,b7,b8,b9,b10,b11,ω,Γ,b14,b15,b16,b17,b18,Δ,b20,b21,b22,b23,Θ,Ψ,Ξ,b27,b28,b29,b30,b31]]=ZO [b0,b1,b2,b3,b4,b5,b6,b7,b8,b9,b10,b11,ω,Γ,b14,b15,b16,b17,b18,Δ,b20,b21,b22,b23,Θ,Ψ,Ξ,b27,b28,b29,b30,b31]:=by kernel_rfl
theorem SN{x:Int}(h:0<=x)(h2:x<18446744073709551616):IntKind.u64.wrap x=x:=H7 (k:=.u64) ⟨h,by show _<=(18446744073709551615:Int);omega⟩
theorem AUV{x:Int}(h:0<=x/\x<=255):Sf x 0=x:=by
 show IntKind.u64.wrap (IntKind.u64.wrap x*1)=_;rw[SN (x:=x) (by omega) (by omega),SN (by omega) (by omega),zdc]
theorem AUe{x:Int}(h:0<=x/\x<=255):Sf x 8=256*x:=by
 show IntKind.u64.wrap (IntKind.u64.wrap x*256)=_;rw[SN (x:=x) (by omega) (by omega),SN (by omega) (by omega),bf]
theorem AQl{x:Int}(h:0<=x/\x<=255):Sf x 16=65536*x:=by
 show IntKind.u64.wrap (IntKind.u64.wrap x*65536)=_;rw[SN (x:=x) (by omega) (by omega),SN (by omega) (by omega),bf]
theorem APO{x:Int}(h:0<=x/\x<=255):Sf x 24=16777216*x:=by
 show IntKind.u64.wrap (IntKind.u64.wrap x*16777216)=_;rw[SN (x:=x) (by omega) (by omega),SN (by omega) (by omega),bf]
theorem AMw{a b c d:Int}(ha:0<=a/\a<=255)(hb:0<=b/\b<=255)(hc:0<=c/\c<=255)(hd:0<=d/\d<=255):wdO a b c d=a+256*b+65536*c+16777216*d:=by
 unfold wdO;rw[AUV ha,AUe hb,AQl hc,APO hd,SQ (x:=0) (y:=a) (by omega) (by omega),SQ (x:=0+a) (by omega) (by omega),SQ (x:=0+a+256*b) (by omega) (by omega),SQ (by omega) (by omega)];omega
theorem cI.cons{x:Int}{l:List Int}(h:cI (x::l)):(0<=x/\x<=255)/\cI l:=⟨h x Jv,λy hy=>h y (MN _ hy)⟩
theorem cI.mk{x:Int}{l:List Int}(h:0<=x/\x<=255)(hl:cI l):cI (x::l):=λy hy=>by
 rcases G9.1 hy with rfl|hy
 ·exact h
 ·exact hl y hy
theorem nu:∀(n:Nat) {l:List Int},l.length=4*n->cI l->dg (ZO l)/\(ZO l).length=n/\nv (ZO l)=Cm l
 |0,l,h,_=>by
  obtain rfl:l= []:=by simpa using h
  exact⟨dg.nil,rfl,rfl⟩
 |n+1,a::b::c::d::r,h,hb=>by
  obtain⟨h1,hb⟩:=hb.cons;obtain⟨h2,hb⟩:=hb.cons;obtain⟨h3,hb⟩:=hb.cons;obtain⟨h4,hb⟩:=hb.cons;obtain⟨i1,i2,i3⟩:=nu n (l:=r) (by simp only[NY] at h;omega) hb;unfold ZO;rw[AMw h1 h2 h3 h4];refine⟨dg.mk ⟨by omega,by omega⟩ i1,by rw[NY,i2],?_⟩;simp only[nv,Cm,i3];omega
 |n+1,[],h,_=>by simp at h
 |n+1,[_],h,_=>by simp only[NY,HM] at h;omega
 |n+1,[_,_],h,_=>by simp only[NY,HM] at h;omega
 |n+1,[_,_,_],h,_=>by simp only[NY,HM] at h;omega
theorem Ws{l:List Int}(hl:l.length=32)(h:cI l):N8 (Gz.raw Gr 0 [l]) (Cm l):=by
 have e:Gz.raw Gr 0 [l]=ZO l:=by
  match l,hl with
  | [_,_,_,_,_,_,_,_,_,_,_,_,_,_,_,_,_,_,_,_,_,_,_,_,_,_,_,_,_,_,_,_],_=>exact ABF
 obtain⟨h1,h2,h3⟩:=nu 8 hl h;rw[e];exact⟨h2,h1,h3⟩
def Rd(x k:Int):Int:=IntKind.u8.wrap (CU .shr x k)
def rQ:List Int->List Int
 |d::r=>Rd d 0::Rd d 8::Rd d 16::Rd d 24::rQ r
 | []=>[]
theorem sI{a b c d e f g h:Int}:Jd.raw Jc 0 [[a,b,c,d,e,f,g,h]]=rQ [a,b,c,d,e,f,g,h]:=by kernel_rfl
theorem uF{x:Int}:IntKind.u8.wrap x=x%256:=by
 simp[IntKind.wrap,IntKind.bits,IntKind.signed]
theorem AUf{x:Int}:Rd x 0=x%256:=by
 show IntKind.u8.wrap (x.fdiv 1)=_;rw[uF,Int.fdiv_one]
theorem ATw{x:Int}:Rd x 8=x/256%256:=by
 show IntKind.u8.wrap (x.fdiv 256)=_;rw[uF,Int.fdiv_eq_ediv_of_nonneg _ (by decide)]
theorem AQ5{x:Int}:Rd x 16=x/65536%256:=by
 show IntKind.u8.wrap (x.fdiv 65536)=_;rw[uF,Int.fdiv_eq_ediv_of_nonneg _ (by decide)]
theorem ARD{x:Int}:Rd x 24=x/16777216%256:=by
 show IntKind.u8.wrap (x.fdiv 16777216)=_;rw[uF,Int.fdiv_eq_ediv_of_nonneg _ (by decide)]
theorem yY:∀ {l:List Int},dg l->cI (rQ l)/\(rQ l).length=4*l.length/\Cm (rQ l)=nv l
 | [],_=>⟨λx hx=>(nomatch hx),rfl,rfl⟩
 |d::r,h=>by
  obtain⟨h1,h2⟩:=h.cons;obtain⟨i1,i2,i3⟩:=yY h2;unfold rQ;rw[AUf,ATw,AQ5,ARD];refine⟨.mk ⟨by omega,by omega⟩ (.mk ⟨by omega,by omega⟩ (.mk ⟨by omega,by omega⟩ (.mk ⟨by omega,by omega⟩ i1))),by simp only[NY,i2];omega,?_⟩;simp only[nv,Cm,i3];omega
structure S6 (l:List Int) (n:Int):Prop where
 len:l.length=32
 cI:cI l
 val:Cm l=n
theorem AAW{a:List Int}{m:Int}(ha:N8 a m):S6 (Jd.raw Jc 0 [a]) m:=by
 have e:Jd.raw Jc 0 [a]=rQ a:=by
  match a,ha.len with
  | [_,_,_,_,_,_,_,_],_=>exact sI
 obtain⟨h1,h2,h3⟩:=yY ha.dg;rw[e];exact⟨by rw[h2,ha.len],h1,by rw[h3,ha.val]⟩
end
noncomputable section
open Go
def Ux:Int:=57896044618658097711785492504343953926634992332820282019728792003956564819949
def Vu:Int:=7237005577332262213973186563042994240857116359379907606001950938285454250989
def dgB(l:List Int):Bool:=l.all λx=>Bl 0 x&&Bl x 4294967295
theorem Y8{l:List Int}(h:dgB l=true):dg l:=λx hx=>by
 have:=Kh.1 h x hx;simp only[Bj] at this;exact⟨A8 this.1,by have:=A8 this.2;omega⟩
theorem bP:N8 (Ou.raw PE 0 []) Ux:=⟨by kernel_rfl,Y8 (by kernel_rfl),by kernel_rfl⟩
theorem Zu:N8 (H8.raw IE 0 []) Vu:=⟨by kernel_rfl,Y8 (by kernel_rfl),by kernel_rfl⟩
theorem fZ{x:Int}:Oj.raw Ow 0 [[x]]= [x,0,0,0,0,0,0,0]:=by kernel_rfl
theorem mQ{x:Int}(h:0<=x/\x<4294967296):N8 (Oj.raw Ow 0 [[x]]) x:=by
 rw[fZ];have z:(0:Int)<=0/\(0:Int)<4294967296:=by omega
 exact⟨rfl,.mk h (.mk z (.mk z (.mk z (.mk z (.mk z (.mk z (.mk z .nil))))))),by simp only[nv];omega⟩
def ZM:List Int:=BF 8 (Ou.raw PE 0 [])
def ARG(a b p:List Int):List Int:=BF 8 (Mr.raw Mm 0 [a,b,p])
theorem kN{a:List Int}:JU.raw JY 0 [a]=l8 (ARG [0,0,0,0,0,0,0,0] a ZM):=by kernel_rfl
theorem nM{a:List Int}{m:Int}(ha:N8 a m)(hm:m<Ux):N8 (JU.raw JY 0 [a]) (-m%Ux):=by
 have z:(0:Int)<=0/\(0:Int)<4294967296:=by omega
 have h0:N8 [0,0,0,0,0,0,0,0] 0:=⟨rfl,.mk z (.mk z (.mk z (.mk z (.mk z (.mk z (.mk z (.mk z .nil))))))),rfl⟩;have hp:N8 ZM Ux:=by
  have:=bP;unfold ZM;rwa [Ay this.len]
 have h:=pu h0 ha hp (by decide) (by omega) (λ_=>rfl) (by decide);rw[kN];unfold ARG;rw[Ay h.len,Uh h.len];rwa [Int.zero_sub] at h
end
section
open Go
noncomputable def jh(l:List Int):List Int:=BF 8 (Gz.raw Gr 0 [l])
end
end Go.Proofs.YtkbfdaoohhmgoaaGreatDoor
