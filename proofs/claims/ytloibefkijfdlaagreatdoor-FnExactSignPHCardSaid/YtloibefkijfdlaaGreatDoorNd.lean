/- The executor over this program: equality of the reference's numbers. -/
import Derived.Test.YtloibefkijfdlaaGreatDoorNc
import Derived.Test.YtloibefkijfdlaaGreatDoorPt3
namespace Go.Proofs.YtloibefkijfdlaaGreatDoor
section
open Go
theorem ATc {P:Program} {t u n:Nat} {k:IntKind} (hu:P.underlying t=some (.array n u)) (hu2:P.underlying u=some (.int k)) (hp:P.plainKey u=true) (hsz:∀ w:World,(sizeOf u).run P w= .ok 1 w)
 (xs ys:List Int) (hx:xs.length=n) (hy:ys.length=n) (d:Nat) (w:World):
   (Op.equalIn (d+1+1) t (.agg (xs.map (Value.int k)).toArray) (.agg (ys.map (Value.int k)).toArray)).run P w= .ok ((List.range n).all fun i=>xs.getD i 0 == ys.getD i 0) w:=by
 rw[Op.equalIn];simp only[I1,run_underlying hu,IB,hsz,Nat.mul_one];have hI:∀ (a b:Int) (w:World),(Op.equalIn (d+1) u (.int k a) (.int k b)).run P w= .ok (a == b) w:=fun a b w=>by
  rw[Op.equalIn];simp[run_underlying hu2]
 have hpart:∀ (zs:List Int) (i:Nat) (w:World),i<zs.length→(part u (zs.map (Value.int k)).toArray i).run P w= .ok (.int k (zs.getD i 0)) w:=fun zs i w h=>
  run_part_plain w hp (by simp[List.getD,h])
 have loop:∀ (m:List Nat),(∀ i∈m,i<n)→
   (forIn m ((none:Option Bool),()) fun (i:Nat) __s=>do
        let __do_lift ← part u (List.map (Value.int k) xs).toArray i
        let __do_lift_1 ← part u (List.map (Value.int k) ys).toArray i
        let __do_lift ← Op.equalIn (d+1) u __do_lift __do_lift_1
        if (!__do_lift)=true then pure (ForInStep.done (some false,()))
         else pure (ForInStep.yield (none,()))).run P w= .ok (if (m.all fun i=>xs.getD i 0 == ys.getD i 0) then none else some false,()) w:=by
  intro m
  induction m with
  |nil=>intro _;simp
  | cons i m ih=>
   intro h1
   have g1:=h1 i LA;rw[List.forIn_cons];simp only[I1,hpart xs _ w (by omega:i<xs.length),hpart ys _ w (by omega:i<ys.length),IB,hI,List.all_cons]
   rcases Bool.eq_false_or_eq_true (xs.getD i 0 == ys.getD i 0) with hb|hb
   ·simp only[hb,Bool.not_true,Rc,if_false,KD,IB,Bool.true_and];exact ih (fun f hf=>h1 f (MQ _ hf))
   ·simp only[hb,Bool.not_false,if_true,KD,IB,Bool.false_and,Rc,if_false]
 have hr:List.range' 0 n=List.range n:=(List.range_eq_range').symm;simp only[Std.Legacy.Range.forIn_eq_forIn_range',Std.Legacy.Range.size,Nat.sub_zero,Nat.add_sub_cancel,Nat.div_one,hr];rw[loop (List.range n) fun i hi=>fD.1 hi];simp only[IB]
 split<;>rename_i h
 ·split at h
  ·cases h
  ·cases h;rename_i h2;simp only[KD];simp at h2;congr 1;simpa using h2
 ·split at h
  ·rename_i h2;simp only[KD];rw[h2]
  ·cases h
def uF:List (Nat×List IntKind):=[(52,List.replicate 8 .u64)]
theorem ABl:∀ t ks,lk t uF=some ks→∀ xs ys:List Int,Hf ks xs→Hf ks ys→∀ (op:BinOp) (x y:Operand) (w:World),
  (eqGuard op t x y (.agg (AZ ks xs).toArray) (.agg (AZ ks ys).toArray)).run Tryz.prog w= .ok () w∧(Op.equal t (.agg (AZ ks xs).toArray) (.agg (AZ ks ys).toArray)).run Tryz.prog w= .ok (xs == ys) w:=by
 intro t ks h xs ys hx hy op x y w
 simp only[uF,lk] at h
 cases hb:Nat.beq 52 t with
 |false=>rw[hb] at h;cases h
 |true=>
 rw[hb,cond_true,Am] at h;have:=CL hb;subst this;subst h;have h5:=hx.1;have h6:=hy.1;simp only[SX] at h5 h6;have hprog:∀ w:World,(program).run Tryz.prog w= .ok Tryz.prog w:=fun _=>rfl
 constructor
 ·have hg:Tryz.prog.eqGuardType Tryz.prog.depth 52=false:=by kernel_rfl
  cases op<;>simp[eqGuard,hg,hprog]
 ·have hu:Tryz.prog.underlying 52=some (.array 8 50):=by kernel_rfl
  have hu2:Tryz.prog.underlying 50=some (.int .u64):=by kernel_rfl
  have hpk:Tryz.prog.plainKey 50=true:=by kernel_rfl
  have:=ATc hu hu2 hpk (fun w=>by simp[go_sem]) xs ys h5 h6 9998 w;rw[Rz _ _ _ h5,Rz _ _ _ h6];refine this.trans ?_;rw[← jP (h5.trans h6.symm),h5]
def AQx(T:Tb)(L:List (Nat×IF)):Cx:= { GJ T L with eqs:=uF }
section
variable{GB:Nat}{GC:Nat→Nat→Option Value}{ad:Nat→Nat×Nat}
theorem AJj(hG:Jk GB GC ad){T:Tb}(hT:kJ GB GC T){L:List (Nat×IF)}(hL:Su Tryz.prog L):Sb Tryz.prog (AQx T L) GB GC where
 ok B S I sn σ0 hB:= { (OJ hG hT hL).ok B S I sn σ0 hB with eq:=fun t ks h xs ys hx hy op x y w=>ABl t ks h xs ys hx hy op x y w }
 il:=hL
end
end
noncomputable section
open Go
def Y7:List IntKind:=List.replicate 24 .u64
theorem Z0{s:Az}(h:PX s):PX { s with hp:=false }:=h
section
variable{GB:Nat}{GC:Nat→Nat→Option Value}{ad:Nat→Nat×Nat}(hG:Jk GB GC ad)
include hG
def Nn:AQ:=⟨6000,Ab Tryz.f65,Tryz.f65.ntmps,Tryz.f65.results.toList,[],⟨[.agg U8],false,fun _=>True,[],[],[.agg U8 z1]⟩⟩
def Eu:Cx:=GJ [(68,.one DU),(79,.one EQ),(86,.one KC),(85,.one Lj)] []
def Es:Az:=Nn.sum Eu
theorem Mq:Bp Tryz.prog GB GC 65 (.one Es):=AQ.fin hG (.cons (k:=68) rfl (Ik hG) Tryz.call68 (AQ.len _ _) (.cons (k:=79) rfl (Ji hG) Tryz.call79 (AQ.len _ _) (.cons (k:=86) rfl (Ni hG) Tryz.call86 (AQ.len _ _) (.cons (k:=85) rfl (VZ hG) Tryz.call85 (fun _=>Z0 (AQ.lenH _ _ _ true)) .nil)))) .nil Tryz.func65 rfl rfl rfl (.inl rfl) (by kernel_rfl)
def P6:AQ:=⟨6000,Ab Tryz.f57,Tryz.f57.ntmps,Tryz.f57.results.toList,[],⟨[],false,fun _=>True,[],[],[.agg U8 z1]⟩⟩
def QM:Cx:=GJ [(68,.one DU),(79,.one EQ),(78,.one IZ),(65,.one Es),(66,.one C8)] []
def KR:Az:=P6.sum QM
theorem Vb:Bp Tryz.prog GB GC 57 (.one KR):=AQ.fin hG (.cons (k:=68) rfl (Ik hG) Tryz.call68 (AQ.len _ _) (.cons (k:=79) rfl (Ji hG) Tryz.call79 (AQ.len _ _) (.cons (k:=78) rfl (O8 hG) Tryz.call78 (AQ.len _ _) (.cons (k:=65) rfl (Mq hG) Tryz.call65 (AQ.len _ _) (.cons (k:=66) rfl (Jh hG) Tryz.call66 (fun _=>FO _ _ _ _) .nil))))) .nil Tryz.func57 rfl rfl rfl (.inl rfl) (by kernel_rfl)
def Im:AQ:=⟨6000,Ab Tryz.f80,Tryz.f80.ntmps,Tryz.f80.results.toList,[],⟨[.agg U8],false,fun _=>True,[],[],[.agg U8 z1,.bool z0]⟩⟩
def Gg:Cx:=AQx [(85,.one Lj),(66,.one C8),(68,.one DU),(55,.one IP)] [(67,Mc Tryz.f67)]
def LM:Az:=Im.sum Gg
omit hG in
theorem gP:(Im.chk Gg&&AGF (Im.tree Gg))=true:=by kernel_rfl
theorem lZ:Bp Tryz.prog GB GC 80 (.one LM):=have h:=Bool.and_eq_true_iff.1 gP
 AQ.ok (AJj hG (.cons (k:=85) rfl (VZ hG) Tryz.call85 (fun _=>Z0 (AQ.lenH _ _ _ true)) (.cons (k:=66) rfl (Jh hG) Tryz.call66 (fun _=>FO _ _ _ _) (.cons (k:=68) rfl (Ik hG) Tryz.call68 (AQ.len _ _) (.cons (k:=55) rfl (Rw hG) Tryz.call55 (AQ.len _ _) .nil)))) (.cons Tryz.func67 rfl Tryz.call67 .nil)) Tryz.func80 rfl rfl rfl rfl (EE hG (.inl rfl)).1 (EE hG (.inl rfl)).2 h.1 h.2
def Ir:AQ:=⟨6000,Ab Tryz.f52,Tryz.f52.ntmps,Tryz.f52.results.toList,[],⟨[.agg (List.replicate 32 .u8)],false,fun _=>True,[],[],[.agg Y7 z1,.bool z0]⟩⟩
def Ca:Cx:=GJ [(77,.one LZ),(66,.one C8),(68,.one DU),(79,.one EQ),(78,.one IZ),(57,.one KR),(71,.one Eb),(65,.one Es),(80,.one LM),(55,.one IP)] []
def OA:Az:=Ir.sum Ca
theorem ZC:Bp Tryz.prog GB GC 52 (.one OA):=AQ.fin hG (.cons (k:=77) rfl (Y4 hG) Tryz.call77 (fun _=>FO _ _ _ _) (.cons (k:=66) rfl (Jh hG) Tryz.call66 (fun _=>FO _ _ _ _) (.cons (k:=68) rfl (Ik hG) Tryz.call68 (AQ.len _ _) (.cons (k:=79) rfl (Ji hG) Tryz.call79 (AQ.len _ _) (.cons (k:=78) rfl (O8 hG) Tryz.call78 (AQ.len _ _) (.cons (k:=57) rfl (Vb hG) Tryz.call57 (AQ.len _ _) (.cons (k:=71) rfl (Lh hG) Tryz.call71 (AQ.len _ _) (.cons (k:=65) rfl (Mq hG) Tryz.call65 (AQ.len _ _) (.cons (k:=80) rfl (lZ hG) Tryz.call80 (AQ.len _ _) (.cons (k:=55) rfl (Rw hG) Tryz.call55 (AQ.len _ _) .nil)))))))))) .nil Tryz.func52 rfl rfl rfl (.inl rfl) (by kernel_rfl)
def QO:AQ:=⟨6000,Ab Tryz.f56,Tryz.f56.ntmps,Tryz.f56.results.toList,[],⟨[.agg U8,.agg Y7,.agg Y7],false,fun _=>True,[],[],[.agg Y7 z1]⟩⟩
def Ii:Cx:=GJ [(79,.one EQ),(66,.one C8),(71,.one Eb),(78,.one IZ)] []
def Lm:Az:=QO.sum Ii
theorem gN:Bp Tryz.prog GB GC 56 (.one Lm):=AQ.fin hG (.cons (k:=79) rfl (Ji hG) Tryz.call79 (AQ.len _ _) (.cons (k:=66) rfl (Jh hG) Tryz.call66 (fun _=>FO _ _ _ _) (.cons (k:=71) rfl (Lh hG) Tryz.call71 (AQ.len _ _) (.cons (k:=78) rfl (O8 hG) Tryz.call78 (AQ.len _ _) .nil)))) .nil Tryz.func56 rfl rfl rfl (.inl rfl) (by kernel_rfl)
def Nl:AQ:=⟨6000,Ab Tryz.f35,Tryz.f35.ntmps,Tryz.f35.results.toList,[],⟨[.agg Y7],false,fun _=>True,[],[],[.agg (List.replicate 32 .u8) z1]⟩⟩
def H5:Cx:=GJ [(65,.one Es),(66,.one C8),(45,.one JY)] [(67,Mc Tryz.f67)]
def dX:Az:=Nl.sum H5
theorem Y8:Bp Tryz.prog GB GC 35 (.one dX):=AQ.fin hG (.cons (k:=65) rfl (Mq hG) Tryz.call65 (AQ.len _ _) (.cons (k:=66) rfl (Jh hG) Tryz.call66 (fun _=>FO _ _ _ _) (.cons (k:=45) rfl (Qi hG) Tryz.call45 (AQ.len _ _) .nil))) (.cons Tryz.func67 rfl Tryz.call67 .nil) Tryz.func35 rfl rfl rfl (.inl rfl) (by kernel_rfl)
end
end
section
open Go
def fP(T:Tb)(C:Cx)(s0:Az)(rvs:List ResultVar)(k:Nat):Bc→Bl→List Int
 | .leaf _ st,ρ=>ADu C s0 rvs k ρ st
 | .evs ds _ t,ρ=>fP T C s0 rvs k t (Dc T ρ ds)
 | .br x t f,ρ=>if x.den ρ=0 then fP T C s0 rvs k f ρ else fP T C s0 rvs k t ρ
 | .brc f ar t e,ρ=>match lk f T with
  |some fe=>cond (fe.cnd (ar.map (·.den ρ))) (fP T C s0 rvs k t ρ) (fP T C s0 rvs k e ρ)
  |none=>[]
 | .chk _ t,ρ=>fP T C s0 rvs k t ρ
 | .bad _,_=>[]
theorem Sc{C:Cx}{s0:Az}{rvs:List ResultVar}{k:Nat}:∀ {t:Bc} {ρ:Bl},Wl C s0 rvs k t ρ=fP C.T C s0 rvs k t ρ
 | .leaf _ _,_=>rfl
 | .evs _ _ t,_=>Sc (t:=t)
 | .br x t f,ρ=>by
  unfold Wl fP
  by_cases h:x.den ρ=0
  ·rw[if_pos h,if_pos h];exact Sc (t:=f)
  ·rw[if_neg h,if_neg h];exact Sc (t:=t)
 | .brc f ar t e,ρ=>by
  unfold Wl fP
  cases lk f C.T with
  |none=>rfl
  |some fe=>
   simp only
   cases fe.cnd (ar.map (·.den ρ)) with
   |true=>exact Sc (t:=t)
   |false=>exact Sc (t:=e)
 | .chk _ t,_=>Sc (t:=t)
 | .bad _,_=>rfl
def AQ.valT(i:AQ)(T:Tb)(C:Cx)(k:Nat)(ins:List (List Int)):List Int:=fP T C i.s0 i.rvs k (i.tree C) (A8 ins)
theorem Et{i:AQ}{C:Cx}{k:Nat}{ins:List (List Int)}:i.raw C k ins=i.valT C.T C k ins:=by
 rw[ZN];exact Sc
def sb(l:List Int)(o n:Nat):List Int:=(List.range n).map fun i=>l.getD (o+i) 0
def odO(x:Int):Int:=CZ .eql (CZ .rem (CZ .shr x 0) 2) 1
section
variable(T:Tb)
def ZE(a b:List Int):List Int:=gv T 66 0 [a,b]
def sPl(a b:List Int):List Int:=gv T 71 0 [a,b,gv T 79 0 []]
def sMi(a b:List Int):List Int:=gv T 78 0 [a,b,gv T 79 0 []]
def qH(n:Int):List Int:=gv T 68 0 [[n]]
def AC2(a:List Int):List Int:=gv T 65 0 [a]
def sPw(a e:List Int):List Int:=gv T 85 0 [a,e]
def sOp(a:List Int):List Int:=gv T 55 0 [a]
def e1L:List Int:=[4294967294,4294967295,4294967295,4294967295,4294967295,4294967295,4294967295,268435455]
def e2L:List Int:=[4294967291,4294967295,4294967295,4294967295,4294967295,4294967295,4294967295,536870911]
def rtA(a:List Int):List Int:=sPw T a e1L
def rtB(a:List Int):List Int:=ZE T (rtA T a) (sPw T (qH T 2) e2L)
def rtG(g:List Int→List Int)(a:List Int):List Int:=
 if K9 (K9 (ZE T (rtA T a) (rtA T a) == a) == 0)=0 then (if odO ((rtA T a).getD 0 0)=0 then g (rtA T a) else g (sOp T (rtA T a)))
 else (if odO ((rtB T a).getD 0 0)=0 then g (rtB T a) else g (sOp T (rtB T a)))
def dcY(b:List Int):List Int:=gv T 77 0 [b]
def ASo(b:List Int):List Int:=ZE T (dcY T b) (dcY T b)
def dcU(b:List Int):List Int:=sMi T (ASo T b) (qH T 1)
def dcV(b:List Int):List Int:=sPl T (ZE T (gv T 57 0 []) (ASo T b)) (qH T 1)
def dcW(b:List Int):List Int:=ZE T (dcU T b) (AC2 T (dcV T b))
def dcX(b:List Int):List Int:=gv T 80 0 [dcW T b]
def adZ(p q:List Int):List Int:=ZE T (sb p 16 8) (sb q 16 8)
def adX(p q:List Int):List Int:=ZE T (sb p 0 8) (sb q 0 8)
def adY(p q:List Int):List Int:=ZE T (sb p 8 8) (sb q 8 8)
def adE(d p q:List Int):List Int:=ZE T d (ZE T (adX T p q) (adY T p q))
def adS(p q:List Int):List Int:=ZE T (adZ T p q) (adZ T p q)
def adM(d p q:List Int):List Int:=sPl T (adS T p q) (adE T d p q)
def adL(d p q:List Int):List Int:=sMi T (adS T p q) (adE T d p q)
def adA(p q:List Int):List Int:=sPl T (ZE T (sb p 0 8) (sb q 8 8)) (ZE T (sb q 0 8) (sb p 8 8))
def enI(p:List Int):List Int:=AC2 T (sb p 16 8)
def enO(p:List Int):List Int:=gv T 45 0 [ZE T (sb p 8 8) (enI T p)]
variable{T}
theorem oP{a:List Int}:Nn.valT T Eu 0 [a]=sb (sPw T a (gv T 86 0 [gv T 79 0 [],qH T 2])) 0 8:=by kernel_rfl
theorem ABf:P6.valT T QM 0 []=sb (ZE T (sMi T [0,0,0,0,0,0,0,0] (qH T 121665)) (AC2 T (qH T 121666))) 0 8:=by kernel_rfl
theorem ABh{a:List Int}:Im.valT T Gg 0 [a]=rtG T (fun l=>sb l 0 8) a:=by kernel_rfl
theorem ABQ{a:List Int}:Im.valT T Gg 1 [a]=rtG T (fun l=>[K9 (ZE T l l == a)]) a:=by kernel_rfl
theorem nA{b:List Int}:Ir.valT T Ca 0 [b]=if Ao .geq .u8 (b.getD 31 0) 128=0 then sb (dcX T b) 0 8++(sb (dcY T b) 0 8++sb (qH T 1) 0 8) else sb (sOp T (dcX T b)) 0 8++(sb (dcY T b) 0 8++sb (qH T 1) 0 8):=by kernel_rfl
theorem kN{b:List Int}:Ir.valT T Ca 1 [b]=if Ao .geq .u8 (b.getD 31 0) 128=0 then [(gv T 80 1 [dcW T b]).getD 0 0] else [(gv T 80 1 [dcW T b]).getD 0 0]:=by kernel_rfl
theorem AA1{d p q:List Int}:QO.valT T Ii 0 [d,p,q]=sb (ZE T (adZ T p q) (ZE T (adA T p q) (adL T d p q))) 0 8++(sb (ZE T (adZ T p q) (ZE T (sPl T (adX T p q) (adY T p q)) (adM T d p q))) 0 8++sb (ZE T (adM T d p q) (adL T d p q)) 0 8):=by kernel_rfl
theorem pE{p:List Int}:Nl.valT T H5 0 [p]=if odO ((ZE T (sb p 0 8) (enI T p)).getD 0 0)=0 then sb (enO T p) 0 32 else sb (enO T p) 0 31 ++ [Ao .add .u8 ((enO T p).getD 31 0) 128]:=by kernel_rfl
end
end
section
open Go Ma
theorem Xd{l:List Int}{n:Nat}(h:l.length=n):sb l 0 n=l:=by
 subst h;unfold sb;refine List.ext_getElem (by simp) fun i h1 h2=>?_
 simp[List.getD,h2]
theorem ma(l:List Int)(o n:Nat):(sb l o n).length=n:=by simp[sb]
theorem aO{x y z:List Int}{o n:Nat}(h1:x.length=o)(h2:y.length=n):sb (x++(y++z)) o n=y:=by
 subst h1;subst h2;unfold sb;refine List.ext_getElem (by simp) fun i h1 h2=>?_
 simp[List.getD,mH,gI h2,h2]
theorem NF.len{l:List Int}{x:Fp}(h:NF l x):l.length=8:=N8.len h
theorem NF.sb{l:List Int}{x:Fp}(h:NF l x):NF (sb l 0 8) x:=by rw[Xd h.len];exact h
theorem NF.fix{l:List Int}{x:Fp}(h:NF l x):NF (Aw 8 l) x:=by rw[Au h.len];exact h
theorem X8(x:Fp):(x.val:Int)<Vf:=by
 have:=x.isLt;rw[AMC];omega
theorem AS4:2*Vf≤pw 8:=by decide +kernel
theorem ABP{n:Int}(h0:0≤n)(h1:n<4294967296):((Ki n).val:Int)=n:=by
 rw[Lf];have e:((MN:Nat):Int)=Vf:=by decide +kernel
 exact zcd h0 (by rw[e];unfold Vf;omega)
theorem AEw:∀ {a b:List Int},a.length=b.length→dg a→dg b→nv a=nv b→a=b
 | [],[],_,_,_,_=>rfl
 |x::a,y::b,hl,ha,hb,h=>by
  obtain⟨x1,x2⟩:=ha.cons;obtain⟨y1,y2⟩:=hb.cons;simp only[nv] at h;have e:x=y:=by omega
  subst e;rw[AEw (by simpa using hl) x2 y2 (by omega)]
 | [],_::_,h,_,_,_=>by simp at h
 |_::_,[],h,_,_,_=>by simp at h
theorem N8.eq_iff{a b:List Int}{m n:Int}(ha:N8 a m)(hb:N8 b n):(a == b)=decide (m=n):=by
 by_cases h:m=n
 ·subst h;rw[AEw (by rw[ha.len,hb.len]) ha.dg hb.dg (by rw[ha.val,hb.val])];simp
 ·rw[decide_eq_false h];have:¬ a=b:=fun e=>h (by rw[← ha.val, ← hb.val,e])
  simpa using this
theorem NF.eq_iff{a b:List Int}{x y:Fp}(ha:NF a x)(hb:NF b y):(a == b)=ZP x y:=by
 rw[N8.eq_iff ha hb]
 by_cases h:x=y
 ·subst h;rw[QI.2 rfl];simp
 ·rw[dm h];exact decide_eq_false fun e=>h (Fin.ext (by omega))
theorem AGE:EQ.pr 0= .l fun a=>Aw 8 (QC.raw QH 0 a):=rfl
theorem AEg:DU.pr 0= .l fun a=>Aw 8 (QS.raw QB 0 a):=rfl
theorem wY:Eb.pr 0= .l fun a=>Aw 8 (LH.raw LY 0 a):=rfl
theorem ACB:IZ.pr 0= .l fun a=>Aw 8 (OB.raw Nq 0 a):=rfl
theorem AI3:KC.pr 0= .l fun a=>Aw 8 (NL.raw NI 0 a):=rfl
theorem AMA:IP.pr 0= .l fun a=>Aw 8 (Mo.raw Mm 0 a):=rfl
theorem ADp:Lj.pr 0= .l fun a=>Aw 8 (Ih.raw HY 0 a):=rfl
theorem vk:Es.pr 0= .l fun a=>Aw 8 (Nn.raw Eu 0 a):=rfl
theorem AEh:KR.pr 0= .l fun a=>Aw 8 (P6.raw QM 0 a):=rfl
theorem AE6:LM.pr 0= .l fun a=>Aw 8 (Im.raw Gg 0 a):=rfl
theorem AEc:LM.pr 1= .i fun a=>d1 (Im.raw Gg 1 a):=rfl
section
variable{T:Tb}
theorem TM{f:Nat}{s:Az}{G:List (List Int)→List Int}{ins:List (List Int)}{m:Int}(h:lk f T=some (.one s))(hp:s.pr 0= .l fun a=>Aw 8 (G a))(hn:N8 (G ins) m):N8 (gv T f 0 ins) m:=by
 rw[Bg h,hp];show N8 (Aw 8 (G ins)) m;rw[Au hn.len];exact hn
theorem eT(h:lk 79 T=some (.one EQ)):N8 (gv T 79 0 []) Vf:=TM h AGE dD
theorem wC(h:lk 68 T=some (.one DU)){n:Int}(hn:0≤n∧n<4294967296):N8 (qH T n) n:=TM h AEg (qm hn)
theorem WI(h:lk 68 T=some (.one DU)){n:Int}(hn:0≤n∧n<4294967296):NF (qH T n) (Ki n):=by
 unfold NF;rw[ABP hn.1 hn.2];exact wC h hn
theorem Iy(h:lk 66 T=some (.one C8)){a b:List Int}{x y:Fp}(ha:NF a x)(hb:NF b y):NF (ZE T a b) (x*y):=bq h ha hb
theorem jl(h:lk 71 T=some (.one Eb))(hp:lk 79 T=some (.one EQ)){a b:List Int}{x y:Fp}(ha:NF a x)(hb:NF b y):NF (sPl T a b) (x+y):=
 NF.of (TM h wY (ZQ ha hb (eT hp) (X8 x) (X8 y) AS4)) (by rw[lM,Yd,Yd])
theorem wG(h:lk 78 T=some (.one IZ))(hp:lk 79 T=some (.one EQ)){a b:List Int}{x y:Fp}(ha:NF a x)(hb:NF b y):NF (sMi T a b) (x-y):=
 NF.of (TM h ACB (nN ha hb (eT hp) (X8 x) (Int.le_of_lt (X8 y)) (fun e=>by have:=X8 y;omega) AS4)) (by rw[lK,Yd,Yd])
theorem ACm(h:lk 55 T=some (.one IP)){a:List Int}{x:Fp}(ha:NF a x):NF (sOp T a) (-x):=
 NF.of (TM h AMA (rA ha (X8 x))) (by rw[AIj,Yd])
theorem uz(h:lk 85 T=some (.one Lj)){a e:List Int}{x:Fp}{E:Nat}(ha:NF a x)(he:N8 e (E:Int)):NF (sPw T a e) (Kl x E):=TM h ADp (ADo ha he)
theorem uC{a:List Int}{x:Fp}(ha:NF a x):NF (Nn.raw Eu 0 [a]) x⁻¹ := by
 rw[Et,oP,APR];have h2:=wC (T:=Eu.T) rfl (n:=2) (by decide);have hr:=TM (T:=Eu.T) (f:=86) (s:=KC) rfl AI3 (AAS (eT (T:=Eu.T) rfl) h2 (by decide));have he:N8 (gv Eu.T 86 0 [gv Eu.T 79 0 [],qH Eu.T 2]) ((eI:Nat):Int):=by
  have:Vf-2=((eI:Nat):Int):=by decide +kernel
  rw[← this];exact hr
 exact (uz rfl ha he).sb
theorem Zf(h:lk 65 T=some (.one Es)){a:List Int}{x:Fp}(ha:NF a x):NF (AC2 T a) x⁻¹ := TM h vk (uC ha)
theorem yj:NF [0,0,0,0,0,0,0,0] (0:Fp):=by
 have z:(0:Int)≤0∧(0:Int)<4294967296:=by omega
 exact⟨rfl,.mk z (.mk z (.mk z (.mk z (.mk z (.mk z (.mk z (.mk z .nil))))))),rfl⟩
theorem AO5:(0-Ki 121665)*(Ki 121666)⁻¹ = dE:=by
 have h1:Ki 121666≠0:=by decide +kernel
 refine Om h1 ?_;have h2:=V4 h1;have h3:dE*Ki 121666=0-Ki 121665:=by decide +kernel
 rw[h3];generalize (Ki 121666)⁻¹ = u at *
 grind
theorem ADB:NF (P6.raw QM 0 []) dE:=by
 rw[Et,ABf, ← AO5];exact (Iy rfl (wG rfl rfl yj (WI rfl (by decide))) (Zf rfl (WI rfl (by decide)))).sb
theorem oK(h:lk 57 T=some (.one KR)):NF (gv T 57 0 []) dE:=TM h AEh ADB
theorem ANQ{x:Int}(h:0≤x):odO x=K9 (decide (x%2=1)):=by
 unfold odO;have e1:CZ .shr x 0=x:=by
  show x.fdiv (2^(min (0:Int).toNat 64))=x;exact Int.fdiv_one x
 rw[e1];show K9 (x.tmod 2 == 1)=_;rw[Int.tmod_eq_emod_of_nonneg h];rfl
theorem ADZ{l:List Int}{x:Fp}(h:NF l x):odO (l.getD 0 0)=K9 (decide (x.val%2=1)):=by
 rw[ANQ (AKX h.dg 0).1];have hv:=h.val
 match l,h.len with
 | [a,b,c,d,e,f,g,i],_=>
  simp only[nv] at hv;rw[Qu]
  congr 1
  refine decide_eq_decide.2 ?_;omega
def eQ:Nat:=7237005577332262213973186563042994240829374041602535252466099000494570602494
def eR:Nat:=14474011154664524427946373126085988481658748083205070504932198000989141204987
theorem ATl:N8 e1L ((eQ:Nat):Int):=⟨rfl,fE rfl,by decide +kernel⟩
theorem AS0:N8 e2L ((eR:Nat):Int):=⟨rfl,fE rfl,by decide +kernel⟩
def iR:Fp:=Kl (Ki 2) eR
theorem ATP:iR*iR= -1:=by
 have h:iR=iE:=by
  apply Fin.ext
  unfold iR;rw[ADS _ _ (by decide +kernel)];decide +kernel
 rw[h];exact AN1
def bg(w:Fp):Fp:=if Kl w eQ*Kl w eQ=w then Kl w eQ else Kl w eQ*iR
def nH(w:Fp):Fp:=if (bg w).val%2=1 then -bg w else bg w
theorem AFx{R:List Int→Prop}{g:List Int→List Int}(h1:lk 85 T=some (.one Lj))(h2:lk 66 T=some (.one C8))(h3:lk 68 T=some (.one DU))(h4:lk 55 T=some (.one IP)){a:List Int}{w:Fp}(ha:NF a w)(hg:∀ l,NF l (nH w)→R (g l)):R (rtG T g a):=by
 have hA:NF (rtA T a) (Kl w eQ):=uz h1 ha ATl;have hB:NF (rtB T a) (Kl w eQ*iR):=Iy h2 hA (uz h1 (WI h3 (by decide)) AS0);have hAA:=Iy h2 hA hA;have fin:∀ l,NF l (bg w)→R (if odO (l.getD 0 0)=0 then g l else g (sOp T l)):=fun l hl=>by
  rw[ADZ hl]
  by_cases ho:(bg w).val%2=1
  ·rw[if_neg (fun h=>UV.1 h ho)];refine hg _ ?_;unfold nH;rw[if_pos ho];exact ACm h4 hl
  ·rw[if_pos (UV.2 ho)];refine hg _ ?_;unfold nH;rw[if_neg ho];exact hl
 unfold rtG;rw[hAA.eq_iff ha]
 by_cases hq:Kl w eQ*Kl w eQ=w
 ·rw[QI.2 hq,if_pos (by rfl)];refine fin _ ?_;unfold bg;rw[if_pos hq];exact hA
 ·rw[dm hq,if_neg (by intro h;exact absurd h (by decide))];refine fin _ ?_;unfold bg;rw[if_neg hq];exact hB
theorem AFh{a:List Int}{w:Fp}(ha:NF a w):NF (Im.raw Gg 0 [a]) (nH w):=by
 rw[Et,ABh];exact AFx (R:=fun l=>NF l (nH w)) rfl rfl rfl rfl ha fun l hl=>hl.sb
theorem ADC{a:List Int}{w:Fp}(ha:NF a w):Im.raw Gg 1 [a]= [K9 (ZP (nH w*nH w) w)]:=by
 rw[Et,ABQ];refine AFx (T:=Gg.T) (R:=fun l=>l= [K9 (ZP (nH w*nH w) w)]) rfl rfl rfl rfl ha fun l hl=>?_
 rw[(Iy (T:=Gg.T) rfl hl hl).eq_iff ha]
theorem AFz(h:lk 80 T=some (.one LM)){a:List Int}{w:Fp}(ha:NF a w):NF (gv T 80 0 [a]) (nH w):=TM h AE6 (AFh ha)
theorem AEI(h:lk 80 T=some (.one LM)){a:List Int}{w:Fp}(ha:NF a w):gv T 80 1 [a]= [K9 (ZP (nH w*nH w) w)]:=by
 rw[Bg h,AEc];show [d1 (Im.raw Gg 1 [a])]=_;rw[ADC ha];rfl
end
theorem ADb{r:Fp}(h:r.val%2=1):(-r).val%2=0:=by
 have e: -r=0-r:=by grind
 rw[e];exact oQ h
theorem AEG(w:Fp):(nH w).val%2=0:=by
 unfold nH
 split
 ·rename_i h;exact ADb h
 ·omega
theorem ANu{w s:Fp}(h:s*s=w):nH w*nH w=w:=by
 have h1:bg w*bg w=w:=by
  unfold bg
  split
  ·rename_i hq;exact hq
  ·rename_i hq
   have e:Kl w eQ*Kl w eQ=w*Kl s eH:=by
    rw[← h,AGO];have e3:Kl s eH*(s*s)=Kl s eQ*Kl s eQ*(Kl s eQ*Kl s eQ):=by
     rw[← Mr, ← Mr];have:s*s=Kl s 2:=by rw[JS,QD]
     rw[this, ← Mr]
     congr 1
    rw[← e3]
    grind
   by_cases hs:s=0
   ·exfalso
    apply hq
    rw[e, ← h,hs]
    grind
   ·rcases chi hs with hc|hc
    ·exfalso
     apply hq
     rw[e,hc]
     grind
    ·have hi:=ATP;rw[hc] at e;generalize Kl w eQ=u at *
     generalize iR=i at *
     grind
 unfold nH
 split
 ·generalize bg w=u at *
  grind
 ·exact h1
theorem jX{a b:Fp}(h:a*a=b*b)(ha:a.val%2=0)(hb:b.val%2=0):a=b:=by
 have h2:(a-b)*(a+b)=0:=by grind
 rcases Qx h2 with e|e
 ·grind
 ·have e2:a= -b:=by grind
  by_cases h0:b=0
  ·rw[e2,h0];grind
  ·exfalso;have e3:a.val+b.val=PP:=by
    have h4:=QL Fin.val e;rw[Fin.val_add] at h4;have h6:(0:Fp).val=0:=rfl;rw[h6] at h4;have hbp:0<b.val:=Nat.pos_of_ne_zero fun e=>h0 (Fin.ext e)
    have:=a.isLt;have:=b.isLt;have hd:=Nat.div_add_mod (a.val+b.val) PP;rw[h4,Q3] at hd;generalize (a.val+b.val)/PP=q at hd;generalize a.val=x at *
    generalize b.val=y at *
    have h9:PP*q<PP*2:=by omega
    have h10:q<2:=Nat.lt_of_mul_lt_mul_left h9
    match q,h10 with
    |0,_=>rw[Nat.mul_zero] at hd;omega
    |1,_=>rw[Nat.mul_one] at hd;omega
   have:PP%2=1:=by decide +kernel
   omega
end
section
open Go Ma
def Pj(l:List Int)(P:Pt):Prop:=∃ x y z X Y Z,l=x++(y++z)∧NF x X∧NF y Y∧NF z Z∧P2 X Y Z P
theorem tN{x y z:List Int}{X Y Z:Fp}(hx:NF x X)(hy:NF y Y)(hz:NF z Z):NF (sb (x++(y++z)) 0 8) X∧NF (sb (x++(y++z)) 8 8) Y∧NF (sb (x++(y++z)) 16 8) Z:=by
 have e1:sb (x++(y++z)) 0 8=x:=by
  have:=aO (x:=[]) (y:=x) (z:=y++z) rfl hx.len
  simpa using this
 have e2:sb (x++(y++z)) 8 8=y:=aO hx.len hy.len;have e3:sb (x++(y++z)) 16 8=z:=by
  have:=aO (x:=x++y) (y:=z) (z:=[]) (o:=16) (by rw[K6,hx.len,hy.len]) hz.len
  rwa [TL,YY] at this
 rw[e1,e2,e3];exact⟨hx,hy,hz⟩
theorem Pj.len{l:List Int}{P:Pt}(h:Pj l P):l.length=24:=by
 obtain⟨x,y,z,X,Y,Z,rfl,hx,hy,hz,_⟩:=h;rw[K6,K6,hx.len,hy.len,hz.len]
theorem AWD{z x D E:Fp}:z*(z*(x*D)*(z*z*E))=x*(z*z*D*(z*z*E)):=by grind
theorem AU4{z x D E:Fp}:z*(z*(x*E)*(z*z*D))=x*(z*z*D*(z*z*E)):=by grind
theorem AMm{X1 Y1 Z1 X2 Y2 Z2:Fp}{P Q:Pt}(h:P2 X1 Y1 Z1 P)(g:P2 X2 Y2 Z2 Q):
  P2 (Z1*Z2*((X1*Y2+X2*Y1)*(Z1*Z2*(Z1*Z2)-dE*(X1*X2*(Y1*Y2))))) (Z1*Z2*((X1*X2+Y1*Y2)*(Z1*Z2*(Z1*Z2)+dE*(X1*X2*(Y1*Y2)))))
   ((Z1*Z2*(Z1*Z2)+dE*(X1*X2*(Y1*Y2)))*(Z1*Z2*(Z1*Z2)-dE*(X1*X2*(Y1*Y2)))) (P.add Q):=by
 obtain⟨hz,hx,hy⟩:=h;obtain⟨gz,gx,gy⟩:=g;have d1:=fQ edE P.h Q.h;have d2:=aU edE P.h Q.h;have ax:=AK4 P Q;have ay:=AKf P Q;have hzz:Z1*Z2*(Z1*Z2)≠0:=Ei (Ei hz gz) (Ei hz gz);have e1:Z1*Z2*(Z1*Z2)+dE*(X1*X2*(Y1*Y2))=Z1*Z2*(Z1*Z2)*(1+dE*P.x*Q.x*P.y*Q.y):=by rw[hx,hy,gx,gy];grind
 have e2:Z1*Z2*(Z1*Z2)-dE*(X1*X2*(Y1*Y2))=Z1*Z2*(Z1*Z2)*(1-dE*P.x*Q.x*P.y*Q.y):=by rw[hx,hy,gx,gy];grind
 have e3:X1*Y2+X2*Y1=Z1*Z2*(P.x*Q.y+P.y*Q.x):=by rw[hx,hy,gx,gy];grind
 have e4:X1*X2+Y1*Y2=Z1*Z2*(P.y*Q.y+P.x*Q.x):=by rw[hx,hy,gx,gy];grind
 rw[e1,e2,e3,e4, ← ax, ← ay];generalize 1+dE*P.x*Q.x*P.y*Q.y=D1 at *
 generalize 1-dE*P.x*Q.x*P.y*Q.y=D2 at *
 generalize Z1*Z2=zz at *
 exact⟨Ei (Ei hzz d1) (Ei hzz d2),AWD,AU4⟩
theorem AB4{d p q:List Int}{P Q:Pt}(hd:NF d dE)(hp:Pj p P)(hq:Pj q Q):Pj (QO.raw Ii 0 [d,p,q]) (P.add Q):=by
 obtain⟨x,y,z,X,Y,Z,rfl,hx,hy,hz,h⟩:=hp;obtain⟨x',y',z',X',Y',Z',rfl,hx',hy',hz',h'⟩:=hq;obtain⟨s1,s2,s3⟩:=tN hx hy hz;obtain⟨t1,t2,t3⟩:=tN hx' hy' hz';rw[Et,AA1];have T1:lk 66 Ii.T=some (.one C8):=rfl;have T2:lk 71 Ii.T=some (.one Eb):=rfl;have T3:lk 78 Ii.T=some (.one IZ):=rfl;have T4:lk 79 Ii.T=some (.one EQ):=rfl;generalize Ii.T=T at *
 have hZ:=Iy T1 s3 t3;have hX:=Iy T1 s1 t1;have hY:=Iy T1 s2 t2;have hE:=Iy T1 hd (Iy T1 hX hY);have hS:=Iy T1 hZ hZ;have hM:=jl T2 T4 hS hE;have hL:=wG T3 T4 hS hE;have hA:=jl T2 T4 (Iy T1 s1 t2) (Iy T1 t1 s2);exact⟨_,_,_,_,_,_,rfl,(Iy T1 hZ (Iy T1 hA hL)).sb,(Iy T1 hZ (Iy T1 (jl T2 T4 hX hY) hM)).sb,(Iy T1 hM hL).sb,AMm h h'⟩
def octV:Nat→Nat→List Int
 |0,_=>[]
 |k+1,n=>((n%256:Nat):Int)::octV k (n/256)
theorem Ml:∀ (k n:Nat),(octV k n).length=k
 |0,_=>rfl
 |k+1,n=>by simp[octV,Ml k]
theorem kD:∀ {l:List Int} {n:Nat},by8 l→IG l=(n:Int)→l=octV l.length n
 | [],_,_,_=>rfl
 |x::l,n,h,e=>by
  obtain⟨h1,h2⟩:=h.cons;simp only[IG] at e;have hb:=Xy h2;have:=kD (l:=l) (n:=n/256) h2 (by omega);rw[Oq,octV, ← this]
  congr 1
  omega
theorem B32.octV{l:List Int}{n:Nat}(h:B32 l (n:Int)):l=octV 32 n:=by
 have:=kD h.by8 h.val
 rwa [h.len] at this
def OT(P:Pt):List Int:=if P.x.val%2=1 then sb (octV 32 P.y.val) 0 31 ++ [(octV 32 P.y.val).getD 31 0+128] else octV 32 P.y.val
theorem bY:∀ {k n i:Nat},i<k→(octV k n).getD i 0=((n/256^i%256:Nat):Int)
 |0,_,_,h=>by omega
 |k+1,n,0,_=>by simp[octV]
 |k+1,n,i+1,h=>by
  rw[octV,Ze,bY (by omega),Nat.div_div_eq_div_mul,r9,zcp]
theorem ADm(y:Fp):(octV 32 y.val).getD 31 0<128∧0≤(octV 32 y.val).getD 31 0:=by
 rw[bY (by omega)];have hy:=y.isLt;have h1:y.val/256^31<128:=by
  rw[Nat.div_lt_iff_lt_mul (Nat.pow_pos (by decide))];exact zcg hy (by decide +kernel)
 omega
section
variable{T:Tb}
theorem AMQ:JY.pr 0= .l fun a=>Aw 32 (Jg.raw JW 0 a):=rfl
theorem ADX(h:lk 45 T=some (.one JY)){a:List Int}{m:Int}(ha:N8 a m):B32 (gv T 45 0 [a]) m:=by
 have:=iN ha;rw[Bg h,AMQ];show B32 (Aw 32 (Jg.raw JW 0 [a])) m;rw[Au this.len];exact this
end
theorem AM5{x:Int}(h:0≤x∧x<128):Ao .add .u8 x 128=x+128:=by
 show IntKind.u8.wrap (x+128)=_;rw[uS];omega
theorem AOb{X Y Z:Fp}{P:Pt}(h:P2 X Y Z P):Y*Z⁻¹ = P.y∧X*Z⁻¹ = P.x:=by
 obtain⟨hz,hx,hy⟩:=h;have:=V4 hz;rw[hx,hy];generalize Z⁻¹ = u at *
 exact⟨by grind,by grind⟩
theorem tK{p:List Int}{P:Pt}(hp:Pj p P):Nl.raw H5 0 [p]=OT P:=by
 obtain⟨x,y,z,X,Y,Z,rfl,hx,hy,hz,h⟩:=hp;obtain⟨s1,s2,s3⟩:=tN hx hy hz;rw[Et,pE];have T1:lk 66 H5.T=some (.one C8):=rfl;have T2:lk 65 H5.T=some (.one Es):=rfl;have T3:lk 45 H5.T=some (.one JY):=rfl;generalize H5.T=T at *
 have hI:=Zf T2 s3;have hY:=Iy T1 s2 hI;have hX:=Iy T1 s1 hI;obtain⟨f1,f2⟩:=AOb h;rw[f1] at hY;rw[f2] at hX;have hO:enO T (x++(y++z))=octV 32 P.y.val:=(ADX T3 hY).octV;have hx':odO ((ZE T (sb (x++(y++z)) 0 8) (enI T (x++(y++z)))).getD 0 0)=_:=ADZ hX;rw[hx',hO];unfold OT
 by_cases ho:P.x.val%2=1
 ·obtain⟨l1,l2⟩:=ADm P.y;rw[if_neg (fun h=>UV.1 h ho),if_pos ho,AM5 ⟨l2,l1⟩]
 ·rw[if_pos (UV.2 ho),if_neg ho,Xd (Ml _ _)]
def yB(b:List Int):Fp:=Ki (IG (elB b))
def xSr(y:Fp):Fp:=nH (uY y*(vY y)⁻¹)
theorem y9(y:Fp):vY y≠0:=fun h=>by
 unfold vY at h;have hi:=AN1
 by_cases h0:y=0
 ·rw[h0] at h;exact absurd (show (1:Fp)=0 by grind) (by decide +kernel)
 ·refine edE.ns (iE*y⁻¹) (vJ h0 ?_);generalize iE=i at *
  grind
theorem AOR(y:Fp):xSr y*xSr y=uY y*(vY y)⁻¹ ↔ ∃ x,Ph dE x y:=by
 have hv:=V4 (y9 y)
 constructor
 ·intro h
  refine⟨xSr y,Rp.1 ?_⟩;rw[h];generalize (vY y)⁻¹ = u at *
  grind
 ·intro ⟨x,hx⟩
  refine ANu (s:=x) ?_;have:=Rp.2 hx;generalize (vY y)⁻¹ = u at *
  grind
theorem AS7{y:Fp}(h:∃ x,Ph dE x y):Ph dE (xSr y) y:=by
 have hv:=V4 (y9 y);have h1:=(AOR y).2 h;refine Rp.1 ?_;rw[h1];generalize (vY y)⁻¹ = u at *
 grind
theorem APB{y:Fp}(h:∃ x,Ph dE x y):xSr y=xY y:=by
 have h1:=Rp.2 (AS7 h);have h2:=Rp.2 (VY h);refine jX ?_ (AEG _) (Zw (uY y) (vY y)).2.2;refine Om (y9 y) ?_;generalize xSr y=a at *
 generalize xY y=b at *
 grind
structure AMb (b l:List Int):Prop where
 ex:∃ x y z,l=x++(y++z)∧NF x (if 128≤b.getD 31 0 then -xSr (yB b) else xSr (yB b))∧NF y (yB b)∧NF z 1
theorem AQs:LZ.pr 0= .l fun a=>Aw 8 (H9.rawt GN 0 a):=rfl
theorem ASB{T:Tb}(h:lk 77 T=some (.one LZ)){b:List Int}(hl:b.length=32)(h8:by8 b):NF (dcY T b) (yB b):=NF.of (TM h AQs (tC hl h8)) rfl
theorem AU5{x:Int}:Ao .geq .u8 x 128=K9 (decide (128≤x)):=rfl
theorem uQ{b:List Int}(hl:b.length=32)(h8:by8 b):AMb b (Ir.raw Ca 0 [b])∧Ir.raw Ca 1 [b]= [K9 (ZP (xSr (yB b)*xSr (yB b)) (uY (yB b)*(vY (yB b))⁻¹))]:=by
 rw[Et,Et,nA,kN];have T1:lk 66 Ca.T=some (.one C8):=rfl;have T2:lk 65 Ca.T=some (.one Es):=rfl;have T3:lk 77 Ca.T=some (.one LZ):=rfl;have T4:lk 68 Ca.T=some (.one DU):=rfl;have T5:lk 79 Ca.T=some (.one EQ):=rfl;have T6:lk 78 Ca.T=some (.one IZ):=rfl;have T7:lk 71 Ca.T=some (.one Eb):=rfl;have T8:lk 57 Ca.T=some (.one KR):=rfl;have T9:lk 80 Ca.T=some (.one LM):=rfl;have Ta:lk 55 Ca.T=some (.one IP):=rfl;generalize Ca.T=T at *
 have hY:=ASB T3 hl h8;have hYY:=Iy T1 hY hY;have h1:NF (qH T 1) (1:Fp):=by
  have:=WI T4 (n:=1) (by decide)
  rwa [Uk] at this
 have hU:=wG T6 T5 hYY h1;have hV:=jl T7 T5 (Iy T1 (oK T8) hYY) h1;have eV:dE*(yB b*yB b)+1=vY (yB b):=by unfold vY;grind
 rw[eV] at hV;have hW:NF (dcW T b) (uY (yB b)*(vY (yB b))⁻¹):=Iy T1 hU (Zf T2 hV);have hX:NF (dcX T b) (xSr (yB b)):=AFz T9 hW;rw[AEI T9 hW,Qu,AU5];refine⟨⟨?_⟩,by split<;>rfl⟩
 by_cases hb:128≤b.getD 31 0
 ·rw[if_neg (fun h=>UV.1 h hb),if_pos hb];exact⟨_,_,_,rfl,(ACm Ta hX).sb,hY.sb,h1.sb⟩
 ·rw[if_pos (UV.2 hb),if_neg hb];exact⟨_,_,_,rfl,hX.sb,hY.sb,h1.sb⟩
def ptD(b:List Int)(h:∃ x,Ph dE x (yB b)):Pt:=if 128≤b.getD 31 0 then (⟨xY (yB b),yB b,VY h⟩:Pt).neg else ⟨xY (yB b),yB b,VY h⟩
theorem AOV{x y:Fp}{P:Pt}(hx:x=P.x)(hy:y=P.y):P2 x y 1 P:=⟨by decide +kernel,by rw[hx];grind,by rw[hy];grind⟩
theorem AMb.pr{b l:List Int}(h:AMb b l)(hc:∃ x,Ph dE x (yB b)):Pj l (ptD b hc):=by
 obtain⟨x,y,z,rfl,hx,hy,hz⟩:=h.ex;rw[APB hc] at hx;refine⟨x,y,z,_,_,_,rfl,hx,hy,hz,AOV ?_ ?_⟩
 ·unfold ptD
  split<;>rfl
 ·unfold ptD
  split<;>rfl
end
end Go.Proofs.YtloibefkijfdlaaGreatDoor
