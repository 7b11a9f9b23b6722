/- The executor over this program: equality of the reference's numbers. -/
import Derived.Test.YtkbfdaoohhmgoaaGreatDoorNc
namespace Go.Proofs.YtkbfdaoohhmgoaaGreatDoor
section
open Go
theorem APZ {P:Program} {t u n:Nat} {k:IntKind} (hu:P.underlying t=some (.array n u)) (rI:P.underlying u=some (.int k)) (hp:P.plainKey u=true) (cX:∀w:World,(sizeOf u).run P w= .ok 1 w)
 (xs ys:List Int) (hx:xs.length=n) (hy:ys.length=n) (d:Nat) (w:World):
   (Op.equalIn (d+1+1) t (.agg (xs.map (Value.int k)).toArray) (.agg (ys.map (Value.int k)).toArray)).run P w= .ok ((List.range n).all λi=>xs.getD i 0 == ys.getD i 0) w:=by
 rw[Op.equalIn];simp only[Gi,run_underlying hu,Fb,cX,Nat.mul_one];have hI:∀(a b:Int) (w:World),(Op.equalIn (d+1) u (.int k a) (.int k b)).run P w= .ok (a == b) w:=λa b w=>by
  rw[Op.equalIn];simp[run_underlying rI]
 have vA:∀(zs:List Int) (i:Nat) (w:World),i<zs.length->(part u (zs.map (Value.int k)).toArray i).run P w= .ok (.int k (zs.getD i 0)) w:=λzs i w h=>
  run_part_plain w hp (by simp[List.getD,h])
 have loop:∀(m:List Nat),(∀i∈m,i<n)->
   (forIn m ((none:Option Bool),()) λ(i:Nat) __s=>do
        let __do_lift <- part u (List.map (Value.int k) xs).toArray i
        let __do_lift_1 <- part u (List.map (Value.int k) ys).toArray i
        let __do_lift <- Op.equalIn (d+1) u __do_lift __do_lift_1
        if(!__do_lift)=true then pure (ForInStep.done (some false,()))
         else pure (ForInStep.yield (none,()))).run P w= .ok (if(m.all λi=>xs.getD i 0 == ys.getD i 0) then none else some false,()) w:=by
  intro m
  induction m with
  |nil=>intro _;simp
  | cons i m ih=>
   intro h1;have g1:=h1 i Jv;rw[List.forIn_cons];simp only[Gi,vA xs _ w (by omega:i<xs.length),vA ys _ w (by omega:i<ys.length),Fb,hI,List.all_cons];rcases Bool.eq_false_or_eq_true (xs.getD i 0 == ys.getD i 0) with hb|hb
   ·simp only[hb,Bool.not_true,Qo,if_false,I4,Fb,Bool.true_and];exact ih (λf hf=>h1 f (MN _ hf))
   ·simp only[hb,Bool.not_false,if_true,I4,Fb,Bool.false_and,Qo,if_false]
 have hr:List.range' 0 n=List.range n:=(List.range_eq_range').symm;simp only[Std.Legacy.Range.forIn_eq_forIn_range',Std.Legacy.Range.size,Nat.sub_zero,Nat.add_sub_cancel,Nat.div_one,hr];rw[loop (List.range n) λi hi=>fV.1 hi];simp only[Fb];split<;>rename_i h
 ·split at h
  ·cases h
  ·cases h;rename_i h2;simp only[I4];simp at h2;congr 1;simpa using h2
 ·split at h
  ·rename_i h2;simp only[I4];rw[h2]
  ·cases h
def uk:List (Nat×List IntKind):=[(40,List.replicate 8 .u64)]
theorem AAG:∀t ks,lk t uk=some ks->∀xs ys:List Int,EP ks xs->EP ks ys->∀(op:BinOp) (x y:Operand) (w:World),
  (eqGuard op t x y (.agg (AL ks xs).toArray) (.agg (AL ks ys).toArray)).run Tryz.prog w= .ok () w/\(Op.equal t (.agg (AL ks xs).toArray) (.agg (AL ks ys).toArray)).run Tryz.prog w= .ok (xs == ys) w:=by
 intro t ks h xs ys hx hy op x y w;simp only[uk,lk] at h;cases hb:Nat.beq 40 t with
 |false=>rw[hb] at h;cases h
 |true=>
 rw[hb,cond_true,Ai] at h;have:=Ca hb;subst this;subst h;have h5:=hx.1;have h6:=hy.1;simp only[Rp] at h5 h6;have vc:∀w:World,(program).run Tryz.prog w= .ok Tryz.prog w:=λ_=>rfl
 constructor
 ·have hg:Tryz.prog.eqGuardType Tryz.prog.depth 40=false:=by kernel_rfl
  cases op<;>simp[eqGuard,hg,vc]
 ·have hu:Tryz.prog.underlying 40=some (.array 8 38):=by kernel_rfl
  have rI:Tryz.prog.underlying 38=some (.int .u64):=by kernel_rfl
  have hpk:Tryz.prog.plainKey 38=true:=by kernel_rfl
  have:=APZ hu rI hpk (λw=>by simp[go_sem]) xs ys h5 h6 9998 w;rw[RB _ _ _ h5,RB _ _ _ h6];refine this.trans ?_;rw[<- eU (h5.trans h6.symm),h5]
def ASX(T:Tb)(L:List (Nat×IF)):Cx:= { F7 T L with eqs:=uk }
section
variable{GB:Nat}{GC:Nat->Nat->Option Value}{ad:Nat->Nat×Nat}
theorem AGi(hG:GI GB GC ad){T:Tb}(hT:iq GB GC T){L:List (Nat×IF)}(hL:UX Tryz.prog L):Ud Tryz.prog (ASX T L) GB GC where
 ok B S I sn σ0 hB:= { (PT hG hT hL).ok B S I sn σ0 hB with eq:=λt ks h xs ys hx hy op x y w=>AAG t ks h xs ys hx hy op x y w }
 il:=hL
end
end
noncomputable section
open Go
def MI:List IntKind:=List.replicate 24 .u64
theorem Z4{s:Az}(h:OJ s):OJ { s with hp:=false }:=h
section
variable{GB:Nat}{GC:Nat->Nat->Option Value}{ad:Nat->Nat×Nat}(hG:GI GB GC ad)
include hG
def M0:Ac:=⟨6000,Ab Tryz.f38,Tryz.f38.ntmps,Tryz.f38.results.toList,[],⟨[.agg U8],false,λ_=>True,[],[],[.agg U8 z1]⟩⟩
def ES:Cx:=F7 [(34,.one DF),(35,.one Dy),(49,.one I9),(50,.one KY)] []
def EQ:Az:=M0.sum ES
theorem K9:Bv Tryz.prog GB GC 38 (.one EQ):=Ac.fin hG (.cons (k:=34) rfl (G7 hG) Tryz.call34 (Ac.len _ _) (.cons (k:=35) rfl (Ib hG) Tryz.call35 (Ac.len _ _) (.cons (k:=49) rfl (Ml hG) Tryz.call49 (Ac.len _ _) (.cons (k:=50) rfl (Ur hG) Tryz.call50 (λ_=>Z4 (Ac.FG _ _ _ true)) .nil)))) .nil Tryz.func38 rfl rfl rfl (.inl rfl) (by kernel_rfl)
def IB:Ac:=⟨6000,Ab Tryz.f24,Tryz.f24.ntmps,Tryz.f24.results.toList,[],⟨[],false,λ_=>True,[],[],[.agg U8 z1]⟩⟩
def H9:Cx:=F7 [(34,.one DF),(35,.one Dy),(33,.one Gw),(38,.one EQ),(32,.one Cw)] []
def JI:Az:=IB.sum H9
theorem Qe:Bv Tryz.prog GB GC 24 (.one JI):=Ac.fin hG (.cons (k:=34) rfl (G7 hG) Tryz.call34 (Ac.len _ _) (.cons (k:=35) rfl (Ib hG) Tryz.call35 (Ac.len _ _) (.cons (k:=33) rfl (Nl hG) Tryz.call33 (Ac.len _ _) (.cons (k:=38) rfl (K9 hG) Tryz.call38 (Ac.len _ _) (.cons (k:=32) rfl (IU hG) Tryz.call32 (λ_=>Eh _ _ _ _) .nil))))) .nil Tryz.func24 rfl rfl rfl (.inl rfl) (by kernel_rfl)
def HV:Ac:=⟨6000,Ab Tryz.f37,Tryz.f37.ntmps,Tryz.f37.results.toList,[],⟨[.agg U8],false,λ_=>True,[],[],[.agg U8 z1,.bool z0]⟩⟩
def FO:Cx:=ASX [(50,.one KY),(32,.one Cw),(34,.one DF),(20,.one FP)] [(42,Nk Tryz.f42)]
def KE:Az:=HV.sum FO
omit hG in
theorem cZ:(HV.cN FO&&ADA (HV.tree FO))=true:=by kernel_rfl
theorem kK:Bv Tryz.prog GB GC 37 (.one KE):=have h:=Bool.and_eq_true_iff.1 cZ
 Ac.ok (AGi hG (.cons (k:=50) rfl (Ur hG) Tryz.call50 (λ_=>Z4 (Ac.FG _ _ _ true)) (.cons (k:=32) rfl (IU hG) Tryz.call32 (λ_=>Eh _ _ _ _) (.cons (k:=34) rfl (G7 hG) Tryz.call34 (Ac.len _ _) (.cons (k:=20) rfl (NN hG) Tryz.call20 (Ac.len _ _) .nil)))) (.cons Tryz.func42 rfl Tryz.call42 .nil)) Tryz.func37 rfl rfl rfl rfl (ER hG (.inl rfl)).1 (ER hG (.inl rfl)).2 h.1 h.2
def EU:Ac:=⟨6000,Ab Tryz.f15,Tryz.f15.ntmps,Tryz.f15.results.toList,[],⟨[.agg (List.replicate 32 .u8)],false,λ_=>True,[],[],[.agg MI z1,.bool z0]⟩⟩
def Bp:Cx:=F7 [(31,.one KC),(32,.one Cw),(34,.one DF),(35,.one Dy),(33,.one Gw),(24,.one JI),(36,.one G5),(38,.one EQ),(37,.one KE),(20,.one FP)] []
def Js:Az:=EU.sum Bp
theorem SH:Bv Tryz.prog GB GC 15 (.one Js):=Ac.fin hG (.cons (k:=31) rfl (YF hG) Tryz.call31 (λ_=>Eh _ _ _ _) (.cons (k:=32) rfl (IU hG) Tryz.call32 (λ_=>Eh _ _ _ _) (.cons (k:=34) rfl (G7 hG) Tryz.call34 (Ac.len _ _) (.cons (k:=35) rfl (Ib hG) Tryz.call35 (Ac.len _ _) (.cons (k:=33) rfl (Nl hG) Tryz.call33 (Ac.len _ _) (.cons (k:=24) rfl (Qe hG) Tryz.call24 (Ac.len _ _) (.cons (k:=36) rfl (PD hG) Tryz.call36 (Ac.len _ _) (.cons (k:=38) rfl (K9 hG) Tryz.call38 (Ac.len _ _) (.cons (k:=37) rfl (kK hG) Tryz.call37 (Ac.len _ _) (.cons (k:=20) rfl (NN hG) Tryz.call20 (Ac.len _ _) .nil)))))))))) .nil Tryz.func15 rfl rfl rfl (.inl rfl) (by kernel_rfl)
def Ka:Ac:=⟨6000,Ab Tryz.f23,Tryz.f23.ntmps,Tryz.f23.results.toList,[],⟨[.agg U8,.agg MI,.agg MI],false,λ_=>True,[],[],[.agg MI z1]⟩⟩
def FC:Cx:=F7 [(35,.one Dy),(32,.one Cw),(36,.one G5),(33,.one Gw)] []
def KZ:Az:=Ka.sum FC
theorem Ul:Bv Tryz.prog GB GC 23 (.one KZ):=Ac.fin hG (.cons (k:=35) rfl (Ib hG) Tryz.call35 (Ac.len _ _) (.cons (k:=32) rfl (IU hG) Tryz.call32 (λ_=>Eh _ _ _ _) (.cons (k:=36) rfl (PD hG) Tryz.call36 (Ac.len _ _) (.cons (k:=33) rfl (Nl hG) Tryz.call33 (Ac.len _ _) .nil)))) .nil Tryz.func23 rfl rfl rfl (.inl rfl) (by kernel_rfl)
def MU:Ac:=⟨6000,Ab Tryz.f22,Tryz.f22.ntmps,Tryz.f22.results.toList,[],⟨[.agg MI],false,λ_=>True,[],[],[.agg (List.replicate 32 .u8) z1]⟩⟩
def GN:Cx:=F7 [(38,.one EQ),(32,.one Cw),(41,.one Ia)] [(42,Nk Tryz.f42)]
def Zv:Az:=MU.sum GN
theorem YP:Bv Tryz.prog GB GC 22 (.one Zv):=Ac.fin hG (.cons (k:=38) rfl (K9 hG) Tryz.call38 (Ac.len _ _) (.cons (k:=32) rfl (IU hG) Tryz.call32 (λ_=>Eh _ _ _ _) (.cons (k:=41) rfl (Tj hG) Tryz.call41 (Ac.len _ _) .nil))) (.cons Tryz.func42 rfl Tryz.call42 .nil) Tryz.func22 rfl rfl rfl (.inl rfl) (by kernel_rfl)
end
end
section
open Go
def dH(T:Tb)(C:Cx)(s0:Az)(cA:List ResultVar)(k:Nat):Be->Bu->List Int
 | .leaf _ st,ρ=>AES C s0 cA k ρ st
 | .ep ds _ t,ρ=>dH T C s0 cA k t (Df T ρ ds)
 | .br x t f,ρ=>if x.den ρ=0 then dH T C s0 cA k f ρ else dH T C s0 cA k t ρ
 | .gr f ar t e,ρ=>match lk f T with
  |some fe=>cond (fe.j7 (ar.map (·.den ρ))) (dH T C s0 cA k t ρ) (dH T C s0 cA k e ρ)
  |none=>[]
 | .cN _ t,ρ=>dH T C s0 cA k t ρ
 | .bad _,_=>[]
theorem Re{C:Cx}{s0:Az}{cA:List ResultVar}{k:Nat}:∀ {t:Be} {ρ:Bu},WE C s0 cA k t ρ=dH C.T C s0 cA k t ρ
 | .leaf _ _,_=>rfl
 | .ep _ _ t,_=>Re (t:=t)
 | .br x t f,ρ=>by
  unfold WE dH;by_cases h:x.den ρ=0
  ·rw[if_pos h,if_pos h];exact Re (t:=f)
  ·rw[if_neg h,if_neg h];exact Re (t:=t)
 | .gr f ar t e,ρ=>by
  unfold WE dH;cases lk f C.T with
  |none=>rfl
  |some fe=>
   simp only;cases fe.j7 (ar.map (·.den ρ)) with
   |true=>exact Re (t:=t)
   |false=>exact Re (t:=e)
 | .cN _ t,_=>Re (t:=t)
 | .bad _,_=>rfl
def Ac.ie(i:Ac)(T:Tb)(C:Cx)(k:Nat)(ins:List (List Int)):List Int:=dH T C i.s0 i.cA k (i.tree C) (BK ins)
theorem Gn{i:Ac}{C:Cx}{k:Nat}{ins:List (List Int)}:i.raw C k ins=i.ie C.T C k ins:=by
 rw[Yf];exact Re
def sb(l:List Int)(o n:Nat):List Int:=(List.range n).map λi=>l.getD (o+i) 0
def Q1(x:Int):Int:=CU .eql (CU .rem (CU .shr x 0) 2) 1
section
variable(T:Tb)
def YE(a b:List Int):List Int:=gv T 32 0 [a,b]
def sPl(a b:List Int):List Int:=gv T 36 0 [a,b,gv T 35 0 []]
def sMi(a b:List Int):List Int:=gv T 33 0 [a,b,gv T 35 0 []]
def nN(n:Int):List Int:=gv T 34 0 [[n]]
def ADJ(a:List Int):List Int:=gv T 38 0 [a]
def sPw(a e:List Int):List Int:=gv T 50 0 [a,e]
def sOp(a:List Int):List Int:=gv T 20 0 [a]
def e1L:List Int:=[4294967294,4294967295,4294967295,4294967295,4294967295,4294967295,4294967295,268435455]
def e2L:List Int:=[4294967291,4294967295,4294967295,4294967295,4294967295,4294967295,4294967295,536870911]
def rtA(a:List Int):List Int:=sPw T a e1L
def rtB(a:List Int):List Int:=YE T (rtA T a) (sPw T (nN T 2) e2L)
def rtG(g:List Int->List Int)(a:List Int):List Int:=
 if KQ (KQ (YE T (rtA T a) (rtA T a) == a) == 0)=0 then(if Q1 ((rtA T a).getD 0 0)=0 then g (rtA T a) else g (sOp T (rtA T a)))
 else(if Q1 ((rtB T a).getD 0 0)=0 then g (rtB T a) else g (sOp T (rtB T a)))
def dcY(b:List Int):List Int:=gv T 31 0 [b]
def AP6(b:List Int):List Int:=YE T (dcY T b) (dcY T b)
def dcU(b:List Int):List Int:=sMi T (AP6 T b) (nN T 1)
def dcV(b:List Int):List Int:=sPl T (YE T (gv T 24 0 []) (AP6 T b)) (nN T 1)
def dcW(b:List Int):List Int:=YE T (dcU T b) (ADJ T (dcV T b))
def dcX(b:List Int):List Int:=gv T 37 0 [dcW T b]
def adZ(p q:List Int):List Int:=YE T (sb p 16 8) (sb q 16 8)
def adX(p q:List Int):List Int:=YE T (sb p 0 8) (sb q 0 8)
def adY(p q:List Int):List Int:=YE T (sb p 8 8) (sb q 8 8)
def adE(d p q:List Int):List Int:=YE T d (YE T (adX T p q) (adY T p q))
def adS(p q:List Int):List Int:=YE T (adZ T p q) (adZ T p q)
def adM(d p q:List Int):List Int:=sPl T (adS T p q) (adE T d p q)
def adL(d p q:List Int):List Int:=sMi T (adS T p q) (adE T d p q)
def adA(p q:List Int):List Int:=sPl T (YE T (sb p 0 8) (sb q 8 8)) (YE T (sb q 0 8) (sb p 8 8))
def enI(p:List Int):List Int:=ADJ T (sb p 16 8)
def enO(p:List Int):List Int:=gv T 41 0 [YE T (sb p 8 8) (enI T p)]
variable{T}
theorem mZ{a:List Int}:M0.ie T ES 0 [a]=sb (sPw T a (gv T 49 0 [gv T 35 0 [],nN T 2])) 0 8:=by kernel_rfl
theorem AAX:IB.ie T H9 0 []=sb (YE T (sMi T [0,0,0,0,0,0,0,0] (nN T 121665)) (ADJ T (nN T 121666))) 0 8:=by kernel_rfl
theorem AAs{a:List Int}:HV.ie T FO 0 [a]=rtG T (λl=>sb l 0 8) a:=by kernel_rfl
theorem ABC{a:List Int}:HV.ie T FO 1 [a]=rtG T (λl=>[KQ (YE T l l == a)]) a:=by kernel_rfl
theorem iW{b:List Int}:EU.ie T Bp 0 [b]=if Ak .geq .u8 (b.getD 31 0) 128=0 then sb (dcX T b) 0 8++(sb (dcY T b) 0 8++sb (nN T 1) 0 8) else sb (sOp T (dcX T b)) 0 8++(sb (dcY T b) 0 8++sb (nN T 1) 0 8):=by kernel_rfl
theorem jM{b:List Int}:EU.ie T Bp 1 [b]=if Ak .geq .u8 (b.getD 31 0) 128=0 then[(gv T 37 1 [dcW T b]).getD 0 0] else[(gv T 37 1 [dcW T b]).getD 0 0]:=by kernel_rfl
theorem AAo{d p q:List Int}:Ka.ie T FC 0 [d,p,q]=sb (YE T (adZ T p q) (YE T (adA T p q) (adL T d p q))) 0 8++(sb (YE T (adZ T p q) (YE T (sPl T (adX T p q) (adY T p q)) (adM T d p q))) 0 8++sb (YE T (adM T d p q) (adL T d p q)) 0 8):=by kernel_rfl
theorem p9{p:List Int}:MU.ie T GN 0 [p]=if Q1 ((YE T (sb p 0 8) (enI T p)).getD 0 0)=0 then sb (enO T p) 0 32 else sb (enO T p) 0 31 ++ [Ak .add .u8 ((enO T p).getD 31 0) 128]:=by kernel_rfl
end
end
section
open Go Ma
theorem oV{l:List Int}{n:Nat}(h:l.length=n):sb l 0 n=l:=by
 subst h;unfold sb;refine List.ext_getElem (by simp) λi h1 h2=>?_
 simp[List.getD,h2]
theorem sN(l:List Int)(o n:Nat):(sb l o n).length=n:=by simp[sb]
theorem AEb{x y z:List Int}{o n:Nat}(h1:x.length=o)(h2:y.length=n):sb (x++(y++z)) o n=y:=by
 subst h1;subst h2;unfold sb;refine List.ext_getElem (by simp) λi h1 h2=>?_
 simp[List.getD,fQ,gZ h2,h2]
theorem NF.len{l:List Int}{x:Fp}(h:NF l x):l.length=8:=N8.len h
theorem NF.sb{l:List Int}{x:Fp}(h:NF l x):NF (sb l 0 8) x:=by rw[oV h.len];exact h
theorem NF.fix{l:List Int}{x:Fp}(h:NF l x):NF (BF 8 l) x:=by rw[Ay h.len];exact h
theorem Ww(x:Fp):(x.val:Int)<Ux:=by
 have:=x.isLt;rw[AOw];omega
theorem APX:2*Ux<=pw 8:=by decide +kernel
theorem AAF{n:Int}(h0:0<=n)(h1:n<4294967296):((Jn n).val:Int)=n:=by
 rw[KX];have e:((Kk:Nat):Int)=Ux:=by decide +kernel
 exact uu h0 (by rw[e];unfold Ux;omega)
theorem ADQ:∀ {a b:List Int},a.length=b.length->dg a->dg b->nv a=nv b->a=b
 | [],[],_,_,_,_=>rfl
 |x::a,y::b,hl,ha,hb,h=>by
  obtain⟨x1,x2⟩:=ha.cons;obtain⟨y1,y2⟩:=hb.cons;simp only[nv] at h;have e:x=y:=by omega
  subst e;rw[ADQ (by simpa using hl) x2 y2 (by omega)]
 | [],_::_,h,_,_,_=>by simp at h
 |_::_,[],h,_,_,_=>by simp at h
theorem N8.eq_iff{a b:List Int}{m n:Int}(ha:N8 a m)(hb:N8 b n):(a == b)=decide (m=n):=by
 by_cases h:m=n
 ·subst h;rw[ADQ (by rw[ha.len,hb.len]) ha.dg hb.dg (by rw[ha.val,hb.val])];simp
 ·rw[decide_eq_false h];have:¬a=b:=λe=>h (by rw[<- ha.val, <- hb.val,e])
  simpa using this
theorem NF.eq_iff{a b:List Int}{x y:Fp}(ha:NF a x)(hb:NF b y):(a == b)=Yl x y:=by
 rw[N8.eq_iff ha hb];by_cases h:x=y
 ·subst h;rw[Ni.2 rfl];simp
 ·rw[bD h];exact decide_eq_false λe=>h (Fin.ext (by omega))
theorem AEN:Dy.pr 0= .l λa=>BF 8 (Ou.raw PE 0 a):=rfl
theorem AE4:DF.pr 0= .l λa=>BF 8 (Oj.raw Ow 0 a):=rfl
theorem zC:G5.pr 0= .l λa=>BF 8 (Jz.raw J7 0 a):=rfl
theorem ABi:Gw.pr 0= .l λa=>BF 8 (Mr.raw Mm 0 a):=rfl
theorem AGE:I9.pr 0= .l λa=>BF 8 (Lu.raw L6 0 a):=rfl
theorem AL2:FP.pr 0= .l λa=>BF 8 (JU.raw JY 0 a):=rfl
theorem ADw:KY.pr 0= .l λa=>BF 8 (Gu.raw GD 0 a):=rfl
theorem tu:EQ.pr 0= .l λa=>BF 8 (M0.raw ES 0 a):=rfl
theorem ADG:JI.pr 0= .l λa=>BF 8 (IB.raw H9 0 a):=rfl
theorem AFD:KE.pr 0= .l λa=>BF 8 (HV.raw FO 0 a):=rfl
theorem AFT:KE.pr 1= .i λa=>d1 (HV.raw FO 1 a):=rfl
section
variable{T:Tb}
theorem Sa{f:Nat}{s:Az}{G:List (List Int)->List Int}{ins:List (List Int)}{m:Int}(h:lk f T=some (.one s))(hp:s.pr 0= .l λa=>BF 8 (G a))(hn:N8 (G ins) m):N8 (gv T f 0 ins) m:=by
 rw[Bf h,hp];show N8 (BF 8 (G ins)) m;rw[Ay hn.len];exact hn
theorem aR(h:lk 35 T=some (.one Dy)):N8 (gv T 35 0 []) Ux:=Sa h AEN bP
theorem uC(h:lk 34 T=some (.one DF)){n:Int}(hn:0<=n/\n<4294967296):N8 (nN T n) n:=Sa h AE4 (mQ hn)
theorem VA(h:lk 34 T=some (.one DF)){n:Int}(hn:0<=n/\n<4294967296):NF (nN T n) (Jn n):=by
 unfold NF;rw[AAF hn.1 hn.2];exact uC h hn
theorem He(h:lk 32 T=some (.one Cw)){a b:List Int}{x y:Fp}(ha:NF a x)(hb:NF b y):NF (YE T a b) (x*y):=Yz h ha hb
theorem iC(h:lk 36 T=some (.one G5))(hp:lk 35 T=some (.one Dy)){a b:List Int}{x y:Fp}(ha:NF a x)(hb:NF b y):NF (sPl T a b) (x+y):=
 NF.of (Sa h zC (Yy ha hb (aR hp) (Ww x) (Ww y) APX)) (by rw[jQ,Xo,Xo])
theorem rT(h:lk 33 T=some (.one Gw))(hp:lk 35 T=some (.one Dy)){a b:List Int}{x y:Fp}(ha:NF a x)(hb:NF b y):NF (sMi T a b) (x-y):=
 NF.of (Sa h ABi (pu ha hb (aR hp) (Ww x) (Int.le_of_lt (Ww y)) (λe=>by have:=Ww y;omega) APX)) (by rw[iY,Xo,Xo])
theorem uQ(h:lk 20 T=some (.one FP)){a:List Int}{x:Fp}(ha:NF a x):NF (sOp T a) (-x):=
 NF.of (Sa h AL2 (nM ha (Ww x))) (by rw[AF7,Xo])
theorem uB(h:lk 50 T=some (.one KY)){a e:List Int}{x:Fp}{E:Nat}(ha:NF a x)(he:N8 e (E:Int)):NF (sPw T a e) (Ja x E):=Sa h ADw (AFR ha he)
theorem sU{a:List Int}{x:Fp}(ha:NF a x):NF (M0.raw ES 0 [a]) x⁻¹ := by
 rw[Gn,mZ,ALF];have h2:=uC (T:=ES.T) rfl (n:=2) (by decide);have hr:=Sa (T:=ES.T) (f:=49) (s:=I9) rfl AGE (xe (aR (T:=ES.T) rfl) h2 (by decide));have he:N8 (gv ES.T 49 0 [gv ES.T 35 0 [],nN ES.T 2]) ((eI:Nat):Int):=by
  have:Ux-2=((eI:Nat):Int):=by decide +kernel
  rw[<- this];exact hr
 exact(uB rfl ha he).sb
theorem YZ(h:lk 38 T=some (.one EQ)){a:List Int}{x:Fp}(ha:NF a x):NF (ADJ T a) x⁻¹ := Sa h tu (sU ha)
theorem ve:NF [0,0,0,0,0,0,0,0] (0:Fp):=by
 have z:(0:Int)<=0/\(0:Int)<4294967296:=by omega
 exact⟨rfl,.mk z (.mk z (.mk z (.mk z (.mk z (.mk z (.mk z (.mk z .nil))))))),rfl⟩
theorem ANs:(0-Jn 121665)*(Jn 121666)⁻¹ = dE:=by
 have h1:Jn 121666≠0:=by decide +kernel
 refine Ph h1 ?_;have h2:=VM h1;have h3:dE*Jn 121666=0-Jn 121665:=by decide +kernel
 rw[h3];generalize (Jn 121666)⁻¹ = u at *
 grind
theorem Wq:NF (IB.raw H9 0 []) dE:=by
 rw[Gn,AAX, <- ANs];exact(He rfl (rT rfl rfl ve (VA rfl (by decide))) (YZ rfl (VA rfl (by decide)))).sb
theorem lF(h:lk 24 T=some (.one JI)):NF (gv T 24 0 []) dE:=Sa h ADG Wq
theorem AM1{x:Int}(h:0<=x):Q1 x=KQ (decide (x%2=1)):=by
 unfold Q1;have e1:CU .shr x 0=x:=by
  show x.fdiv (2^(min (0:Int).toNat 64))=x;exact Int.fdiv_one x
 rw[e1];show KQ (x.tmod 2 == 1)=_;rw[Int.tmod_eq_emod_of_nonneg h];rfl
theorem AFe{l:List Int}{x:Fp}(h:NF l x):Q1 (l.getD 0 0)=KQ (decide (x.val%2=1)):=by
 rw[AM1 (AKM h.dg 0).1];have hv:=h.val
 match l,h.len with
 | [a,b,c,d,e,f,g,i],_=>
  simp only[nv] at hv;rw[Qx]
  congr 1
  refine decide_eq_decide.2 ?_;omega
def eQ:Nat:=7237005577332262213973186563042994240829374041602535252466099000494570602494
def eR:Nat:=14474011154664524427946373126085988481658748083205070504932198000989141204987
theorem AQ2:N8 e1L ((eQ:Nat):Int):=⟨rfl,Y8 rfl,by decide +kernel⟩
theorem ASc:N8 e2L ((eR:Nat):Int):=⟨rfl,Y8 rfl,by decide +kernel⟩
def iR:Fp:=Ja (Jn 2) eR
theorem ARm:iR*iR= -1:=by
 have h:iR=iE:=by
  apply Fin.ext;unfold iR;rw[ADs _ _ (by decide +kernel)];decide +kernel
 rw[h];exact AM7
def ZV(w:Fp):Fp:=if Ja w eQ*Ja w eQ=w then Ja w eQ else Ja w eQ*iR
def ko(w:Fp):Fp:=if(ZV w).val%2=1 then -ZV w else ZV w
theorem AFS{R:List Int->Prop}{g:List Int->List Int}(h1:lk 50 T=some (.one KY))(h2:lk 32 T=some (.one Cw))(h3:lk 34 T=some (.one DF))(h4:lk 20 T=some (.one FP)){a:List Int}{w:Fp}(ha:NF a w)(hg:∀l,NF l (ko w)->R (g l)):R (rtG T g a):=by
 have hA:NF (rtA T a) (Ja w eQ):=uB h1 ha AQ2;have hB:NF (rtB T a) (Ja w eQ*iR):=He h2 hA (uB h1 (VA h3 (by decide)) ASc);have hAA:=He h2 hA hA;have fin:∀l,NF l (ZV w)->R (if Q1 (l.getD 0 0)=0 then g l else g (sOp T l)):=λl hl=>by
  rw[AFe hl];by_cases ho:(ZV w).val%2=1
  ·rw[if_neg (λh=>Un.1 h ho)];refine hg _ ?_;unfold ko;rw[if_pos ho];exact uQ h4 hl
  ·rw[if_pos (Un.2 ho)];refine hg _ ?_;unfold ko;rw[if_neg ho];exact hl
 unfold rtG;rw[hAA.eq_iff ha];by_cases hq:Ja w eQ*Ja w eQ=w
 ·rw[Ni.2 hq,if_pos (by rfl)];refine fin _ ?_;unfold ZV;rw[if_pos hq];exact hA
 ·rw[bD hq,if_neg (by intro h;exact absurd h (by decide))];refine fin _ ?_;unfold ZV;rw[if_neg hq];exact hB
theorem AEy{a:List Int}{w:Fp}(ha:NF a w):NF (HV.raw FO 0 [a]) (ko w):=by
 rw[Gn,AAs];exact AFS (R:=λl=>NF l (ko w)) rfl rfl rfl rfl ha λl hl=>hl.sb
theorem AB3{a:List Int}{w:Fp}(ha:NF a w):HV.raw FO 1 [a]= [KQ (Yl (ko w*ko w) w)]:=by
 rw[Gn,ABC];refine AFS (T:=FO.T) (R:=λl=>l= [KQ (Yl (ko w*ko w) w)]) rfl rfl rfl rfl ha λl hl=>?_
 rw[(He (T:=FO.T) rfl hl hl).eq_iff ha]
theorem ABh(h:lk 37 T=some (.one KE)){a:List Int}{w:Fp}(ha:NF a w):NF (gv T 37 0 [a]) (ko w):=Sa h AFD (AEy ha)
theorem ACe(h:lk 37 T=some (.one KE)){a:List Int}{w:Fp}(ha:NF a w):gv T 37 1 [a]= [KQ (Yl (ko w*ko w) w)]:=by
 rw[Bf h,AFT];show[d1 (HV.raw FO 1 [a])]=_;rw[AB3 ha];rfl
end
theorem AEV{r:Fp}(h:r.val%2=1):(-r).val%2=0:=by
 have e: -r=0-r:=by grind
 rw[e];exact qW h
theorem ACi(w:Fp):(ko w).val%2=0:=by
 unfold ko;split
 ·rename_i h;exact AEV h
 ·omega
theorem AOU{w s:Fp}(h:s*s=w):ko w*ko w=w:=by
 have h1:ZV w*ZV w=w:=by
  unfold ZV;split
  ·rename_i hq;exact hq
  ·rename_i hq;have e:Ja w eQ*Ja w eQ=w*Ja s eH:=by
    rw[<- h,ADC];have e3:Ja s eH*(s*s)=Ja s eQ*Ja s eQ*(Ja s eQ*Ja s eQ):=by
     rw[<- LH, <- LH];have:s*s=Ja s 2:=by rw[IG,Oy]
     rw[this, <- LH]
     congr 1
    rw[<- e3];grind
   by_cases hs:s=0
   ·exfalso;apply hq;rw[e, <- h,hs];grind
   ·rcases chi hs with hc|hc
    ·exfalso;apply hq;rw[e,hc];grind
    ·have hi:=ARm;rw[hc] at e;generalize Ja w eQ=u at *
     generalize iR=i at *
     grind
 unfold ko;split
 ·generalize ZV w=u at *
  grind
 ·exact h1
theorem AAN{a b:Fp}(h:a*a=b*b)(ha:a.val%2=0)(hb:b.val%2=0):a=b:=by
 have h2:(a-b)*(a+b)=0:=by grind
 rcases Xm h2 with e|e
 ·grind
 ·have e2:a= -b:=by grind
  by_cases h0:b=0
  ·rw[e2,h0];grind
  ·exfalso;have e3:a.val+b.val=PP:=by
    have h4:=CV Fin.val e;rw[Fin.val_add] at h4;have h6:(0:Fp).val=0:=rfl;rw[h6] at h4;have hbp:0<b.val:=Nat.pos_of_ne_zero λe=>h0 (Fin.ext e)
    have:=a.isLt;have:=b.isLt;have hd:=Nat.div_add_mod (a.val+b.val) PP;rw[h4,QO] at hd;generalize (a.val+b.val)/PP=q at hd;generalize a.val=x at *
    generalize b.val=y at *
    have h9:PP*q<PP*2:=by omega
    have iu:q<2:=Nat.lt_of_mul_lt_mul_left h9
    match q,iu with
    |0,_=>rw[Nat.mul_zero] at hd;omega
    |1,_=>rw[Nat.mul_one] at hd;omega
   have:PP%2=1:=by decide +kernel
   omega
end
section
open Go Ma
def Pj(l:List Int)(P:Pt):Prop:=∃x y z X Y Z,l=x++(y++z)/\NF x X/\NF y Y/\NF z Z/\P2 X Y Z P
theorem vN{x y z:List Int}{X Y Z:Fp}(hx:NF x X)(hy:NF y Y)(hz:NF z Z):NF (sb (x++(y++z)) 0 8) X/\NF (sb (x++(y++z)) 8 8) Y/\NF (sb (x++(y++z)) 16 8) Z:=by
 have e1:sb (x++(y++z)) 0 8=x:=by
  have:=AEb (x:=[]) (y:=x) (z:=y++z) rfl hx.len;simpa using this
 have e2:sb (x++(y++z)) 8 8=y:=AEb hx.len hy.len;have e3:sb (x++(y++z)) 16 8=z:=by
  have:=AEb (x:=x++y) (y:=z) (z:=[]) (o:=16) (by rw[NC,hx.len,hy.len]) hz.len;rwa [RD,Yt] at this
 rw[e1,e2,e3];exact⟨hx,hy,hz⟩
theorem Pj.len{l:List Int}{P:Pt}(h:Pj l P):l.length=24:=by
 obtain⟨x,y,z,X,Y,Z,rfl,hx,hy,hz,_⟩:=h;rw[NC,NC,hx.len,hy.len,hz.len]
theorem ATb{z x D E:Fp}:z*(z*(x*D)*(z*z*E))=x*(z*z*D*(z*z*E)):=by grind
theorem AT9{z x D E:Fp}:z*(z*(x*E)*(z*z*D))=x*(z*z*D*(z*z*E)):=by grind
theorem AOi{X1 Y1 Z1 X2 Y2 Z2:Fp}{P Q:Pt}(h:P2 X1 Y1 Z1 P)(g:P2 X2 Y2 Z2 Q):
  P2 (Z1*Z2*((X1*Y2+X2*Y1)*(Z1*Z2*(Z1*Z2)-dE*(X1*X2*(Y1*Y2))))) (Z1*Z2*((X1*X2+Y1*Y2)*(Z1*Z2*(Z1*Z2)+dE*(X1*X2*(Y1*Y2)))))
   ((Z1*Z2*(Z1*Z2)+dE*(X1*X2*(Y1*Y2)))*(Z1*Z2*(Z1*Z2)-dE*(X1*X2*(Y1*Y2)))) (P.add Q):=by
 obtain⟨hz,hx,hy⟩:=h;obtain⟨gz,gx,gy⟩:=g;have d1:=dI Ds P.h Q.h;have d2:=aF Ds P.h Q.h;have ax:=AJy P Q;have ay:=AKr P Q;have hzz:Z1*Z2*(Z1*Z2)≠0:=EJ (EJ hz gz) (EJ hz gz);have e1:Z1*Z2*(Z1*Z2)+dE*(X1*X2*(Y1*Y2))=Z1*Z2*(Z1*Z2)*(1+dE*P.x*Q.x*P.y*Q.y):=by rw[hx,hy,gx,gy];grind
 have e2:Z1*Z2*(Z1*Z2)-dE*(X1*X2*(Y1*Y2))=Z1*Z2*(Z1*Z2)*(1-dE*P.x*Q.x*P.y*Q.y):=by rw[hx,hy,gx,gy];grind
 have e3:X1*Y2+X2*Y1=Z1*Z2*(P.x*Q.y+P.y*Q.x):=by rw[hx,hy,gx,gy];grind
 have e4:X1*X2+Y1*Y2=Z1*Z2*(P.y*Q.y+P.x*Q.x):=by rw[hx,hy,gx,gy];grind
 rw[e1,e2,e3,e4, <- ax, <- ay];generalize 1+dE*P.x*Q.x*P.y*Q.y=D1 at *
 generalize 1-dE*P.x*Q.x*P.y*Q.y=D2 at *
 generalize Z1*Z2=zz at *
 exact⟨EJ (EJ hzz d1) (EJ hzz d2),ATb,AT9⟩
theorem Zy{d p q:List Int}{P Q:Pt}(hd:NF d dE)(hp:Pj p P)(hq:Pj q Q):Pj (Ka.raw FC 0 [d,p,q]) (P.add Q):=by
 obtain⟨x,y,z,X,Y,Z,rfl,hx,hy,hz,h⟩:=hp;obtain⟨x',y',z',X',Y',Z',rfl,eg,Mn,hz',h'⟩:=hq;obtain⟨s1,s2,s3⟩:=vN hx hy hz;obtain⟨t1,t2,t3⟩:=vN eg Mn hz';rw[Gn,AAo];have T1:lk 32 FC.T=some (.one Cw):=rfl;have T2:lk 36 FC.T=some (.one G5):=rfl;have T3:lk 33 FC.T=some (.one Gw):=rfl;have T4:lk 35 FC.T=some (.one Dy):=rfl;generalize FC.T=T at *
 have hZ:=He T1 s3 t3;have hX:=He T1 s1 t1;have hY:=He T1 s2 t2;have hE:=He T1 hd (He T1 hX hY);have hS:=He T1 hZ hZ;have hM:=iC T2 T4 hS hE;have hL:=rT T3 T4 hS hE;have hA:=iC T2 T4 (He T1 s1 t2) (He T1 t1 s2);exact⟨_,_,_,_,_,_,rfl,(He T1 hZ (He T1 hA hL)).sb,(He T1 hZ (He T1 (iC T2 T4 hX hY) hM)).sb,(He T1 hM hL).sb,AOi h h'⟩
def cC:Nat->Nat->List Int
 |0,_=>[]
 |k+1,n=>((n%256:Nat):Int)::cC k (n/256)
theorem MO:∀(k n:Nat),(cC k n).length=k
 |0,_=>rfl
 |k+1,n=>by simp[cC,MO k]
theorem jA:∀ {l:List Int} {n:Nat},cI l->Cm l=(n:Int)->l=cC l.length n
 | [],_,_,_=>rfl
 |x::l,n,h,e=>by
  obtain⟨h1,h2⟩:=h.cons;simp only[Cm] at e;have hb:=NT h2;have:=jA (l:=l) (n:=n/256) h2 (by omega);rw[NY,cC, <- this]
  congr 1
  omega
theorem S6.cC{l:List Int}{n:Nat}(h:S6 l (n:Int)):l=cC 32 n:=by
 have:=jA h.cI h.val;rwa [h.len] at this
def S9(P:Pt):List Int:=if P.x.val%2=1 then sb (cC 32 P.y.val) 0 31 ++ [(cC 32 P.y.val).getD 31 0+128] else cC 32 P.y.val
theorem Vk:∀ {k n i:Nat},i<k->(cC k n).getD i 0=((n/256^i%256:Nat):Int)
 |0,_,_,h=>by omega
 |k+1,n,0,_=>by simp[cC]
 |k+1,n,i+1,h=>by
  rw[cC,aa,Vk (by omega),Nat.div_div_eq_div_mul,kw,qI]
theorem ACJ(y:Fp):(cC 32 y.val).getD 31 0<128/\0<=(cC 32 y.val).getD 31 0:=by
 rw[Vk (by omega)];have hy:=y.isLt;have h1:y.val/256^31<128:=by
  rw[Nat.div_lt_iff_lt_mul (P1 (by decide))];exact qm hy (by decide +kernel)
 omega
section
variable{T:Tb}
theorem ANQ:Ia.pr 0= .l λa=>BF 32 (Jd.raw Jc 0 a):=rfl
theorem ADi(h:lk 41 T=some (.one Ia)){a:List Int}{m:Int}(ha:N8 a m):S6 (gv T 41 0 [a]) m:=by
 have:=AAW ha;rw[Bf h,ANQ];show S6 (BF 32 (Jd.raw Jc 0 [a])) m;rw[Ay this.len];exact this
end
theorem AMQ{x:Int}(h:0<=x/\x<128):Ak .add .u8 x 128=x+128:=by
 show IntKind.u8.wrap (x+128)=_;rw[uF];omega
theorem ALg{X Y Z:Fp}{P:Pt}(h:P2 X Y Z P):Y*Z⁻¹ = P.y/\X*Z⁻¹ = P.x:=by
 obtain⟨hz,hx,hy⟩:=h;have:=VM hz;rw[hx,hy];generalize Z⁻¹ = u at *
 exact⟨by grind,by grind⟩
theorem tY{p:List Int}{P:Pt}(hp:Pj p P):MU.raw GN 0 [p]=S9 P:=by
 obtain⟨x,y,z,X,Y,Z,rfl,hx,hy,hz,h⟩:=hp;obtain⟨s1,s2,s3⟩:=vN hx hy hz;rw[Gn,p9];have T1:lk 32 GN.T=some (.one Cw):=rfl;have T2:lk 38 GN.T=some (.one EQ):=rfl;have T3:lk 41 GN.T=some (.one Ia):=rfl;generalize GN.T=T at *
 have hI:=YZ T2 s3;have hY:=He T1 s2 hI;have hX:=He T1 s1 hI;obtain⟨f1,f2⟩:=ALg h;rw[f1] at hY;rw[f2] at hX;have hO:enO T (x++(y++z))=cC 32 P.y.val:=(ADi T3 hY).cC;have eg:Q1 ((YE T (sb (x++(y++z)) 0 8) (enI T (x++(y++z)))).getD 0 0)=_:=AFe hX;rw[eg,hO];unfold S9;by_cases ho:P.x.val%2=1
 ·obtain⟨l1,l2⟩:=ACJ P.y;rw[if_neg (λh=>Un.1 h ho),if_pos ho,AMQ ⟨l2,l1⟩]
 ·rw[if_pos (Un.2 ho),if_neg ho,oV (MO _ _)]
def yB(b:List Int):Fp:=Jn (Cm (HQ b))
def B8(y:Fp):Fp:=ko (uY y*(vY y)⁻¹)
theorem ADP(y:Fp):vY y≠0:=λh=>by
 unfold vY at h;have hi:=AM7;by_cases h0:y=0
 ·rw[h0] at h;exact absurd (show(1:Fp)=0 by grind) (by decide +kernel)
 ·refine Ds.ns (iE*y⁻¹) (tZ h0 ?_);generalize iE=i at *
  grind
theorem AFq(y:Fp):B8 y*B8 y=uY y*(vY y)⁻¹ ↔ ∃x,Md dE x y:=by
 have hv:=VM (ADP y);constructor
 ·intro h;refine⟨B8 y,Qb.1 ?_⟩;rw[h];generalize (vY y)⁻¹ = u at *
  grind
 ·intro⟨x,hx⟩;refine AOU (s:=x) ?_;have:=Qb.2 hx;generalize (vY y)⁻¹ = u at *
  grind
theorem APk{y:Fp}(h:∃x,Md dE x y):Md dE (B8 y) y:=by
 have hv:=VM (ADP y);have h1:=(AFq y).2 h;refine Qb.1 ?_;rw[h1];generalize (vY y)⁻¹ = u at *
 grind
theorem AEr{y:Fp}(h:∃x,Md dE x y):B8 y=xY y:=by
 have h1:=Qb.2 (APk h);have h2:=Qb.2 (WY h);refine AAN ?_ (ACi _) (YR (uY y) (vY y)).2.2;refine Ph (ADP y) ?_;generalize B8 y=a at *
 generalize xY y=b at *
 grind
structure AIc (b l:List Int):Prop where
 ex:∃x y z,l=x++(y++z)/\NF x (if 128<=b.getD 31 0 then -B8 (yB b) else B8 (yB b))/\NF y (yB b)/\NF z 1
theorem ASU:KC.pr 0= .l λa=>BF 8 (GQ.fW Ew 0 a):=rfl
theorem APW{T:Tb}(h:lk 31 T=some (.one KC)){b:List Int}(hl:b.length=32)(h8:cI b):NF (dcY T b) (yB b):=NF.of (Sa h ASU (vU hl h8)) rfl
theorem AUE{x:Int}:Ak .geq .u8 x 128=KQ (decide (128<=x)):=rfl
theorem aX{b:List Int}(hl:b.length=32)(h8:cI b):AIc b (EU.raw Bp 0 [b])/\EU.raw Bp 1 [b]= [KQ (Yl (B8 (yB b)*B8 (yB b)) (uY (yB b)*(vY (yB b))⁻¹))]:=by
 rw[Gn,Gn,iW,jM];have T1:lk 32 Bp.T=some (.one Cw):=rfl;have T2:lk 38 Bp.T=some (.one EQ):=rfl;have T3:lk 31 Bp.T=some (.one KC):=rfl;have T4:lk 34 Bp.T=some (.one DF):=rfl;have T5:lk 35 Bp.T=some (.one Dy):=rfl;have T6:lk 33 Bp.T=some (.one Gw):=rfl;have T7:lk 36 Bp.T=some (.one G5):=rfl;have T8:lk 24 Bp.T=some (.one JI):=rfl;have T9:lk 37 Bp.T=some (.one KE):=rfl;have Ta:lk 20 Bp.T=some (.one FP):=rfl;generalize Bp.T=T at *
 have hY:=APW T3 hl h8;have hYY:=He T1 hY hY;have h1:NF (nN T 1) (1:Fp):=by
  have:=VA T4 (n:=1) (by decide);rwa [P8] at this
 have hU:=rT T6 T5 hYY h1;have hV:=iC T7 T5 (He T1 (lF T8) hYY) h1;have eV:dE*(yB b*yB b)+1=vY (yB b):=by unfold vY;grind
 rw[eV] at hV;have hW:NF (dcW T b) (uY (yB b)*(vY (yB b))⁻¹):=He T1 hU (YZ T2 hV);have hX:NF (dcX T b) (B8 (yB b)):=ABh T9 hW;rw[ACe T9 hW,Qx,AUE];refine⟨⟨?_⟩,by split<;>rfl⟩
 by_cases hb:128<=b.getD 31 0
 ·rw[if_neg (λh=>Un.1 h hb),if_pos hb];exact⟨_,_,_,rfl,(uQ Ta hX).sb,hY.sb,h1.sb⟩
 ·rw[if_pos (Un.2 hb),if_neg hb];exact⟨_,_,_,rfl,hX.sb,hY.sb,h1.sb⟩
def cO(b:List Int)(h:∃x,Md dE x (yB b)):Pt:=if 128<=b.getD 31 0 then(⟨xY (yB b),yB b,WY h⟩:Pt).neg else⟨xY (yB b),yB b,WY h⟩
theorem ADv{x y:Fp}{P:Pt}(hx:x=P.x)(hy:y=P.y):P2 x y 1 P:=⟨by decide +kernel,by rw[hx];grind,by rw[hy];grind⟩
theorem AIc.pr{b l:List Int}(h:AIc b l)(hc:∃x,Md dE x (yB b)):Pj l (cO b hc):=by
 obtain⟨x,y,z,rfl,hx,hy,hz⟩:=h.ex;rw[AEr hc] at hx;refine⟨x,y,z,_,_,_,rfl,hx,hy,hz,ADv ?_ ?_⟩
 ·unfold cO;split<;>rfl
 ·unfold cO;split<;>rfl
end
end Go.Proofs.YtkbfdaoohhmgoaaGreatDoor
