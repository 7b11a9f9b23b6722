/- The executor over this program: equality of the reference's numbers. Contracts of the reference: inverses, the number of the curve, roots, points. The reference's functions over what they call, with an open table: inverse, curve, root, decoded, added, encoded. The reference's field: inverses, the number of the curve, roots. The reference's points: sums, bytes, and what bytes decode to. -/
import Derived.Test.YtloibefkijfdlaaGreatDoorDa
import Derived.Test.YtloibefkijfdlaaGreatDoorMa
import Derived.Test.YtloibefkijfdlaaGreatDoorNc
import Derived.Test.YtloibefkijfdlaaGreatDoorPt3
namespace Go.Proofs.YtloibefkijfdlaaGreatDoor
open Go
theorem eqarr {P:Program} {t u n:Nat} {k:IntKind} (hu:P.underlying t=some (.array n u)) (hu2:P.underlying u=some (.int k)) (hp:P.plainKey u=true) (hsz:∀ w:World,(sizeOf u).run P w= .ok 1 w)
 (xs ys:List Int) (hx:xs.length=n) (hy:ys.length=n) (d:Nat) (w:World):
   (Op.equalIn (d+1+1) t (.agg (xs.map (Value.int k)).toArray) (.agg (ys.map (Value.int k)).toArray)).run P w= .ok ((List.range n).all fun i=>xs.getD i 0 == ys.getD i 0) w:=by
 rw[Op.equalIn]
 simp only[Sem.run_bind,run_underlying hu,Result.andThen_ok,hsz,Nat.mul_one]
 have hI:∀ (a b:Int) (w:World),(Op.equalIn (d+1) u (.int k a) (.int k b)).run P w= .ok (a == b) w:=fun a b w=>by
  rw[Op.equalIn]; simp[run_underlying hu2]
 have hpart:∀ (zs:List Int) (i:Nat) (w:World),i<zs.length→(part u (zs.map (Value.int k)).toArray i).run P w= .ok (.int k (zs.getD i 0)) w:=fun zs i w h=>
  run_part_plain w hp (by simp[List.getD,h])
 have loop:∀ (m:List Nat),(∀ i∈m,i<n)→
   (forIn m ((none:Option Bool),()) fun (i:Nat) __s=>do
        let __do_lift ← part u (List.map (Value.int k) xs).toArray i
        let __do_lift_1 ← part u (List.map (Value.int k) ys).toArray i
        let __do_lift ← Op.equalIn (d+1) u __do_lift __do_lift_1
        if (!__do_lift)=true then pure (ForInStep.done (some false,()))
         else pure (ForInStep.yield (none,()))).run P w= .ok (if (m.all fun i=>xs.getD i 0 == ys.getD i 0) then none else some false,()) w:=by
  intro m
  induction m with
  |nil=>intro _; simp
  | cons i m ih=>
   intro h1
   have g1:=h1 i lmS
   rw[List.forIn_cons]
   simp only[Sem.run_bind,hpart xs _ w (by omega:i<xs.length),hpart ys _ w (by omega:i<ys.length),Result.andThen_ok,hI,List.all_cons]
   rcases Bool.eq_false_or_eq_true (xs.getD i 0 == ys.getD i 0) with hb|hb
   ·simp only[hb,Bool.not_true,Bool.false_eq_true,if_false,Sem.run_pure,Result.andThen_ok,Bool.true_and]
    exact ih (fun f hf=>h1 f (lmM _ hf))
   ·simp only[hb,Bool.not_false,if_true,Sem.run_pure,Result.andThen_ok,Bool.false_and,Bool.false_eq_true,if_false]
 have hr:List.range' 0 n=List.range n:=(List.range_eq_range').symm
 simp only[Std.Legacy.Range.forIn_eq_forIn_range',Std.Legacy.Range.size,Nat.sub_zero,Nat.add_sub_cancel,Nat.div_one,hr]
 rw[loop (List.range n) fun i hi=>List.mem_range.1 hi]
 simp only[Result.andThen_ok]
 split<;>rename_i h
 ·split at h
  ·cases h
  ·cases h; rename_i h2; simp only[Sem.run_pure]; simp at h2; congr 1; simpa using h2
 ·split at h
  ·rename_i h2; simp only[Sem.run_pure]; rw[h2]
  ·cases h
def eqTab2:List (Nat×List IntKind):= [(52,List.replicate 8 .u64)]
theorem eqTab2_ok:∀ t ks,lk t eqTab2=some ks→∀ xs ys:List Int,AllR ks xs→AllR ks ys→∀ (op:BinOp) (x y:Operand) (w:World),
  (eqGuard op t x y (.agg (intsV ks xs).toArray) (.agg (intsV ks ys).toArray)).run Tryz.prog w= .ok () w∧(Op.equal t (.agg (intsV ks xs).toArray) (.agg (intsV ks ys).toArray)).run Tryz.prog w= .ok (xs == ys) w:=by
 intro t ks h xs ys hx hy op x y w
 simp only[eqTab2,lk] at h
 cases hb:Nat.beq 52 t with
 |false=>rw[hb] at h; cases h
 |true=>
 rw[hb,cond_true,osE] at h
 have:=nbE hb
 subst this; subst h
 have h5:=hx.1; have h6:=hy.1
 simp only[List.length_replicate] at h5 h6
 have hprog:∀ w:World,(program).run Tryz.prog w= .ok Tryz.prog w:=fun _=>rfl
 constructor
 ·have hg:Tryz.prog.eqGuardType Tryz.prog.depth 52=false:=by kernel_rfl
  cases op<;>simp[eqGuard,hg,hprog]
 ·have hu:Tryz.prog.underlying 52=some (.array 8 50):=by kernel_rfl
  have hu2:Tryz.prog.underlying 50=some (.int .u64):=by kernel_rfl
  have hpk:Tryz.prog.plainKey 50=true:=by kernel_rfl
  have:=eqarr hu hu2 hpk (fun w=>by simp[go_sem]) xs ys h5 h6 9998 w
  rw[intsV_rep _ _ _ h5,intsV_rep _ _ _ h6]
  refine this.trans ?_
  rw[← all_range (h5.trans h6.symm),h5]
def mkC2(T:Tb)(L:List (Nat×IF)):Cx:= { mkC T L with eqs:=eqTab2 }
section
variable{GB:Nat}{GC:Nat→Nat→Option Value}{ad:Nat→Nat×Nat}
theorem mkC2_ok(hG:GOk GB GC ad){T:Tb}(hT:TOk GB GC T){L:List (Nat×IF)}(hL:IlOk Tryz.prog L):CxOk Tryz.prog (mkC2 T L) GB GC where
 ok B S I sn σ0 hB:= { (mkC_ok hG hT hL).ok B S I sn σ0 hB with eq:=fun t ks h xs ys hx hy op x y w=>eqTab2_ok t ks h xs ys hx hy op x y w }
 il:=hL
end
end Go.Proofs.YtloibefkijfdlaaGreatDoor

namespace Go.Proofs.YtloibefkijfdlaaGreatDoor
open Go
def U24:List IntKind:=List.replicate 24 .u64
theorem LenOk_np{s:FSum}(h:LenOk s):LenOk { s with hp:=false }:=h
section
variable{GB:Nat}{GC:Nat→Nat→Option Value}{ad:Nat→Nat×Nat}(hG:GOk GB GC ad)
include hG
noncomputable def i_spec_inverse:FnI:=⟨6000,bodyOf Tryz.f65,Tryz.f65.ntmps,Tryz.f65.results.toList,[],⟨[.agg U8],false,fun _=>True,[],[],[.agg U8 z1]⟩⟩
noncomputable def C_spec_inverse:Cx:=mkC [(68,.one s_spec_small),(79,.one s_spec_prime),(86,.one s_spec_rest),(85,.one s_spec_power)] []
noncomputable def s_spec_inverse:FSum:=i_spec_inverse.sum C_spec_inverse
theorem ok_spec_inverse:FEOk Tryz.prog GB GC 65 (.one s_spec_inverse):=FnI.fin hG (.cons (k:=68) rfl (ok_spec_small hG) Tryz.call68 (FnI.len _ _) (.cons (k:=79) rfl (ok_spec_prime hG) Tryz.call79 (FnI.len _ _) (.cons (k:=86) rfl (ok_spec_rest hG) Tryz.call86 (FnI.len _ _) (.cons (k:=85) rfl (ok_spec_power hG) Tryz.call85 (fun _=>LenOk_np (FnI.lenH _ _ _ true)) .nil)))) .nil Tryz.func65 rfl rfl rfl (.inl rfl) (by kernel_rfl)
noncomputable def i_spec_curve:FnI:=⟨6000,bodyOf Tryz.f57,Tryz.f57.ntmps,Tryz.f57.results.toList,[],⟨[],false,fun _=>True,[],[],[.agg U8 z1]⟩⟩
noncomputable def C_spec_curve:Cx:=mkC [(68,.one s_spec_small),(79,.one s_spec_prime),(78,.one s_spec_minus),(65,.one s_spec_inverse),(66,.one s_spec_times)] []
noncomputable def s_spec_curve:FSum:=i_spec_curve.sum C_spec_curve
theorem ok_spec_curve:FEOk Tryz.prog GB GC 57 (.one s_spec_curve):=FnI.fin hG (.cons (k:=68) rfl (ok_spec_small hG) Tryz.call68 (FnI.len _ _) (.cons (k:=79) rfl (ok_spec_prime hG) Tryz.call79 (FnI.len _ _) (.cons (k:=78) rfl (ok_spec_minus hG) Tryz.call78 (FnI.len _ _) (.cons (k:=65) rfl (ok_spec_inverse hG) Tryz.call65 (FnI.len _ _) (.cons (k:=66) rfl (ok_spec_times hG) Tryz.call66 (fun _=>LenOk_auto _ _ _ _) .nil))))) .nil Tryz.func57 rfl rfl rfl (.inl rfl) (by kernel_rfl)
noncomputable def i_spec_root:FnI:=⟨6000,bodyOf Tryz.f80,Tryz.f80.ntmps,Tryz.f80.results.toList,[],⟨[.agg U8],false,fun _=>True,[],[],[.agg U8 z1,.bool z0]⟩⟩
noncomputable def C_spec_root:Cx:=mkC2 [(85,.one s_spec_power),(66,.one s_spec_times),(68,.one s_spec_small),(55,.one s_spec_opposite)] [(67,ilF Tryz.f67)]
noncomputable def s_spec_root:FSum:=i_spec_root.sum C_spec_root
omit hG in
theorem chk_spec_root:(i_spec_root.chk C_spec_root&&noOb (i_spec_root.tree C_spec_root))=true:=by kernel_rfl
theorem ok_spec_root:FEOk Tryz.prog GB GC 80 (.one s_spec_root):=have h:=Bool.and_eq_true_iff.1 chk_spec_root
 FnI.ok (mkC2_ok hG (.cons (k:=85) rfl (ok_spec_power hG) Tryz.call85 (fun _=>LenOk_np (FnI.lenH _ _ _ true)) (.cons (k:=66) rfl (ok_spec_times hG) Tryz.call66 (fun _=>LenOk_auto _ _ _ _) (.cons (k:=68) rfl (ok_spec_small hG) Tryz.call68 (FnI.len _ _) (.cons (k:=55) rfl (ok_spec_opposite hG) Tryz.call55 (FnI.len _ _) .nil)))) (.cons Tryz.func67 rfl Tryz.call67 .nil)) Tryz.func80 rfl rfl rfl rfl (gls_of hG (.inl rfl)).1 (gls_of hG (.inl rfl)).2 h.1 h.2
noncomputable def i_spec_decoded:FnI:=⟨6000,bodyOf Tryz.f52,Tryz.f52.ntmps,Tryz.f52.results.toList,[],⟨[.agg (List.replicate 32 .u8)],false,fun _=>True,[],[],[.agg U24 z1,.bool z0]⟩⟩
noncomputable def C_spec_decoded:Cx:=mkC [(77,.one s_spec_element),(66,.one s_spec_times),(68,.one s_spec_small),(79,.one s_spec_prime),(78,.one s_spec_minus),(57,.one s_spec_curve),(71,.one s_spec_plus),(65,.one s_spec_inverse),(80,.one s_spec_root),(55,.one s_spec_opposite)] []
noncomputable def s_spec_decoded:FSum:=i_spec_decoded.sum C_spec_decoded
theorem ok_spec_decoded:FEOk Tryz.prog GB GC 52 (.one s_spec_decoded):=FnI.fin hG (.cons (k:=77) rfl (ok_spec_element hG) Tryz.call77 (fun _=>LenOk_auto _ _ _ _) (.cons (k:=66) rfl (ok_spec_times hG) Tryz.call66 (fun _=>LenOk_auto _ _ _ _) (.cons (k:=68) rfl (ok_spec_small hG) Tryz.call68 (FnI.len _ _) (.cons (k:=79) rfl (ok_spec_prime hG) Tryz.call79 (FnI.len _ _) (.cons (k:=78) rfl (ok_spec_minus hG) Tryz.call78 (FnI.len _ _) (.cons (k:=57) rfl (ok_spec_curve hG) Tryz.call57 (FnI.len _ _) (.cons (k:=71) rfl (ok_spec_plus hG) Tryz.call71 (FnI.len _ _) (.cons (k:=65) rfl (ok_spec_inverse hG) Tryz.call65 (FnI.len _ _) (.cons (k:=80) rfl (ok_spec_root hG) Tryz.call80 (FnI.len _ _) (.cons (k:=55) rfl (ok_spec_opposite hG) Tryz.call55 (FnI.len _ _) .nil)))))))))) .nil Tryz.func52 rfl rfl rfl (.inl rfl) (by kernel_rfl)
noncomputable def i_spec_added:FnI:=⟨6000,bodyOf Tryz.f56,Tryz.f56.ntmps,Tryz.f56.results.toList,[],⟨[.agg U8,.agg U24,.agg U24],false,fun _=>True,[],[],[.agg U24 z1]⟩⟩
noncomputable def C_spec_added:Cx:=mkC [(79,.one s_spec_prime),(66,.one s_spec_times),(71,.one s_spec_plus),(78,.one s_spec_minus)] []
noncomputable def s_spec_added:FSum:=i_spec_added.sum C_spec_added
theorem ok_spec_added:FEOk Tryz.prog GB GC 56 (.one s_spec_added):=FnI.fin hG (.cons (k:=79) rfl (ok_spec_prime hG) Tryz.call79 (FnI.len _ _) (.cons (k:=66) rfl (ok_spec_times hG) Tryz.call66 (fun _=>LenOk_auto _ _ _ _) (.cons (k:=71) rfl (ok_spec_plus hG) Tryz.call71 (FnI.len _ _) (.cons (k:=78) rfl (ok_spec_minus hG) Tryz.call78 (FnI.len _ _) .nil)))) .nil Tryz.func56 rfl rfl rfl (.inl rfl) (by kernel_rfl)
noncomputable def i_spec_encoded:FnI:=⟨6000,bodyOf Tryz.f35,Tryz.f35.ntmps,Tryz.f35.results.toList,[],⟨[.agg U24],false,fun _=>True,[],[],[.agg (List.replicate 32 .u8) z1]⟩⟩
noncomputable def C_spec_encoded:Cx:=mkC [(65,.one s_spec_inverse),(66,.one s_spec_times),(45,.one s_spec_octets)] [(67,ilF Tryz.f67)]
noncomputable def s_spec_encoded:FSum:=i_spec_encoded.sum C_spec_encoded
theorem ok_spec_encoded:FEOk Tryz.prog GB GC 35 (.one s_spec_encoded):=FnI.fin hG (.cons (k:=65) rfl (ok_spec_inverse hG) Tryz.call65 (FnI.len _ _) (.cons (k:=66) rfl (ok_spec_times hG) Tryz.call66 (fun _=>LenOk_auto _ _ _ _) (.cons (k:=45) rfl (ok_spec_octets hG) Tryz.call45 (FnI.len _ _) .nil))) (.cons Tryz.func67 rfl Tryz.call67 .nil) Tryz.func35 rfl rfl rfl (.inl rfl) (by kernel_rfl)
end
end Go.Proofs.YtloibefkijfdlaaGreatDoor

namespace Go.Proofs.YtloibefkijfdlaaGreatDoor
open Go
def evXT(T:Tb)(C:Cx)(s0:FSum)(rvs:List ResultVar)(k:Nat):Tree→Env→List Int
 | .leaf _ st,ρ=>leafV C s0 rvs k ρ st
 | .evs ds _ t,ρ=>evXT T C s0 rvs k t (upds T ρ ds)
 | .br x t f,ρ=>if x.den ρ=0 then evXT T C s0 rvs k f ρ else evXT T C s0 rvs k t ρ
 | .brc f ar t e,ρ=>match lk f T with
  |some fe=>cond (fe.cnd (ar.map (·.den ρ))) (evXT T C s0 rvs k t ρ) (evXT T C s0 rvs k e ρ)
  |none=> []
 | .chk _ t,ρ=>evXT T C s0 rvs k t ρ
 | .bad _,_=> []
theorem evXT_eq{C:Cx}{s0:FSum}{rvs:List ResultVar}{k:Nat}:∀ {t:Tree} {ρ:Env},evXt C s0 rvs k t ρ=evXT C.T C s0 rvs k t ρ
 | .leaf _ _,_=>rfl
 | .evs _ _ t,_=>evXT_eq (t:=t)
 | .br x t f,ρ=>by
  unfold evXt evXT
  by_cases h:x.den ρ=0
  ·rw[if_pos h,if_pos h]
   exact evXT_eq (t:=f)
  ·rw[if_neg h,if_neg h]
   exact evXT_eq (t:=t)
 | .brc f ar t e,ρ=>by
  unfold evXt evXT
  cases lk f C.T with
  |none=>rfl
  |some fe=>
   simp only
   cases fe.cnd (ar.map (·.den ρ)) with
   |true=>exact evXT_eq (t:=t)
   |false=>exact evXT_eq (t:=e)
 | .chk _ t,_=>evXT_eq (t:=t)
 | .bad _,_=>rfl
def FnI.valT(i:FnI)(T:Tb)(C:Cx)(k:Nat)(ins:List (List Int)):List Int:=evXT T C i.s0 i.rvs k (i.tree C) (insE ins)
theorem raw_valT{i:FnI}{C:Cx}{k:Nat}{ins:List (List Int)}:i.raw C k ins=i.valT C.T C k ins:=by
 rw[raw_evX]
 exact evXT_eq
def sb(l:List Int)(o n:Nat):List Int:=(List.range n).map fun i=>l.getD (o+i) 0
def odO(x:Int):Int:=u64o .eql (u64o .rem (u64o .shr x 0) 2) 1
section
variable(T:Tb)
def sTm(a b:List Int):List Int:=gv T 66 0 [a,b]
def sPl(a b:List Int):List Int:=gv T 71 0 [a,b,gv T 79 0 []]
def sMi(a b:List Int):List Int:=gv T 78 0 [a,b,gv T 79 0 []]
def sSm(n:Int):List Int:=gv T 68 0 [[n]]
def sInv(a:List Int):List Int:=gv T 65 0 [a]
def sPw(a e:List Int):List Int:=gv T 85 0 [a,e]
def sOp(a:List Int):List Int:=gv T 55 0 [a]
def e1L:List Int:= [4294967294,4294967295,4294967295,4294967295,4294967295,4294967295,4294967295,268435455]
def e2L:List Int:= [4294967291,4294967295,4294967295,4294967295,4294967295,4294967295,4294967295,536870911]
def rtA(a:List Int):List Int:=sPw T a e1L
def rtB(a:List Int):List Int:=sTm T (rtA T a) (sPw T (sSm T 2) e2L)
def rtG(g:List Int→List Int)(a:List Int):List Int:=
 if b01 (b01 (sTm T (rtA T a) (rtA T a) == a) == 0)=0 then (if odO ((rtA T a).getD 0 0)=0 then g (rtA T a) else g (sOp T (rtA T a)))
 else (if odO ((rtB T a).getD 0 0)=0 then g (rtB T a) else g (sOp T (rtB T a)))
def dcY(b:List Int):List Int:=gv T 77 0 [b]
def dcYY(b:List Int):List Int:=sTm T (dcY T b) (dcY T b)
def dcU(b:List Int):List Int:=sMi T (dcYY T b) (sSm T 1)
def dcV(b:List Int):List Int:=sPl T (sTm T (gv T 57 0 []) (dcYY T b)) (sSm T 1)
def dcW(b:List Int):List Int:=sTm T (dcU T b) (sInv T (dcV T b))
def dcX(b:List Int):List Int:=gv T 80 0 [dcW T b]
def adZ(p q:List Int):List Int:=sTm T (sb p 16 8) (sb q 16 8)
def adX(p q:List Int):List Int:=sTm T (sb p 0 8) (sb q 0 8)
def adY(p q:List Int):List Int:=sTm T (sb p 8 8) (sb q 8 8)
def adE(d p q:List Int):List Int:=sTm T d (sTm T (adX T p q) (adY T p q))
def adS(p q:List Int):List Int:=sTm T (adZ T p q) (adZ T p q)
def adM(d p q:List Int):List Int:=sPl T (adS T p q) (adE T d p q)
def adL(d p q:List Int):List Int:=sMi T (adS T p q) (adE T d p q)
def adA(p q:List Int):List Int:=sPl T (sTm T (sb p 0 8) (sb q 8 8)) (sTm T (sb q 0 8) (sb p 8 8))
def enI(p:List Int):List Int:=sInv T (sb p 16 8)
def enO(p:List Int):List Int:=gv T 45 0 [sTm T (sb p 8 8) (enI T p)]
variable{T}
theorem raw_inverse{a:List Int}:i_spec_inverse.valT T C_spec_inverse 0 [a]=sb (sPw T a (gv T 86 0 [gv T 79 0 [],sSm T 2])) 0 8:=by kernel_rfl
theorem raw_curve:i_spec_curve.valT T C_spec_curve 0 []=sb (sTm T (sMi T [0,0,0,0,0,0,0,0] (sSm T 121665)) (sInv T (sSm T 121666))) 0 8:=by kernel_rfl
theorem raw_root0{a:List Int}:i_spec_root.valT T C_spec_root 0 [a]=rtG T (fun l=>sb l 0 8) a:=by kernel_rfl
theorem raw_root1{a:List Int}:i_spec_root.valT T C_spec_root 1 [a]=rtG T (fun l=> [b01 (sTm T l l == a)]) a:=by kernel_rfl
theorem raw_decoded0{b:List Int}:i_spec_decoded.valT T C_spec_decoded 0 [b]=if binD .geq .u8 (b.getD 31 0) 128=0 then sb (dcX T b) 0 8++(sb (dcY T b) 0 8++sb (sSm T 1) 0 8) else sb (sOp T (dcX T b)) 0 8++(sb (dcY T b) 0 8++sb (sSm T 1) 0 8):=by kernel_rfl
theorem raw_decoded1{b:List Int}:i_spec_decoded.valT T C_spec_decoded 1 [b]=if binD .geq .u8 (b.getD 31 0) 128=0 then [(gv T 80 1 [dcW T b]).getD 0 0] else [(gv T 80 1 [dcW T b]).getD 0 0]:=by kernel_rfl
theorem raw_added{d p q:List Int}:i_spec_added.valT T C_spec_added 0 [d,p,q]=sb (sTm T (adZ T p q) (sTm T (adA T p q) (adL T d p q))) 0 8++(sb (sTm T (adZ T p q) (sTm T (sPl T (adX T p q) (adY T p q)) (adM T d p q))) 0 8++sb (sTm T (adM T d p q) (adL T d p q)) 0 8):=by kernel_rfl
theorem raw_encoded{p:List Int}:i_spec_encoded.valT T C_spec_encoded 0 [p]=if odO ((sTm T (sb p 0 8) (enI T p)).getD 0 0)=0 then sb (enO T p) 0 32 else sb (enO T p) 0 31 ++ [binD .add .u8 ((enO T p).getD 31 0) 128]:=by kernel_rfl
end
end Go.Proofs.YtloibefkijfdlaaGreatDoor

namespace Go.Proofs.YtloibefkijfdlaaGreatDoor
open Go Ma
theorem sb_id{l:List Int}{n:Nat}(h:l.length=n):sb l 0 n=l:=by
 subst h
 unfold sb
 refine List.ext_getElem (by simp) fun i h1 h2=> ?_
 simp[List.getD,h2]
theorem sb_len(l:List Int)(o n:Nat):(sb l o n).length=n:=by simp[sb]
theorem sb_at{x y z:List Int}{o n:Nat}(h1:x.length=o)(h2:y.length=n):sb (x++(y++z)) o n=y:=by
 subst h1; subst h2
 unfold sb
 refine List.ext_getElem (by simp) fun i h1 h2=> ?_
 simp[List.getD,List.getElem?_append_right,List.getElem?_append_left h2,h2]
theorem NF.len{l:List Int}{x:Fp}(h:NF l x):l.length=8:=N8.len h
theorem NF.sb{l:List Int}{x:Fp}(h:NF l x):NF (sb l 0 8) x:=by rw[sb_id h.len]; exact h
theorem NF.fix{l:List Int}{x:Fp}(h:NF l x):NF (fixL 8 l) x:=by rw[fixL_id h.len]; exact h
theorem val_lt(x:Fp):(x.val:Int)<spP:=by
 have:=x.isLt
 rw[spP_eq]
 omega
theorem spP2:2*spP≤pw 8:=by decide +kernel
theorem fpI_small{n:Int}(h0:0≤n)(h1:n<4294967296):((fpI n).val:Int)=n:=by
 rw[fpI_val]
 have e:((P25519:Nat):Int)=spP:=by decide +kernel
 exact Int.emod_eq_of_lt h0 (by rw[e]; unfold spP; omega)
theorem nv_inj:∀ {a b:List Int},a.length=b.length→dg a→dg b→nv a=nv b→a=b
 | [],[],_,_,_,_=>rfl
 |x::a,y::b,hl,ha,hb,h=>by
  obtain⟨x1,x2⟩:=ha.cons
  obtain⟨y1,y2⟩:=hb.cons
  simp only[nv] at h
  have e:x=y:=by omega
  subst e
  rw[nv_inj (by simpa using hl) x2 y2 (by omega)]
 | [],_::_,h,_,_,_=>by simp at h
 |_::_,[],h,_,_,_=>by simp at h
theorem N8.eq_iff{a b:List Int}{m n:Int}(ha:N8 a m)(hb:N8 b n):(a == b)=decide (m=n):=by
 by_cases h:m=n
 ·subst h
  rw[nv_inj (by rw[ha.len,hb.len]) ha.dg hb.dg (by rw[ha.val,hb.val])]
  simp
 ·rw[decide_eq_false h]
  have:¬ a=b:=fun e=>h (by rw[← ha.val, ← hb.val,e])
  simpa using this
theorem NF.eq_iff{a b:List Int}{x y:Fp}(ha:NF a x)(hb:NF b y):(a == b)=feq x y:=by
 rw[N8.eq_iff ha hb]
 by_cases h:x=y
 ·subst h
  rw[feq_iff.2 rfl]; simp
 ·rw[feq_ne h]
  exact decide_eq_false fun e=>h (Fin.ext (by omega))
theorem pr_prime:s_spec_prime.pr 0= .l fun a=>fixL 8 (i_spec_prime.raw C_spec_prime 0 a):=rfl
theorem pr_small:s_spec_small.pr 0= .l fun a=>fixL 8 (i_spec_small.raw C_spec_small 0 a):=rfl
theorem pr_plus:s_spec_plus.pr 0= .l fun a=>fixL 8 (i_spec_plus.raw C_spec_plus 0 a):=rfl
theorem pr_minus:s_spec_minus.pr 0= .l fun a=>fixL 8 (i_spec_minus.raw C_spec_minus 0 a):=rfl
theorem pr_rest:s_spec_rest.pr 0= .l fun a=>fixL 8 (i_spec_rest.raw C_spec_rest 0 a):=rfl
theorem pr_opp:s_spec_opposite.pr 0= .l fun a=>fixL 8 (i_spec_opposite.raw C_spec_opposite 0 a):=rfl
theorem pr_power:s_spec_power.pr 0= .l fun a=>fixL 8 (i_spec_power.raw C_spec_power 0 a):=rfl
theorem pr_inverse:s_spec_inverse.pr 0= .l fun a=>fixL 8 (i_spec_inverse.raw C_spec_inverse 0 a):=rfl
theorem pr_curve:s_spec_curve.pr 0= .l fun a=>fixL 8 (i_spec_curve.raw C_spec_curve 0 a):=rfl
theorem pr_root0:s_spec_root.pr 0= .l fun a=>fixL 8 (i_spec_root.raw C_spec_root 0 a):=rfl
theorem pr_root1:s_spec_root.pr 1= .i fun a=>d1 (i_spec_root.raw C_spec_root 1 a):=rfl
section
variable{T:Tb}
theorem gv_n8{f:Nat}{s:FSum}{G:List (List Int)→List Int}{ins:List (List Int)}{m:Int}(h:lk f T=some (.one s))(hp:s.pr 0= .l fun a=>fixL 8 (G a))(hn:N8 (G ins) m):N8 (gv T f 0 ins) m:=by
 rw[gv_one h,hp]
 show N8 (fixL 8 (G ins)) m
 rw[fixL_id hn.len]
 exact hn
theorem prime_gv(h:lk 79 T=some (.one s_spec_prime)):N8 (gv T 79 0 []) spP:=gv_n8 h pr_prime prime_n8
theorem sSm_n8(h:lk 68 T=some (.one s_spec_small)){n:Int}(hn:0≤n∧n<4294967296):N8 (sSm T n) n:=gv_n8 h pr_small (small_n8 hn)
theorem sSm_nf(h:lk 68 T=some (.one s_spec_small)){n:Int}(hn:0≤n∧n<4294967296):NF (sSm T n) (fpI n):=by
 unfold NF
 rw[fpI_small hn.1 hn.2]
 exact sSm_n8 h hn
theorem sTm_nf(h:lk 66 T=some (.one s_spec_times)){a b:List Int}{x y:Fp}(ha:NF a x)(hb:NF b y):NF (sTm T a b) (x*y):=gv_times h ha hb
theorem sPl_nf(h:lk 71 T=some (.one s_spec_plus))(hp:lk 79 T=some (.one s_spec_prime)){a b:List Int}{x y:Fp}(ha:NF a x)(hb:NF b y):NF (sPl T a b) (x+y):=
 NF.of (gv_n8 h pr_plus (plus_n8 ha hb (prime_gv hp) (val_lt x) (val_lt y) spP2)) (by rw[fpI_add,fpI_v,fpI_v])
theorem sMi_nf(h:lk 78 T=some (.one s_spec_minus))(hp:lk 79 T=some (.one s_spec_prime)){a b:List Int}{x y:Fp}(ha:NF a x)(hb:NF b y):NF (sMi T a b) (x-y):=
 NF.of (gv_n8 h pr_minus (minus_n8 ha hb (prime_gv hp) (val_lt x) (Int.le_of_lt (val_lt y)) (fun e=>by have:=val_lt y; omega) spP2)) (by rw[fpI_sub,fpI_v,fpI_v])
theorem sOp_nf(h:lk 55 T=some (.one s_spec_opposite)){a:List Int}{x:Fp}(ha:NF a x):NF (sOp T a) (-x):=
 NF.of (gv_n8 h pr_opp (opposite_n8 ha (val_lt x))) (by rw[fpI_neg,fpI_v])
theorem sPw_nf(h:lk 85 T=some (.one s_spec_power)){a e:List Int}{x:Fp}{E:Nat}(ha:NF a x)(he:N8 e (E:Int)):NF (sPw T a e) (fpw x E):=gv_n8 h pr_power (power_nf ha he)
theorem inverse_nf{a:List Int}{x:Fp}(ha:NF a x):NF (i_spec_inverse.raw C_spec_inverse 0 [a]) x⁻¹ := by
 rw[raw_valT,raw_inverse,inv_fp]
 have h2:=sSm_n8 (T:=C_spec_inverse.T) rfl (n:=2) (by decide)
 have hr:=gv_n8 (T:=C_spec_inverse.T) (f:=86) (s:=s_spec_rest) rfl pr_rest (rest_n8 (prime_gv (T:=C_spec_inverse.T) rfl) h2 (by decide))
 have he:N8 (gv C_spec_inverse.T 86 0 [gv C_spec_inverse.T 79 0 [],sSm C_spec_inverse.T 2]) ((eI:Nat):Int):=by
  have:spP-2=((eI:Nat):Int):=by decide +kernel
  rw[← this]; exact hr
 exact (sPw_nf rfl ha he).sb
theorem sInv_nf(h:lk 65 T=some (.one s_spec_inverse)){a:List Int}{x:Fp}(ha:NF a x):NF (sInv T a) x⁻¹ := gv_n8 h pr_inverse (inverse_nf ha)
theorem zero_nf:NF [0,0,0,0,0,0,0,0] (0:Fp):=by
 have z:(0:Int)≤0∧(0:Int)<4294967296:=by omega
 exact⟨rfl,.mk z (.mk z (.mk z (.mk z (.mk z (.mk z (.mk z (.mk z .nil))))))),rfl⟩
theorem d_frac:(0-fpI 121665)*(fpI 121666)⁻¹ = dE:=by
 have h1:fpI 121666≠0:=by decide +kernel
 refine cancel h1 ?_
 have h2:=fp_mic h1
 have h3:dE*fpI 121666=0-fpI 121665:=by decide +kernel
 rw[h3]
 generalize (fpI 121666)⁻¹ = u at *
 grind
theorem curve_nf:NF (i_spec_curve.raw C_spec_curve 0 []) dE:=by
 rw[raw_valT,raw_curve, ← d_frac]
 exact (sTm_nf rfl (sMi_nf rfl rfl zero_nf (sSm_nf rfl (by decide))) (sInv_nf rfl (sSm_nf rfl (by decide)))).sb
theorem curve_gv(h:lk 57 T=some (.one s_spec_curve)):NF (gv T 57 0 []) dE:=gv_n8 h pr_curve curve_nf
theorem odO_eq{x:Int}(h:0≤x):odO x=b01 (decide (x%2=1)):=by
 unfold odO
 have e1:u64o .shr x 0=x:=by
  show x.fdiv (2^(min (0:Int).toNat 64))=x
  exact Int.fdiv_one x
 rw[e1]
 show b01 (x.tmod 2 == 1)=_
 rw[Int.tmod_eq_emod_of_nonneg h]
 rfl
theorem odd_nf{l:List Int}{x:Fp}(h:NF l x):odO (l.getD 0 0)=b01 (decide (x.val%2=1)):=by
 rw[odO_eq (dg_at h.dg 0).1]
 have hv:=h.val
 match l,h.len with
 | [a,b,c,d,e,f,g,i],_=>
  simp only[nv] at hv
  rw[List.getD_cons_zero]
  congr 1
  refine decide_eq_decide.2 ?_
  omega
def eQ:Nat:=7237005577332262213973186563042994240829374041602535252466099000494570602494
def eR:Nat:=14474011154664524427946373126085988481658748083205070504932198000989141204987
theorem e1_n8:N8 e1L ((eQ:Nat):Int):=⟨rfl,dgB_ok rfl,by decide +kernel⟩
theorem e2_n8:N8 e2L ((eR:Nat):Int):=⟨rfl,dgB_ok rfl,by decide +kernel⟩
def iR:Fp:=fpw (fpI 2) eR
theorem iR_sq:iR*iR= -1:=by
 have h:iR=iE:=by
  apply Fin.ext
  unfold iR
  rw[fpw_ev _ _ (by decide +kernel)]
  decide +kernel
 rw[h]
 exact i_sq
def rtV1(w:Fp):Fp:=if fpw w eQ*fpw w eQ=w then fpw w eQ else fpw w eQ*iR
def rtV(w:Fp):Fp:=if (rtV1 w).val%2=1 then -rtV1 w else rtV1 w
theorem rt_gen{R:List Int→Prop}{g:List Int→List Int}(h1:lk 85 T=some (.one s_spec_power))(h2:lk 66 T=some (.one s_spec_times))(h3:lk 68 T=some (.one s_spec_small))(h4:lk 55 T=some (.one s_spec_opposite)){a:List Int}{w:Fp}(ha:NF a w)(hg:∀ l,NF l (rtV w)→R (g l)):R (rtG T g a):=by
 have hA:NF (rtA T a) (fpw w eQ):=sPw_nf h1 ha e1_n8
 have hB:NF (rtB T a) (fpw w eQ*iR):=sTm_nf h2 hA (sPw_nf h1 (sSm_nf h3 (by decide)) e2_n8)
 have hAA:=sTm_nf h2 hA hA
 have fin:∀ l,NF l (rtV1 w)→R (if odO (l.getD 0 0)=0 then g l else g (sOp T l)):=fun l hl=>by
  rw[odd_nf hl]
  by_cases ho:(rtV1 w).val%2=1
  ·rw[if_neg (fun h=>b01_0.1 h ho)]
   refine hg _ ?_
   unfold rtV
   rw[if_pos ho]
   exact sOp_nf h4 hl
  ·rw[if_pos (b01_0.2 ho)]
   refine hg _ ?_
   unfold rtV
   rw[if_neg ho]
   exact hl
 unfold rtG
 rw[hAA.eq_iff ha]
 by_cases hq:fpw w eQ*fpw w eQ=w
 ·rw[feq_iff.2 hq,if_pos (by rfl)]
  refine fin _ ?_
  unfold rtV1
  rw[if_pos hq]
  exact hA
 ·rw[feq_ne hq,if_neg (by intro h; exact absurd h (by decide))]
  refine fin _ ?_
  unfold rtV1
  rw[if_neg hq]
  exact hB
theorem root0_nf{a:List Int}{w:Fp}(ha:NF a w):NF (i_spec_root.raw C_spec_root 0 [a]) (rtV w):=by
 rw[raw_valT,raw_root0]
 exact rt_gen (R:=fun l=>NF l (rtV w)) rfl rfl rfl rfl ha fun l hl=>hl.sb
theorem root1_eq{a:List Int}{w:Fp}(ha:NF a w):i_spec_root.raw C_spec_root 1 [a]= [b01 (feq (rtV w*rtV w) w)]:=by
 rw[raw_valT,raw_root1]
 refine rt_gen (T:=C_spec_root.T) (R:=fun l=>l= [b01 (feq (rtV w*rtV w) w)]) rfl rfl rfl rfl ha fun l hl=> ?_
 rw[(sTm_nf (T:=C_spec_root.T) rfl hl hl).eq_iff ha]
theorem root0_gv(h:lk 80 T=some (.one s_spec_root)){a:List Int}{w:Fp}(ha:NF a w):NF (gv T 80 0 [a]) (rtV w):=gv_n8 h pr_root0 (root0_nf ha)
theorem root1_gv(h:lk 80 T=some (.one s_spec_root)){a:List Int}{w:Fp}(ha:NF a w):gv T 80 1 [a]= [b01 (feq (rtV w*rtV w) w)]:=by
 rw[gv_one h,pr_root1]
 show [d1 (i_spec_root.raw C_spec_root 1 [a])]=_
 rw[root1_eq ha]
 rfl
end
theorem even_neg{r:Fp}(h:r.val%2=1):(-r).val%2=0:=by
 have e: -r=0-r:=by grind
 rw[e]
 exact neg_even h
theorem rtV_even(w:Fp):(rtV w).val%2=0:=by
 unfold rtV
 split
 ·rename_i h; exact even_neg h
 ·omega
theorem rtV_sq{w s:Fp}(h:s*s=w):rtV w*rtV w=w:=by
 have h1:rtV1 w*rtV1 w=w:=by
  unfold rtV1
  split
  ·rename_i hq; exact hq
  ·rename_i hq
   have e:fpw w eQ*fpw w eQ=w*fpw s eH:=by
    rw[← h,fpw_sq]
    have e3:fpw s eH*(s*s)=fpw s eQ*fpw s eQ*(fpw s eQ*fpw s eQ):=by
     rw[← fpw_add, ← fpw_add]
     have:s*s=fpw s 2:=by rw[fpw_succ,fpw_one]
     rw[this, ← fpw_add]
     congr 1
    rw[← e3]
    grind
   by_cases hs:s=0
   ·exfalso
    apply hq
    rw[e, ← h,hs]
    grind
   ·rcases chi hs with hc|hc
    ·exfalso
     apply hq
     rw[e,hc]
     grind
    ·have hi:=iR_sq
     rw[hc] at e
     generalize fpw w eQ=u at *
     generalize iR=i at *
     grind
 unfold rtV
 split
 ·generalize rtV1 w=u at *
  grind
 ·exact h1
theorem even_root{a b:Fp}(h:a*a=b*b)(ha:a.val%2=0)(hb:b.val%2=0):a=b:=by
 have h2:(a-b)*(a+b)=0:=by grind
 rcases mul_zero_or h2 with e|e
 ·grind
 ·have e2:a= -b:=by grind
  by_cases h0:b=0
  ·rw[e2,h0]; grind
  ·exfalso
   have e3:a.val+b.val=PP:=by
    have h4:=congrArg Fin.val e
    rw[Fin.val_add] at h4
    have h6:(0:Fp).val=0:=rfl
    rw[h6] at h4
    have hbp:0<b.val:=Nat.pos_of_ne_zero fun e=>h0 (Fin.ext e)
    have:=a.isLt
    have:=b.isLt
    have hd:=Nat.div_add_mod (a.val+b.val) PP
    rw[h4,Nat.add_zero] at hd
    generalize (a.val+b.val)/PP=q at hd
    generalize a.val=x at *
    generalize b.val=y at *
    have h9:PP*q<PP*2:=by omega
    have h10:q<2:=Nat.lt_of_mul_lt_mul_left h9
    match q,h10 with
    |0,_=>rw[Nat.mul_zero] at hd; omega
    |1,_=>rw[Nat.mul_one] at hd; omega
   have:PP%2=1:=by decide +kernel
   omega
end Go.Proofs.YtloibefkijfdlaaGreatDoor

namespace Go.Proofs.YtloibefkijfdlaaGreatDoor
open Go Ma
def Pj(l:List Int)(P:Pt):Prop:=∃ x y z X Y Z,l=x++(y++z)∧NF x X∧NF y Y∧NF z Z∧P2 X Y Z P
theorem nf3_sb{x y z:List Int}{X Y Z:Fp}(hx:NF x X)(hy:NF y Y)(hz:NF z Z):NF (sb (x++(y++z)) 0 8) X∧NF (sb (x++(y++z)) 8 8) Y∧NF (sb (x++(y++z)) 16 8) Z:=by
 have e1:sb (x++(y++z)) 0 8=x:=by
  have:=sb_at (x:= []) (y:=x) (z:=y++z) rfl hx.len
  simpa using this
 have e2:sb (x++(y++z)) 8 8=y:=sb_at hx.len hy.len
 have e3:sb (x++(y++z)) 16 8=z:=by
  have:=sb_at (x:=x++y) (y:=z) (z:= []) (o:=16) (by rw[List.length_append,hx.len,hy.len]) hz.len
  rwa [List.append_nil,List.append_assoc] at this
 rw[e1,e2,e3]
 exact⟨hx,hy,hz⟩
theorem Pj.len{l:List Int}{P:Pt}(h:Pj l P):l.length=24:=by
 obtain⟨x,y,z,X,Y,Z,rfl,hx,hy,hz,_⟩:=h
 rw[List.length_append,List.length_append,hx.len,hy.len,hz.len]
theorem rid1{z x D E:Fp}:z*(z*(x*D)*(z*z*E))=x*(z*z*D*(z*z*E)):=by grind
theorem rid2{z x D E:Fp}:z*(z*(x*E)*(z*z*D))=x*(z*z*D*(z*z*E)):=by grind
theorem f_addR{X1 Y1 Z1 X2 Y2 Z2:Fp}{P Q:Pt}(h:P2 X1 Y1 Z1 P)(g:P2 X2 Y2 Z2 Q):
  P2 (Z1*Z2*((X1*Y2+X2*Y1)*(Z1*Z2*(Z1*Z2)-dE*(X1*X2*(Y1*Y2))))) (Z1*Z2*((X1*X2+Y1*Y2)*(Z1*Z2*(Z1*Z2)+dE*(X1*X2*(Y1*Y2)))))
   ((Z1*Z2*(Z1*Z2)+dE*(X1*X2*(Y1*Y2)))*(Z1*Z2*(Z1*Z2)-dE*(X1*X2*(Y1*Y2)))) (P.add Q):=by
 obtain⟨hz,hx,hy⟩:=h
 obtain⟨gz,gx,gy⟩:=g
 have d1:=den1 edE P.h Q.h
 have d2:=den2 edE P.h Q.h
 have ax:=add_x P Q
 have ay:=add_y P Q
 have hzz:Z1*Z2*(Z1*Z2)≠0:=mul_ne (mul_ne hz gz) (mul_ne hz gz)
 have e1:Z1*Z2*(Z1*Z2)+dE*(X1*X2*(Y1*Y2))=Z1*Z2*(Z1*Z2)*(1+dE*P.x*Q.x*P.y*Q.y):=by rw[hx,hy,gx,gy]; grind
 have e2:Z1*Z2*(Z1*Z2)-dE*(X1*X2*(Y1*Y2))=Z1*Z2*(Z1*Z2)*(1-dE*P.x*Q.x*P.y*Q.y):=by rw[hx,hy,gx,gy]; grind
 have e3:X1*Y2+X2*Y1=Z1*Z2*(P.x*Q.y+P.y*Q.x):=by rw[hx,hy,gx,gy]; grind
 have e4:X1*X2+Y1*Y2=Z1*Z2*(P.y*Q.y+P.x*Q.x):=by rw[hx,hy,gx,gy]; grind
 rw[e1,e2,e3,e4, ← ax, ← ay]
 generalize 1+dE*P.x*Q.x*P.y*Q.y=D1 at *
 generalize 1-dE*P.x*Q.x*P.y*Q.y=D2 at *
 generalize Z1*Z2=zz at *
 exact⟨mul_ne (mul_ne hzz d1) (mul_ne hzz d2),rid1,rid2⟩
theorem added_pr{d p q:List Int}{P Q:Pt}(hd:NF d dE)(hp:Pj p P)(hq:Pj q Q):Pj (i_spec_added.raw C_spec_added 0 [d,p,q]) (P.add Q):=by
 obtain⟨x,y,z,X,Y,Z,rfl,hx,hy,hz,h⟩:=hp
 obtain⟨x',y',z',X',Y',Z',rfl,hx',hy',hz',h'⟩:=hq
 obtain⟨s1,s2,s3⟩:=nf3_sb hx hy hz
 obtain⟨t1,t2,t3⟩:=nf3_sb hx' hy' hz'
 rw[raw_valT,raw_added]
 have T1:lk 66 C_spec_added.T=some (.one s_spec_times):=rfl
 have T2:lk 71 C_spec_added.T=some (.one s_spec_plus):=rfl
 have T3:lk 78 C_spec_added.T=some (.one s_spec_minus):=rfl
 have T4:lk 79 C_spec_added.T=some (.one s_spec_prime):=rfl
 generalize C_spec_added.T=T at *
 have hZ:=sTm_nf T1 s3 t3
 have hX:=sTm_nf T1 s1 t1
 have hY:=sTm_nf T1 s2 t2
 have hE:=sTm_nf T1 hd (sTm_nf T1 hX hY)
 have hS:=sTm_nf T1 hZ hZ
 have hM:=sPl_nf T2 T4 hS hE
 have hL:=sMi_nf T3 T4 hS hE
 have hA:=sPl_nf T2 T4 (sTm_nf T1 s1 t2) (sTm_nf T1 t1 s2)
 exact⟨_,_,_,_,_,_,rfl,(sTm_nf T1 hZ (sTm_nf T1 hA hL)).sb,(sTm_nf T1 hZ (sTm_nf T1 (sPl_nf T2 T4 hX hY) hM)).sb,(sTm_nf T1 hM hL).sb,f_addR h h'⟩
def octV:Nat→Nat→List Int
 |0,_=> []
 |k+1,n=>((n%256:Nat):Int)::octV k (n/256)
theorem octV_len:∀ (k n:Nat),(octV k n).length=k
 |0,_=>rfl
 |k+1,n=>by simp[octV,octV_len k]
theorem octV_ok:∀ {l:List Int} {n:Nat},by8 l→leV l=(n:Int)→l=octV l.length n
 | [],_,_,_=>rfl
 |x::l,n,h,e=>by
  obtain⟨h1,h2⟩:=h.cons
  simp only[leV] at e
  have hb:=leV_bd h2
  have:=octV_ok (l:=l) (n:=n/256) h2 (by omega)
  rw[List.length_cons,octV, ← this]
  congr 1
  omega
theorem B32.octV{l:List Int}{n:Nat}(h:B32 l (n:Int)):l=octV 32 n:=by
 have:=octV_ok h.by8 h.val
 rwa [h.len] at this
def encP(P:Pt):List Int:=if P.x.val%2=1 then sb (octV 32 P.y.val) 0 31 ++ [(octV 32 P.y.val).getD 31 0+128] else octV 32 P.y.val
theorem octV_get:∀ {k n i:Nat},i<k→(octV k n).getD i 0=((n/256^i%256:Nat):Int)
 |0,_,_,h=>by omega
 |k+1,n,0,_=>by simp[octV]
 |k+1,n,i+1,h=>by
  rw[octV,List.getD_cons_succ,octV_get (by omega),Nat.div_div_eq_div_mul,Nat.pow_succ,Nat.mul_comm]
theorem hi_lt(y:Fp):(octV 32 y.val).getD 31 0<128∧0≤(octV 32 y.val).getD 31 0:=by
 rw[octV_get (by omega)]
 have hy:=y.isLt
 have h1:y.val/256^31<128:=by
  rw[Nat.div_lt_iff_lt_mul (Nat.pow_pos (by decide))]
  exact Nat.lt_of_lt_of_le hy (by decide +kernel)
 omega
section
variable{T:Tb}
theorem pr_oct:s_spec_octets.pr 0= .l fun a=>fixL 32 (i_spec_octets.raw C_spec_octets 0 a):=rfl
theorem oct_gv(h:lk 45 T=some (.one s_spec_octets)){a:List Int}{m:Int}(ha:N8 a m):B32 (gv T 45 0 [a]) m:=by
 have:=octets_n8 ha
 rw[gv_one h,pr_oct]
 show B32 (fixL 32 (i_spec_octets.raw C_spec_octets 0 [a])) m
 rw[fixL_id this.len]
 exact this
end
theorem u8_add{x:Int}(h:0≤x∧x<128):binD .add .u8 x 128=x+128:=by
 show IntKind.u8.wrap (x+128)=_
 rw[u8_w]
 omega
theorem frac_y{X Y Z:Fp}{P:Pt}(h:P2 X Y Z P):Y*Z⁻¹ = P.y∧X*Z⁻¹ = P.x:=by
 obtain⟨hz,hx,hy⟩:=h
 have:=fp_mic hz
 rw[hx,hy]
 generalize Z⁻¹ = u at *
 exact⟨by grind,by grind⟩
theorem encoded_eq{p:List Int}{P:Pt}(hp:Pj p P):i_spec_encoded.raw C_spec_encoded 0 [p]=encP P:=by
 obtain⟨x,y,z,X,Y,Z,rfl,hx,hy,hz,h⟩:=hp
 obtain⟨s1,s2,s3⟩:=nf3_sb hx hy hz
 rw[raw_valT,raw_encoded]
 have T1:lk 66 C_spec_encoded.T=some (.one s_spec_times):=rfl
 have T2:lk 65 C_spec_encoded.T=some (.one s_spec_inverse):=rfl
 have T3:lk 45 C_spec_encoded.T=some (.one s_spec_octets):=rfl
 generalize C_spec_encoded.T=T at *
 have hI:=sInv_nf T2 s3
 have hY:=sTm_nf T1 s2 hI
 have hX:=sTm_nf T1 s1 hI
 obtain⟨f1,f2⟩:=frac_y h
 rw[f1] at hY
 rw[f2] at hX
 have hO:enO T (x++(y++z))=octV 32 P.y.val:=(oct_gv T3 hY).octV
 have hx':odO ((sTm T (sb (x++(y++z)) 0 8) (enI T (x++(y++z)))).getD 0 0)=_:=odd_nf hX
 rw[hx',hO]
 unfold encP
 by_cases ho:P.x.val%2=1
 ·obtain⟨l1,l2⟩:=hi_lt P.y
  rw[if_neg (fun h=>b01_0.1 h ho),if_pos ho,u8_add ⟨l2,l1⟩]
 ·rw[if_pos (b01_0.2 ho),if_neg ho,sb_id (octV_len _ _)]
def yB(b:List Int):Fp:=fpI (leV (elB b))
def xSr(y:Fp):Fp:=rtV (uY y*(vY y)⁻¹)
theorem vY_ne(y:Fp):vY y≠0:=fun h=>by
 unfold vY at h
 have hi:=i_sq
 by_cases h0:y=0
 ·rw[h0] at h
  exact absurd (show (1:Fp)=0 by grind) (by decide +kernel)
 ·refine edE.ns (iE*y⁻¹) (sq_div h0 ?_)
  generalize iE=i at *
  grind
theorem xS_iff(y:Fp):xSr y*xSr y=uY y*(vY y)⁻¹ ↔ ∃ x,OnC dE x y:=by
 have hv:=fp_mic (vY_ne y)
 constructor
 ·intro h
  refine⟨xSr y,onC_uv.1 ?_⟩
  rw[h]
  generalize (vY y)⁻¹ = u at *
  grind
 ·intro ⟨x,hx⟩
  refine rtV_sq (s:=x) ?_
  have:=onC_uv.2 hx
  generalize (vY y)⁻¹ = u at *
  grind
theorem xS_on{y:Fp}(h:∃ x,OnC dE x y):OnC dE (xSr y) y:=by
 have hv:=fp_mic (vY_ne y)
 have h1:=(xS_iff y).2 h
 refine onC_uv.1 ?_
 rw[h1]
 generalize (vY y)⁻¹ = u at *
 grind
theorem xSr_eq{y:Fp}(h:∃ x,OnC dE x y):xSr y=xY y:=by
 have h1:=onC_uv.2 (xS_on h)
 have h2:=onC_uv.2 (xY_on h)
 refine even_root ?_ (rtV_even _) (root_ok (uY y) (vY y)).2.2
 refine cancel (vY_ne y) ?_
 generalize xSr y=a at *
 generalize xY y=b at *
 grind
structure DecR (b l:List Int):Prop where
 ex:∃ x y z,l=x++(y++z)∧NF x (if 128≤b.getD 31 0 then -xSr (yB b) else xSr (yB b))∧NF y (yB b)∧NF z 1
theorem pr_el:s_spec_element.pr 0= .l fun a=>fixL 8 (i_spec_element.rawt C_spec_element 0 a):=rfl
theorem el_gv{T:Tb}(h:lk 77 T=some (.one s_spec_element)){b:List Int}(hl:b.length=32)(h8:by8 b):NF (dcY T b) (yB b):=NF.of (gv_n8 h pr_el (element_n8 hl h8)) rfl
theorem geq8{x:Int}:binD .geq .u8 x 128=b01 (decide (128≤x)):=rfl
theorem decoded_ok{b:List Int}(hl:b.length=32)(h8:by8 b):DecR b (i_spec_decoded.raw C_spec_decoded 0 [b])∧i_spec_decoded.raw C_spec_decoded 1 [b]= [b01 (feq (xSr (yB b)*xSr (yB b)) (uY (yB b)*(vY (yB b))⁻¹))]:=by
 rw[raw_valT,raw_valT,raw_decoded0,raw_decoded1]
 have T1:lk 66 C_spec_decoded.T=some (.one s_spec_times):=rfl
 have T2:lk 65 C_spec_decoded.T=some (.one s_spec_inverse):=rfl
 have T3:lk 77 C_spec_decoded.T=some (.one s_spec_element):=rfl
 have T4:lk 68 C_spec_decoded.T=some (.one s_spec_small):=rfl
 have T5:lk 79 C_spec_decoded.T=some (.one s_spec_prime):=rfl
 have T6:lk 78 C_spec_decoded.T=some (.one s_spec_minus):=rfl
 have T7:lk 71 C_spec_decoded.T=some (.one s_spec_plus):=rfl
 have T8:lk 57 C_spec_decoded.T=some (.one s_spec_curve):=rfl
 have T9:lk 80 C_spec_decoded.T=some (.one s_spec_root):=rfl
 have Ta:lk 55 C_spec_decoded.T=some (.one s_spec_opposite):=rfl
 generalize C_spec_decoded.T=T at *
 have hY:=el_gv T3 hl h8
 have hYY:=sTm_nf T1 hY hY
 have h1:NF (sSm T 1) (1:Fp):=by
  have:=sSm_nf T4 (n:=1) (by decide)
  rwa [fpI_one] at this
 have hU:=sMi_nf T6 T5 hYY h1
 have hV:=sPl_nf T7 T5 (sTm_nf T1 (curve_gv T8) hYY) h1
 have eV:dE*(yB b*yB b)+1=vY (yB b):=by unfold vY; grind
 rw[eV] at hV
 have hW:NF (dcW T b) (uY (yB b)*(vY (yB b))⁻¹):=sTm_nf T1 hU (sInv_nf T2 hV)
 have hX:NF (dcX T b) (xSr (yB b)):=root0_gv T9 hW
 rw[root1_gv T9 hW,List.getD_cons_zero,geq8]
 refine⟨⟨?_⟩,by split<;>rfl⟩
 by_cases hb:128≤b.getD 31 0
 ·rw[if_neg (fun h=>b01_0.1 h hb),if_pos hb]
  exact⟨_,_,_,rfl,(sOp_nf Ta hX).sb,hY.sb,h1.sb⟩
 ·rw[if_pos (b01_0.2 hb),if_neg hb]
  exact⟨_,_,_,rfl,hX.sb,hY.sb,h1.sb⟩
def ptD(b:List Int)(h:∃ x,OnC dE x (yB b)):Pt:=if 128≤b.getD 31 0 then (⟨xY (yB b),yB b,xY_on h⟩:Pt).neg else ⟨xY (yB b),yB b,xY_on h⟩
theorem p2_one{x y:Fp}{P:Pt}(hx:x=P.x)(hy:y=P.y):P2 x y 1 P:=⟨by decide +kernel,by rw[hx]; grind,by rw[hy]; grind⟩
theorem DecR.pr{b l:List Int}(h:DecR b l)(hc:∃ x,OnC dE x (yB b)):Pj l (ptD b hc):=by
 obtain⟨x,y,z,rfl,hx,hy,hz⟩:=h.ex
 rw[xSr_eq hc] at hx
 refine⟨x,y,z,_,_,_,rfl,hx,hy,hz,p2_one ?_ ?_⟩
 ·unfold ptD
  split<;>rfl
 ·unfold ptD
  split<;>rfl
end Go.Proofs.YtloibefkijfdlaaGreatDoor
