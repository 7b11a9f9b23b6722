/- A key from a seed: nothing is owed (printed by mkky.py). -/
import Derived.Test.YtloibefkijfdlaaGreatDoorPb
import Derived.Test.YtloibefkijfdlaaGreatDoorSd
import Derived.Test.YtloibefkijfdlaaGreatDoorShx
namespace Go.Proofs.YtloibefkijfdlaaGreatDoor
section
open Go Ma
theorem AMF:Ow (nK []) Zg IA H7 [some (WL 64),none]=some [List.replicate 64 (.a 1 .y)]:=by kernel_rfl
theorem AH3{T:Tb}(h:lk 155 T=some (.one Hw)):KW.Ok T 155 (.bp 64):=wBp (i:=IA) (C:=H7) h rfl AMF
theorem ANH:Ow (nK []) Zg FY F3 [some (WL 56),none]=some [List.replicate 56 (.a 1 .y)]:=by kernel_rfl
theorem AIJ{T:Tb}(h:lk (10000+155) T=some (.one Fb)):KW.Ok T (10000+155) (.bp 56):=wBp (i:=FY) (C:=F3) h rfl ANH
theorem AL7:Ow (nK []) Zg FZ F7 [some (WL 48),none]=some [List.replicate 48 (.a 1 .y)]:=by kernel_rfl
theorem AH2{T:Tb}(h:lk (20000+155) T=some (.one Fq)):KW.Ok T (20000+155) (.bp 48):=wBp (i:=FZ) (C:=F7) h rfl AL7
theorem AOi:Ow (nK []) Zg GD Fs [some (WL 40),none]=some [List.replicate 40 (.a 1 .y)]:=by kernel_rfl
theorem AG6{T:Tb}(h:lk (30000+155) T=some (.one FT)):KW.Ok T (30000+155) (.bp 40):=wBp (i:=GD) (C:=Fs) h rfl AOi
theorem AN7:Ow (nK []) Zg Fg Fa [some (WL 32),none]=some [List.replicate 32 (.a 1 .y)]:=by kernel_rfl
theorem AH7{T:Tb}(h:lk (40000+155) T=some (.one Fj)):KW.Ok T (40000+155) (.bp 32):=wBp (i:=Fg) (C:=Fa) h rfl AN7
theorem AMW:Ow (nK []) Zg Fw Fv [some (WL 24),none]=some [List.replicate 24 (.a 1 .y)]:=by kernel_rfl
theorem AKI{T:Tb}(h:lk (50000+155) T=some (.one FU)):KW.Ok T (50000+155) (.bp 24):=wBp (i:=Fw) (C:=Fv) h rfl AMW
theorem AMS:Ow (nK []) Zg Fz Fu [some (WL 16),none]=some [List.replicate 16 (.a 1 .y)]:=by kernel_rfl
theorem AJX{T:Tb}(h:lk (60000+155) T=some (.one Ff)):KW.Ok T (60000+155) (.bp 16):=wBp (i:=Fz) (C:=Fu) h rfl AMS
theorem AT4:Ow (nK []) Zg FW GA [some (WL 8),none]=some [List.replicate 8 (.a 1 .y)]:=by kernel_rfl
theorem AN0{T:Tb}(h:lk (70000+155) T=some (.one Fh)):KW.Ok T (70000+155) (.bp 8):=wBp (i:=FW) (C:=GA) h rfl AT4
theorem AGU{T:Tb}{f n:Nat}{s:Az}{F:List (List Int)→List Int}(h:lk f T=some (.one s))(ho:s.pr 0= .l fun a=>Aw n (F a))(args:List (List Int)):(gv T f 0 args).length=n:=by
 have e:gv T f 0 args=Aw n (F args):=by
  simp only[gv,OP.den,h];show (s.pr 0).den args=_;rw[ho];rfl
 rw[e];exact R9 _ _
theorem AMr{T:Tb}(h:lk 154 T=some (.one Er)):KW.Ok T 154 (.an2 8):=fun a b=>⟨AJn h [a,b],AGU (F:=fun a=>Bq.raw BC 0 a) h rfl [a,b]⟩
theorem AMg{T:Tb}(h:lk 105 T=some (.one AY)):KW.Ok T 105 .sbm:=fun _v _a ha=>sO h ha
theorem APP{T:Tb}(h:lk 104 T=some (.one BL)):KW.Ok T 104 .ptb:=fun a _P hP=>⟨l5 h hP,AGU (F:=fun a=>Aq.raw AU 0 a) h rfl [a]⟩
theorem AVq{T:Tb}{f:Nat}{M:List (Nat×KW)}{i:AQ}{C:Cx}{bin:List (Option (List (Nat×WX)))}(hs:lk f T=some (.one (i.sumP C)))(hM:MW C.T M)(h:(Ow (nK M) Zg i C bin).isSome=true){ins:List (List Int)}(hin:fK γW bin ins):OU T f ins:=⟨⟨_,hs,wEv hM h hin⟩⟩
def ART:List (Nat×KW):=[(155,.bp 64),((10000+155),.bp 56),((20000+155),.bp 48),((30000+155),.bp 40),((40000+155),.bp 32),((50000+155),.bp 24),((60000+155),.bp 16),((70000+155),.bp 8),(154,.an2 8),(95,.yn 32),(105,.sbm),(104,.ptb)]
theorem AHU:MW AJ.T ART:=(.cons (AH3 rfl) (.cons (AIJ rfl) (.cons (AH2 rfl) (.cons (AG6 rfl) (.cons (AH7 rfl) (.cons (AKI rfl) (.cons (AJX rfl) (.cons (AN0 rfl) (.cons (AMr rfl) (.cons (ASu rfl) (.cons (AMg rfl) (.cons (APP rfl) .nil))))))))))))
theorem AV9:(Ow (nK ART) Zg Bu AJ [none,none]).isSome=true:=by kernel_rfl
theorem ALr{T:Tb}(h:lk 64 T=some (.one Br))(v a:List Int):OU T 64 [v,a]:=by
 have hI:fK γW [none,none] [v,a]:=.no (.no .nil);exact AVq (i:=Bu) (C:=AJ) h AHU AV9 hI
end
section
open Go
structure Run (i:AQ) (C:Cx) (ins:List (List Int)) (p:Pth) (es:TP) (ρ:Bl):Prop where
 ar:∀ j,j<i.s0.params.length→ρ j=ins.getD j []
 ds:VJ C.T ρ p.ds
 raw:∀ (k:Nat) e,es[k]? = some e→i.raw C k ins=e.1.map (·.den ρ)
 ob:(∀ q∈p.ob,q.den C.T ρ)→(∀ c∈p.cs,∀ ρ',Jt i.s0.params.length (A8 ins) ρ'→Cn C.T c ρ')→Cn C.T (i.tree C) (A8 ins)
 kn:∃ hi,gF hi ρ p.K
def AMh(q:Pth→TP→Bool)(tr:Bc)(C:Cx)(s0:Az)(rvs:List ResultVar)(kin:List (Option (List Int))):Bool:=
 match ZF (nQ 0 kin) tr with
 |some p=>Oj s0.params.length (nQ 0 kin) tr&&Nat.beq kin.length s0.params.length &&
  (match Lr C s0 rvs p.st with
  |some es=>q p es
  |none=>false)
 |none=>false
theorem AJg{q:Pth→TP→Bool}{i:AQ}{C:Cx}{kin:List (Option (List Int))}(h:AMh q (i.tree C) C i.s0 i.rvs kin=true){ins:List (List Int)}(hk:∀ (j:Nat) (l:List Int),kin[j]? = some (some l)→ins.getD j []=l):
  ∃ p es ρ,Run i C ins p es ρ∧q p es=true:=by
 unfold AMh at h
 split at h
 ·rename_i p hl
  simp only[Bd] at h;obtain⟨⟨h1,h3⟩,h6⟩:=h;have ac5:=CL h3;have hK0:gF i.s0.params.length (A8 ins) (nQ 0 kin):=fun j l hj=>by
   obtain⟨k,e1,e2⟩:=Xk hj;rw[NU] at e1;subst e1;have hlt:j<kin.length:=(Pi.1 e2).1;exact⟨by omega,hk j l e2⟩
  obtain⟨k1,k2,k3,k4,k5,k6⟩:=Sm (T:=C.T) (np:=i.s0.params.length) (ρ0:=A8 ins) (ρ:=A8 ins) (JP _) (Jt.refl _ _) hK0 h1 hl
  split at h6
  ·rename_i es Θ
   refine⟨p,es,Dc C.T (A8 ins) p.ds,⟨fun j hj=>by rw[k1 j hj];rfl,k2,fun k e he=>?_,k6,k5⟩,h6⟩;unfold AQ.raw SF;rw[k4];simp only[Θ,he]
  ·cases h6
 ·cases h
def jV(xs:List X)(n off k:Nat):Bool:=Qd n off xs&&Nat.beq xs.length k
theorem Wy{ρ:Bl}{xs:List X}{n off k:Nat}(h:jV xs n off k=true)(hl:off+k≤(ρ n).length):xs.map (·.den ρ)=((ρ n).drop off).take k:=by
 simp only[jV,Bd] at h;have hn:=CL h.2;rw[ZU h.1,hn];generalize ρ n=l at hl ⊢
 apply List.ext_getElem?
 intro j
 by_cases hj:j<k
 ·have hj2:off+j<l.length:=by omega
  simp[hj,List.getD,hj2]
 ·rw[List.getElem?_eq_none (by simp;omega),List.getElem?_eq_none (by simp;omega)]
end
section
open Go
end
section
open Go
end
end Go.Proofs.YtloibefkijfdlaaGreatDoor
