/- A key from a seed: nothing is owed (printed by mkky.py). -/
import Derived.Test.YtloibefkijfdlaaGreatDoorPb
import Derived.Test.YtloibefkijfdlaaGreatDoorSd
import Derived.Test.YtloibefkijfdlaaGreatDoorShx
namespace Go.Proofs.YtloibefkijfdlaaGreatDoor
section
open Go Ma
theorem AIm:Nu (iA []) X3 HY HV [some (UK 64),none]=some [List.replicate 64 (.a 1 .y)]:=by kernel_rfl
theorem AE1{T:Tb}(h:lk 155 T=some (.one He)):KW.Ok T 155 (.bp 64):=T7 (i:=HY) (C:=HV) h rfl AIm
theorem AIy:Nu (iA []) X3 FP Fe [some (UK 56),none]=some [List.replicate 56 (.a 1 .y)]:=by kernel_rfl
theorem AGa{T:Tb}(h:lk (10000+155) T=some (.one Ff)):KW.Ok T (10000+155) (.bp 56):=T7 (i:=FP) (C:=Fe) h rfl AIy
theorem AIn:Nu (iA []) X3 Fs GA [some (UK 48),none]=some [List.replicate 48 (.a 1 .y)]:=by kernel_rfl
theorem AFZ{T:Tb}(h:lk (20000+155) T=some (.one FY)):KW.Ok T (20000+155) (.bp 48):=T7 (i:=Fs) (C:=GA) h rfl AIn
theorem AMj:Nu (iA []) X3 F9 Fg [some (UK 40),none]=some [List.replicate 40 (.a 1 .y)]:=by kernel_rfl
theorem AFN{T:Tb}(h:lk (30000+155) T=some (.one Fa)):KW.Ok T (30000+155) (.bp 40):=T7 (i:=F9) (C:=Fg) h rfl AMj
theorem AJB:Nu (iA []) X3 F8 Fq [some (UK 32),none]=some [List.replicate 32 (.a 1 .y)]:=by kernel_rfl
theorem AGf{T:Tb}(h:lk (40000+155) T=some (.one FT)):KW.Ok T (40000+155) (.bp 32):=T7 (i:=F8) (C:=Fq) h rfl AJB
theorem ALC:Nu (iA []) X3 Fb Fy [some (UK 24),none]=some [List.replicate 24 (.a 1 .y)]:=by kernel_rfl
theorem AEh{T:Tb}(h:lk (50000+155) T=some (.one Fh)):KW.Ok T (50000+155) (.bp 24):=T7 (i:=Fb) (C:=Fy) h rfl ALC
theorem AMa:Nu (iA []) X3 FQ FW [some (UK 16),none]=some [List.replicate 16 (.a 1 .y)]:=by kernel_rfl
theorem AGB{T:Tb}(h:lk (60000+155) T=some (.one FZ)):KW.Ok T (60000+155) (.bp 16):=T7 (i:=FQ) (C:=FW) h rfl AMa
theorem ANq:Nu (iA []) X3 Fz F3 [some (UK 8),none]=some [List.replicate 8 (.a 1 .y)]:=by kernel_rfl
theorem AIf{T:Tb}(h:lk (70000+155) T=some (.one Fw)):KW.Ok T (70000+155) (.bp 8):=T7 (i:=Fz) (C:=F3) h rfl ANq
theorem AAw{T:Tb}{f n:Nat}{s:BH}{F:List (List Int)->List Int}(h:lk f T=some (.one s))(ho:s.pr 0= .l λa=>BK n (F a))(args:List (List Int)):(gv T f 0 args).length=n:=by
 have e:gv T f 0 args=BK n (F args):=by
  simp only[gv,Na.den,h];show(s.pr 0).den args=_;rw[ho];rfl
 rw[e];exact Qr _ _
theorem ALB{T:Tb}(h:lk 154 T=some (.one Em)):KW.Ok T 154 (.an2 8):=λa b=>⟨AEH h [a,b],AAw (F:=λa=>Bp.raw A9 0 a) h rfl [a,b]⟩
theorem AJ1{T:Tb}(h:lk 105 T=some (.one Aa)):KW.Ok T 105 .sbm:=λ_v _a ha=>nL h ha
theorem AIt{T:Tb}(h:lk 104 T=some (.one BL)):KW.Ok T 104 .ptb:=λa _P hP=>⟨dD h hP,AAw (F:=λa=>Aq.raw AY 0 a) h rfl [a]⟩
theorem ARr{T:Tb}{f:Nat}{M:List (Nat×KW)}{i:Ad}{C:Cx}{bin:List (Option (List (Nat×WX)))}(hs:lk f T=some (.one (i.cC C)))(hM:MW C.T M)(h:(Nu (iA M) X3 i C bin).isSome=true){ins:List (List Int)}(eC:Zb γW bin ins):LM T f ins:=⟨⟨_,hs,wEv hM h eC⟩⟩
def AOA:List (Nat×KW):=[(155,.bp 64),((10000+155),.bp 56),((20000+155),.bp 48),((30000+155),.bp 40),((40000+155),.bp 32),((50000+155),.bp 24),((60000+155),.bp 16),((70000+155),.bp 8),(154,.an2 8),(95,.yn 32),(105,.sbm),(104,.ptb)]
theorem AGS:MW AP.T AOA:=(.cons (AE1 rfl) (.cons (AGa rfl) (.cons (AFZ rfl) (.cons (AFN rfl) (.cons (AGf rfl) (.cons (AEh rfl) (.cons (AGB rfl) (.cons (AIf rfl) (.cons (ALB rfl) (.cons (AQl rfl) (.cons (AJ1 rfl) (.cons (AIt rfl) .nil))))))))))))
theorem AR4:(Nu (iA AOA) X3 Bu AP [none,none]).isSome=true:=by kernel_rfl
theorem ALW{T:Tb}(h:lk 64 T=some (.one Bq))(v a:List Int):LM T 64 [v,a]:=by
 have hI:Zb γW [none,none] [v,a]:=.no (.no .nil);exact ARr (i:=Bu) (C:=AP) h AGS AR4 hI
end
section
open Go
structure Run (i:Ad) (C:Cx) (ins:List (List Int)) (p:Pth) (es:Rt) (ρ:Br):Prop where
 ar:∀j,j<i.s0.params.length->ρ j=ins.getD j []
 ds:Tp C.T ρ p.ds
 raw:∀(k:Nat) e,es[k]? = some e->i.raw C k ins=e.1.map (·.den ρ)
 ob:(∀q∈p.ob,q.den C.T ρ)->(∀c∈p.cs,∀ ρ',JW i.s0.params.length (Ce ins) ρ'->EY C.T c ρ')->EY C.T (i.tree C) (Ce ins)
 kn:∃hi,Zq hi ρ p.K
def ALy(q:Pth->Rt->Bool)(tr:Bz)(C:Cx)(s0:BH)(cF:List ResultVar)(j0:List (Option (List Int))):Bool:=
 match XP (lL 0 j0) tr with
 |some p=>Nv s0.params.length (lL 0 j0) tr&&Nat.beq j0.length s0.params.length &&
  (match Ml C s0 cF p.st with
  |some es=>q p es
  |none=>false)
 |none=>false
theorem AGg{q:Pth->Rt->Bool}{i:Ad}{C:Cx}{j0:List (Option (List Int))}(h:ALy q (i.tree C) C i.s0 i.cF j0=true){ins:List (List Int)}(hk:∀(j:Nat) (l:List Int),j0[j]? = some (some l)->ins.getD j []=l):
  ∃p es ρ,Run i C ins p es ρ/\q p es=true:=by
 unfold ALy at h;split at h
 ·rename_i p hl;simp only[Bl] at h;obtain⟨⟨h1,h3⟩,h6⟩:=h;have ac2:=CR h3;have hK0:Zq i.s0.params.length (Ce ins) (lL 0 j0):=λj l hj=>by
   obtain⟨k,e1,e2⟩:=VD hj;rw[Km] at e1;subst e1;have cf:j<j0.length:=(OQ.1 e2).1;exact⟨by omega,hk j l e2⟩
  obtain⟨k1,k2,k3,k4,k5,k6⟩:=RX (T:=C.T) (np:=i.s0.params.length) (ρ0:=Ce ins) (ρ:=Ce ins) (KA _) (JW.refl _ _) hK0 h1 hl;split at h6
  ·rename_i es nn;refine⟨p,es,Dl C.T (Ce ins) p.ds,⟨λj hj=>by rw[k1 j hj];rfl,k2,λk e he=>?_,k6,k5⟩,h6⟩;unfold Ad.raw Vo;rw[k4];simp only[nn,he]
  ·cases h6
 ·cases h
def bH(xs:List X)(n off k:Nat):Bool:=Ph n off xs&&Nat.beq xs.length k
theorem Ur{ρ:Br}{xs:List X}{n off k:Nat}(h:bH xs n off k=true)(hl:off+k<=(ρ n).length):xs.map (·.den ρ)=((ρ n).drop off).take k:=by
 simp only[bH,Bl] at h;have hn:=CR h.2;rw[Xc h.1,hn];generalize ρ n=l at hl ⊢;apply List.ext_getElem?;intro j;by_cases hj:j<k
 ·have hj2:off+j<l.length:=by omega
  simp[hj,List.getD,hj2]
 ·rw[List.getElem?_eq_none (by simp;omega),List.getElem?_eq_none (by simp;omega)]
end
section
open Go
end
section
open Go
end
end Go.Proofs.YtloibefkijfdlaaGreatDoor
