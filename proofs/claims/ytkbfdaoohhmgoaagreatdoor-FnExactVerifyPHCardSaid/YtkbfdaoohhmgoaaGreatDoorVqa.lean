/- Contracts of the point functions of verifying, in plain words. -/
import Derived.Test.YtkbfdaoohhmgoaaGreatDoorVna
import Derived.Test.YtkbfdaoohhmgoaaGreatDoorVpa
namespace Go.Proofs.YtkbfdaoohhmgoaaGreatDoor
section
open Go Ma Go.RowKit Go.Lib
abbrev KU (n:Nat):List IntKind:=List.replicate n .u64
structure DA (GC:Nat->Nat->Option Value) (r:SI) (P:Pt) (b:Nat) (v:Value) (w:World) (e:Ending) (w':World):Prop where
 ret:e= .returned v
 mem:∃l,AO true w' (b,0) (KU r.n) l/\RR r P l
 an:BD w w' (λb' _=>b'=b)
 gw:GW GC w'
structure TbP (GC:Nat->Nat->Option Value) (r:SI) (Ps:List Pt) (n b:Nat) (w:World) (e:Ending) (w':World):Prop where
 ret:e= .returned (.tuple #[])
 mem:∃l,AO true w' (b,0) (KU n) l/\NE r Ps l
 an:BD w w' (λb' _=>b'=b)
 gw:GW GC w'
theorem ZA{p q:Et}{b c:Nat×Nat}(h:U9 p q b c):Ep [p,q] [b,c]:=⟨λx hx=>by
 have eg:x=(q,c):=NU.1 hx;subst eg;exact h,Wx⟩
theorem oK{p q r:Et}{b c d:Nat×Nat}(h1:U9 p q b c)(h2:U9 p r b d)(h3:U9 q r c d):Ep [p,q,r] [b,c,d]:=⟨λx hx=>by
 have eg:x ∈ [(q,c),(r,d)]:=hx;rcases G9.1 eg with e|eg
 ·subst e;exact h1
 ·have e:=NU.1 eg;subst e;exact h2,ZA h3⟩
section
variable{GB:Nat}{GC:Nat->Nat->Option Value}{ad:Nat->Nat×Nat}(hG:GI GB GC ad){w:World}(ε:GW GC w)(δ:GB<=w.heap.size)
include hG ε δ
theorem Rq{f b0:Nat}{s:Az}{G:PF}{r:SI}{P:Pt}{v0:Value}{tl:List Value}{ins:List (List Int)}{bs:List (Nat×Nat)}(eM:Bv Tryz.prog GB GC f (.one s))(hP:Jg GB w s.params (v0::tl) ins bs)(hS:Ep s.params bs)(ph:bs.getD 0 (0,0)=(b0,0))(cY:s.outs= [(0,KU r.n,G)])(vf:s.ret= [.cF 0])(CN:s.pr 0= .l G)(hk:NB [(f,.one s)] f ins/\RR r P (gv [(f,.one s)] f 0 ins)):
  Calls Tryz.prog f (v0::tl).toArray w (DA GC r P b0 v0 w):=by
 have _:=hG;refine(eM true (v0::tl) ins bs w ε δ hP hS (λ_=>Oo hk.1) rfl).mono λe w' ⟨fb,vs,he,hq⟩=>?_
 simp only[FE.cf] at hq;have hr:=hq.ret;rw[vf] at hr;have hv:vs= [v0]:=by
  match vs,hr with
  | [a],hr=>
   have h1:some v0=some a:=hr.1;rw[<- WT h1]
 subst hv;have hm:=hq.outs;rw[cY] at hm;have ur:=hm _ Jv;have P0:=hk.2;rw[Bf Ec,CN] at P0;refine⟨he,⟨G ins,?_,P0⟩,hq.an.mono λb i _ hS=>?_,hq.gw⟩
 ·rw[<- ph];exact ur
 ·obtain⟨p,eA,e1,-, -⟩:=hS;rw[cY,NU] at eA;subst eA;rw[ph] at e1;exact e1
theorem AB9{f b0 n:Nat}{s:Az}{G:PF}{r:SI}{Ps:List Pt}{args:List Value}{ins:List (List Int)}{bs:List (Nat×Nat)}(eM:Bv Tryz.prog GB GC f (.one s))(hP:Jg GB w s.params args ins bs)(hS:Ep s.params bs)(ph:bs.getD 0 (0,0)=(b0,0))(cY:s.outs= [(0,KU n,G)])(vf:s.ret= [])(CN:s.pr 0= .l G)(hk:NB [(f,.one s)] f ins/\NE r Ps (gv [(f,.one s)] f 0 ins)):
  Calls Tryz.prog f args.toArray w (TbP GC r Ps n b0 w):=by
 have _:=hG;refine(eM true args ins bs w ε δ hP hS (λ_=>Oo hk.1) rfl).mono λe w' ⟨fb,vs,he,hq⟩=>?_
 simp only[FE.cf] at hq;have hr:=hq.ret;rw[vf] at hr;have hv:vs= []:=by
  match vs,hr with
  | [],_=>rfl
 subst hv;have hm:=hq.outs;rw[cY] at hm;have ur:=hm _ Jv;have P0:=hk.2;rw[Bf Ec,CN] at P0;refine⟨he,⟨G ins,?_,P0⟩,hq.an.mono λb i _ hS=>?_,hq.gw⟩
 ·rw[<- ph];exact ur
 ·obtain⟨p,eA,e1,-, -⟩:=hS;rw[cY,NU] at eA;subst eA;rw[ph] at e1;exact e1
abbrev pp (b:Nat):Value:=.pointer (some ⟨b,0,none⟩)
variable{b0 b1 b2:Nat}{x0 x1 x2:List Int}{P Q:Pt}
theorem AH2(m0:AO true w (b0,0) (KU 20) x0)(h0:GB<=b0)(m1:AO true w (b1,0) (KU 15) x1)(cj:b0≠b1)(hq:R2 P x1):Calls Tryz.prog 93 #[pp b0,pp b1] w (DA GC .oe (P.add P) b0 (pp b0) w):=
 Rq (bs:=[(b0,0),(b1,0)]) (ins:=[x0,x1]) (tl:=[pp b1]) hG ε δ (Mk hG) ⟨⟨rfl,m0,λ_=>h0⟩,⟨rfl,m1.ro,λh=>by cases h⟩,trivial⟩ (ZA (Hf cj)) rfl rfl rfl rfl (AOO (ρ:=⟨P,P,λ_=>0,[]⟩) Ec x0 x1 P hq)
theorem SB(m0:AO true w (b0,0) (KU 20) x0)(h0:GB<=b0)(m1:AO true w (b1,0) (KU 20) x1)(cj:b0≠b1)(hq:zx P x1):Calls Tryz.prog 94 #[pp b0,pp b1] w (DA GC .p3 P b0 (pp b0) w):=
 Rq (bs:=[(b0,0),(b1,0)]) (ins:=[x0,x1]) (tl:=[pp b1]) hG ε δ (D8 hG) ⟨⟨rfl,m0,λ_=>h0⟩,⟨rfl,m1.ro,λh=>by cases h⟩,trivial⟩ (ZA (Hf cj)) rfl rfl rfl rfl (Vd (ρ:=⟨P,P,λ_=>0,[]⟩) Ec x0 x1 P hq)
theorem vI(m0:AO true w (b0,0) (KU 15) x0)(h0:GB<=b0)(m1:AO true w (b1,0) (KU 20) x1)(cj:b0≠b1)(hq:zx P x1):Calls Tryz.prog 101 #[pp b0,pp b1] w (DA GC .p2 P b0 (pp b0) w):=
 Rq (bs:=[(b0,0),(b1,0)]) (ins:=[x0,x1]) (tl:=[pp b1]) hG ε δ (Mg hG) ⟨⟨rfl,m0,λ_=>h0⟩,⟨rfl,m1.ro,λh=>by cases h⟩,trivial⟩ (ZA (Hf cj)) rfl rfl rfl rfl (AFb (ρ:=⟨P,P,λ_=>0,[]⟩) Ec x0 x1 P hq)
theorem AAI(m0:AO true w (b0,0) (KU 20) x0)(h0:GB<=b0)(m1:AO true w (b1,0) (KU 15) x1)(cj:b0≠b1)(hq:R2 P x1):Calls Tryz.prog 102 #[pp b0,pp b1] w (DA GC .p3 P b0 (pp b0) w):=
 Rq (bs:=[(b0,0),(b1,0)]) (ins:=[x0,x1]) (tl:=[pp b1]) hG ε δ (OX hG) ⟨⟨rfl,m0,λ_=>h0⟩,⟨rfl,m1.ro,λh=>by cases h⟩,trivial⟩ (ZA (Hf cj)) rfl rfl rfl rfl (AIi Ec x0 x1 P hq)
theorem zy(m0:AO true w (b0,0) (KU 15) x0)(h0:GB<=b0):Calls Tryz.prog 92 #[pp b0] w (DA GC .p2 Pt.zero b0 (pp b0) w):=
 Rq (bs:=[(b0,0)]) (ins:=[x0]) (tl:=[]) hG ε δ (O1 hG) ⟨⟨rfl,m0,λ_=>h0⟩,trivial⟩ Wx rfl rfl rfl rfl (AEs Ec _)
theorem ACR(m0:AO true w (b0,0) (KU 20) x0)(h0:GB<=b0)(m1:AO true w (b1,0) (KU 20) x1)(m2:AO true w (b2,0) (KU 20) x2)(cj:b0≠b1)(ZS:b0≠b2)(aaX:b1≠b2)(hp:R3 P x1)(hq:RC Q x2):Calls Tryz.prog 96 #[pp b0,pp b1,pp b2] w (DA GC .oe (P.add Q) b0 (pp b0) w):=
 Rq (bs:=[(b0,0),(b1,0),(b2,0)]) (ins:=[x0,x1,x2]) (tl:=[pp b1,pp b2]) hG ε δ (GJ hG) ⟨⟨rfl,m0,λ_=>h0⟩,⟨rfl,m1.ro,λh=>by cases h⟩,⟨rfl,m2.ro,λh=>by cases h⟩,trivial⟩ (oK (Hf cj) (Hf ZS) (Hf aaX)) rfl rfl rfl rfl (kH (ρ:=⟨P,P,λ_=>0,[]⟩) Ec x0 x1 x2 P Q hp hq)
theorem ABs(m0:AO true w (b0,0) (KU 20) x0)(h0:GB<=b0)(m1:AO true w (b1,0) (KU 20) x1)(m2:AO true w (b2,0) (KU 20) x2)(cj:b0≠b1)(ZS:b0≠b2)(aaX:b1≠b2)(hp:R3 P x1)(hq:RC Q x2):Calls Tryz.prog 97 #[pp b0,pp b1,pp b2] w (DA GC .oe (P.add Q.neg) b0 (pp b0) w):=
 Rq (bs:=[(b0,0),(b1,0),(b2,0)]) (ins:=[x0,x1,x2]) (tl:=[pp b1,pp b2]) hG ε δ (OH hG) ⟨⟨rfl,m0,λ_=>h0⟩,⟨rfl,m1.ro,λh=>by cases h⟩,⟨rfl,m2.ro,λh=>by cases h⟩,trivial⟩ (oK (Hf cj) (Hf ZS) (Hf aaX)) rfl rfl rfl rfl (AJN Ec x0 x1 x2 P Q hp hq)
theorem AC5(m0:AO true w (b0,0) (KU 20) x0)(h0:GB<=b0)(m1:AO true w (b1,0) (KU 20) x1)(m2:AO true w (b2,0) (KU 15) x2)(cj:b0≠b1)(ZS:b0≠b2)(aaX:b1≠b2)(hp:R3 P x1)(hq:RA Q x2):Calls Tryz.prog 99 #[pp b0,pp b1,pp b2] w (DA GC .oe (P.add Q) b0 (pp b0) w):=
 Rq (bs:=[(b0,0),(b1,0),(b2,0)]) (ins:=[x0,x1,x2]) (tl:=[pp b1,pp b2]) hG ε δ (G8 hG) ⟨⟨rfl,m0,λ_=>h0⟩,⟨rfl,m1.ro,λh=>by cases h⟩,⟨rfl,m2.ro,λh=>by cases h⟩,trivial⟩ (oK (Hf cj) (Hf ZS) (Hf aaX)) rfl rfl rfl rfl (yw (ρ:=⟨P,P,λ_=>0,[]⟩) Ec x0 x1 x2 P Q hp hq)
theorem AB8(m0:AO true w (b0,0) (KU 20) x0)(h0:GB<=b0)(m1:AO true w (b1,0) (KU 20) x1)(m2:AO true w (b2,0) (KU 15) x2)(cj:b0≠b1)(ZS:b0≠b2)(aaX:b1≠b2)(hp:R3 P x1)(hq:RA Q x2):Calls Tryz.prog 100 #[pp b0,pp b1,pp b2] w (DA GC .oe (P.add Q.neg) b0 (pp b0) w):=
 Rq (bs:=[(b0,0),(b1,0),(b2,0)]) (ins:=[x0,x1,x2]) (tl:=[pp b1,pp b2]) hG ε δ (K8 hG) ⟨⟨rfl,m0,λ_=>h0⟩,⟨rfl,m1.ro,λh=>by cases h⟩,⟨rfl,m2.ro,λh=>by cases h⟩,trivial⟩ (oK (Hf cj) (Hf ZS) (Hf aaX)) rfl rfl rfl rfl (AGs Ec x0 x1 x2 P Q hp hq)
omit hG ε δ in
theorem qZ:CG.params= [.mem (KU 160) 4 true,.mem (KU 20) 5 false]:=by kernel_rfl
omit hG ε δ in
theorem qA:CE.params= [.mem (KU 960) 4 true,.mem (KU 20) 5 false]:=by kernel_rfl
omit hG ε δ in
theorem ADq:CG.outs= [(0,KU 160,λa=>BF 160 (BX.raw Bd 0 a))]:=by kernel_rfl
omit hG ε δ in
theorem ABz:CE.outs= [(0,KU 960,λa=>BF 960 (Bb.raw Bc 0 a))]:=by kernel_rfl
omit hG ε δ in
theorem AEe:CG.ret= []:=by kernel_rfl
omit hG ε δ in
theorem ACl:CE.ret= []:=by kernel_rfl
def jc(n:Nat)(P:Pt):List Pt:=(List.range n).map λj=>P.zm ((2*j+1:Nat):Int)
theorem AC3(m0:AO true w (b0,0) (KU 160) x0)(h0:GB<=b0)(m1:AO true w (b1,0) (KU 20) x1)(cj:b0≠b1)(hq:R3 P x1):Calls Tryz.prog 90 #[pp b0,pp b1] w (TbP GC .pc (jc 8 P) 160 b0 w):=
 AB9 (bs:=[(b0,0),(b1,0)]) (ins:=[x0,x1]) (args:=[pp b0,pp b1]) (G:=λa=>BF 160 (BX.raw Bd 0 a)) hG ε δ (KI hG) (by rw[qZ];exact⟨⟨rfl,m0,λ_=>h0⟩,⟨rfl,m1.ro,λh=>by cases h⟩,trivial⟩) (by rw[qZ];exact ZA (Hf cj)) rfl ADq AEe mG (ADZ Ec x0 x1 P hq)
end
end
section
open Go Ma Go.RowKit Go.Lib
theorem ul{r:SI}:∀ {Ps:List Pt} {l:List Int} {j:Nat} {P:Pt},NE r Ps l->Ps[j]? = some P->∃u,RR r P u/\u.length=r.n/\∀i,i<r.n->l[r.n*j+i]? = u[i]?
 | [],_,_,_,_,h=>by simp at h
 |Q::Ps,l,0,P,⟨u,v,e,hu,_⟩,h=>by
  have hq:Q=P:=by simpa using h
  subst hq;refine⟨u,hu,RR.len hu,λi hi=>?_⟩;rw[e,Nat.mul_zero,KN,gZ (by rw[RR.len hu];exact hi)]
 |Q::Ps,l,j+1,P,⟨u,v,e,hu,hv⟩,h=>by
  obtain⟨u',h1,h2,h3⟩:=ul (j:=j) hv (by simpa using h);refine⟨u',h1,h2,λi hi=>?_⟩;rw[e,fQ (by rw[RR.len hu,Nat.mul_succ];omega),RR.len hu, <- h3 i hi]
  congr 1
  rw[Nat.mul_succ];omega
structure SlP (GC:Nat->Nat->Option Value) (r:SI) (P:Pt) (b:Nat) (w:World) (e:Ending) (w':World):Prop where
 ret:e= .returned (.tuple #[])
 mem:∃l,AO true w' (b,0) (KU r.n) l/\RR r P l
 an:BD w w' (λb' _=>b'=b)
 gw:GW GC w'
theorem AO.cut{w:World}{b n m k:Nat}{l u:List Int}(h:AO true w (b,0) (KU n) l)(hu:u.length=m)(hk:k+m<=n)(he:∀i,i<m->l[k+i]? = u[i]?):AO true w (b,k) (KU m) u:=by
 refine⟨⟨by rw[hu,Rp],λi k' x hi hx=>?_⟩,λi k' x hi hx=>?_⟩
 ·have GS:i<m:=by have:=(Oa.1 hx).1;omega
  refine h.1.2 (k+i) k' x ?_ (by rw[he i GS];exact hx);rw[iF] at hi ⊢;rw[if_pos GS] at hi;rw[if_pos (by omega)];exact hi
 ·have GS:i<m:=by have:=(Oa.1 hx).1;omega
  have:=h.2 (k+i) k' x (by
   rw[iF] at hi ⊢;rw[if_pos GS] at hi;rw[if_pos (by omega)];exact hi) (by rw[he i GS];exact hx)
  rw[KN] at this;exact this
section
variable{ρ:Operand->Value}{d:Option Tmp}{x y:Operand}{ty t t':TypeId}{pos:String}{af:Array Edge}{w:World}{b o:Nat}
theorem AB1{j:Nat}(hx:ρ x= .int .i8 ((2*j+1:Nat):Int))(hy:ρ y= .int .i8 2)(hj:j<64):(execOp ρ ⟨d,.binOp .quo t x y t',ty,pos,af,none⟩).run Tryz.prog w= .ok (.value (.int .i8 (j:Int))) w:=by
 have e:IntKind.i8.wrap (((2*j+1:Nat):Int).tdiv 2)=(j:Int):=by
  have e2:((2*j+1:Nat):Int).tdiv 2=(((2*j+1)/2:Nat):Int):=rfl;rw[e2,wi8 (by omega) (by omega)];omega
 simp[execOp,go_sem,hx,hy];exact e
theorem AQ3(h:ρ x= .pointer (some ⟨b,o,none⟩)):(execOp ρ ⟨d,.fieldAddr 138 x 0,ty,pos,af,none⟩).run Tryz.prog w= .ok (.value (.pointer (some ⟨b,o,none⟩))) w:=by
 simp[execOp,go_sem,h]
theorem APo(h:ρ x= .pointer (some ⟨b,o,none⟩)):(execOp ρ ⟨d,.fieldAddr 184 x 0,ty,pos,af,none⟩).run Tryz.prog w= .ok (.value (.pointer (some ⟨b,o,none⟩))) w:=by
 simp[execOp,go_sem,h]
theorem AQr{k:Nat}(h:ρ x= .pointer (some ⟨b,o,none⟩))(hy:ρ y= .int .i8 k)(hk:k<8):(execOp ρ ⟨d,.indexAddr 136 x y,ty,pos,af,none⟩).run Tryz.prog w= .ok (.value (.pointer (some ⟨b,o+20*k,none⟩))) w:=by
 simp[execOp,go_sem,h,hy];rw[if_pos (by omega)];simp[qI]
theorem AQa{k:Nat}(h:ρ x= .pointer (some ⟨b,o,none⟩))(hy:ρ y= .int .i8 k)(hk:k<64):(execOp ρ ⟨d,.indexAddr 182 x y,ty,pos,af,none⟩).run Tryz.prog w= .ok (.value (.pointer (some ⟨b,o+15*k,none⟩))) w:=by
 simp[execOp,go_sem,h,hy];rw[if_pos (by omega)];simp[qI]
end
section
variable{GB:Nat}{GC:Nat->Nat->Option Value}{ad:Nat->Nat×Nat}(hG:GI GB GC ad){w:World}(ε:GW GC w)(δ:GB<=w.heap.size)
include hG ε δ
set_option maxRecDepth 100000 in
theorem nQ{bt bd j:Nat}{l x0:List Int}{P:Pt}(mt:AO true w (bt,0) (KU 160) l)(md:AO true w (bd,0) (KU 20) x0)(Mz:GB<=bd)(ht:NE .pc (jc 8 P) l)(hj:j<8):
  Calls Tryz.prog 95 #[pp bt,pp bd,.int .i8 ((2*j+1:Nat):Int)] w (SlP GC .pc (P.zm ((2*j+1:Nat):Int)) bd w):=by
 have _:=δ;obtain⟨u,hu,hul,he⟩:=ul (j:=j) (P:=P.zm ((2*j+1:Nat):Int)) ht (by simp[jc,hj]);have hul:u.length=20:=hul;have mu:AO true w (bt,0+20*j) (KU 20) u:=by
  rw[KN];exact mt.cut hul (by omega) he
 have kx:(AL (KU 20) u).length=20:=Cg mu.1.1;refine enter (args:=[pp bt,pp bd,.int .i8 ((2*j+1:Nat):Int)]) Tryz.func95 rfl (n:=15) rfl λa F=>?_
 refine cp (AA F rfl λa F=>AA F rfl λa F=>AA F rfl λa F=>AZ F rfl (AB1 (j:=j) F.e rfl (by omega)) λa F=>Eu F rfl rfl λa F=>AZ F rfl (AQ3 F.e) λa F=>AZ F rfl (AQr (k:=j) F.e F.e hj) λa F=>AZ F rfl (OL (cs:=AL (KU 20) u) (λw=>by simp[go_sem]) (λw=>by rw[kx];simp[go_sem]) F.e mu.cJ) λa F=>Eu F rfl rfl λa F=>FB F rfl rfl (Kb (cs:=AL (KU 20) u) (λw=>by rw[kx];simp[go_sem]) F.e F.e D7 (λi hi=>md.ex i (by rw[kx] at hi;exact hi))) λa F=>CY ?_);have hf:BD w (w.setCells bd 0 (AL (KU 20) u)) (λb _=>b=bd):=BG _ _ (BD.refl _ _) λ_ _=>.inr rfl
 refine⟨F.df,.tuple #[],?_,rfl,⟨u,Iw mu.1 md.ex,hu⟩,hf,Fu hG ε hf Mz⟩;simp[results,Tryz.results95,go_sem]
set_option maxRecDepth 100000 in
theorem mD{bt bd j:Nat}{l x0:List Int}{P:Pt}(mt:AO true w (bt,0) (KU 960) l)(md:AO true w (bd,0) (KU 15) x0)(Mz:GB<=bd)(ht:NE .pa (jc 64 P) l)(hj:j<64):
  Calls Tryz.prog 98 #[pp bt,pp bd,.int .i8 ((2*j+1:Nat):Int)] w (SlP GC .pa (P.zm ((2*j+1:Nat):Int)) bd w):=by
 have _:=δ;obtain⟨u,hu,hul,he⟩:=ul (j:=j) (P:=P.zm ((2*j+1:Nat):Int)) ht (by simp[jc,hj]);have hul:u.length=15:=hul;have mu:AO true w (bt,0+15*j) (KU 15) u:=by
  rw[KN];exact mt.cut hul (by omega) he
 have kx:(AL (KU 15) u).length=15:=Cg mu.1.1;refine enter (args:=[pp bt,pp bd,.int .i8 ((2*j+1:Nat):Int)]) Tryz.func98 rfl (n:=15) rfl λa F=>?_
 refine cp (AA F rfl λa F=>AA F rfl λa F=>AA F rfl λa F=>AZ F rfl (AB1 (j:=j) F.e rfl hj) λa F=>Eu F rfl rfl λa F=>AZ F rfl (APo F.e) λa F=>AZ F rfl (AQa (k:=j) F.e F.e hj) λa F=>AZ F rfl (OL (cs:=AL (KU 15) u) (λw=>by simp[go_sem]) (λw=>by rw[kx];simp[go_sem]) F.e mu.cJ) λa F=>Eu F rfl rfl λa F=>FB F rfl rfl (Kb (cs:=AL (KU 15) u) (λw=>by rw[kx];simp[go_sem]) F.e F.e D7 (λi hi=>md.ex i (by rw[kx] at hi;exact hi))) λa F=>CY ?_);have hf:BD w (w.setCells bd 0 (AL (KU 15) u)) (λb _=>b=bd):=BG _ _ (BD.refl _ _) λ_ _=>.inr rfl
 refine⟨F.df,.tuple #[],?_,rfl,⟨u,Iw mu.1 md.ex,hu⟩,hf,Fu hG ε hf Mz⟩;simp[results,Tryz.results98,go_sem]
end
end
section
open Go Ma Go.RowKit Go.Lib
structure GnP (GC:Nat->Nat->Option Value) (w:World) (e:Ending) (w':World):Prop where
 ret:∃B o l,e= .returned (.pointer (some ⟨B,o,none⟩))/\w.heap.size<=B/\AO true w' (B,o) (KU 20) l/\R3 Um l
 an:BD w w' (λ_ _=>False)
 gw:GW GC w'
structure BtP (GC:Nat->Nat->Option Value) (w:World) (e:Ending) (w':World):Prop where
 ret:∃B l,e= .returned (pp B)/\w.heap.size<=B/\AO true w' (B,0) (KU 960) l/\NE .pa (jc 64 Um) l
 an:BD w w' (λ_ _=>False)
 gw:GW GC w'
section
variable{ρ:Operand->Value}{d:Option Tmp}{x y:Operand}{ty t t':TypeId}{pos:String}{af:Array Edge}{w:World}{b o:Nat}
theorem AUK:Tryz.zeroCells184=Array.replicate 960 (.int .u64 0):=by kernel_rfl
set_option maxRecDepth 100000 in
theorem AJC:(execOp ρ ⟨d,.alloc 184,ty,pos,af,none⟩).run Tryz.prog w= .ok (.value (.pointer (some ⟨w.heap.size,0,none⟩))) (w.alloc (.cells (Array.replicate 960 (.int .u64 0)) 184)):=by
 rw[<- AUK];simp[execOp,go_sem]
end
theorem AMm:DK.pr 0= .l λa=>BF 20 (Cj.raw CL 0 a):=rfl
section
variable{GB:Nat}{GC:Nat->Nat->Option Value}{ad:Nat->Nat×Nat}(hG:GI GB GC ad){w:World}(ε:GW GC w)(δ:GB<=w.heap.size)
include hG ε δ
theorem AGk:Calls Tryz.prog 126 #[] w (GnP GC w):=by
 have hk:=AOf (d:=λ_=>0) (s:=[]) (T:=[(126,.one DK)]) Ec [];have h:=MH hG true [] [] [] w ε δ trivial trivial (λ_=>Oo hk.1) rfl;refine h.mono λe w' ⟨fb,vs,he,hq⟩=>?_
 simp only[FE.cf] at hq;have hr:=hq.ret
 match vs,hr with
 | [v],hr=>
 obtain⟨b,hb,hv⟩:=hr.1;subst hv;have hm:=hq.fresh 0 (KU 20,λa=>BF 20 (Cj.raw CL 0 a)) b rfl hb;have h2:=hk.2;rw[Bf Ec,AMm,Pt.ke] at h2;refine⟨⟨b.1,b.2,_,he,hq.fr b (MB hb),hm,h2⟩,hq.an.mono λb' o' _ hs=>?_,hq.gw⟩;obtain⟨p,eA,_⟩:=hs;cases eA
theorem AIO{b0 b1 o1:Nat}{x0 x1:List Int}{P:Pt}(m0:AO true w (b0,0) (KU 960) x0)(h0:GB<=b0)(m1:AO true w (b1,o1) (KU 20) x1)(cj:b0≠b1)(hq:R3 P x1):Calls Tryz.prog 125 #[pp b0,.pointer (some ⟨b1,o1,none⟩)] w (TbP GC .pa (jc 64 P) 960 b0 w):=
 AB9 (bs:=[(b0,0),(b1,o1)]) (ins:=[x0,x1]) (args:=[pp b0,.pointer (some ⟨b1,o1,none⟩)]) (G:=λa=>BF 960 (Bb.raw Bc 0 a)) hG ε δ (KJ hG) (by rw[qA];exact⟨⟨rfl,m0,λ_=>h0⟩,⟨rfl,m1.ro,λh=>by cases h⟩,trivial⟩) (by rw[qA];exact ZA (Hf cj)) rfl ABz ACl lN (ADT Ec x0 x1 P hq)
set_option maxRecDepth 100000 in
theorem AHU:Calls Tryz.prog 89 #[] w (BtP GC w):=by
 refine enter (args:=[]) Tryz.func89 rfl (n:=7) rfl λa F=>?_
 refine AP (Aj F rfl λa F=>AJ ?_);refine AP (AZ F rfl AJC λa F=>AB F rfl λa F=>AJ ?_);have M1:=Dj w 960 .u64 184 ⟨by decide,by decide⟩;have f1:BD w (w.alloc (.cells (Array.replicate 960 (.int .u64 0)) 184)) (λ_ _=>False):=BC _ _ _;have s1:=EC w (.cells (Array.replicate 960 (.int .u64 0)) 184);generalize w.alloc (.cells (Array.replicate 960 (.int .u64 0)) 184)=w1 at M1 f1 s1 ⊢;refine AP (AA F rfl λa F=>EG F rfl (LG rfl Tryz.call126) (AGk hG (F4 hG ε f1 δ) (EX δ f1.1)) λe w2 h2=>?_);obtain⟨B,o,l,he,hB,mB,hR⟩:=h2.ret;have f2:=f1.trans h2.an;refine⟨_,he,λa F=>?_⟩;refine EG F rfl (Bg rfl F.e F.e Tryz.call125) (AIO hG h2.gw (EX δ f2.1) (M1.an h2.an λ_ _ h=>h) δ mB (by omega) hR) λe w3 h3=>⟨_,h3.ret,λa F=>AJ ?_⟩
 obtain⟨l3,m3,t3⟩:=h3.mem;have f3:BD w w3 (λ_ _=>False):=f2.trans' h3.an λb i hb (h:b=w.heap.size)=>by omega
 refine AP (AA F rfl λa F=>AB F rfl λa F=>AJ ?_);refine Cn ⟨F.df,pp w.heap.size,?_,⟨w.heap.size,l3,rfl,Ie _,m3,t3⟩,f3,F4 hG ε f3 δ⟩;have q:=F.tm 0;rw[YJ] at q;simp[results,Tryz.results89,go_sem];exact q
end
end
section
open Go Ma Go.RowKit Go.Lib
section
variable{P:Program}{ops:Array Oper}{Q:Exit->Act->World->Prop}{rest:List Oper}{a:Act}{w:World}{n:Nat}{f:Nat->Value}
theorem uU{j s:Nat}{b:Bool}(F:Fr a n f)(hy:(ops[j]?).bind (·.dst)=some s)(hs:f s= .bool b)(hn:s<n):yielded ops a.tmps j=some b:=by
 unfold yielded;have h1:a.tmps[s]? = some (.bool b):=by
  have h2:=F.tm s;rw[hs] at h2;have h3:s<a.tmps.size:=by rw[F.sz];exact hn
  rw[YJ,Array.getElem?_eq_getElem h3] at h2;rw[Array.getElem?_eq_getElem h3];exact CV some h2
 rw[hy];show(match a.tmps[s]? with|some (.bool b)=>some b|_=>none)=some b;rw[h1]
theorem GL{o:Oper}{t j s:Nat}{b b':Bool}(F:Fr a n f)(hg:o.guard=some (j,b))(hd:o.dst=some t)(ht:Nat.blt t n=true)(hy:(ops[j]?).bind (·.dst)=some s)(hs:f s= .bool b')(LO:Nat.blt s n=true)(cj:b'≠b)(hn:∀a',Fr a' n (Rw f t undef)->wpList P ops Q rest a' w):wpList P ops Q (o::rest) a w:=
 wpList_step λK hK=>by
  have hw:Region.wanted o (yielded ops a.tmps)=false:=by
   simp only[Region.wanted,hg];rw[uU F hy hs (Dh LO)];cases b<;>cases b'<;>simp_all
  rw[if_neg (by rw[hw];decide)];refine hK _ _ (hn _ ?_);rw[hd];exact F.put ht undef
theorem Ae{o:Oper}{t j s:Nat}{b:Bool}{v:Value}{w':World}(F:Fr a n f)(hg:o.guard=some (j,b))(hd:o.dst=some t)(ht:Nat.blt t n=true)(hy:(ops[j]?).bind (·.dst)=some s)(hs:f s= .bool b)(LO:Nat.blt s n=true)(h:(execOp a.eval o).run P w= .ok (.value v) w')(hn:∀a',Fr a' n (Rw f t v)->wpList P ops Q rest a' w'):wpList P ops Q (o::rest) a w:=
 wpList_step λK hK=>by
  have hw:Region.wanted o (yielded ops a.tmps)=true:=by
   simp only[Region.wanted,hg];rw[uU F hy hs (Dh LO)];simp
  rw[if_pos hw];unfold Oper.wp;rw[h];show K (a.put o.dst v) w';refine hK _ _ (hn _ ?_);rw[hd];exact F.put ht v
end
section
variable{ρ:Operand->Value}{d:Option Tmp}{x y z:Operand}{ty t t':TypeId}{pos:String}{af:Array Edge}{w:World}{b o:Nat}{gd:Option (Nat×Bool)}
theorem AK9{p:Option Addr}{m c:Nat}(h:ρ x= .slice p m c):(execOp ρ ⟨d,.call ⟨.builtin .len,#[x],#[181]⟩,ty,pos,af,none⟩).run Tryz.prog w= .ok (.value (.int .i64 m)) w:=by
 simp[go_sem,h]
theorem AQH{n c k:Nat}(h:ρ x= .slice (some ⟨b,o,none⟩) n c)(hy:ρ y= .int .i64 k)(hk:k<n):(execOp ρ ⟨d,.indexAddr 181 x y,ty,pos,af,none⟩).run Tryz.prog w= .ok (.value (.pointer (some ⟨b,o+k,none⟩))) w:=by
 simp[execOp,go_sem,h,hy,hk]
theorem AP1{v:Value}(h:ρ x= .pointer (some ⟨b,o,none⟩))(hc:w.cell? ⟨b,o,none⟩=some v):(execOp ρ ⟨d,.load 77 x,ty,pos,af,none⟩).run Tryz.prog w= .ok (.value v) w:=by
 simp[execOp,go_sem,h,hc]
theorem AGb(h:ρ x= .pointer (some ⟨b,o,none⟩)):(execOp ρ ⟨d,.fieldAddr 62 x 1,ty,pos,af,none⟩).run Tryz.prog w= .ok (.value (.pointer (some ⟨b,o,none⟩))) w:=by
 simp[execOp,go_sem,h]
theorem AJO(h:ρ x= .pointer (some ⟨b,o,none⟩)):(execOp ρ ⟨d,.fieldAddr 62 x 2,ty,pos,af,gd⟩).run Tryz.prog w= .ok (.value (.pointer (some ⟨b,o+5,none⟩))) w:=by
 simp[execOp,go_sem,h]
theorem APe{a:Act}:(execOp a.eval ⟨d,.build 60 #[],ty,pos,af,gd⟩).run Tryz.prog w= .ok (.value (.agg (AL (KU 5) [0,0,0,0,0]).toArray)) w:=by
 simp[execOp,go_sem];rfl
theorem AKl{xs ys:List Int}(h:ρ x= .agg (AL (KU 5) xs).toArray)(hy:ρ y= .agg (AL (KU 5) ys).toArray)(hx:EP (KU 5) xs)(hyr:EP (KU 5) ys):(execOp ρ ⟨d,.binOp .eql 60 x y t',ty,pos,af,gd⟩).run Tryz.prog w= .ok (.value (.bool (xs == ys))) w:=by
 obtain⟨h1,h2⟩:=qE 60 (KU 5) rfl xs ys hx hyr .eql x y w;simp only[execOp,h,hy,Gi,h1,Fb];simp only[binOp,Gi,h2,Fb,I4]
end
section
variable{ρ:Operand->Value}{d:Option Tmp}{x y z:Operand}{ty t t':TypeId}{pos:String}{af:Array Edge}{w:World}{b o:Nat}{gd:Option (Nat×Bool)}
theorem ARh{t:TypeId}{cs:List Value}(ha:∀w,(isAgg t).run Tryz.prog w= .ok true w)(hz:∀w,(sizeOf t).run Tryz.prog w= .ok cs.length w)(h:ρ x= .pointer (some ⟨b,o,none⟩))(hc:∀i v,cs[i]? = some v->w.cell? ⟨b,o+i,none⟩=some v):
  (execOp ρ ⟨d,.load t x,ty,pos,af,gd⟩).run Tryz.prog w= .ok (.value (.agg cs.toArray)) w:=by
 have hl:=run_loadCells_list (P:=Tryz.prog) w ⟨b,o,none⟩ cs (λj u hu=>by rw[Ce];exact hc j u hu);simp only[execOp,h,Instr.loadAt,Instr.sureAddr,loadVar,Gi,I4,Fb,ha,if_true,hz,hl]
theorem AL7{p:Addr}(h:ρ x= .pointer (some p)):(execOp ρ ⟨d,.nilCheck x,ty,pos,af,gd⟩).run Tryz.prog w= .ok (.value (.pointer (some p))) w:=by
 simp[execOp,go_sem,h]
theorem Dk{v:Value}(h:ρ x=v):(execOp ρ ⟨d,.move x,ty,pos,af,gd⟩).run Tryz.prog w= .ok (.value v) w:=by
 simp only[execOp,h];rfl
theorem NI{v:Value}(h:ρ x= .bool false)(hz:ρ z=v):(execOp ρ ⟨d,.pick x y z,ty,pos,af,gd⟩).run Tryz.prog w= .ok (.value v) w:=by
 simp[execOp,go_sem,h,hz]
theorem Nv{v:Value}(h:ρ x= .bool true)(hz:ρ y=v):(execOp ρ ⟨d,.pick x y z,ty,pos,af,gd⟩).run Tryz.prog w= .ok (.value v) w:=by
 simp[execOp,go_sem,h,hz]
end
theorem mX{l:List Int}{o:Nat}(h:(l.drop o).take 5= [0,0,0,0,0]):Mv l o:=λk hk=>by
 have h1:((l.drop o).take 5)[k]? = ([0,0,0,0,0]:List Int)[k]? := by rw[h]
 rw[List.getElem?_take,if_pos hk,List.getElem?_drop] at h1;rw[List.getD_eq_getElem?_getD,h1]
 match k,hk with
 |0,_=>rfl
 |1,_=>rfl
 |2,_=>rfl
 |3,_=>rfl
 |4,_=>rfl
theorem Qp{l:List Int}{k m:Nat}:∀i,i<m->l[k+i]? = ((l.drop k).take m)[i]? := λi hi=>by
 rw[List.getElem?_take,if_pos hi,List.getElem?_drop]
set_option maxRecDepth 100000 in
theorem wJ{w:World}{sb B:Nat}{l:List Int}(hc:w.cell? ⟨sb,0,none⟩=some (pp B))(m:AO true w (B,0) (KU 20) l)(hn:¬(Mv l 0/\Mv l 5)):Calls Tryz.prog 88 #[.slice (some ⟨sb,0,none⟩) 1 1] w (λe w'=>e= .returned (.tuple #[])/\w=w'):=by
 have hl:l.length=20:=m.1.1;have mx:AO true w (B,0) (KU 5) ((l.drop 0).take 5):=m.cut (by rw[Qw,VK,hl];rfl) (by omega) Qp;have my:AO true w (B,0+5) (KU 5) ((l.drop 5).take 5):=m.cut (k:=5) (by rw[Qw,VK,hl];rfl) (by omega) Qp;have h0:EP (KU 5) [0,0,0,0,0]:=O8 (by decide);have lx:(AL (KU 5) ((l.drop 0).take 5)).length=5:=Cg mx.1.1;have ly:(AL (KU 5) ((l.drop 5).take 5)).length=5:=Cg my.1.1;refine enter (args:=[.slice (some ⟨sb,0,none⟩) 1 1]) Tryz.func88 rfl (n:=26) rfl λa F=>?_
 refine AP (AA F rfl λa F=>AZ F rfl (AK9 F.e) λa F=>AZ F rfl (Dk rfl) λa F=>AJ ?_);refine wp_block (wp_loop_rounds _ (Gj (J:=λk a w'=>∃f,Fr a 26 f/\f 4= .slice (some ⟨sb,0,none⟩) 1 1/\f 5= .int .i64 ((1:Nat):Int)/\f 6= .int .i64 ((1-k:Nat):Int)/\k<=1/\w=w') ?_ ?_ 1 _ _ ⟨_,F,rfl,rfl,rfl,Ie _,rfl⟩))
 ·intro a w' ⟨f,F,e4,e5,e6,_,hw⟩;refine AP (AZ F rfl (Qc (F.ev e6) (F.ev e5)) λa F=>AJ ?_);refine wp_seq (wp_cond (t:=false) F.e (wp_exit ?_));refine⟨F.df,.tuple #[],?_,rfl,hw⟩;simp[results,Tryz.results88,go_sem]
 ·intro k a w' ⟨f,F,e4,e5,e6,hk,hw⟩;have lA:k=0:=by omega
  subst lA;subst hw;refine AP (AZ F rfl (Qc (F.ev e6) (F.ev e5)) λa F=>AJ ?_);refine wp_seq (wp_cond (t:=true) F.e (wp_skip ?_));refine wp_seq (wp_block (AP (AZ F rfl (AQH (k:=0) (F.ev e4) (F.ev e6) (by omega)) λa F=>AZ F rfl (AP1 F.e hc) λa F=>AB F rfl λa F=>AJ ?_)));refine AP (AA F rfl λa F=>Eu F rfl rfl λa F=>AZ F rfl (AGb F.e) λa F=>AZ F rfl (OL (cs:=AL (KU 5) ((l.drop 0).take 5)) (λw=>by simp[go_sem]) (λw=>by rw[lx];simp[go_sem]) F.e mx.cJ) λa F=>AZ F rfl APe λa F=>AZ F rfl (AKl F.e F.e mx.1 h0) λa F=>AA F rfl λa F=>?_);have G0:∀ {a:Act} {f':Nat->Value},Fr a 26 f'->f' 4= .slice (some ⟨sb,0,none⟩) 1 1->f' 5= .int .i64 ((1:Nat):Int)->f' 6= .int .i64 ((1-(0+1):Nat):Int)->(Uk 5 (Ab Tryz.f88)).wp Tryz.prog (λe a' w'=>e= .normal/\∃f,Fr a' 26 f/\f 4= .slice (some ⟨sb,0,none⟩) 1 1/\f 5= .int .i64 ((1:Nat):Int)/\f 6= .int .i64 ((1-0:Nat):Int)/\0<=1/\w=w') a w:=by
   intro a f' F e4 e5 e6;refine cp (AZ F rfl (XK (i:=((1-(0+1):Nat):Int)) (j:=1) (F.ev e6) rfl) λa F=>AZ F rfl (Dk F.e) λa F=>CY ?_);exact⟨rfl,_,F,e4,e5,rfl,by omega,rfl⟩
  by_cases hx:(l.drop 0).take 5= [0,0,0,0,0]
  ·have hy:¬(l.drop 5).take 5= [0,0,0,0,0]:=λh=>hn ⟨mX hx,mX h⟩
   have bx:((l.drop 0).take 5 == [0,0,0,0,0])=true:=by simpa using hx
   have pB:((l.drop 5).take 5 == [0,0,0,0,0])=false:=by simpa using hy
   refine Ae (s:=16) F rfl rfl rfl rfl (CV Value.bool bx) rfl (Dk F.e) λa F=>Ae (s:=16) F rfl rfl rfl rfl (CV Value.bool bx) rfl (AL7 F.e) λa F=>Ae (s:=16) F rfl rfl rfl rfl (CV Value.bool bx) rfl (AJO F.e) λa F=>Ae (s:=16) F rfl rfl rfl rfl (CV Value.bool bx) rfl (ARh (cs:=AL (KU 5) ((l.drop 5).take 5)) (λw=>by simp[go_sem]) (λw=>by rw[ly];simp[go_sem]) F.e my.cJ) λa F=>Ae (s:=16) F rfl rfl rfl rfl (CV Value.bool bx) rfl APe λa F=>Ae (s:=16) F rfl rfl rfl rfl (CV Value.bool bx) rfl (AKl F.e F.e my.1 h0) λa F=>AZ F rfl (Nv (F.ev (CV Value.bool bx)) (F.ev (CV Value.bool pB))) λa F=>AJ ?_
   exact wp_cond (t:=false) F.e (wp_skip (G0 F e4 e5 e6))
  ·have bx:((l.drop 0).take 5 == [0,0,0,0,0])=false:=by simpa using hx
   refine GL (s:=16) F rfl rfl rfl rfl (CV Value.bool bx) rfl (by decide) λa F=>GL (s:=16) F rfl rfl rfl rfl (CV Value.bool bx) rfl (by decide) λa F=>GL (s:=16) F rfl rfl rfl rfl (CV Value.bool bx) rfl (by decide) λa F=>GL (s:=16) F rfl rfl rfl rfl (CV Value.bool bx) rfl (by decide) λa F=>GL (s:=16) F rfl rfl rfl rfl (CV Value.bool bx) rfl (by decide) λa F=>GL (s:=16) F rfl rfl rfl rfl (CV Value.bool bx) rfl (by decide) λa F=>AZ F rfl (NI (F.ev (CV Value.bool bx)) rfl) λa F=>AJ ?_
   exact wp_cond (t:=false) F.e (wp_skip (G0 F e4 e5 e6))
end
section
open Go Ma Go.RowKit Go.Lib
theorem dW{d:List Int}{i:Nat}(h:i<d.length):Nn (d.drop i)=d.getD i 0+2*Nn (d.drop (i+1)):=by
 rw[List.drop_eq_getElem_cons h];have:d.getD i 0=d[i]:=by simp[List.getD,h]
 rw[this];rfl
def ky(A B:Pt)(da db:List Int)(k:Nat):Pt:=(A.zm (Nn (da.drop k))).add (B.zm (Nn (db.drop k)))
structure VO (w:World) (bv b9 bT bN bM bA bB b1 b2:Nat):Prop where
 h0:bv<w.heap.size
 h1:w.heap.size<=b9
 h2:b9<bT
 h3:bT<bN
 h4:bN<bM
 h5:bM<bA
 h6:bA<bB
 h7:bB<b1
 h8:b1<b2
structure VS (GC:Nat->Nat->Option Value) (w:World) (bv b9 bT bN bM bA bB b1 b2:Nat) (lT l9 da db:List Int) (pv pa pb p1 p2:List Int->Prop) (f:Nat->Value) (w':World):Prop where
 f0:f 0=pp bv
 f9:f 9=pp b9
 f10:f 10=pp bT
 f11:f 11=pp bN
 f12:f 12=pp bM
 f14:f 14=pp bA
 f15:f 15=pp bB
 f16:f 16=pp b1
 f17:f 17=pp b2
 v:∃x,AO true w' (bv,0) (KU 20) x/\pv x
 a:∃x,AO true w' (bA,0) (KU 20) x/\pa x
 b:∃x,AO true w' (bB,0) (KU 15) x/\pb x
 t1:∃x,AO true w' (b1,0) (KU 20) x/\p1 x
 t2:∃x,AO true w' (b2,0) (KU 15) x/\p2 x
 m9:AO true w' (b9,0) (KU 960) l9
 mT:AO true w' (bT,0) (KU 160) lT
 mN:AO true w' (bN,0) K7 da
 mM:AO true w' (bM,0) K7 db
 fr:BD w w' (λb _=>b=bv)
 gw:GW GC w'
section
variable{GC:Nat->Nat->Option Value}{w:World}{bv b9 bT bN bM bA bB b1 b2:Nat}{lT l9 da db:List Int}{pv pa pb p1 p2 q:List Int->Prop}{f f':Nat->Value}{w1 w2:World}
theorem VS.cH(s:VS GC w bv b9 bT bN bM bA bB b1 b2 lT l9 da db pv pa pb p1 p2 f w1)(h:∀t,t ∈ [0,9,10,11,12,14,15,16,17]->f' t=f t):VS GC w bv b9 bT bN bM bA bB b1 b2 lT l9 da db pv pa pb p1 p2 f' w1:=
 ⟨(h 0 (by decide)).trans s.f0,(h 9 (by decide)).trans s.f9,(h 10 (by decide)).trans s.f10,(h 11 (by decide)).trans s.f11,(h 12 (by decide)).trans s.f12,(h 14 (by decide)).trans s.f14,(h 15 (by decide)).trans s.f15,(h 16 (by decide)).trans s.f16,(h 17 (by decide)).trans s.f17,s.v,s.a,s.b,s.t1,s.t2,s.m9,s.mT,s.mN,s.mM,s.fr,s.gw⟩
theorem gK{X b n:Nat}{p:List Int->Prop}(h:∃x,AO true w1 (b,0) (KU n) x/\p x)(hf:BD w1 w2 (λc _=>c=X))(hn:b≠X):∃x,AO true w2 (b,0) (KU n) x/\p x:=by
 obtain⟨x,m,hp⟩:=h;exact⟨x,m.an hf λ_ _ h=>hn h,hp⟩
variable(o:VO w bv b9 bT bN bM bA bB b1 b2)(s:VS GC w bv b9 bT bN bM bA bB b1 b2 lT l9 da db pv pa pb p1 p2 f w1)(gw:GW GC w2)
include o s gw
theorem VS.L0(hf:BD w1 w2 (λb _=>b=bv))(hm:∃x,AO true w2 (bv,0) (KU 20) x/\q x):VS GC w bv b9 bT bN bM bA bB b1 b2 lT l9 da db q pa pb p1 p2 f w2:=by
 obtain⟨h0,h1,h2,h3,h4,h5,h6,h7,h8⟩:=o;exact⟨s.f0,s.f9,s.f10,s.f11,s.f12,s.f14,s.f15,s.f16,s.f17,hm,gK s.a hf (by omega),gK s.b hf (by omega),gK s.t1 hf (by omega),gK s.t2 hf (by omega),s.m9.an hf λ_ _ h=>by omega,s.mT.an hf λ_ _ h=>by omega,s.mN.an hf λ_ _ h=>by omega,s.mM.an hf λ_ _ h=>by omega,s.fr.trans hf,gw⟩
theorem VS.adi(hf:BD w1 w2 (λb _=>b=bA))(hm:∃x,AO true w2 (bA,0) (KU 20) x/\q x):VS GC w bv b9 bT bN bM bA bB b1 b2 lT l9 da db pv q pb p1 p2 f w2:=by
 obtain⟨h0,h1,h2,h3,h4,h5,h6,h7,h8⟩:=o;exact⟨s.f0,s.f9,s.f10,s.f11,s.f12,s.f14,s.f15,s.f16,s.f17,gK s.v hf (by omega),hm,gK s.b hf (by omega),gK s.t1 hf (by omega),gK s.t2 hf (by omega),s.m9.an hf λ_ _ h=>by omega,s.mT.an hf λ_ _ h=>by omega,s.mN.an hf λ_ _ h=>by omega,s.mM.an hf λ_ _ h=>by omega,s.fr.trans' hf λb i hb (h:b=bA)=>by omega,gw⟩
theorem VS.adK(hf:BD w1 w2 (λb _=>b=bB))(hm:∃x,AO true w2 (bB,0) (KU 15) x/\q x):VS GC w bv b9 bT bN bM bA bB b1 b2 lT l9 da db pv pa q p1 p2 f w2:=by
 obtain⟨h0,h1,h2,h3,h4,h5,h6,h7,h8⟩:=o;exact⟨s.f0,s.f9,s.f10,s.f11,s.f12,s.f14,s.f15,s.f16,s.f17,gK s.v hf (by omega),gK s.a hf (by omega),hm,gK s.t1 hf (by omega),gK s.t2 hf (by omega),s.m9.an hf λ_ _ h=>by omega,s.mT.an hf λ_ _ h=>by omega,s.mN.an hf λ_ _ h=>by omega,s.mM.an hf λ_ _ h=>by omega,s.fr.trans' hf λb i hb (h:b=bB)=>by omega,gw⟩
theorem VS.yb(hf:BD w1 w2 (λb _=>b=b1))(hm:∃x,AO true w2 (b1,0) (KU 20) x/\q x):VS GC w bv b9 bT bN bM bA bB b1 b2 lT l9 da db pv pa pb q p2 f w2:=by
 obtain⟨h0,h1,h2,h3,h4,h5,h6,h7,h8⟩:=o;exact⟨s.f0,s.f9,s.f10,s.f11,s.f12,s.f14,s.f15,s.f16,s.f17,gK s.v hf (by omega),gK s.a hf (by omega),gK s.b hf (by omega),hm,gK s.t2 hf (by omega),s.m9.an hf λ_ _ h=>by omega,s.mT.an hf λ_ _ h=>by omega,s.mN.an hf λ_ _ h=>by omega,s.mM.an hf λ_ _ h=>by omega,s.fr.trans' hf λb i hb (h:b=b1)=>by omega,gw⟩
theorem VS.aiI(hf:BD w1 w2 (λb _=>b=b2))(hm:∃x,AO true w2 (b2,0) (KU 15) x/\q x):VS GC w bv b9 bT bN bM bA bB b1 b2 lT l9 da db pv pa pb p1 q f w2:=by
 obtain⟨h0,h1,h2,h3,h4,h5,h6,h7,h8⟩:=o;exact⟨s.f0,s.f9,s.f10,s.f11,s.f12,s.f14,s.f15,s.f16,s.f17,gK s.v hf (by omega),gK s.a hf (by omega),gK s.b hf (by omega),gK s.t1 hf (by omega),hm,s.m9.an hf λ_ _ h=>by omega,s.mT.an hf λ_ _ h=>by omega,s.mN.an hf λ_ _ h=>by omega,s.mM.an hf λ_ _ h=>by omega,s.fr.trans' hf λb i hb (h:b=b2)=>by omega,gw⟩
end
end
section
open Go Ma Go.RowKit Go.Lib
theorem ZC{w:Nat}{x:Int}(h:tJ w x):x=0\/(∃j:Nat,x=((2*j+1:Nat):Int)/\2*j+1<2^(w-1))\/∃j:Nat,x= -((2*j+1:Nat):Int)/\2*j+1<2^(w-1):=by
 rcases h with h|⟨h1,h2,h3⟩
 ·exact .inl h
 ·rcases Int.lt_or_le x 0 with h0|h0
  ·refine .inr (.inr ⟨((-x).toNat)/2,?_,?_⟩)
   ·omega
   ·have:((-x).toNat:Int)<((2^(w-1):Nat):Int):=by omega
    have:=C5.1 this;omega
  ·refine .inr (.inl ⟨x.toNat/2,?_,?_⟩)
   ·omega
   ·have:(x.toNat:Int)<((2^(w-1):Nat):Int):=by omega
    have:=C5.1 this;omega
theorem ASg{j:Nat}(h:2*j+1<2^(5-1)):j<8:=by
 have h:2*j+1<16:=h;omega
theorem AR2{j:Nat}(h:2*j+1<2^(8-1)):j<64:=by
 have h:2*j+1<128:=h;omega
theorem AEF(a b c d:Pt):(a.add b).add (c.add d)=(a.add c).add (b.add d):=by
 rw[Pt.add_assoc,Pt.add_assoc, <- Pt.add_assoc b c d,Pt.add_comm b c,Pt.add_assoc c b d]
theorem pg{A B:Pt}{da db:List Int}{i:Nat}(ha:i<da.length)(hb:i<db.length):(((ky A B da db (i+1)).add (ky A B da db (i+1))).add (A.zm (da.getD i 0))).add (B.zm (db.getD i 0))=ky A B da db i:=by
 unfold ky;rw[dW ha,dW hb,Pt.kj,Pt.kj,show 2*Nn (da.drop (i+1))=Nn (da.drop (i+1))+Nn (da.drop (i+1)) by omega,show 2*Nn (db.drop (i+1))=Nn (db.drop (i+1))+Nn (db.drop (i+1)) by omega,Pt.kj,Pt.kj];generalize A.zm (Nn (da.drop (i+1)))=a;generalize B.zm (Nn (db.drop (i+1)))=b;generalize A.zm (da.getD i 0)=x;generalize B.zm (db.getD i 0)=y;rw[AEF a b a b];generalize a.add a=a2;generalize b.add b=b2;rw[Pt.add_assoc (a2.add b2) x y,AEF,Pt.add_comm a2 x,Pt.add_comm b2 y]
section
variable{GC:Nat->Nat->Option Value}{w:World}{bv b9 bT bN bM bA bB b1 b2:Nat}{lT l9 da db:List Int}{pv pa pb p1 p2 q:List Int->Prop}{f f':Nat->Value}{w1 w2:World}
def TT:List Int->Prop:=λ_=>True
theorem VS.wk(s:VS GC w bv b9 bT bN bM bA bB b1 b2 lT l9 da db pv pa pb p1 p2 f w1):VS GC w bv b9 bT bN bM bA bB b1 b2 lT l9 da db TT TT TT p1 p2 f w1:=
 ⟨s.f0,s.f9,s.f10,s.f11,s.f12,s.f14,s.f15,s.f16,s.f17,s.v.imp λ_ h=>⟨h.1,trivial⟩,s.a.imp λ_ h=>⟨h.1,trivial⟩,s.b.imp λ_ h=>⟨h.1,trivial⟩,s.t1,s.t2,s.m9,s.mT,s.mN,s.mM,s.fr,s.gw⟩
theorem VS.yd(s:VS GC w bv b9 bT bN bM bA bB b1 b2 lT l9 da db pv pa pb p1 p2 f w1)(h:∀x,p1 x->q x):VS GC w bv b9 bT bN bM bA bB b1 b2 lT l9 da db pv pa pb q p2 f w1:=
 ⟨s.f0,s.f9,s.f10,s.f11,s.f12,s.f14,s.f15,s.f16,s.f17,s.v,s.a,s.b,s.t1.imp λ_ g=>⟨g.1,h _ g.2⟩,s.t2,s.m9,s.mT,s.mN,s.mM,s.fr,s.gw⟩
end
theorem AEU{ρ:Operand->Value}{d:Option Tmp}{x:Operand}{ty t:TypeId}{pos:String}{af:Array Edge}{w:World}{j:Nat}(hx:ρ x= .int .i8 (-((2*j+1:Nat):Int)))(hj:j<64):(execOp ρ ⟨d,.unOp .neg t x,ty,pos,af,none⟩).run Tryz.prog w= .ok (.value (.int .i8 ((2*j+1:Nat):Int))) w:=by
 have e:IntKind.i8.wrap (-(-((2*j+1:Nat):Int)))=((2*j+1:Nat):Int):=by
  rw[Int.neg_neg,wi8 (by omega) (by omega)]
 simp[execOp,go_sem,hx];simpa using e
theorem jr{ρ:Operand->Value}{d:Option Tmp}{x y:Operand}{ty t t':TypeId}{pos:String}{af:Array Edge}{w:World}{i j:Int}(hx:ρ x= .int .i8 i)(hy:ρ y= .int .i8 j):(execOp ρ ⟨d,.binOp .lss t x y t',ty,pos,af,none⟩).run Tryz.prog w= .ok (.value (.bool (decide (i<j)))) w:=by
 simp[execOp,go_sem,hx,hy]
set_option maxRecDepth 100000 in
theorem AFF{GB:Nat}{GC:Nat->Nat->Option Value}{ad:Nat->Nat×Nat}(hG:GI GB GC ad){w:World}{bv b9 bT bN bM bA bB b1 b2 i:Nat}{lT l9 da db:List Int}{pv pa pb p1:List Int->Prop}{A:Pt}(o:VO w bv b9 bT bN bM bA bB b1 b2)(δ:GB<=w.heap.size)(lf:GB<=bv)(hT:NE .pc (jc 8 A) lT)(h9:NE .pa (jc 64 Um) l9)(hla:da.length=256)(hlb:db.length=256)(hda:∀i,tJ 5 (da.getD i 0))(hdb:∀i,tJ 8 (db.getD i 0))(hi:i<256){X:Code}(hX:X=PU 2 (Ab Tryz.f60)){a:Act}{w':World}{f:Nat->Value}(F:Fr a 134 f)(ψ:f 13= .int .i64 (i:Int))(s:VS GC w bv b9 bT bN bM bA bB b1 b2 lT l9 da db pv pa pb p1 (R2 (ky A Um da db (i+1))) f w'):
  X.wp Tryz.prog (λe a' w'=>e= .normal/\∃f,Fr a' 134 f/\f 13= .int .i64 (MJ i)/\VS GC w bv b9 bT bN bM bA bB b1 b2 lT l9 da db TT TT TT TT (R2 (ky A Um da db i)) f w') a w':=by
 subst hX;obtain⟨o0,o1,o2,o3,o4,o5,o6,o7,o8⟩:=id o;have hb:decide ((0:Int)<=(i:Int))=true:=decide_eq_true (nI i);generalize hQ:ky A Um da db (i+1)=Q at *
 refine wp_seq (wp_seq (cp (AA F rfl λa F=>AZ F rfl (Np (F.ev ψ) rfl) λa F=>CY ?_)));refine wp_cond (t:=true) (F.ev (CV Value.bool hb)) (wp_skip ?_);refine wp_seq (wp_block ?_);obtain⟨y1,m1,-⟩:=s.t1;obtain⟨y2,m2,r2⟩:=s.t2;refine AP (AA F rfl λa F=>AA F rfl λa F=>EG F rfl (Bg rfl (F.ev (t:=56) s.f16) (F.ev (t:=57) s.f17) Tryz.call93) (AH2 hG s.gw (EX δ s.fr.1) m1 (by omega) m2 (by omega) r2) λe w2 h2=>⟨_,h2.ret,λa F=>AJ ?_⟩);have s2:=(s.yb o h2.gw h2.an h2.mem).wk;clear m1 m2 r2 s;refine GM (J:=λa w3=>∃f',Fr a 134 f'/\f' 13= .int .i64 (i:Int)/\VS GC w bv b9 bT bN bM bA bB b1 b2 lT l9 da db TT TT TT (zx ((Q.add Q).add (A.zm (da.getD i 0)))) (R2 Q) f' w3) (AP (AA F rfl λa F=>AZ F rfl (JM (k:=i) (F.ev s2.f11) (F.ev ψ) hi) λa F=>AZ F rfl (RO F.e (s2.mN.cell hi).1) λa F=>AZ F rfl (ig (k:=.i8) F.e rfl) λa F=>AJ ?_)) ?_
 ·have kx:=(s2.mN.cell hi).1;rcases ZC (hda i) with hx|⟨j,hx,hj⟩|⟨j,hx,hj⟩
  ·have rj:decide ((0:Int)<da.getD i 0)=false:=decide_eq_false (by omega);have cV:decide (da.getD i 0<(0:Int))=false:=decide_eq_false (by omega);refine wp_cond (t:=false) (F.ev (CV Value.bool rj)) ?_;refine AP (AA F rfl λa F=>AZ F rfl (JM (k:=i) (F.ev s2.f11) (F.ev ψ) hi) λa F=>AZ F rfl (RO F.e kx) λa F=>AZ F rfl (jr F.e rfl) λa F=>AJ ?_);refine wp_cond (t:=false) (F.ev (CV Value.bool cV)) (wp_skip ?_);refine⟨rfl,_,F,ψ,(s2.yd λx h=>?_).cH ?_⟩
   ·rw[hx,Pt.gh,Pt.add_zero];exact h
   ·exact λt ht=>by
     simp only[G9,List.not_mem_nil,or_false] at ht;rcases ht with rfl|rfl|rfl|rfl|rfl|rfl|rfl|rfl|rfl<;>rfl
  ·have hj8:j<8:=ASg hj;have rj:decide ((0:Int)<da.getD i 0)=true:=decide_eq_true (by omega);refine wp_cond (t:=true) (F.ev (CV Value.bool rj)) ?_;obtain⟨z1,n1,q1⟩:=s2.t1;obtain⟨z0,n0,-⟩:=s2.v;refine AP (AA F rfl λa F=>AA F rfl λa F=>EG F rfl (Bg rfl (F.ev (t:=63) s2.f0) (F.ev (t:=64) s2.f16) Tryz.call94) (SB hG s2.gw (EX δ s2.fr.1) n0 lf n1 (by omega) q1) λe w3 h3=>⟨_,h3.ret,λa F=>AJ ?_⟩);have s3:=s2.L0 o h3.gw h3.an h3.mem;have Wk:=(s3.mN.cell hi).1;obtain⟨z2,n2,-⟩:=s3.a;refine AP (AA F rfl λa F=>AA F rfl λa F=>AZ F rfl (JM (k:=i) (F.ev s3.f11) (F.ev ψ) hi) λa F=>AZ F rfl (RO F.e Wk) λa F=>EG F rfl (Hr rfl (F.ev (t:=10) s3.f10) (F.ev (t:=66) s3.f14) (F.ev (t:=69) (CV (Value.int .i8) hx)) Tryz.call95) (nQ hG s3.gw (EX δ s3.fr.1) s3.mT n2 (by omega) hT hj8) λe w4 h4=>⟨_,h4.ret,λa F=>AJ ?_⟩);have s4:=s3.adi o h4.gw h4.an h4.mem;obtain⟨u1,l1,-⟩:=s4.t1;obtain⟨u0,l0,g0⟩:=s4.v;obtain⟨u2,l2,g2⟩:=s4.a;refine cp (AA F rfl λa F=>AA F rfl λa F=>AA F rfl λa F=>EG F rfl (Hr rfl (F.ev (t:=71) s4.f16) (F.ev (t:=72) s4.f0) (F.ev (t:=73) s4.f14) Tryz.call96) (ACR hG s4.gw (EX δ s4.fr.1) l1 (by omega) l0 l2 (by omega) (by omega) (by omega) g0 g2) λe w5 h5=>⟨_,h5.ret,λa F=>CY ?_⟩);have s5:=(s4.yb o h5.gw h5.an h5.mem).wk;refine⟨rfl,_,F,ψ,(s5.yd λx h=>?_).cH ?_⟩
   ·rw[hx];exact h
   ·exact λt ht=>by
     simp only[G9,List.not_mem_nil,or_false] at ht;rcases ht with rfl|rfl|rfl|rfl|rfl|rfl|rfl|rfl|rfl<;>rfl
  ·have hj8:j<8:=ASg hj;have rj:decide ((0:Int)<da.getD i 0)=false:=decide_eq_false (by omega);have cV:decide (da.getD i 0<(0:Int))=true:=decide_eq_true (by omega);refine wp_cond (t:=false) (F.ev (CV Value.bool rj)) ?_;refine AP (AA F rfl λa F=>AZ F rfl (JM (k:=i) (F.ev s2.f11) (F.ev ψ) hi) λa F=>AZ F rfl (RO F.e kx) λa F=>AZ F rfl (jr F.e rfl) λa F=>AJ ?_);refine wp_cond (t:=true) (F.ev (CV Value.bool cV)) ?_;obtain⟨z1,n1,q1⟩:=s2.t1;obtain⟨z0,n0,-⟩:=s2.v;refine AP (AA F rfl λa F=>AA F rfl λa F=>EG F rfl (Bg rfl (F.ev (t:=79) s2.f0) (F.ev (t:=80) s2.f16) Tryz.call94) (SB hG s2.gw (EX δ s2.fr.1) n0 lf n1 (by omega) q1) λe w3 h3=>⟨_,h3.ret,λa F=>AJ ?_⟩);have s3:=s2.L0 o h3.gw h3.an h3.mem;have Wk:=(s3.mN.cell hi).1;obtain⟨z2,n2,-⟩:=s3.a;refine AP (AA F rfl λa F=>AA F rfl λa F=>AZ F rfl (JM (k:=i) (F.ev s3.f11) (F.ev ψ) hi) λa F=>AZ F rfl (RO F.e Wk) λa F=>AZ F rfl (AEU (j:=j) (F.ev (t:=85) (CV (Value.int .i8) hx)) (by omega)) λa F=>EG F rfl (Hr rfl (F.ev (t:=10) s3.f10) (F.ev (t:=82) s3.f14) F.e Tryz.call95) (nQ hG s3.gw (EX δ s3.fr.1) s3.mT n2 (by omega) hT hj8) λe w4 h4=>⟨_,h4.ret,λa F=>AJ ?_⟩);have s4:=s3.adi o h4.gw h4.an h4.mem;obtain⟨u1,l1,-⟩:=s4.t1;obtain⟨u0,l0,g0⟩:=s4.v;obtain⟨u2,l2,g2⟩:=s4.a;refine cp (AA F rfl λa F=>AA F rfl λa F=>AA F rfl λa F=>EG F rfl (Hr rfl (F.ev (t:=88) s4.f16) (F.ev (t:=89) s4.f0) (F.ev (t:=90) s4.f14) Tryz.call97) (ABs hG s4.gw (EX δ s4.fr.1) l1 (by omega) l0 l2 (by omega) (by omega) (by omega) g0 g2) λe w5 h5=>⟨_,h5.ret,λa F=>CY ?_⟩);have s5:=(s4.yb o h5.gw h5.an h5.mem).wk;refine⟨rfl,_,F,ψ,(s5.yd λx h=>?_).cH ?_⟩
   ·rw[hx,Pt.tD];exact h
   ·exact λt ht=>by
     simp only[G9,List.not_mem_nil,or_false] at ht;rcases ht with rfl|rfl|rfl|rfl|rfl|rfl|rfl|rfl|rfl<;>rfl
 rintro a w6 ⟨f6,F,ψ,s6⟩;clear s2 h2;generalize hP:(Q.add Q).add (A.zm (da.getD i 0))=P at *
 refine GM (J:=λa w3=>∃f',Fr a 134 f'/\f' 13= .int .i64 (i:Int)/\VS GC w bv b9 bT bN bM bA bB b1 b2 lT l9 da db TT TT TT (zx (P.add (Um.zm (db.getD i 0)))) (R2 Q) f' w3) (AP (AA F rfl λa F=>AZ F rfl (JM (k:=i) (F.ev s6.f12) (F.ev ψ) hi) λa F=>AZ F rfl (RO F.e (s6.mM.cell hi).1) λa F=>AZ F rfl (ig (k:=.i8) F.e rfl) λa F=>AJ ?_)) ?_
 ·have kx:=(s6.mM.cell hi).1;rcases ZC (hdb i) with hx|⟨j,hx,hj⟩|⟨j,hx,hj⟩
  ·have rj:decide ((0:Int)<db.getD i 0)=false:=decide_eq_false (by omega);have cV:decide (db.getD i 0<(0:Int))=false:=decide_eq_false (by omega);refine wp_cond (t:=false) (F.ev (CV Value.bool rj)) ?_;refine AP (AA F rfl λa F=>AZ F rfl (JM (k:=i) (F.ev s6.f12) (F.ev ψ) hi) λa F=>AZ F rfl (RO F.e kx) λa F=>AZ F rfl (jr F.e rfl) λa F=>AJ ?_);refine wp_cond (t:=false) (F.ev (CV Value.bool cV)) (wp_skip ?_);refine⟨rfl,_,F,ψ,(s6.yd λx h=>?_).cH ?_⟩
   ·rw[hx,Pt.gh,Pt.add_zero];exact h
   ·exact λt ht=>by
     simp only[G9,List.not_mem_nil,or_false] at ht;rcases ht with rfl|rfl|rfl|rfl|rfl|rfl|rfl|rfl|rfl<;>rfl
  ·have hj8:j<64:=AR2 hj;have rj:decide ((0:Int)<db.getD i 0)=true:=decide_eq_true (by omega);refine wp_cond (t:=true) (F.ev (CV Value.bool rj)) ?_;obtain⟨z1,n1,q1⟩:=s6.t1;obtain⟨z0,n0,-⟩:=s6.v;refine AP (AA F rfl λa F=>AA F rfl λa F=>EG F rfl (Bg rfl (F.ev (t:=96) s6.f0) (F.ev (t:=97) s6.f16) Tryz.call94) (SB hG s6.gw (EX δ s6.fr.1) n0 lf n1 (by omega) q1) λe w3 h3=>⟨_,h3.ret,λa F=>AJ ?_⟩);have s3:=s6.L0 o h3.gw h3.an h3.mem;have Wk:=(s3.mM.cell hi).1;obtain⟨z2,n2,-⟩:=s3.b;refine AP (AA F rfl λa F=>AA F rfl λa F=>AA F rfl λa F=>AZ F rfl (JM (k:=i) (F.ev s3.f12) (F.ev ψ) hi) λa F=>AZ F rfl (RO F.e Wk) λa F=>EG F rfl (Hr rfl (F.ev (t:=99) s3.f9) (F.ev (t:=100) s3.f15) (F.ev (t:=103) (CV (Value.int .i8) hx)) Tryz.call98) (mD hG s3.gw (EX δ s3.fr.1) s3.m9 n2 (by omega) h9 hj8) λe w4 h4=>⟨_,h4.ret,λa F=>AJ ?_⟩);have s4:=s3.adK o h4.gw h4.an h4.mem;obtain⟨u1,l1,-⟩:=s4.t1;obtain⟨u0,l0,g0⟩:=s4.v;obtain⟨u2,l2,g2⟩:=s4.b;refine cp (AA F rfl λa F=>AA F rfl λa F=>AA F rfl λa F=>EG F rfl (Hr rfl (F.ev (t:=105) s4.f16) (F.ev (t:=106) s4.f0) (F.ev (t:=107) s4.f15) Tryz.call99) (AC5 hG s4.gw (EX δ s4.fr.1) l1 (by omega) l0 l2 (by omega) (by omega) (by omega) g0 g2) λe w5 h5=>⟨_,h5.ret,λa F=>CY ?_⟩);have s5:=(s4.yb o h5.gw h5.an h5.mem).wk;refine⟨rfl,_,F,ψ,(s5.yd λx h=>?_).cH ?_⟩
   ·rw[hx];exact h
   ·exact λt ht=>by
     simp only[G9,List.not_mem_nil,or_false] at ht;rcases ht with rfl|rfl|rfl|rfl|rfl|rfl|rfl|rfl|rfl<;>rfl
  ·have hj8:j<64:=AR2 hj;have rj:decide ((0:Int)<db.getD i 0)=false:=decide_eq_false (by omega);have cV:decide (db.getD i 0<(0:Int))=true:=decide_eq_true (by omega);refine wp_cond (t:=false) (F.ev (CV Value.bool rj)) ?_;refine AP (AA F rfl λa F=>AZ F rfl (JM (k:=i) (F.ev s6.f12) (F.ev ψ) hi) λa F=>AZ F rfl (RO F.e kx) λa F=>AZ F rfl (jr F.e rfl) λa F=>AJ ?_);refine wp_cond (t:=true) (F.ev (CV Value.bool cV)) ?_;obtain⟨z1,n1,q1⟩:=s6.t1;obtain⟨z0,n0,-⟩:=s6.v;refine AP (AA F rfl λa F=>AA F rfl λa F=>EG F rfl (Bg rfl (F.ev (t:=113) s6.f0) (F.ev (t:=114) s6.f16) Tryz.call94) (SB hG s6.gw (EX δ s6.fr.1) n0 lf n1 (by omega) q1) λe w3 h3=>⟨_,h3.ret,λa F=>AJ ?_⟩);have s3:=s6.L0 o h3.gw h3.an h3.mem;have Wk:=(s3.mM.cell hi).1;obtain⟨z2,n2,-⟩:=s3.b;refine AP (AA F rfl λa F=>AA F rfl λa F=>AA F rfl λa F=>AZ F rfl (JM (k:=i) (F.ev s3.f12) (F.ev ψ) hi) λa F=>AZ F rfl (RO F.e Wk) λa F=>AZ F rfl (AEU (j:=j) (F.ev (t:=120) (CV (Value.int .i8) hx)) (by omega)) λa F=>EG F rfl (Hr rfl (F.ev (t:=116) s3.f9) (F.ev (t:=117) s3.f15) F.e Tryz.call98) (mD hG s3.gw (EX δ s3.fr.1) s3.m9 n2 (by omega) h9 hj8) λe w4 h4=>⟨_,h4.ret,λa F=>AJ ?_⟩);have s4:=s3.adK o h4.gw h4.an h4.mem;obtain⟨u1,l1,-⟩:=s4.t1;obtain⟨u0,l0,g0⟩:=s4.v;obtain⟨u2,l2,g2⟩:=s4.b;refine cp (AA F rfl λa F=>AA F rfl λa F=>AA F rfl λa F=>EG F rfl (Hr rfl (F.ev (t:=123) s4.f16) (F.ev (t:=124) s4.f0) (F.ev (t:=125) s4.f15) Tryz.call100) (AB8 hG s4.gw (EX δ s4.fr.1) l1 (by omega) l0 l2 (by omega) (by omega) (by omega) g0 g2) λe w5 h5=>⟨_,h5.ret,λa F=>CY ?_⟩);have s5:=(s4.yb o h5.gw h5.an h5.mem).wk;refine⟨rfl,_,F,ψ,(s5.yd λx h=>?_).cH ?_⟩
   ·rw[hx,Pt.tD];exact h
   ·exact λt ht=>by
     simp only[G9,List.not_mem_nil,or_false] at ht;rcases ht with rfl|rfl|rfl|rfl|rfl|rfl|rfl|rfl|rfl<;>rfl
 rintro a w7 ⟨f7,F,ψ,s7⟩;obtain⟨y1,m1,r1⟩:=s7.t1;obtain⟨y2,m2,-⟩:=s7.t2;have hQ2:=pg (A:=A) (B:=Um) (da:=da) (db:=db) (i:=i) (by omega) (by omega);rw[hQ,hP] at hQ2;rw[hQ2] at r1;refine cp (AA F rfl λa F=>AA F rfl λa F=>EG F rfl (Bg rfl (F.ev (t:=127) s7.f17) (F.ev (t:=128) s7.f16) Tryz.call101) (vI hG s7.gw (EX δ s7.fr.1) m2 (by omega) m1 (by omega) r1) λe w8 h8=>⟨_,h8.ret,λa F=>CY ?_⟩);have s8:=(s7.aiI o h8.gw h8.an h8.mem).wk;refine cp (AA F rfl λa F=>AZ F rfl (TQ (i:=(i:Int)) (j:=1) (F.ev ψ) rfl) λa F=>AB F rfl λa F=>CY ?_);refine⟨rfl,_,F,CV (Value.int .i64) (MQ (n:=i) (by omega)),(s8.yd λx h=>trivial).cH λt ht=>?_⟩;simp only[G9,List.not_mem_nil,or_false] at ht;rcases ht with rfl|rfl|rfl|rfl|rfl|rfl|rfl|rfl|rfl<;>rfl
end
section
open Go Ma Go.RowKit Go.Lib
section
variable{ρ:Operand->Value}{d:Option Tmp}{x y z:Operand}{ty t t':TypeId}{pos:String}{af:Array Edge}{w:World}{b o:Nat}{gd:Option (Nat×Bool)}
theorem AJo(h:ρ x= .pointer (some ⟨b,o,none⟩)):(execOp ρ ⟨d,.buildSlice 181 1 #[(0,x)],ty,pos,af,none⟩).run Tryz.prog w= .ok (.value (.slice (some ⟨w.heap.size,0,none⟩) 1 1)) (w.alloc (.cells #[.pointer (some ⟨b,o,none⟩)] 77)):=by
 simp[execOp,go_sem,h,Instr.buildSlice]
theorem ATD:Tryz.zeroCells138=Array.replicate 160 (.int .u64 0):=by kernel_rfl
set_option maxRecDepth 100000 in
theorem AHk:(execOp ρ ⟨d,.alloc 138,ty,pos,af,none⟩).run Tryz.prog w= .ok (.value (.pointer (some ⟨w.heap.size,0,none⟩))) (w.alloc (.cells (Array.replicate 160 (.int .u64 0)) 138)):=by
 rw[<- ATD];simp[execOp,go_sem]
def YN:List Int:=List.replicate 15 0
theorem z15:(#[.int .u64 0,.int .u64 0,.int .u64 0,.int .u64 0,.int .u64 0,.int .u64 0,.int .u64 0,.int .u64 0,.int .u64 0,.int .u64 0,.int .u64 0,.int .u64 0,.int .u64 0,.int .u64 0,.int .u64 0]:Array Value)=(AL (KU 15) YN).toArray:=rfl
theorem AMU:(execOp ρ ⟨d,.build 135 #[],ty,pos,af,none⟩).run Tryz.prog w= .ok (.value (.agg (AL (KU 20) dh).toArray)) w:=by
 have:=z20;rw[show KU 20=List.replicate 20 .u64 from rfl, <- z20];simp[execOp,go_sem]
theorem ALl:(execOp ρ ⟨d,.build 146 #[],ty,pos,af,none⟩).run Tryz.prog w= .ok (.value (.agg (AL (KU 15) YN).toArray)) w:=by
 rw[<- z15];simp[execOp,go_sem]
theorem AMk:(execOp ρ ⟨d,.build 149 #[],ty,pos,af,none⟩).run Tryz.prog w= .ok (.value (.agg (AL (KU 20) dh).toArray)) w:=by
 rw[show KU 20=List.replicate 20 .u64 from rfl, <- z20];simp[execOp,go_sem]
theorem AOe:(execOp ρ ⟨d,.build 152 #[],ty,pos,af,none⟩).run Tryz.prog w= .ok (.value (.agg (AL (KU 15) YN).toArray)) w:=by
 rw[<- z15];simp[execOp,go_sem]
theorem ANV{cs:Array Value}(h:ρ x= .agg cs):(execOp ρ ⟨d,.box 135 x,ty,pos,af,none⟩).run Tryz.prog w= .ok (.value (.pointer (some ⟨w.heap.size,0,none⟩))) (w.alloc (.cells cs 135)):=by
 simp[execOp,go_sem,h]
theorem AOc{cs:Array Value}(h:ρ x= .agg cs):(execOp ρ ⟨d,.box 146 x,ty,pos,af,none⟩).run Tryz.prog w= .ok (.value (.pointer (some ⟨w.heap.size,0,none⟩))) (w.alloc (.cells cs 146)):=by
 simp[execOp,go_sem,h]
theorem ALj{cs:Array Value}(h:ρ x= .agg cs):(execOp ρ ⟨d,.box 149 x,ty,pos,af,none⟩).run Tryz.prog w= .ok (.value (.pointer (some ⟨w.heap.size,0,none⟩))) (w.alloc (.cells cs 149)):=by
 simp[execOp,go_sem,h]
theorem AOh{cs:Array Value}(h:ρ x= .agg cs):(execOp ρ ⟨d,.box 152 x,ty,pos,af,none⟩).run Tryz.prog w= .ok (.value (.pointer (some ⟨w.heap.size,0,none⟩))) (w.alloc (.cells cs 152)):=by
 simp[execOp,go_sem,h]
theorem qR{kk:IntKind}{k:Nat}(h:ρ x= .pointer (some ⟨b,o,none⟩))(hy:ρ y= .int kk k)(hk:k<256):(execOp ρ ⟨d,.indexAddr 141 x y,ty,pos,af,gd⟩).run Tryz.prog w= .ok (.value (.pointer (some ⟨b,o+k,none⟩))) w:=by
 simp[execOp,go_sem,h,hy];intro h;omega
theorem ACt{i:Int}(h:ρ x= .pointer (some ⟨b,o,none⟩))(hc:w.cell? ⟨b,o,none⟩=some (.int .i8 i)):(execOp ρ ⟨d,.load 140 x,ty,pos,af,gd⟩).run Tryz.prog w= .ok (.value (.int .i8 i)) w:=by
 simp[execOp,go_sem,h,hc]
theorem aS{i j:Int}(hx:ρ x= .int .i8 i)(hy:ρ y= .int .i8 j):(execOp ρ ⟨d,.binOp .neq t x y t',ty,pos,af,gd⟩).run Tryz.prog w= .ok (.value (.bool (i != j))) w:=by
 simp[execOp,go_sem,hx,hy]
end
theorem ABd:EP (KU 20) dh:=O8 (by decide)
theorem AFn:EP (KU 15) YN:=O8 (by decide)
theorem Uf{d:List Int}{n:Nat}(h:d.length=n):Nn (d.drop n)=0:=by
 rw[List.drop_eq_nil_of_le (by omega)];rfl
theorem AH3{A B:Pt}{da db:List Int}{n:Nat}(h1:da.length=n)(h2:db.length=n):ky A B da db n=Pt.zero:=by
 unfold ky;rw[Uf h1,Uf h2,Pt.gh,Pt.gh,Pt.add_zero]
theorem AEu{A B:Pt}{da db:List Int}{i:Nat}(h1:i<da.length)(h2:i<db.length)(e1:da.getD i 0=0)(e2:db.getD i 0=0)(h:ky A B da db (i+1)=Pt.zero):ky A B da db i=Pt.zero:=by
 have:=pg (A:=A) (B:=B) h1 h2;rw[h,e1,e2,Pt.gh,Pt.gh,Pt.add_zero,Pt.add_zero,Pt.add_zero] at this;exact this.symm
structure V0 (w:World) (bv b9 bT bN bM:Nat) (f:Nat->Value) (w':World):Prop where
 f0:f 0=pp bv
 f9:f 9=pp b9
 f10:f 10=pp bT
 f11:f 11=pp bN
 f12:f 12=pp bM
 hw:w=w'
set_option maxRecDepth 100000 in
theorem AFa{w:World}{bv b9 bT bN bM:Nat}{da db:List Int}{A:Pt}(hla:da.length=256)(hlb:db.length=256)(mN:AO true w (bN,0) K7 da)(mM:AO true w (bM,0) K7 db){Q:Exit->Act->World->Prop}{X:Code}(hX:X=PU 0 (Ab Tryz.f60)){a:Act}{f:Nat->Value}(F:Fr a 134 f)(ψ:f 13= .int .i64 255)(v:V0 w bv b9 bT bN bM f w)
  (hQ:∀a' f k,Fr a' 134 f->f 13= .int .i64 (MJ k)->k<=256->ky A Um da db k=Pt.zero->V0 w bv b9 bT bN bM f w->Q .normal a' w):(Code.block 0 (.loop X)).wp Tryz.prog Q a w:=by
 subst hX;refine wp_block (wp_loop_rounds _ (U1 (J:=λk a w'=>∃f,Fr a 134 f/\f 13= .int .i64 (MJ k)/\k<=256/\ky A Um da db k=Pt.zero/\V0 w bv b9 bT bN bM f w') ?_ _ _ _ _ (Nat.lt_succ_self _) ⟨f,F,ψ.trans (CV _ Vf.symm),Ie _,AH3 hla hlb,v⟩));rintro k a w' ⟨f,F,ψ,hk,hv,v⟩;obtain⟨f0,f9,f10,f11,f12,hw⟩:=v;subst hw
 match k,hk,ψ,hv with
 |0,_,ψ,hv=>
  refine .inr ?_;refine wp_seq (wp_seq (cp (AA F rfl λa F=>AZ F rfl (Np (F.ev ψ) rfl) λa F=>CY ?_)));refine wp_cond (t:=false) F.e (wp_exit ?_);exact hQ _ _ 0 F ψ (Nat.zero_le _) hv ⟨f0,f9,f10,f11,f12,rfl⟩
 | i+1,hk,ψ,hv=>
  have hi:i<256:=hk;have hb:decide ((0:Int)<=(i:Int))=true:=decide_eq_true (nI i);have tW:f 13= .int .i64 (i:Int):=ψ;have c1:=(mN.cell hi).1;have c2:=(mM.cell hi).1;by_cases h1:da.getD i 0=0
  ·have b1:(da.getD i 0 != 0)=false:=by simpa using h1
   by_cases h2:db.getD i 0=0
   ·have b2:(db.getD i 0 != 0)=false:=by simpa using h2
    refine .inl ?_;refine wp_seq (wp_seq (cp (AA F rfl λa F=>AZ F rfl (Np (F.ev tW) rfl) λa F=>CY ?_)));refine wp_cond (t:=true) (F.ev (CV Value.bool hb)) (wp_skip ?_);refine wp_block (wp_seq ?_);refine AP (AA F rfl λa F=>AZ F rfl (JM (k:=i) (F.ev f11) (F.ev tW) hi) λa F=>AZ F rfl (RO F.e c1) λa F=>AZ F rfl (aS F.e rfl) λa F=>AA F rfl λa F=>Ae (s:=34) F rfl rfl rfl rfl (CV Value.bool b1) rfl (Dk (F.ev (t:=13) tW)) λa F=>Ae (s:=34) F rfl rfl rfl rfl (CV Value.bool b1) rfl (qR (k:=i) (F.ev f12) (F.ev (t:=35) rfl) hi) λa F=>Ae (s:=34) F rfl rfl rfl rfl (CV Value.bool b1) rfl (ACt F.e c2) λa F=>Ae (s:=34) F rfl rfl rfl rfl (CV Value.bool b1) rfl (aS F.e rfl) λa F=>AZ F rfl (NI (F.ev (t:=34) (CV Value.bool b1)) (F.ev (t:=38) (CV Value.bool b2))) λa F=>AJ ?_);refine wp_cond (t:=false) F.e (wp_skip ?_);refine cp (AA F rfl λa F=>AZ F rfl (TQ (i:=(i:Int)) (j:=1) (F.ev tW) rfl) λa F=>AB F rfl λa F=>CY ?_);exact⟨rfl,i,Nat.lt_succ_self i,_,F,CV (Value.int .i64) (MQ (n:=i) (by omega)),by omega,AEu (by omega) (by omega) h1 h2 hv,f0,f9,f10,f11,f12,rfl⟩
   ·have b2:(db.getD i 0 != 0)=true:=by simpa using h2
    refine .inr ?_;refine wp_seq (wp_seq (cp (AA F rfl λa F=>AZ F rfl (Np (F.ev tW) rfl) λa F=>CY ?_)));refine wp_cond (t:=true) (F.ev (CV Value.bool hb)) (wp_skip ?_);refine wp_block (wp_seq ?_);refine AP (AA F rfl λa F=>AZ F rfl (JM (k:=i) (F.ev f11) (F.ev tW) hi) λa F=>AZ F rfl (RO F.e c1) λa F=>AZ F rfl (aS F.e rfl) λa F=>AA F rfl λa F=>Ae (s:=34) F rfl rfl rfl rfl (CV Value.bool b1) rfl (Dk (F.ev (t:=13) tW)) λa F=>Ae (s:=34) F rfl rfl rfl rfl (CV Value.bool b1) rfl (qR (k:=i) (F.ev f12) (F.ev (t:=35) rfl) hi) λa F=>Ae (s:=34) F rfl rfl rfl rfl (CV Value.bool b1) rfl (ACt F.e c2) λa F=>Ae (s:=34) F rfl rfl rfl rfl (CV Value.bool b1) rfl (aS F.e rfl) λa F=>AZ F rfl (NI (F.ev (t:=34) (CV Value.bool b1)) (F.ev (t:=38) (CV Value.bool b2))) λa F=>AJ ?_);refine wp_cond (t:=true) F.e (wp_exit ?_);exact hQ _ _ (i+1) F ψ hk hv ⟨f0,f9,f10,f11,f12,rfl⟩
  ·have b1:(da.getD i 0 != 0)=true:=by simpa using h1
   refine .inr ?_;refine wp_seq (wp_seq (cp (AA F rfl λa F=>AZ F rfl (Np (F.ev tW) rfl) λa F=>CY ?_)));refine wp_cond (t:=true) (F.ev (CV Value.bool hb)) (wp_skip ?_);refine wp_block (wp_seq ?_);refine AP (AA F rfl λa F=>AZ F rfl (JM (k:=i) (F.ev f11) (F.ev tW) hi) λa F=>AZ F rfl (RO F.e c1) λa F=>AZ F rfl (aS F.e rfl) λa F=>AA F rfl λa F=>GL (s:=34) F rfl rfl rfl rfl (CV Value.bool b1) rfl (by decide) λa F=>GL (s:=34) F rfl rfl rfl rfl (CV Value.bool b1) rfl (by decide) λa F=>GL (s:=34) F rfl rfl rfl rfl (CV Value.bool b1) rfl (by decide) λa F=>GL (s:=34) F rfl rfl rfl rfl (CV Value.bool b1) rfl (by decide) λa F=>AZ F rfl (Nv (F.ev (t:=34) (CV Value.bool b1)) rfl) λa F=>AJ ?_);refine wp_cond (t:=true) F.e (wp_exit ?_);exact hQ _ _ (i+1) F ψ hk hv ⟨f0,f9,f10,f11,f12,rfl⟩
end
section
open Go Ma Go.RowKit Go.Lib
theorem nP(w:World)(v:Value)(e:TypeId):(w.alloc (.cells #[v] e)).cell? ⟨w.heap.size,0,none⟩=some v:=by
 have h:CP true (w.alloc (.cells #[v] e)) w.heap.size 0 v:=by
  refine CP.fh (c:=#[v]) (e:=e) (lo:=0) (hi:=0) ?_ rfl (λ_=>by omega);show(w.heap.push _)[w.heap.size]? = _;exact Array.getElem?_push_size
 exact h.1
theorem Xq(w:World)(b o:Nat)(vs:List Value):(w.setCells b o vs).heap.size=w.heap.size:=by
 rw[<- QG];exact Uj _ _ _ _
theorem AO.ltK{f:Bool}{w:World}{b n:Nat}{l:List Int}(h:AO f w (b,0) (KU n) l)(hn:0<n):b<w.heap.size:=(h.cell hn).lt
set_option maxRecDepth 100000 in
theorem ALb{GB:Nat}{GC:Nat->Nat->Option Value}{ad:Nat->Nat×Nat}(hG:GI GB GC ad){w:World}{bv ba oa bp bb ob na nb:Nat}{x0 sa sb xA:List Int}{va vb:Int}{A:Pt}(ε:GW GC w)(δ:GB<=w.heap.size)(m0:AO true w (bv,0) (KU 20) x0)(lf:GB<=bv)(bj:bv<w.heap.size)(ma:AO false w (ba,oa) U4 sa)(ha:Qu sa va)(hna:((na:Nat):Int)=va%Vu)(mb:AO false w (bb,ob) U4 sb)(hb:Qu sb vb)(xp:((nb:Nat):Int)=vb%Vu)(mA:AO true w (bp,0) (KU 20) xA)(hA:R3 A xA)(CH:bp<w.heap.size):
  Calls Tryz.prog 60 #[pp bv,.pointer (some ⟨ba,oa,none⟩),pp bp,.pointer (some ⟨bb,ob,none⟩)] w (DA GC .p3 ((A.zm na).add (Um.zm nb)) bv (pp bv) w):=by
 refine enter (args:=[pp bv,.pointer (some ⟨ba,oa,none⟩),pp bp,.pointer (some ⟨bb,ob,none⟩)]) Tryz.func60 rfl (n:=134) rfl λa F=>?_
 refine AP (Aj F rfl λa F=>AJ ?_);refine AP (AA F rfl λa F=>AZ F rfl (AJo (b:=bp) (o:=0) F.e) λa F=>?_);have c1:(w.alloc (.cells #[pp bp] 77)).cell? ⟨w.heap.size,0,none⟩=some (pp bp):=nP _ _ _;have f1:BD w (w.alloc (.cells #[pp bp] 77)) (λ_ _=>False):=BC _ _ _;have s1:=EC w (.cells #[pp bp] 77);generalize w.alloc (.cells #[pp bp] 77)=w1 at c1 f1 s1 ⊢;have SO:=mA.an f1 λ_ _ h=>h
 refine EG F rfl (BJ rfl F.e Tryz.call88) (wJ c1 SO (qg hA)) λe w' h=>?_
 obtain⟨he,hw⟩:=h;subst hw;refine⟨_,he,λa F=>AJ ?_⟩;refine AP (EG F rfl (LG rfl Tryz.call89) (AHU hG (F4 hG ε f1 δ) (EX δ f1.1)) λe w2 h2=>?_);obtain⟨b9,l9,he9,hb9,m9,t9⟩:=h2.ret;refine⟨_,he9,λa F=>AB F rfl λa F=>AJ ?_⟩;have f2:=f1.trans h2.an;have s2:=h2.an.1;have ajW:b9<w2.heap.size:=m9.ltK (by decide);refine AP (AZ F rfl AHk λa F=>AJ ?_);have M3:=Dj w2 160 .u64 138 ⟨by decide,by decide⟩;have f3':BD w2 (w2.alloc (.cells (Array.replicate 160 (.int .u64 0)) 138)) (λ_ _=>False):=BC _ _ _;have s3:=EC w2 (.cells (Array.replicate 160 (.int .u64 0)) 138);generalize w2.alloc (.cells (Array.replicate 160 (.int .u64 0)) 138)=w3 at M3 f3' s3 ⊢;have f3:=f2.trans f3';have m93:=m9.an f3' λ_ _ h=>h
 refine AP (AA F rfl λa F=>EG F rfl (Bg rfl (F.ev (t:=10) rfl) F.e Tryz.call90) (AC3 hG (F4 hG ε f3 δ) (EX δ f3.1) M3 (EX δ f2.1) (mA.an f3 λ_ _ h=>h) (by have:=f2.1;omega) hA) λe w4 h4=>⟨_,h4.ret,λa F=>AJ ?_⟩);obtain⟨lT,mT,tT⟩:=h4.mem;have aie:=f2.1;have f4:BD w w4 (λ_ _=>False):=f3.trans' h4.an λb i hb (h:b=w2.heap.size)=>by omega
 have s4:=h4.an.1;have m94:=m93.an h4.an λ_ _ (h:b9=w2.heap.size)=>by omega
 refine AP (AA F rfl λa F=>EG F rfl (Bg rfl F.e rfl Tryz.call91) (xN (W:=5) hG h4.gw (EX δ f4.1) (ma.an f4 λ_ _ h=>h) ha hna (by decide) (by decide)) λe w5 h5=>?_);obtain⟨da,hsa,hla,hda,h5⟩:=h5.ex;refine⟨_,h5.ret,λa F=>?_⟩;have f5:=f4.trans h5.an;have s5:=h5.an.1;have m95:=m94.an h5.an λ_ _ h=>h
 have mT5:=mT.an h5.an λ_ _ h=>h
 refine AZ F rfl Yh λa F=>?_
 have M6:=Dj w5 256 .i8 141 ⟨by decide,by decide⟩;have f6':BD w5 (w5.alloc (.cells (Array.replicate 256 (.int .i8 0)) 141)) (λ_ _=>False):=BC _ _ _;have s6:=EC w5 (.cells (Array.replicate 256 (.int .i8 0)) 141);generalize w5.alloc (.cells (Array.replicate 256 (.int .i8 0)) 141)=w6 at M6 f6' s6 ⊢;have hlI:(AL K7 da).length=256:=Cg h5.fy.1;refine FB F rfl rfl (Kb (cs:=AL K7 da) (λw=>by rw[hlI];simp[go_sem]) F.e F.e D7 (λj hj=>M6.ex j (by rw[hlI] at hj;exact hj))) λa F=>AJ ?_
 have mN:=Iw h5.fy M6.ex;have f7':BD w5 (w6.setCells w5.heap.size 0 (AL K7 da)) (λ_ _=>False):=BG _ _ f6' λ_ _=>.inl (Ie _)
 have s7:(w6.setCells w5.heap.size 0 (AL K7 da)).heap.size=w6.heap.size:=Xq _ _ _ _;generalize w6.setCells w5.heap.size 0 (AL K7 da)=w7 at mN f7' s7 ⊢;have f7:=f5.trans f7';have m97:=m95.an f7' λ_ _ h=>h
 have mT7:=mT5.an f7' λ_ _ h=>h
 refine AP (AA F rfl λa F=>EG F rfl (Bg rfl F.e rfl Tryz.call91) (xN (W:=8) hG (F4 hG ε f7 δ) (EX δ f7.1) (mb.an f7 λ_ _ h=>h) hb xp (by decide) (by decide)) λe w8 h8=>?_);obtain⟨db,hsb,hlb,hdb,h8⟩:=h8.ex;refine⟨_,h8.ret,λa F=>?_⟩;have f8:=f7.trans h8.an;have s8:=h8.an.1;have m98:=m97.an h8.an λ_ _ h=>h
 have mT8:=mT7.an h8.an λ_ _ h=>h
 have mN8:=mN.an h8.an λ_ _ h=>h
 refine AZ F rfl Yh λa F=>?_
 have M9:=Dj w8 256 .i8 141 ⟨by decide,by decide⟩;have f9':BD w8 (w8.alloc (.cells (Array.replicate 256 (.int .i8 0)) 141)) (λ_ _=>False):=BC _ _ _;have s9:=EC w8 (.cells (Array.replicate 256 (.int .i8 0)) 141);generalize w8.alloc (.cells (Array.replicate 256 (.int .i8 0)) 141)=w9 at M9 f9' s9 ⊢;have hlJ:(AL K7 db).length=256:=Cg h8.fy.1;refine FB F rfl rfl (Kb (cs:=AL K7 db) (λw=>by rw[hlJ];simp[go_sem]) F.e F.e D7 (λj hj=>M9.ex j (by rw[hlJ] at hj;exact hj))) λa F=>AJ ?_
 have mM:=Iw h8.fy M9.ex;have EV:BD w8 (w9.setCells w8.heap.size 0 (AL K7 db)) (λ_ _=>False):=BG _ _ f9' λ_ _=>.inl (Ie _)
 have s10:(w9.setCells w8.heap.size 0 (AL K7 db)).heap.size=w9.heap.size:=Xq _ _ _ _;generalize w9.setCells w8.heap.size 0 (AL K7 db)=tI at mM EV s10 ⊢;have f10:=f8.trans EV;have aef:=m98.an EV λ_ _ h=>h
 have afp:=mT8.an EV λ_ _ h=>h
 have adk:=mN8.an EV λ_ _ h=>h
 refine AP (Aj F rfl λa F=>AJ ?_);obtain⟨f0,F,ψ,v0⟩:∃f,Fr a 134 f/\f 13= .int .i64 255/\V0 tI bv b9 w2.heap.size w5.heap.size w8.heap.size f tI:=⟨_,F,rfl,rfl,rfl,rfl,rfl,rfl,rfl⟩;refine wp_seq (AFa (A:=A) hla hlb adk mM rfl F ψ v0 λa f k F ψ hk hv v=>?_);obtain⟨e0,e9,kB,wg,sy,-⟩:=v;clear M3 M6 M9;refine AP (AZ F rfl AMU λa F=>AZ F rfl (ANV F.e) λa F=>AB F rfl λa F=>AJ ?_);have SO:=Jr tI (KU 20) dh 135 ABd;have g1:BD tI (tI.alloc (.cells (AL (KU 20) dh).toArray 135)) (λ_ _=>False):=BC _ _ _;have z1:=EC tI (.cells (AL (KU 20) dh).toArray 135);generalize tI.alloc (.cells (AL (KU 20) dh).toArray 135)=u1 at SO g1 z1 ⊢;refine AP (AZ F rfl ALl λa F=>AZ F rfl (AOc F.e) λa F=>AB F rfl λa F=>AJ ?_);have mB2:=Jr u1 (KU 15) YN 146 AFn;have g2:BD u1 (u1.alloc (.cells (AL (KU 15) YN).toArray 146)) (λ_ _=>False):=BC _ _ _;have z2:=EC u1 (.cells (AL (KU 15) YN).toArray 146);generalize u1.alloc (.cells (AL (KU 15) YN).toArray 146)=u2 at mB2 g2 z2 ⊢;refine AP (AZ F rfl AMk λa F=>AZ F rfl (ALj F.e) λa F=>AB F rfl λa F=>AJ ?_);have m13:=Jr u2 (KU 20) dh 149 ABd;have g3:BD u2 (u2.alloc (.cells (AL (KU 20) dh).toArray 149)) (λ_ _=>False):=BC _ _ _;have z3:=EC u2 (.cells (AL (KU 20) dh).toArray 149);generalize u2.alloc (.cells (AL (KU 20) dh).toArray 149)=u3 at m13 g3 z3 ⊢;refine AP (AZ F rfl AOe λa F=>AZ F rfl (AOh F.e) λa F=>AB F rfl λa F=>AJ ?_);have m24:=Jr u3 (KU 15) YN 152 AFn;have g4:BD u3 (u3.alloc (.cells (AL (KU 15) YN).toArray 152)) (λ_ _=>False):=BC _ _ _;have z4:=EC u3 (.cells (AL (KU 15) YN).toArray 152);generalize u3.alloc (.cells (AL (KU 15) YN).toArray 152)=u4 at m24 g4 z4 ⊢;have G1:=g1.trans (g2.trans (g3.trans g4));have G2:=g2.trans (g3.trans g4);have G3:=g3.trans g4;have fu:=f10.trans G1;have hu:=F4 hG ε fu δ;have hsu:=fu.1;refine AP (AA F rfl λa F=>EG F rfl (BJ rfl F.e Tryz.call92) (zy hG hu (EX δ hsu) m24 (by omega)) λe u5 h=>⟨_,h.ret,λa F=>AJ ?_⟩);have o:VO w bv b9 w2.heap.size w5.heap.size w8.heap.size tI.heap.size u1.heap.size u2.heap.size u3.heap.size:=⟨bj,by omega,ajW,by omega,by omega,by omega,by omega,by omega,by omega⟩;have fv:BD w u5 (λb _=>b=bv):=(fu.mono λ_ _ _ h=>h.elim).trans' h.an λb i hb (h:b=u3.heap.size)=>by omega
 obtain⟨f6,F,ψ,s⟩:∃f,Fr a 134 f/\f 13= .int .i64 (MJ k)/\VS GC w bv b9 w2.heap.size w5.heap.size w8.heap.size tI.heap.size u1.heap.size u2.heap.size u3.heap.size lT l9 da db TT TT TT TT (R2 (ky A Um da db k)) f u5:=by
  refine⟨_,F,ψ,e0,e9,kB,wg,sy,rfl,rfl,rfl,rfl,⟨_,(m0.an fu λ_ _ h=>h).an h.an λ_ _ (h:bv=u3.heap.size)=>by omega,trivial⟩,⟨_,(SO.an G2 λ_ _ h=>h).an h.an λ_ _ (h:tI.heap.size=u3.heap.size)=>by omega,trivial⟩,⟨_,(mB2.an G3 λ_ _ h=>h).an h.an λ_ _ (h:u1.heap.size=u3.heap.size)=>by omega,trivial⟩,⟨_,(m13.an g4 λ_ _ h=>h).an h.an λ_ _ (h:u2.heap.size=u3.heap.size)=>by omega,trivial⟩,by rw[hv];exact h.mem,(aef.an G1 λ_ _ h=>h).an h.an λ_ _ (h:b9=u3.heap.size)=>by omega,(afp.an G1 λ_ _ h=>h).an h.an λ_ _ (h:w2.heap.size=u3.heap.size)=>by omega,(adk.an G1 λ_ _ h=>h).an h.an λ_ _ (h:w5.heap.size=u3.heap.size)=>by omega,(mM.an G1 λ_ _ h=>h).an h.an λ_ _ (h:w8.heap.size=u3.heap.size)=>by omega,fv,h.gw⟩
 refine GM (J:=λa w'=>∃f,Fr a 134 f/\VS GC w bv b9 w2.heap.size w5.heap.size w8.heap.size tI.heap.size u1.heap.size u2.heap.size u3.heap.size lT l9 da db TT TT TT TT (R2 (ky A Um da db 0)) f w') ?_ ?_
 ·refine wp_block (wp_loop_rounds _ (Gj (J:=λk a w'=>k<=256/\∃f,Fr a 134 f/\f 13= .int .i64 (MJ k)/\VS GC w bv b9 w2.heap.size w5.heap.size w8.heap.size tI.heap.size u1.heap.size u2.heap.size u3.heap.size lT l9 da db TT TT TT TT (R2 (ky A Um da db k)) f w') ?_ ?_ k _ _ ⟨hk,f6,F,ψ,s⟩))
  ·rintro a w' ⟨-,f,F,ψ,s⟩;refine wp_seq (wp_seq (cp (AA F rfl λa F=>AZ F rfl (Np (F.ev ψ) rfl) λa F=>CY ?_)));refine wp_cond (t:=false) F.e (wp_exit ?_);exact⟨rfl,_,F,s.cH λt ht=>by
    simp only[G9,List.not_mem_nil,or_false] at ht;rcases ht with rfl|rfl|rfl|rfl|rfl|rfl|rfl|rfl|rfl<;>rfl⟩
  ·rintro k a w' ⟨hk,f,F,ψ,s⟩;refine wp_mono (AFF hG o δ lf tT t9 hla hlb hda hdb hk rfl F ψ s) ?_;rintro e a' w'' ⟨he,h⟩;exact⟨he,by omega,h⟩
 ·rintro a w' ⟨f,F,s⟩;obtain⟨y0,n0,-⟩:=s.v;obtain⟨y2,n2,r2⟩:=s.t2;have hq:ky A Um da db 0=(A.zm na).add (Um.zm nb):=by
   unfold ky;rw[W7,W7,hsa,hsb]
  rw[hq] at r2;refine AP (AA F rfl λa F=>AA F rfl λa F=>EG F rfl (Bg rfl (F.ev (t:=130) s.f0) (F.ev (t:=131) s.f17) Tryz.call102) (AAI hG s.gw (EX δ s.fr.1) n0 lf n2 (by omega) r2) λe w8 h8=>⟨_,h8.ret,λa F=>AJ ?_⟩);refine AP (AA F rfl λa F=>AB F rfl λa F=>AJ ?_);refine Cn ⟨F.df,pp bv,?_,rfl,h8.mem,s.fr.trans h8.an,h8.gw⟩;have q:=(F.tm 8).trans (s.f0);rw[YJ] at q;simp[results,Tryz.results60,go_sem];exact q
end
end Go.Proofs.YtkbfdaoohhmgoaaGreatDoor
