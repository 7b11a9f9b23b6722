/- Contracts of the point functions of verifying, in plain words. -/
import Derived.Test.YtloibefkijfdlaaGreatDoorVna
import Derived.Test.YtloibefkijfdlaaGreatDoorVpa
namespace Go.Proofs.YtloibefkijfdlaaGreatDoor
section
open Go Ma Go.RowKit Go.Lib
abbrev KU (n:Nat):List IntKind:=List.replicate n .u64
structure yj (GC:Nat->Nat->Option Value) (r:Rp) (P:Pt) (b:Nat) (v:Value) (w:World) (e:Ending) (w':World):Prop where
 ret:e= .returned v
 mem:∃l,AQ true w' (b,0) (KU r.n) l/\RR r P l
 an:BM w w' (λb' _=>b'=b)
 gw:GW GC w'
structure TbP (GC:Nat->Nat->Option Value) (r:Rp) (Ps:List Pt) (n b:Nat) (w:World) (e:Ending) (w':World):Prop where
 ret:e= .returned (.tuple #[])
 mem:∃l,AQ true w' (b,0) (KU n) l/\L6 r Ps l
 an:BM w w' (λb' _=>b'=b)
 gw:GW GC w'
theorem YB{p q:GD}{b c:Nat×Nat}(h:Rz p q b c):Fv [p,q] [b,c]:=⟨λx hx=>by
 have eV:x=(q,c):=NB.1 hx;subst eV;exact h,pM⟩
theorem jq{p q r:GD}{b c d:Nat×Nat}(h1:Rz p q b c)(h2:Rz p r b d)(h3:Rz q r c d):Fv [p,q,r] [b,c,d]:=⟨λx hx=>by
 have eV:x ∈ [(q,c),(r,d)]:=hx;rcases IR.1 eV with e|eV
 ·subst e;exact h1
 ·have e:=NB.1 eV;subst e;exact h2,YB h3⟩
section
variable{GB:Nat}{GC:Nat->Nat->Option Value}{ad:Nat->Nat×Nat}(hG:Gw GB GC ad){w:World}(ε:GW GC w)(δ:GB<=w.heap.size)
include hG ε δ
theorem RN{f b0:Nat}{s:BH}{G:PF}{r:Rp}{P:Pt}{v0:Value}{tl:List Value}{ins:List (List Int)}{bs:List (Nat×Nat)}(fS:Ck Tryz.prog GB GC f (.one s))(hP:KH GB w s.params (v0::tl) ins bs)(hS:Fv s.params bs)(ij:bs.getD 0 (0,0)=(b0,0))(ξ:s.outs= [(0,KU r.n,G)])(zv:s.ret= [.cy 0])(DB:s.pr 0= .l G)(hk:LM [(f,.one s)] f ins/\RR r P (gv [(f,.one s)] f 0 ins)):
  Calls Tryz.prog f (v0::tl).toArray w (yj GC r P b0 v0 w):=by
 have _:=hG;refine(fS true (v0::tl) ins bs w ε δ hP hS (λ_=>Nz hk.1) rfl).mono λe w' ⟨fb,vs,he,hq⟩=>?_
 simp only[FE.ca] at hq;have hr:=hq.ret;rw[zv] at hr;have hv:vs= [v0]:=by
  match vs,hr with
  | [a],hr=>
   have h1:some v0=some a:=hr.1;rw[<- XW h1]
 subst hv;have hm:=hq.outs;rw[ξ] at hm;have ta:=hm _ Kh;have Tr:=hk.2;rw[BQ EL,DB] at Tr;refine⟨he,⟨G ins,?_,Tr⟩,hq.an.mono λb i _ hS=>?_,hq.gw⟩
 ·rw[<- ij];exact ta
 ·obtain⟨p,eN,e1,-, -⟩:=hS;rw[ξ,NB] at eN;subst eN;rw[ij] at e1;exact e1
theorem AAj{f b0 n:Nat}{s:BH}{G:PF}{r:Rp}{Ps:List Pt}{args:List Value}{ins:List (List Int)}{bs:List (Nat×Nat)}(fS:Ck Tryz.prog GB GC f (.one s))(hP:KH GB w s.params args ins bs)(hS:Fv s.params bs)(ij:bs.getD 0 (0,0)=(b0,0))(ξ:s.outs= [(0,KU n,G)])(zv:s.ret= [])(DB:s.pr 0= .l G)(hk:LM [(f,.one s)] f ins/\L6 r Ps (gv [(f,.one s)] f 0 ins)):
  Calls Tryz.prog f args.toArray w (TbP GC r Ps n b0 w):=by
 have _:=hG;refine(fS true args ins bs w ε δ hP hS (λ_=>Nz hk.1) rfl).mono λe w' ⟨fb,vs,he,hq⟩=>?_
 simp only[FE.ca] at hq;have hr:=hq.ret;rw[zv] at hr;have hv:vs= []:=by
  match vs,hr with
  | [],_=>rfl
 subst hv;have hm:=hq.outs;rw[ξ] at hm;have ta:=hm _ Kh;have Tr:=hk.2;rw[BQ EL,DB] at Tr;refine⟨he,⟨G ins,?_,Tr⟩,hq.an.mono λb i _ hS=>?_,hq.gw⟩
 ·rw[<- ij];exact ta
 ·obtain⟨p,eN,e1,-, -⟩:=hS;rw[ξ,NB] at eN;subst eN;rw[ij] at e1;exact e1
abbrev pp (b:Nat):Value:=.pointer (some ⟨b,0,none⟩)
variable{b0 b1 b2:Nat}{x0 x1 x2:List Int}{P Q:Pt}
theorem AFd(m0:AQ true w (b0,0) (KU 20) x0)(h0:GB<=b0)(m1:AQ true w (b1,0) (KU 15) x1)(cq:b0≠b1)(hq:R2 P x1):Calls Tryz.prog 135 #[pp b0,pp b1] w (yj GC .lA (P.add P) b0 (pp b0) w):=
 RN (bs:=[(b0,0),(b1,0)]) (ins:=[x0,x1]) (tl:=[pp b1]) hG ε δ (I9 hG) ⟨⟨rfl,m0,λ_=>h0⟩,⟨rfl,m1.ro,λh=>by cases h⟩,trivial⟩ (YB (IG cq)) rfl rfl rfl rfl (qX (ρ:=⟨P,P,λ_=>0,[]⟩) EL x0 x1 P hq)
theorem RI(m0:AQ true w (b0,0) (KU 20) x0)(h0:GB<=b0)(m1:AQ true w (b1,0) (KU 20) x1)(cq:b0≠b1)(hq:sQ P x1):Calls Tryz.prog 136 #[pp b0,pp b1] w (yj GC .p3 P b0 (pp b0) w):=
 RN (bs:=[(b0,0),(b1,0)]) (ins:=[x0,x1]) (tl:=[pp b1]) hG ε δ (C9 hG) ⟨⟨rfl,m0,λ_=>h0⟩,⟨rfl,m1.ro,λh=>by cases h⟩,trivial⟩ (YB (IG cq)) rfl rfl rfl rfl (Po (ρ:=⟨P,P,λ_=>0,[]⟩) EL x0 x1 P hq)
theorem nu(m0:AQ true w (b0,0) (KU 15) x0)(h0:GB<=b0)(m1:AQ true w (b1,0) (KU 20) x1)(cq:b0≠b1)(hq:sQ P x1):Calls Tryz.prog 143 #[pp b0,pp b1] w (yj GC .p2 P b0 (pp b0) w):=
 RN (bs:=[(b0,0),(b1,0)]) (ins:=[x0,x1]) (tl:=[pp b1]) hG ε δ (Iz hG) ⟨⟨rfl,m0,λ_=>h0⟩,⟨rfl,m1.ro,λh=>by cases h⟩,trivial⟩ (YB (IG cq)) rfl rfl rfl rfl (ZW (ρ:=⟨P,P,λ_=>0,[]⟩) EL x0 x1 P hq)
theorem yA(m0:AQ true w (b0,0) (KU 20) x0)(h0:GB<=b0)(m1:AQ true w (b1,0) (KU 15) x1)(cq:b0≠b1)(hq:R2 P x1):Calls Tryz.prog 144 #[pp b0,pp b1] w (yj GC .p3 P b0 (pp b0) w):=
 RN (bs:=[(b0,0),(b1,0)]) (ins:=[x0,x1]) (tl:=[pp b1]) hG ε δ (OW hG) ⟨⟨rfl,m0,λ_=>h0⟩,⟨rfl,m1.ro,λh=>by cases h⟩,trivial⟩ (YB (IG cq)) rfl rfl rfl rfl (AGy EL x0 x1 P hq)
theorem wy(m0:AQ true w (b0,0) (KU 15) x0)(h0:GB<=b0):Calls Tryz.prog 134 #[pp b0] w (yj GC .p2 Pt.zero b0 (pp b0) w):=
 RN (bs:=[(b0,0)]) (ins:=[x0]) (tl:=[]) hG ε δ (Oz hG) ⟨⟨rfl,m0,λ_=>h0⟩,trivial⟩ pM rfl rfl rfl rfl (ABv EL _)
theorem AAZ(m0:AQ true w (b0,0) (KU 20) x0)(h0:GB<=b0)(m1:AQ true w (b1,0) (KU 20) x1)(m2:AQ true w (b2,0) (KU 20) x2)(cq:b0≠b1)(aa6:b0≠b2)(aa9:b1≠b2)(hp:R3 P x1)(hq:RC Q x2):Calls Tryz.prog 138 #[pp b0,pp b1,pp b2] w (yj GC .lA (P.add Q) b0 (pp b0) w):=
 RN (bs:=[(b0,0),(b1,0),(b2,0)]) (ins:=[x0,x1,x2]) (tl:=[pp b1,pp b2]) hG ε δ (Hf hG) ⟨⟨rfl,m0,λ_=>h0⟩,⟨rfl,m1.ro,λh=>by cases h⟩,⟨rfl,m2.ro,λh=>by cases h⟩,trivial⟩ (jq (IG cq) (IG aa6) (IG aa9)) rfl rfl rfl rfl (dI (ρ:=⟨P,P,λ_=>0,[]⟩) EL x0 x1 x2 P Q hp hq)
theorem AB6(m0:AQ true w (b0,0) (KU 20) x0)(h0:GB<=b0)(m1:AQ true w (b1,0) (KU 20) x1)(m2:AQ true w (b2,0) (KU 20) x2)(cq:b0≠b1)(aa6:b0≠b2)(aa9:b1≠b2)(hp:R3 P x1)(hq:RC Q x2):Calls Tryz.prog 139 #[pp b0,pp b1,pp b2] w (yj GC .lA (P.add Q.neg) b0 (pp b0) w):=
 RN (bs:=[(b0,0),(b1,0),(b2,0)]) (ins:=[x0,x1,x2]) (tl:=[pp b1,pp b2]) hG ε δ (OP hG) ⟨⟨rfl,m0,λ_=>h0⟩,⟨rfl,m1.ro,λh=>by cases h⟩,⟨rfl,m2.ro,λh=>by cases h⟩,trivial⟩ (jq (IG cq) (IG aa6) (IG aa9)) rfl rfl rfl rfl (AEZ EL x0 x1 x2 P Q hp hq)
theorem zU(m0:AQ true w (b0,0) (KU 20) x0)(h0:GB<=b0)(m1:AQ true w (b1,0) (KU 20) x1)(m2:AQ true w (b2,0) (KU 15) x2)(cq:b0≠b1)(aa6:b0≠b2)(aa9:b1≠b2)(hp:R3 P x1)(hq:RA Q x2):Calls Tryz.prog 141 #[pp b0,pp b1,pp b2] w (yj GC .lA (P.add Q) b0 (pp b0) w):=
 RN (bs:=[(b0,0),(b1,0),(b2,0)]) (ins:=[x0,x1,x2]) (tl:=[pp b1,pp b2]) hG ε δ (Dr hG) ⟨⟨rfl,m0,λ_=>h0⟩,⟨rfl,m1.ro,λh=>by cases h⟩,⟨rfl,m2.ro,λh=>by cases h⟩,trivial⟩ (jq (IG cq) (IG aa6) (IG aa9)) rfl rfl rfl rfl (VE (ρ:=⟨P,P,λ_=>0,[]⟩) EL x0 x1 x2 P Q hp hq)
theorem AB8(m0:AQ true w (b0,0) (KU 20) x0)(h0:GB<=b0)(m1:AQ true w (b1,0) (KU 20) x1)(m2:AQ true w (b2,0) (KU 15) x2)(cq:b0≠b1)(aa6:b0≠b2)(aa9:b1≠b2)(hp:R3 P x1)(hq:RA Q x2):Calls Tryz.prog 142 #[pp b0,pp b1,pp b2] w (yj GC .lA (P.add Q.neg) b0 (pp b0) w):=
 RN (bs:=[(b0,0),(b1,0),(b2,0)]) (ins:=[x0,x1,x2]) (tl:=[pp b1,pp b2]) hG ε δ (MB hG) ⟨⟨rfl,m0,λ_=>h0⟩,⟨rfl,m1.ro,λh=>by cases h⟩,⟨rfl,m2.ro,λh=>by cases h⟩,trivial⟩ (jq (IG cq) (IG aa6) (IG aa9)) rfl rfl rfl rfl (AD4 EL x0 x1 x2 P Q hp hq)
omit hG ε δ in
theorem jL:CJ.params= [.mem (KU 160) 4 true,.mem (KU 20) 5 false]:=by kernel_rfl
omit hG ε δ in
theorem kQ:CG.params= [.mem (KU 960) 4 true,.mem (KU 20) 5 false]:=by kernel_rfl
omit hG ε δ in
theorem AA6:CJ.outs= [(0,KU 160,λa=>BK 160 (Be.raw Bc 0 a))]:=by kernel_rfl
omit hG ε δ in
theorem ADS:CG.outs= [(0,KU 960,λa=>BK 960 (Bd.raw Ba 0 a))]:=by kernel_rfl
omit hG ε δ in
theorem AAI:CJ.ret= []:=by kernel_rfl
omit hG ε δ in
theorem ACy:CG.ret= []:=by kernel_rfl
def dV(n:Nat)(P:Pt):List Pt:=(List.range n).map λj=>P.zm ((2*j+1:Nat):Int)
theorem ADM(m0:AQ true w (b0,0) (KU 160) x0)(h0:GB<=b0)(m1:AQ true w (b1,0) (KU 20) x1)(cq:b0≠b1)(hq:R3 P x1):Calls Tryz.prog 132 #[pp b0,pp b1] w (TbP GC .pc (dV 8 P) 160 b0 w):=
 AAj (bs:=[(b0,0),(b1,0)]) (ins:=[x0,x1]) (args:=[pp b0,pp b1]) (G:=λa=>BK 160 (Be.raw Bc 0 a)) hG ε δ (Kw hG) (by rw[jL];exact⟨⟨rfl,m0,λ_=>h0⟩,⟨rfl,m1.ro,λh=>by cases h⟩,trivial⟩) (by rw[jL];exact YB (IG cq)) rfl AA6 AAI ib (AAr EL x0 x1 P hq)
end
end
section
open Go Ma Go.RowKit Go.Lib
theorem oH{r:Rp}:∀ {Ps:List Pt} {l:List Int} {j:Nat} {P:Pt},L6 r Ps l->Ps[j]? = some P->∃u,RR r P u/\u.length=r.n/\∀i,i<r.n->l[r.n*j+i]? = u[i]?
 | [],_,_,_,_,h=>by simp at h
 |Q::Ps,l,0,P,⟨u,v,e,hu,_⟩,h=>by
  have hq:Q=P:=by simpa using h
  subst hq;refine⟨u,hu,RR.len hu,λi hi=>?_⟩;rw[e,Nat.mul_zero,Km,Zm (by rw[RR.len hu];exact hi)]
 |Q::Ps,l,j+1,P,⟨u,v,e,hu,hv⟩,h=>by
  obtain⟨u',h1,h2,h3⟩:=oH (j:=j) hv (by simpa using h);refine⟨u',h1,h2,λi hi=>?_⟩;rw[e,dh (by rw[RR.len hu,Nat.mul_succ];omega),RR.len hu, <- h3 i hi]
  congr 1
  rw[Nat.mul_succ];omega
structure SlP (GC:Nat->Nat->Option Value) (r:Rp) (P:Pt) (b:Nat) (w:World) (e:Ending) (w':World):Prop where
 ret:e= .returned (.tuple #[])
 mem:∃l,AQ true w' (b,0) (KU r.n) l/\RR r P l
 an:BM w w' (λb' _=>b'=b)
 gw:GW GC w'
theorem AQ.cut{w:World}{b n m k:Nat}{l u:List Int}(h:AQ true w (b,0) (KU n) l)(hu:u.length=m)(hk:k+m<=n)(he:∀i,i<m->l[k+i]? = u[i]?):AQ true w (b,k) (KU m) u:=by
 refine⟨⟨by rw[hu,Qs],λi k' x hi hx=>?_⟩,λi k' x hi hx=>?_⟩
 ·have him:i<m:=by have:=(OQ.1 hx).1;omega
  refine h.1.2 (k+i) k' x ?_ (by rw[he i him];exact hx);rw[iD] at hi ⊢;rw[if_pos him] at hi;rw[if_pos (by omega)];exact hi
 ·have him:i<m:=by have:=(OQ.1 hx).1;omega
  have:=h.2 (k+i) k' x (by
   rw[iD] at hi ⊢;rw[if_pos him] at hi;rw[if_pos (by omega)];exact hi) (by rw[he i him];exact hx)
  rw[Km] at this;exact this
section
variable{ρ:Operand->Value}{d:Option Tmp}{x y:Operand}{ty t t':TypeId}{pos:String}{af:Array Edge}{w:World}{b o:Nat}
theorem ACq{j:Nat}(hx:ρ x= .int .i8 ((2*j+1:Nat):Int))(hy:ρ y= .int .i8 2)(hj:j<64):(execOp ρ ⟨d,.binOp .quo t x y t',ty,pos,af,none⟩).run Tryz.prog w= .ok (.value (.int .i8 (j:Int))) w:=by
 have e:IntKind.i8.wrap (((2*j+1:Nat):Int).tdiv 2)=(j:Int):=by
  have e2:((2*j+1:Nat):Int).tdiv 2=(((2*j+1)/2:Nat):Int):=rfl;rw[e2,wi8 (by omega) (by omega)];omega
 simp[execOp,go_sem,hx,hy];exact e
theorem AP4(h:ρ x= .pointer (some ⟨b,o,none⟩)):(execOp ρ ⟨d,.fieldAddr 164 x 0,ty,pos,af,none⟩).run Tryz.prog w= .ok (.value (.pointer (some ⟨b,o,none⟩))) w:=by
 simp[execOp,go_sem,h]
theorem AQV(h:ρ x= .pointer (some ⟨b,o,none⟩)):(execOp ρ ⟨d,.fieldAddr 220 x 0,ty,pos,af,none⟩).run Tryz.prog w= .ok (.value (.pointer (some ⟨b,o,none⟩))) w:=by
 simp[execOp,go_sem,h]
theorem AOb{k:Nat}(h:ρ x= .pointer (some ⟨b,o,none⟩))(hy:ρ y= .int .i8 k)(hk:k<8):(execOp ρ ⟨d,.indexAddr 162 x y,ty,pos,af,none⟩).run Tryz.prog w= .ok (.value (.pointer (some ⟨b,o+20*k,none⟩))) w:=by
 simp[execOp,go_sem,h,hy];rw[if_pos (by omega)];simp[vg]
theorem APu{k:Nat}(h:ρ x= .pointer (some ⟨b,o,none⟩))(hy:ρ y= .int .i8 k)(hk:k<64):(execOp ρ ⟨d,.indexAddr 218 x y,ty,pos,af,none⟩).run Tryz.prog w= .ok (.value (.pointer (some ⟨b,o+15*k,none⟩))) w:=by
 simp[execOp,go_sem,h,hy];rw[if_pos (by omega)];simp[vg]
end
section
variable{GB:Nat}{GC:Nat->Nat->Option Value}{ad:Nat->Nat×Nat}(hG:Gw GB GC ad){w:World}(ε:GW GC w)(δ:GB<=w.heap.size)
include hG ε δ
set_option maxRecDepth 100000 in
theorem jN{bt bd j:Nat}{l x0:List Int}{P:Pt}(mt:AQ true w (bt,0) (KU 160) l)(md:AQ true w (bd,0) (KU 20) x0)(LO:GB<=bd)(ht:L6 .pc (dV 8 P) l)(hj:j<8):
  Calls Tryz.prog 137 #[pp bt,pp bd,.int .i8 ((2*j+1:Nat):Int)] w (SlP GC .pc (P.zm ((2*j+1:Nat):Int)) bd w):=by
 have _:=δ;obtain⟨u,hu,X1,he⟩:=oH (j:=j) (P:=P.zm ((2*j+1:Nat):Int)) ht (by simp[dV,hj]);have X1:u.length=20:=X1;have mu:AQ true w (bt,0+20*j) (KU 20) u:=by
  rw[Km];exact mt.cut X1 (by omega) he
 have kj:(Aj (KU 20) u).length=20:=KJ mu.1.1;refine enter (args:=[pp bt,pp bd,.int .i8 ((2*j+1:Nat):Int)]) Tryz.func137 rfl (n:=15) rfl λa F=>?_
 refine cE (AA F rfl λa F=>AA F rfl λa F=>AA F rfl λa F=>AZ F rfl (ACq (j:=j) F.e rfl (by omega)) λa F=>FI F rfl rfl λa F=>AZ F rfl (AP4 F.e) λa F=>AZ F rfl (AOb (k:=j) F.e F.e hj) λa F=>AZ F rfl (Zv (cs:=Aj (KU 20) u) (λw=>by simp[go_sem]) (λw=>by rw[kj];simp[go_sem]) F.e mu.eK) λa F=>FI F rfl rfl λa F=>K9 F rfl rfl (V4 (cs:=Aj (KU 20) u) (λw=>by rw[kj];simp[go_sem]) F.e F.e Nt (λi hi=>md.ex i (by rw[kj] at hi;exact hi))) λa F=>EM ?_);have hf:BM w (w.setCells bd 0 (Aj (KU 20) u)) (λb _=>b=bd):=EK _ _ (BM.refl _ _) λ_ _=>.inr rfl
 refine⟨F.df,.tuple #[],?_,rfl,⟨u,TB mu.1 md.ex,hu⟩,hf,Ig hG ε hf LO⟩;simp[results,Tryz.results137,go_sem]
set_option maxRecDepth 100000 in
theorem jB{bt bd j:Nat}{l x0:List Int}{P:Pt}(mt:AQ true w (bt,0) (KU 960) l)(md:AQ true w (bd,0) (KU 15) x0)(LO:GB<=bd)(ht:L6 .pa (dV 64 P) l)(hj:j<64):
  Calls Tryz.prog 140 #[pp bt,pp bd,.int .i8 ((2*j+1:Nat):Int)] w (SlP GC .pa (P.zm ((2*j+1:Nat):Int)) bd w):=by
 have _:=δ;obtain⟨u,hu,X1,he⟩:=oH (j:=j) (P:=P.zm ((2*j+1:Nat):Int)) ht (by simp[dV,hj]);have X1:u.length=15:=X1;have mu:AQ true w (bt,0+15*j) (KU 15) u:=by
  rw[Km];exact mt.cut X1 (by omega) he
 have kj:(Aj (KU 15) u).length=15:=KJ mu.1.1;refine enter (args:=[pp bt,pp bd,.int .i8 ((2*j+1:Nat):Int)]) Tryz.func140 rfl (n:=15) rfl λa F=>?_
 refine cE (AA F rfl λa F=>AA F rfl λa F=>AA F rfl λa F=>AZ F rfl (ACq (j:=j) F.e rfl hj) λa F=>FI F rfl rfl λa F=>AZ F rfl (AQV F.e) λa F=>AZ F rfl (APu (k:=j) F.e F.e hj) λa F=>AZ F rfl (Zv (cs:=Aj (KU 15) u) (λw=>by simp[go_sem]) (λw=>by rw[kj];simp[go_sem]) F.e mu.eK) λa F=>FI F rfl rfl λa F=>K9 F rfl rfl (V4 (cs:=Aj (KU 15) u) (λw=>by rw[kj];simp[go_sem]) F.e F.e Nt (λi hi=>md.ex i (by rw[kj] at hi;exact hi))) λa F=>EM ?_);have hf:BM w (w.setCells bd 0 (Aj (KU 15) u)) (λb _=>b=bd):=EK _ _ (BM.refl _ _) λ_ _=>.inr rfl
 refine⟨F.df,.tuple #[],?_,rfl,⟨u,TB mu.1 md.ex,hu⟩,hf,Ig hG ε hf LO⟩;simp[results,Tryz.results140,go_sem]
end
end
section
open Go Ma Go.RowKit Go.Lib
structure GnP (GC:Nat->Nat->Option Value) (w:World) (e:Ending) (w':World):Prop where
 ret:∃B o l,e= .returned (.pointer (some ⟨B,o,none⟩))/\w.heap.size<=B/\AQ true w' (B,o) (KU 20) l/\R3 JS l
 an:BM w w' (λ_ _=>False)
 gw:GW GC w'
structure BtP (GC:Nat->Nat->Option Value) (w:World) (e:Ending) (w':World):Prop where
 ret:∃B l,e= .returned (pp B)/\w.heap.size<=B/\AQ true w' (B,0) (KU 960) l/\L6 .pa (dV 64 JS) l
 an:BM w w' (λ_ _=>False)
 gw:GW GC w'
section
variable{ρ:Operand->Value}{d:Option Tmp}{x y:Operand}{ty t t':TypeId}{pos:String}{af:Array Edge}{w:World}{b o:Nat}
theorem ARa:Tryz.zeroCells220=Array.replicate 960 (.int .u64 0):=by kernel_rfl
set_option maxRecDepth 100000 in
theorem AGe:(execOp ρ ⟨d,.alloc 220,ty,pos,af,none⟩).run Tryz.prog w= .ok (.value (.pointer (some ⟨w.heap.size,0,none⟩))) (w.alloc (.cells (Array.replicate 960 (.int .u64 0)) 220)):=by
 rw[<- ARa];simp[execOp,go_sem]
end
theorem AKU:Cv.pr 0= .l λa=>BK 20 (Cy.raw CU 0 a):=rfl
section
variable{GB:Nat}{GC:Nat->Nat->Option Value}{ad:Nat->Nat×Nat}(hG:Gw GB GC ad){w:World}(ε:GW GC w)(δ:GB<=w.heap.size)
include hG ε δ
theorem AG8:Calls Tryz.prog 176 #[] w (GnP GC w):=by
 have hk:=AAv (d:=λ_=>0) (s:=[]) (T:=[(176,.one Cv)]) EL [];have h:=Im hG true [] [] [] w ε δ trivial trivial (λ_=>Nz hk.1) rfl;refine h.mono λe w' ⟨fb,vs,he,hq⟩=>?_
 simp only[FE.ca] at hq;have hr:=hq.ret
 match vs,hr with
 | [v],hr=>
 obtain⟨b,hb,hv⟩:=hr.1;subst hv;have hm:=hq.fresh 0 (KU 20,λa=>BK 20 (Cy.raw CU 0 a)) b rfl hb;have h2:=hk.2;rw[BQ EL,AKU,Pt.ie] at h2;refine⟨⟨b.1,b.2,_,he,hq.fr b (Le hb),hm,h2⟩,hq.an.mono λb' o' _ hs=>?_,hq.gw⟩;obtain⟨p,eN,_⟩:=hs;cases eN
theorem AGV{b0 b1 o1:Nat}{x0 x1:List Int}{P:Pt}(m0:AQ true w (b0,0) (KU 960) x0)(h0:GB<=b0)(m1:AQ true w (b1,o1) (KU 20) x1)(cq:b0≠b1)(hq:R3 P x1):Calls Tryz.prog 175 #[pp b0,.pointer (some ⟨b1,o1,none⟩)] w (TbP GC .pa (dV 64 P) 960 b0 w):=
 AAj (bs:=[(b0,0),(b1,o1)]) (ins:=[x0,x1]) (args:=[pp b0,.pointer (some ⟨b1,o1,none⟩)]) (G:=λa=>BK 960 (Bd.raw Ba 0 a)) hG ε δ (K5 hG) (by rw[kQ];exact⟨⟨rfl,m0,λ_=>h0⟩,⟨rfl,m1.ro,λh=>by cases h⟩,trivial⟩) (by rw[kQ];exact YB (IG cq)) rfl ADS ACy lH (zV EL x0 x1 P hq)
set_option maxRecDepth 100000 in
theorem AF5:Calls Tryz.prog 131 #[] w (BtP GC w):=by
 refine enter (args:=[]) Tryz.func131 rfl (n:=7) rfl λa F=>?_
 refine AO (AX F rfl λa F=>AJ ?_);refine AO (AZ F rfl AGe λa F=>AB F rfl λa F=>AJ ?_);have M1:=Ey w 960 .u64 220 ⟨by decide,by decide⟩;have f1:BM w (w.alloc (.cells (Array.replicate 960 (.int .u64 0)) 220)) (λ_ _=>False):=BI _ _ _;have s1:=Gr w (.cells (Array.replicate 960 (.int .u64 0)) 220);generalize w.alloc (.cells (Array.replicate 960 (.int .u64 0)) 220)=w1 at M1 f1 s1 ⊢;refine AO (AA F rfl λa F=>DI F rfl (LJ rfl Tryz.call176) (AG8 hG (Jk hG ε f1 δ) (z8 δ f1.1)) λe w2 h2=>?_);obtain⟨B,o,l,he,hB,mB,hR⟩:=h2.ret;have f2:=f1.trans h2.an;refine⟨_,he,λa F=>?_⟩;refine DI F rfl (Au rfl F.e F.e Tryz.call175) (AGV hG h2.gw (z8 δ f2.1) (M1.an h2.an λ_ _ h=>h) δ mB (by omega) hR) λe w3 h3=>⟨_,h3.ret,λa F=>AJ ?_⟩
 obtain⟨l3,m3,t3⟩:=h3.mem;have f3:BM w w3 (λ_ _=>False):=f2.trans' h3.an λb i hb (h:b=w.heap.size)=>by omega
 refine AO (AA F rfl λa F=>AB F rfl λa F=>AJ ?_);refine DC ⟨F.df,pp w.heap.size,?_,⟨w.heap.size,l3,rfl,KA _,m3,t3⟩,f3,Jk hG ε f3 δ⟩;have q:=F.tm 0;rw[Ti] at q;simp[results,Tryz.results131,go_sem];exact q
end
end
section
open Go Ma Go.RowKit Go.Lib
section
variable{P:Program}{ops:Array Oper}{Q:Exit->Act->World->Prop}{rest:List Oper}{a:Act}{w:World}{n:Nat}{f:Nat->Value}
theorem AAF{j s:Nat}{b:Bool}(F:Fr a n f)(hy:(ops[j]?).bind (·.dst)=some s)(hs:f s= .bool b)(hn:s<n):yielded ops a.tmps j=some b:=by
 unfold yielded;have h1:a.tmps[s]? = some (.bool b):=by
  have h2:=F.tm s;rw[hs] at h2;have h3:s<a.tmps.size:=by rw[F.sz];exact hn
  rw[Ti,Array.getElem?_eq_getElem h3] at h2;rw[Array.getElem?_eq_getElem h3];exact EH some h2
 rw[hy];show(match a.tmps[s]? with|some (.bool b)=>some b|_=>none)=some b;rw[h1]
theorem Tz{o:Oper}{t j s:Nat}{b b':Bool}(F:Fr a n f)(hg:o.guard=some (j,b))(hd:o.dst=some t)(ht:Nat.blt t n=true)(hy:(ops[j]?).bind (·.dst)=some s)(hs:f s= .bool b')(pB:Nat.blt s n=true)(cq:b'≠b)(hn:∀a',Fr a' n (Ta f t undef)->wpList P ops Q rest a' w):wpList P ops Q (o::rest) a w:=
 wpList_step λK hK=>by
  have hw:Region.wanted o (yielded ops a.tmps)=false:=by
   simp only[Region.wanted,hg];rw[AAF F hy hs (D7 pB)];cases b<;>cases b'<;>simp_all
  rw[if_neg (by rw[hw];decide)];refine hK _ _ (hn _ ?_);rw[hd];exact F.put ht undef
theorem Al{o:Oper}{t j s:Nat}{b:Bool}{v:Value}{w':World}(F:Fr a n f)(hg:o.guard=some (j,b))(hd:o.dst=some t)(ht:Nat.blt t n=true)(hy:(ops[j]?).bind (·.dst)=some s)(hs:f s= .bool b)(pB:Nat.blt s n=true)(h:(execOp a.eval o).run P w= .ok (.value v) w')(hn:∀a',Fr a' n (Ta f t v)->wpList P ops Q rest a' w'):wpList P ops Q (o::rest) a w:=
 wpList_step λK hK=>by
  have hw:Region.wanted o (yielded ops a.tmps)=true:=by
   simp only[Region.wanted,hg];rw[AAF F hy hs (D7 pB)];simp
  rw[if_pos hw];unfold Oper.wp;rw[h];show K (a.put o.dst v) w';refine hK _ _ (hn _ ?_);rw[hd];exact F.put ht v
end
section
variable{ρ:Operand->Value}{d:Option Tmp}{x y z:Operand}{ty t t':TypeId}{pos:String}{af:Array Edge}{w:World}{b o:Nat}{gd:Option (Nat×Bool)}
theorem AMo{p:Option Addr}{m c:Nat}(h:ρ x= .slice p m c):(execOp ρ ⟨d,.call ⟨.builtin .len,#[x],#[217]⟩,ty,pos,af,none⟩).run Tryz.prog w= .ok (.value (.int .i64 m)) w:=by
 simp[go_sem,h]
theorem AP8{n c k:Nat}(h:ρ x= .slice (some ⟨b,o,none⟩) n c)(hy:ρ y= .int .i64 k)(hk:k<n):(execOp ρ ⟨d,.indexAddr 217 x y,ty,pos,af,none⟩).run Tryz.prog w= .ok (.value (.pointer (some ⟨b,o+k,none⟩))) w:=by
 simp[execOp,go_sem,h,hy,hk]
theorem ANp{v:Value}(h:ρ x= .pointer (some ⟨b,o,none⟩))(hc:w.cell? ⟨b,o,none⟩=some v):(execOp ρ ⟨d,.load 121 x,ty,pos,af,none⟩).run Tryz.prog w= .ok (.value v) w:=by
 simp[execOp,go_sem,h,hc]
theorem AF3(h:ρ x= .pointer (some ⟨b,o,none⟩)):(execOp ρ ⟨d,.fieldAddr 97 x 1,ty,pos,af,none⟩).run Tryz.prog w= .ok (.value (.pointer (some ⟨b,o,none⟩))) w:=by
 simp[execOp,go_sem,h]
theorem AFm(h:ρ x= .pointer (some ⟨b,o,none⟩)):(execOp ρ ⟨d,.fieldAddr 97 x 2,ty,pos,af,gd⟩).run Tryz.prog w= .ok (.value (.pointer (some ⟨b,o+5,none⟩))) w:=by
 simp[execOp,go_sem,h]
theorem ANr{a:Act}:(execOp a.eval ⟨d,.build 95 #[],ty,pos,af,gd⟩).run Tryz.prog w= .ok (.value (.agg (Aj (KU 5) [0,0,0,0,0]).toArray)) w:=by
 simp[execOp,go_sem];rfl
theorem AHd{xs ys:List Int}(h:ρ x= .agg (Aj (KU 5) xs).toArray)(hy:ρ y= .agg (Aj (KU 5) ys).toArray)(hx:La (KU 5) xs)(hyr:La (KU 5) ys):(execOp ρ ⟨d,.binOp .eql 95 x y t',ty,pos,af,gd⟩).run Tryz.prog w= .ok (.value (.bool (xs == ys))) w:=by
 obtain⟨h1,h2⟩:=iq 95 (KU 5) rfl xs ys hx hyr .eql x y w;simp only[execOp,h,hy,IY,h1,Hm];simp only[binOp,IY,h2,Hm,KT]
end
section
variable{ρ:Operand->Value}{d:Option Tmp}{x y z:Operand}{ty t t':TypeId}{pos:String}{af:Array Edge}{w:World}{b o:Nat}{gd:Option (Nat×Bool)}
theorem APp{t:TypeId}{cs:List Value}(ha:∀w,(isAgg t).run Tryz.prog w= .ok true w)(hz:∀w,(sizeOf t).run Tryz.prog w= .ok cs.length w)(h:ρ x= .pointer (some ⟨b,o,none⟩))(hc:∀i v,cs[i]? = some v->w.cell? ⟨b,o+i,none⟩=some v):
  (execOp ρ ⟨d,.load t x,ty,pos,af,gd⟩).run Tryz.prog w= .ok (.value (.agg cs.toArray)) w:=by
 have hl:=run_loadCells_list (P:=Tryz.prog) w ⟨b,o,none⟩ cs (λj u hu=>by rw[Cu];exact hc j u hu);simp only[execOp,h,Instr.loadAt,Instr.sureAddr,loadVar,IY,KT,Hm,ha,if_true,hz,hl]
theorem AKk{p:Addr}(h:ρ x= .pointer (some p)):(execOp ρ ⟨d,.nilCheck x,ty,pos,af,gd⟩).run Tryz.prog w= .ok (.value (.pointer (some p))) w:=by
 simp[execOp,go_sem,h]
theorem Ej{v:Value}(h:ρ x=v):(execOp ρ ⟨d,.move x,ty,pos,af,gd⟩).run Tryz.prog w= .ok (.value v) w:=by
 simp only[execOp,h];rfl
theorem Ik{v:Value}(h:ρ x= .bool false)(hz:ρ z=v):(execOp ρ ⟨d,.pick x y z,ty,pos,af,gd⟩).run Tryz.prog w= .ok (.value v) w:=by
 simp[execOp,go_sem,h,hz]
theorem Qq{v:Value}(h:ρ x= .bool true)(hz:ρ y=v):(execOp ρ ⟨d,.pick x y z,ty,pos,af,gd⟩).run Tryz.prog w= .ok (.value v) w:=by
 simp[execOp,go_sem,h,hz]
end
theorem kU{l:List Int}{o:Nat}(h:(l.drop o).take 5= [0,0,0,0,0]):NN l o:=λk hk=>by
 have h1:((l.drop o).take 5)[k]? = ([0,0,0,0,0]:List Int)[k]? := by rw[h]
 rw[List.getElem?_take,if_pos hk,List.getElem?_drop] at h1;rw[List.getD_eq_getElem?_getD,h1]
 match k,hk with
 |0,_=>rfl
 |1,_=>rfl
 |2,_=>rfl
 |3,_=>rfl
 |4,_=>rfl
theorem QU{l:List Int}{k m:Nat}:∀i,i<m->l[k+i]? = ((l.drop k).take m)[i]? := λi hi=>by
 rw[List.getElem?_take,if_pos hi,List.getElem?_drop]
set_option maxRecDepth 100000 in
theorem rT{w:World}{sb B:Nat}{l:List Int}(hc:w.cell? ⟨sb,0,none⟩=some (pp B))(m:AQ true w (B,0) (KU 20) l)(hn:¬(NN l 0/\NN l 5)):Calls Tryz.prog 130 #[.slice (some ⟨sb,0,none⟩) 1 1] w (λe w'=>e= .returned (.tuple #[])/\w=w'):=by
 have hl:l.length=20:=m.1.1;have mx:AQ true w (B,0) (KU 5) ((l.drop 0).take 5):=m.cut (by rw[Rk,Uj,hl];rfl) (by omega) QU;have my:AQ true w (B,0+5) (KU 5) ((l.drop 5).take 5):=m.cut (k:=5) (by rw[Rk,Uj,hl];rfl) (by omega) QU;have h0:La (KU 5) [0,0,0,0,0]:=Ot (by decide);have lx:(Aj (KU 5) ((l.drop 0).take 5)).length=5:=KJ mx.1.1;have ly:(Aj (KU 5) ((l.drop 5).take 5)).length=5:=KJ my.1.1;refine enter (args:=[.slice (some ⟨sb,0,none⟩) 1 1]) Tryz.func130 rfl (n:=26) rfl λa F=>?_
 refine AO (AA F rfl λa F=>AZ F rfl (AMo F.e) λa F=>AZ F rfl (Ej rfl) λa F=>AJ ?_);refine wp_block (wp_loop_rounds _ (PW (J:=λk a w'=>∃f,Fr a 26 f/\f 4= .slice (some ⟨sb,0,none⟩) 1 1/\f 5= .int .i64 ((1:Nat):Int)/\f 6= .int .i64 ((1-k:Nat):Int)/\k<=1/\w=w') ?_ ?_ 1 _ _ ⟨_,F,rfl,rfl,rfl,KA _,rfl⟩))
 ·intro a w' ⟨f,F,e4,e5,e6,_,hw⟩;refine AO (AZ F rfl (fP (F.ev e6) (F.ev e5)) λa F=>AJ ?_);refine wp_seq (wp_cond (t:=false) F.e (wp_exit ?_));refine⟨F.df,.tuple #[],?_,rfl,hw⟩;simp[results,Tryz.results130,go_sem]
 ·intro k a w' ⟨f,F,e4,e5,e6,hk,hw⟩;have mc:k=0:=by omega
  subst mc;subst hw;refine AO (AZ F rfl (fP (F.ev e6) (F.ev e5)) λa F=>AJ ?_);refine wp_seq (wp_cond (t:=true) F.e (wp_skip ?_));refine wp_seq (wp_block (AO (AZ F rfl (AP8 (k:=0) (F.ev e4) (F.ev e6) (by omega)) λa F=>AZ F rfl (ANp F.e hc) λa F=>AB F rfl λa F=>AJ ?_)));refine AO (AA F rfl λa F=>FI F rfl rfl λa F=>AZ F rfl (AF3 F.e) λa F=>AZ F rfl (Zv (cs:=Aj (KU 5) ((l.drop 0).take 5)) (λw=>by simp[go_sem]) (λw=>by rw[lx];simp[go_sem]) F.e mx.eK) λa F=>AZ F rfl ANr λa F=>AZ F rfl (AHd F.e F.e mx.1 h0) λa F=>AA F rfl λa F=>?_);have GO:∀ {a:Act} {f':Nat->Value},Fr a 26 f'->f' 4= .slice (some ⟨sb,0,none⟩) 1 1->f' 5= .int .i64 ((1:Nat):Int)->f' 6= .int .i64 ((1-(0+1):Nat):Int)->(YG 5 (Ak Tryz.f130)).wp Tryz.prog (λe a' w'=>e= .normal/\∃f,Fr a' 26 f/\f 4= .slice (some ⟨sb,0,none⟩) 1 1/\f 5= .int .i64 ((1:Nat):Int)/\f 6= .int .i64 ((1-0:Nat):Int)/\0<=1/\w=w') a w:=by
   intro a f' F e4 e5 e6;refine cE (AZ F rfl (qH (i:=((1-(0+1):Nat):Int)) (j:=1) (F.ev e6) rfl) λa F=>AZ F rfl (Ej F.e) λa F=>EM ?_);exact⟨rfl,_,F,e4,e5,rfl,by omega,rfl⟩
  by_cases hx:(l.drop 0).take 5= [0,0,0,0,0]
  ·have hy:¬(l.drop 5).take 5= [0,0,0,0,0]:=λh=>hn ⟨kU hx,kU h⟩
   have bx:((l.drop 0).take 5 == [0,0,0,0,0])=true:=by simpa using hx
   have rL:((l.drop 5).take 5 == [0,0,0,0,0])=false:=by simpa using hy
   refine Al (s:=16) F rfl rfl rfl rfl (EH Value.bool bx) rfl (Ej F.e) λa F=>Al (s:=16) F rfl rfl rfl rfl (EH Value.bool bx) rfl (AKk F.e) λa F=>Al (s:=16) F rfl rfl rfl rfl (EH Value.bool bx) rfl (AFm F.e) λa F=>Al (s:=16) F rfl rfl rfl rfl (EH Value.bool bx) rfl (APp (cs:=Aj (KU 5) ((l.drop 5).take 5)) (λw=>by simp[go_sem]) (λw=>by rw[ly];simp[go_sem]) F.e my.eK) λa F=>Al (s:=16) F rfl rfl rfl rfl (EH Value.bool bx) rfl ANr λa F=>Al (s:=16) F rfl rfl rfl rfl (EH Value.bool bx) rfl (AHd F.e F.e my.1 h0) λa F=>AZ F rfl (Qq (F.ev (EH Value.bool bx)) (F.ev (EH Value.bool rL))) λa F=>AJ ?_
   exact wp_cond (t:=false) F.e (wp_skip (GO F e4 e5 e6))
  ·have bx:((l.drop 0).take 5 == [0,0,0,0,0])=false:=by simpa using hx
   refine Tz (s:=16) F rfl rfl rfl rfl (EH Value.bool bx) rfl (by decide) λa F=>Tz (s:=16) F rfl rfl rfl rfl (EH Value.bool bx) rfl (by decide) λa F=>Tz (s:=16) F rfl rfl rfl rfl (EH Value.bool bx) rfl (by decide) λa F=>Tz (s:=16) F rfl rfl rfl rfl (EH Value.bool bx) rfl (by decide) λa F=>Tz (s:=16) F rfl rfl rfl rfl (EH Value.bool bx) rfl (by decide) λa F=>Tz (s:=16) F rfl rfl rfl rfl (EH Value.bool bx) rfl (by decide) λa F=>AZ F rfl (Ik (F.ev (EH Value.bool bx)) rfl) λa F=>AJ ?_
   exact wp_cond (t:=false) F.e (wp_skip (GO F e4 e5 e6))
end
section
open Go Ma Go.RowKit Go.Lib
theorem bR{d:List Int}{i:Nat}(h:i<d.length):OO (d.drop i)=d.getD i 0+2*OO (d.drop (i+1)):=by
 rw[List.drop_eq_getElem_cons h];have:d.getD i 0=d[i]:=by simp[List.getD,h]
 rw[this];rfl
def gu(A B:Pt)(da db:List Int)(k:Nat):Pt:=(A.zm (OO (da.drop k))).add (B.zm (OO (db.drop k)))
structure VO (w:World) (bv b9 bT bN bM bA bB b1 b2:Nat):Prop where
 h0:bv<w.heap.size
 h1:w.heap.size<=b9
 h2:b9<bT
 h3:bT<bN
 h4:bN<bM
 h5:bM<bA
 h6:bA<bB
 h7:bB<b1
 h8:b1<b2
structure VS (GC:Nat->Nat->Option Value) (w:World) (bv b9 bT bN bM bA bB b1 b2:Nat) (lT l9 da db:List Int) (pv pa pb p1 p2:List Int->Prop) (f:Nat->Value) (w':World):Prop where
 f0:f 0=pp bv
 f9:f 9=pp b9
 f10:f 10=pp bT
 f11:f 11=pp bN
 f12:f 12=pp bM
 f14:f 14=pp bA
 f15:f 15=pp bB
 f16:f 16=pp b1
 f17:f 17=pp b2
 v:∃x,AQ true w' (bv,0) (KU 20) x/\pv x
 a:∃x,AQ true w' (bA,0) (KU 20) x/\pa x
 b:∃x,AQ true w' (bB,0) (KU 15) x/\pb x
 t1:∃x,AQ true w' (b1,0) (KU 20) x/\p1 x
 t2:∃x,AQ true w' (b2,0) (KU 15) x/\p2 x
 m9:AQ true w' (b9,0) (KU 960) l9
 mT:AQ true w' (bT,0) (KU 160) lT
 mN:AQ true w' (bN,0) ME da
 mM:AQ true w' (bM,0) ME db
 fr:BM w w' (λb _=>b=bv)
 gw:GW GC w'
section
variable{GC:Nat->Nat->Option Value}{w:World}{bv b9 bT bN bM bA bB b1 b2:Nat}{lT l9 da db:List Int}{pv pa pb p1 p2 q:List Int->Prop}{f f':Nat->Value}{w1 w2:World}
theorem VS.cT(s:VS GC w bv b9 bT bN bM bA bB b1 b2 lT l9 da db pv pa pb p1 p2 f w1)(h:∀t,t ∈ [0,9,10,11,12,14,15,16,17]->f' t=f t):VS GC w bv b9 bT bN bM bA bB b1 b2 lT l9 da db pv pa pb p1 p2 f' w1:=
 ⟨(h 0 (by decide)).trans s.f0,(h 9 (by decide)).trans s.f9,(h 10 (by decide)).trans s.f10,(h 11 (by decide)).trans s.f11,(h 12 (by decide)).trans s.f12,(h 14 (by decide)).trans s.f14,(h 15 (by decide)).trans s.f15,(h 16 (by decide)).trans s.f16,(h 17 (by decide)).trans s.f17,s.v,s.a,s.b,s.t1,s.t2,s.m9,s.mT,s.mN,s.mM,s.fr,s.gw⟩
theorem aB{X b n:Nat}{p:List Int->Prop}(h:∃x,AQ true w1 (b,0) (KU n) x/\p x)(hf:BM w1 w2 (λc _=>c=X))(hn:b≠X):∃x,AQ true w2 (b,0) (KU n) x/\p x:=by
 obtain⟨x,m,hp⟩:=h;exact⟨x,m.an hf λ_ _ h=>hn h,hp⟩
variable(o:VO w bv b9 bT bN bM bA bB b1 b2)(s:VS GC w bv b9 bT bN bM bA bB b1 b2 lT l9 da db pv pa pb p1 p2 f w1)(gw:GW GC w2)
include o s gw
theorem VS.Mn(hf:BM w1 w2 (λb _=>b=bv))(hm:∃x,AQ true w2 (bv,0) (KU 20) x/\q x):VS GC w bv b9 bT bN bM bA bB b1 b2 lT l9 da db q pa pb p1 p2 f w2:=by
 obtain⟨h0,h1,h2,h3,h4,h5,h6,h7,h8⟩:=o;exact⟨s.f0,s.f9,s.f10,s.f11,s.f12,s.f14,s.f15,s.f16,s.f17,hm,aB s.a hf (by omega),aB s.b hf (by omega),aB s.t1 hf (by omega),aB s.t2 hf (by omega),s.m9.an hf λ_ _ h=>by omega,s.mT.an hf λ_ _ h=>by omega,s.mN.an hf λ_ _ h=>by omega,s.mM.an hf λ_ _ h=>by omega,s.fr.trans hf,gw⟩
theorem VS.adL(hf:BM w1 w2 (λb _=>b=bA))(hm:∃x,AQ true w2 (bA,0) (KU 20) x/\q x):VS GC w bv b9 bT bN bM bA bB b1 b2 lT l9 da db pv q pb p1 p2 f w2:=by
 obtain⟨h0,h1,h2,h3,h4,h5,h6,h7,h8⟩:=o;exact⟨s.f0,s.f9,s.f10,s.f11,s.f12,s.f14,s.f15,s.f16,s.f17,aB s.v hf (by omega),hm,aB s.b hf (by omega),aB s.t1 hf (by omega),aB s.t2 hf (by omega),s.m9.an hf λ_ _ h=>by omega,s.mT.an hf λ_ _ h=>by omega,s.mN.an hf λ_ _ h=>by omega,s.mM.an hf λ_ _ h=>by omega,s.fr.trans' hf λb i hb (h:b=bA)=>by omega,gw⟩
theorem VS.ad6(hf:BM w1 w2 (λb _=>b=bB))(hm:∃x,AQ true w2 (bB,0) (KU 15) x/\q x):VS GC w bv b9 bT bN bM bA bB b1 b2 lT l9 da db pv pa q p1 p2 f w2:=by
 obtain⟨h0,h1,h2,h3,h4,h5,h6,h7,h8⟩:=o;exact⟨s.f0,s.f9,s.f10,s.f11,s.f12,s.f14,s.f15,s.f16,s.f17,aB s.v hf (by omega),aB s.a hf (by omega),hm,aB s.t1 hf (by omega),aB s.t2 hf (by omega),s.m9.an hf λ_ _ h=>by omega,s.mT.an hf λ_ _ h=>by omega,s.mN.an hf λ_ _ h=>by omega,s.mM.an hf λ_ _ h=>by omega,s.fr.trans' hf λb i hb (h:b=bB)=>by omega,gw⟩
theorem VS.zd(hf:BM w1 w2 (λb _=>b=b1))(hm:∃x,AQ true w2 (b1,0) (KU 20) x/\q x):VS GC w bv b9 bT bN bM bA bB b1 b2 lT l9 da db pv pa pb q p2 f w2:=by
 obtain⟨h0,h1,h2,h3,h4,h5,h6,h7,h8⟩:=o;exact⟨s.f0,s.f9,s.f10,s.f11,s.f12,s.f14,s.f15,s.f16,s.f17,aB s.v hf (by omega),aB s.a hf (by omega),aB s.b hf (by omega),hm,aB s.t2 hf (by omega),s.m9.an hf λ_ _ h=>by omega,s.mT.an hf λ_ _ h=>by omega,s.mN.an hf λ_ _ h=>by omega,s.mM.an hf λ_ _ h=>by omega,s.fr.trans' hf λb i hb (h:b=b1)=>by omega,gw⟩
theorem VS.ahN(hf:BM w1 w2 (λb _=>b=b2))(hm:∃x,AQ true w2 (b2,0) (KU 15) x/\q x):VS GC w bv b9 bT bN bM bA bB b1 b2 lT l9 da db pv pa pb p1 q f w2:=by
 obtain⟨h0,h1,h2,h3,h4,h5,h6,h7,h8⟩:=o;exact⟨s.f0,s.f9,s.f10,s.f11,s.f12,s.f14,s.f15,s.f16,s.f17,aB s.v hf (by omega),aB s.a hf (by omega),aB s.b hf (by omega),aB s.t1 hf (by omega),hm,s.m9.an hf λ_ _ h=>by omega,s.mT.an hf λ_ _ h=>by omega,s.mN.an hf λ_ _ h=>by omega,s.mM.an hf λ_ _ h=>by omega,s.fr.trans' hf λb i hb (h:b=b2)=>by omega,gw⟩
end
end
section
open Go Ma Go.RowKit Go.Lib
theorem Ya{w:Nat}{x:Int}(h:oD w x):x=0\/(∃j:Nat,x=((2*j+1:Nat):Int)/\2*j+1<2^(w-1))\/∃j:Nat,x= -((2*j+1:Nat):Int)/\2*j+1<2^(w-1):=by
 rcases h with h|⟨h1,h2,h3⟩
 ·exact .inl h
 ·rcases Int.lt_or_le x 0 with h0|h0
  ·refine .inr (.inr ⟨((-x).toNat)/2,?_,?_⟩)
   ·omega
   ·have:((-x).toNat:Int)<((2^(w-1):Nat):Int):=by omega
    have:=xN.1 this;omega
  ·refine .inr (.inl ⟨x.toNat/2,?_,?_⟩)
   ·omega
   ·have:(x.toNat:Int)<((2^(w-1):Nat):Int):=by omega
    have:=xN.1 this;omega
theorem AOm{j:Nat}(h:2*j+1<2^(5-1)):j<8:=by
 have h:2*j+1<16:=h;omega
theorem AOF{j:Nat}(h:2*j+1<2^(8-1)):j<64:=by
 have h:2*j+1<128:=h;omega
theorem ABl(a b c d:Pt):(a.add b).add (c.add d)=(a.add c).add (b.add d):=by
 rw[Pt.add_assoc,Pt.add_assoc, <- Pt.add_assoc b c d,Pt.add_comm b c,Pt.add_assoc c b d]
theorem iw{A B:Pt}{da db:List Int}{i:Nat}(ha:i<da.length)(hb:i<db.length):(((gu A B da db (i+1)).add (gu A B da db (i+1))).add (A.zm (da.getD i 0))).add (B.zm (db.getD i 0))=gu A B da db i:=by
 unfold gu;rw[bR ha,bR hb,Pt.fW,Pt.fW,show 2*OO (da.drop (i+1))=OO (da.drop (i+1))+OO (da.drop (i+1)) by omega,show 2*OO (db.drop (i+1))=OO (db.drop (i+1))+OO (db.drop (i+1)) by omega,Pt.fW,Pt.fW];generalize A.zm (OO (da.drop (i+1)))=a;generalize B.zm (OO (db.drop (i+1)))=b;generalize A.zm (da.getD i 0)=x;generalize B.zm (db.getD i 0)=y;rw[ABl a b a b];generalize a.add a=a2;generalize b.add b=b2;rw[Pt.add_assoc (a2.add b2) x y,ABl,Pt.add_comm a2 x,Pt.add_comm b2 y]
section
variable{GC:Nat->Nat->Option Value}{w:World}{bv b9 bT bN bM bA bB b1 b2:Nat}{lT l9 da db:List Int}{pv pa pb p1 p2 q:List Int->Prop}{f f':Nat->Value}{w1 w2:World}
def TT:List Int->Prop:=λ_=>True
theorem VS.wk(s:VS GC w bv b9 bT bN bM bA bB b1 b2 lT l9 da db pv pa pb p1 p2 f w1):VS GC w bv b9 bT bN bM bA bB b1 b2 lT l9 da db TT TT TT p1 p2 f w1:=
 ⟨s.f0,s.f9,s.f10,s.f11,s.f12,s.f14,s.f15,s.f16,s.f17,s.v.imp λ_ h=>⟨h.1,trivial⟩,s.a.imp λ_ h=>⟨h.1,trivial⟩,s.b.imp λ_ h=>⟨h.1,trivial⟩,s.t1,s.t2,s.m9,s.mT,s.mN,s.mM,s.fr,s.gw⟩
theorem VS.z6(s:VS GC w bv b9 bT bN bM bA bB b1 b2 lT l9 da db pv pa pb p1 p2 f w1)(h:∀x,p1 x->q x):VS GC w bv b9 bT bN bM bA bB b1 b2 lT l9 da db pv pa pb q p2 f w1:=
 ⟨s.f0,s.f9,s.f10,s.f11,s.f12,s.f14,s.f15,s.f16,s.f17,s.v,s.a,s.b,s.t1.imp λ_ g=>⟨g.1,h _ g.2⟩,s.t2,s.m9,s.mT,s.mN,s.mM,s.fr,s.gw⟩
end
theorem ACQ{ρ:Operand->Value}{d:Option Tmp}{x:Operand}{ty t:TypeId}{pos:String}{af:Array Edge}{w:World}{j:Nat}(hx:ρ x= .int .i8 (-((2*j+1:Nat):Int)))(hj:j<64):(execOp ρ ⟨d,.unOp .neg t x,ty,pos,af,none⟩).run Tryz.prog w= .ok (.value (.int .i8 ((2*j+1:Nat):Int))) w:=by
 have e:IntKind.i8.wrap (-(-((2*j+1:Nat):Int)))=((2*j+1:Nat):Int):=by
  rw[Int.neg_neg,wi8 (by omega) (by omega)]
 simp[execOp,go_sem,hx];simpa using e
theorem bn{ρ:Operand->Value}{d:Option Tmp}{x y:Operand}{ty t t':TypeId}{pos:String}{af:Array Edge}{w:World}{i j:Int}(hx:ρ x= .int .i8 i)(hy:ρ y= .int .i8 j):(execOp ρ ⟨d,.binOp .lss t x y t',ty,pos,af,none⟩).run Tryz.prog w= .ok (.value (.bool (decide (i<j)))) w:=by
 simp[execOp,go_sem,hx,hy]
set_option maxRecDepth 100000 in
theorem AAD{GB:Nat}{GC:Nat->Nat->Option Value}{ad:Nat->Nat×Nat}(hG:Gw GB GC ad){w:World}{bv b9 bT bN bM bA bB b1 b2 i:Nat}{lT l9 da db:List Int}{pv pa pb p1:List Int->Prop}{A:Pt}(o:VO w bv b9 bT bN bM bA bB b1 b2)(δ:GB<=w.heap.size)(mC:GB<=bv)(hT:L6 .pc (dV 8 A) lT)(h9:L6 .pa (dV 64 JS) l9)(hla:da.length=256)(hlb:db.length=256)(hda:∀i,oD 5 (da.getD i 0))(hdb:∀i,oD 8 (db.getD i 0))(hi:i<256){X:Code}(hX:X=WK 2 (Ak Tryz.f102)){a:Act}{w':World}{f:Nat->Value}(F:Fr a 134 f)(μ:f 13= .int .i64 (i:Int))(s:VS GC w bv b9 bT bN bM bA bB b1 b2 lT l9 da db pv pa pb p1 (R2 (gu A JS da db (i+1))) f w'):
  X.wp Tryz.prog (λe a' w'=>e= .normal/\∃f,Fr a' 134 f/\f 13= .int .i64 (HI i)/\VS GC w bv b9 bT bN bM bA bB b1 b2 lT l9 da db TT TT TT TT (R2 (gu A JS da db i)) f w') a w':=by
 subst hX;obtain⟨o0,o1,o2,o3,o4,o5,o6,o7,o8⟩:=id o;have hb:decide ((0:Int)<=(i:Int))=true:=decide_eq_true (sU i);generalize hQ:gu A JS da db (i+1)=Q at *
 refine wp_seq (wp_seq (cE (AA F rfl λa F=>AZ F rfl (Un (F.ev μ) rfl) λa F=>EM ?_)));refine wp_cond (t:=true) (F.ev (EH Value.bool hb)) (wp_skip ?_);refine wp_seq (wp_block ?_);obtain⟨y1,m1,-⟩:=s.t1;obtain⟨y2,m2,r2⟩:=s.t2;refine AO (AA F rfl λa F=>AA F rfl λa F=>DI F rfl (Au rfl (F.ev (t:=56) s.f16) (F.ev (t:=57) s.f17) Tryz.call135) (AFd hG s.gw (z8 δ s.fr.1) m1 (by omega) m2 (by omega) r2) λe w2 h2=>⟨_,h2.ret,λa F=>AJ ?_⟩);have s2:=(s.zd o h2.gw h2.an h2.mem).wk;clear m1 m2 r2 s;refine Jy (J:=λa w3=>∃f',Fr a 134 f'/\f' 13= .int .i64 (i:Int)/\VS GC w bv b9 bT bN bM bA bB b1 b2 lT l9 da db TT TT TT (sQ ((Q.add Q).add (A.zm (da.getD i 0)))) (R2 Q) f' w3) (AO (AA F rfl λa F=>AZ F rfl (J2 (k:=i) (F.ev s2.f11) (F.ev μ) hi) λa F=>AZ F rfl (Q6 F.e (s2.mN.cell hi).1) λa F=>AZ F rfl (gT (k:=.i8) F.e rfl) λa F=>AJ ?_)) ?_
 ·have kj:=(s2.mN.cell hi).1;rcases Ya (hda i) with hx|⟨j,hx,hj⟩|⟨j,hx,hj⟩
  ·have tG:decide ((0:Int)<da.getD i 0)=false:=decide_eq_false (by omega);have fx:decide (da.getD i 0<(0:Int))=false:=decide_eq_false (by omega);refine wp_cond (t:=false) (F.ev (EH Value.bool tG)) ?_;refine AO (AA F rfl λa F=>AZ F rfl (J2 (k:=i) (F.ev s2.f11) (F.ev μ) hi) λa F=>AZ F rfl (Q6 F.e kj) λa F=>AZ F rfl (bn F.e rfl) λa F=>AJ ?_);refine wp_cond (t:=false) (F.ev (EH Value.bool fx)) (wp_skip ?_);refine⟨rfl,_,F,μ,(s2.z6 λx h=>?_).cT ?_⟩
   ·rw[hx,Pt.de,Pt.add_zero];exact h
   ·exact λt ht=>by
     simp only[IR,List.not_mem_nil,or_false] at ht;rcases ht with rfl|rfl|rfl|rfl|rfl|rfl|rfl|rfl|rfl<;>rfl
  ·have hj8:j<8:=AOm hj;have tG:decide ((0:Int)<da.getD i 0)=true:=decide_eq_true (by omega);refine wp_cond (t:=true) (F.ev (EH Value.bool tG)) ?_;obtain⟨z1,n1,q1⟩:=s2.t1;obtain⟨z0,n0,-⟩:=s2.v;refine AO (AA F rfl λa F=>AA F rfl λa F=>DI F rfl (Au rfl (F.ev (t:=63) s2.f0) (F.ev (t:=64) s2.f16) Tryz.call136) (RI hG s2.gw (z8 δ s2.fr.1) n0 mC n1 (by omega) q1) λe w3 h3=>⟨_,h3.ret,λa F=>AJ ?_⟩);have s3:=s2.Mn o h3.gw h3.an h3.mem;have Xs:=(s3.mN.cell hi).1;obtain⟨z2,n2,-⟩:=s3.a;refine AO (AA F rfl λa F=>AA F rfl λa F=>AZ F rfl (J2 (k:=i) (F.ev s3.f11) (F.ev μ) hi) λa F=>AZ F rfl (Q6 F.e Xs) λa F=>DI F rfl (Ea rfl (F.ev (t:=10) s3.f10) (F.ev (t:=66) s3.f14) (F.ev (t:=69) (EH (Value.int .i8) hx)) Tryz.call137) (jN hG s3.gw (z8 δ s3.fr.1) s3.mT n2 (by omega) hT hj8) λe w4 h4=>⟨_,h4.ret,λa F=>AJ ?_⟩);have s4:=s3.adL o h4.gw h4.an h4.mem;obtain⟨u1,l1,-⟩:=s4.t1;obtain⟨u0,l0,g0⟩:=s4.v;obtain⟨u2,l2,g2⟩:=s4.a;refine cE (AA F rfl λa F=>AA F rfl λa F=>AA F rfl λa F=>DI F rfl (Ea rfl (F.ev (t:=71) s4.f16) (F.ev (t:=72) s4.f0) (F.ev (t:=73) s4.f14) Tryz.call138) (AAZ hG s4.gw (z8 δ s4.fr.1) l1 (by omega) l0 l2 (by omega) (by omega) (by omega) g0 g2) λe w5 h5=>⟨_,h5.ret,λa F=>EM ?_⟩);have s5:=(s4.zd o h5.gw h5.an h5.mem).wk;refine⟨rfl,_,F,μ,(s5.z6 λx h=>?_).cT ?_⟩
   ·rw[hx];exact h
   ·exact λt ht=>by
     simp only[IR,List.not_mem_nil,or_false] at ht;rcases ht with rfl|rfl|rfl|rfl|rfl|rfl|rfl|rfl|rfl<;>rfl
  ·have hj8:j<8:=AOm hj;have tG:decide ((0:Int)<da.getD i 0)=false:=decide_eq_false (by omega);have fx:decide (da.getD i 0<(0:Int))=true:=decide_eq_true (by omega);refine wp_cond (t:=false) (F.ev (EH Value.bool tG)) ?_;refine AO (AA F rfl λa F=>AZ F rfl (J2 (k:=i) (F.ev s2.f11) (F.ev μ) hi) λa F=>AZ F rfl (Q6 F.e kj) λa F=>AZ F rfl (bn F.e rfl) λa F=>AJ ?_);refine wp_cond (t:=true) (F.ev (EH Value.bool fx)) ?_;obtain⟨z1,n1,q1⟩:=s2.t1;obtain⟨z0,n0,-⟩:=s2.v;refine AO (AA F rfl λa F=>AA F rfl λa F=>DI F rfl (Au rfl (F.ev (t:=79) s2.f0) (F.ev (t:=80) s2.f16) Tryz.call136) (RI hG s2.gw (z8 δ s2.fr.1) n0 mC n1 (by omega) q1) λe w3 h3=>⟨_,h3.ret,λa F=>AJ ?_⟩);have s3:=s2.Mn o h3.gw h3.an h3.mem;have Xs:=(s3.mN.cell hi).1;obtain⟨z2,n2,-⟩:=s3.a;refine AO (AA F rfl λa F=>AA F rfl λa F=>AZ F rfl (J2 (k:=i) (F.ev s3.f11) (F.ev μ) hi) λa F=>AZ F rfl (Q6 F.e Xs) λa F=>AZ F rfl (ACQ (j:=j) (F.ev (t:=85) (EH (Value.int .i8) hx)) (by omega)) λa F=>DI F rfl (Ea rfl (F.ev (t:=10) s3.f10) (F.ev (t:=82) s3.f14) F.e Tryz.call137) (jN hG s3.gw (z8 δ s3.fr.1) s3.mT n2 (by omega) hT hj8) λe w4 h4=>⟨_,h4.ret,λa F=>AJ ?_⟩);have s4:=s3.adL o h4.gw h4.an h4.mem;obtain⟨u1,l1,-⟩:=s4.t1;obtain⟨u0,l0,g0⟩:=s4.v;obtain⟨u2,l2,g2⟩:=s4.a;refine cE (AA F rfl λa F=>AA F rfl λa F=>AA F rfl λa F=>DI F rfl (Ea rfl (F.ev (t:=88) s4.f16) (F.ev (t:=89) s4.f0) (F.ev (t:=90) s4.f14) Tryz.call139) (AB6 hG s4.gw (z8 δ s4.fr.1) l1 (by omega) l0 l2 (by omega) (by omega) (by omega) g0 g2) λe w5 h5=>⟨_,h5.ret,λa F=>EM ?_⟩);have s5:=(s4.zd o h5.gw h5.an h5.mem).wk;refine⟨rfl,_,F,μ,(s5.z6 λx h=>?_).cT ?_⟩
   ·rw[hx,Pt.lj];exact h
   ·exact λt ht=>by
     simp only[IR,List.not_mem_nil,or_false] at ht;rcases ht with rfl|rfl|rfl|rfl|rfl|rfl|rfl|rfl|rfl<;>rfl
 rintro a w6 ⟨f6,F,μ,s6⟩;clear s2 h2;generalize hP:(Q.add Q).add (A.zm (da.getD i 0))=P at *
 refine Jy (J:=λa w3=>∃f',Fr a 134 f'/\f' 13= .int .i64 (i:Int)/\VS GC w bv b9 bT bN bM bA bB b1 b2 lT l9 da db TT TT TT (sQ (P.add (JS.zm (db.getD i 0)))) (R2 Q) f' w3) (AO (AA F rfl λa F=>AZ F rfl (J2 (k:=i) (F.ev s6.f12) (F.ev μ) hi) λa F=>AZ F rfl (Q6 F.e (s6.mM.cell hi).1) λa F=>AZ F rfl (gT (k:=.i8) F.e rfl) λa F=>AJ ?_)) ?_
 ·have kj:=(s6.mM.cell hi).1;rcases Ya (hdb i) with hx|⟨j,hx,hj⟩|⟨j,hx,hj⟩
  ·have tG:decide ((0:Int)<db.getD i 0)=false:=decide_eq_false (by omega);have fx:decide (db.getD i 0<(0:Int))=false:=decide_eq_false (by omega);refine wp_cond (t:=false) (F.ev (EH Value.bool tG)) ?_;refine AO (AA F rfl λa F=>AZ F rfl (J2 (k:=i) (F.ev s6.f12) (F.ev μ) hi) λa F=>AZ F rfl (Q6 F.e kj) λa F=>AZ F rfl (bn F.e rfl) λa F=>AJ ?_);refine wp_cond (t:=false) (F.ev (EH Value.bool fx)) (wp_skip ?_);refine⟨rfl,_,F,μ,(s6.z6 λx h=>?_).cT ?_⟩
   ·rw[hx,Pt.de,Pt.add_zero];exact h
   ·exact λt ht=>by
     simp only[IR,List.not_mem_nil,or_false] at ht;rcases ht with rfl|rfl|rfl|rfl|rfl|rfl|rfl|rfl|rfl<;>rfl
  ·have hj8:j<64:=AOF hj;have tG:decide ((0:Int)<db.getD i 0)=true:=decide_eq_true (by omega);refine wp_cond (t:=true) (F.ev (EH Value.bool tG)) ?_;obtain⟨z1,n1,q1⟩:=s6.t1;obtain⟨z0,n0,-⟩:=s6.v;refine AO (AA F rfl λa F=>AA F rfl λa F=>DI F rfl (Au rfl (F.ev (t:=96) s6.f0) (F.ev (t:=97) s6.f16) Tryz.call136) (RI hG s6.gw (z8 δ s6.fr.1) n0 mC n1 (by omega) q1) λe w3 h3=>⟨_,h3.ret,λa F=>AJ ?_⟩);have s3:=s6.Mn o h3.gw h3.an h3.mem;have Xs:=(s3.mM.cell hi).1;obtain⟨z2,n2,-⟩:=s3.b;refine AO (AA F rfl λa F=>AA F rfl λa F=>AA F rfl λa F=>AZ F rfl (J2 (k:=i) (F.ev s3.f12) (F.ev μ) hi) λa F=>AZ F rfl (Q6 F.e Xs) λa F=>DI F rfl (Ea rfl (F.ev (t:=99) s3.f9) (F.ev (t:=100) s3.f15) (F.ev (t:=103) (EH (Value.int .i8) hx)) Tryz.call140) (jB hG s3.gw (z8 δ s3.fr.1) s3.m9 n2 (by omega) h9 hj8) λe w4 h4=>⟨_,h4.ret,λa F=>AJ ?_⟩);have s4:=s3.ad6 o h4.gw h4.an h4.mem;obtain⟨u1,l1,-⟩:=s4.t1;obtain⟨u0,l0,g0⟩:=s4.v;obtain⟨u2,l2,g2⟩:=s4.b;refine cE (AA F rfl λa F=>AA F rfl λa F=>AA F rfl λa F=>DI F rfl (Ea rfl (F.ev (t:=105) s4.f16) (F.ev (t:=106) s4.f0) (F.ev (t:=107) s4.f15) Tryz.call141) (zU hG s4.gw (z8 δ s4.fr.1) l1 (by omega) l0 l2 (by omega) (by omega) (by omega) g0 g2) λe w5 h5=>⟨_,h5.ret,λa F=>EM ?_⟩);have s5:=(s4.zd o h5.gw h5.an h5.mem).wk;refine⟨rfl,_,F,μ,(s5.z6 λx h=>?_).cT ?_⟩
   ·rw[hx];exact h
   ·exact λt ht=>by
     simp only[IR,List.not_mem_nil,or_false] at ht;rcases ht with rfl|rfl|rfl|rfl|rfl|rfl|rfl|rfl|rfl<;>rfl
  ·have hj8:j<64:=AOF hj;have tG:decide ((0:Int)<db.getD i 0)=false:=decide_eq_false (by omega);have fx:decide (db.getD i 0<(0:Int))=true:=decide_eq_true (by omega);refine wp_cond (t:=false) (F.ev (EH Value.bool tG)) ?_;refine AO (AA F rfl λa F=>AZ F rfl (J2 (k:=i) (F.ev s6.f12) (F.ev μ) hi) λa F=>AZ F rfl (Q6 F.e kj) λa F=>AZ F rfl (bn F.e rfl) λa F=>AJ ?_);refine wp_cond (t:=true) (F.ev (EH Value.bool fx)) ?_;obtain⟨z1,n1,q1⟩:=s6.t1;obtain⟨z0,n0,-⟩:=s6.v;refine AO (AA F rfl λa F=>AA F rfl λa F=>DI F rfl (Au rfl (F.ev (t:=113) s6.f0) (F.ev (t:=114) s6.f16) Tryz.call136) (RI hG s6.gw (z8 δ s6.fr.1) n0 mC n1 (by omega) q1) λe w3 h3=>⟨_,h3.ret,λa F=>AJ ?_⟩);have s3:=s6.Mn o h3.gw h3.an h3.mem;have Xs:=(s3.mM.cell hi).1;obtain⟨z2,n2,-⟩:=s3.b;refine AO (AA F rfl λa F=>AA F rfl λa F=>AA F rfl λa F=>AZ F rfl (J2 (k:=i) (F.ev s3.f12) (F.ev μ) hi) λa F=>AZ F rfl (Q6 F.e Xs) λa F=>AZ F rfl (ACQ (j:=j) (F.ev (t:=120) (EH (Value.int .i8) hx)) (by omega)) λa F=>DI F rfl (Ea rfl (F.ev (t:=116) s3.f9) (F.ev (t:=117) s3.f15) F.e Tryz.call140) (jB hG s3.gw (z8 δ s3.fr.1) s3.m9 n2 (by omega) h9 hj8) λe w4 h4=>⟨_,h4.ret,λa F=>AJ ?_⟩);have s4:=s3.ad6 o h4.gw h4.an h4.mem;obtain⟨u1,l1,-⟩:=s4.t1;obtain⟨u0,l0,g0⟩:=s4.v;obtain⟨u2,l2,g2⟩:=s4.b;refine cE (AA F rfl λa F=>AA F rfl λa F=>AA F rfl λa F=>DI F rfl (Ea rfl (F.ev (t:=123) s4.f16) (F.ev (t:=124) s4.f0) (F.ev (t:=125) s4.f15) Tryz.call142) (AB8 hG s4.gw (z8 δ s4.fr.1) l1 (by omega) l0 l2 (by omega) (by omega) (by omega) g0 g2) λe w5 h5=>⟨_,h5.ret,λa F=>EM ?_⟩);have s5:=(s4.zd o h5.gw h5.an h5.mem).wk;refine⟨rfl,_,F,μ,(s5.z6 λx h=>?_).cT ?_⟩
   ·rw[hx,Pt.lj];exact h
   ·exact λt ht=>by
     simp only[IR,List.not_mem_nil,or_false] at ht;rcases ht with rfl|rfl|rfl|rfl|rfl|rfl|rfl|rfl|rfl<;>rfl
 rintro a w7 ⟨f7,F,μ,s7⟩;obtain⟨y1,m1,r1⟩:=s7.t1;obtain⟨y2,m2,-⟩:=s7.t2;have hQ2:=iw (A:=A) (B:=JS) (da:=da) (db:=db) (i:=i) (by omega) (by omega);rw[hQ,hP] at hQ2;rw[hQ2] at r1;refine cE (AA F rfl λa F=>AA F rfl λa F=>DI F rfl (Au rfl (F.ev (t:=127) s7.f17) (F.ev (t:=128) s7.f16) Tryz.call143) (nu hG s7.gw (z8 δ s7.fr.1) m2 (by omega) m1 (by omega) r1) λe w8 h8=>⟨_,h8.ret,λa F=>EM ?_⟩);have s8:=(s7.ahN o h8.gw h8.an h8.mem).wk;refine cE (AA F rfl λa F=>AZ F rfl (qg (i:=(i:Int)) (j:=1) (F.ev μ) rfl) λa F=>AB F rfl λa F=>EM ?_);refine⟨rfl,_,F,EH (Value.int .i64) (eO (n:=i) (by omega)),(s8.z6 λx h=>trivial).cT λt ht=>?_⟩;simp only[IR,List.not_mem_nil,or_false] at ht;rcases ht with rfl|rfl|rfl|rfl|rfl|rfl|rfl|rfl|rfl<;>rfl
end
section
open Go Ma Go.RowKit Go.Lib
section
variable{ρ:Operand->Value}{d:Option Tmp}{x y z:Operand}{ty t t':TypeId}{pos:String}{af:Array Edge}{w:World}{b o:Nat}{gd:Option (Nat×Bool)}
theorem AHW(h:ρ x= .pointer (some ⟨b,o,none⟩)):(execOp ρ ⟨d,.buildSlice 217 1 #[(0,x)],ty,pos,af,none⟩).run Tryz.prog w= .ok (.value (.slice (some ⟨w.heap.size,0,none⟩) 1 1)) (w.alloc (.cells #[.pointer (some ⟨b,o,none⟩)] 121)):=by
 simp[execOp,go_sem,h,Instr.buildSlice]
theorem ARU:Tryz.zeroCells164=Array.replicate 160 (.int .u64 0):=by kernel_rfl
set_option maxRecDepth 100000 in
theorem AEc:(execOp ρ ⟨d,.alloc 164,ty,pos,af,none⟩).run Tryz.prog w= .ok (.value (.pointer (some ⟨w.heap.size,0,none⟩))) (w.alloc (.cells (Array.replicate 160 (.int .u64 0)) 164)):=by
 rw[<- ARU];simp[execOp,go_sem]
def XR:List Int:=List.replicate 15 0
theorem z15:(#[.int .u64 0,.int .u64 0,.int .u64 0,.int .u64 0,.int .u64 0,.int .u64 0,.int .u64 0,.int .u64 0,.int .u64 0,.int .u64 0,.int .u64 0,.int .u64 0,.int .u64 0,.int .u64 0,.int .u64 0]:Array Value)=(Aj (KU 15) XR).toArray:=rfl
theorem ALY:(execOp ρ ⟨d,.build 161 #[],ty,pos,af,none⟩).run Tryz.prog w= .ok (.value (.agg (Aj (KU 20) Vs).toArray)) w:=by
 have:=z20;rw[show KU 20=List.replicate 20 .u64 from rfl, <- z20];simp[execOp,go_sem]
theorem AKG:(execOp ρ ⟨d,.build 172 #[],ty,pos,af,none⟩).run Tryz.prog w= .ok (.value (.agg (Aj (KU 15) XR).toArray)) w:=by
 rw[<- z15];simp[execOp,go_sem]
theorem AMd:(execOp ρ ⟨d,.build 175 #[],ty,pos,af,none⟩).run Tryz.prog w= .ok (.value (.agg (Aj (KU 20) Vs).toArray)) w:=by
 rw[show KU 20=List.replicate 20 .u64 from rfl, <- z20];simp[execOp,go_sem]
theorem AIh:(execOp ρ ⟨d,.build 178 #[],ty,pos,af,none⟩).run Tryz.prog w= .ok (.value (.agg (Aj (KU 15) XR).toArray)) w:=by
 rw[<- z15];simp[execOp,go_sem]
theorem AM5{cs:Array Value}(h:ρ x= .agg cs):(execOp ρ ⟨d,.box 161 x,ty,pos,af,none⟩).run Tryz.prog w= .ok (.value (.pointer (some ⟨w.heap.size,0,none⟩))) (w.alloc (.cells cs 161)):=by
 simp[execOp,go_sem,h]
theorem ALv{cs:Array Value}(h:ρ x= .agg cs):(execOp ρ ⟨d,.box 172 x,ty,pos,af,none⟩).run Tryz.prog w= .ok (.value (.pointer (some ⟨w.heap.size,0,none⟩))) (w.alloc (.cells cs 172)):=by
 simp[execOp,go_sem,h]
theorem AK9{cs:Array Value}(h:ρ x= .agg cs):(execOp ρ ⟨d,.box 175 x,ty,pos,af,none⟩).run Tryz.prog w= .ok (.value (.pointer (some ⟨w.heap.size,0,none⟩))) (w.alloc (.cells cs 175)):=by
 simp[execOp,go_sem,h]
theorem AM9{cs:Array Value}(h:ρ x= .agg cs):(execOp ρ ⟨d,.box 178 x,ty,pos,af,none⟩).run Tryz.prog w= .ok (.value (.pointer (some ⟨w.heap.size,0,none⟩))) (w.alloc (.cells cs 178)):=by
 simp[execOp,go_sem,h]
theorem kY{kk:IntKind}{k:Nat}(h:ρ x= .pointer (some ⟨b,o,none⟩))(hy:ρ y= .int kk k)(hk:k<256):(execOp ρ ⟨d,.indexAddr 167 x y,ty,pos,af,gd⟩).run Tryz.prog w= .ok (.value (.pointer (some ⟨b,o+k,none⟩))) w:=by
 simp[execOp,go_sem,h,hy];intro h;omega
theorem AA9{i:Int}(h:ρ x= .pointer (some ⟨b,o,none⟩))(hc:w.cell? ⟨b,o,none⟩=some (.int .i8 i)):(execOp ρ ⟨d,.load 166 x,ty,pos,af,gd⟩).run Tryz.prog w= .ok (.value (.int .i8 i)) w:=by
 simp[execOp,go_sem,h,hc]
theorem Y3{i j:Int}(hx:ρ x= .int .i8 i)(hy:ρ y= .int .i8 j):(execOp ρ ⟨d,.binOp .neq t x y t',ty,pos,af,gd⟩).run Tryz.prog w= .ok (.value (.bool (i != j))) w:=by
 simp[execOp,go_sem,hx,hy]
end
theorem AAp:La (KU 20) Vs:=Ot (by decide)
theorem AAH:La (KU 15) XR:=Ot (by decide)
theorem UB{d:List Int}{n:Nat}(h:d.length=n):OO (d.drop n)=0:=by
 rw[List.drop_eq_nil_of_le (by omega)];rfl
theorem AF9{A B:Pt}{da db:List Int}{n:Nat}(h1:da.length=n)(h2:db.length=n):gu A B da db n=Pt.zero:=by
 unfold gu;rw[UB h1,UB h2,Pt.de,Pt.de,Pt.add_zero]
theorem ABU{A B:Pt}{da db:List Int}{i:Nat}(h1:i<da.length)(h2:i<db.length)(e1:da.getD i 0=0)(e2:db.getD i 0=0)(h:gu A B da db (i+1)=Pt.zero):gu A B da db i=Pt.zero:=by
 have:=iw (A:=A) (B:=B) h1 h2;rw[h,e1,e2,Pt.de,Pt.de,Pt.add_zero,Pt.add_zero,Pt.add_zero] at this;exact this.symm
structure V0 (w:World) (bv b9 bT bN bM:Nat) (f:Nat->Value) (w':World):Prop where
 f0:f 0=pp bv
 f9:f 9=pp b9
 f10:f 10=pp bT
 f11:f 11=pp bN
 f12:f 12=pp bM
 hw:w=w'
set_option maxRecDepth 100000 in
theorem ABT{w:World}{bv b9 bT bN bM:Nat}{da db:List Int}{A:Pt}(hla:da.length=256)(hlb:db.length=256)(mN:AQ true w (bN,0) ME da)(mM:AQ true w (bM,0) ME db){Q:Exit->Act->World->Prop}{X:Code}(hX:X=WK 0 (Ak Tryz.f102)){a:Act}{f:Nat->Value}(F:Fr a 134 f)(μ:f 13= .int .i64 255)(v:V0 w bv b9 bT bN bM f w)
  (hQ:∀a' f k,Fr a' 134 f->f 13= .int .i64 (HI k)->k<=256->gu A JS da db k=Pt.zero->V0 w bv b9 bT bN bM f w->Q .normal a' w):(Code.block 0 (.loop X)).wp Tryz.prog Q a w:=by
 subst hX;refine wp_block (wp_loop_rounds _ (Ua (J:=λk a w'=>∃f,Fr a 134 f/\f 13= .int .i64 (HI k)/\k<=256/\gu A JS da db k=Pt.zero/\V0 w bv b9 bT bN bM f w') ?_ _ _ _ _ (Nat.lt_succ_self _) ⟨f,F,μ.trans (EH _ AEL.symm),KA _,AF9 hla hlb,v⟩));rintro k a w' ⟨f,F,μ,hk,hv,v⟩;obtain⟨f0,f9,f10,f11,f12,hw⟩:=v;subst hw
 match k,hk,μ,hv with
 |0,_,μ,hv=>
  refine .inr ?_;refine wp_seq (wp_seq (cE (AA F rfl λa F=>AZ F rfl (Un (F.ev μ) rfl) λa F=>EM ?_)));refine wp_cond (t:=false) F.e (wp_exit ?_);exact hQ _ _ 0 F μ (Nat.zero_le _) hv ⟨f0,f9,f10,f11,f12,rfl⟩
 | i+1,hk,μ,hv=>
  have hi:i<256:=hk;have hb:decide ((0:Int)<=(i:Int))=true:=decide_eq_true (sU i);have u9:f 13= .int .i64 (i:Int):=μ;have c1:=(mN.cell hi).1;have c2:=(mM.cell hi).1;by_cases h1:da.getD i 0=0
  ·have b1:(da.getD i 0 != 0)=false:=by simpa using h1
   by_cases h2:db.getD i 0=0
   ·have b2:(db.getD i 0 != 0)=false:=by simpa using h2
    refine .inl ?_;refine wp_seq (wp_seq (cE (AA F rfl λa F=>AZ F rfl (Un (F.ev u9) rfl) λa F=>EM ?_)));refine wp_cond (t:=true) (F.ev (EH Value.bool hb)) (wp_skip ?_);refine wp_block (wp_seq ?_);refine AO (AA F rfl λa F=>AZ F rfl (J2 (k:=i) (F.ev f11) (F.ev u9) hi) λa F=>AZ F rfl (Q6 F.e c1) λa F=>AZ F rfl (Y3 F.e rfl) λa F=>AA F rfl λa F=>Al (s:=34) F rfl rfl rfl rfl (EH Value.bool b1) rfl (Ej (F.ev (t:=13) u9)) λa F=>Al (s:=34) F rfl rfl rfl rfl (EH Value.bool b1) rfl (kY (k:=i) (F.ev f12) (F.ev (t:=35) rfl) hi) λa F=>Al (s:=34) F rfl rfl rfl rfl (EH Value.bool b1) rfl (AA9 F.e c2) λa F=>Al (s:=34) F rfl rfl rfl rfl (EH Value.bool b1) rfl (Y3 F.e rfl) λa F=>AZ F rfl (Ik (F.ev (t:=34) (EH Value.bool b1)) (F.ev (t:=38) (EH Value.bool b2))) λa F=>AJ ?_);refine wp_cond (t:=false) F.e (wp_skip ?_);refine cE (AA F rfl λa F=>AZ F rfl (qg (i:=(i:Int)) (j:=1) (F.ev u9) rfl) λa F=>AB F rfl λa F=>EM ?_);exact⟨rfl,i,Nat.lt_succ_self i,_,F,EH (Value.int .i64) (eO (n:=i) (by omega)),by omega,ABU (by omega) (by omega) h1 h2 hv,f0,f9,f10,f11,f12,rfl⟩
   ·have b2:(db.getD i 0 != 0)=true:=by simpa using h2
    refine .inr ?_;refine wp_seq (wp_seq (cE (AA F rfl λa F=>AZ F rfl (Un (F.ev u9) rfl) λa F=>EM ?_)));refine wp_cond (t:=true) (F.ev (EH Value.bool hb)) (wp_skip ?_);refine wp_block (wp_seq ?_);refine AO (AA F rfl λa F=>AZ F rfl (J2 (k:=i) (F.ev f11) (F.ev u9) hi) λa F=>AZ F rfl (Q6 F.e c1) λa F=>AZ F rfl (Y3 F.e rfl) λa F=>AA F rfl λa F=>Al (s:=34) F rfl rfl rfl rfl (EH Value.bool b1) rfl (Ej (F.ev (t:=13) u9)) λa F=>Al (s:=34) F rfl rfl rfl rfl (EH Value.bool b1) rfl (kY (k:=i) (F.ev f12) (F.ev (t:=35) rfl) hi) λa F=>Al (s:=34) F rfl rfl rfl rfl (EH Value.bool b1) rfl (AA9 F.e c2) λa F=>Al (s:=34) F rfl rfl rfl rfl (EH Value.bool b1) rfl (Y3 F.e rfl) λa F=>AZ F rfl (Ik (F.ev (t:=34) (EH Value.bool b1)) (F.ev (t:=38) (EH Value.bool b2))) λa F=>AJ ?_);refine wp_cond (t:=true) F.e (wp_exit ?_);exact hQ _ _ (i+1) F μ hk hv ⟨f0,f9,f10,f11,f12,rfl⟩
  ·have b1:(da.getD i 0 != 0)=true:=by simpa using h1
   refine .inr ?_;refine wp_seq (wp_seq (cE (AA F rfl λa F=>AZ F rfl (Un (F.ev u9) rfl) λa F=>EM ?_)));refine wp_cond (t:=true) (F.ev (EH Value.bool hb)) (wp_skip ?_);refine wp_block (wp_seq ?_);refine AO (AA F rfl λa F=>AZ F rfl (J2 (k:=i) (F.ev f11) (F.ev u9) hi) λa F=>AZ F rfl (Q6 F.e c1) λa F=>AZ F rfl (Y3 F.e rfl) λa F=>AA F rfl λa F=>Tz (s:=34) F rfl rfl rfl rfl (EH Value.bool b1) rfl (by decide) λa F=>Tz (s:=34) F rfl rfl rfl rfl (EH Value.bool b1) rfl (by decide) λa F=>Tz (s:=34) F rfl rfl rfl rfl (EH Value.bool b1) rfl (by decide) λa F=>Tz (s:=34) F rfl rfl rfl rfl (EH Value.bool b1) rfl (by decide) λa F=>AZ F rfl (Qq (F.ev (t:=34) (EH Value.bool b1)) rfl) λa F=>AJ ?_);refine wp_cond (t:=true) F.e (wp_exit ?_);exact hQ _ _ (i+1) F μ hk hv ⟨f0,f9,f10,f11,f12,rfl⟩
end
section
open Go Ma Go.RowKit Go.Lib
theorem lN(w:World)(v:Value)(e:TypeId):(w.alloc (.cells #[v] e)).cell? ⟨w.heap.size,0,none⟩=some v:=by
 have h:CY true (w.alloc (.cells #[v] e)) w.heap.size 0 v:=by
  refine CY.fh (c:=#[v]) (e:=e) (lo:=0) (hi:=0) ?_ rfl (λ_=>by omega);show(w.heap.push _)[w.heap.size]? = _;exact Array.getElem?_push_size
 exact h.1
theorem XB(w:World)(b o:Nat)(vs:List Value):(w.setCells b o vs).heap.size=w.heap.size:=by
 rw[<- QT];exact Tx _ _ _ _
theorem AQ.ltK{f:Bool}{w:World}{b n:Nat}{l:List Int}(h:AQ f w (b,0) (KU n) l)(hn:0<n):b<w.heap.size:=(h.cell hn).lt
set_option maxRecDepth 100000 in
theorem AIp{GB:Nat}{GC:Nat->Nat->Option Value}{ad:Nat->Nat×Nat}(hG:Gw GB GC ad){w:World}{bv ba oa bp bb ob na nb:Nat}{x0 sa sb xA:List Int}{va vb:Int}{A:Pt}(ε:GW GC w)(δ:GB<=w.heap.size)(m0:AQ true w (bv,0) (KU 20) x0)(mC:GB<=bv)(cf:bv<w.heap.size)(ma:AQ false w (ba,oa) U4 sa)(ha:MO sa va)(hna:((na:Nat):Int)=va%Qm)(mb:AQ false w (bb,ob) U4 sb)(hb:MO sb vb)(At:((nb:Nat):Int)=vb%Qm)(mA:AQ true w (bp,0) (KU 20) xA)(hA:R3 A xA)(C2:bp<w.heap.size):
  Calls Tryz.prog 102 #[pp bv,.pointer (some ⟨ba,oa,none⟩),pp bp,.pointer (some ⟨bb,ob,none⟩)] w (yj GC .p3 ((A.zm na).add (JS.zm nb)) bv (pp bv) w):=by
 refine enter (args:=[pp bv,.pointer (some ⟨ba,oa,none⟩),pp bp,.pointer (some ⟨bb,ob,none⟩)]) Tryz.func102 rfl (n:=134) rfl λa F=>?_
 refine AO (AX F rfl λa F=>AJ ?_);refine AO (AA F rfl λa F=>AZ F rfl (AHW (b:=bp) (o:=0) F.e) λa F=>?_);have c1:(w.alloc (.cells #[pp bp] 121)).cell? ⟨w.heap.size,0,none⟩=some (pp bp):=lN _ _ _;have f1:BM w (w.alloc (.cells #[pp bp] 121)) (λ_ _=>False):=BI _ _ _;have s1:=Gr w (.cells #[pp bp] 121);generalize w.alloc (.cells #[pp bp] 121)=w1 at c1 f1 s1 ⊢;have Sh:=mA.an f1 λ_ _ h=>h
 refine DI F rfl (Ar rfl F.e Tryz.call130) (rT c1 Sh (lK hA)) λe w' h=>?_
 obtain⟨he,hw⟩:=h;subst hw;refine⟨_,he,λa F=>AJ ?_⟩;refine AO (DI F rfl (LJ rfl Tryz.call131) (AF5 hG (Jk hG ε f1 δ) (z8 δ f1.1)) λe w2 h2=>?_);obtain⟨b9,l9,he9,hb9,m9,t9⟩:=h2.ret;refine⟨_,he9,λa F=>AB F rfl λa F=>AJ ?_⟩;have f2:=f1.trans h2.an;have s2:=h2.an.1;have aj7:b9<w2.heap.size:=m9.ltK (by decide);refine AO (AZ F rfl AEc λa F=>AJ ?_);have M3:=Ey w2 160 .u64 164 ⟨by decide,by decide⟩;have f3':BM w2 (w2.alloc (.cells (Array.replicate 160 (.int .u64 0)) 164)) (λ_ _=>False):=BI _ _ _;have s3:=Gr w2 (.cells (Array.replicate 160 (.int .u64 0)) 164);generalize w2.alloc (.cells (Array.replicate 160 (.int .u64 0)) 164)=w3 at M3 f3' s3 ⊢;have f3:=f2.trans f3';have m93:=m9.an f3' λ_ _ h=>h
 refine AO (AA F rfl λa F=>DI F rfl (Au rfl (F.ev (t:=10) rfl) F.e Tryz.call132) (ADM hG (Jk hG ε f3 δ) (z8 δ f3.1) M3 (z8 δ f2.1) (mA.an f3 λ_ _ h=>h) (by have:=f2.1;omega) hA) λe w4 h4=>⟨_,h4.ret,λa F=>AJ ?_⟩);obtain⟨lT,mT,tT⟩:=h4.mem;have aiq:=f2.1;have f4:BM w w4 (λ_ _=>False):=f3.trans' h4.an λb i hb (h:b=w2.heap.size)=>by omega
 have s4:=h4.an.1;have m94:=m93.an h4.an λ_ _ (h:b9=w2.heap.size)=>by omega
 refine AO (AA F rfl λa F=>DI F rfl (Au rfl F.e rfl Tryz.call133) (tL (W:=5) hG h4.gw (z8 δ f4.1) (ma.an f4 λ_ _ h=>h) ha hna (by decide) (by decide)) λe w5 h5=>?_);obtain⟨da,hsa,hla,hda,h5⟩:=h5.ex;refine⟨_,h5.ret,λa F=>?_⟩;have f5:=f4.trans h5.an;have s5:=h5.an.1;have m95:=m94.an h5.an λ_ _ h=>h
 have mT5:=mT.an h5.an λ_ _ h=>h
 refine AZ F rfl X5 λa F=>?_
 have M6:=Ey w5 256 .i8 167 ⟨by decide,by decide⟩;have f6':BM w5 (w5.alloc (.cells (Array.replicate 256 (.int .i8 0)) 167)) (λ_ _=>False):=BI _ _ _;have s6:=Gr w5 (.cells (Array.replicate 256 (.int .i8 0)) 167);generalize w5.alloc (.cells (Array.replicate 256 (.int .i8 0)) 167)=w6 at M6 f6' s6 ⊢;have hlI:(Aj ME da).length=256:=KJ h5.jn.1;refine K9 F rfl rfl (V4 (cs:=Aj ME da) (λw=>by rw[hlI];simp[go_sem]) F.e F.e Nt (λj hj=>M6.ex j (by rw[hlI] at hj;exact hj))) λa F=>AJ ?_
 have mN:=TB h5.jn M6.ex;have f7':BM w5 (w6.setCells w5.heap.size 0 (Aj ME da)) (λ_ _=>False):=EK _ _ f6' λ_ _=>.inl (KA _)
 have s7:(w6.setCells w5.heap.size 0 (Aj ME da)).heap.size=w6.heap.size:=XB _ _ _ _;generalize w6.setCells w5.heap.size 0 (Aj ME da)=w7 at mN f7' s7 ⊢;have f7:=f5.trans f7';have m97:=m95.an f7' λ_ _ h=>h
 have mT7:=mT5.an f7' λ_ _ h=>h
 refine AO (AA F rfl λa F=>DI F rfl (Au rfl F.e rfl Tryz.call133) (tL (W:=8) hG (Jk hG ε f7 δ) (z8 δ f7.1) (mb.an f7 λ_ _ h=>h) hb At (by decide) (by decide)) λe w8 h8=>?_);obtain⟨db,hsb,hlb,hdb,h8⟩:=h8.ex;refine⟨_,h8.ret,λa F=>?_⟩;have f8:=f7.trans h8.an;have s8:=h8.an.1;have m98:=m97.an h8.an λ_ _ h=>h
 have mT8:=mT7.an h8.an λ_ _ h=>h
 have mN8:=mN.an h8.an λ_ _ h=>h
 refine AZ F rfl X5 λa F=>?_
 have M9:=Ey w8 256 .i8 167 ⟨by decide,by decide⟩;have f9':BM w8 (w8.alloc (.cells (Array.replicate 256 (.int .i8 0)) 167)) (λ_ _=>False):=BI _ _ _;have s9:=Gr w8 (.cells (Array.replicate 256 (.int .i8 0)) 167);generalize w8.alloc (.cells (Array.replicate 256 (.int .i8 0)) 167)=w9 at M9 f9' s9 ⊢;have hlJ:(Aj ME db).length=256:=KJ h8.jn.1;refine K9 F rfl rfl (V4 (cs:=Aj ME db) (λw=>by rw[hlJ];simp[go_sem]) F.e F.e Nt (λj hj=>M9.ex j (by rw[hlJ] at hj;exact hj))) λa F=>AJ ?_
 have mM:=TB h8.jn M9.ex;have HD:BM w8 (w9.setCells w8.heap.size 0 (Aj ME db)) (λ_ _=>False):=EK _ _ f9' λ_ _=>.inl (KA _)
 have s10:(w9.setCells w8.heap.size 0 (Aj ME db)).heap.size=w9.heap.size:=XB _ _ _ _;generalize w9.setCells w8.heap.size 0 (Aj ME db)=pZ at mM HD s10 ⊢;have f10:=f8.trans HD;have afb:=m98.an HD λ_ _ h=>h
 have afx:=mT8.an HD λ_ _ h=>h
 have adk:=mN8.an HD λ_ _ h=>h
 refine AO (AX F rfl λa F=>AJ ?_);obtain⟨f0,F,μ,v0⟩:∃f,Fr a 134 f/\f 13= .int .i64 255/\V0 pZ bv b9 w2.heap.size w5.heap.size w8.heap.size f pZ:=⟨_,F,rfl,rfl,rfl,rfl,rfl,rfl,rfl⟩;refine wp_seq (ABT (A:=A) hla hlb adk mM rfl F μ v0 λa f k F μ hk hv v=>?_);obtain⟨e0,e9,jz,gj,hU,-⟩:=v;clear M3 M6 M9;refine AO (AZ F rfl ALY λa F=>AZ F rfl (AM5 F.e) λa F=>AB F rfl λa F=>AJ ?_);have Sh:=Lu pZ (KU 20) Vs 161 AAp;have g1:BM pZ (pZ.alloc (.cells (Aj (KU 20) Vs).toArray 161)) (λ_ _=>False):=BI _ _ _;have z1:=Gr pZ (.cells (Aj (KU 20) Vs).toArray 161);generalize pZ.alloc (.cells (Aj (KU 20) Vs).toArray 161)=u1 at Sh g1 z1 ⊢;refine AO (AZ F rfl AKG λa F=>AZ F rfl (ALv F.e) λa F=>AB F rfl λa F=>AJ ?_);have mB2:=Lu u1 (KU 15) XR 172 AAH;have g2:BM u1 (u1.alloc (.cells (Aj (KU 15) XR).toArray 172)) (λ_ _=>False):=BI _ _ _;have z2:=Gr u1 (.cells (Aj (KU 15) XR).toArray 172);generalize u1.alloc (.cells (Aj (KU 15) XR).toArray 172)=u2 at mB2 g2 z2 ⊢;refine AO (AZ F rfl AMd λa F=>AZ F rfl (AK9 F.e) λa F=>AB F rfl λa F=>AJ ?_);have m13:=Lu u2 (KU 20) Vs 175 AAp;have g3:BM u2 (u2.alloc (.cells (Aj (KU 20) Vs).toArray 175)) (λ_ _=>False):=BI _ _ _;have z3:=Gr u2 (.cells (Aj (KU 20) Vs).toArray 175);generalize u2.alloc (.cells (Aj (KU 20) Vs).toArray 175)=u3 at m13 g3 z3 ⊢;refine AO (AZ F rfl AIh λa F=>AZ F rfl (AM9 F.e) λa F=>AB F rfl λa F=>AJ ?_);have m24:=Lu u3 (KU 15) XR 178 AAH;have g4:BM u3 (u3.alloc (.cells (Aj (KU 15) XR).toArray 178)) (λ_ _=>False):=BI _ _ _;have z4:=Gr u3 (.cells (Aj (KU 15) XR).toArray 178);generalize u3.alloc (.cells (Aj (KU 15) XR).toArray 178)=u4 at m24 g4 z4 ⊢;have G1:=g1.trans (g2.trans (g3.trans g4));have G2:=g2.trans (g3.trans g4);have G3:=g3.trans g4;have fu:=f10.trans G1;have hu:=Jk hG ε fu δ;have hsu:=fu.1;refine AO (AA F rfl λa F=>DI F rfl (Ar rfl F.e Tryz.call134) (wy hG hu (z8 δ hsu) m24 (by omega)) λe u5 h=>⟨_,h.ret,λa F=>AJ ?_⟩);have o:VO w bv b9 w2.heap.size w5.heap.size w8.heap.size pZ.heap.size u1.heap.size u2.heap.size u3.heap.size:=⟨cf,by omega,aj7,by omega,by omega,by omega,by omega,by omega,by omega⟩;have fv:BM w u5 (λb _=>b=bv):=(fu.mono λ_ _ _ h=>h.elim).trans' h.an λb i hb (h:b=u3.heap.size)=>by omega
 obtain⟨f6,F,μ,s⟩:∃f,Fr a 134 f/\f 13= .int .i64 (HI k)/\VS GC w bv b9 w2.heap.size w5.heap.size w8.heap.size pZ.heap.size u1.heap.size u2.heap.size u3.heap.size lT l9 da db TT TT TT TT (R2 (gu A JS da db k)) f u5:=by
  refine⟨_,F,μ,e0,e9,jz,gj,hU,rfl,rfl,rfl,rfl,⟨_,(m0.an fu λ_ _ h=>h).an h.an λ_ _ (h:bv=u3.heap.size)=>by omega,trivial⟩,⟨_,(Sh.an G2 λ_ _ h=>h).an h.an λ_ _ (h:pZ.heap.size=u3.heap.size)=>by omega,trivial⟩,⟨_,(mB2.an G3 λ_ _ h=>h).an h.an λ_ _ (h:u1.heap.size=u3.heap.size)=>by omega,trivial⟩,⟨_,(m13.an g4 λ_ _ h=>h).an h.an λ_ _ (h:u2.heap.size=u3.heap.size)=>by omega,trivial⟩,by rw[hv];exact h.mem,(afb.an G1 λ_ _ h=>h).an h.an λ_ _ (h:b9=u3.heap.size)=>by omega,(afx.an G1 λ_ _ h=>h).an h.an λ_ _ (h:w2.heap.size=u3.heap.size)=>by omega,(adk.an G1 λ_ _ h=>h).an h.an λ_ _ (h:w5.heap.size=u3.heap.size)=>by omega,(mM.an G1 λ_ _ h=>h).an h.an λ_ _ (h:w8.heap.size=u3.heap.size)=>by omega,fv,h.gw⟩
 refine Jy (J:=λa w'=>∃f,Fr a 134 f/\VS GC w bv b9 w2.heap.size w5.heap.size w8.heap.size pZ.heap.size u1.heap.size u2.heap.size u3.heap.size lT l9 da db TT TT TT TT (R2 (gu A JS da db 0)) f w') ?_ ?_
 ·refine wp_block (wp_loop_rounds _ (PW (J:=λk a w'=>k<=256/\∃f,Fr a 134 f/\f 13= .int .i64 (HI k)/\VS GC w bv b9 w2.heap.size w5.heap.size w8.heap.size pZ.heap.size u1.heap.size u2.heap.size u3.heap.size lT l9 da db TT TT TT TT (R2 (gu A JS da db k)) f w') ?_ ?_ k _ _ ⟨hk,f6,F,μ,s⟩))
  ·rintro a w' ⟨-,f,F,μ,s⟩;refine wp_seq (wp_seq (cE (AA F rfl λa F=>AZ F rfl (Un (F.ev μ) rfl) λa F=>EM ?_)));refine wp_cond (t:=false) F.e (wp_exit ?_);exact⟨rfl,_,F,s.cT λt ht=>by
    simp only[IR,List.not_mem_nil,or_false] at ht;rcases ht with rfl|rfl|rfl|rfl|rfl|rfl|rfl|rfl|rfl<;>rfl⟩
  ·rintro k a w' ⟨hk,f,F,μ,s⟩;refine wp_mono (AAD hG o δ mC tT t9 hla hlb hda hdb hk rfl F μ s) ?_;rintro e a' w'' ⟨he,h⟩;exact⟨he,by omega,h⟩
 ·rintro a w' ⟨f,F,s⟩;obtain⟨y0,n0,-⟩:=s.v;obtain⟨y2,n2,r2⟩:=s.t2;have hq:gu A JS da db 0=(A.zm na).add (JS.zm nb):=by
   unfold gu;rw[zcw,zcw,hsa,hsb]
  rw[hq] at r2;refine AO (AA F rfl λa F=>AA F rfl λa F=>DI F rfl (Au rfl (F.ev (t:=130) s.f0) (F.ev (t:=131) s.f17) Tryz.call144) (yA hG s.gw (z8 δ s.fr.1) n0 mC n2 (by omega) r2) λe w8 h8=>⟨_,h8.ret,λa F=>AJ ?_⟩);refine AO (AA F rfl λa F=>AB F rfl λa F=>AJ ?_);refine DC ⟨F.df,pp bv,?_,rfl,h8.mem,s.fr.trans h8.an,h8.gw⟩;have q:=(F.tm 8).trans (s.f0);rw[Ti] at q;simp[results,Tryz.results102,go_sem];exact q
end
end Go.Proofs.YtloibefkijfdlaaGreatDoor
