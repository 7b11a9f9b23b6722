/- Point functions as maps of points (printed by mkpt.py). -/
import Derived.Test.YtloibefkijfdlaaGreatDoorFb
namespace Go.Proofs.YtloibefkijfdlaaGreatDoor
section
open Go Ma
theorem dI{T:Tb}{ρ:GV}(h:lk 138 T=some (.one E9)):KP.Ok T 138 ρ (.C0 .p3 .pc .lA):=λv a b P Q ⟨x0,x1,x2,x3,h0,g0⟩ ⟨x4,x5,x6,x7,h1,g1⟩=>by
 obtain⟨h8,h9⟩:=Tt (M:=[(115,.mul),(117,.add),(113,.sub)]) (i:=H5) (C:=H7) (bin:=[none,some (fb [.v 0,.v 1,.v 2,.v 3]),some (fb [.v 4,.v 5,.v 6,.v 7])]) (es:=[(.sub (.mul (.add (.v 1) (.v 0)) (.v 4)) (.mul (.sub (.v 1) (.v 0)) (.v 5))),(.add (.mul (.add (.v 1) (.v 0)) (.v 4)) (.mul (.sub (.v 1) (.v 0)) (.v 5))),(.add (.add (.mul (.v 2) (.v 6)) (.mul (.v 2) (.v 6))) (.mul (.v 3) (.v 7))),(.sub (.add (.mul (.v 2) (.v 6)) (.mul (.v 2) (.v 6))) (.mul (.v 3) (.v 7)))]) (.cons (KO rfl) (.cons (Qb rfl) (.cons (Qh rfl) .nil))) (by kernel_rfl) rfl ⟨λn=>[x0,x1,x2,x3,x4,x5,x6,x7].getD n 0,λ_=>false⟩ (ins:=[v,a,b]) (.no (.yes (Kl.bl rfl h0) (.yes (Kl.bl rfl h1) .nil)));refine⟨Cf h h8,?_⟩;rw[BQ h];show sQ _ (BK 20 (H5.raw H7 0 [v,a,b]));rw[Kl.fix (n:=20) h9 rfl];exact⟨_,_,_,_,h9,AII g0 g1⟩
theorem VE{T:Tb}{ρ:GV}(h:lk 141 T=some (.one DR)):KP.Ok T 141 ρ (.C0 .p3 .pa .lA):=λv a b P Q ⟨x0,x1,x2,x3,h0,g0⟩ ⟨x4,x5,x6,h1,g1⟩=>by
 obtain⟨h8,h9⟩:=Tt (M:=[(115,.mul),(117,.add),(113,.sub)]) (i:=FN) (C:=FM) (bin:=[none,some (fb [.v 0,.v 1,.v 2,.v 3]),some (fb [.v 4,.v 5,.v 6])]) (es:=[(.sub (.mul (.add (.v 1) (.v 0)) (.v 4)) (.mul (.sub (.v 1) (.v 0)) (.v 5))),(.add (.mul (.add (.v 1) (.v 0)) (.v 4)) (.mul (.sub (.v 1) (.v 0)) (.v 5))),(.add (.add (.v 2) (.v 2)) (.mul (.v 3) (.v 6))),(.sub (.add (.v 2) (.v 2)) (.mul (.v 3) (.v 6)))]) (.cons (KO rfl) (.cons (Qb rfl) (.cons (Qh rfl) .nil))) (by kernel_rfl) rfl ⟨λn=>[x0,x1,x2,x3,x4,x5,x6].getD n 0,λ_=>false⟩ (ins:=[v,a,b]) (.no (.yes (Kl.bl rfl h0) (.yes (Kl.bl rfl h1) .nil)));refine⟨Cf h h8,?_⟩;rw[BQ h];show sQ _ (BK 20 (FN.raw FM 0 [v,a,b]));rw[Kl.fix (n:=20) h9 rfl];exact⟨_,_,_,_,h9,oC g0 g1⟩
theorem qX{T:Tb}{ρ:GV}(h:lk 135 T=some (.one Gd)):KP.Ok T 135 ρ (.dbl):=λv a P ⟨x0,x1,x2,h0,g0⟩=>by
 obtain⟨h8,h9⟩:=Tt (M:=[(117,.add),(113,.sub),(112,.sq)]) (i:=Ga) (C:=Gg) (bin:=[none,some (fb [.v 0,.v 1,.v 2])]) (es:=[(.sub (.mul (.add (.v 0) (.v 1)) (.add (.v 0) (.v 1))) (.add (.mul (.v 1) (.v 1)) (.mul (.v 0) (.v 0)))),(.add (.mul (.v 1) (.v 1)) (.mul (.v 0) (.v 0))),(.sub (.mul (.v 1) (.v 1)) (.mul (.v 0) (.v 0))),(.sub (.add (.mul (.v 2) (.v 2)) (.mul (.v 2) (.v 2))) (.sub (.mul (.v 1) (.v 1)) (.mul (.v 0) (.v 0))))]) (.cons (Qb rfl) (.cons (Qh rfl) (.cons (XC rfl) .nil))) (by kernel_rfl) rfl ⟨λn=>[x0,x1,x2].getD n 0,λ_=>false⟩ (ins:=[v,a]) (.no (.yes (Kl.bl rfl h0) .nil));refine⟨Cf h h8,?_⟩;rw[BQ h];show sQ _ (BK 20 (Ga.raw Gg 0 [v,a]));rw[Kl.fix (n:=20) h9 rfl];exact⟨_,_,_,_,h9,AHz g0⟩
theorem wJ{T:Tb}{ρ:GV}(h:lk 151 T=some (.one H8)):KP.Ok T 151 ρ (.tR .p3 .p2):=λv a P ⟨x0,x1,x2,x3,h0,g0⟩=>by
 obtain⟨h8,h9⟩:=Tt (M:=[(121,.set)]) (i:=Hz) (C:=H6) (bin:=[none,some (fb [.v 0,.v 1,.v 2,.v 3])]) (es:=[.v 0,.v 1,.v 2]) (.cons (Ym rfl) .nil) (by kernel_rfl) rfl ⟨λn=>[x0,x1,x2,x3].getD n 0,λ_=>false⟩ (ins:=[v,a]) (.no (.yes (Kl.bl rfl h0) .nil));refine⟨Cf h h8,?_⟩;rw[BQ h];show R2 _ (BK 15 (Hz.raw H6 0 [v,a]));rw[Kl.fix (n:=15) h9 rfl];exact⟨_,_,_,h9,ACG g0⟩
theorem ZW{T:Tb}{ρ:GV}(h:lk 143 T=some (.one Gh)):KP.Ok T 143 ρ (.tR .lA .p2):=λv a P ⟨x0,x1,x2,x3,h0,g0⟩=>by
 obtain⟨h8,h9⟩:=Tt (M:=[(115,.mul)]) (i:=Gc) (C:=Gf) (bin:=[none,some (fb [.v 0,.v 1,.v 2,.v 3])]) (es:=[(.mul (.v 0) (.v 3)),(.mul (.v 1) (.v 2)),(.mul (.v 2) (.v 3))]) (.cons (KO rfl) .nil) (by kernel_rfl) rfl ⟨λn=>[x0,x1,x2,x3].getD n 0,λ_=>false⟩ (ins:=[v,a]) (.no (.yes (Kl.bl rfl h0) .nil));refine⟨Cf h h8,?_⟩;rw[BQ h];show R2 _ (BK 15 (Gc.raw Gf 0 [v,a]));rw[Kl.fix (n:=15) h9 rfl];exact⟨_,_,_,h9,AG3 g0⟩
theorem Po{T:Tb}{ρ:GV}(h:lk 136 T=some (.one Cj)):KP.Ok T 136 ρ (.tR .lA .p3):=λv a P ⟨x0,x1,x2,x3,h0,g0⟩=>by
 obtain⟨h8,h9⟩:=Tt (M:=[(115,.mul)]) (i:=Gs) (C:=Gt) (bin:=[none,some (fb [.v 0,.v 1,.v 2,.v 3])]) (es:=[(.mul (.v 0) (.v 3)),(.mul (.v 1) (.v 2)),(.mul (.v 2) (.v 3)),(.mul (.v 0) (.v 1))]) (.cons (KO rfl) .nil) (by kernel_rfl) rfl ⟨λn=>[x0,x1,x2,x3].getD n 0,λ_=>false⟩ (ins:=[v,a]) (.no (.yes (Kl.bl rfl h0) .nil));refine⟨Cf h h8,?_⟩;rw[BQ h];show R3 _ (BK 20 (Gs.raw Gt 0 [v,a]));rw[Kl.fix (n:=20) h9 rfl];exact⟨_,_,_,_,h9,d9 g0⟩
theorem tu{T:Tb}{ρ:GV}(h:lk 148 T=some (.one Dj)):KP.Ok T 148 ρ (.tR .p3 .p3):=λv a P ⟨x0,x1,x2,x3,h0,g0⟩=>by
 obtain⟨h8,h9⟩:=Tt (M:=[]) (i:=Co) (C:=CO) (bin:=[none,some (fb [.v 0,.v 1,.v 2,.v 3])]) (es:=[.v 0,.v 1,.v 2,.v 3]) .nil (by kernel_rfl) rfl ⟨λn=>[x0,x1,x2,x3].getD n 0,λ_=>false⟩ (ins:=[v,a]) (.no (.yes (Kl.bl rfl h0) .nil));refine⟨Cf h h8,?_⟩;rw[BQ h];show R3 _ (BK 20 (Co.raw CO 0 [v,a]));rw[Kl.fix (n:=20) h9 rfl];exact⟨_,_,_,_,h9,g0⟩
end
section
open Go Ma
theorem vW{T:Tb}{ρ:GV}(h:lk 177 T=some (.one EJ)):KP.Ok T 177 ρ (.tR .p3 .pc):=λv a P ⟨x0,x1,x2,x3,h0,g0⟩=>by
 obtain⟨h8,h9⟩:=Tt (M:=[(117,.add),(113,.sub),(121,.set),(209,.k d2Z),(115,.mul)]) (i:=GJ) (C:=GK) (bin:=[none,some (fb [.v 0,.v 1,.v 2,.v 3])]) (es:=[(.add (.v 1) (.v 0)),(.sub (.v 1) (.v 0)),(.v 2),(.mul (.v 3) (.k d2Z))]) (.cons (Qb rfl) (.cons (Qh rfl) (.cons (Ym rfl) (.cons (AHU rfl) (.cons (KO rfl) .nil))))) (by kernel_rfl) rfl ⟨λn=>[x0,x1,x2,x3].getD n 0,λ_=>false⟩ (ins:=[v,a]) (.no (.yes (Kl.bl rfl h0) .nil));refine⟨Cf h h8,?_⟩;rw[BQ h];show RC _ (BK 20 (GJ.raw GK 0 [v,a]));rw[Kl.fix (n:=20) h9 rfl];exact⟨_,_,_,_,h9,by have:=AI9 g0;rw[<- AIQ] at this;exact this⟩
theorem su{T:Tb}{ρ:GV}(h:lk 207 T=some (.one EA)):KP.Ok T 207 ρ (.tR .p3 .pa):=λv a P ⟨x0,x1,x2,x3,h0,g0⟩=>by
 obtain⟨h8,h9⟩:=Tt (M:=[(117,.add),(113,.sub),(209,.k d2Z),(115,.mul),(180,.pw eI)]) (i:=FH) (C:=FD) (bin:=[none,some (fb [.v 0,.v 1,.v 2,.v 3])]) (es:=[(.mul (.add (.v 1) (.v 0)) (.pw (.v 2) eI)),(.mul (.sub (.v 1) (.v 0)) (.pw (.v 2) eI)),(.mul (.mul (.v 3) (.k d2Z)) (.pw (.v 2) eI))]) (.cons (Qb rfl) (.cons (Qh rfl) (.cons (AHU rfl) (.cons (KO rfl) (.cons (oO rfl) .nil))))) (by kernel_rfl) rfl ⟨λn=>[x0,x1,x2,x3].getD n 0,λ_=>false⟩ (ins:=[v,a]) (.no (.yes (Kl.bl rfl h0) .nil));refine⟨Cf h h8,?_⟩;rw[BQ h];show RA _ (BK 15 (FH.raw FD 0 [v,a]));rw[Kl.fix (n:=15) h9 rfl];exact⟨_,_,_,h9,by have:=AKV g0;rw[<- AIQ] at this;exact this⟩
theorem zB{T:Tb}{ρ:GV}(h:lk 185 T=some (.one GM)):KP.Ok T 185 ρ (.J0 .pa 0):=λargs=>by
 obtain⟨h8,h9⟩:=AIN (M:=[(122,.k 1),(179,.k 0)]) (i:=Dc) (C:=Db) (n:=1) (es:=[.k 1,.k 1,.k 0]) (.cons (Yw rfl) (.cons (wL rfl) .nil)) (by kernel_rfl) rfl ⟨λ_=>0,λ_=>false⟩ args;refine⟨Cf h h8,?_⟩;rw[BQ h];show RA _ (BK 15 (Dc.raw Db 0 args));rw[Kl.fix (n:=15) h9 rfl,Pt.de];have e:Kl [1,1,0] (Dc.raw Db 0 args):=by
  have Nd:Kl [Lh 1,Lh 1,Lh 0] (Dc.raw Db 0 args):=h9;rw[Rb,Kz] at Nd;exact Nd
 exact⟨1,1,0,e,AGT⟩
theorem AG5{T:Tb}{ρ:GV}(h:lk 187 T=some (.one FJ)):KP.Ok T 187 ρ (.NO .pa):=λv a b P Q c ⟨x0,x1,x2,h0,g0⟩ ⟨x3,x4,x5,h1,g1⟩=>by
 obtain⟨h8,h9⟩:=Tt (M:=[(120,.ca)]) (i:=FL) (C:=FO) (bin:=[none,some (fb [.v 0,.v 1,.v 2]),some (fb [.v 3,.v 4,.v 5]),some [(1,.b 0)]]) (es:=[.ite (.b 0) (.v 0) (.v 3),.ite (.b 0) (.v 1) (.v 4),.ite (.b 0) (.v 2) (.v 5)]) (.cons (UD rfl) .nil) (by kernel_rfl) rfl ⟨λn=>[x0,x1,x2,x3,x4,x5].getD n 0,λ_=>c⟩ (ins:=[v,a,b,[bif c then 1 else 0]]) (.no (.yes (Kl.bl rfl h0) (.yes (Kl.bl rfl h1) (.yes (AHg rfl) .nil))));refine⟨Cf h h8,?_⟩;rw[BQ h];show RA _ (BK 15 (FL.raw FO 0 [v,a,b,[bif c then 1 else 0]]));rw[Kl.fix (n:=15) h9 rfl];cases c with
 |true=>exact⟨x0,x1,x2,h9,g0⟩
 |false=>exact⟨x3,x4,x5,h9,g1⟩
theorem AEB{T:Tb}{ρ:GV}(h:lk 188 T=some (.one Er)):KP.Ok T 188 ρ (.Pu .pa):=λa P c ⟨x0,x1,x2,h0,g0⟩=>by
 obtain⟨h8,h9⟩:=Tt (M:=[(210,.swp),(119,.neg),(120,.ca)]) (i:=Dt) (C:=Dx) (bin:=[some (fb [.v 0,.v 1,.v 2]),some [(1,.b 0)]]) (es:=[.ite (.b 0) (.v 1) (.v 0),.ite (.b 0) (.v 0) (.v 1),.ite (.b 0) (.sub (.k 0) (.v 2)) (.v 2)]) (.cons (AJ4 rfl) (.cons (WR rfl) (.cons (UD rfl) .nil))) (by kernel_rfl) rfl ⟨λn=>[x0,x1,x2].getD n 0,λ_=>c⟩ (ins:=[a,[bif c then 1 else 0]]) (.yes (Kl.bl rfl h0) (.yes (AHg rfl) .nil));refine⟨Cf h h8,?_⟩;rw[BQ h];show RA _ (BK 15 (Dt.raw Dx 0 [a,[bif c then 1 else 0]]));rw[Kl.fix (n:=15) h9 rfl];cases c with
 |true=>
  have Nd:Kl [x1,x0,Lh 0-x2] (Dt.raw Dx 0 [a,[1]]):=h9;rw[Kz,show(0:Fp)-x2= -x2 by grind] at Nd;exact⟨_,_,_,Nd,g0.neg⟩
 |false=>exact⟨x0,x1,x2,h9,g0⟩
theorem dH{T:Tb}{ρ:GV}(h:lk 178 T=some (.one Ep)):KP.Ok T 178 ρ (.C0 .p3 .p3 .p3):=λv a b P Q ha hb=>by
 obtain⟨h8,ρe,h9⟩:=AHj (M:=[(177,.tR .p3 .pc),(138,.C0 .p3 .pc .lA),(136,.tR .lA .p3)]) (i:=JE) (C:=JO) (ρ:=⟨P,Q,λ_=>0,[]⟩) (j0:=[none,none,none]) (bin:=[none,some [(20,.pt .p3 ⟨.k 1,.k 0⟩)],some [(20,.pt .p3 ⟨.k 0,.k 1⟩)]]) (pts:=[(1,0),(2,0)]) (r:=[[.a 20 (.pt .p3 ⟨.k 1,.k 1⟩)]]) (.cons (vW rfl) (.cons (dI rfl) (.cons (Po rfl) .nil))) (by kernel_rfl) (ins:=[v,a,b]) (.no (.no (.no .nil))) (.no (.yes (GX.p1 (r:=.p3) (AKK _) ha) (.yes (GX.p1 (r:=.p3) (ARh _) hb) .nil))) (λp hp=>by
  rcases IR.1 hp with rfl|hp
  ·exact lK (P:=P) ha
  ·rcases IR.1 hp with rfl|hp
   ·exact lK (P:=Q) hb
   ·cases hp)
 refine⟨Cf h h8,?_⟩;rw[BQ h];show R3 _ (BK 20 (JE.raw JO 0 [v,a,b]));have h7:=gp1 (h9 0 _ rfl);rw[AQL] at h7;rw[Bn (show _=20 from RR.len (r:=.p3) h7)];exact h7
def ADI:List (Nat×KP):=[(207,.tR .p3 .pa),(141,.C0 .p3 .pa .lA),(136,.tR .lA .p3)]
def ABe:List (Bk GX):=(List.range 8).map λk=>.a 15 (.pt .pa (.c (k+1:Nat)))
def B_1:List (Nat×GX):=[(20,.pt .p3 ⟨.k 1,.k 0⟩)]
theorem AJf:Pi (tY ADI) yT (Cm.tree DZ) DZ Cm.s0 Cm.cF [none,none] [none,some B_1] []=some [ABe]:=by kernel_rfl
theorem jc{ρ:GV}{ρe:Br}{l:List Int}(h:GZ (γG ρ) ρe ABe l):L6 .pa ((List.range 8).map λj=>ρ.P.zm ((j+1:Nat):Int)) l:=gpT (r:=.pa) (f:=λk=>.c (k+1:Nat)) (λ_k=>(Z2.ud _ _).symm) h
theorem AF0{T:Tb}{ρ:GV}(h:lk 183 T=some (.one EO)):KP.Ok T 183 ρ (.tab .pa 8):=λv a P ha=>by
 obtain⟨h1,ρe,h2⟩:=yH (i:=Cm) (C:=DZ) (ρ:=⟨P,P,λ_=>0,[]⟩) (n:=120) (M:=ADI) h rfl (.cons (su rfl) (.cons (VE rfl) (.cons (Po rfl) .nil))) AJf (ins:=[v,a]) (.no (.no .nil)) (.no (.yes (GX.p1 (r:=.p3) (AKK _) ha) .nil)) (λp hp=>by cases hp) (fun ρe l h=>(jc h).len);exact⟨h1,jc h2⟩
def mK:List (Nat×KP):=[(185,.J0 .pa 0),(187,.NO .pa),(188,.Pu .pa)]
def AAP:List (Nat×GX):=AKQ .pa (.c 1) 8
def dg8(j:Nat):Int:=(j:Int)-8
def AMn(d:Int)(r:Option (List (List (Bk GX)))):Bool:=match r with
 |some [[.a 15 (.pt .pa z)]]=>z.beq (.c d)
 |_=>false
theorem AMr:((List.range 17).all λj=>AMn (dg8 j) (Pi (tY mK) yT (Av.tree BU) BU Av.s0 Av.cF [none,none,some [dg8 j]] [some AAP,none,none] []))=true:=by kernel_rfl
theorem ABK{ρ:GV}{t:List Int}(h:L6 .pa ((List.range 8).map λj=>ρ.P.zm ((j+1:Nat):Int)) t):Ei (γG ρ) AAP t:=
 (L6.bl (f:=λk=>Z2.smul (.k (k+1:Nat)) (.c 1)) (λk=>by rw[Z2.fL,Z2.ud,Pt.ie];rfl)).1 h
theorem AGM{d:Int}(h1: -8<=d)(h2:d<=8):AMn d (Pi (tY mK) yT (Av.tree BU) BU Av.s0 Av.cF [none,none,some [d]] [some AAP,none,none] [])=true:=by
 have hj:=Mx.1 AMr (d+8).toNat (lZ.2 (by omega));have e:dg8 (d+8).toNat=d:=by unfold dg8;omega
 rw[e] at hj;exact hj
theorem aK{T:Tb}{ρ:GV}(h:lk 150 T=some (.one D8)):KP.Ok T 150 ρ (.ca .pa 8):=λt v d P ht h1 h2=>by
 have hj:=AGM h1 h2;unfold AMn at hj;split at hj
 ·rename_i z hz;obtain⟨g1,ρe,g2⟩:=yH (i:=Av) (C:=BU) (ρ:=⟨P,P,λ_=>0,[]⟩) (n:=15) (M:=mK) h rfl (.cons (zB rfl) (.cons (AG5 rfl) (.cons (AEB rfl) .nil))) hz (ins:=[t,v,[d]]) (.no (.no (.yes .nil))) (.yes (ABK (ρ:=⟨P,P,λ_=>0,[]⟩) ht) (.no (.no .nil))) (λp hp=>by cases hp) (fun ρe l h=>RR.len (r:=.pa) (gp1 h));have g3:=gp1 g2;rw[Z2.ej _ hj,Z2.ud] at g3;exact⟨g1,g3⟩
 ·cases hj
end
end Go.Proofs.YtloibefkijfdlaaGreatDoor
