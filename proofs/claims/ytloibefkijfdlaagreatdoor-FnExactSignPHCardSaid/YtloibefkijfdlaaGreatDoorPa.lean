/- Point functions as maps of points (printed by mkpt.py). -/
import Derived.Test.YtloibefkijfdlaaGreatDoorFb
namespace Go.Proofs.YtloibefkijfdlaaGreatDoor
section
open Go Ma
theorem AJm{T:Tb}{ρ:GV}(h:lk 138 T=some (.one IQ)):KP.Ok T 138 ρ (.op2 .p3 .pc .p11):=fun v a b P Q ⟨x0,x1,x2,x3,h0,g0⟩ ⟨x4,x5,x6,x7,h1,g1⟩=>by
 obtain⟨h8,h9⟩:=Xu (M:=[(115,.mul),(117,.add),(113,.sub)]) (i:=IR) (C:=IL) (bin:=[none,some (fb [.v 0,.v 1,.v 2,.v 3]),some (fb [.v 4,.v 5,.v 6,.v 7])]) (es:=[(.sub (.mul (.add (.v 1) (.v 0)) (.v 4)) (.mul (.sub (.v 1) (.v 0)) (.v 5))),(.add (.mul (.add (.v 1) (.v 0)) (.v 4)) (.mul (.sub (.v 1) (.v 0)) (.v 5))),(.add (.add (.mul (.v 2) (.v 6)) (.mul (.v 2) (.v 6))) (.mul (.v 3) (.v 7))),(.sub (.add (.mul (.v 2) (.v 6)) (.mul (.v 2) (.v 6))) (.mul (.v 3) (.v 7)))]) (.cons (OC rfl) (.cons (Vk rfl) (.cons (WM rfl) .nil))) (by kernel_rfl) rfl ⟨fun n=>[x0,x1,x2,x3,x4,x5,x6,x7].getD n 0,fun _=>false⟩ (ins:=[v,a,b]) (.no (.yes (OQ.bl rfl h0) (.yes (OQ.bl rfl h1) .nil)));refine⟨Cw h h8,?_⟩;rw[Bg h];show R11 _ (Aw 20 (IR.raw IL 0 [v,a,b]));rw[OQ.fix (n:=20) h9 rfl];exact⟨_,_,_,_,h9,ATA g0 g1⟩
theorem lH{T:Tb}{ρ:GV}(h:lk 141 T=some (.one EC)):KP.Ok T 141 ρ (.op2 .p3 .pa .p11):=fun v a b P Q ⟨x0,x1,x2,x3,h0,g0⟩ ⟨x4,x5,x6,h1,g1⟩=>by
 obtain⟨h8,h9⟩:=Xu (M:=[(115,.mul),(117,.add),(113,.sub)]) (i:=FM) (C:=FJ) (bin:=[none,some (fb [.v 0,.v 1,.v 2,.v 3]),some (fb [.v 4,.v 5,.v 6])]) (es:=[(.sub (.mul (.add (.v 1) (.v 0)) (.v 4)) (.mul (.sub (.v 1) (.v 0)) (.v 5))),(.add (.mul (.add (.v 1) (.v 0)) (.v 4)) (.mul (.sub (.v 1) (.v 0)) (.v 5))),(.add (.add (.v 2) (.v 2)) (.mul (.v 3) (.v 6))),(.sub (.add (.v 2) (.v 2)) (.mul (.v 3) (.v 6)))]) (.cons (OC rfl) (.cons (Vk rfl) (.cons (WM rfl) .nil))) (by kernel_rfl) rfl ⟨fun n=>[x0,x1,x2,x3,x4,x5,x6].getD n 0,fun _=>false⟩ (ins:=[v,a,b]) (.no (.yes (OQ.bl rfl h0) (.yes (OQ.bl rfl h1) .nil)));refine⟨Cw h h8,?_⟩;rw[Bg h];show R11 _ (Aw 20 (FM.raw FJ 0 [v,a,b]));rw[OQ.fix (n:=20) h9 rfl];exact⟨_,_,_,_,h9,AEd g0 g1⟩
theorem ACE{T:Tb}{ρ:GV}(h:lk 135 T=some (.one Gq)):KP.Ok T 135 ρ (.dbl):=fun v a P ⟨x0,x1,x2,h0,g0⟩=>by
 obtain⟨h8,h9⟩:=Xu (M:=[(117,.add),(113,.sub),(112,.sq)]) (i:=Gj) (C:=Gm) (bin:=[none,some (fb [.v 0,.v 1,.v 2])]) (es:=[(.sub (.mul (.add (.v 0) (.v 1)) (.add (.v 0) (.v 1))) (.add (.mul (.v 1) (.v 1)) (.mul (.v 0) (.v 0)))),(.add (.mul (.v 1) (.v 1)) (.mul (.v 0) (.v 0))),(.sub (.mul (.v 1) (.v 1)) (.mul (.v 0) (.v 0))),(.sub (.add (.mul (.v 2) (.v 2)) (.mul (.v 2) (.v 2))) (.sub (.mul (.v 1) (.v 1)) (.mul (.v 0) (.v 0))))]) (.cons (Vk rfl) (.cons (WM rfl) (.cons (gX rfl) .nil))) (by kernel_rfl) rfl ⟨fun n=>[x0,x1,x2].getD n 0,fun _=>false⟩ (ins:=[v,a]) (.no (.yes (OQ.bl rfl h0) .nil));refine⟨Cw h h8,?_⟩;rw[Bg h];show R11 _ (Aw 20 (Gj.raw Gm 0 [v,a]));rw[OQ.fix (n:=20) h9 rfl];exact⟨_,_,_,_,h9,AK7 g0⟩
theorem yS{T:Tb}{ρ:GV}(h:lk 151 T=some (.one IK)):KP.Ok T 151 ρ (.op1 .p3 .p2):=fun v a P ⟨x0,x1,x2,x3,h0,g0⟩=>by
 obtain⟨h8,h9⟩:=Xu (M:=[(121,.set)]) (i:=IM) (C:=IU) (bin:=[none,some (fb [.v 0,.v 1,.v 2,.v 3])]) (es:=[.v 0,.v 1,.v 2]) (.cons (jv rfl) .nil) (by kernel_rfl) rfl ⟨fun n=>[x0,x1,x2,x3].getD n 0,fun _=>false⟩ (ins:=[v,a]) (.no (.yes (OQ.bl rfl h0) .nil));refine⟨Cw h h8,?_⟩;rw[Bg h];show R2 _ (Aw 15 (IM.raw IU 0 [v,a]));rw[OQ.fix (n:=15) h9 rfl];exact⟨_,_,_,h9,AFk g0⟩
theorem nR{T:Tb}{ρ:GV}(h:lk 143 T=some (.one Gn)):KP.Ok T 143 ρ (.op1 .p11 .p2):=fun v a P ⟨x0,x1,x2,x3,h0,g0⟩=>by
 obtain⟨h8,h9⟩:=Xu (M:=[(115,.mul)]) (i:=Gi) (C:=Gl) (bin:=[none,some (fb [.v 0,.v 1,.v 2,.v 3])]) (es:=[(.mul (.v 0) (.v 3)),(.mul (.v 1) (.v 2)),(.mul (.v 2) (.v 3))]) (.cons (OC rfl) .nil) (by kernel_rfl) rfl ⟨fun n=>[x0,x1,x2,x3].getD n 0,fun _=>false⟩ (ins:=[v,a]) (.no (.yes (OQ.bl rfl h0) .nil));refine⟨Cw h h8,?_⟩;rw[Bg h];show R2 _ (Aw 15 (Gi.raw Gl 0 [v,a]));rw[OQ.fix (n:=15) h9 rfl];exact⟨_,_,_,h9,AIS g0⟩
theorem Wp{T:Tb}{ρ:GV}(h:lk 136 T=some (.one Dp)):KP.Ok T 136 ρ (.op1 .p11 .p3):=fun v a P ⟨x0,x1,x2,x3,h0,g0⟩=>by
 obtain⟨h8,h9⟩:=Xu (M:=[(115,.mul)]) (i:=G7) (C:=G6) (bin:=[none,some (fb [.v 0,.v 1,.v 2,.v 3])]) (es:=[(.mul (.v 0) (.v 3)),(.mul (.v 1) (.v 2)),(.mul (.v 2) (.v 3)),(.mul (.v 0) (.v 1))]) (.cons (OC rfl) .nil) (by kernel_rfl) rfl ⟨fun n=>[x0,x1,x2,x3].getD n 0,fun _=>false⟩ (ins:=[v,a]) (.no (.yes (OQ.bl rfl h0) .nil));refine⟨Cw h h8,?_⟩;rw[Bg h];show R3 _ (Aw 20 (G7.raw G6 0 [v,a]));rw[OQ.fix (n:=20) h9 rfl];exact⟨_,_,_,_,h9,mP g0⟩
theorem y8{T:Tb}{ρ:GV}(h:lk 148 T=some (.one Dh)):KP.Ok T 148 ρ (.op1 .p3 .p3):=fun v a P ⟨x0,x1,x2,x3,h0,g0⟩=>by
 obtain⟨h8,h9⟩:=Xu (M:=[]) (i:=Cj) (C:=CK) (bin:=[none,some (fb [.v 0,.v 1,.v 2,.v 3])]) (es:=[.v 0,.v 1,.v 2,.v 3]) .nil (by kernel_rfl) rfl ⟨fun n=>[x0,x1,x2,x3].getD n 0,fun _=>false⟩ (ins:=[v,a]) (.no (.yes (OQ.bl rfl h0) .nil));refine⟨Cw h h8,?_⟩;rw[Bg h];show R3 _ (Aw 20 (Cj.raw CK 0 [v,a]));rw[OQ.fix (n:=20) h9 rfl];exact⟨_,_,_,_,h9,g0⟩
end
section
open Go Ma
theorem AHi{T:Tb}{ρ:GV}(h:lk 177 T=some (.one GY)):KP.Ok T 177 ρ (.op1 .p3 .pc):=fun v a P ⟨x0,x1,x2,x3,h0,g0⟩=>by
 obtain⟨h8,h9⟩:=Xu (M:=[(117,.add),(113,.sub),(121,.set),(209,.k d2Z),(115,.mul)]) (i:=GQ) (C:=GK) (bin:=[none,some (fb [.v 0,.v 1,.v 2,.v 3])]) (es:=[(.add (.v 1) (.v 0)),(.sub (.v 1) (.v 0)),(.v 2),(.mul (.v 3) (.k d2Z))]) (.cons (Vk rfl) (.cons (WM rfl) (.cons (jv rfl) (.cons (ALC rfl) (.cons (OC rfl) .nil))))) (by kernel_rfl) rfl ⟨fun n=>[x0,x1,x2,x3].getD n 0,fun _=>false⟩ (ins:=[v,a]) (.no (.yes (OQ.bl rfl h0) .nil));refine⟨Cw h h8,?_⟩;rw[Bg h];show RC _ (Aw 20 (GQ.raw GK 0 [v,a]));rw[OQ.fix (n:=20) h9 rfl];exact⟨_,_,_,_,h9,by have:=ANl g0;rw[← AKr] at this;exact this⟩
theorem AHT{T:Tb}{ρ:GV}(h:lk 207 T=some (.one FP)):KP.Ok T 207 ρ (.op1 .p3 .pa):=fun v a P ⟨x0,x1,x2,x3,h0,g0⟩=>by
 obtain⟨h8,h9⟩:=Xu (M:=[(117,.add),(113,.sub),(209,.k d2Z),(115,.mul),(180,.pw eI)]) (i:=FN) (C:=FL) (bin:=[none,some (fb [.v 0,.v 1,.v 2,.v 3])]) (es:=[(.mul (.add (.v 1) (.v 0)) (.pw (.v 2) eI)),(.mul (.sub (.v 1) (.v 0)) (.pw (.v 2) eI)),(.mul (.mul (.v 3) (.k d2Z)) (.pw (.v 2) eI))]) (.cons (Vk rfl) (.cons (WM rfl) (.cons (ALC rfl) (.cons (OC rfl) (.cons (sS rfl) .nil))))) (by kernel_rfl) rfl ⟨fun n=>[x0,x1,x2,x3].getD n 0,fun _=>false⟩ (ins:=[v,a]) (.no (.yes (OQ.bl rfl h0) .nil));refine⟨Cw h h8,?_⟩;rw[Bg h];show RA _ (Aw 15 (FN.raw FL 0 [v,a]));rw[OQ.fix (n:=15) h9 rfl];exact⟨_,_,_,h9,by have:=AOr g0;rw[← AKr] at this;exact this⟩
theorem ACF{T:Tb}{ρ:GV}(h:lk 185 T=some (.one Ga)):KP.Ok T 185 ρ (.cst .pa 0):=fun args=>by
 obtain⟨h8,h9⟩:=ARU (M:=[(122,.k 1),(179,.k 0)]) (i:=DT) (C:=Da) (n:=1) (es:=[.k 1,.k 1,.k 0]) (.cons (tO rfl) (.cons (AHA rfl) .nil)) (by kernel_rfl) rfl ⟨fun _=>0,fun _=>false⟩ args;refine⟨Cw h h8,?_⟩;rw[Bg h];show RA _ (Aw 15 (DT.raw Da 0 args));rw[OQ.fix (n:=15) h9 rfl,Pt.zm_zero];have e:OQ [1,1,0] (DT.raw Da 0 args):=by
  have h9':OQ [Ki 1,Ki 1,Ki 0] (DT.raw Da 0 args):=h9;rw[Uk,LW] at h9';exact h9'
 exact⟨1,1,0,e,AGq⟩
theorem AHa{T:Tb}{ρ:GV}(h:lk 187 T=some (.one FQ)):KP.Ok T 187 ρ (.selc .pa):=fun v a b P Q c ⟨x0,x1,x2,h0,g0⟩ ⟨x3,x4,x5,h1,g1⟩=>by
 obtain⟨h8,h9⟩:=Xu (M:=[(120,.sel)]) (i:=FH) (C:=FI) (bin:=[none,some (fb [.v 0,.v 1,.v 2]),some (fb [.v 3,.v 4,.v 5]),some [(1,.b 0)]]) (es:=[.ite (.b 0) (.v 0) (.v 3),.ite (.b 0) (.v 1) (.v 4),.ite (.b 0) (.v 2) (.v 5)]) (.cons (YN rfl) .nil) (by kernel_rfl) rfl ⟨fun n=>[x0,x1,x2,x3,x4,x5].getD n 0,fun _=>c⟩ (ins:=[v,a,b,[bif c then 1 else 0]]) (.no (.yes (OQ.bl rfl h0) (.yes (OQ.bl rfl h1) (.yes (ALe rfl) .nil))));refine⟨Cw h h8,?_⟩;rw[Bg h];show RA _ (Aw 15 (FH.raw FI 0 [v,a,b,[bif c then 1 else 0]]));rw[OQ.fix (n:=15) h9 rfl]
 cases c with
 |true=>exact⟨x0,x1,x2,h9,g0⟩
 |false=>exact⟨x3,x4,x5,h9,g1⟩
theorem AH6{T:Tb}{ρ:GV}(h:lk 188 T=some (.one Ey)):KP.Ok T 188 ρ (.cneg .pa):=fun a P c ⟨x0,x1,x2,h0,g0⟩=>by
 obtain⟨h8,h9⟩:=Xu (M:=[(210,.swp),(119,.neg),(120,.sel)]) (i:=Dw) (C:=Dy) (bin:=[some (fb [.v 0,.v 1,.v 2]),some [(1,.b 0)]]) (es:=[.ite (.b 0) (.v 1) (.v 0),.ite (.b 0) (.v 0) (.v 1),.ite (.b 0) (.sub (.k 0) (.v 2)) (.v 2)]) (.cons (APt rfl) (.cons (au rfl) (.cons (YN rfl) .nil))) (by kernel_rfl) rfl ⟨fun n=>[x0,x1,x2].getD n 0,fun _=>c⟩ (ins:=[a,[bif c then 1 else 0]]) (.yes (OQ.bl rfl h0) (.yes (ALe rfl) .nil));refine⟨Cw h h8,?_⟩;rw[Bg h];show RA _ (Aw 15 (Dw.raw Dy 0 [a,[bif c then 1 else 0]]));rw[OQ.fix (n:=15) h9 rfl]
 cases c with
 |true=>
  have h9':OQ [x1,x0,Ki 0-x2] (Dw.raw Dy 0 [a,[1]]):=h9;rw[LW,show (0:Fp)-x2= -x2 by grind] at h9';exact⟨_,_,_,h9',g0.neg⟩
 |false=>exact⟨x0,x1,x2,h9,g0⟩
theorem AIf{T:Tb}{ρ:GV}(h:lk 178 T=some (.one Ja)):KP.Ok T 178 ρ (.op2 .p3 .p3 .p3):=fun v a b P Q ha hb=>by
 obtain⟨h8,ρe,h9⟩:=AK6 (M:=[(177,.op1 .p3 .pc),(138,.op2 .p3 .pc .p11),(136,.op1 .p11 .p3)]) (i:=Jd) (C:=JX) (ρ:=⟨P,Q,fun _=>0,[]⟩) (kin:=[none,none,none]) (bin:=[none,some [(20,.pt .p3 ⟨.k 1,.k 0⟩)],some [(20,.pt .p3 ⟨.k 0,.k 1⟩)]]) (pts:=[(1,0),(2,0)]) (r:=[[.a 20 (.pt .p3 ⟨.k 1,.k 1⟩)]]) (.cons (AHi rfl) (.cons (AJm rfl) (.cons (Wp rfl) .nil))) (by kernel_rfl) (ins:=[v,a,b]) (.no (.no (.no .nil))) (.no (.yes (GX.p1 (r:=.p3) (AQ1 _) ha) (.yes (GX.p1 (r:=.p3) (AUb _) hb) .nil))) (fun p hp=>by
  rcases J4.1 hp with rfl|hp
  ·exact AC6 (P:=P) ha
  ·rcases J4.1 hp with rfl|hp
   ·exact AC6 (P:=Q) hb
   ·cases hp)
 refine⟨Cw h h8,?_⟩;rw[Bg h];show R3 _ (Aw 20 (Jd.raw JX 0 [v,a,b]));have h7:=gp1 (h9 0 _ rfl);rw[ATv] at h7;rw[Au (show _=20 from RR.len (r:=.p3) h7)];exact h7
def ADK:List (Nat×KP):=[(207,.op1 .p3 .pa),(141,.op2 .p3 .pa .p11),(136,.op1 .p11 .p3)]
def AFd:List (Bk GX):=(List.range 8).map fun k=>.a 15 (.pt .pa (.c (k+1:Nat)))
def B_1:List (Nat×GX):=[(20,.pt .p3 ⟨.k 1,.k 0⟩)]
theorem ANa:TT (tfG ADK) nmG (Cg.tree DK) DK Cg.s0 Cg.rvs [none,none] [none,some B_1] []=some [AFd]:=by kernel_rfl
theorem pu{ρ:GV}{ρe:Bl}{l:List Int}(h:H6 (γG ρ) ρe AFd l):Te .pa ((List.range 8).map fun j=>ρ.P.zm ((j+1:Nat):Int)) l:=gpT (r:=.pa) (f:=fun k=>.c (k+1:Nat)) (fun _k=>(Z2.c_ev _ _).symm) h
theorem AGo{T:Tb}{ρ:GV}(h:lk 183 T=some (.one ET)):KP.Ok T 183 ρ (.tab .pa 8):=fun v a P ha=>by
 obtain⟨h1,ρe,h2⟩:=ACC (i:=Cg) (C:=DK) (ρ:=⟨P,P,fun _=>0,[]⟩) (n:=120) (M:=ADK) h rfl (.cons (AHT rfl) (.cons (lH rfl) (.cons (Wp rfl) .nil))) ANa (ins:=[v,a]) (.no (.no .nil)) (.no (.yes (GX.p1 (r:=.p3) (AQ1 _) ha) .nil)) (fun p hp=>by cases hp) (fun ρe l h=>(pu h).len);exact⟨h1,pu h2⟩
def uH:List (Nat×KP):=[(185,.cst .pa 0),(187,.selc .pa),(188,.cneg .pa)]
def ADP:List (Nat×GX):=AP3 .pa (.c 1) 8
def dg8(j:Nat):Int:=(j:Int)-8
def APq(d:Int)(r:Option (List (List (Bk GX)))):Bool:=match r with
 |some [[.a 15 (.pt .pa z)]]=>z.beq (.c d)
 |_=>false
theorem AQA:((List.range 17).all fun j=>APq (dg8 j) (TT (tfG uH) nmG (Av.tree BU) BU Av.s0 Av.rvs [none,none,some [dg8 j]] [some ADP,none,none] []))=true:=by kernel_rfl
theorem AEk{ρ:GV}{t:List Int}(h:Te .pa ((List.range 8).map fun j=>ρ.P.zm ((j+1:Nat):Int)) t):Em (γG ρ) ADP t:=
 (Te.bl (f:=fun k=>Z2.smul (.k (k+1:Nat)) (.c 1)) (fun k=>by rw[Z2.smul_ev,Z2.c_ev,Pt.zm_one];rfl)).1 h
theorem AKM{d:Int}(h1: -8≤d)(h2:d≤8):APq d (TT (tfG uH) nmG (Av.tree BU) BU Av.s0 Av.rvs [none,none,some [d]] [some ADP,none,none] [])=true:=by
 have hj:=Ll.1 AQA (d+8).toNat (fD.2 (by omega));have e:dg8 (d+8).toNat=d:=by unfold dg8;omega
 rw[e] at hj;exact hj
theorem jJ{T:Tb}{ρ:GV}(h:lk 150 T=some (.one D9)):KP.Ok T 150 ρ (.sel .pa 8):=fun t v d P ht h1 h2=>by
 have hj:=AKM h1 h2;unfold APq at hj
 split at hj
 ·rename_i z hz
  obtain⟨g1,ρe,g2⟩:=ACC (i:=Av) (C:=BU) (ρ:=⟨P,P,fun _=>0,[]⟩) (n:=15) (M:=uH) h rfl (.cons (ACF rfl) (.cons (AHa rfl) (.cons (AH6 rfl) .nil))) hz (ins:=[t,v,[d]]) (.no (.no (.yes .nil))) (.yes (AEk (ρ:=⟨P,P,fun _=>0,[]⟩) ht) (.no (.no .nil))) (fun p hp=>by cases hp) (fun ρe l h=>RR.len (r:=.pa) (gp1 h));have g3:=gp1 g2;rw[Z2.beq_ok _ hj,Z2.c_ev] at g3;exact⟨g1,g3⟩
 ·cases hj
end
end Go.Proofs.YtloibefkijfdlaaGreatDoor
