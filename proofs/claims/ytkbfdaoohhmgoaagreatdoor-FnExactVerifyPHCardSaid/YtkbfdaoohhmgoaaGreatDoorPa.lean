/- Point functions as maps of points (printed by mkpt.py). -/
import Derived.Test.YtkbfdaoohhmgoaaGreatDoorFb
namespace Go.Proofs.YtkbfdaoohhmgoaaGreatDoor
section
open Go Ma
theorem kH{T:Tb}{ρ:GV}(h:lk 96 T=some (.one Eb)):KP.Ok T 96 ρ (.HC .p3 .pc .oe):=λv a b P Q ⟨x0,x1,x2,x3,h0,g0⟩ ⟨x4,x5,x6,x7,h1,g1⟩=>by
 obtain⟨h8,h9⟩:=YI (M:=[(67,.mul),(69,.add),(65,.sub)]) (i:=Gf) (C:=Gh) (bin:=[none,some (fb [.v 0,.v 1,.v 2,.v 3]),some (fb [.v 4,.v 5,.v 6,.v 7])]) (es:=[(.sub (.mul (.add (.v 1) (.v 0)) (.v 4)) (.mul (.sub (.v 1) (.v 0)) (.v 5))),(.add (.mul (.add (.v 1) (.v 0)) (.v 4)) (.mul (.sub (.v 1) (.v 0)) (.v 5))),(.add (.add (.mul (.v 2) (.v 6)) (.mul (.v 2) (.v 6))) (.mul (.v 3) (.v 7))),(.sub (.add (.mul (.v 2) (.v 6)) (.mul (.v 2) (.v 6))) (.mul (.v 3) (.v 7)))]) (.cons (KH rfl) (.cons (Rv rfl) (.cons (Rn rfl) .nil))) (by kernel_rfl) rfl ⟨λn=>[x0,x1,x2,x3,x4,x5,x6,x7].getD n 0,λ_=>false⟩ (ins:=[v,a,b]) (.no (.yes (MM.bl rfl h0) (.yes (MM.bl rfl h1) .nil)));refine⟨C8 h h8,?_⟩;rw[Bf h];show zx _ (BF 20 (Gf.raw Gh 0 [v,a,b]));rw[MM.fix (n:=20) h9 rfl];exact⟨_,_,_,_,h9,AKD g0 g1⟩
theorem yw{T:Tb}{ρ:GV}(h:lk 99 T=some (.one Eg)):KP.Ok T 99 ρ (.HC .p3 .pa .oe):=λv a b P Q ⟨x0,x1,x2,x3,h0,g0⟩ ⟨x4,x5,x6,h1,g1⟩=>by
 obtain⟨h8,h9⟩:=YI (M:=[(67,.mul),(69,.add),(65,.sub)]) (i:=Ee) (C:=El) (bin:=[none,some (fb [.v 0,.v 1,.v 2,.v 3]),some (fb [.v 4,.v 5,.v 6])]) (es:=[(.sub (.mul (.add (.v 1) (.v 0)) (.v 4)) (.mul (.sub (.v 1) (.v 0)) (.v 5))),(.add (.mul (.add (.v 1) (.v 0)) (.v 4)) (.mul (.sub (.v 1) (.v 0)) (.v 5))),(.add (.add (.v 2) (.v 2)) (.mul (.v 3) (.v 6))),(.sub (.add (.v 2) (.v 2)) (.mul (.v 3) (.v 6)))]) (.cons (KH rfl) (.cons (Rv rfl) (.cons (Rn rfl) .nil))) (by kernel_rfl) rfl ⟨λn=>[x0,x1,x2,x3,x4,x5,x6].getD n 0,λ_=>false⟩ (ins:=[v,a,b]) (.no (.yes (MM.bl rfl h0) (.yes (MM.bl rfl h1) .nil)));refine⟨C8 h h8,?_⟩;rw[Bf h];show zx _ (BF 20 (Ee.raw El 0 [v,a,b]));rw[MM.fix (n:=20) h9 rfl];exact⟨_,_,_,_,h9,ABr g0 g1⟩
theorem AOO{T:Tb}{ρ:GV}(h:lk 93 T=some (.one Ij)):KP.Ok T 93 ρ (.dbl):=λv a P ⟨x0,x1,x2,h0,g0⟩=>by
 obtain⟨h8,h9⟩:=YI (M:=[(69,.add),(65,.sub),(64,.sq)]) (i:=FU) (C:=FR) (bin:=[none,some (fb [.v 0,.v 1,.v 2])]) (es:=[(.sub (.mul (.add (.v 0) (.v 1)) (.add (.v 0) (.v 1))) (.add (.mul (.v 1) (.v 1)) (.mul (.v 0) (.v 0)))),(.add (.mul (.v 1) (.v 1)) (.mul (.v 0) (.v 0))),(.sub (.mul (.v 1) (.v 1)) (.mul (.v 0) (.v 0))),(.sub (.add (.mul (.v 2) (.v 2)) (.mul (.v 2) (.v 2))) (.sub (.mul (.v 1) (.v 1)) (.mul (.v 0) (.v 0))))]) (.cons (Rv rfl) (.cons (Rn rfl) (.cons (Zd rfl) .nil))) (by kernel_rfl) rfl ⟨λn=>[x0,x1,x2].getD n 0,λ_=>false⟩ (ins:=[v,a]) (.no (.yes (MM.bl rfl h0) .nil));refine⟨C8 h h8,?_⟩;rw[Bf h];show zx _ (BF 20 (FU.raw FR 0 [v,a]));rw[MM.fix (n:=20) h9 rfl];exact⟨_,_,_,_,h9,AQU g0⟩
theorem AFb{T:Tb}{ρ:GV}(h:lk 101 T=some (.one Ii)):KP.Ok T 101 ρ (.DO .oe .p2):=λv a P ⟨x0,x1,x2,x3,h0,g0⟩=>by
 obtain⟨h8,h9⟩:=YI (M:=[(67,.mul)]) (i:=FW) (C:=Fa) (bin:=[none,some (fb [.v 0,.v 1,.v 2,.v 3])]) (es:=[(.mul (.v 0) (.v 3)),(.mul (.v 1) (.v 2)),(.mul (.v 2) (.v 3))]) (.cons (KH rfl) .nil) (by kernel_rfl) rfl ⟨λn=>[x0,x1,x2,x3].getD n 0,λ_=>false⟩ (ins:=[v,a]) (.no (.yes (MM.bl rfl h0) .nil));refine⟨C8 h h8,?_⟩;rw[Bf h];show R2 _ (BF 15 (FW.raw Fa 0 [v,a]));rw[MM.fix (n:=15) h9 rfl];exact⟨_,_,_,h9,AIE g0⟩
theorem Vd{T:Tb}{ρ:GV}(h:lk 94 T=some (.one DX)):KP.Ok T 94 ρ (.DO .oe .p3):=λv a P ⟨x0,x1,x2,x3,h0,g0⟩=>by
 obtain⟨h8,h9⟩:=YI (M:=[(67,.mul)]) (i:=Fs) (C:=Fv) (bin:=[none,some (fb [.v 0,.v 1,.v 2,.v 3])]) (es:=[(.mul (.v 0) (.v 3)),(.mul (.v 1) (.v 2)),(.mul (.v 2) (.v 3)),(.mul (.v 0) (.v 1))]) (.cons (KH rfl) .nil) (by kernel_rfl) rfl ⟨λn=>[x0,x1,x2,x3].getD n 0,λ_=>false⟩ (ins:=[v,a]) (.no (.yes (MM.bl rfl h0) .nil));refine⟨C8 h h8,?_⟩;rw[Bf h];show R3 _ (BF 20 (Fs.raw Fv 0 [v,a]));rw[MM.fix (n:=20) h9 rfl];exact⟨_,_,_,_,h9,AG5 g0⟩
end
section
open Go Ma
theorem yS{T:Tb}{ρ:GV}(h:lk 127 T=some (.one Dw)):KP.Ok T 127 ρ (.DO .p3 .pc):=λv a P ⟨x0,x1,x2,x3,h0,g0⟩=>by
 obtain⟨h8,h9⟩:=YI (M:=[(69,.add),(65,.sub),(73,.set),(153,.k d2Z),(67,.mul)]) (i:=FD) (C:=Ey) (bin:=[none,some (fb [.v 0,.v 1,.v 2,.v 3])]) (es:=[(.add (.v 1) (.v 0)),(.sub (.v 1) (.v 0)),(.v 2),(.mul (.v 3) (.k d2Z))]) (.cons (Rv rfl) (.cons (Rn rfl) (.cons (uq rfl) (.cons (AKQ rfl) (.cons (KH rfl) .nil))))) (by kernel_rfl) rfl ⟨λn=>[x0,x1,x2,x3].getD n 0,λ_=>false⟩ (ins:=[v,a]) (.no (.yes (MM.bl rfl h0) .nil));refine⟨C8 h h8,?_⟩;rw[Bf h];show RC _ (BF 20 (FD.raw Ey 0 [v,a]));rw[MM.fix (n:=20) h9 rfl];exact⟨_,_,_,_,h9,by have:=AMf g0;rw[<- AJm] at this;exact this⟩
theorem AGX{T:Tb}{ρ:GV}(h:lk 150 T=some (.one Ei)):KP.Ok T 150 ρ (.DO .p3 .pa):=λv a P ⟨x0,x1,x2,x3,h0,g0⟩=>by
 obtain⟨h8,h9⟩:=YI (M:=[(69,.add),(65,.sub),(153,.k d2Z),(67,.mul),(131,.pw eI)]) (i:=Eo) (C:=Ej) (bin:=[none,some (fb [.v 0,.v 1,.v 2,.v 3])]) (es:=[(.mul (.add (.v 1) (.v 0)) (.pw (.v 2) eI)),(.mul (.sub (.v 1) (.v 0)) (.pw (.v 2) eI)),(.mul (.mul (.v 3) (.k d2Z)) (.pw (.v 2) eI))]) (.cons (Rv rfl) (.cons (Rn rfl) (.cons (AKQ rfl) (.cons (KH rfl) (.cons (qx rfl) .nil))))) (by kernel_rfl) rfl ⟨λn=>[x0,x1,x2,x3].getD n 0,λ_=>false⟩ (ins:=[v,a]) (.no (.yes (MM.bl rfl h0) .nil));refine⟨C8 h h8,?_⟩;rw[Bf h];show RA _ (BF 15 (Eo.raw Ej 0 [v,a]));rw[MM.fix (n:=15) h9 rfl];exact⟨_,_,_,h9,by have:=ANL g0;rw[<- AJm] at this;exact this⟩
theorem xk{T:Tb}{ρ:GV}(h:lk 128 T=some (.one F9)):KP.Ok T 128 ρ (.HC .p3 .p3 .p3):=λv a b P Q ha hb=>by
 obtain⟨h8,ρe,h9⟩:=AKn (M:=[(127,.DO .p3 .pc),(96,.HC .p3 .pc .oe),(94,.DO .oe .p3)]) (i:=IY) (C:=Ig) (ρ:=⟨P,Q,λ_=>0,[]⟩) (jn:=[none,none,none]) (bin:=[none,some [(20,.pt .p3 ⟨.k 1,.k 0⟩)],some [(20,.pt .p3 ⟨.k 0,.k 1⟩)]]) (pts:=[(1,0),(2,0)]) (r:=[[.a 20 (.pt .p3 ⟨.k 1,.k 1⟩)]]) (.cons (yS rfl) (.cons (kH rfl) (.cons (Vd rfl) .nil))) (by kernel_rfl) (ins:=[v,a,b]) (.no (.no (.no .nil))) (.no (.yes (GX.p1 (r:=.p3) (AR0 _) ha) (.yes (GX.p1 (r:=.p3) (AUg _) hb) .nil))) (λp hp=>by
  rcases G9.1 hp with rfl|hp
  ·exact qg (P:=P) ha
  ·rcases G9.1 hp with rfl|hp
   ·exact qg (P:=Q) hb
   ·cases hp)
 refine⟨C8 h h8,?_⟩;rw[Bf h];show R3 _ (BF 20 (IY.raw Ig 0 [v,a,b]));have h7:=gp1 (h9 0 _ rfl);rw[APg] at h7;rw[Ay (show _=20 from RR.len (r:=.p3) h7)];exact h7
def B_1:List (Nat×GX):=[(20,.pt .p3 ⟨.k 1,.k 0⟩)]
end
end Go.Proofs.YtkbfdaoohhmgoaaGreatDoor
