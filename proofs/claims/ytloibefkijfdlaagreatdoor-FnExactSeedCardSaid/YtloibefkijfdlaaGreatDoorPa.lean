/- Point functions as maps of points (printed by mkpt.py). Point functions as maps of points (printed by mkpt.py). -/
import Derived.Test.YtloibefkijfdlaaGreatDoorBc
import Derived.Test.YtloibefkijfdlaaGreatDoorDz
import Derived.Test.YtloibefkijfdlaaGreatDoorFb
namespace Go.Proofs.YtloibefkijfdlaaGreatDoor
open Go Ma
theorem kp_addC{T:Tb}{ρ:GV}(h:lk 138 T=some (.one s_edwards25519_projP1xP1_Add)):KP.Ok T 138 ρ (.op2 .p3 .pc .p11):=fun v a b P Q ⟨x0,x1,x2,x3,h0,g0⟩ ⟨x4,x5,x6,x7,h1,g1⟩=>by
 obtain⟨h8,h9⟩:=ptFn (M:= [(115,.mul),(117,.add),(113,.sub)]) (i:=i_edwards25519_projP1xP1_Add) (C:=C_edwards25519_projP1xP1_Add) (bin:= [none,some (fb [.v 0,.v 1,.v 2,.v 3]),some (fb [.v 4,.v 5,.v 6,.v 7])]) (es:= [(.sub (.mul (.add (.v 1) (.v 0)) (.v 4)) (.mul (.sub (.v 1) (.v 0)) (.v 5))),(.add (.mul (.add (.v 1) (.v 0)) (.v 4)) (.mul (.sub (.v 1) (.v 0)) (.v 5))),(.add (.add (.mul (.v 2) (.v 6)) (.mul (.v 2) (.v 6))) (.mul (.v 3) (.v 7))),(.sub (.add (.mul (.v 2) (.v 6)) (.mul (.v 2) (.v 6))) (.mul (.v 3) (.v 7)))]) (.cons (kf_mul rfl) (.cons (kf_add rfl) (.cons (kf_sub rfl) .nil))) (by kernel_rfl) rfl ⟨fun n=> [x0,x1,x2,x3,x4,x5,x6,x7].getD n 0,fun _=>false⟩ (ins:= [v,a,b]) (.no (.yes (FsR.bl rfl h0) (.yes (FsR.bl rfl h1) .nil)))
 refine⟨pay_one h h8,?_⟩
 rw[gv_one h]
 show R11 _ (fixL 20 (i_edwards25519_projP1xP1_Add.raw C_edwards25519_projP1xP1_Add 0 [v,a,b]))
 rw[FsR.fix (n:=20) h9 rfl]
 exact⟨_,_,_,_,h9,f_add g0 g1⟩
theorem kp_addA{T:Tb}{ρ:GV}(h:lk 141 T=some (.one s_edwards25519_projP1xP1_AddAffine)):KP.Ok T 141 ρ (.op2 .p3 .pa .p11):=fun v a b P Q ⟨x0,x1,x2,x3,h0,g0⟩ ⟨x4,x5,x6,h1,g1⟩=>by
 obtain⟨h8,h9⟩:=ptFn (M:= [(115,.mul),(117,.add),(113,.sub)]) (i:=i_edwards25519_projP1xP1_AddAffine) (C:=C_edwards25519_projP1xP1_AddAffine) (bin:= [none,some (fb [.v 0,.v 1,.v 2,.v 3]),some (fb [.v 4,.v 5,.v 6])]) (es:= [(.sub (.mul (.add (.v 1) (.v 0)) (.v 4)) (.mul (.sub (.v 1) (.v 0)) (.v 5))),(.add (.mul (.add (.v 1) (.v 0)) (.v 4)) (.mul (.sub (.v 1) (.v 0)) (.v 5))),(.add (.add (.v 2) (.v 2)) (.mul (.v 3) (.v 6))),(.sub (.add (.v 2) (.v 2)) (.mul (.v 3) (.v 6)))]) (.cons (kf_mul rfl) (.cons (kf_add rfl) (.cons (kf_sub rfl) .nil))) (by kernel_rfl) rfl ⟨fun n=> [x0,x1,x2,x3,x4,x5,x6].getD n 0,fun _=>false⟩ (ins:= [v,a,b]) (.no (.yes (FsR.bl rfl h0) (.yes (FsR.bl rfl h1) .nil)))
 refine⟨pay_one h h8,?_⟩
 rw[gv_one h]
 show R11 _ (fixL 20 (i_edwards25519_projP1xP1_AddAffine.raw C_edwards25519_projP1xP1_AddAffine 0 [v,a,b]))
 rw[FsR.fix (n:=20) h9 rfl]
 exact⟨_,_,_,_,h9,f_addA g0 g1⟩
theorem kp_dbl{T:Tb}{ρ:GV}(h:lk 135 T=some (.one s_edwards25519_projP1xP1_Double)):KP.Ok T 135 ρ (.dbl):=fun v a P ⟨x0,x1,x2,h0,g0⟩=>by
 obtain⟨h8,h9⟩:=ptFn (M:= [(117,.add),(113,.sub),(112,.sq)]) (i:=i_edwards25519_projP1xP1_Double) (C:=C_edwards25519_projP1xP1_Double) (bin:= [none,some (fb [.v 0,.v 1,.v 2])]) (es:= [(.sub (.mul (.add (.v 0) (.v 1)) (.add (.v 0) (.v 1))) (.add (.mul (.v 1) (.v 1)) (.mul (.v 0) (.v 0)))),(.add (.mul (.v 1) (.v 1)) (.mul (.v 0) (.v 0))),(.sub (.mul (.v 1) (.v 1)) (.mul (.v 0) (.v 0))),(.sub (.add (.mul (.v 2) (.v 2)) (.mul (.v 2) (.v 2))) (.sub (.mul (.v 1) (.v 1)) (.mul (.v 0) (.v 0))))]) (.cons (kf_add rfl) (.cons (kf_sub rfl) (.cons (kf_sq rfl) .nil))) (by kernel_rfl) rfl ⟨fun n=> [x0,x1,x2].getD n 0,fun _=>false⟩ (ins:= [v,a]) (.no (.yes (FsR.bl rfl h0) .nil))
 refine⟨pay_one h h8,?_⟩
 rw[gv_one h]
 show R11 _ (fixL 20 (i_edwards25519_projP1xP1_Double.raw C_edwards25519_projP1xP1_Double 0 [v,a]))
 rw[FsR.fix (n:=20) h9 rfl]
 exact⟨_,_,_,_,h9,f_dbl g0⟩
theorem kp_2of3{T:Tb}{ρ:GV}(h:lk 151 T=some (.one s_edwards25519_projP2_FromP3)):KP.Ok T 151 ρ (.op1 .p3 .p2):=fun v a P ⟨x0,x1,x2,x3,h0,g0⟩=>by
 obtain⟨h8,h9⟩:=ptFn (M:= [(121,.set)]) (i:=i_edwards25519_projP2_FromP3) (C:=C_edwards25519_projP2_FromP3) (bin:= [none,some (fb [.v 0,.v 1,.v 2,.v 3])]) (es:= [.v 0,.v 1,.v 2]) (.cons (kf_set rfl) .nil) (by kernel_rfl) rfl ⟨fun n=> [x0,x1,x2,x3].getD n 0,fun _=>false⟩ (ins:= [v,a]) (.no (.yes (FsR.bl rfl h0) .nil))
 refine⟨pay_one h h8,?_⟩
 rw[gv_one h]
 show R2 _ (fixL 15 (i_edwards25519_projP2_FromP3.raw C_edwards25519_projP2_FromP3 0 [v,a]))
 rw[FsR.fix (n:=15) h9 rfl]
 exact⟨_,_,_,h9,f_2of3 g0⟩
theorem kp_2of11{T:Tb}{ρ:GV}(h:lk 143 T=some (.one s_edwards25519_projP2_FromP1xP1)):KP.Ok T 143 ρ (.op1 .p11 .p2):=fun v a P ⟨x0,x1,x2,x3,h0,g0⟩=>by
 obtain⟨h8,h9⟩:=ptFn (M:= [(115,.mul)]) (i:=i_edwards25519_projP2_FromP1xP1) (C:=C_edwards25519_projP2_FromP1xP1) (bin:= [none,some (fb [.v 0,.v 1,.v 2,.v 3])]) (es:= [(.mul (.v 0) (.v 3)),(.mul (.v 1) (.v 2)),(.mul (.v 2) (.v 3))]) (.cons (kf_mul rfl) .nil) (by kernel_rfl) rfl ⟨fun n=> [x0,x1,x2,x3].getD n 0,fun _=>false⟩ (ins:= [v,a]) (.no (.yes (FsR.bl rfl h0) .nil))
 refine⟨pay_one h h8,?_⟩
 rw[gv_one h]
 show R2 _ (fixL 15 (i_edwards25519_projP2_FromP1xP1.raw C_edwards25519_projP2_FromP1xP1 0 [v,a]))
 rw[FsR.fix (n:=15) h9 rfl]
 exact⟨_,_,_,h9,f_2of11 g0⟩
theorem kp_3of11{T:Tb}{ρ:GV}(h:lk 136 T=some (.one s_edwards25519_Point_fromP1xP1)):KP.Ok T 136 ρ (.op1 .p11 .p3):=fun v a P ⟨x0,x1,x2,x3,h0,g0⟩=>by
 obtain⟨h8,h9⟩:=ptFn (M:= [(115,.mul)]) (i:=i_edwards25519_Point_fromP1xP1) (C:=C_edwards25519_Point_fromP1xP1) (bin:= [none,some (fb [.v 0,.v 1,.v 2,.v 3])]) (es:= [(.mul (.v 0) (.v 3)),(.mul (.v 1) (.v 2)),(.mul (.v 2) (.v 3)),(.mul (.v 0) (.v 1))]) (.cons (kf_mul rfl) .nil) (by kernel_rfl) rfl ⟨fun n=> [x0,x1,x2,x3].getD n 0,fun _=>false⟩ (ins:= [v,a]) (.no (.yes (FsR.bl rfl h0) .nil))
 refine⟨pay_one h h8,?_⟩
 rw[gv_one h]
 show R3 _ (fixL 20 (i_edwards25519_Point_fromP1xP1.raw C_edwards25519_Point_fromP1xP1 0 [v,a]))
 rw[FsR.fix (n:=20) h9 rfl]
 exact⟨_,_,_,_,h9,f_3of11 g0⟩
theorem kp_set3{T:Tb}{ρ:GV}(h:lk 148 T=some (.one s_edwards25519_Point_Set)):KP.Ok T 148 ρ (.op1 .p3 .p3):=fun v a P ⟨x0,x1,x2,x3,h0,g0⟩=>by
 obtain⟨h8,h9⟩:=ptFn (M:= []) (i:=i_edwards25519_Point_Set) (C:=C_edwards25519_Point_Set) (bin:= [none,some (fb [.v 0,.v 1,.v 2,.v 3])]) (es:= [.v 0,.v 1,.v 2,.v 3]) .nil (by kernel_rfl) rfl ⟨fun n=> [x0,x1,x2,x3].getD n 0,fun _=>false⟩ (ins:= [v,a]) (.no (.yes (FsR.bl rfl h0) .nil))
 refine⟨pay_one h h8,?_⟩
 rw[gv_one h]
 show R3 _ (fixL 20 (i_edwards25519_Point_Set.raw C_edwards25519_Point_Set 0 [v,a]))
 rw[FsR.fix (n:=20) h9 rfl]
 exact⟨_,_,_,_,h9,g0⟩
end Go.Proofs.YtloibefkijfdlaaGreatDoor

namespace Go.Proofs.YtloibefkijfdlaaGreatDoor
open Go Ma
theorem kp_Cof3{T:Tb}{ρ:GV}(h:lk 177 T=some (.one s_edwards25519_projCached_FromP3)):KP.Ok T 177 ρ (.op1 .p3 .pc):=fun v a P ⟨x0,x1,x2,x3,h0,g0⟩=>by
 obtain⟨h8,h9⟩:=ptFn (M:= [(117,.add),(113,.sub),(121,.set),(209,.k d2Z),(115,.mul)]) (i:=i_edwards25519_projCached_FromP3) (C:=C_edwards25519_projCached_FromP3) (bin:= [none,some (fb [.v 0,.v 1,.v 2,.v 3])]) (es:= [(.add (.v 1) (.v 0)),(.sub (.v 1) (.v 0)),(.v 2),(.mul (.v 3) (.k d2Z))]) (.cons (kf_add rfl) (.cons (kf_sub rfl) (.cons (kf_set rfl) (.cons (kf_d2 rfl) (.cons (kf_mul rfl) .nil))))) (by kernel_rfl) rfl ⟨fun n=> [x0,x1,x2,x3].getD n 0,fun _=>false⟩ (ins:= [v,a]) (.no (.yes (FsR.bl rfl h0) .nil))
 refine⟨pay_one h h8,?_⟩
 rw[gv_one h]
 show RC _ (fixL 20 (i_edwards25519_projCached_FromP3.raw C_edwards25519_projCached_FromP3 0 [v,a]))
 rw[FsR.fix (n:=20) h9 rfl]
 exact⟨_,_,_,_,h9,by have:=f_Cof3 g0; rw[← d2_eq] at this; exact this⟩
theorem kp_Aof3{T:Tb}{ρ:GV}(h:lk 207 T=some (.one s_edwards25519_affineCached_FromP3)):KP.Ok T 207 ρ (.op1 .p3 .pa):=fun v a P ⟨x0,x1,x2,x3,h0,g0⟩=>by
 obtain⟨h8,h9⟩:=ptFn (M:= [(117,.add),(113,.sub),(209,.k d2Z),(115,.mul),(180,.pw eI)]) (i:=i_edwards25519_affineCached_FromP3) (C:=C_edwards25519_affineCached_FromP3) (bin:= [none,some (fb [.v 0,.v 1,.v 2,.v 3])]) (es:= [(.mul (.add (.v 1) (.v 0)) (.pw (.v 2) eI)),(.mul (.sub (.v 1) (.v 0)) (.pw (.v 2) eI)),(.mul (.mul (.v 3) (.k d2Z)) (.pw (.v 2) eI))]) (.cons (kf_add rfl) (.cons (kf_sub rfl) (.cons (kf_d2 rfl) (.cons (kf_mul rfl) (.cons (kf_inv rfl) .nil))))) (by kernel_rfl) rfl ⟨fun n=> [x0,x1,x2,x3].getD n 0,fun _=>false⟩ (ins:= [v,a]) (.no (.yes (FsR.bl rfl h0) .nil))
 refine⟨pay_one h h8,?_⟩
 rw[gv_one h]
 show RA _ (fixL 15 (i_edwards25519_affineCached_FromP3.raw C_edwards25519_affineCached_FromP3 0 [v,a]))
 rw[FsR.fix (n:=15) h9 rfl]
 exact⟨_,_,_,h9,by have:=f_Aof3 g0; rw[← d2_eq] at this; exact this⟩
theorem kp_zeroA{T:Tb}{ρ:GV}(h:lk 185 T=some (.one s_edwards25519_affineCached_Zero)):KP.Ok T 185 ρ (.cst .pa 0):=fun args=>by
 obtain⟨h8,h9⟩:=ptFn0 (M:= [(122,.k 1),(179,.k 0)]) (i:=i_edwards25519_affineCached_Zero) (C:=C_edwards25519_affineCached_Zero) (n:=1) (es:= [.k 1,.k 1,.k 0]) (.cons (kf_one rfl) (.cons (kf_zero rfl) .nil)) (by kernel_rfl) rfl ⟨fun _=>0,fun _=>false⟩ args
 refine⟨pay_one h h8,?_⟩
 rw[gv_one h]
 show RA _ (fixL 15 (i_edwards25519_affineCached_Zero.raw C_edwards25519_affineCached_Zero 0 args))
 rw[FsR.fix (n:=15) h9 rfl,Pt.zm_zero]
 have e:FsR [1,1,0] (i_edwards25519_affineCached_Zero.raw C_edwards25519_affineCached_Zero 0 args):=by
  have h9':FsR [fpI 1,fpI 1,fpI 0] (i_edwards25519_affineCached_Zero.raw C_edwards25519_affineCached_Zero 0 args):=h9
  rw[fpI_one,fpI_zero] at h9'; exact h9'
 exact⟨1,1,0,e,f_zeroA⟩
theorem kp_selA{T:Tb}{ρ:GV}(h:lk 187 T=some (.one s_edwards25519_affineCached_Select)):KP.Ok T 187 ρ (.selc .pa):=fun v a b P Q c ⟨x0,x1,x2,h0,g0⟩ ⟨x3,x4,x5,h1,g1⟩=>by
 obtain⟨h8,h9⟩:=ptFn (M:= [(120,.sel)]) (i:=i_edwards25519_affineCached_Select) (C:=C_edwards25519_affineCached_Select) (bin:= [none,some (fb [.v 0,.v 1,.v 2]),some (fb [.v 3,.v 4,.v 5]),some [(1,.b 0)]]) (es:= [.ite (.b 0) (.v 0) (.v 3),.ite (.b 0) (.v 1) (.v 4),.ite (.b 0) (.v 2) (.v 5)]) (.cons (kf_sel rfl) .nil) (by kernel_rfl) rfl ⟨fun n=> [x0,x1,x2,x3,x4,x5].getD n 0,fun _=>c⟩ (ins:= [v,a,b,[bif c then 1 else 0]]) (.no (.yes (FsR.bl rfl h0) (.yes (FsR.bl rfl h1) (.yes (b1_ok rfl) .nil))))
 refine⟨pay_one h h8,?_⟩
 rw[gv_one h]
 show RA _ (fixL 15 (i_edwards25519_affineCached_Select.raw C_edwards25519_affineCached_Select 0 [v,a,b,[bif c then 1 else 0]]))
 rw[FsR.fix (n:=15) h9 rfl]
 cases c with
 |true=>exact⟨x0,x1,x2,h9,g0⟩
 |false=>exact⟨x3,x4,x5,h9,g1⟩
theorem kp_negA{T:Tb}{ρ:GV}(h:lk 188 T=some (.one s_edwards25519_affineCached_CondNeg)):KP.Ok T 188 ρ (.cneg .pa):=fun a P c ⟨x0,x1,x2,h0,g0⟩=>by
 obtain⟨h8,h9⟩:=ptFn (M:= [(210,.swp),(119,.neg),(120,.sel)]) (i:=i_edwards25519_affineCached_CondNeg) (C:=C_edwards25519_affineCached_CondNeg) (bin:= [some (fb [.v 0,.v 1,.v 2]),some [(1,.b 0)]]) (es:= [.ite (.b 0) (.v 1) (.v 0),.ite (.b 0) (.v 0) (.v 1),.ite (.b 0) (.sub (.k 0) (.v 2)) (.v 2)]) (.cons (kf_swp rfl) (.cons (kf_neg rfl) (.cons (kf_sel rfl) .nil))) (by kernel_rfl) rfl ⟨fun n=> [x0,x1,x2].getD n 0,fun _=>c⟩ (ins:= [a,[bif c then 1 else 0]]) (.yes (FsR.bl rfl h0) (.yes (b1_ok rfl) .nil))
 refine⟨pay_one h h8,?_⟩
 rw[gv_one h]
 show RA _ (fixL 15 (i_edwards25519_affineCached_CondNeg.raw C_edwards25519_affineCached_CondNeg 0 [a,[bif c then 1 else 0]]))
 rw[FsR.fix (n:=15) h9 rfl]
 cases c with
 |true=>
  have h9':FsR [x1,x0,fpI 0-x2] (i_edwards25519_affineCached_CondNeg.raw C_edwards25519_affineCached_CondNeg 0 [a,[1]]):=h9
  rw[fpI_zero,show (0:Fp)-x2= -x2 by grind] at h9'
  exact⟨_,_,_,h9',g0.neg⟩
 |false=>exact⟨x0,x1,x2,h9,g0⟩
theorem kp_add3{T:Tb}{ρ:GV}(h:lk 178 T=some (.one s_edwards25519_Point_Add)):KP.Ok T 178 ρ (.op2 .p3 .p3 .p3):=fun v a b P Q ha hb=>by
 obtain⟨h8,ρe,h9⟩:=gpFnC (M:= [(177,.op1 .p3 .pc),(138,.op2 .p3 .pc .p11),(136,.op1 .p11 .p3)]) (i:=i_edwards25519_Point_Add) (C:=C_edwards25519_Point_Add) (ρ:=⟨P,Q,fun _=>0,[]⟩) (kin:= [none,none,none]) (bin:= [none,some [(20,.pt .p3 ⟨.k 1,.k 0⟩)],some [(20,.pt .p3 ⟨.k 0,.k 1⟩)]]) (pts:= [(1,0),(2,0)]) (r:= [[.a 20 (.pt .p3 ⟨.k 1,.k 1⟩)]]) (.cons (kp_Cof3 rfl) (.cons (kp_addC rfl) (.cons (kp_3of11 rfl) .nil))) (by kernel_rfl) (ins:= [v,a,b]) (.no (.no (.no .nil))) (.no (.yes (GX.p1 (r:=.p3) (z2_1 _) ha) (.yes (GX.p1 (r:=.p3) (z2_2 _) hb) .nil))) (fun p hp=>by
  rcases List.mem_cons.1 hp with rfl|hp
  ·exact r3_nz (P:=P) ha
  ·rcases List.mem_cons.1 hp with rfl|hp
   ·exact r3_nz (P:=Q) hb
   ·cases hp)
 refine⟨pay_one h h8,?_⟩
 rw[gv_one h]
 show R3 _ (fixL 20 (i_edwards25519_Point_Add.raw C_edwards25519_Point_Add 0 [v,a,b]))
 have h7:=gp1 (h9 0 _ rfl)
 rw[z2_11] at h7
 rw[fixL_id (show _=20 from RR.len (r:=.p3) h7)]
 exact h7
def M_tabA:List (Nat×KP):= [(207,.op1 .p3 .pa),(141,.op2 .p3 .pa .p11),(136,.op1 .p11 .p3)]
def R_tabA:List (Bk GX):=(List.range 8).map fun k=>.a 15 (.pt .pa (.c (k+1:Nat)))
def B_1:List (Nat×GX):= [(20,.pt .p3 ⟨.k 1,.k 0⟩)]
theorem t_tabA:bkFnC (tfG M_tabA) nmG (i_edwards25519_affineLookupTable_FromP3.tree C_edwards25519_affineLookupTable_FromP3) C_edwards25519_affineLookupTable_FromP3 i_edwards25519_affineLookupTable_FromP3.s0 i_edwards25519_affineLookupTable_FromP3.rvs [none,none] [none,some B_1] []=some [R_tabA]:=by kernel_rfl
theorem R_tabA_T{ρ:GV}{ρe:Env}{l:List Int}(h:BksOk (γG ρ) ρe R_tabA l):TabR .pa ((List.range 8).map fun j=>ρ.P.zm ((j+1:Nat):Int)) l:=gpT (r:=.pa) (f:=fun k=>.c (k+1:Nat)) (fun _k=>(Z2.c_ev _ _).symm) h
theorem kp_tabA{T:Tb}{ρ:GV}(h:lk 183 T=some (.one s_edwards25519_affineLookupTable_FromP3)):KP.Ok T 183 ρ (.tab .pa 8):=fun v a P ha=>by
 obtain⟨h1,ρe,h2⟩:=gpOk (i:=i_edwards25519_affineLookupTable_FromP3) (C:=C_edwards25519_affineLookupTable_FromP3) (ρ:=⟨P,P,fun _=>0,[]⟩) (n:=120) (M:=M_tabA) h rfl (.cons (kp_Aof3 rfl) (.cons (kp_addA rfl) (.cons (kp_3of11 rfl) .nil))) t_tabA (ins:= [v,a]) (.no (.no .nil)) (.no (.yes (GX.p1 (r:=.p3) (z2_1 _) ha) .nil)) (fun p hp=>by cases hp) (fun ρe l h=>(R_tabA_T h).len)
 exact⟨h1,R_tabA_T h2⟩
def M_selA:List (Nat×KP):= [(185,.cst .pa 0),(187,.selc .pa),(188,.cneg .pa)]
def B_tab:List (Nat×GX):=tabZ .pa (.c 1) 8
def dg8(j:Nat):Int:=(j:Int)-8
def selT(d:Int)(r:Option (List (List (Bk GX)))):Bool:=match r with
 |some [[.a 15 (.pt .pa z)]]=>z.beq (.c d)
 |_=>false
theorem t_selA:((List.range 17).all fun j=>selT (dg8 j) (bkFnC (tfG M_selA) nmG (i_edwards25519_affineLookupTable_SelectInto.tree C_edwards25519_affineLookupTable_SelectInto) C_edwards25519_affineLookupTable_SelectInto i_edwards25519_affineLookupTable_SelectInto.s0 i_edwards25519_affineLookupTable_SelectInto.rvs [none,none,some [dg8 j]] [some B_tab,none,none] []))=true:=by kernel_rfl
theorem B_tab_ok{ρ:GV}{t:List Int}(h:TabR .pa ((List.range 8).map fun j=>ρ.P.zm ((j+1:Nat):Int)) t):BlsOk (γG ρ) B_tab t:=
 (TabR.bl (f:=fun k=>Z2.smul (.k (k+1:Nat)) (.c 1)) (fun k=>by rw[Z2.smul_ev,Z2.c_ev,Pt.zm_one]; rfl)).1 h
theorem t_selA1{d:Int}(h1: -8≤d)(h2:d≤8):selT d (bkFnC (tfG M_selA) nmG (i_edwards25519_affineLookupTable_SelectInto.tree C_edwards25519_affineLookupTable_SelectInto) C_edwards25519_affineLookupTable_SelectInto i_edwards25519_affineLookupTable_SelectInto.s0 i_edwards25519_affineLookupTable_SelectInto.rvs [none,none,some [d]] [some B_tab,none,none] [])=true:=by
 have hj:=List.all_eq_true.1 t_selA (d+8).toNat (List.mem_range.2 (by omega))
 have e:dg8 (d+8).toNat=d:=by unfold dg8; omega
 rw[e] at hj
 exact hj
theorem kp_selTab{T:Tb}{ρ:GV}(h:lk 150 T=some (.one s_edwards25519_affineLookupTable_SelectInto)):KP.Ok T 150 ρ (.sel .pa 8):=fun t v d P ht h1 h2=>by
 have hj:=t_selA1 h1 h2
 unfold selT at hj
 split at hj
 ·rename_i z hz
  obtain⟨g1,ρe,g2⟩:=gpOk (i:=i_edwards25519_affineLookupTable_SelectInto) (C:=C_edwards25519_affineLookupTable_SelectInto) (ρ:=⟨P,P,fun _=>0,[]⟩) (n:=15) (M:=M_selA) h rfl (.cons (kp_zeroA rfl) (.cons (kp_selA rfl) (.cons (kp_negA rfl) .nil))) hz (ins:= [t,v,[d]]) (.no (.no (.yes .nil))) (.yes (B_tab_ok (ρ:=⟨P,P,fun _=>0,[]⟩) ht) (.no (.no .nil))) (fun p hp=>by cases hp) (fun ρe l h=>RR.len (r:=.pa) (gp1 h))
  have g3:=gp1 g2
  rw[Z2.beq_ok _ hj,Z2.c_ev] at g3
  exact⟨g1,g3⟩
 ·cases hj
end Go.Proofs.YtloibefkijfdlaaGreatDoor
