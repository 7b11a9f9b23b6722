/- The base point and the identity, as the code makes them. -/
import Derived.Test.YtloibefkijfdlaaGreatDoorDw
import Derived.Test.YtloibefkijfdlaaGreatDoorFe5
import Derived.Test.YtloibefkijfdlaaGreatDoorMa
import Derived.Test.YtloibefkijfdlaaGreatDoorPa
namespace Go.Proofs.YtloibefkijfdlaaGreatDoor
open Go Ma
theorem raw_cp(v:List Int)(a0 a1 a2 a3 a4 b0 b1 b2 b3 b4 c0 c1 c2 c3 c4 d0 d1 d2 d3 d4:Int):i_edwards25519_Point_Set.raw C_edwards25519_Point_Set 0 [v,[a0,a1,a2,a3,a4,b0,b1,b2,b3,b4,c0,c1,c2,c3,c4,d0,d1,d2,d3,d4]]= [a0,a1,a2,a3,a4,b0,b1,b2,b3,b4,c0,c1,c2,c3,c4,d0,d1,d2,d3,d4]:=by kernel_rfl
theorem twenty{α:Type}{l:List α}(h:l.length=20):∃ a0 a1 a2 a3 a4 b0 b1 b2 b3 b4 c0 c1 c2 c3 c4 d0 d1 d2 d3 d4,l= [a0,a1,a2,a3,a4,b0,b1,b2,b3,b4,c0,c1,c2,c3,c4,d0,d1,d2,d3,d4]:=by
 match l,h with
 | [a0,a1,a2,a3,a4,b0,b1,b2,b3,b4,c0,c1,c2,c3,c4,d0,d1,d2,d3,d4],_=>exact⟨a0,a1,a2,a3,a4,b0,b1,b2,b3,b4,c0,c1,c2,c3,c4,d0,d1,d2,d3,d4,rfl⟩
theorem ob_cp:((lin (i_edwards25519_Point_Set.tree C_edwards25519_Point_Set)).map fun p=>p.2.1.length)=some 0:=by kernel_rfl
theorem lo_cp:linOk 2 (i_edwards25519_Point_Set.tree C_edwards25519_Point_Set)=true:=by kernel_rfl
theorem pr_cp:s_edwards25519_Point_Set.pr 0= .l fun a=>fixL 20 (i_edwards25519_Point_Set.raw C_edwards25519_Point_Set 0 a):=rfl
theorem kf_cp{T:Tb}(h:lk 148 T=some (.one s_edwards25519_Point_Set)):KF.Ok T 148 (.cpy 4):=fun v l hl=>by
 obtain⟨a0,a1,a2,a3,a4,b0,b1,b2,b3,b4,c0,c1,c2,c3,c4,d0,d1,d2,d3,d4,rfl⟩:=twenty hl
 refine⟨pay_one h ?_,?_⟩
 ·have ho:=ob_cp
  match hl2:lin (i_edwards25519_Point_Set.tree C_edwards25519_Point_Set),ho with
  |some (ds,ob,e,st),ho=>
   simp only[Option.map_some,osE,List.length_eq_zero_iff] at ho
   subst ho
   obtain⟨k1,k2,k3,k4,k5⟩:=lin_ok (T:=C_edwards25519_Point_Set.T) (ρ:=insE [v,[a0,a1,a2,a3,a4,b0,b1,b2,b3,b4,c0,c1,c2,c3,c4,d0,d1,d2,d3,d4]]) lo_cp hl2
   exact k5 fun q hq=>by cases hq
 ·rw[gv_one h,pr_cp]
  show fixL 20 (i_edwards25519_Point_Set.raw C_edwards25519_Point_Set 0 _)=_
  rw[raw_cp]
  rfl
def byG:List Int:= [88,102,102,102,102,102,102,102,102,102,102,102,102,102,102,102,102,102,102,102,102,102,102,102,102,102,102,102,102,102,102,102]
def by1:List Int:= [1,0,0,0,0,0,0,0,0,0,0,0,0,0,0,0,0,0,0,0,0,0,0,0,0,0,0,0,0,0,0,0]
def yGL:List Int:= [1801439850948184,1351079888211148,450359962737049,900719925474099,1801439850948198]
def y1L:List Int:= [1,0,0,0,0]
theorem raw_sbG(v:List Int):i_field_Element_SetBytes.raw C_field_Element_SetBytes 0 [v,byG]=yGL:=by kernel_rfl
theorem raw_sb1(v:List Int):i_field_Element_SetBytes.raw C_field_Element_SetBytes 0 [v,by1]=y1L:=by kernel_rfl
theorem pr_sb:s_field_Element_SetBytes.pr 0= .l fun a=>fixL 5 (i_field_Element_SetBytes.raw C_field_Element_SetBytes 0 a):=rfl
theorem kf_sbG{T:Tb}(h:lk 111 T=some (.one s_field_Element_SetBytes)):KF.Ok T 111 (.at byG (feV yGL)):=fun v=>by
 refine⟨pay_one h trivial,?_⟩
 rw[gv_one h,pr_sb]
 show feR _ (fixL 5 (i_field_Element_SetBytes.raw C_field_Element_SetBytes 0 [v,byG]))
 rw[raw_sbG]
 exact⟨litF_ok rfl,rfl⟩
theorem kf_sb1{T:Tb}(h:lk 111 T=some (.one s_field_Element_SetBytes)):KF.Ok T 111 (.at by1 (feV y1L)):=fun v=>by
 refine⟨pay_one h trivial,?_⟩
 rw[gv_one h,pr_sb]
 show feR _ (fixL 5 (i_field_Element_SetBytes.raw C_field_Element_SetBytes 0 [v,by1]))
 rw[raw_sb1]
 exact⟨litF_ok rfl,rfl⟩
def decU(y:FX):FX:=.sub (.mul y y) (.k 1)
def decV(y:FX):FX:=.add (.mul (.mul y y) (.k (feV dL))) (.k 1)
def decX(y:FX):FX:=absX (sqX (decU y) (decV y))
def M_dec(bs:List Int)(c:Int):List (Nat×KF):= [(111,.at bs c),(112,.sq),(114,.k 1),(113,.sub),(116,.k (feV dL)),(115,.mul),(117,.add),(118,.sqr),(119,.neg),(120,.sel),(121,.set),(122,.k 1),(148,.cpy 4)]
def decT(y:FX)(r:Option (List (List (Bk FX)))):Bool:=match r with
 |some [[.a 5 a,.a 5 b,.a 5 c,.a 5 d]]=>(match a,d with
  | .ite (.t false) _ a',.mul (.ite (.t false) _ d') e=>a'.beq (decX y)&&b.beq y&&c.beq (.k 1)&&d'.beq (decX y)&&e.beq y
  |_,_=>false)
 |_=>false
theorem t_gen:decT (.k (feV yGL)) (bkFn (tfF (M_dec byG (feV yGL))) (othF [.not (sqF (decU (.k (feV yGL))) (decV (.k (feV yGL))))]) i_edwards25519_NewGeneratorPoint C_edwards25519_NewGeneratorPoint [])=true:=by kernel_rfl
theorem t_idp:decT (.k (feV y1L)) (bkFn (tfF (M_dec by1 (feV y1L))) (othF [.not (sqF (decU (.k (feV y1L))) (decV (.k (feV y1L))))]) i_edwards25519_NewIdentityPoint C_edwards25519_NewIdentityPoint [])=true:=by kernel_rfl
theorem sqF_sub(a b:FX)(ρ:FV):(sqF a b).bv ρ=(sqF (.v 0) (.v 1)).bv (FX.v2 (a.ev ρ) (b.ev ρ)):=by
 simp only[FX.bv,FX.ev,sqF,sqCk,sqR0,sqUn,FX.eb,FX.v2,List.getD_cons_zero,List.getD_cons_succ]
theorem sqX_sub(a b:FX)(ρ:FV):(absX (sqX a b)).ev ρ=(absX (sqX (.v 0) (.v 1))).ev (FX.v2 (a.ev ρ) (b.ev ρ)):=by
 simp only[FX.ev,absX,sqX,sqCk,sqR0,sqUn,FX.eb,FX.v2,List.getD_cons_zero,List.getD_cons_succ]
def uY(y:Fp):Fp:=y*y-1
def vY(y:Fp):Fp:=y*y*dE+1
def xY(y:Fp):Fp:=(absX (sqX (.v 0) (.v 1))).ev (FX.v2 (uY y) (vY y))
theorem decU_ev(y:FX)(ρ:FV):(decU y).ev ρ=uY (y.ev ρ):=by
 show y.ev ρ*y.ev ρ-fpI 1=_
 rw[fpI_one]; rfl
theorem decV_ev(y:FX)(ρ:FV):(decV y).ev ρ=vY (y.ev ρ):=by
 show y.ev ρ*y.ev ρ*fpI (feV dL)+fpI 1=_
 rw[fpI_one,d_eq]; rfl
theorem decX_ev(y:FX)(ρ:FV):(decX y).ev ρ=xY (y.ev ρ):=by
 unfold decX xY
 rw[sqX_sub,decU_ev,decV_ev]
theorem decF_ev(y:FX)(ρ:FV):(sqF (decU y) (decV y)).bv ρ=(sqF (.v 0) (.v 1)).bv (FX.v2 (uY (y.ev ρ)) (vY (y.ev ρ))):=by
 rw[sqF_sub,decU_ev,decV_ev]
theorem onC_uv{x y:Fp}:vY y*(x*x)=uY y↔OnC dE x y:=by
 unfold vY uY OnC
 constructor<;>intro h<;>grind
theorem xY_on{y:Fp}(h:∃ x,OnC dE x y):OnC dE (xY y) y:=by
 obtain⟨h1,h2,_⟩:=root_ok (uY y) (vY y)
 obtain⟨x,hx⟩:=h
 exact onC_uv.1 (h2 (h1.2 ⟨x,onC_uv.2 hx⟩))
theorem decF_true{y:Fp}(h:∃ x,OnC dE x y):(sqF (.v 0) (.v 1)).bv (FX.v2 (uY y) (vY y))=true:=by
 obtain⟨x,hx⟩:=h
 exact (root_ok (uY y) (vY y)).1.2 ⟨x,onC_uv.2 hx⟩
theorem r3_mk{x y z t:Fp}(h:OnC dE x y)(hz:z=1)(ht:t=x*y){l:List Int}(hl:FsR [x,y,z,t] l):R3 ⟨x,y,h⟩ l:=by
 subst hz; subst ht
 exact⟨x,y,1,x*y,hl,⟨by decide +kernel,by grind,by grind,by grind⟩⟩
theorem fs4{a b c d:Fp}{l u1 w1 u2 w2 u3 w3 u4 w4:List Int}(k1:l=u1++w1)(q1:feR a u1)(k3:w1=u2++w2)(q2:feR b u2)(k5:w2=u3++w3)(q3:feR c u3)(k7:w3=u4++w4)(q4:feR d u4)(k9:w4= []):FsR [a,b,c,d] l:=⟨u1,w1,k1,q1,u2,w2,k3,q2,u3,w3,k5,q3,u4,w4,k7,q4,k9⟩
theorem dec_ok{i:FnI}{C:Cx}{bs:List Int}{c:Int}(hM:MF C.T (M_dec bs c))(ht:decT (.k c) (bkFn (tfF (M_dec bs c)) (othF [.not (sqF (decU (.k c)) (decV (.k c)))]) i C [])=true)(hx:∃ x,OnC dE x (fpI c))(ins:List (List Int)):
  evOb C.T (i.tree C) (insE ins)∧R3 ⟨xY (fpI c),fpI c,xY_on hx⟩ (i.raw C 0 ins):=by
 let ρ:FV:=⟨fun _=>0,fun _=>false⟩
 have hy:(FX.k c).ev ρ=fpI c:=rfl
 have hH:∀ x ∈ [FX.not (sqF (decU (.k c)) (decV (.k c)))],x.bv ρ=false:=fun x hx'=>by
  rw[List.mem_singleton] at hx'
  subst hx'
  show (!(sqF (decU (.k c)) (decV (.k c))).bv ρ)=false
  rw[decF_ev,hy,decF_true hx]; rfl
 unfold decT at ht
 split at ht
 ·rename_i a b e d hr
  obtain⟨h1,ρe,h2,h3⟩:=bkFn_ok (ins:=ins) (γF ρ) (tfF_ok hM ρ) (fun ds=>othF_ok hH ds) hr (fun j b hj=>by simp at hj)
  refine⟨h1,?_⟩
  have h4:=h3 0 _ rfl
  split at ht
  ·rename_i z a' w d' f
   simp only[baE] at ht
   obtain⟨⟨⟨⟨t1,t2⟩,t3⟩,t4⟩,t5⟩:=ht
   have e1:a'.ev ρ=xY (fpI c):=by
    have:=congrArg Prod.fst (FX.beq_ok ρ t1)
    exact this.trans (decX_ev (.k c) ρ)
   have e2:b.ev ρ=fpI c:=congrArg Prod.fst (FX.beq_ok ρ t2)
   have e3:e.ev ρ=1:=(congrArg Prod.fst (FX.beq_ok ρ t3)).trans fpI_one
   have e4:d'.ev ρ=xY (fpI c):=by
    have:=congrArg Prod.fst (FX.beq_ok ρ t4)
    exact this.trans (decX_ev (.k c) ρ)
   have e5:f.ev ρ=fpI c:=congrArg Prod.fst (FX.beq_ok ρ t5)
   obtain⟨u1,w1,k1,k2,u2,w2,k3,k4,u3,w3,k5,k6,u4,w4,k7,k8,k9⟩:=h4
   have hb:b.isB=false∧e.isB=false:=by
    constructor
    ·cases b<;>first|rfl|cases t2
    ·cases e<;>first|rfl|cases t3
   have q1:feR (a'.ev ρ) u1:=γF_fe (e:=.ite (.t false) z a') k2.2 rfl
   have q2:feR (b.ev ρ) u2:=γF_fe k4.2 hb.1
   have q3:feR (e.ev ρ) u3:=γF_fe k6.2 hb.2
   have q4:feR (d'.ev ρ*f.ev ρ) u4:=γF_fe (e:=.mul (.ite (.t false) w d') f) k8.2 rfl
   rw[e1] at q1
   rw[e2] at q2
   rw[e3] at q3
   rw[e4,e5] at q4
   exact r3_mk (xY_on hx) rfl rfl (fs4 k1 q1 k3 q2 k5 q3 k7 q4 k9)
  ·cases ht
 ·cases ht
def yG:Fp:=fpI (feV yGL)
theorem yG_on:∃ x,OnC dE x yG:=⟨15112221349535400772501151409588531511454012693041857206046113283949847762202,by unfold OnC; decide +kernel⟩
theorem y1_on:∃ x,OnC dE x (fpI (feV y1L)):=⟨0,by unfold OnC; decide +kernel⟩
def ptB:Pt:=⟨xY yG,yG,xY_on yG_on⟩
theorem pr_gen:s_edwards25519_NewGeneratorPoint.pr 0= .l fun a=>fixL 20 (i_edwards25519_NewGeneratorPoint.raw C_edwards25519_NewGeneratorPoint 0 a):=rfl
theorem kp_gen{T:Tb}{d:Nat→Int}{s:List Int}(h:lk 176 T=some (.one s_edwards25519_NewGeneratorPoint)):KP.Ok T 176 ⟨ptB,ptB,d,s⟩ (.cst .p3 1):=fun args=>by
 have hM:MF C_edwards25519_NewGeneratorPoint.T (M_dec byG (feV yGL)):=.cons (kf_sbG rfl) (.cons (kf_sq rfl) (.cons (kf_feOne rfl) (.cons (kf_sub rfl) (.cons (kf_d rfl) (.cons (kf_mul rfl) (.cons (kf_add rfl) (.cons (kf_sqr rfl) (.cons (kf_neg rfl) (.cons (kf_sel rfl) (.cons (kf_set rfl) (.cons (kf_one rfl) (.cons (kf_cp rfl) .nil))))))))))))
 have h2:=dec_ok hM t_gen yG_on args
 refine⟨pay_one h h2.1,?_⟩
 rw[gv_one h,pr_gen,Pt.zm_one]
 show R3 ptB (fixL 20 (i_edwards25519_NewGeneratorPoint.raw C_edwards25519_NewGeneratorPoint 0 args))
 rw[fixL_id (show _=20 from RR.len (r:=.p3) h2.2)]
 exact h2.2
theorem pr_idp:s_edwards25519_NewIdentityPoint.pr 0= .l fun a=>fixL 20 (i_edwards25519_NewIdentityPoint.raw C_edwards25519_NewIdentityPoint 0 a):=rfl
theorem id_pt{P:Pt}(h:P.y=1):P=Pt.zero:=by
 have hc:=P.h
 unfold OnC at hc
 rw[h] at hc
 have hx:P.x*P.x*(1+dE)=0:=by grind
 have hd:(1+dE:Fp)≠0:=by decide +kernel
 have h0:P.x=0:=by
  rcases mul_zero_or hx with h1|h1
  ·rcases mul_zero_or h1 with h2|h2<;>exact h2
  ·exact absurd h1 hd
 exact Pt.ext' h0 h
theorem kp_idp{T:Tb}{ρ:GV}(h:lk 149 T=some (.one s_edwards25519_NewIdentityPoint)):KP.Ok T 149 ρ (.cst .p3 0):=fun args=>by
 have hM:MF C_edwards25519_NewIdentityPoint.T (M_dec by1 (feV y1L)):=.cons (kf_sb1 rfl) (.cons (kf_sq rfl) (.cons (kf_feOne rfl) (.cons (kf_sub rfl) (.cons (kf_d rfl) (.cons (kf_mul rfl) (.cons (kf_add rfl) (.cons (kf_sqr rfl) (.cons (kf_neg rfl) (.cons (kf_sel rfl) (.cons (kf_set rfl) (.cons (kf_one rfl) (.cons (kf_cp rfl) .nil))))))))))))
 have h2:=dec_ok hM t_idp y1_on args
 refine⟨pay_one h h2.1,?_⟩
 rw[gv_one h,pr_idp,Pt.zm_zero]
 show R3 Pt.zero (fixL 20 (i_edwards25519_NewIdentityPoint.raw C_edwards25519_NewIdentityPoint 0 args))
 rw[fixL_id (show _=20 from RR.len (r:=.p3) h2.2)]
 have e:(⟨xY (fpI (feV y1L)),fpI (feV y1L),xY_on y1_on⟩:Pt)=Pt.zero:=id_pt (by show fpI (feV y1L)=1; decide +kernel)
 rw[← e]
 exact h2.2
end Go.Proofs.YtloibefkijfdlaaGreatDoor
