/- Equality, parity, roots. -/
import Derived.Test.YtloibefkijfdlaaGreatDoorBc
import Derived.Test.YtloibefkijfdlaaGreatDoorCa
import Derived.Test.YtloibefkijfdlaaGreatDoorFeB
namespace Go.Proofs.YtloibefkijfdlaaGreatDoor
open Go Ma
theorem byt_gv{T:Tb}(h:lk 200 T=some (.one s_field_Element_Bytes)){a:List Int}{x:Fp}(ha:feR x a):Pay T 200 [a]∧(gv T 200 0 [a]).length=32∧by8 (gv T 200 0 [a])∧leV (gv T 200 0 [a])=(x.val:Int):=by
 obtain⟨h1,h2,h3⟩:=byt_raw ha.1
 refine⟨pay_one h trivial,?_⟩
 rw[gv_one h]
 show (fixL 32 (i_field_Element_Bytes.raw C_field_Element_Bytes 0 [a])).length=32∧by8 (fixL 32 (i_field_Element_Bytes.raw C_field_Element_Bytes 0 [a]))∧leV (fixL 32 (i_field_Element_Bytes.raw C_field_Element_Bytes 0 [a]))=_
 rw[fixL_id h1]
 refine⟨h1,h2,?_⟩
 rw[h3, ← ha.2,fpI_val]
theorem t_equal:(List.range 33).all (eqP i_field_Element_Equal C_field_Element_Equal 200 36 68)=true:=by kernel_rfl
theorem pr_equal:s_field_Element_Equal.pr 0= .i fun a=>d1 (i_field_Element_Equal.raw C_field_Element_Equal 0 a):=rfl
theorem lk_eqB:lk 200 C_field_Element_Equal.T=some (.one s_field_Element_Bytes):=rfl
theorem kf_equal{T:Tb}(h:lk 161 T=some (.one s_field_Element_Equal)):KF.Ok T 161 .eqf:=fun a b x y ha hb=>by
 refine⟨pay_one h trivial,?_⟩
 rw[gv_one h,pr_equal]
 have ga:=(byt_gv lk_eqB ha).2
 have gb:=(byt_gv lk_eqB hb).2
 rw[gv_one lk_eqB] at ga gb
 have:=eqP_ok lk_eqB rfl t_equal (a:=a) (b:=b) rfl rfl gb.1 ga.1
 show [d1 (i_field_Element_Equal.raw C_field_Element_Equal 0 [a,b])]=_
 rw[this,d1_one]
 unfold b01w
 congr 2
 generalize (s_field_Element_Bytes.pr 0).den [a]=A at *
 generalize (s_field_Element_Bytes.pr 0).den [b]=B at *
 by_cases hxy:x=y
 ·subst hxy
  have e:B=A:=leV_inj gb.2.1 ga.2.1 (by rw[gb.1,ga.1]) (by rw[gb.2.2,ga.2.2])
  rw[feq_iff.2 rfl]
  simp only[e,decide_true]
 ·have e:¬ B=A:=fun he=>hxy (fin_ext_int (by rw[← ga.2.2, ← gb.2.2,he]))
  rw[feq_ne hxy]
  simp only[e,decide_false]
def isnT(fb:Nat):Option (List (Nat×Def)×List (List X))→Bool
 |some ([(n1,⟨.fn f true 0,[.vec 0]⟩),(n2,⟨.bin .and .u8,[.xs [.v a 0],.xs [.lit (.ofNat c)]]⟩),(n3,⟨.conv .i64,[.xs [.v b 0]]⟩)],[[.v d 0]])=>Nat.beq f fb&&Nat.beq a n1&&Nat.beq c 1&&Nat.beq b n2&&Nat.beq d n3
 |_=>false
theorem l_isn:isnT 200 (linR i_field_Element_IsNegative C_field_Element_IsNegative)=true:=by kernel_rfl
theorem lk_isB:lk 200 C_field_Element_IsNegative.T=some (.one s_field_Element_Bytes):=rfl
theorem raw_isn(a:List Int):i_field_Element_IsNegative.raw C_field_Element_IsNegative 0 [a]= [IntKind.i64.wrap (binD .and .u8 (((s_field_Element_Bytes.pr 0).den [a]).getD 0 0) 1)]:=by
 have ht:=l_isn
 unfold isnT at ht
 split at ht
 ·rename_i n1 f n2 x c n3 y d hl
  simp only[baE] at ht
  obtain⟨⟨⟨⟨t1,t2⟩,t3⟩,t4⟩,t5⟩:=ht
  have t1:=nbE t1
  have t2:=nbE t2
  have t3:=nbE t3
  have t4:=nbE t4
  have t5:=nbE t5
  subst t1; subst t2; subst t3; subst t4; subst t5
  obtain⟨ρ,h1,h2,h3⟩:=linR_ok hl [a]
  have e0:ρ 0= [a].getD 0 []:=h1 0 (by decide)
  have e34:=h2 _ lmS
  have e82:=h2 _ (lmM _ lmS)
  have e98:=h2 _ (lmM _ (lmM _ lmS))
  simp only[Def.den,List.map_cons,List.map_nil,Arg.den,X.den] at e34 e82 e98
  rw[e0,fn_den lk_isB] at e34
  rw[h3 0 _ rfl]
  simp only[List.map_cons,List.map_nil,X.den]
  rw[e98,e82]
  have e34':ρ x=(s_field_Element_Bytes.pr 0).den [a]:=e34
  rw[← e34']
  rfl
 ·cases ht
theorem pr_isn:s_field_Element_IsNegative.pr 0= .i fun a=>d1 (i_field_Element_IsNegative.raw C_field_Element_IsNegative 0 a):=rfl
theorem byte_and1{b:Int}(h:0≤b∧b≤255):IntKind.i64.wrap (binD .and .u8 b 1)=b%2:=by
 obtain⟨n,rfl⟩:=Int.eq_ofNat_of_zero_le h.1
 have hn:n<256:=by omega
 have:∀ m:Nat,m<256→IntKind.i64.wrap (binD .and .u8 (m:Int) 1)=(m:Int)%2:=by decide +kernel
 exact this n hn
theorem kf_isn{T:Tb}(h:lk 182 T=some (.one s_field_Element_IsNegative)):KF.Ok T 182 .isn:=fun a x ha=>by
 refine⟨pay_one h trivial,?_⟩
 rw[gv_one h,pr_isn]
 have ga:=(byt_gv lk_isB ha).2
 rw[gv_one lk_isB] at ga
 show [d1 (i_field_Element_IsNegative.raw C_field_Element_IsNegative 0 [a])]=_
 rw[raw_isn,d1_one]
 generalize (s_field_Element_Bytes.pr 0).den [a]=A at *
 match A,ga with
 |b::r,ga=>
  have hb:=ga.2.1 b lmS
  have h3:=ga.2.2
  simp only[leV] at h3
  rw[List.getD_cons_zero,byte_and1 hb]
  unfold b01w
  congr 1
  have h4:b%2=((x.val%2:Nat):Int):=by omega
  rw[h4]
  rcases Nat.mod_two_eq_zero_or_one x.val with e|e<;>rw[e]<;>rfl
theorem t_abs:bkFn (tfF [(119,.neg),(182,.isn),(120,.sel)]) noO i_field_Element_Absolute C_field_Element_Absolute [none,some (fb [.v 0])]=some [[absX (.v 0)].map fun e=>.a 5 e]:=by kernel_rfl
theorem kf_abs{T:Tb}(h:lk 162 T=some (.one s_field_Element_Absolute)):KF.Ok T 162 .abs:=fun v a x ha=>by
 have hp:=ptFn (.cons (kf_neg rfl) (.cons (kf_isn rfl) (.cons (kf_sel rfl) .nil))) t_abs rfl ⟨fun _=>x,fun _=>false⟩ (ins:= [v,a]) (.no (.yes (FsR.bl (es:= [.v 0]) rfl ⟨a,[],by simp,ha,rfl⟩) .nil))
 refine⟨pay_one h trivial,?_⟩
 rw[gv_one h]
 show feR _ (fixL 5 (i_field_Element_Absolute.raw C_field_Element_Absolute 0 [v,a]))
 obtain⟨u,w,g1,g2,g3⟩:=hp.2
 have hw:w= []:=g3
 rw[hw,List.append_nil] at g1
 rw[g1,fixL_id g2.1.1]
 have g2':feR (bif Nat.beq (x.val%2) 1 then fpI 0-x else x) u:=g2
 rw[fpI_zero] at g2'
 exact g2'
def M_sqr:List (Nat×KF):= [(112,.sq),(115,.mul),(160,.pw eP),(119,.neg),(161,.eqf),(120,.sel),(162,.abs)]
theorem t_sqr:bkFn (tfF M_sqr) noO i_field_Element_SqrtRatio C_field_Element_SqrtRatio [none,some (fb [.v 0]),some (fb [.v 1])]=some [[.a 5 (absX (sqX (.v 0) (.v 1)))],[.a 1 (sqF (.v 0) (.v 1))]]:=by kernel_rfl
theorem pr_sqr0:s_field_Element_SqrtRatio.pr 0= .l fun a=>fixL 5 (i_field_Element_SqrtRatio.raw C_field_Element_SqrtRatio 0 a):=rfl
theorem pr_sqr2:s_field_Element_SqrtRatio.pr 2= .i fun a=>d1 (i_field_Element_SqrtRatio.raw C_field_Element_SqrtRatio 1 a):=rfl
theorem kf_sqr{T:Tb}(h:lk 118 T=some (.one s_field_Element_SqrtRatio)):KF.Ok T 118 .sqr:=fun v a b x y ha hb=>by
 have hM:MF C_field_Element_SqrtRatio.T M_sqr:=.cons (kf_sq rfl) (.cons (kf_mul rfl) (.cons (kf_pow rfl) (.cons (kf_neg rfl) (.cons (kf_equal rfl) (.cons (kf_sel rfl) (.cons (kf_abs rfl) .nil))))))
 have hin:InB (γF (FX.v2 x y)) [none,some (fb [.v 0]),some (fb [.v 1])] [v,a,b]:=.no (.yes (FsR.bl (es:= [.v 0]) rfl ⟨a,[],by simp,ha,rfl⟩) (.yes (FsR.bl (es:= [.v 1]) rfl ⟨b,[],by simp,hb,rfl⟩) .nil))
 have hp:=bkFn_ok (i:=i_field_Element_SqrtRatio) (C:=C_field_Element_SqrtRatio) (γF (FX.v2 x y)) (tfF_ok hM (FX.v2 x y)) (fun ds=>noO_ok ds) t_sqr hin.get
 obtain⟨ρe,_,hr⟩:=hp.2
 refine⟨pay_one h hp.1,?_,?_⟩
 ·rw[gv_one h,pr_sqr0]
  obtain⟨u,w,g1,g2,g3⟩:=FsR.of (es:= [absX (sqX (.v 0) (.v 1))]) rfl (hr 0 _ rfl)
  have hw:w= []:=g3
  rw[hw,List.append_nil] at g1
  show feR _ (fixL 5 (i_field_Element_SqrtRatio.raw C_field_Element_SqrtRatio 0 [v,a,b]))
  rw[g1,fixL_id g2.1.1]
  exact g2
 ·rw[gv_one h,pr_sqr2]
  obtain⟨u,w,g1,g2,g3⟩:=hr 1 _ rfl
  have hw:w= []:=g3
  rw[hw,List.append_nil] at g1
  show [d1 (i_field_Element_SqrtRatio.raw C_field_Element_SqrtRatio 1 [v,a,b])]=_
  rw[g1,γF_b g2.2 rfl]
  rfl
end Go.Proofs.YtloibefkijfdlaaGreatDoor
