/- Scalars: results are words. Scalars that are set from bytes are words. -/
import Derived.Test.YtloibefkijfdlaaGreatDoorBk6
import Derived.Test.YtloibefkijfdlaaGreatDoorSc
namespace Go.Proofs.YtloibefkijfdlaaGreatDoor
open Go
def u4T(r:Option (List (List AV))):Bool:=match r with
 |some [d]=>Nat.beq d.length 4&&d.all fun a=>ileB 0 a.lo&&ileB a.hi 18446744073709551615
 |_=>false
theorem u4Fn{i:FnI}{C:Cx}{M:List (Nat×FK)}(hM:MOkF C.T M){bnds:List (List (Int×Int))}(h:u4T (ckFn i C M bnds)=true){ins:List (List Int)}(hb:BndOk bnds ins):u4 (i.raw C 0 ins):=by
 unfold u4T at h
 split at h
 ·rename_i d hd
  simp only[baE] at h
  have h4:=nbE h.1
  obtain⟨_,ρ,_,h3⟩:=ckFn_ok hM hd hb
  have hA:=h3 0 d rfl
  refine⟨hA.1.trans h4,fun k hk=> ?_⟩
  have h1:k<(i.raw C 0 ins).length:=by rw[hA.1]; omega
  have h2:k<d.length:=by omega
  have:=hA.2 k _ _ (lgE h1) (lgE h2)
  have hb:=List.all_eq_true.1 h.2 d[k] (List.getElem_mem h2)
  simp only[baE] at hb
  rw[List.getD,lgE h1]
  exact⟨Int.le_trans (ileB_le hb.1) this.2.1,Int.le_trans this.2.2.1 (ileB_le hb.2)⟩
 ·cases h
def bY32:List (Int×Int):=List.replicate 32 (0,255)
theorem t_fb4:u4T (ckFn i_edwards25519_fiatScalarFromBytes C_edwards25519_fiatScalarFromBytes [] [[],bY32])=true:=by kernel_rfl
theorem t_tm4:u4T (ckFn i_edwards25519_fiatScalarToMontgomery C_edwards25519_fiatScalarToMontgomery M_fs [[],bU4])=true:=by kernel_rfl
theorem t_mu4:u4T (ckFn i_edwards25519_fiatScalarMul C_edwards25519_fiatScalarMul M_fs [[],bU4,bU4])=true:=by kernel_rfl
end Go.Proofs.YtloibefkijfdlaaGreatDoor

namespace Go.Proofs.YtloibefkijfdlaaGreatDoor
open Go
theorem bnd_y{n:Nat}(hn:n≤4096){bnds:List (List (Int×Int))}{ins:List (List Int)}{x:List Int}(h:by8 x)(hl:x.length=n)(hb:BndOk bnds ins):BndOk (List.replicate n (0,255)::bnds) (x::ins):=
 bnd_one _ x ⟨by rw[List.length_replicate]; exact hn,fun k p hk=>by
  have hlt:k<n:=by have:=(List.getElem?_eq_some_iff.1 hk).1; simpa using this
  rw[List.getElem?_replicate,if_pos hlt,osE] at hk
  subst hk
  have h1:k<x.length:=by omega
  rw[List.getD,lgE h1]
  exact h _ (List.getElem_mem h1)⟩ hb
theorem u4fin{T:Tb}{f:Nat}{i:FnI}{C:Cx}(hs:lk f T=some (.one (i.sum C)))(ho:(i.sum C).pr 0= .l fun a=>fixL 4 (i.raw C 0 a)){ins:List (List Int)}(h:u4 (i.raw C 0 ins)):Pay T f ins∧u4 (gv T f 0 ins):=by
 refine⟨⟨⟨_,hs,trivial⟩⟩,?_⟩
 have e:gv T f 0 ins=i.raw C 0 ins:=by
  simp only[gv,DOp.den,hs]
  show ((i.sum C).pr 0).den ins=_
  rw[ho]
  exact fixL_id h.1
 rw[e]; exact h
theorem kw_fb{T:Tb}(h:lk 128 T=some (.one s_edwards25519_fiatScalarFromBytes)):KW.Ok T 128 (.yn 32):=fun v a ha hl=>
 u4fin (i:=i_edwards25519_fiatScalarFromBytes) (C:=C_edwards25519_fiatScalarFromBytes) h rfl (u4Fn (fun f κ h=>by cases h) t_fb4 (bnd_no v (bnd_y (by omega) ha hl (bnd_nil _))))
theorem kw_tm{T:Tb}(h:lk 129 T=some (.one s_edwards25519_fiatScalarToMontgomery)):KW.Ok T 129 .w1:=fun v _a ha=>
 u4fin (i:=i_edwards25519_fiatScalarToMontgomery) (C:=C_edwards25519_fiatScalarToMontgomery) h rfl (u4Fn (M_fs_ok rfl rfl) t_tm4 (bnd_no v (bnd_4 ha (bnd_nil _))))
def M_cm:List (Nat×FK):= [(174,.cmov)]
theorem M_cm_ok{T:Tb}(h2:lk 174 T=some (.one s_edwards25519_fiatScalarCmovznzU64)):MOkF T M_cm:=fun f κ h=>by
 simp only[M_cm,lk] at h
 cases hb2:Nat.beq 174 f with
 |true=>
  rw[hb2,cond_true,osE] at h
  have:=nbE hb2
  subst this; subst h
  exact fk_cmov h2
 |false=>rw[hb2] at h; cases h
theorem t_ad5:u4T (ckFn i_edwards25519_fiatScalarAdd C_edwards25519_fiatScalarAdd M_cm [[],bU4,bU4])=true:=by kernel_rfl
theorem kw_ad{T:Tb}(h:lk 168 T=some (.one s_edwards25519_fiatScalarAdd)):KW.Ok T 168 .w2:=fun v _a _b ha hb=>
 u4fin (i:=i_edwards25519_fiatScalarAdd) (C:=C_edwards25519_fiatScalarAdd) h rfl (u4Fn (M_cm_ok rfl) t_ad5 (bnd_no v (bnd_4 ha (bnd_4 hb (bnd_nil _)))))
theorem kw_mu{T:Tb}(h:lk 169 T=some (.one s_edwards25519_fiatScalarMul)):KW.Ok T 169 .w2:=fun v _a _b ha hb=>
 u4fin (i:=i_edwards25519_fiatScalarMul) (C:=C_edwards25519_fiatScalarMul) h rfl (u4Fn (M_fs_ok rfl rfl) t_mu4 (bnd_no v (bnd_4 ha (bnd_4 hb (bnd_nil _)))))
theorem fin_bk{T:Tb}{f:Nat}{M:List (Nat×KW)}{i:FnI}{C:Cx}{bin:List (Option (List (Nat×WX)))}(hs:lk f T=some (.one (i.sum C)))(ho:(i.sum C).pr 0= .l fun a=>fixL 4 (i.raw C 0 a))(hM:MW C.T M)(h:bkFn (tfW M) noO i C bin=some [[.a 4 .w]]){ins:List (List Int)}(hin:InB γW bin ins):Pay T f ins∧u4 (gv T f 0 ins):=
 u4fin hs ho (wFn hM h hin).2
def W4:List (Nat×WX):= [(4,.w)]
theorem w4_ok{l:List Int}(h:u4 l):BlsOk γW W4 l:=WX.c4 h
theorem kw_add{T:Tb}(h:lk 125 T=some (.one s_edwards25519_Scalar_Add)):KW.Ok T 125 .w2:=fun v a b ha hb=>
 fin_bk (M:= [(168,.w2)]) (i:=i_edwards25519_Scalar_Add) (C:=C_edwards25519_Scalar_Add) (bin:= [none,some W4,some W4]) h rfl (.cons (kw_ad rfl) .nil) (by kernel_rfl) (ins:= [v,a,b]) (.no (.yes (w4_ok ha) (.yes (w4_ok hb) .nil)))
theorem kw_mul{T:Tb}(h:lk 126 T=some (.one s_edwards25519_Scalar_Multiply)):KW.Ok T 126 .w2:=fun v a b ha hb=>
 fin_bk (M:= [(169,.w2)]) (i:=i_edwards25519_Scalar_Multiply) (C:=C_edwards25519_Scalar_Multiply) (bin:= [none,some W4,some W4]) h rfl (.cons (kw_mu rfl) .nil) (by kernel_rfl) (ins:= [v,a,b]) (.no (.yes (w4_ok ha) (.yes (w4_ok hb) .nil)))
def M_ss:List (Nat×KW):= [(128,.yn 32),(129,.w1)]
theorem kw_ss{T:Tb}(h:lk 124 T=some (.one s_edwards25519_Scalar_setShortBytes)):KW.Ok T 124 (.yn 21):=fun v a ha hl=>
 wOk (M:=M_ss) (i:=i_edwards25519_Scalar_setShortBytes) (C:=C_edwards25519_Scalar_setShortBytes) (bin:= [none,some (by1s 21)]) h rfl (.cons (kw_fb rfl) (.cons (kw_tm rfl) .nil)) (by kernel_rfl) (ins:= [v,a]) (.no (.yes (by1s_ok ha hl) .nil))
theorem kw_ss1{T:Tb}(h:lk (10000+124) T=some (.one s_edwards25519_Scalar_setShortBytes_v1)):KW.Ok T (10000+124) (.yn 22):=fun v a ha hl=>
 wOk (M:=M_ss) (i:=i_edwards25519_Scalar_setShortBytes_v1) (C:=C_edwards25519_Scalar_setShortBytes_v1) (bin:= [none,some (by1s 22)]) h rfl (.cons (kw_fb rfl) (.cons (kw_tm rfl) .nil)) (by kernel_rfl) (ins:= [v,a]) (.no (.yes (by1s_ok ha hl) .nil))
def M_su:List (Nat×KW):= [(124,.yn 21),(10000+124,.yn 22),(126,.w2),(125,.w2)]
theorem kw_su{T:Tb}(h:lk 99 T=some (.one s_edwards25519_Scalar_SetUniformBytes)):KW.Ok T 99 (.yn 64):=fun v a ha hl=>
 wOk (M:=M_su) (i:=i_edwards25519_Scalar_SetUniformBytes) (C:=C_edwards25519_Scalar_SetUniformBytes) (bin:= [none,some (by1s 64)]) h rfl (.cons (kw_ss rfl) (.cons (kw_ss1 rfl) (.cons (kw_mul rfl) (.cons (kw_add rfl) .nil)))) (by kernel_rfl) (ins:= [v,a]) (.no (.yes (by1s_ok ha hl) .nil))
theorem kw_cl{T:Tb}(h:lk 95 T=some (.one s_edwards25519_Scalar_SetBytesWithClamping)):KW.Ok T 95 (.yn 32):=fun v a ha hl=>
 wOk (M:= [(99,.yn 64)]) (i:=i_edwards25519_Scalar_SetBytesWithClamping) (C:=C_edwards25519_Scalar_SetBytesWithClamping) (bin:= [none,some (by1s 32)]) h rfl (.cons (kw_su rfl) .nil) (by kernel_rfl) (ins:= [v,a]) (.no (.yes (by1s_ok ha hl) .nil))
end Go.Proofs.YtloibefkijfdlaaGreatDoor
