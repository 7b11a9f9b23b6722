/- ScalarBaseMult gives a point. A point's bytes: nothing is owed. -/
import Derived.Test.YtloibefkijfdlaaGreatDoorPt4
namespace Go.Proofs.YtloibefkijfdlaaGreatDoor
open Go Ma
theorem len_bpt:((tabs .pa 8 32 1).map (·.1)).sum=3840:=by decide +kernel
theorem pr_bpt0:(i_edwards25519_basepointTable.sumP C_edwards25519_basepointTable).pr 0= .l fun a=>fixL (List.replicate 3840 IntKind.u64).length (i_edwards25519_basepointTable.raw C_edwards25519_basepointTable 0 a):=by kernel_rfl
theorem pr_bpt:(i_edwards25519_basepointTable.sumP C_edwards25519_basepointTable).pr 0= .l fun a=>fixL 3840 (i_edwards25519_basepointTable.raw C_edwards25519_basepointTable 0 a):=by
 rw[pr_bpt0,List.length_replicate]
theorem kp_bpt{T:Tb}{d:Nat→Int}{s:List Int}(h:lk 146 T=some (.one s_edwards25519_basepointTable)):KP.Ok T 146 ⟨ptB,ptB,d,s⟩ .tab32:=by
 obtain⟨h1,ρe,h2⟩:=gpOk (i:=i_edwards25519_basepointTable) (C:=C_edwards25519_basepointTable) (ρ:=⟨ptB,ptB,d,s⟩) (n:=3840) (M:=M_bpt) (b:=asBk (tabs .pa 8 32 1)) h pr_bpt (.cons (kp_gen rfl) (.cons (kp_tabA rfl) (.cons (kp_add3 rfl) .nil))) t_bpt (ins:= []) .nil .nil (fun p hp=>by cases hp) (fun ρe l h=>(bls_len (bks_bls h)).trans len_bpt)
 exact⟨h1,tabs_of (ρ:=⟨ptB,ptB,d,s⟩) (bks_bls h2)⟩
theorem pay_of{T:Tb}{f:Nat}{i:FnI}{C:Cx}{ins:List (List Int)}{A B:Int→Prop}(hs:lk f T=some (.one (i.sumP C)))(h:∃ m,A m∧evOb C.T (i.tree C) (insE ins)∧B m):Pay T f ins∧∃ m,A m∧B m:=by
 obtain⟨m,h1,h2,h3⟩:=h
 exact⟨⟨⟨_,hs,h2⟩⟩,m,h1,h3⟩
theorem pr_r16:s_edwards25519_Scalar_signedRadix16.pr 0= .l fun a=>fixL 64 (i_edwards25519_Scalar_signedRadix16.raw C_edwards25519_Scalar_signedRadix16 0 a):=rfl
noncomputable def dgOf(x:List Int)(k:Nat):Int:=(i_edwards25519_Scalar_signedRadix16.raw C_edwards25519_Scalar_signedRadix16 0 [x]).getD k 0
theorem dg_bd{l:List Int}(h3:l.length=64)(h4:∀ d∈l,-8≤d∧d≤8){k:Nat}(hk:k<64): -8≤l.getD k 0∧l.getD k 0≤8:=by
 have hlt:k<l.length:=by omega
 have:=h4 _ (List.getElem_mem hlt)
 rw[List.getD,lgE hlt]
 exact this
theorem kp_rad_of{T:Tb}{f n:Nat}{P Q:Pt}{d:Nat→Int}{s:List Int}(hp:Pay T f [s])(hd:DgsR d n (gv T f 0 [s])):KP.Ok T f ⟨P,Q,d,s⟩ (.rad n):=⟨hp,hd⟩
theorem dgs_of{f:Nat→Int}{n:Nat}{l:List Int}(h:l=(List.range n).map f)(h2:∀ k,k<n→ -8≤f k∧f k≤8):DgsR f n l:=⟨h,h2⟩
theorem kp_rad{T:Tb}{x:List Int}(hx:u4 x)(h:lk 147 T=some (.one s_edwards25519_Scalar_signedRadix16)):KP.Ok T 147 ⟨ptB,ptB,dgOf x,x⟩ (.rad 64):=by
 have hq:=pay_of (i:=i_edwards25519_Scalar_signedRadix16) (C:=C_edwards25519_Scalar_signedRadix16) h (r16_raw hx)
 have hp:=hq.1
 obtain⟨m,h1,h3,h4,h5⟩:=hq.2
 have e:gv T 147 0 [x]=i_edwards25519_Scalar_signedRadix16.raw C_edwards25519_Scalar_signedRadix16 0 [x]:=by
  rw[gv_one' h,pr_r16]
  exact fixL_id h3
 have hd:DgsR (dgOf x) 64 (gv T 147 0 [x]):=by
  rw[e]
  exact dgs_of (range_id2 h3).symm (fun k hk=>dg_bd h3 h4 hk)
 exact kp_rad_of hp hd
theorem sbm_ok{T:Tb}(h:lk 105 T=some (.one s_edwards25519_Point_ScalarBaseMult)){v x:List Int}(hx:u4 x):Pay T 105 [v,x]∧∃ P,R3 P (gv T 105 0 [v,x]):=by
 have ht:=t_sbm
 unfold sbmT at ht
 split at ht
 ·rename_i z hz
  have hM:MG C_edwards25519_Point_ScalarBaseMult.T ⟨ptB,ptB,dgOf x,x⟩ M_sbm:=.cons (kp_bpt rfl) (.cons (kp_rad hx rfl) (.cons (kp_idp rfl) (.cons (kp_set3 rfl) (.cons (kp_selTab rfl) (.cons (kp_addA rfl) (.cons (kp_3of11 rfl) (.cons (kp_2of3 rfl) (.cons (kp_dbl rfl) (.cons (kp_2of11 rfl) .nil)))))))))
  have hI:InB (γG ⟨ptB,ptB,dgOf x,x⟩) [none,some [(4,.sc)]] [v,x]:=.no (.yes ⟨x,[],by simp,hx.1,rfl,rfl⟩ .nil)
  obtain⟨h1,ρe,h2⟩:=gpOk (i:=i_edwards25519_Point_ScalarBaseMult) (C:=C_edwards25519_Point_ScalarBaseMult) (ρ:=⟨ptB,ptB,dgOf x,x⟩) (n:=20) (M:=M_sbm) (b:= [.a 20 (.pt .p3 z)]) h rfl hM hz (ins:= [v,x]) (.no (.no .nil)) hI (fun p hp=>by cases hp) (fun ρe l h=>RR.len (r:=.p3) (gp1 h))
  exact⟨h1,_,gp1 h2⟩
 ·cases ht
end Go.Proofs.YtloibefkijfdlaaGreatDoor

namespace Go.Proofs.YtloibefkijfdlaaGreatDoor
open Go Ma
def M_ptb:List (Nat×KF):= [(180,.pw eI),(115,.mul),(182,.isn)]
theorem t_ptb:(bkFnC (tfF M_ptb) nmF (i_edwards25519_Point_Bytes.tree C_edwards25519_Point_Bytes) C_edwards25519_Point_Bytes i_edwards25519_Point_Bytes.s0 i_edwards25519_Point_Bytes.rvs [none] [some (fb [.v 0,.v 1,.v 2,.v 3])] [(0,0)]).isSome=true:=by kernel_rfl
theorem fpPay{T:Tb}{f:Nat}{M:List (Nat×KF)}{i:FnI}{C:Cx}{ρ:FV}{kin:List (Option (List Int))}{bin:List (Option (List (Nat×FX)))}{pts:List PN}(hs:lk f T=some (.one (i.sumP C)))(hM:MF C.T M)(h:(bkFnC (tfF M) nmF (i.tree C) C i.s0 i.rvs kin bin pts).isSome=true){ins:List (List Int)}(hk:InK kin ins)(hin:InB (γF ρ) bin ins)(hp:∀ p∈pts,¬(zero5 (ins.getD p.1 []) p.2∧zero5 (ins.getD p.1 []) (p.2+5))):Pay T f ins:=by
 obtain⟨r,hr⟩:=Option.isSome_iff_exists.1 h
 have:=bkFnC_ok (γ:=γF ρ) nmF_ok (tfF_ok hM ρ) hr hk hin hp
 exact⟨⟨_,hs,this.1⟩⟩
theorem ptb_pay{T:Tb}(h:lk 104 T=some (.one s_edwards25519_Point_Bytes)){P:Pt}{l:List Int}(hP:R3 P l):Pay T 104 [l]:=by
 have hz:=r3_nz hP
 obtain⟨X,Y,Z,U,hl,_⟩:=hP
 exact fpPay (M:=M_ptb) (i:=i_edwards25519_Point_Bytes) (C:=C_edwards25519_Point_Bytes) (ρ:=⟨fun n=> [X,Y,Z,U].getD n 0,fun _=>false⟩) h (.cons (kf_inv rfl) (.cons (kf_mul rfl) (.cons (kf_isn rfl) .nil))) t_ptb (ins:= [l]) (.no .nil) (.yes (FsR.bl rfl hl) .nil) (fun p hp=>by
  rw[List.mem_singleton] at hp
  subst hp
  exact hz)
end Go.Proofs.YtloibefkijfdlaaGreatDoor
