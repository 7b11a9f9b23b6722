/- Scalars: products and sums modulo the order, in the form of Montgomery. -/
import Derived.Test.YtloibefkijfdlaaGreatDoorSd
namespace Go.Proofs.YtloibefkijfdlaaGreatDoor
open Go
def hP(s:CS):Option X→Poly×Bool
 |none=>(pcon 0,true)
 |some x=>match s.x x with
  |some a=>(a.p,ileB 0 a.lo)
  |none=>(pcon 0,false)
theorem hP_ok{ρ:Env}{s:CS}(hs:CSOk ρ s){o:Option X}(h:(hP s o).2=true):0≤pev ρ (hP s o).1:=by
 cases o with
 |none=>exact Int.le_of_eq (pcon_ev ρ 0).symm
 | some x=>
  unfold hP at h ⊢
  cases hx:s.x x with
  |none=>simp only[hx] at h; cases h
  |some a=>
   simp only[hx] at h ⊢
   have h1:=CS.x_ok hs hx
   rw[← h1.1]
   exact Int.le_trans (ileB_le h) h1.2.1
def tP(s:CS)(t:Nat×Nat×Nat×Nat):Poly:=p4 (gx s t.1).p (gx s t.2.1).p (gx s t.2.2.1).p (gx s t.2.2.2).p
def tB(s:CS)(t:Nat×Nat×Nat×Nat):Bool:=ge64 s t.1&&ge64 s t.2.1&&ge64 s t.2.2.1&&ge64 s t.2.2.2
theorem tB_ok{ρ:Env}{s:CS}(hs:CSOk ρ s){t:Nat×Nat×Nat×Nat}(h:tB s t=true):0≤pev ρ (tP s t)∧pev ρ (tP s t)<z256:=by
 simp only[tB,baE] at h
 have a1:=ge64_ok hs h.1.1.1
 have a2:=ge64_ok hs h.1.1.2
 have a3:=ge64_ok hs h.1.2
 have a4:=ge64_ok hs h.2
 simp only[tP,p4,padd_ev,psmul_ev]
 unfold z256
 omega
def frU(s:CS)(t u:Nat×Nat×Nat×Nat)(h:Option X)(c:Nat)(r:List AV):Bool:=
 let c0:=patm (enc u.2.2.2 1 0)
 let c1:=patm (enc c 1 0)
 (pdvd 0 (padd (tP s u) (psmul (-1) (padd (tP s t) (padd (pcon (-scL)) (psmul z256 c0))))) &&
 pdvd 0 (padd (gx s c).p (psmul (-1) (padd (hP s h).1 (padd (psmul (-1) c0) (psmul 18446744073709551616 c1))))) &&
 (match r with
 | [r0,r1,r2,r3]=>pdvd 0 (padd (p4 r0.p r1.p r2.p r3.p) (psmul (-1) (padd (tP s u) (pmul [] c1 (padd (tP s t) (psmul (-1) (tP s u)))))))&&((ileB 0 r0.lo&&ileB r0.hi 18446744073709551615)&&(ileB 0 r1.lo&&ileB r1.hi 18446744073709551615)&&(ileB 0 r2.lo&&ileB r2.hi 18446744073709551615)&&(ileB 0 r3.lo&&ileB r3.hi 18446744073709551615))
 |_=>false))&&(tB s t&&tB s u&&(hP s h).2&&(ge64 s c&&bit1 s c&&bit1 s u.2.2.2))
theorem frU_ok{ρ:Env}{s:CS}(hs:CSOk ρ s){t u:Nat×Nat×Nat×Nat}{h:Option X}{c:Nat}{r:List AV}(ht:frU s t u h c r=true){l:List Int}(hl:AVs ρ l r){N:Int}(hN:N=pev ρ (tP s t)+z256*pev ρ (hP s h).1)(h2:N<2*scL):
  u4 l∧0≤v4 l∧v4 l<scL∧scL ∣ v4 l-N:=by
 unfold frU at ht
 simp only[baE] at ht
 obtain⟨⟨⟨t1,t2⟩,t4⟩,⟨⟨b1,b2⟩,b3⟩,⟨d1,d2⟩,d3⟩:=ht
 split at t4
 ·rename_i r0 r1 r2 r3
  simp only[baE] at t4
  obtain⟨t4,⟨⟨e0,e1⟩,e2⟩,e3⟩:=t4
  obtain⟨x0,x1,x2,x3,rfl,g0,g1,g2,g3⟩:=hl.four
  have q1:=pz (ρ:=ρ) t1
  have q2:=pz (ρ:=ρ) t2
  have q4:=pz (ρ:=ρ) t4
  have b1:=tB_ok hs b1
  have b2:=tB_ok hs b2
  have b3:=hP_ok hs b3
  have d1:=ge64_ok hs d1
  have d2:=bit_ok1 hs d2
  have d3:=bit_ok1 hs d3
  have rb:∀ {a:AV} {x:Int},a.ok ρ x→(ileB 0 a.lo=true∧ileB a.hi 18446744073709551615=true)→0≤x∧x≤18446744073709551615:=fun ha hb=>by
   exact⟨Int.le_trans (ileB_le hb.1) ha.2.1,Int.le_trans ha.2.2.1 (ileB_le hb.2)⟩
  have f0:=rb g0 e0
  have f1:=rb g1 e1
  have f2:=rb g2 e2
  have f3:=rb g3 e3
  simp only[padd_ev,psmul_ev,pcon_ev,pev_mul] at q1 q2 q4
  simp only[p4,padd_ev,psmul_ev, ← g0.1, ← g1.1, ← g2.1, ← g3.1] at q4
  refine⟨⟨rfl,fun k hk=> ?_⟩,?_⟩
  ·match k,hk with
   |0,_=>exact f0
   |1,_=>exact f1
   |2,_=>exact f2
   |3,_=>exact f3
  ·unfold v4
   simp only[List.getD_cons_zero,List.getD_cons_succ]
   unfold scL z256 at *
   generalize pev ρ (tP s t)=T at *
   generalize pev ρ (tP s u)=S at *
   generalize pev ρ (hP s h).1=H at *
   generalize pev ρ (patm (enc c 1 0))=cc at *
   generalize pev ρ (patm (enc u.2.2.2 1 0))=c0 at *
   generalize pev ρ (gx s c).p=cw at *
   have hH:H=0:=by omega
   have hcc:cc=0∨cc=1:=by omega
   rcases hcc with rfl|rfl
   ·rw[Int.zero_mul,Int.add_zero] at q4
    exact⟨by omega,by omega,⟨-1,by omega⟩⟩
   ·rw[Int.one_mul] at q4
    exact⟨by omega,by omega,⟨0,by omega⟩⟩
 ·cases t4
def frX(s:CS)(q t:Nat×Nat×Nat×Nat)(h:Option X)(X:Poly):Bool:=
 pdvd 0 (padd (psmul z256 (padd (tP s t) (psmul z256 (hP s h).1))) (psmul (-1) (padd X (psmul scL (tP s q)))))&&tB s q
theorem frX_ok{ρ:Env}{s:CS}(hs:CSOk ρ s){q t u:Nat×Nat×Nat×Nat}{h:Option X}{c:Nat}{X:Poly}{r:List AV}(hx:frX s q t h X=true)(ht:frU s t u h c r=true){l:List Int}(hl:AVs ρ l r)(hX:pev ρ X<scL*z256):
  u4 l∧0≤v4 l∧v4 l<scL∧(scL ∣ v4 l*z256-pev ρ X):=by
 simp only[frX,baE] at hx
 have q1:=pz (ρ:=ρ) hx.1
 have q2:=tB_ok hs hx.2
 simp only[padd_ev,psmul_ev] at q1
 have hN:pev ρ (tP s t)+z256*pev ρ (hP s h).1<2*scL:=by
  unfold scL z256 at *
  omega
 obtain⟨h1,h2,h3,k,hk⟩:=frU_ok hs ht hl rfl hN
 refine⟨h1,h2,h3,⟨pev ρ (tP s q)+z256*k,?_⟩⟩
 generalize v4 l=v at *
 generalize pev ρ (tP s t)+z256*pev ρ (hP s h).1=N at *
 rw[Int.mul_add,Int.mul_left_comm]
 have:v=N+scL*k:=by omega
 rw[this,Int.add_mul,Int.mul_comm N,Int.mul_comm (scL*k)]
 omega
theorem t_mu:(match ckFnS i_edwards25519_fiatScalarMul C_edwards25519_fiatScalarMul M_fs [[],bU4,bU4] with
 |some (s,[r])=>frX s (1767,5639,9575,13511) (14454,14630,14806,14982) (some (.v 15110 0)) (pmul [] (in4 1) (in4 2))&&frU s (14454,14630,14806,14982) (15190,15350,15510,15670) (some (.v 15110 0)) 15814 r
 |_=>false)=true:=by kernel_rfl
def r2C:Int:=1627715501170711445284395025044413883736156588369414752970002579683115011841
theorem t_tm:(match ckFnS i_edwards25519_fiatScalarToMontgomery C_edwards25519_fiatScalarToMontgomery M_fs [[],bU4] with
 |some (s,[r])=>frX s (1445,4709,8005,11301) (12180,12388,12564,12788) none (psmul r2C (in4 1))&&frU s (12180,12388,12564,12788) (12868,13028,13188,13348) none 13476 r
 |_=>false)=true:=by kernel_rfl
theorem t_ad:(match ckFnS i_edwards25519_fiatScalarAdd C_edwards25519_fiatScalarAdd M_cm [[],bU4,bU4] with
 |some (s,[r])=>pdvd 0 (padd (padd (tP s (166,438,710,982)) (psmul z256 (hP s (some (.v 982 1))).1)) (psmul (-1) (padd (in4 1) (in4 2))))&&frU s (166,438,710,982) (1126,1286,1446,1606) (some (.v 982 1)) 1750 r
 |_=>false)=true:=by kernel_rfl
structure uL (l:List Int):Prop where
 u:u4 l
 lt:v4 l<scL
theorem mul_raw{v a b:List Int}(ha:uL a)(hb:u4 b):uL (i_edwards25519_fiatScalarMul.raw C_edwards25519_fiatScalarMul 0 [v,a,b])∧(scL ∣ v4 (i_edwards25519_fiatScalarMul.raw C_edwards25519_fiatScalarMul 0 [v,a,b])*z256-v4 a*v4 b):=by
 have ht:=t_mu
 split at ht
 ·rename_i s r hr
  simp only[baE] at ht
  obtain⟨_,ρ,h1,hS,h2⟩:=ckFnS_ok (M_fs_ok rfl rfl) hr (ins:= [v,a,b]) (bnd_no v (bnd_4 ha.u (bnd_4 hb (bnd_nil _))))
  have hX:pev ρ (pmul [] (in4 1) (in4 2))=v4 a*v4 b:=by
   rw[pev_mul,in4_ev ρ (h1 1 (by decide)),in4_ev ρ (h1 2 (by decide))]
   rfl
  have a1:=v4_bd ha.u
  have b1:=v4_bd hb
  have hlt:v4 a*v4 b<scL*z256:=by
   have h3:v4 a*v4 b≤(scL-1)*v4 b:=Int.mul_le_mul_of_nonneg_right (by have:=ha.lt; omega) b1.1
   have h4:(scL-1)*v4 b≤(scL-1)*z256:=Int.mul_le_mul_of_nonneg_left (by omega) (by decide)
   have h5:(scL-1)*z256<scL*z256:=by decide
   omega
  rw[← hX] at hlt ⊢
  obtain⟨k1,k2,k3,k4⟩:=frX_ok hS ht.1 ht.2 (h2 0 r rfl) hlt
  exact⟨⟨k1,k3⟩,k4⟩
 ·cases ht
theorem tom_raw{v a:List Int}(ha:u4 a):uL (i_edwards25519_fiatScalarToMontgomery.raw C_edwards25519_fiatScalarToMontgomery 0 [v,a])∧(scL ∣ v4 (i_edwards25519_fiatScalarToMontgomery.raw C_edwards25519_fiatScalarToMontgomery 0 [v,a])*z256-r2C*v4 a):=by
 have ht:=t_tm
 split at ht
 ·rename_i s r hr
  simp only[baE] at ht
  obtain⟨_,ρ,h1,hS,h2⟩:=ckFnS_ok (M_fs_ok rfl rfl) hr (ins:= [v,a]) (bnd_no v (bnd_4 ha (bnd_nil _)))
  have hX:pev ρ (psmul r2C (in4 1))=r2C*v4 a:=by
   rw[psmul_ev,in4_ev ρ (h1 1 (by decide))]
   rfl
  have a1:=v4_bd ha
  have hlt:r2C*v4 a<scL*z256:=by
   unfold r2C scL z256 at *
   omega
  rw[← hX] at hlt ⊢
  obtain⟨k1,k2,k3,k4⟩:=frX_ok hS ht.1 ht.2 (h2 0 r rfl) hlt
  exact⟨⟨k1,k3⟩,k4⟩
 ·cases ht
theorem add_raw{v a b:List Int}(ha:uL a)(hb:uL b):uL (i_edwards25519_fiatScalarAdd.raw C_edwards25519_fiatScalarAdd 0 [v,a,b])∧(scL ∣ v4 (i_edwards25519_fiatScalarAdd.raw C_edwards25519_fiatScalarAdd 0 [v,a,b])-(v4 a+v4 b)):=by
 have ht:=t_ad
 split at ht
 ·rename_i s r hr
  simp only[baE] at ht
  obtain⟨_,ρ,h1,hS,h2⟩:=ckFnS_ok (M_cm_ok rfl) hr (ins:= [v,a,b]) (bnd_no v (bnd_4 ha.u (bnd_4 hb.u (bnd_nil _))))
  have q:=pz (ρ:=ρ) ht.1
  simp only[padd_ev,psmul_ev] at q
  rw[in4_ev ρ (h1 1 (by decide)),in4_ev ρ (h1 2 (by decide))] at q
  change _=v4 a+v4 b at q
  have:=ha.lt
  have:=hb.lt
  obtain⟨k1,k2,k3,k4⟩:=frU_ok hS ht.2 (h2 0 r rfl) (N:=v4 a+v4 b) (by omega) (by omega)
  exact⟨⟨k1,k3⟩,k4⟩
 ·cases ht
def leQ(j:Nat):Nat→Nat→Poly
 |0,_=> []
 |n+1,k=>padd (patm (enc j k 0)) (psmul 256 (leQ j n (k+1)))
theorem leQ_ev{ρ:Env}{j:Nat}{l:List Int}(h:ρ j=l):∀ (n k:Nat),k+n≤4096→l.length=k+n→pev ρ (leQ j n k)=leV (l.drop k)
 |0,k,_,hl=>by
  rw[List.drop_of_length_le (by omega)]
  rfl
 |n+1,k,hk,hl=>by
  unfold leQ
  rw[padd_ev,psmul_ev,patm_ev,αv_enc0 ρ (by omega),leQ_ev h n (k+1) (by omega) (by omega),h,List.drop_eq_getElem_cons (by omega:k<l.length)]
  simp only[leV]
  rw[show l.getD k 0=l[k] by simp[List.getD,show k<l.length by omega]]
theorem t_fb:(match ckFn i_edwards25519_fiatScalarFromBytes C_edwards25519_fiatScalarFromBytes [] [[],bY32] with
 |some [[r0,r1,r2,r3]]=>pdvd 0 (padd (p4 r0.p r1.p r2.p r3.p) (psmul (-1) (leQ 1 32 0)))
 |_=>false)=true:=by kernel_rfl
theorem fb_raw{v a:List Int}(ha:by8 a)(hl:a.length=32):v4 (i_edwards25519_fiatScalarFromBytes.raw C_edwards25519_fiatScalarFromBytes 0 [v,a])=leV a:=by
 have ht:=t_fb
 split at ht
 ·rename_i r0 r1 r2 r3 hr
  obtain⟨_,ρ,h1,h2⟩:=ckFn_ok (fun f κ h=>by cases h) hr (ins:= [v,a]) (bnd_no v (bnd_y (by omega) ha hl (bnd_nil _)))
  have hA:=h2 0 _ rfl
  obtain⟨x0,x1,x2,x3,e,g0,g1,g2,g3⟩:=hA.four
  have q:=pz (ρ:=ρ) ht
  simp only[p4,padd_ev,psmul_ev, ← g0.1, ← g1.1, ← g2.1, ← g3.1] at q
  have hP:pev ρ (leQ 1 32 0)=leV a:=by
   have:=leQ_ev (h1 1 (by decide)) 32 0 (by omega) (by show a.length=_; omega)
   exact this
  rw[hP] at q
  rw[e]
  unfold v4
  simp only[List.getD_cons_zero,List.getD_cons_succ]
  omega
 ·cases ht
end Go.Proofs.YtloibefkijfdlaaGreatDoor
