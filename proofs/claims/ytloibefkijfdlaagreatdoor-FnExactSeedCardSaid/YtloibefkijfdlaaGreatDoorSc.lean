/- Scalars: out of the form of Montgomery, and as bytes. Scalars as bytes, and their digits. -/
import Derived.Test.YtloibefkijfdlaaGreatDoorDz
import Derived.Test.YtloibefkijfdlaaGreatDoorFeB
namespace Go.Proofs.YtloibefkijfdlaaGreatDoor
open Go
def scL:Int:=7237005577332262213973186563042994240857116359379907606001950938285454250989
def M_fs:List (Nat×FK):= [(172,.mul64),(174,.cmov)]
def b64:Int×Int:=(0,18446744073709551615)
def bU4:List (Int×Int):= [b64,b64,b64,b64]
def p4(a b c d:Poly):Poly:=padd a (padd (psmul 18446744073709551616 b) (padd (psmul 340282366920938463463374607431768211456 c) (psmul 6277101735386680763835789423207666416102355444464034512896 d)))
def z256:Int:=115792089237316195423570985008687907853269984665640564039457584007913129639936
def in4(j:Nat):Poly:=p4 (patm (enc j 0 0)) (patm (enc j 1 0)) (patm (enc j 2 0)) (patm (enc j 3 0))
def ge64(s:CS)(n:Nat):Bool:=ileB 0 (gx s n).lo&&ileB (gx s n).hi 18446744073709551615
def bit1(s:CS)(n:Nat):Bool:=match s.x (.v n 1) with
 |some a=>ileB 0 a.lo&&ileB a.hi 1
 |none=>false
def frT(s:CS)(q t u:Nat×Nat×Nat×Nat)(c:Nat)(X:Poly)(r:List AV):Bool:=
 let Q:=p4 (gx s q.1).p (gx s q.2.1).p (gx s q.2.2.1).p (gx s q.2.2.2).p
 let T:=p4 (gx s t.1).p (gx s t.2.1).p (gx s t.2.2.1).p (gx s t.2.2.2).p
 let S:=p4 (gx s u.1).p (gx s u.2.1).p (gx s u.2.2.1).p (gx s u.2.2.2).p
 let c0:=patm (enc u.2.2.2 1 0)
 let c1:=patm (enc c 1 0)
 ((pdvd 0 (padd (psmul z256 T) (psmul (-1) (padd X (psmul scL Q)))) &&
 pdvd 0 (padd S (psmul (-1) (padd T (padd (pcon (-scL)) (psmul z256 c0)))))) &&
 (pdvd 0 (padd (gx s c).p (psmul (-1) (padd (psmul (-1) c0) (psmul 18446744073709551616 c1)))) &&
 (match r with
 | [r0,r1,r2,r3]=>pdvd 0 (padd (p4 r0.p r1.p r2.p r3.p) (psmul (-1) (padd S (pmul [] c1 (padd T (psmul (-1) S))))))&&((ileB 0 r0.lo&&ileB r0.hi 18446744073709551615)&&(ileB 0 r1.lo&&ileB r1.hi 18446744073709551615)&&(ileB 0 r2.lo&&ileB r2.hi 18446744073709551615)&&(ileB 0 r3.lo&&ileB r3.hi 18446744073709551615))
 |_=>false))) &&
 ((ge64 s q.1&&ge64 s q.2.1&&ge64 s q.2.2.1&&ge64 s q.2.2.2&&(ge64 s t.1&&ge64 s t.2.1&&ge64 s t.2.2.1&&ge64 s t.2.2.2))&&((ge64 s u.1&&ge64 s u.2.1&&ge64 s u.2.2.1&&ge64 s u.2.2.2)&&(ge64 s c&&bit1 s c&&bit1 s u.2.2.2)))
theorem t_fm:(match ckFnS i_edwards25519_fiatScalarFromMontgomery C_edwards25519_fiatScalarFromMontgomery M_fs [[],bU4] with
 |some (s,[r])=>frT s (117,1317,3333,5317) (6196,6404,6644,6772) (6852,7012,7172,7332) 7460 (in4 1) r
 |_=>false)=true:=by kernel_rfl
theorem in4_ev(ρ:Env){j:Nat}{l:List Int}(h:ρ j=l):pev ρ (in4 j)=l.getD 0 0+(18446744073709551616*l.getD 1 0+(340282366920938463463374607431768211456*l.getD 2 0+6277101735386680763835789423207666416102355444464034512896*l.getD 3 0)):=by
 simp only[in4,p4,padd_ev,psmul_ev,patm_ev]
 rw[αv_enc0 ρ (by omega),αv_enc0 ρ (by omega),αv_enc0 ρ (by omega),αv_enc0 ρ (by omega),h]
def v4(l:List Int):Int:=l.getD 0 0+(18446744073709551616*l.getD 1 0+(340282366920938463463374607431768211456*l.getD 2 0+6277101735386680763835789423207666416102355444464034512896*l.getD 3 0))
def u4(l:List Int):Prop:=l.length=4∧∀ k,k<4→0≤l.getD k 0∧l.getD k 0≤18446744073709551615
theorem four{α:Type}{l:List α}(h:l.length=4):∃ a b c d,l= [a,b,c,d]:=by
 match l,h with
 | [a,b,c,d],_=>exact⟨a,b,c,d,rfl⟩
theorem bnd_4{bnds:List (List (Int×Int))}{ins:List (List Int)}{x:List Int}(h:u4 x)(hb:BndOk bnds ins):BndOk (bU4::bnds) (x::ins):=
 bnd_one bU4 x ⟨by decide,fun k p hk=>by
  match k,hk with
  |0,hk=>simp only[bU4,List.getElem?_cons_zero,osE] at hk; subst hk; exact h.2 0 (by omega)
  |1,hk=>simp only[bU4,List.getElem?_cons_succ,List.getElem?_cons_zero,osE] at hk; subst hk; exact h.2 1 (by omega)
  |2,hk=>simp only[bU4,List.getElem?_cons_succ,List.getElem?_cons_zero,osE] at hk; subst hk; exact h.2 2 (by omega)
  |3,hk=>simp only[bU4,List.getElem?_cons_succ,List.getElem?_cons_zero,osE] at hk; subst hk; exact h.2 3 (by omega)
  |k+4,hk=>simp[bU4] at hk⟩ hb
theorem raw_cmov(o:List Int)(c z y:Int):i_edwards25519_fiatScalarCmovznzU64.raw C_edwards25519_fiatScalarCmovznzU64 0 [o,[c],[z],[y]]= [binD .or .u64 (binD .and .u64 (binD .mul .u64 c 18446744073709551615) y) (binD .and .u64 (binD .xor .u64 18446744073709551615 (binD .mul .u64 c 18446744073709551615)) z)]:=by kernel_rfl
theorem cmov0{z y:Int}(hz:inR .u64 z)(hy:inR .u64 y):binD .or .u64 (binD .and .u64 (binD .mul .u64 0 18446744073709551615) y) (binD .and .u64 (binD .xor .u64 18446744073709551615 (binD .mul .u64 0 18446744073709551615)) z)=z:=by
 have e:binD .mul .u64 0 18446744073709551615=0:=by decide +kernel
 have e2:binD .xor .u64 18446744073709551615 0=18446744073709551615:=by decide +kernel
 rw[e,e2]
 show bitsD .or .u64 (bitsD .and .u64 0 y) (bitsD .and .u64 18446744073709551615 z)=z
 rw[and_no hy,and_all hz,(or_no hz).2]
theorem cmov1{z y:Int}(hz:inR .u64 z)(hy:inR .u64 y):binD .or .u64 (binD .and .u64 (binD .mul .u64 1 18446744073709551615) y) (binD .and .u64 (binD .xor .u64 18446744073709551615 (binD .mul .u64 1 18446744073709551615)) z)=y:=by
 have e:binD .mul .u64 1 18446744073709551615=18446744073709551615:=by decide +kernel
 have e2:binD .xor .u64 18446744073709551615 18446744073709551615=0:=by decide +kernel
 rw[e,e2]
 show bitsD .or .u64 (bitsD .and .u64 18446744073709551615 y) (bitsD .and .u64 0 z)=y
 rw[and_no hz,and_all hy,(or_no hy).1]
theorem pr_cmov:s_edwards25519_fiatScalarCmovznzU64.pr 0= .l fun a=>fixL 1 (i_edwards25519_fiatScalarCmovznzU64.raw C_edwards25519_fiatScalarCmovznzU64 0 a):=rfl
theorem fk_cmov{T:Tb}{f:Nat}(h:lk f T=some (.one s_edwards25519_fiatScalarCmovznzU64)):FKOk T f .cmov:=fun o c z y hc hz hy=>by
 rw[fn_den h,pr_cmov]
 show fixL 1 (i_edwards25519_fiatScalarCmovznzU64.raw C_edwards25519_fiatScalarCmovznzU64 0 [o,[c],[z],[y]])=_
 rw[raw_cmov]
 rcases hc with rfl|rfl
 ·rw[cmov0 hz hy,if_pos rfl]; rfl
 ·rw[cmov1 hz hy,if_neg (by decide)]; rfl
theorem M_fs_ok{T:Tb}(h1:lk 172 T=some (.one s_bits_Mul64))(h2:lk 174 T=some (.one s_edwards25519_fiatScalarCmovznzU64)):MOkF T M_fs:=fun f κ h=>by
 simp only[M_fs,lk] at h
 cases hb:Nat.beq 172 f with
 |true=>
  rw[hb,cond_true,osE] at h
  have:=nbE hb
  subst this; subst h
  exact fk_mul64 h1
 | false=>
  rw[hb,cond_false] at h
  cases hb2:Nat.beq 174 f with
  |true=>
   rw[hb2,cond_true,osE] at h
   have:=nbE hb2
   subst this; subst h
   exact fk_cmov h2
  |false=>rw[hb2] at h; cases h
theorem ge64_ok{ρ:Env}{s:CS}(hs:CSOk ρ s){n:Nat}(h:ge64 s n=true):0≤pev ρ (gx s n).p∧pev ρ (gx s n).p≤18446744073709551615:=by
 simp only[ge64,baE] at h
 have h1:=gx_ok hs h.1
 rw[← h1.1]
 exact⟨Int.le_trans (ileB_le h.1) h1.2.1,Int.le_trans h1.2.2.1 (ileB_le h.2)⟩
theorem bit_ok1{ρ:Env}{s:CS}(hs:CSOk ρ s){n:Nat}(h:bit1 s n=true):0≤pev ρ (patm (enc n 1 0))∧pev ρ (patm (enc n 1 0))≤1:=by
 unfold bit1 at h
 split at h
 ·rename_i a ha
  simp only[baE] at h
  have h1:=CS.x_ok hs ha
  rw[patm_ev,αv_enc0 ρ (by omega)]
  exact⟨Int.le_trans (ileB_le h.1) h1.2.1,Int.le_trans h1.2.2.1 (ileB_le h.2)⟩
 ·cases h
theorem AVs.four{ρ:Env}{l:List Int}{a b c d:AV}(h:AVs ρ l [a,b,c,d]):∃ x y z w,l= [x,y,z,w]∧a.ok ρ x∧b.ok ρ y∧c.ok ρ z∧d.ok ρ w:=by
 obtain⟨x,y,z,w,rfl⟩:=Go.Proofs.YtloibefkijfdlaaGreatDoor.four h.1
 exact⟨x,y,z,w,rfl,h.2 0 _ _ rfl rfl,h.2 1 _ _ rfl rfl,h.2 2 _ _ rfl rfl,h.2 3 _ _ rfl rfl⟩
theorem fr_ok{ρ:Env}{s:CS}(hs:CSOk ρ s){q t u:Nat×Nat×Nat×Nat}{c:Nat}{X:Poly}{r:List AV}(h:frT s q t u c X r=true){l:List Int}(hl:AVs ρ l r)(hX:0≤pev ρ X∧pev ρ X<scL*z256):
  u4 l∧0≤v4 l∧v4 l<scL∧(scL ∣ v4 l*z256-pev ρ X):=by
 unfold frT at h
 simp only[baE] at h
 obtain⟨⟨⟨h1,h2⟩,h3,h4⟩,⟨⟨⟨⟨a1,a2⟩,a3⟩,a4⟩,⟨⟨⟨b1,b2⟩,b3⟩,b4⟩⟩,⟨⟨⟨c1,c2⟩,c3⟩,c4⟩,⟨d1,d2⟩,d3⟩:=h
 split at h4
 ·rename_i r0 r1 r2 r3
  simp only[baE] at h4
  obtain⟨h4,⟨⟨e0,e1⟩,e2⟩,e3⟩:=h4
  obtain⟨x0,x1,x2,x3,rfl,g0,g1,g2,g3⟩:=hl.four
  have q1:=pz (ρ:=ρ) h1
  have q2:=pz (ρ:=ρ) h2
  have q3:=pz (ρ:=ρ) h3
  have q4:=pz (ρ:=ρ) h4
  simp only[p4,padd_ev,psmul_ev,pcon_ev,pev_mul, ← g0.1, ← g1.1, ← g2.1, ← g3.1] at q1 q2 q3 q4
  have a1:=ge64_ok hs a1
  have a2:=ge64_ok hs a2
  have a3:=ge64_ok hs a3
  have a4:=ge64_ok hs a4
  have b1:=ge64_ok hs b1
  have b2:=ge64_ok hs b2
  have b3:=ge64_ok hs b3
  have b4:=ge64_ok hs b4
  have c1:=ge64_ok hs c1
  have c2:=ge64_ok hs c2
  have c3:=ge64_ok hs c3
  have c4:=ge64_ok hs c4
  have d1:=ge64_ok hs d1
  have d2:=bit_ok1 hs d2
  have d3:=bit_ok1 hs d3
  have rb:∀ {a:AV} {x:Int},a.ok ρ x→(ileB 0 a.lo=true∧ileB a.hi 18446744073709551615=true)→0≤x∧x≤18446744073709551615:=fun ha hb=>by
   exact⟨Int.le_trans (ileB_le hb.1) ha.2.1,Int.le_trans ha.2.2.1 (ileB_le hb.2)⟩
  have f0:=rb g0 e0
  have f1:=rb g1 e1
  have f2:=rb g2 e2
  have f3:=rb g3 e3
  refine⟨⟨rfl,fun k hk=> ?_⟩,?_⟩
  ·match k,hk with
   |0,_=>exact f0
   |1,_=>exact f1
   |2,_=>exact f2
   |3,_=>exact f3
  ·unfold v4
   simp only[List.getD_cons_zero,List.getD_cons_succ]
   unfold scL z256 at *
   generalize pev ρ (gx s q.1).p=k0 at *
   generalize pev ρ (gx s q.2.1).p=k1 at *
   generalize pev ρ (gx s q.2.2.1).p=k2 at *
   generalize pev ρ (gx s q.2.2.2).p=k3 at *
   generalize pev ρ (gx s t.1).p=t0 at *
   generalize pev ρ (gx s t.2.1).p=t1 at *
   generalize pev ρ (gx s t.2.2.1).p=t2 at *
   generalize pev ρ (gx s t.2.2.2).p=t3 at *
   generalize pev ρ (gx s u.1).p=u0 at *
   generalize pev ρ (gx s u.2.1).p=u1 at *
   generalize pev ρ (gx s u.2.2.1).p=u2 at *
   generalize pev ρ (gx s u.2.2.2).p=u3 at *
   generalize pev ρ (patm (enc c 1 0))=cc at *
   generalize pev ρ (patm (enc u.2.2.2 1 0))=c0 at *
   generalize pev ρ (gx s c).p=cw at *
   generalize pev ρ X=XX at *
   have hcc:cc=0∨cc=1:=by omega
   rcases hcc with rfl|rfl
   ·rw[Int.zero_mul,Int.add_zero] at q4
    refine⟨by omega,by omega,⟨(k0+(18446744073709551616*k1+(340282366920938463463374607431768211456*k2+6277101735386680763835789423207666416102355444464034512896*k3)))-115792089237316195423570985008687907853269984665640564039457584007913129639936,by omega⟩⟩
   ·rw[Int.one_mul] at q4
    refine⟨by omega,by omega,⟨(k0+(18446744073709551616*k1+(340282366920938463463374607431768211456*k2+6277101735386680763835789423207666416102355444464034512896*k3))),by omega⟩⟩
 ·cases h4
theorem v4_bd{l:List Int}(h:u4 l):0≤v4 l∧v4 l<z256:=by
 have h0:=h.2 0 (by omega)
 have h1:=h.2 1 (by omega)
 have h2:=h.2 2 (by omega)
 have h3:=h.2 3 (by omega)
 unfold v4 z256
 omega
theorem frm_raw{v x:List Int}(hx:u4 x):u4 (i_edwards25519_fiatScalarFromMontgomery.raw C_edwards25519_fiatScalarFromMontgomery 0 [v,x])∧0≤v4 (i_edwards25519_fiatScalarFromMontgomery.raw C_edwards25519_fiatScalarFromMontgomery 0 [v,x])∧v4 (i_edwards25519_fiatScalarFromMontgomery.raw C_edwards25519_fiatScalarFromMontgomery 0 [v,x])<scL∧(scL ∣ v4 (i_edwards25519_fiatScalarFromMontgomery.raw C_edwards25519_fiatScalarFromMontgomery 0 [v,x])*z256-v4 x):=by
 have ht:=t_fm
 split at ht
 ·rename_i s r hr
  obtain⟨_,ρ,h1,hS,h2⟩:=ckFnS_ok (M_fs_ok rfl rfl) hr (ins:= [v,x]) (bnd_no v (bnd_4 hx (bnd_nil _)))
  have hX:pev ρ (in4 1)=v4 x:=in4_ev ρ (h1 1 (by decide))
  have hb:=v4_bd hx
  rw[← hX] at hb ⊢
  exact fr_ok hS ht (h2 0 r rfl) ⟨hb.1,by unfold scL z256 at *; omega⟩
 ·cases ht
end Go.Proofs.YtloibefkijfdlaaGreatDoor

namespace Go.Proofs.YtloibefkijfdlaaGreatDoor
open Go
theorem t_tb:(match ckFnS i_edwards25519_fiatScalarToBytes C_edwards25519_fiatScalarToBytes [] [[],bU4] with
 |some (_,[bs])=>Nat.beq bs.length 32&&bs.all byB&&pdvd 0 (padd (leP bs) (psmul (-1) (in4 1)))
 |_=>false)=true:=by kernel_rfl
theorem tb_raw{v x:List Int}(hx:u4 x):(i_edwards25519_fiatScalarToBytes.raw C_edwards25519_fiatScalarToBytes 0 [v,x]).length=32∧by8 (i_edwards25519_fiatScalarToBytes.raw C_edwards25519_fiatScalarToBytes 0 [v,x])∧leV (i_edwards25519_fiatScalarToBytes.raw C_edwards25519_fiatScalarToBytes 0 [v,x])=v4 x:=by
 have ht:=t_tb
 split at ht
 ·rename_i s bs hr
  obtain⟨_,ρ,h1,hS,h2⟩:=ckFnS_ok (fun f κ h=>by cases h) hr (ins:= [v,x]) (bnd_no v (bnd_4 hx (bnd_nil _)))
  have hA:=h2 0 bs rfl
  simp only[baE] at ht
  obtain⟨⟨t1,t2⟩,t3⟩:=ht
  have t1:=nbE t1
  have hX:pev ρ (in4 1)=v4 x:=in4_ev ρ (h1 1 (by decide))
  have t3:=pz (ρ:=ρ) t3
  rw[leP_ev hA,hX] at t3
  exact⟨hA.1.trans t1,by8_of hA t2,t3⟩
 ·cases ht
def runX(n:Nat):Nat→Nat→List X→Bool
 |0,_,[]=>true
 |m+1,k,.v i j::r=>Nat.beq i n&&Nat.beq j k&&runX n m (k+1) r
 |_,_,_=>false
theorem runX_den{ρ:Env}{n:Nat}:∀ {m k:Nat} {l:List X},runX n m k l=true→l.map (·.den ρ)=(List.range m).map fun j=>(ρ n).getD (k+j) 0
 |0,_,[],_=>rfl
 |m+1,k,.v i j::r,h=>by
  simp only[runX,baE] at h
  have e1:=nbE h.1.1
  have e2:=nbE h.1.2
  subst e1; subst e2
  rw[List.map_cons,runX_den h.2,List.range_succ_eq_map,List.map_cons,List.map_map]
  congr 1
  apply List.map_congr_left
  intro i _
  simp only[Function.comp]
  congr 1; omega
 |0,_,_::_,h=>by cases h
 |m+1,_,[],h=>by cases h
 |m+1,_,.lit _::_,h=>by cases h
theorem range_id2{l:List Int}{n:Nat}(h:l.length=n):((List.range n).map fun k=>l.getD k 0)=l:=by
 subst h; exact fixL_id rfl
def scbT(f1 f2:Nat):Option (List (Nat×Def)×List (List X))→Bool
 |some ([(n1,⟨.fn f true 0,[.xs _,.vec 0]⟩),(n2,⟨.fn g true 0,[.xs _,.vec a]⟩)],[l])=>Nat.beq f f1&&Nat.beq g f2&&Nat.beq a n1&&runX n2 32 0 l
 |_=>false
theorem l_scb:scbT 189 190 (linR i_edwards25519_Scalar_Bytes C_edwards25519_Scalar_Bytes)=true:=by kernel_rfl
theorem lk_b1:lk 189 C_edwards25519_Scalar_Bytes.T=some (.one s_edwards25519_fiatScalarFromMontgomery):=rfl
theorem lk_b2:lk 190 C_edwards25519_Scalar_Bytes.T=some (.one s_edwards25519_fiatScalarToBytes):=rfl
theorem pr_fm:s_edwards25519_fiatScalarFromMontgomery.pr 0= .l fun a=>fixL 4 (i_edwards25519_fiatScalarFromMontgomery.raw C_edwards25519_fiatScalarFromMontgomery 0 a):=rfl
theorem pr_tb:s_edwards25519_fiatScalarToBytes.pr 0= .l fun a=>fixL 32 (i_edwards25519_fiatScalarToBytes.raw C_edwards25519_fiatScalarToBytes 0 a):=rfl
theorem pr_scb:s_edwards25519_Scalar_Bytes.pr 0= .l fun a=>fixL 32 (i_edwards25519_Scalar_Bytes.raw C_edwards25519_Scalar_Bytes 0 a):=rfl
structure ScV (l:List Int) (m:Int):Prop where
 lo:0≤m
 hi:m<scL
 eq:scL ∣ m*z256-v4 l
theorem scb_raw{x:List Int}(hx:u4 x):∃ m,ScV x m∧(i_edwards25519_Scalar_Bytes.raw C_edwards25519_Scalar_Bytes 0 [x]).length=32∧by8 (i_edwards25519_Scalar_Bytes.raw C_edwards25519_Scalar_Bytes 0 [x])∧leV (i_edwards25519_Scalar_Bytes.raw C_edwards25519_Scalar_Bytes 0 [x])=m:=by
 have ht:=l_scb
 unfold scbT at ht
 split at ht
 ·rename_i n1 f z1 n2 g z2 a l hl
  simp only[baE] at ht
  obtain⟨⟨⟨t1,t2⟩,t3⟩,t4⟩:=ht
  have t1:=nbE t1
  have t2:=nbE t2
  have t3:=nbE t3
  subst t1; subst t2; subst t3
  obtain⟨ρ,h1,h2,h3⟩:=linR_ok hl [x]
  have e0:ρ 0=x:=h1 0 (by decide)
  have e1:=h2 _ lmS
  have e2:=h2 _ (lmM _ lmS)
  simp only[Def.den,List.map_cons,List.map_nil,Arg.den] at e1 e2
  rw[fn_den lk_b1,pr_fm,e0] at e1
  rw[fn_den lk_b2,pr_tb] at e2
  obtain⟨g1,g2,g3,g4⟩:=frm_raw (v:=z1.map (·.den ρ)) hx
  have e1':ρ a=i_edwards25519_fiatScalarFromMontgomery.raw C_edwards25519_fiatScalarFromMontgomery 0 [z1.map (·.den ρ),x]:=e1.trans (fixL_id g1.1)
  rw[← e1'] at g1 g2 g3 g4
  obtain⟨k1,k2,k3⟩:=tb_raw (v:=z2.map (·.den ρ)) g1
  have e2':ρ n2=i_edwards25519_fiatScalarToBytes.raw C_edwards25519_fiatScalarToBytes 0 [z2.map (·.den ρ),ρ a]:=e2.trans (fixL_id k1)
  rw[← e2'] at k1 k2 k3
  have hr:i_edwards25519_Scalar_Bytes.raw C_edwards25519_Scalar_Bytes 0 [x]=ρ n2:=by
   rw[h3 0 _ rfl,runX_den t4]
   have:=range_id2 k1
   simpa using this
  rw[hr]
  exact⟨v4 (ρ a),⟨g2,g3,g4⟩,k1,k2,k3⟩
 ·cases ht
end Go.Proofs.YtloibefkijfdlaaGreatDoor
