/- Scalars modulo the order: what is set from bytes. Scalars modulo the order: clamped, multiplied and added, as bytes. -/
import Derived.Test.YtloibefkijfdlaaGreatDoorNa
import Derived.Test.YtloibefkijfdlaaGreatDoorNd
import Derived.Test.YtloibefkijfdlaaGreatDoorSc
import Derived.Test.YtloibefkijfdlaaGreatDoorSc3
import Derived.Test.YtloibefkijfdlaaGreatDoorSc6
namespace Go.Proofs.YtloibefkijfdlaaGreatDoor
open Go
structure SVL (l:List Int) (m:Int):Prop where
 u:uL l
 eq:scL ∣ m*z256-v4 l
theorem dvL{a b:Int}(h:a ∣ b)(c:Int):a ∣ b*c:=Int.dvd_mul_of_dvd_left h
theorem dvR{a b:Int}(h:a ∣ b)(c:Int):a ∣ c*b:=Int.dvd_mul_of_dvd_right h
def zInv:Int:=4458503529701987551646482192314240623644693141688353256590997718326214331684
theorem z_inv:z256*zInv=1+scL*71336056475231800826343715077027849978041630819377026201054086228062141447707:=by decide +kernel
theorem z_strike{a:Int}(h:scL ∣ a*z256):scL ∣ a:=by
 obtain⟨k,hk⟩:=h
 refine⟨k*zInv-a*71336056475231800826343715077027849978041630819377026201054086228062141447707,?_⟩
 have h1:a*(z256*zInv)=scL*k*zInv:=by rw[← hk,Int.mul_assoc]
 rw[z_inv,Int.mul_add,Int.mul_one] at h1
 rw[Int.mul_sub, ← Int.mul_assoc scL k, ← h1,Int.mul_left_comm a scL]
 omega
theorem SVL.uniq{l:List Int}{m n:Int}(h:SVL l m)(g:SVL l n):scL ∣ m-n:=by
 refine z_strike ?_
 have:=Int.dvd_sub h.eq g.eq
 have e:m*z256-v4 l-(n*z256-v4 l)=(m-n)*z256:=by rw[Int.sub_mul]; omega
 rwa [e] at this
theorem sv_mul{v a b:List Int}{m n:Int}(ha:SVL a m)(hb:SVL b n):SVL (i_edwards25519_fiatScalarMul.raw C_edwards25519_fiatScalarMul 0 [v,a,b]) (m*n):=by
 obtain⟨h1,h2⟩:=mul_raw (v:=v) ha.u hb.u.u
 refine⟨h1,z_strike ?_⟩
 generalize v4 (i_edwards25519_fiatScalarMul.raw C_edwards25519_fiatScalarMul 0 [v,a,b])=r at *
 have e1:=dvL ha.eq (n*z256)
 have e2:=dvR hb.eq (v4 a)
 have h3:=Int.dvd_sub (Int.dvd_add e1 e2) h2
 have e:(m*z256-v4 a)*(n*z256)+v4 a*(n*z256-v4 b)-(r*z256-v4 a*v4 b)=(m*n*z256-r)*z256:=by
  generalize v4 a=x at *
  generalize v4 b=y at *
  generalize z256=z at *
  rw[Int.sub_mul,Int.mul_sub,Int.sub_mul]
  rw[show m*z*(n*z)=m*n*z*z by simp only[Int.mul_comm,Int.mul_left_comm]]
  omega
 rwa [e] at h3
theorem sv_add{v a b:List Int}{m n:Int}(ha:SVL a m)(hb:SVL b n):SVL (i_edwards25519_fiatScalarAdd.raw C_edwards25519_fiatScalarAdd 0 [v,a,b]) (m+n):=by
 obtain⟨h1,h2⟩:=add_raw (v:=v) ha.u hb.u
 refine⟨h1,?_⟩
 have h3:=Int.dvd_sub (Int.dvd_add ha.eq hb.eq) h2
 have e:m*z256-v4 a+(n*z256-v4 b)-(v4 (i_edwards25519_fiatScalarAdd.raw C_edwards25519_fiatScalarAdd 0 [v,a,b])-(v4 a+v4 b))=(m+n)*z256-v4 (i_edwards25519_fiatScalarAdd.raw C_edwards25519_fiatScalarAdd 0 [v,a,b]):=by
  rw[Int.add_mul]
  omega
 rwa [e] at h3
theorem sv_tom{v a:List Int}(ha:u4 a):SVL (i_edwards25519_fiatScalarToMontgomery.raw C_edwards25519_fiatScalarToMontgomery 0 [v,a]) (v4 a):=by
 obtain⟨h1,h2⟩:=tom_raw (v:=v) ha
 have hr:scL ∣ z256*z256-r2C:=Int.dvd_of_emod_eq_zero (by decide +kernel)
 refine⟨h1,z_strike ?_⟩
 have h3:=Int.dvd_sub (dvL hr (v4 a)) h2
 generalize v4 (i_edwards25519_fiatScalarToMontgomery.raw C_edwards25519_fiatScalarToMontgomery 0 [v,a])=r at *
 have e:(z256*z256-r2C)*v4 a-(r*z256-r2C*v4 a)=(v4 a*z256-r)*z256:=by
  generalize v4 a=x at *
  generalize z256=z at *
  generalize r2C=y at *
  rw[Int.sub_mul,Int.sub_mul]
  rw[show z*z*x=x*z*z by simp only[Int.mul_comm,Int.mul_left_comm]]
  omega
 rwa [e] at h3
theorem SVL.len{l:List Int}{m:Int}(h:SVL l m):l.length=4:=h.u.u.1
theorem gv4{T:Tb}{f:Nat}{s:FSum}{G:List (List Int)→List Int}{ins:List (List Int)}{m:Int}(h:lk f T=some (.one s))(hp:s.pr 0= .l fun a=>fixL 4 (G a))(hn:SVL (G ins) m):SVL (gv T f 0 ins) m:=by
 rw[gv_one h,hp]
 show SVL (fixL 4 (G ins)) m
 rw[fixL_id hn.len]
 exact hn
theorem SVL.cut{l:List Int}{m:Int}(h:SVL l m):SVL (sb l 0 4) m:=by
 have:sb l 0 4=l:=by
  have hl:=h.len
  match l,hl with
  | [_,_,_,_],_=>rfl
 rwa [this]
theorem pr_fmul:s_edwards25519_fiatScalarMul.pr 0= .l fun a=>fixL 4 (i_edwards25519_fiatScalarMul.raw C_edwards25519_fiatScalarMul 0 a):=rfl
theorem pr_fadd:s_edwards25519_fiatScalarAdd.pr 0= .l fun a=>fixL 4 (i_edwards25519_fiatScalarAdd.raw C_edwards25519_fiatScalarAdd 0 a):=rfl
theorem pr_ftom:s_edwards25519_fiatScalarToMontgomery.pr 0= .l fun a=>fixL 4 (i_edwards25519_fiatScalarToMontgomery.raw C_edwards25519_fiatScalarToMontgomery 0 a):=rfl
theorem pr_ffb:s_edwards25519_fiatScalarFromBytes.pr 0= .l fun a=>fixL 4 (i_edwards25519_fiatScalarFromBytes.raw C_edwards25519_fiatScalarFromBytes 0 a):=rfl
theorem pr_smul:s_edwards25519_Scalar_Multiply.pr 0= .l fun a=>fixL 4 (i_edwards25519_Scalar_Multiply.raw C_edwards25519_Scalar_Multiply 0 a):=rfl
theorem pr_sadd:s_edwards25519_Scalar_Add.pr 0= .l fun a=>fixL 4 (i_edwards25519_Scalar_Add.raw C_edwards25519_Scalar_Add 0 a):=rfl
theorem pr_ss:s_edwards25519_Scalar_setShortBytes.pr 0= .l fun a=>fixL 4 (i_edwards25519_Scalar_setShortBytes.raw C_edwards25519_Scalar_setShortBytes 0 a):=rfl
theorem pr_ss1:s_edwards25519_Scalar_setShortBytes_v1.pr 0= .l fun a=>fixL 4 (i_edwards25519_Scalar_setShortBytes_v1.raw C_edwards25519_Scalar_setShortBytes_v1 0 a):=rfl
theorem pr_sub:s_edwards25519_Scalar_SetUniformBytes.pr 0= .l fun a=>fixL 4 (i_edwards25519_Scalar_SetUniformBytes.raw C_edwards25519_Scalar_SetUniformBytes 0 a):=rfl
theorem pr_cl:s_edwards25519_Scalar_SetBytesWithClamping.pr 0= .l fun a=>fixL 4 (i_edwards25519_Scalar_SetBytesWithClamping.raw C_edwards25519_Scalar_SetBytesWithClamping 0 a):=rfl
section
variable{T:Tb}
theorem raw_smul{v a b:List Int}:i_edwards25519_Scalar_Multiply.valT T C_edwards25519_Scalar_Multiply 0 [v,a,b]=sb (gv T 169 0 [v,a,b]) 0 4:=by kernel_rfl
theorem raw_sadd{v a b:List Int}:i_edwards25519_Scalar_Add.valT T C_edwards25519_Scalar_Add 0 [v,a,b]=sb (gv T 168 0 [v,a,b]) 0 4:=by kernel_rfl
def ssW(T:Tb)(v x:List Int):List Int:=gv T 128 0 [v,x]
theorem raw_ss{v x:List Int}:i_edwards25519_Scalar_setShortBytes.valT T C_edwards25519_Scalar_setShortBytes 0 [v,x]=sb (gv T 129 0 [ssW T v (sb x 0 21++List.replicate 11 0),ssW T v (sb x 0 21++List.replicate 11 0)]) 0 4:=by kernel_rfl
theorem raw_ss1{v x:List Int}:i_edwards25519_Scalar_setShortBytes_v1.valT T C_edwards25519_Scalar_setShortBytes_v1 0 [v,x]=sb (gv T 129 0 [ssW T v (sb x 0 22++List.replicate 10 0),ssW T v (sb x 0 22++List.replicate 10 0)]) 0 4:=by kernel_rfl
def k168:List Int:= [6596282735017805720,4084727301971498455,11727709552089570172,446589182673836592]
def k336:List Int:= [13636073449544084677,6645684779544594699,7181719282965082862,275308871451790172]
def suA(T:Tb)(v x:List Int):List Int:=gv T 124 0 [v,sb x 0 21]
def suB(T:Tb)(x:List Int):List Int:=gv T 124 0 [[0,0,0,0],sb x 21 21]
def suB2(T:Tb)(x:List Int):List Int:=gv T 126 0 [suB T x,suB T x,k168]
def suA2(T:Tb)(v x:List Int):List Int:=gv T 125 0 [suA T v x,suA T v x,suB2 T x]
def suC(T:Tb)(x:List Int):List Int:=gv T (10000+124) 0 [suB2 T x,sb x 42 22]
def suC2(T:Tb)(x:List Int):List Int:=gv T 126 0 [suC T x,suC T x,k336]
theorem raw_su{v x:List Int}:i_edwards25519_Scalar_SetUniformBytes.valT T C_edwards25519_Scalar_SetUniformBytes 0 [v,x]=sb (gv T 125 0 [suA2 T v x,suA2 T v x,suC2 T x]) 0 4:=by kernel_rfl
def clP(x:List Int):List Int:=binD .and .u8 (x.getD 0 0) 248::(sb x 1 30 ++ [binD .or .u8 (binD .and .u8 (x.getD 31 0) 63) 64])
theorem raw_cl{v x:List Int}:i_edwards25519_Scalar_SetBytesWithClamping.valT T C_edwards25519_Scalar_SetBytesWithClamping 0 [v,x]=sb (gv T 99 0 [v,clP x++List.replicate 32 0]) 0 4:=by kernel_rfl
theorem smul_sv(h:lk 126 T=some (.one s_edwards25519_Scalar_Multiply)){v a b:List Int}{m n:Int}(ha:SVL a m)(hb:SVL b n):SVL (gv T 126 0 [v,a,b]) (m*n):=
 gv4 h pr_smul (by
  rw[raw_valT,raw_smul]
  exact (gv4 rfl pr_fmul (sv_mul ha hb)).cut)
theorem sadd_sv(h:lk 125 T=some (.one s_edwards25519_Scalar_Add)){v a b:List Int}{m n:Int}(ha:SVL a m)(hb:SVL b n):SVL (gv T 125 0 [v,a,b]) (m+n):=
 gv4 h pr_sadd (by
  rw[raw_valT,raw_sadd]
  exact (gv4 rfl pr_fadd (sv_add ha hb)).cut)
theorem fb_v4(h:lk 128 T=some (.one s_edwards25519_fiatScalarFromBytes)){v x:List Int}(hx:by8 x)(hl:x.length=32):u4 (ssW T v x)∧v4 (ssW T v x)=leV x:=by
 have hu:=(kw_fb h v x hx hl).2
 refine⟨hu,?_⟩
 have e:ssW T v x=i_edwards25519_fiatScalarFromBytes.raw C_edwards25519_fiatScalarFromBytes 0 [v,x]:=by
  unfold ssW
  rw[gv_one h,pr_ffb]
  exact fixL_id (u4Fn (fun f κ h=>by cases h) t_fb4 (bnd_no v (bnd_y (by omega) hx hl (bnd_nil _)))).1
 rw[e]
 exact fb_raw hx hl
theorem by8_ap2{x y:List Int}(hx:by8 x)(hy:by8 y):by8 (x++y):=fun z hz=>by
 rcases List.mem_append.1 hz with h|h
 ·exact hx z h
 ·exact hy z h
theorem by8_rep(n:Nat):by8 (List.replicate n 0):=fun z hz=>by
 rw[(List.mem_replicate.1 hz).2]
 omega
theorem by8_at{x:List Int}(h:by8 x)(i:Nat):0≤x.getD i 0∧x.getD i 0≤255:=by
 by_cases hi:i<x.length
 ·rw[show x.getD i 0=x[i] by simp[List.getD,hi]]
  exact h _ (List.getElem_mem hi)
 ·rw[show x.getD i 0=0 by simp[List.getD,hi]]
  omega
theorem by8_sb{x:List Int}(h:by8 x)(o n:Nat):by8 (sb x o n):=fun z hz=>by
 simp only[sb,List.mem_map] at hz
 obtain⟨i,-, rfl⟩:=hz
 exact by8_at h _
theorem leV_rep:∀ n,leV (List.replicate n 0)=0
 |0=>rfl
 |n+1=>by simp[List.replicate_succ,leV,leV_rep n]
theorem sb_full(l:List Int){n:Nat}(h:l.length=n):sb l 0 n=l:=by
 subst h
 unfold sb
 refine List.ext_getElem (by simp) fun i h1 h2=> ?_
 simp[List.getD,h2]
theorem sb_length(l:List Int)(o n:Nat):(sb l o n).length=n:=by simp[sb]
theorem ss_sv(h:lk 124 T=some (.one s_edwards25519_Scalar_setShortBytes)){v x:List Int}(hx:by8 x)(hl:x.length=21):SVL (gv T 124 0 [v,x]) (leV x):=
 gv4 h pr_ss (by
  rw[raw_valT,raw_ss,sb_full x hl]
  obtain⟨h1,h2⟩:=fb_v4 (T:=C_edwards25519_Scalar_setShortBytes.T) rfl (v:=v) (by8_ap2 hx (by8_rep 11)) (by rw[List.length_append,List.length_replicate,hl])
  rw[leV_ap2,leV_rep,Int.mul_zero,Int.add_zero] at h2
  rw[← h2]
  exact (gv4 rfl pr_ftom (sv_tom h1)).cut)
theorem ss1_sv(h:lk (10000+124) T=some (.one s_edwards25519_Scalar_setShortBytes_v1)){v x:List Int}(hx:by8 x)(hl:x.length=22):SVL (gv T (10000+124) 0 [v,x]) (leV x):=
 gv4 h pr_ss1 (by
  rw[raw_valT,raw_ss1,sb_full x hl]
  obtain⟨h1,h2⟩:=fb_v4 (T:=C_edwards25519_Scalar_setShortBytes_v1.T) rfl (v:=v) (by8_ap2 hx (by8_rep 10)) (by rw[List.length_append,List.length_replicate,hl])
  rw[leV_ap2,leV_rep,Int.mul_zero,Int.add_zero] at h2
  rw[← h2]
  exact (gv4 rfl pr_ftom (sv_tom h1)).cut)
theorem k168_sv:SVL k168 (2^168):=⟨⟨⟨rfl,by decide⟩,by decide +kernel⟩,Int.dvd_of_emod_eq_zero (by decide +kernel)⟩
theorem k336_sv:SVL k336 (2^336):=⟨⟨⟨rfl,by decide⟩,by decide +kernel⟩,Int.dvd_of_emod_eq_zero (by decide +kernel)⟩
theorem sb_split(x:List Int)(o m n:Nat):sb x o (m+n)=sb x o m++sb x (o+m) n:=by
 unfold sb
 rw[List.range_add,List.map_append,List.map_map]
 congr 1
 refine List.map_congr_left fun i _=> ?_
 simp only[Function.comp,Nat.add_assoc]
theorem leV_64{x:List Int}(hl:x.length=64):leV x=leV (sb x 0 21)+leV (sb x 21 21)*2^168+leV (sb x 42 22)*2^336:=by
 have h:=sb_full x hl
 have e1:sb x 0 64=sb x 0 21++(sb x 21 21++sb x 42 22):=by
  rw[show (64:Nat)=21+(21+22) from rfl,sb_split,sb_split]
 rw[← h,e1,leV_ap2,leV_ap2,sb_length,sb_length, ← e1,h]
 rw[show (256:Int)^21=2^168 by decide +kernel]
 rw[Int.mul_add,Int.mul_comm _ (leV _), ← Int.mul_assoc,show (2:Int)^168*2^168=2^336 by decide +kernel,Int.mul_comm (2^336),Int.add_assoc]
theorem su_raw_sv{v x:List Int}(hx:by8 x)(hl:x.length=64):SVL (i_edwards25519_Scalar_SetUniformBytes.raw C_edwards25519_Scalar_SetUniformBytes 0 [v,x]) (leV x):=by
 rw[raw_valT,raw_su,leV_64 hl]
 have T1:lk 124 C_edwards25519_Scalar_SetUniformBytes.T=some (.one s_edwards25519_Scalar_setShortBytes):=rfl
 have T2:lk (10000+124) C_edwards25519_Scalar_SetUniformBytes.T=some (.one s_edwards25519_Scalar_setShortBytes_v1):=rfl
 have T3:lk 126 C_edwards25519_Scalar_SetUniformBytes.T=some (.one s_edwards25519_Scalar_Multiply):=rfl
 have T4:lk 125 C_edwards25519_Scalar_SetUniformBytes.T=some (.one s_edwards25519_Scalar_Add):=rfl
 generalize C_edwards25519_Scalar_SetUniformBytes.T=T at *
 have hA:=ss_sv T1 (v:=v) (by8_sb hx 0 21) (sb_length _ _ _)
 have hB:=ss_sv T1 (v:= [0,0,0,0]) (by8_sb hx 21 21) (sb_length _ _ _)
 have hB2:=smul_sv T3 (v:=suB T x) hB k168_sv
 have hA2:=sadd_sv T4 (v:=suA T v x) hA hB2
 have hC:=ss1_sv T2 (v:=suB2 T x) (by8_sb hx 42 22) (sb_length _ _ _)
 have hC2:=smul_sv T3 (v:=suC T x) hC k336_sv
 exact (sadd_sv T4 hA2 hC2).cut
theorem su_sv(h:lk 99 T=some (.one s_edwards25519_Scalar_SetUniformBytes)){v x:List Int}(hx:by8 x)(hl:x.length=64):SVL (gv T 99 0 [v,x]) (leV x):=gv4 h pr_sub (su_raw_sv hx hl)
end
end Go.Proofs.YtloibefkijfdlaaGreatDoor

namespace Go.Proofs.YtloibefkijfdlaaGreatDoor
open Go
theorem and248:∀ n:Fin 256,binD .and .u8 ((n.val:Nat):Int) 248=clLo ((n.val:Nat):Int):=by decide +kernel
theorem or64:∀ n:Fin 256,binD .or .u8 (binD .and .u8 ((n.val:Nat):Int) 63) 64=clHi ((n.val:Nat):Int):=by decide +kernel
theorem and248'{b:Int}(h:0≤b∧b≤255):binD .and .u8 b 248=clLo b:=by
 obtain⟨n,rfl⟩:=Int.eq_ofNat_of_zero_le h.1
 exact and248 ⟨n,by omega⟩
theorem or64'{b:Int}(h:0≤b∧b≤255):binD .or .u8 (binD .and .u8 b 63) 64=clHi b:=by
 obtain⟨n,rfl⟩:=Int.eq_ofNat_of_zero_le h.1
 exact or64 ⟨n,by omega⟩
theorem clP_eq{l:List Int}(hl:l.length=32)(h:by8 l):clP l=clB l:=by
 match l,hl with
 | [b0,b1,b2,b3,b4,b5,b6,b7,b8,b9,b10,b11,b12,b13,b14,b15,b16,b17,b18,b19,b20,b21,b22,b23,b24,b25,b26,b27,b28,b29,b30,b31],_=>
  have h0:=h b0 (by simp)
  have h31:=h b31 (by simp)
  show [binD .and .u8 b0 248,b1,b2,b3,b4,b5,b6,b7,b8,b9,b10,b11,b12,b13,b14,b15,b16,b17,b18,b19,b20,b21,b22,b23,b24,b25,b26,b27,b28,b29,b30,binD .or .u8 (binD .and .u8 b31 63) 64]= [clLo b0,b1,b2,b3,b4,b5,b6,b7,b8,b9,b10,b11,b12,b13,b14,b15,b16,b17,b18,b19,b20,b21,b22,b23,b24,b25,b26,b27,b28,b29,b30,clHi b31]
  rw[and248' h0,or64' h31]
section
variable{T:Tb}
theorem cl_sv(h:lk 95 T=some (.one s_edwards25519_Scalar_SetBytesWithClamping)){v x:List Int}(hx:by8 x)(hl:x.length=32):SVL (gv T 95 0 [v,x]) (leV (clB x)):=
 gv4 h pr_cl (by
  obtain⟨-, c1,c2⟩:=clamped_n8 hl hx
  rw[raw_valT,raw_cl,clP_eq hl hx]
  have:=su_sv (T:=C_edwards25519_Scalar_SetBytesWithClamping.T) rfl (v:=v) (by8_ap2 c2 (by8_rep 32)) (by rw[List.length_append,List.length_replicate,c1])
  rw[leV_ap2,leV_rep,Int.mul_zero,Int.add_zero] at this
  exact this.cut)
end
end Go.Proofs.YtloibefkijfdlaaGreatDoor
