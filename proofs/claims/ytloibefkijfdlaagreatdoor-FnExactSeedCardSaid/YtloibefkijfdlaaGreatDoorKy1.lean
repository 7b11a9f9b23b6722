/- A key from a seed: nothing is owed (printed by mkky.py). -/
import Derived.Test.YtloibefkijfdlaaGreatDoorDw
import Derived.Test.YtloibefkijfdlaaGreatDoorPb
import Derived.Test.YtloibefkijfdlaaGreatDoorSd
import Derived.Test.YtloibefkijfdlaaGreatDoorShx
namespace Go.Proofs.YtloibefkijfdlaaGreatDoor
open Go Ma
theorem t_bp64:bkFn (tfW []) noO i_sha512_bePutUint64 C_sha512_bePutUint64 [some (by1s 64),none]=some [List.replicate 64 (.a 1 .y)]:=by kernel_rfl
theorem kw_bp64{T:Tb}(h:lk 155 T=some (.one s_sha512_bePutUint64)):KW.Ok T 155 (.bp 64):=wBp (i:=i_sha512_bePutUint64) (C:=C_sha512_bePutUint64) h rfl t_bp64
theorem t_bp56:bkFn (tfW []) noO i_sha512_bePutUint64_v1 C_sha512_bePutUint64_v1 [some (by1s 56),none]=some [List.replicate 56 (.a 1 .y)]:=by kernel_rfl
theorem kw_bp56{T:Tb}(h:lk (10000+155) T=some (.one s_sha512_bePutUint64_v1)):KW.Ok T (10000+155) (.bp 56):=wBp (i:=i_sha512_bePutUint64_v1) (C:=C_sha512_bePutUint64_v1) h rfl t_bp56
theorem t_bp48:bkFn (tfW []) noO i_sha512_bePutUint64_v2 C_sha512_bePutUint64_v2 [some (by1s 48),none]=some [List.replicate 48 (.a 1 .y)]:=by kernel_rfl
theorem kw_bp48{T:Tb}(h:lk (20000+155) T=some (.one s_sha512_bePutUint64_v2)):KW.Ok T (20000+155) (.bp 48):=wBp (i:=i_sha512_bePutUint64_v2) (C:=C_sha512_bePutUint64_v2) h rfl t_bp48
theorem t_bp40:bkFn (tfW []) noO i_sha512_bePutUint64_v3 C_sha512_bePutUint64_v3 [some (by1s 40),none]=some [List.replicate 40 (.a 1 .y)]:=by kernel_rfl
theorem kw_bp40{T:Tb}(h:lk (30000+155) T=some (.one s_sha512_bePutUint64_v3)):KW.Ok T (30000+155) (.bp 40):=wBp (i:=i_sha512_bePutUint64_v3) (C:=C_sha512_bePutUint64_v3) h rfl t_bp40
theorem t_bp32:bkFn (tfW []) noO i_sha512_bePutUint64_v4 C_sha512_bePutUint64_v4 [some (by1s 32),none]=some [List.replicate 32 (.a 1 .y)]:=by kernel_rfl
theorem kw_bp32{T:Tb}(h:lk (40000+155) T=some (.one s_sha512_bePutUint64_v4)):KW.Ok T (40000+155) (.bp 32):=wBp (i:=i_sha512_bePutUint64_v4) (C:=C_sha512_bePutUint64_v4) h rfl t_bp32
theorem t_bp24:bkFn (tfW []) noO i_sha512_bePutUint64_v5 C_sha512_bePutUint64_v5 [some (by1s 24),none]=some [List.replicate 24 (.a 1 .y)]:=by kernel_rfl
theorem kw_bp24{T:Tb}(h:lk (50000+155) T=some (.one s_sha512_bePutUint64_v5)):KW.Ok T (50000+155) (.bp 24):=wBp (i:=i_sha512_bePutUint64_v5) (C:=C_sha512_bePutUint64_v5) h rfl t_bp24
theorem t_bp16:bkFn (tfW []) noO i_sha512_bePutUint64_v6 C_sha512_bePutUint64_v6 [some (by1s 16),none]=some [List.replicate 16 (.a 1 .y)]:=by kernel_rfl
theorem kw_bp16{T:Tb}(h:lk (60000+155) T=some (.one s_sha512_bePutUint64_v6)):KW.Ok T (60000+155) (.bp 16):=wBp (i:=i_sha512_bePutUint64_v6) (C:=C_sha512_bePutUint64_v6) h rfl t_bp16
theorem t_bp8:bkFn (tfW []) noO i_sha512_bePutUint64_v7 C_sha512_bePutUint64_v7 [some (by1s 8),none]=some [List.replicate 8 (.a 1 .y)]:=by kernel_rfl
theorem kw_bp8{T:Tb}(h:lk (70000+155) T=some (.one s_sha512_bePutUint64_v7)):KW.Ok T (70000+155) (.bp 8):=wBp (i:=i_sha512_bePutUint64_v7) (C:=C_sha512_bePutUint64_v7) h rfl t_bp8
theorem len_of{T:Tb}{f n:Nat}{s:FSum}{F:List (List Int)→List Int}(h:lk f T=some (.one s))(ho:s.pr 0= .l fun a=>fixL n (F a))(args:List (List Int)):(gv T f 0 args).length=n:=by
 have e:gv T f 0 args=fixL n (F args):=by
  simp only[gv,DOp.den,h]
  show (s.pr 0).den args=_
  rw[ho]; rfl
 rw[e]; exact fixL_len _ _
theorem kw_blk{T:Tb}(h:lk 154 T=some (.one s_sha512_blockGeneric)):KW.Ok T 154 (.an2 8):=fun a b=>⟨blk_pre h [a,b],len_of (F:=fun a=>i_sha512_blockGeneric.raw C_sha512_blockGeneric 0 a) h rfl [a,b]⟩
theorem kw_sbm{T:Tb}(h:lk 105 T=some (.one s_edwards25519_Point_ScalarBaseMult)):KW.Ok T 105 .sbm:=fun _v _a ha=>sbm_ok h ha
theorem kw_ptb{T:Tb}(h:lk 104 T=some (.one s_edwards25519_Point_Bytes)):KW.Ok T 104 .ptb:=fun a _P hP=>⟨ptb_pay h hP,len_of (F:=fun a=>i_edwards25519_Point_Bytes.raw C_edwards25519_Point_Bytes 0 a) h rfl [a]⟩
theorem wPay{T:Tb}{f:Nat}{M:List (Nat×KW)}{i:FnI}{C:Cx}{bin:List (Option (List (Nat×WX)))}(hs:lk f T=some (.one (i.sumP C)))(hM:MW C.T M)(h:(bkFn (tfW M) noO i C bin).isSome=true){ins:List (List Int)}(hin:InB γW bin ins):Pay T f ins:=⟨⟨_,hs,wEv hM h hin⟩⟩
def M_ky:List (Nat×KW):= [(155,.bp 64),((10000+155),.bp 56),((20000+155),.bp 48),((30000+155),.bp 40),((40000+155),.bp 32),((50000+155),.bp 24),((60000+155),.bp 16),((70000+155),.bp 8),(154,.an2 8),(95,.yn 32),(105,.sbm),(104,.ptb)]
theorem M_ky_ok:MW C_ed25519_newPrivateKeyFromSeed.T M_ky:=(.cons (kw_bp64 rfl) (.cons (kw_bp56 rfl) (.cons (kw_bp48 rfl) (.cons (kw_bp40 rfl) (.cons (kw_bp32 rfl) (.cons (kw_bp24 rfl) (.cons (kw_bp16 rfl) (.cons (kw_bp8 rfl) (.cons (kw_blk rfl) (.cons (kw_cl rfl) (.cons (kw_sbm rfl) (.cons (kw_ptb rfl) .nil))))))))))))
theorem t_ky:(bkFn (tfW M_ky) noO i_ed25519_newPrivateKeyFromSeed C_ed25519_newPrivateKeyFromSeed [none,none]).isSome=true:=by kernel_rfl
theorem ky_pay{T:Tb}(h:lk 64 T=some (.one s_ed25519_newPrivateKeyFromSeed))(v a:List Int):Pay T 64 [v,a]:=by
 have hI:InB γW [none,none] [v,a]:=.no (.no .nil)
 exact wPay (i:=i_ed25519_newPrivateKeyFromSeed) (C:=C_ed25519_newPrivateKeyFromSeed) h M_ky_ok t_ky hI
end Go.Proofs.YtloibefkijfdlaaGreatDoor
