/- The hash's block function by its contract is cpr: the value. A point's bytes are the reference's. A key from its seed: what lies in it. A key from its seed: the values of what lies in it. -/
import Derived.Test.YtloibefkijfdlaaGreatDoorFx
import Derived.Test.YtloibefkijfdlaaGreatDoorNd
import Derived.Test.YtloibefkijfdlaaGreatDoorPe
import Derived.Test.YtloibefkijfdlaaGreatDoorPt8
import Derived.Test.YtloibefkijfdlaaGreatDoorSb1
import Derived.Test.YtloibefkijfdlaaGreatDoorSix
import Derived.Test.YtloibefkijfdlaaGreatDoorWd
namespace Go.Proofs.YtloibefkijfdlaaGreatDoor
open Go
theorem step_n_b{bl ys:List Int}{n:Nat}{v:V8}(hn:n<80)(hy:0<ys.length):l_sha512_blockGeneric.step Cb_sha512_blockGeneric (v.ls ++ [[(n:Int)],sch bl n++ys,bl])=some (true,(rndV v (kTab.getD n 0) (wiN bl (sch bl n) n)).ls ++ [[((n+1:Nat):Int)],sch bl (n+1)++ys.drop 1,bl]):=by
 have h80:binD .lss .i64 (n:Int) 80=1:=lss_t (j:=80) hn
 by_cases h:n<16
 ·have h16:binD .lss .i64 (n:Int) 16=1:=lss_t (j:=16) h
  have:=LpI.stepP_ok (@step_lo_b v.a v.b v.c v.d v.e v.f v.g v.h (n:Int) (sch bl n++ys) bl) (fun c hc=>by
   simp only[List.mem_cons,List.not_mem_nil,or_false] at hc
   rcases hc with rfl|rfl
   ·simp[h80]
   ·simp[h16])
  have e8:binD .mul .i64 (n:Int) 8=((n*8:Nat):Int):=mi_nat (j:=n) (k:=8) (by omega)
  rw[e8,wd_nat bl (by omega),rOut_eq hn (sch_len bl n) hy] at this
  rw[show wiN bl (sch bl n) n=wdN bl (n*8) by unfold wiN; rw[if_pos h]]
  rw[show sch bl (n+1)=sch bl n ++ [wdN bl (n*8)] by show sch bl n ++ [wiN bl (sch bl n) n]=_; unfold wiN; rw[if_pos h]]
  exact this
 ·have h16:binD .lss .i64 (n:Int) 16=0:=lss_f (j:=16) (by omega)
  have:=LpI.stepP_ok (@step_hi_b v.a v.b v.c v.d v.e v.f v.g v.h (n:Int) (sch bl n++ys) bl) (fun c hc=>by
   simp only[List.mem_cons,List.not_mem_nil,or_false] at hc
   rcases hc with rfl|rfl
   ·simp[h80]
   ·simp[h16])
  rw[nw_nat (by omega) hn (sch_len bl n),rOut_eq hn (sch_len bl n) hy] at this
  rw[show wiN bl (sch bl n) n=nwN (sch bl n) n by unfold wiN; rw[if_neg h]]
  rw[show sch bl (n+1)=sch bl n ++ [nwN (sch bl n) n] by show sch bl n ++ [wiN bl (sch bl n) n]=_; unfold wiN; rw[if_neg h]]
  exact this
theorem step_80_b{bl ws:List Int}{v:V8}:l_sha512_blockGeneric.step Cb_sha512_blockGeneric (v.ls ++ [[80],ws,bl])=some (false,v.ls ++ [[80],ws,bl]):=
 LpI.stepP_ok (@step_end_b v.a v.b v.c v.d v.e v.f v.g v.h 80 ws bl) (fun c hc=>by
  simp only[List.mem_singleton] at hc
  subst hc
  exact⟨fun _=>rfl,fun _=>by decide⟩)
theorem run_n_b{bl:List Int}{v0:V8}:∀ (m n:Nat) {ys:List Int},n+m=80→ys.length=m→lpRun (l_sha512_blockGeneric.step Cb_sha512_blockGeneric) (m+1) ((rV bl v0 n).ls ++ [[(n:Int)],sch bl n++ys,bl])=(rV bl v0 80).ls ++ [[80],sch bl 80,bl]
 |0,n,ys,hn,hy=>by
  have:n=80:=by omega
  subst this
  have:ys= []:=List.eq_nil_of_length_eq_zero hy
  subst this
  rw[List.append_nil]
  unfold lpRun
  rw[show ((80:Nat):Int)=80 from rfl,step_80_b]
 |m+1,n,ys,hn,hy=>by
  unfold lpRun
  rw[step_n_b (by omega) (by omega)]
  exact run_n_b m (n+1) (by omega) (by simp[hy])
theorem run_all_b{bl ws:List Int}{v:V8}(h:ws.length=80):lpRun (l_sha512_blockGeneric.step Cb_sha512_blockGeneric) 81 (v.ls ++ [[0],ws,bl])=(rV bl v 80).ls ++ [[80],sch bl 80,bl]:=
 run_n_b (bl:=bl) (v0:=v) 80 0 (by omega) h
theorem pr_lkb:∀ k,k<8→(l_sha512_blockGeneric.sum Cb_sha512_blockGeneric (l_sha512_blockGeneric.pre Cb_sha512_blockGeneric)).pr (k+1)= .i fun a=>d1 ((l_sha512_blockGeneric.val Cb_sha512_blockGeneric a).getD k [])
 |0,_|1,_|2,_|3,_|4,_|5,_|6,_|7,_=>rfl
theorem fu_lb(a:List (List Int)):l_sha512_blockGeneric.fuel a=81:=rfl
theorem val_lb(a:List (List Int)):l_sha512_blockGeneric.val Cb_sha512_blockGeneric a=lpRun (l_sha512_blockGeneric.step Cb_sha512_blockGeneric) 81 a:=by
 unfold LpI.val
 rw[fu_lb]
theorem gv_lb(a:List (List Int)){k:Nat}(hk:k<8):gv C_sha512_blockGeneric.T (1000000+154) (k+1) a= [d1 ((lpRun (l_sha512_blockGeneric.step Cb_sha512_blockGeneric) 81 a).getD k [])]:=by
 rw[gv_one lk_blk,pr_lkb k hk, ← val_lb]
 rfl
theorem ls_at(v:V8){k:Nat}(hk:k<8):d1 (v.ls.getD k [])=v.l.getD k 0:=by
 have h:∀ x:Int,d1 [x]=x:=fun _=>rfl
 match k,hk with
 |0,_=>exact h v.a
 |1,_=>exact h v.b
 |2,_=>exact h v.c
 |3,_=>exact h v.d
 |4,_=>exact h v.e
 |5,_=>exact h v.f
 |6,_=>exact h v.g
 |7,_=>exact h v.h
theorem ls_cut{v:V8}{k:Nat}{x:List (List Int)}(h:k<8):(v.ls++x).getD k []=v.ls.getD k []:=by
 simp only[List.getD]
 rw[List.getElem?_append_left (by simpa[V8.ls] using h)]
theorem zip8b{h:List Int}(v:V8)(hh:h.length=8):((List.range 8).map fun k=>o64 .add (h.getD k 0) (v.l.getD k 0))=List.zipWith (o64 .add) h v.l:=by
 match h,hh with
 | [_,_,_,_,_,_,_,_],_=>rfl
theorem blk_cpr{h bl:List Int}(hl:h.length=8):i_sha512_blockGeneric.raw C_sha512_blockGeneric 0 [h,bl]=cpr h bl:=by
 have hgk:∀ k,k<8→(gv C_sha512_blockGeneric.T (1000000+154) (k+1) ((V8.of h).ls ++ [[0],List.replicate 80 0,bl])).getD 0 0=(rV bl (V8.of h) 80).l.getD k 0:=fun k hk=>by
  rw[gv_lb _ hk,run_all_b List.length_replicate,ls_cut hk,List.getD_cons_zero,ls_at _ hk]
 rw[raw_valT,raw_blkT]
 rw[List.map_congr_left (g:=fun k=>o64 .add (h.getD k 0) ((rV bl (V8.of h) 80).l.getD k 0)) fun k hk=>by rw[hgk k (List.mem_range.1 hk)]]
 exact zip8b _ hl
end Go.Proofs.YtloibefkijfdlaaGreatDoor

namespace Go.Proofs.YtloibefkijfdlaaGreatDoor
open Go Ma
theorem leV_octV:∀ (k n:Nat),leV (octV k n)=((n%256^k:Nat):Int)
 |0,n=>by simp[octV,leV,Nat.mod_one]
 |k+1,n=>by
  rw[octV,leV,leV_octV k,Nat.pow_succ,Nat.mul_comm (256^k),Nat.mod_mul]
  omega
def hiE:Nat:=57896044618658097711785492504343953926634992332820282019728792003956564819968
theorem enc_num(P:Pt):encP P=octV 32 (P.y.val+(bif Nat.beq (P.x.val%2) 1 then hiE else 0)):=by
 have hy:=P.y.isLt
 have hP:(PP:Nat)≤hiE:=by decide +kernel
 have h256:(256:Nat)^32=2*hiE:=by decide +kernel
 unfold encP
 by_cases ho:P.x.val%2=1
 ·rw [if_pos ho,ho]
  show _=octV 32 (P.y.val+hiE)
  obtain⟨l1,l2⟩:=hi_lt P.y
  have hl:(sb (octV 32 P.y.val) 0 31 ++ [(octV 32 P.y.val).getD 31 0+128]).length=32:=by rw[List.length_append,sb_len]; rfl
  have:=octV_ok (l:=sb (octV 32 P.y.val) 0 31 ++ [(octV 32 P.y.val).getD 31 0+128]) (n:=P.y.val+hiE) (fun x hx=> ?_) ?_
  ·rwa [hl] at this
  ·rcases List.mem_append.1 hx with h|h
   ·simp only[sb,List.mem_map] at h
    obtain⟨i,hi,rfl⟩:=h
    rw[Nat.zero_add,octV_get (by have:=List.mem_range.1 hi; omega)]
    omega
   ·have:=List.mem_singleton.1 h
    omega
  ·have e:=leV_octV 32 P.y.val
   have e2:octV 32 P.y.val=sb (octV 32 P.y.val) 0 31 ++ [(octV 32 P.y.val).getD 31 0]:=by
    have h1:=sb_id (octV_len 32 P.y.val)
    rw[← h1]
    have:sb (octV 32 P.y.val) 0 32=sb (octV 32 P.y.val) 0 31 ++ [(octV 32 P.y.val).getD 31 0]:=by
     unfold sb
     rw[List.range_succ,List.map_append]
     simp
    rw[h1]
    rw[h1] at this
    exact this
   rw[e2,leV_ap2,sb_len] at e
   rw[leV_ap2,sb_len]
   simp only[leV] at e ⊢
   rw[Nat.mod_eq_of_lt (by omega)] at e
   have h31:(256:Int)^31*128=(hiE:Int):=by decide +kernel
   generalize (octV 32 P.y.val).getD 31 0=t at *
   rw[Int.mul_zero,Int.add_zero] at e ⊢
   rw[Int.mul_add,h31,Int.natCast_add]
   omega
 ·rw[if_neg ho]
  have:Nat.beq (P.x.val%2) 1=false:=by
   cases hb:Nat.beq (P.x.val%2) 1 with
   |true=>exact absurd (nbE hb) ho
   |false=>rfl
  rw[this]
  rfl
theorem ptb_enc{T:Tb}(h:lk 104 T=some (.one s_edwards25519_Point_Bytes)){P:Pt}{l:List Int}(hP:R3 P l):gv T 104 0 [l]=encP P:=by
 obtain⟨h1,h2,h3⟩:=ptb_gv h hP
 rw[enc_num]
 refine B32.octV ⟨h2,h1,?_⟩
 rw[h3,Int.natCast_add]
 congr 1
 cases Nat.beq (P.x.val%2) 1<;>rfl
end Go.Proofs.YtloibefkijfdlaaGreatDoor

namespace Go.Proofs.YtloibefkijfdlaaGreatDoor
open Go Ma
section
variable(T:Tb)
def kP8:List Int:=gv T (70000+155) 0 [List.replicate 8 0,[256]]
def kBl(x:List Int):List Int:=sb x 0 32++128::(List.replicate 87 0++sb (kP8 T) 0 8)
def kH(x:List Int):List Int:=gv T 154 0 [H0,kBl T x]
def kq0(x:List Int):List Int:=gv T 155 0 [List.replicate 64 0,[(kH T x).getD 0 0]]
def kq1(x:List Int):List Int:=gv T (10000+155) 0 [sb (kq0 T x) 8 56,[(kH T x).getD 1 0]]
def kq2(x:List Int):List Int:=gv T (20000+155) 0 [sb (kq1 T x) 8 48,[(kH T x).getD 2 0]]
def kq3(x:List Int):List Int:=gv T (30000+155) 0 [sb (kq2 T x) 8 40,[(kH T x).getD 3 0]]
def kq4(x:List Int):List Int:=gv T (40000+155) 0 [sb (kq3 T x) 8 32,[(kH T x).getD 4 0]]
def kq5(x:List Int):List Int:=gv T (50000+155) 0 [sb (kq4 T x) 8 24,[(kH T x).getD 5 0]]
def kq6(x:List Int):List Int:=gv T (60000+155) 0 [sb (kq5 T x) 8 16,[(kH T x).getD 6 0]]
def kq7(x:List Int):List Int:=gv T (70000+155) 0 [sb (kq6 T x) 8 8,[(kH T x).getD 7 0]]
def kLo(x:List Int):List Int:=sb (kq0 T x) 0 8++(sb (kq1 T x) 0 8++(sb (kq2 T x) 0 8++sb (kq3 T x) 0 8))
def kHi(x:List Int):List Int:=sb (kq4 T x) 0 8++(sb (kq5 T x) 0 8++(sb (kq6 T x) 0 8++sb (kq7 T x) 0 8))
def kS(v x:List Int):List Int:=gv T 95 0 [sb v 64 4,kLo T x]
def kA(v x:List Int):List Int:=gv T 104 0 [gv T 105 0 [List.replicate 20 0,kS T v x]]
variable{T}
theorem raw_nk{v x:List Int}:i_ed25519_newPrivateKeyFromSeed.valT T C_ed25519_newPrivateKeyFromSeed 0 [v,x]=sb x 0 32++(sb (kA T v x) 0 32++(sb (kS T v x) 0 4++kHi T x)):=by kernel_rfl
end
end Go.Proofs.YtloibefkijfdlaaGreatDoor

namespace Go.Proofs.YtloibefkijfdlaaGreatDoor
open Go Ma
theorem sb_hd{x y:List Int}{n:Nat}(h:x.length=n):sb (x++y) 0 n=x:=by
 have:=sb_at (x:= []) (y:=x) (z:=y) (o:=0) rfl h
 simpa using this
theorem be_gv{T:Tb}{f n:Nat}{s:FSum}{i:FnI}{C:Cx}{old:List Int}{v:Int}(h:lk f T=some (.one s))(hp:s.pr 0= .l fun a=>fixL n (i.raw C 0 a))(hr:i.raw C 0 [old,[v]]=be8 v++tl8 n old)(hn:8≤n):sb (gv T f 0 [old,[v]]) 0 8=be8 v:=by
 rw[gv_one h,hp]
 show sb (fixL n (i.raw C 0 [old,[v]])) 0 8=_
 rw[hr,fixL_id (by rw[List.length_append,be8_len,tl8_len]; omega)]
 exact sb_hd (be8_len v)
theorem pr_be0:s_sha512_bePutUint64.pr 0= .l fun a=>fixL 64 (i_sha512_bePutUint64.raw C_sha512_bePutUint64 0 a):=rfl
theorem pr_be1:s_sha512_bePutUint64_v1.pr 0= .l fun a=>fixL 56 (i_sha512_bePutUint64_v1.raw C_sha512_bePutUint64_v1 0 a):=rfl
theorem pr_be2:s_sha512_bePutUint64_v2.pr 0= .l fun a=>fixL 48 (i_sha512_bePutUint64_v2.raw C_sha512_bePutUint64_v2 0 a):=rfl
theorem pr_be3:s_sha512_bePutUint64_v3.pr 0= .l fun a=>fixL 40 (i_sha512_bePutUint64_v3.raw C_sha512_bePutUint64_v3 0 a):=rfl
theorem pr_be4:s_sha512_bePutUint64_v4.pr 0= .l fun a=>fixL 32 (i_sha512_bePutUint64_v4.raw C_sha512_bePutUint64_v4 0 a):=rfl
theorem pr_be5:s_sha512_bePutUint64_v5.pr 0= .l fun a=>fixL 24 (i_sha512_bePutUint64_v5.raw C_sha512_bePutUint64_v5 0 a):=rfl
theorem pr_be6:s_sha512_bePutUint64_v6.pr 0= .l fun a=>fixL 16 (i_sha512_bePutUint64_v6.raw C_sha512_bePutUint64_v6 0 a):=rfl
theorem pr_be7:s_sha512_bePutUint64_v7.pr 0= .l fun a=>fixL 8 (i_sha512_bePutUint64_v7.raw C_sha512_bePutUint64_v7 0 a):=rfl
theorem pr_blk:s_sha512_blockGeneric.pr 0= .l fun a=>fixL 8 (i_sha512_blockGeneric.raw C_sha512_blockGeneric 0 a):=rfl
theorem out8_8{h:List Int}(hl:h.length=8):out8 h=be8 (h.getD 0 0)++(be8 (h.getD 1 0)++(be8 (h.getD 2 0)++be8 (h.getD 3 0)))++(be8 (h.getD 4 0)++(be8 (h.getD 5 0)++(be8 (h.getD 6 0)++be8 (h.getD 7 0)))):=by
 match h,hl with
 | [_,_,_,_,_,_,_,_],_=>rfl
theorem sha_32{x:List Int}(hl:x.length=32):sha x=out8 (cpr H0 (x++pad 32)):=by
 have hp:(x++pad 32).length=128:=by rw[List.length_append,hl]; rfl
 unfold sha hst
 rw[hl,hp]
 show out8 (cpr H0 ((x++pad 32).take 128))=_
 rw[List.take_of_length_le (by omega)]
def sdN(x:List Int):Int:=leV (clB ((sha x).take 32))
theorem sha_by8(x:List Int):by8 (sha x):=fun y hy=>sha_rng y hy
theorem take32(x:List Int):((sha x).take 32).length=32:=by rw[List.length_take,sha_len]; rfl
theorem take32_8(x:List Int):by8 ((sha x).take 32):=fun y hy=>sha_by8 x y (List.mem_of_mem_take hy)
theorem encP_len(P:Pt):(encP P).length=32:=by rw[enc_num]; exact octV_len _ _
theorem nk_val{v x:List Int}(hl:x.length=32):∃ s,i_ed25519_newPrivateKeyFromSeed.raw C_ed25519_newPrivateKeyFromSeed 0 [v,x]=x++(encP (ptB.zm (sdN x))++(s++(sha x).drop 32))∧SVL s (sdN x):=by
 rw[raw_valT,raw_nk]
 have T1:lk 155 C_ed25519_newPrivateKeyFromSeed.T=some (.one s_sha512_bePutUint64):=by kernel_rfl
 have U1:lk (10000+155) C_ed25519_newPrivateKeyFromSeed.T=some (.one s_sha512_bePutUint64_v1):=by kernel_rfl
 have U2:lk (20000+155) C_ed25519_newPrivateKeyFromSeed.T=some (.one s_sha512_bePutUint64_v2):=by kernel_rfl
 have U3:lk (30000+155) C_ed25519_newPrivateKeyFromSeed.T=some (.one s_sha512_bePutUint64_v3):=by kernel_rfl
 have U4:lk (40000+155) C_ed25519_newPrivateKeyFromSeed.T=some (.one s_sha512_bePutUint64_v4):=by kernel_rfl
 have U5:lk (50000+155) C_ed25519_newPrivateKeyFromSeed.T=some (.one s_sha512_bePutUint64_v5):=by kernel_rfl
 have U6:lk (60000+155) C_ed25519_newPrivateKeyFromSeed.T=some (.one s_sha512_bePutUint64_v6):=by kernel_rfl
 have U7:lk (70000+155) C_ed25519_newPrivateKeyFromSeed.T=some (.one s_sha512_bePutUint64_v7):=by kernel_rfl
 have T2:lk 154 C_ed25519_newPrivateKeyFromSeed.T=some (.one s_sha512_blockGeneric):=by kernel_rfl
 have T3:lk 95 C_ed25519_newPrivateKeyFromSeed.T=some (.one s_edwards25519_Scalar_SetBytesWithClamping):=by kernel_rfl
 have T4:lk 105 C_ed25519_newPrivateKeyFromSeed.T=some (.one s_edwards25519_Point_ScalarBaseMult):=by kernel_rfl
 have T5:lk 104 C_ed25519_newPrivateKeyFromSeed.T=some (.one s_edwards25519_Point_Bytes):=by kernel_rfl
 generalize C_ed25519_newPrivateKeyFromSeed.T=T at *
 have hP8:sb (kP8 T) 0 8=be8 256:=be_gv U7 pr_be7 raw_be7 (by decide)
 have hBl:kBl T x=x++pad 32:=by
  unfold kBl
  rw[hP8,sb_id hl]
  rfl
 have hH:kH T x=cpr H0 (x++pad 32):=by
  unfold kH
  rw[hBl,gv_one T2,pr_blk]
  show fixL 8 (i_sha512_blockGeneric.raw C_sha512_blockGeneric 0 [H0,x++pad 32])=_
  rw[blk_cpr rfl]
  exact fixL_id (cpr_len rfl)
 have hHl:(kH T x).length=8:=by rw[hH]; exact cpr_len rfl
 have q0:sb (kq0 T x) 0 8=be8 ((kH T x).getD 0 0):=be_gv T1 pr_be0 raw_be0 (by decide)
 have q1:sb (kq1 T x) 0 8=be8 ((kH T x).getD 1 0):=be_gv U1 pr_be1 raw_be1 (by decide)
 have q2:sb (kq2 T x) 0 8=be8 ((kH T x).getD 2 0):=be_gv U2 pr_be2 raw_be2 (by decide)
 have q3:sb (kq3 T x) 0 8=be8 ((kH T x).getD 3 0):=be_gv U3 pr_be3 raw_be3 (by decide)
 have q4:sb (kq4 T x) 0 8=be8 ((kH T x).getD 4 0):=be_gv U4 pr_be4 raw_be4 (by decide)
 have q5:sb (kq5 T x) 0 8=be8 ((kH T x).getD 5 0):=be_gv U5 pr_be5 raw_be5 (by decide)
 have q6:sb (kq6 T x) 0 8=be8 ((kH T x).getD 6 0):=be_gv U6 pr_be6 raw_be6 (by decide)
 have q7:sb (kq7 T x) 0 8=be8 ((kH T x).getD 7 0):=be_gv U7 pr_be7 raw_be7 (by decide)
 have hs:sha x=kLo T x++kHi T x:=by
  rw[sha_32 hl, ← hH,out8_8 hHl]
  unfold kLo kHi
  rw[q0,q1,q2,q3,q4,q5,q6,q7]
 have hLl:(kLo T x).length=32:=by unfold kLo; simp[sb_len]
 have hLo:kLo T x=(sha x).take 32:=by rw[hs, ← hLl,List.take_left]
 have hHi:kHi T x=(sha x).drop 32:=by rw[hs, ← hLl,List.drop_left]
 have hS:SVL (kS T v x) (sdN x):=by
  unfold kS sdN
  rw[hLo]
  exact cl_sv T3 (take32_8 x) (take32 x)
 have hA:kA T v x=encP (ptB.zm (sdN x)):=ptb_enc T5 (sbm_sv T4 hS)
 refine⟨kS T v x,?_,hS⟩
 rw[hA,hHi,sb_id hl,sb_id (encP_len _),sb_id hS.len]
theorem nkF_val{x:List Int}(hl:x.length=32):∃ s,nkF x=x++(encP (ptB.zm (sdN x))++(s++(sha x).drop 32))∧SVL s (sdN x):=by
 obtain⟨s,h1,h2⟩:=nk_val (v:=pk0) hl
 refine⟨s,?_,h2⟩
 rw[nkF_eq,h1]
 refine fixL_id ?_
 simp only[List.length_append,List.length_drop,sha_len,encP_len,h2.len,hl]
theorem nkF_cut{x:List Int}(hl:x.length=32):cp (nkF x) 0 64=x++encP (ptB.zm (sdN x))∧cp (nkF x) 0 32=x∧cp (nkF x) 32 32=encP (ptB.zm (sdN x)):=by
 obtain⟨s,h,-⟩:=nkF_val hl
 rw[h]
 refine⟨?_,cp_app hl,sb_at hl (encP_len _)⟩
 rw[← List.append_assoc]
 exact cp_app (by rw[List.length_append,hl,encP_len])
end Go.Proofs.YtloibefkijfdlaaGreatDoor
