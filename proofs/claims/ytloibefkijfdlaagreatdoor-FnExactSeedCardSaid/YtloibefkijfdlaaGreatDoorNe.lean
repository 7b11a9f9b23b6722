/- Contracts of the reference: the hash's block. The reference's hash block is the program's. The reference's hash block: its value, and its contract. -/
import Derived.Test.YtloibefkijfdlaaGreatDoorFe2
import Derived.Test.YtloibefkijfdlaaGreatDoorNc
import Derived.Test.YtloibefkijfdlaaGreatDoorNd
import Derived.Test.YtloibefkijfdlaaGreatDoorSax
namespace Go.Proofs.YtloibefkijfdlaaGreatDoor
open Go
def U80:List IntKind:=List.replicate 80 .u64
section
variable{GB:Nat}{GC:Nat→Nat→Option Value}{ad:Nat→Nat×Nat}(hG:GOk GB GC ad)
include hG
noncomputable def i_spec_turned:FnI:=⟨6000,bodyOf Tryz.f90,Tryz.f90.ntmps,Tryz.f90.results.toList,[],⟨[.int .u64,.int .i64],false,fun _=>True,[],[],[.int .u64 z0]⟩⟩
noncomputable def C_spec_turned:Cx:=mkC [] []
noncomputable def s_spec_turned:FSum:=i_spec_turned.sumP C_spec_turned
theorem ok_spec_turned:FEOk Tryz.prog GB GC 90 (.one s_spec_turned):=FnI.finP hG .nil .nil Tryz.func90 rfl rfl rfl (.inl rfl) (by kernel_rfl)
noncomputable def i_spec_rounds:FnI:=⟨6000,bodyOf Tryz.f89,Tryz.f89.ntmps,Tryz.f89.results.toList,[],⟨[],false,fun _=>True,[],[],[.agg U80 z1]⟩⟩
noncomputable def C_spec_rounds:Cx:=mkC [] []
noncomputable def s_spec_rounds:FSum:=i_spec_rounds.sum C_spec_rounds
theorem ok_spec_rounds:FEOk Tryz.prog GB GC 89 (.one s_spec_rounds):=FnI.fin hG .nil .nil Tryz.func89 rfl rfl rfl (.inl rfl) (by kernel_rfl)
end
noncomputable def l_spec_schedule:LpI:=⟨6000,loopIn 2 (bodyOf Tryz.f88),Tryz.f88.ntmps,2,[],⟨[.int .i64,.mem U80 1 true],true,fun _=>True,[(1,U80,z1)],[],[]⟩,[5,3],[6,7,27,28,29,30,31,32,33,34,35,36,37,38,39,40,41,42,43,44,45,46,47,48,49,50,51,52,53,54,55,56,57,58,59,60,61,62,63,64,65,66,67],fun _=>65⟩
noncomputable def Cb_spec_schedule:Cx:=mkC [(90,.one s_spec_turned)] []
noncomputable def i_spec_schedule:FnI:=⟨6000,bodyOf Tryz.f88,Tryz.f88.ntmps,Tryz.f88.results.toList,[],⟨[.sl (List.replicate 128 .u8) 0 false],true,fun _=>True,[],[],[.agg U80 z1]⟩⟩
noncomputable def C_spec_schedule:Cx:=mkCL [(1000000+88,.one (l_spec_schedule.sum Cb_spec_schedule (l_spec_schedule.pre Cb_spec_schedule)))] [] [(l_spec_schedule.id,⟨1000000+88,l_spec_schedule.ps,l_spec_schedule.ss,l_spec_schedule.cl,l_spec_schedule.nt⟩)]
noncomputable def s_spec_schedule:FSum:= { i_spec_schedule.sumH C_spec_schedule (fun _=>True) with hp:=false }
theorem chkl_spec_schedule:l_spec_schedule.chk Cb_spec_schedule=true:=by kernel_rfl
theorem chk_spec_schedule:i_spec_schedule.chk C_spec_schedule=true:=by kernel_rfl
noncomputable def l_spec_compressed:LpI:=⟨6000,loopIn 0 (bodyOf Tryz.f69),Tryz.f69.ntmps,0,[],⟨[.int .i64,.mem U8 1 true,.mem U80 2 false,.mem U80 3 false],true,fun _=>True,[(1,U8,z1)],[],[]⟩,[8,7,6,5],[9,10,11,12,18,19,20,21,22,23,24,25,26,27,28,29,30,31,32,33,34,35,36,37,38,39,40,41,42,43,44,45,46,47,48,49,50,51,52,53,54,55,56,57,58,59,60,61,62,63,64,65,66,67,68,69,70,71,72,73,74,75,76,77,78,79,80,81,82,83,84,85,86,87,88,89,90,91,92,93,94,95,96,97],fun _=>81⟩
noncomputable def Cb_spec_compressed:Cx:=mkC [(90,.one s_spec_turned)] []
noncomputable def i_spec_compressed:FnI:=⟨6000,bodyOf Tryz.f69,Tryz.f69.ntmps,Tryz.f69.results.toList,[],⟨[.agg U8,.sl (List.replicate 128 .u8) 0 false],true,fun _=>True,[],[],[.agg U8 z1]⟩⟩
noncomputable def C_spec_compressed:Cx:=mkCL ((1000000+69,.one (l_spec_compressed.sum Cb_spec_compressed (l_spec_compressed.pre Cb_spec_compressed))) :: [(88,.one s_spec_schedule),(89,.one s_spec_rounds)]) [] [(l_spec_compressed.id,⟨1000000+69,l_spec_compressed.ps,l_spec_compressed.ss,l_spec_compressed.cl,l_spec_compressed.nt⟩)]
noncomputable def s_spec_compressed:FSum:= { i_spec_compressed.sumH C_spec_compressed (fun _=>True) with hp:=false }
theorem chkl_spec_compressed:l_spec_compressed.chk Cb_spec_compressed=true:=by kernel_rfl
theorem chk_spec_compressed:i_spec_compressed.chk C_spec_compressed=true:=by kernel_rfl
end Go.Proofs.YtloibefkijfdlaaGreatDoor

namespace Go.Proofs.YtloibefkijfdlaaGreatDoor
open Go
def preR(x n:Int):Prop:=s_spec_turned.pre [[x],[n]]
def tR(T:Tb)(x n:Int):Int:=(gv T 90 0 [[x],[n]]).getD 0 0
theorem raw_turned{x n:Int}:i_spec_turned.raw C_spec_turned 0 [[x],[n]]= [o64 .or (o64 .shr x n) (o64 .shl x (binD .sub .i64 64 n))]:=by kernel_rfl
theorem ob_turned{x n:Int}:evObX C_spec_turned.T (i_spec_turned.tree C_spec_turned) (insE [[x],[n]])=(0≤n∧0≤binD .sub .i64 64 n∧True):=by kernel_rfl
theorem sub64n{n:Int}(h0:0≤n)(h1:n≤64):binD .sub .i64 64 n=64-n:=by
 show IntKind.i64.wrap (64-n)=_
 exact wr64 (by omega) (by omega)
theorem pre_R{x n:Int}(h0:0≤n)(h1:n≤64):preR x n:=by
 show evOb C_spec_turned.T (i_spec_turned.tree C_spec_turned) (insE [[x],[n]])
 refine evObX_ok ?_
 rw[ob_turned,sub64n h0 h1]
 exact⟨h0,by omega,trivial⟩
theorem or_comm64(x y:Int):o64 .or x y=o64 .or y x:=by
 show bitsD .or .u64 x y=bitsD .or .u64 y x
 unfold bitsD
 simp only[BitVec.or_comm]
theorem pr_turned:s_spec_turned.pr 0= .i fun a=>d1 (i_spec_turned.raw C_spec_turned 0 a):=rfl
theorem tR_rl{T:Tb}(h:lk 90 T=some (.one s_spec_turned)){x n:Int}(h0:0≤n)(h1:n≤64):tR T x n=rl x (64-n):=by
 unfold tR
 rw[gv_one h,pr_turned]
 show d1 (i_spec_turned.raw C_spec_turned 0 [[x],[n]])=_
 rw[raw_turned,sub64n h0 h1]
 show o64 .or _ _=_
 unfold rl
 rw[or_comm64,show 64-(64-n)=n by omega]
theorem ob_gen2{X A c:Prop}[Decidable c](h:X=if c then True else A)(hc:¬ c)(hA:A):X:=by
 rw[h,if_neg hc]
 exact hA
theorem ob_gen3{X A c:Prop}[Decidable c](h:X=if c then True else A)(hc:c):X:=by
 rw[h,if_pos hc]
 trivial
def oneR(T:Tb)(v:List Int)(k w:Int):Int:=
 o64 .add (o64 .add (o64 .add (o64 .add (v.getD 7 0) (o64 .xor (o64 .xor (tR T (v.getD 4 0) 14) (tR T (v.getD 4 0) 18)) (tR T (v.getD 4 0) 41))) (o64 .xor (o64 .and (v.getD 4 0) (v.getD 5 0)) (o64 .and (o64 .xor 18446744073709551615 (v.getD 4 0)) (v.getD 6 0)))) k) w
def twoR(T:Tb)(v:List Int):Int:=
 o64 .add (o64 .xor (o64 .xor (tR T (v.getD 0 0) 28) (tR T (v.getD 0 0) 34)) (tR T (v.getD 0 0) 39)) (o64 .xor (o64 .xor (o64 .and (v.getD 0 0) (v.getD 1 0)) (o64 .and (v.getD 0 0) (v.getD 2 0))) (o64 .and (v.getD 1 0) (v.getD 2 0)))
def rdR(T:Tb)(v:List Int)(k w:Int):List Int:= [o64 .add (oneR T v k w) (twoR T v),v.getD 0 0,v.getD 1 0,v.getD 2 0,o64 .add (v.getD 3 0) (oneR T v k w),v.getD 4 0,v.getD 5 0,v.getD 6 0]
theorem st_compressed{T:Tb}{i:Int}{v k w:List Int}:stX T l_spec_compressed (l_spec_compressed.tree Cb_spec_compressed) (insE [[i],v,k,w])=if b01 (decide (i<80))=0 then some (false,[[i],v,k,w]) else some (true,[[ai i 1],rdR T v (wat k i) (wat w i),k,w]):=by kernel_rfl
theorem ob_compressedl{i:Int}{v k w:List Int}:evObX Cb_spec_compressed.T (l_spec_compressed.tree Cb_spec_compressed) (insE [[i],v,k,w])=if b01 (decide (i<80))=0 then True else
  (preR (v.getD 4 0) 14∧preR (v.getD 4 0) 18∧preR (v.getD 4 0) 41∧(0≤i∧i<((80:Nat):Int))∧(0≤i∧i<((80:Nat):Int))∧preR (v.getD 0 0) 28∧preR (v.getD 0 0) 34∧preR (v.getD 0 0) 39∧True):=by kernel_rfl
theorem lk_tc:lk 90 Cb_spec_compressed.T=some (.one s_spec_turned):=by kernel_rfl
theorem rd_eq{T:Tb}(h:lk 90 T=some (.one s_spec_turned)){v:List Int}{k w:Int}:rdR T v k w=(rndV (V8.of v) k w).l:=by
 have a1:=tR_rl h (x:=v.getD 4 0) (n:=14) (by decide) (by decide)
 have a2:=tR_rl h (x:=v.getD 4 0) (n:=18) (by decide) (by decide)
 have a3:=tR_rl h (x:=v.getD 4 0) (n:=41) (by decide) (by decide)
 have b1:=tR_rl h (x:=v.getD 0 0) (n:=28) (by decide) (by decide)
 have b2:=tR_rl h (x:=v.getD 0 0) (n:=34) (by decide) (by decide)
 have b3:=tR_rl h (x:=v.getD 0 0) (n:=39) (by decide) (by decide)
 unfold rdR oneR twoR
 rw[a1,a2,a3,b1,b2,b3]
 rfl
theorem lt80{n:Nat}(h:n<80):¬ b01 (decide ((n:Int)<80))=0:=fun e=>b01_0.1 e (by omega)
theorem nlt80:b01 (decide (((80:Nat):Int)<80))=0:=by decide
theorem ai_1{n:Nat}(h:n<80):ai (n:Int) 1=((n+1:Nat):Int):=ai_nat (j:=n) (k:=1) (by omega)
section
variable{v k w:List Int}{n:Nat}
theorem sc_end:l_spec_compressed.step Cb_spec_compressed [[((80:Nat):Int)],v,k,w]=some (false,[[((80:Nat):Int)],v,k,w]):=by rw[step_stX,st_compressed,if_pos nlt80]
theorem sc_go(hn:n<80):l_spec_compressed.step Cb_spec_compressed [[(n:Int)],v,k,w]=some (true,[[((n+1:Nat):Int)],(rndV (V8.of v) (k.getD n 0) (w.getD n 0)).l,k,w]):=by
 rw[step_stX,st_compressed,if_neg (lt80 hn),ai_1 hn,rd_eq lk_tc,wat_nat,wat_nat]
theorem soc_end:evOb Cb_spec_compressed.T (l_spec_compressed.tree Cb_spec_compressed) (insE [[((80:Nat):Int)],v,k,w]):=evObX_ok (ob_gen3 ob_compressedl nlt80)
theorem soc_go(hn:n<80):evOb Cb_spec_compressed.T (l_spec_compressed.tree Cb_spec_compressed) (insE [[(n:Int)],v,k,w]):=evObX_ok (ob_gen2 ob_compressedl (lt80 hn) ⟨pre_R (by decide) (by decide),pre_R (by decide) (by decide),pre_R (by decide) (by decide),⟨by omega,by omega⟩,⟨by omega,by omega⟩,pre_R (by decide) (by decide),pre_R (by decide) (by decide),pre_R (by decide) (by decide),trivial⟩)
end
theorem com_ob:∀ (m n:Nat) {f:Nat} {v k w:List Int},n+m=80→m<f→lpOb (l_spec_compressed.step Cb_spec_compressed) (fun ins=>evOb Cb_spec_compressed.T (l_spec_compressed.tree Cb_spec_compressed) (insE ins)) f [[(n:Int)],v,k,w]
 |_,_,0,_,_,_,_,h=>by omega
 |0,n,f+1,v,k,w,hn,_=>by
  have:n=80:=by omega
  subst this
  exact lpOb_end soc_end sc_end
 |m+1,n,f+1,v,k,w,hn,hf=>lpOb_go (soc_go (by omega)) (sc_go (by omega)) (com_ob m (n+1) (by omega) (by omega))
def rW(k w:List Int):Nat→Nat→V8→V8
 |0,_,v=>v
 |m+1,n,v=>rW k w m (n+1) (rndV v (k.getD n 0) (w.getD n 0))
theorem of_l(v:V8):V8.of v.l=v:=rfl
theorem com_run:∀ (m n:Nat) {f:Nat} {v:V8} {k w:List Int},n+m=80→m<f→(lpRun (l_spec_compressed.step Cb_spec_compressed) f [[(n:Int)],v.l,k,w]).getD 1 []=(rW k w m n v).l
 |_,_,0,_,_,_,_,h=>by omega
 |0,n,f+1,v,k,w,hn,_=>by
  have:n=80:=by omega
  subst this
  rw[lpRun_end sc_end]
  rfl
 |m+1,n,f+1,v,k,w,hn,hf=>by
  rw[lpRun_go (sc_go (by omega)),of_l]
  exact com_run m (n+1) (by omega) (by omega)
def nwR(T:Tb)(w:List Int)(i:Int):Int:=
 o64 .add (o64 .add (o64 .add (wat w (si i 16)) (wat w (si i 7))) (o64 .xor (o64 .xor (tR T (wat w (si i 15)) 1) (tR T (wat w (si i 15)) 8)) (o64 .shr (wat w (si i 15)) 7))) (o64 .xor (o64 .xor (tR T (wat w (si i 2)) 19) (tR T (wat w (si i 2)) 61)) (o64 .shr (wat w (si i 2)) 6))
theorem st_schedule{T:Tb}{i:Int}{w:List Int}:stX T l_spec_schedule (l_spec_schedule.tree Cb_spec_schedule) (insE [[i],w])=if b01 (decide (i<80))=0 then some (false,[[i],w]) else some (true,[[ai i 1],w.set i.toNat (nwR T w i)]):=by kernel_rfl
theorem ob_schedulel{i:Int}{w:List Int}:evObX Cb_spec_schedule.T (l_spec_schedule.tree Cb_spec_schedule) (insE [[i],w])=if b01 (decide (i<80))=0 then True else
  ((0≤si i 15∧si i 15<((80:Nat):Int))∧(0≤si i 2∧si i 2<((80:Nat):Int))∧(0≤si i 16∧si i 16<((80:Nat):Int))∧(0≤si i 7∧si i 7<((80:Nat):Int))∧preR (wat w (si i 15)) 1∧preR (wat w (si i 15)) 8∧preR (wat w (si i 2)) 19∧preR (wat w (si i 2)) 61∧(0≤i∧i<((80:Nat):Int))∧True):=by kernel_rfl
theorem lk_ts:lk 90 Cb_spec_schedule.T=some (.one s_spec_turned):=by kernel_rfl
theorem u64_mod(x:Int):IntKind.u64.wrap x=x%18446744073709551616:=by
 simp[IntKind.wrap,IntKind.bits,IntKind.signed]
theorem add4(a b c d:Int):o64 .add (o64 .add (o64 .add a b) c) d=o64 .add (o64 .add (o64 .add d b) c) a:=by
 show IntKind.u64.wrap (IntKind.u64.wrap (IntKind.u64.wrap (a+b)+c)+d)=IntKind.u64.wrap (IntKind.u64.wrap (IntKind.u64.wrap (d+b)+c)+a)
 rw[u64_mod,u64_mod,u64_mod,u64_mod,u64_mod,u64_mod]
 omega
theorem nwR_eq{ws ys:List Int}{n:Nat}(h:16≤n)(h2:n<80)(hl:ws.length=n):nwR Cb_spec_schedule.T (ws++ys) (n:Int)=nwN ws n:=by
 rw[← nw_nat (ys:=ys) h h2 hl]
 unfold nwR nw
 rw[tR_rl lk_ts (by decide) (by decide),tR_rl lk_ts (by decide) (by decide),tR_rl lk_ts (by decide) (by decide),tR_rl lk_ts (by decide) (by decide),add4]
 rfl
theorem si_rng{n:Nat}(h:16≤n)(h2:n<80)(k:Nat)(hk:k≤16)(h0:0<k):0≤si (n:Int) (k:Int)∧si (n:Int) (k:Int)<((80:Nat):Int):=by
 rw[si_nat (by omega) (by omega)]
 omega
section
variable{w:List Int}{n:Nat}
theorem ssc_end:l_spec_schedule.step Cb_spec_schedule [[((80:Nat):Int)],w]=some (false,[[((80:Nat):Int)],w]):=by rw[step_stX,st_schedule,if_pos nlt80]
theorem ssc_go(hn:n<80):l_spec_schedule.step Cb_spec_schedule [[(n:Int)],w]=some (true,[[((n+1:Nat):Int)],w.set n (nwR Cb_spec_schedule.T w (n:Int))]):=by
 rw[step_stX,st_schedule,if_neg (lt80 hn),ai_1 hn,Int.toNat_natCast]
theorem sos_end:evOb Cb_spec_schedule.T (l_spec_schedule.tree Cb_spec_schedule) (insE [[((80:Nat):Int)],w]):=evObX_ok (ob_gen3 ob_schedulel nlt80)
theorem sos_go(h:16≤n)(hn:n<80):evOb Cb_spec_schedule.T (l_spec_schedule.tree Cb_spec_schedule) (insE [[(n:Int)],w]):=evObX_ok (ob_gen2 ob_schedulel (lt80 hn)
 ⟨si_rng h hn 15 (by decide) (by decide),si_rng h hn 2 (by decide) (by decide),si_rng h hn 16 (by decide) (by decide),si_rng h hn 7 (by decide) (by decide),pre_R (by decide) (by decide),pre_R (by decide) (by decide),pre_R (by decide) (by decide),pre_R (by decide) (by decide),⟨by omega,by omega⟩,trivial⟩)
end
theorem sch_ob:∀ (m n:Nat) {f:Nat} {w:List Int},16≤n→n+m=80→m<f→lpOb (l_spec_schedule.step Cb_spec_schedule) (fun ins=>evOb Cb_spec_schedule.T (l_spec_schedule.tree Cb_spec_schedule) (insE ins)) f [[(n:Int)],w]
 |_,_,0,_,_,_,h=>by omega
 |0,n,f+1,w,_,hn,_=>by
  have:n=80:=by omega
  subst this
  exact lpOb_end sos_end ssc_end
 |m+1,n,f+1,w,h,hn,hf=>lpOb_go (sos_go h (by omega)) (ssc_go (by omega)) (sch_ob m (n+1) (by omega) (by omega) (by omega))
theorem sch_run:∀ (m n:Nat) {f:Nat} {bl ys:List Int},16≤n→n+m=80→m<f→ys.length=m→(lpRun (l_spec_schedule.step Cb_spec_schedule) f [[(n:Int)],sch bl n++ys]).getD 1 []=sch bl 80
 |_,_,0,_,_,_,_,h,_=>by omega
 |0,n,f+1,bl,ys,_,hn,_,hy=>by
  have:n=80:=by omega
  subst this
  have:ys= []:=List.eq_nil_of_length_eq_zero hy
  subst this
  rw[lpRun_end ssc_end,List.append_nil]
  rfl
 | m+1,n,f+1,bl,ys,h,hn,hf,hy=>by
  have e:(sch bl n++ys).set n (nwR Cb_spec_schedule.T (sch bl n++ys) (n:Int))=sch bl (n+1)++ys.drop 1:=by
   rw[set_next (sch_len bl n) (by omega),nwR_eq h (by omega) (sch_len bl n)]
   show _=(sch bl n ++ [wiN bl (sch bl n) n])++_
   unfold wiN
   rw[if_neg (by omega)]
  rw[lpRun_go (ssc_go (by omega)),e]
  exact sch_run m (n+1) (by omega) (by omega) (by omega) (by rw[List.length_drop]; omega)
def wdS(b:List Int)(j:Nat):Int:=(List.range 8).foldl (fun a k=>o64 .add (o64 .shl a 8) (IntKind.u64.wrap (b.getD (8*j+k) 0))) 0
def sc16(b:List Int):List Int:=(List.range 16).map (wdS b)++List.replicate 64 0
theorem raw_schedule{T:Tb}{b:List Int}:i_spec_schedule.valT T C_spec_schedule 0 [b]=sb (gv T (1000000+88) 0 [[16],sc16 b]) 0 80:=by kernel_rfl
theorem ob_schedule{b:List Int}:evObX C_spec_schedule.T (i_spec_schedule.tree C_spec_schedule) (insE [b])=(l_spec_schedule.pre Cb_spec_schedule [[16],sc16 b]∧True):=by kernel_rfl
theorem raw_compressed{T:Tb}{h b:List Int}:i_spec_compressed.valT T C_spec_compressed 0 [h,b]=(List.range 8).map fun k=>o64 .add (h.getD k 0) ((gv T (1000000+69) 0 [[0],h,gv T 89 0 [],gv T 88 0 [b]]).getD k 0):=by kernel_rfl
theorem ob_compressed{h b:List Int}:evObX C_spec_compressed.T (i_spec_compressed.tree C_spec_compressed) (insE [h,b])=(l_spec_compressed.pre Cb_spec_compressed [[0],h,gv C_spec_compressed.T 89 0 [],gv C_spec_compressed.T 88 0 [b]]∧True):=by kernel_rfl
theorem rounds_eq:fixL 80 (i_spec_rounds.raw C_spec_rounds 0 [])=kTab:=by kernel_rfl
end Go.Proofs.YtloibefkijfdlaaGreatDoor

namespace Go.Proofs.YtloibefkijfdlaaGreatDoor
open Go
theorem bN_at{b:List Int}(h:by8 b)(k:Nat):0≤bN b k∧bN b k≤255:=by
 unfold bN
 by_cases hk:k<b.length
 ·have e:b.getD k 0=b[k]:=by simp[List.getD,hk]
  have h1:=h _ (List.getElem_mem hk)
  rw[e,u64_mod]
  omega
 ·have e:b.getD k 0=0:=by simp[List.getD,hk]
  rw[e]
  decide
theorem shl_num{x:Int}{k:Nat}(h0:0≤x)(hk:k<64)(h:x*2^k<18446744073709551616):o64 .shl x (k:Int)=x*2^k:=by
 show IntKind.u64.wrap (x*2^(min ((k:Int)).toNat 64))=_
 rw[Int.toNat_natCast,Nat.min_eq_left (by omega)]
 have:0≤x*2^k:=Int.mul_nonneg h0 (Int.le_of_lt (Int.pow_pos (by decide)))
 exact u64_w this h
theorem stepS{a x:Int}(ha:0≤a∧a<72057594037927936)(hx:0≤x∧x≤255):o64 .add (o64 .shl a 8) x=a*256+x:=by
 have e:o64 .shl a 8=a*256:=shl_num (k:=8) ha.1 (by decide) (by show a*256<_; omega)
 rw[e]
 exact w_add (by omega) (by omega)
theorem orN{x y:Int}{m:Nat}(hx:0≤x∧x<18446744073709551616)(hm:(2:Int)^m ∣ x)(hy:0≤y∧y<2^m)(hy2:y<18446744073709551616):o64 .or x y=x+y:=
 (or_add (k:=.u64) rfl (x:=x) (y:=y) ⟨hx.1,by show x≤18446744073709551615; omega⟩ ⟨hy.1,by show y≤18446744073709551615; omega⟩ hm hy.2).1
theorem wd8{x0 x1 x2 x3 x4 x5 x6 x7:Int}(h0:0≤x0∧x0≤255)(h1:0≤x1∧x1≤255)(h2:0≤x2∧x2≤255)(h3:0≤x3∧x3≤255)(h4:0≤x4∧x4≤255)(h5:0≤x5∧x5≤255)(h6:0≤x6∧x6≤255)(h7:0≤x7∧x7≤255):
  o64 .add (o64 .shl (o64 .add (o64 .shl (o64 .add (o64 .shl (o64 .add (o64 .shl (o64 .add (o64 .shl (o64 .add (o64 .shl (o64 .add (o64 .shl (o64 .add (o64 .shl 0 8) x0) 8) x1) 8) x2) 8) x3) 8) x4) 8) x5) 8) x6) 8) x7=
  o64 .or (o64 .or (o64 .or (o64 .or (o64 .or (o64 .or (o64 .or (o64 .shl x0 56) (o64 .shl x1 48)) (o64 .shl x2 40)) (o64 .shl x3 32)) (o64 .shl x4 24)) (o64 .shl x5 16)) (o64 .shl x6 8)) x7:=by
 rw[stepS (a:=0) (by omega) h0,stepS (by omega) h1,stepS (by omega) h2,stepS (by omega) h3,stepS (by omega) h4,stepS (by omega) h5,stepS (by omega) h6,stepS (by omega) h7]
 have s0:o64 .shl x0 56=x0*72057594037927936:=shl_num (k:=56) h0.1 (by decide) (by show x0*72057594037927936<_; omega)
 have s1:o64 .shl x1 48=x1*281474976710656:=shl_num (k:=48) h1.1 (by decide) (by show x1*281474976710656<_; omega)
 have s2:o64 .shl x2 40=x2*1099511627776:=shl_num (k:=40) h2.1 (by decide) (by show x2*1099511627776<_; omega)
 have s3:o64 .shl x3 32=x3*4294967296:=shl_num (k:=32) h3.1 (by decide) (by show x3*4294967296<_; omega)
 have s4:o64 .shl x4 24=x4*16777216:=shl_num (k:=24) h4.1 (by decide) (by show x4*16777216<_; omega)
 have s5:o64 .shl x5 16=x5*65536:=shl_num (k:=16) h5.1 (by decide) (by show x5*65536<_; omega)
 have s6:o64 .shl x6 8=x6*256:=shl_num (k:=8) h6.1 (by decide) (by show x6*256<_; omega)
 rw[s0,s1,s2,s3,s4,s5,s6]
 rw[orN (m:=56) (x:=x0*72057594037927936) (y:=x1*281474976710656) (by omega) ⟨x0,by rw[Int.mul_comm]; rfl⟩ ⟨by omega,by show _<(72057594037927936:Int); omega⟩ (by omega)]
 rw[orN (m:=48) (x:=x0*72057594037927936+x1*281474976710656) (y:=x2*1099511627776) (by omega) ⟨x0*256+x1,by show _=(281474976710656:Int)*_; omega⟩ ⟨by omega,by show _<(281474976710656:Int); omega⟩ (by omega)]
 rw[orN (m:=40) (y:=x3*4294967296) (by omega) ⟨x0*65536+x1*256+x2,by show _=(1099511627776:Int)*_; omega⟩ ⟨by omega,by show _<(1099511627776:Int); omega⟩ (by omega)]
 rw[orN (m:=32) (y:=x4*16777216) (by omega) ⟨x0*16777216+x1*65536+x2*256+x3,by show _=(4294967296:Int)*_; omega⟩ ⟨by omega,by show _<(4294967296:Int); omega⟩ (by omega)]
 rw[orN (m:=24) (y:=x5*65536) (by omega) ⟨x0*4294967296+x1*16777216+x2*65536+x3*256+x4,by show _=(16777216:Int)*_; omega⟩ ⟨by omega,by show _<(16777216:Int); omega⟩ (by omega)]
 rw[orN (m:=16) (y:=x6*256) (by omega) ⟨x0*1099511627776+x1*4294967296+x2*16777216+x3*65536+x4*256+x5,by show _=(65536:Int)*_; omega⟩ ⟨by omega,by show _<(65536:Int); omega⟩ (by omega)]
 rw[orN (m:=8) (y:=x7) (by omega) ⟨x0*281474976710656+x1*1099511627776+x2*4294967296+x3*16777216+x4*65536+x5*256+x6,by show _=(256:Int)*_; omega⟩ ⟨by omega,by show _<(256:Int); omega⟩ (by omega)]
 omega
theorem wdS_eq{b:List Int}(h:by8 b)(j:Nat):wdS b j=wdN b (j*8):=by
 have e:j*8=8*j:=Nat.mul_comm _ _
 rw[e]
 exact wd8 (bN_at h _) (bN_at h _) (bN_at h _) (bN_at h _) (bN_at h _) (bN_at h _) (bN_at h _) (bN_at h _)
theorem sch_lo{b:List Int}:∀ n,n≤16→sch b n=(List.range n).map fun j=>wdN b (j*8)
 |0,_=>rfl
 |n+1,h=>by
  show sch b n ++ [wiN b (sch b n) n]=_
  rw[List.range_succ,List.map_append,sch_lo n (by omega)]
  unfold wiN
  rw[if_pos (by omega)]
  rfl
theorem sc16_eq{b:List Int}(h:by8 b):sc16 b=sch b 16++List.replicate 64 0:=by
 unfold sc16
 rw[sch_lo 16 (Nat.le_refl _)]
 congr 1
 exact List.map_congr_left fun j _=>wdS_eq h j
theorem pr_lsch:(l_spec_schedule.sum Cb_spec_schedule (l_spec_schedule.pre Cb_spec_schedule)).pr 0= .l fun a=>fixL 80 ((l_spec_schedule.val Cb_spec_schedule a).getD 1 []):=rfl
theorem pr_lcom:(l_spec_compressed.sum Cb_spec_compressed (l_spec_compressed.pre Cb_spec_compressed)).pr 0= .l fun a=>fixL 8 ((l_spec_compressed.val Cb_spec_compressed a).getD 1 []):=rfl
theorem val_sch{ins:List (List Int)}:l_spec_schedule.val Cb_spec_schedule ins=lpRun (l_spec_schedule.step Cb_spec_schedule) 65 ins:=rfl
theorem val_com{ins:List (List Int)}:l_spec_compressed.val Cb_spec_compressed ins=lpRun (l_spec_compressed.step Cb_spec_compressed) 81 ins:=rfl
theorem pre_sch{ins:List (List Int)}:l_spec_schedule.pre Cb_spec_schedule ins=lpOb (l_spec_schedule.step Cb_spec_schedule) (fun ins=>evOb Cb_spec_schedule.T (l_spec_schedule.tree Cb_spec_schedule) (insE ins)) 65 ins:=rfl
theorem pre_com{ins:List (List Int)}:l_spec_compressed.pre Cb_spec_compressed ins=lpOb (l_spec_compressed.step Cb_spec_compressed) (fun ins=>evOb Cb_spec_compressed.T (l_spec_compressed.tree Cb_spec_compressed) (insE ins)) 81 ins:=rfl
theorem lk_lsch:lk (1000000+88) C_spec_schedule.T=some (.one (l_spec_schedule.sum Cb_spec_schedule (l_spec_schedule.pre Cb_spec_schedule))):=by kernel_rfl
theorem lk_lcom:lk (1000000+69) C_spec_compressed.T=some (.one (l_spec_compressed.sum Cb_spec_compressed (l_spec_compressed.pre Cb_spec_compressed))):=by kernel_rfl
theorem lk_csch:lk 88 C_spec_compressed.T=some (.one s_spec_schedule):=by kernel_rfl
theorem lk_crou:lk 89 C_spec_compressed.T=some (.one s_spec_rounds):=by kernel_rfl
theorem i16:((16:Nat):Int)=16:=rfl
theorem i00:((0:Nat):Int)=0:=rfl
theorem sb80{l:List Int}(h:l.length=80):sb l 0 80=l:=by
 have:∀ {n:Nat} {l:List Int},l.length=n→sb l 0 n=l:=fun {n l} h=>by
  subst h
  unfold sb
  refine List.ext_getElem (by simp) fun i h1 h2=> ?_
  simp[List.getD,h2]
 exact this h
theorem schedule_eq{b:List Int}(h:by8 b):i_spec_schedule.raw C_spec_schedule 0 [b]=sch b 80:=by
 have hr:=sch_run 64 16 (f:=65) (bl:=b) (ys:=List.replicate 64 0) (Nat.le_refl _) rfl (by omega) List.length_replicate
 rw[i16] at hr
 have hg:gv C_spec_schedule.T (1000000+88) 0 [[16],sc16 b]=sch b 80:=by
  rw[gv_one lk_lsch,pr_lsch]
  show fixL 80 ((l_spec_schedule.val Cb_spec_schedule [[16],sc16 b]).getD 1 [])=_
  rw[val_sch,sc16_eq h,hr]
  exact fixL_id (sch_len b 80)
 rw[raw_valT,raw_schedule,hg,sb80 (sch_len b 80)]
theorem schedule_ob{b:List Int}:evOb C_spec_schedule.T (i_spec_schedule.tree C_spec_schedule) (insE [b]):=by
 refine evObX_ok (and_gen ob_schedule ?_)
 rw[pre_sch]
 have:=sch_ob 64 16 (f:=65) (w:=sc16 b) (Nat.le_refl _) rfl (by omega)
 rwa [i16] at this
theorem pr_sched:s_spec_schedule.pr 0= .l fun a=>fixL 80 (i_spec_schedule.raw C_spec_schedule 0 a):=rfl
theorem pr_rou:s_spec_rounds.pr 0= .l fun a=>fixL 80 (i_spec_rounds.raw C_spec_rounds 0 a):=rfl
theorem sch_get{b:List Int}{n:Nat}:∀ {m:Nat},n<m→(sch b m).getD n 0=wiN b (sch b n) n
 |0,h=>by omega
 | m+1,h=>by
  show (sch b m ++ [wiN b (sch b m) m]).getD n 0=_
  rcases Nat.lt_or_ge n m with h1|h1
  ·rw[← sch_get h1]
   simp only[List.getD]
   rw[List.getElem?_append_left (by rw[sch_len]; exact h1)]
  ·have:n=m:=by omega
   subst this
   simp only[List.getD]
   rw[List.getElem?_append_right (by rw[sch_len]; omega),sch_len,Nat.sub_self]
   rfl
theorem rW_eq{b:List Int}{v0:V8}:∀ (m n:Nat),n+m=80→rW kTab (sch b 80) m n (rV b v0 n)=rV b v0 80
 |0,n,h=>by
  have:n=80:=by omega
  subst this
  rfl
 |m+1,n,h=>by
  rw[rW,sch_get (by omega)]
  exact rW_eq m (n+1) (by omega)
theorem zip8{h l:List Int}(hh:h.length=8)(hl:l.length=8):((List.range 8).map fun k=>o64 .add (h.getD k 0) (l.getD k 0))=List.zipWith (o64 .add) h l:=by
 match h,hh,l,hl with
 | [_,_,_,_,_,_,_,_],_,[_,_,_,_,_,_,_,_],_=>rfl
theorem compressed_eq{h b:List Int}(hh:h.length=8)(hb:by8 b):i_spec_compressed.raw C_spec_compressed 0 [h,b]=cpr h b:=by
 have e1:gv C_spec_compressed.T 89 0 []=kTab:=by
  rw[gv_one lk_crou,pr_rou]
  exact rounds_eq
 have e2:gv C_spec_compressed.T 88 0 [b]=sch b 80:=by
  rw[gv_one lk_csch,pr_sched]
  show fixL 80 (i_spec_schedule.raw C_spec_schedule 0 [b])=_
  rw[schedule_eq hb]
  exact fixL_id (sch_len b 80)
 have hr:=com_run 80 0 (f:=81) (v:=V8.of h) (k:=kTab) (w:=sch b 80) rfl (by omega)
 rw[i00,V8.of_l hh] at hr
 have hW:=rW_eq (b:=b) (v0:=V8.of h) 80 0 rfl
 have hg:gv C_spec_compressed.T (1000000+69) 0 [[0],h,kTab,sch b 80]=(rV b (V8.of h) 80).l:=by
  rw[gv_one lk_lcom,pr_lcom]
  show fixL 8 ((l_spec_compressed.val Cb_spec_compressed [[0],h,kTab,sch b 80]).getD 1 [])=_
  rw[val_com,hr]
  change rW kTab (sch b 80) 80 0 (V8.of h)=_ at hW
  rw[hW]
  exact fixL_id rfl
 rw[raw_valT,raw_compressed,e1,e2,hg]
 exact zip8 hh rfl
theorem compressed_ob{h b:List Int}:evOb C_spec_compressed.T (i_spec_compressed.tree C_spec_compressed) (insE [h,b]):=by
 refine evObX_ok (and_gen ob_compressed ?_)
 rw[pre_com]
 have:=com_ob 80 0 (f:=81) (v:=h) (k:=gv C_spec_compressed.T 89 0 []) (w:=gv C_spec_compressed.T 88 0 [b]) rfl (by omega)
 rwa [i00] at this
theorem insS1{ks:List IntKind}{g:Nat}{wr:Bool}{ins:List (List Int)}(h:InsOk [.sl ks g wr] ins):∃ b,ins= [b]:=by
 match ins,h with
 | [b],_=>exact⟨b,rfl⟩
theorem insS2{js ks:List IntKind}{g:Nat}{wr:Bool}{ins:List (List Int)}(h:InsOk [.agg js,.sl ks g wr] ins):∃ a b,ins= [a,b]:=by
 match ins,h with
 | [a,b],_=>exact⟨a,b,rfl⟩
section
variable{GB:Nat}{GC:Nat→Nat→Option Value}{ad:Nat→Nat×Nat}(hG:GOk GB GC ad)
include hG
theorem ok_spec_schedule:FEOk Tryz.prog GB GC 88 (.one s_spec_schedule):=(FnI.finL hG (i:=i_spec_schedule) (l:=l_spec_schedule) (T:= []) (T':= [(90,.one s_spec_turned)]) (L:= []) (L':= []) (pre:=fun _=>True) (pl:=l_spec_schedule.pre Cb_spec_schedule) (lid:=1000000+88) (Cb:=Cb_spec_schedule) (C1:=C_spec_schedule) (by decide) rfl rfl
 .nil .nil .nil Tryz.func88 rfl rfl rfl (.inl rfl) (.inl rfl) (fun _ _ h=>h)
 (.cons (k:=90) rfl (ok_spec_turned hG) Tryz.call90 (FnI.lenP _ _) .nil) chkl_spec_schedule (by kernel_rfl) (by kernel_rfl) chk_spec_schedule fun _ h _=>by obtain⟨b,rfl⟩:=insS1 h; exact schedule_ob).noPre fun _ _=>trivial
theorem ok_spec_compressed:FEOk Tryz.prog GB GC 69 (.one s_spec_compressed):=(FnI.finL hG (i:=i_spec_compressed) (l:=l_spec_compressed) (T:= [(88,.one s_spec_schedule),(89,.one s_spec_rounds)]) (T':= [(90,.one s_spec_turned)]) (L:= []) (L':= []) (pre:=fun _=>True) (pl:=l_spec_compressed.pre Cb_spec_compressed) (lid:=1000000+69) (Cb:=Cb_spec_compressed) (C1:=C_spec_compressed) (by decide) rfl rfl
 (.cons (k:=88) rfl (ok_spec_schedule hG) Tryz.call88 (fun _=>LenOk_np (FnI.lenH _ _ _ true)) (.cons (k:=89) rfl (ok_spec_rounds hG) Tryz.call89 (FnI.len _ _) .nil)) .nil .nil Tryz.func69 rfl rfl rfl (.inl rfl) (.inl rfl) (fun _ _ h=>h)
 (.cons (k:=90) rfl (ok_spec_turned hG) Tryz.call90 (FnI.lenP _ _) .nil) chkl_spec_compressed (by kernel_rfl) (by kernel_rfl) chk_spec_compressed fun _ h _=>by obtain⟨a,b,rfl⟩:=insS2 h; exact compressed_ob).noPre fun _ _=>trivial
end
end Go.Proofs.YtloibefkijfdlaaGreatDoor
