/- Contracts of the reference: the hash's block. -/
import Derived.Test.YtloibefkijfdlaaGreatDoorHc
import Derived.Test.YtloibefkijfdlaaGreatDoorNd
namespace Go.Proofs.YtloibefkijfdlaaGreatDoor
noncomputable section
open Go
def U80:List IntKind:=List.replicate 80 .u64
section
variable{GB:Nat}{GC:Nat→Nat→Option Value}{ad:Nat→Nat×Nat}(hG:Jk GB GC ad)
include hG
def Kk:AQ:=⟨6000,Ab Tryz.f90,Tryz.f90.ntmps,Tryz.f90.results.toList,[],⟨[.int .u64,.int .i64],false,fun _=>True,[],[],[.int .u64 z0]⟩⟩
def Ij:Cx:=GJ [] []
def Ew:Az:=Kk.sumP Ij
theorem Tk:Bp Tryz.prog GB GC 90 (.one Ew):=AQ.finP hG .nil .nil Tryz.func90 rfl rfl rfl (.inl rfl) (by kernel_rfl)
def Rq:AQ:=⟨6000,Ab Tryz.f89,Tryz.f89.ntmps,Tryz.f89.results.toList,[],⟨[],false,fun _=>True,[],[],[.agg U80 z1]⟩⟩
def Ri:Cx:=GJ [] []
def Mg:Az:=Rq.sum Ri
theorem aW:Bp Tryz.prog GB GC 89 (.one Mg):=AQ.fin hG .nil .nil Tryz.func89 rfl rfl rfl (.inl rfl) (by kernel_rfl)
end
def Aj:I7:=⟨6000,Sj 2 (Ab Tryz.f88),Tryz.f88.ntmps,2,[],⟨[.int .i64,.mem U80 1 true],true,fun _=>True,[(1,U80,z1)],[],[]⟩,[5,3],[6,7,27,28,29,30,31,32,33,34,35,36,37,38,39,40,41,42,43,44,45,46,47,48,49,50,51,52,53,54,55,56,57,58,59,60,61,62,63,64,65,66,67],fun _=>65⟩
def Aa:Cx:=GJ [(90,.one Ew)] []
def FB:AQ:=⟨6000,Ab Tryz.f88,Tryz.f88.ntmps,Tryz.f88.results.toList,[],⟨[.sl (List.replicate 128 .u8) 0 false],true,fun _=>True,[],[],[.agg U80 z1]⟩⟩
def DR:Cx:=aL [(1000000+88,.one (Aj.sum Aa (Aj.pre Aa)))] [] [(Aj.id,⟨1000000+88,Aj.ps,Aj.ss,Aj.cl,Aj.nt⟩)]
def Kb:Az:= { FB.sumH DR (fun _=>True) with hp:=false }
theorem V5:Aj.chk Aa=true:=by kernel_rfl
theorem WS:FB.chk DR=true:=by kernel_rfl
def Ac:I7:=⟨6000,Sj 0 (Ab Tryz.f69),Tryz.f69.ntmps,0,[],⟨[.int .i64,.mem U8 1 true,.mem U80 2 false,.mem U80 3 false],true,fun _=>True,[(1,U8,z1)],[],[]⟩,[8,7,6,5],[9,10,11,12,18,19,20,21,22,23,24,25,26,27,28,29,30,31,32,33,34,35,36,37,38,39,40,41,42,43,44,45,46,47,48,49,50,51,52,53,54,55,56,57,58,59,60,61,62,63,64,65,66,67,68,69,70,71,72,73,74,75,76,77,78,79,80,81,82,83,84,85,86,87,88,89,90,91,92,93,94,95,96,97],fun _=>81⟩
def AX:Cx:=GJ [(90,.one Ew)] []
def Eo:AQ:=⟨6000,Ab Tryz.f69,Tryz.f69.ntmps,Tryz.f69.results.toList,[],⟨[.agg U8,.sl (List.replicate 128 .u8) 0 false],true,fun _=>True,[],[],[.agg U8 z1]⟩⟩
def BK:Cx:=aL ((1000000+69,.one (Ac.sum AX (Ac.pre AX))) :: [(88,.one Kb),(89,.one Mg)]) [] [(Ac.id,⟨1000000+69,Ac.ps,Ac.ss,Ac.cl,Ac.nt⟩)]
def XH:Az:= { Eo.sumH BK (fun _=>True) with hp:=false }
theorem UC:Ac.chk AX=true:=by kernel_rfl
theorem VS:Eo.chk BK=true:=by kernel_rfl
end
section
open Go
def dV(x n:Int):Prop:=Ew.pre [[x],[n]]
def tR(T:Tb)(x n:Int):Int:=(gv T 90 0 [[x],[n]]).getD 0 0
theorem uj{x n:Int}:Kk.raw Ij 0 [[x],[n]]= [Di .or (Di .shr x n) (Di .shl x (Ao .sub .i64 64 n))]:=by kernel_rfl
theorem ABi{x n:Int}:J9 Ij.T (Kk.tree Ij) (A8 [[x],[n]])=(0≤n∧0≤Ao .sub .i64 64 n∧True):=by kernel_rfl
theorem ADt{n:Int}(h0:0≤n)(h1:n≤64):Ao .sub .i64 64 n=64-n:=by
 show IntKind.i64.wrap (64-n)=_;exact gL (by omega) (by omega)
theorem Vg{x n:Int}(h0:0≤n)(h1:n≤64):dV x n:=by
 show Cn Ij.T (Kk.tree Ij) (A8 [[x],[n]]);refine Dk ?_;rw[ABi,ADt h0 h1];exact⟨h0,by omega,trivial⟩
theorem ABU(x y:Int):Di .or x y=Di .or y x:=by
 show Dl .or .u64 x y=Dl .or .u64 y x;unfold Dl;simp only[BitVec.or_comm]
theorem AA2:Ew.pr 0= .i fun a=>d1 (Kk.raw Ij 0 a):=rfl
theorem Vh{T:Tb}(h:lk 90 T=some (.one Ew)){x n:Int}(h0:0≤n)(h1:n≤64):tR T x n=rl x (64-n):=by
 unfold tR;rw[Bg h,AA2];show d1 (Kk.raw Ij 0 [[x],[n]])=_;rw[uj,ADt h0 h1];show Di .or _ _=_;unfold rl;rw[ABU,show 64-(64-n)=n by omega]
theorem AAc{X A c:Prop}[Decidable c](h:X=if c then True else A)(hc:¬ c)(hA:A):X:=by
 rw[h,if_neg hc];exact hA
theorem zY{X A c:Prop}[Decidable c](h:X=if c then True else A)(hc:c):X:=by
 rw[h,if_pos hc];trivial
def AN4(T:Tb)(v:List Int)(k w:Int):Int:=
 Di .add (Di .add (Di .add (Di .add (v.getD 7 0) (Di .xor (Di .xor (tR T (v.getD 4 0) 14) (tR T (v.getD 4 0) 18)) (tR T (v.getD 4 0) 41))) (Di .xor (Di .and (v.getD 4 0) (v.getD 5 0)) (Di .and (Di .xor 18446744073709551615 (v.getD 4 0)) (v.getD 6 0)))) k) w
def ARt(T:Tb)(v:List Int):Int:=
 Di .add (Di .xor (Di .xor (tR T (v.getD 0 0) 28) (tR T (v.getD 0 0) 34)) (tR T (v.getD 0 0) 39)) (Di .xor (Di .xor (Di .and (v.getD 0 0) (v.getD 1 0)) (Di .and (v.getD 0 0) (v.getD 2 0))) (Di .and (v.getD 1 0) (v.getD 2 0)))
def rdR(T:Tb)(v:List Int)(k w:Int):List Int:=[Di .add (AN4 T v k w) (ARt T v),v.getD 0 0,v.getD 1 0,v.getD 2 0,Di .add (v.getD 3 0) (AN4 T v k w),v.getD 4 0,v.getD 5 0,v.getD 6 0]
theorem Ve{T:Tb}{i:Int}{v k w:List Int}:sJ T Ac (Ac.tree AX) (A8 [[i],v,k,w])=if K9 (decide (i<80))=0 then some (false,[[i],v,k,w]) else some (true,[[ai i 1],rdR T v (Xz k i) (Xz w i),k,w]):=by kernel_rfl
theorem Tx{i:Int}{v k w:List Int}:J9 AX.T (Ac.tree AX) (A8 [[i],v,k,w])=if K9 (decide (i<80))=0 then True else
  (dV (v.getD 4 0) 14∧dV (v.getD 4 0) 18∧dV (v.getD 4 0) 41∧(0≤i∧i<((80:Nat):Int))∧(0≤i∧i<((80:Nat):Int))∧dV (v.getD 0 0) 28∧dV (v.getD 0 0) 34∧dV (v.getD 0 0) 39∧True):=by kernel_rfl
theorem AR0:lk 90 AX.T=some (.one Ew):=by kernel_rfl
theorem ASF{T:Tb}(h:lk 90 T=some (.one Ew)){v:List Int}{k w:Int}:rdR T v k w=(wJ (V8.of v) k w).l:=by
 have a1:=Vh h (x:=v.getD 4 0) (n:=14) (by decide) (by decide);have a2:=Vh h (x:=v.getD 4 0) (n:=18) (by decide) (by decide);have a3:=Vh h (x:=v.getD 4 0) (n:=41) (by decide) (by decide);have b1:=Vh h (x:=v.getD 0 0) (n:=28) (by decide) (by decide);have b2:=Vh h (x:=v.getD 0 0) (n:=34) (by decide) (by decide);have b3:=Vh h (x:=v.getD 0 0) (n:=39) (by decide) (by decide);unfold rdR AN4 ARt;rw[a1,a2,a3,b1,b2,b3];rfl
theorem AJz{n:Nat}(h:n<80):¬ K9 (decide ((n:Int)<80))=0:=fun e=>UV.1 e (by omega)
theorem yQ:K9 (decide (((80:Nat):Int)<80))=0:=by decide
theorem ARs{n:Nat}(h:n<80):ai (n:Int) 1=((n+1:Nat):Int):=vO (j:=n) (k:=1) (by omega)
section
variable{v k w:List Int}{n:Nat}
theorem ACk:Ac.step AX [[((80:Nat):Int)],v,k,w]=some (false,[[((80:Nat):Int)],v,k,w]):=by rw[Jz,Ve,if_pos yQ]
theorem AKZ(hn:n<80):Ac.step AX [[(n:Int)],v,k,w]=some (true,[[((n+1:Nat):Int)],(wJ (V8.of v) (k.getD n 0) (w.getD n 0)).l,k,w]):=by
 rw[Jz,Ve,if_neg (AJz hn),ARs hn,ASF AR0,Zn,Zn]
theorem AHV:Cn AX.T (Ac.tree AX) (A8 [[((80:Nat):Int)],v,k,w]):=Dk (zY Tx yQ)
theorem AMe(hn:n<80):Cn AX.T (Ac.tree AX) (A8 [[(n:Int)],v,k,w]):=Dk (AAc Tx (AJz hn) ⟨Vg (by decide) (by decide),Vg (by decide) (by decide),Vg (by decide) (by decide),⟨by omega,by omega⟩,⟨by omega,by omega⟩,Vg (by decide) (by decide),Vg (by decide) (by decide),Vg (by decide) (by decide),trivial⟩)
end
theorem ADL:∀ (m n:Nat) {f:Nat} {v k w:List Int},n+m=80→m<f→Rj (Ac.step AX) (fun ins=>Cn AX.T (Ac.tree AX) (A8 ins)) f [[(n:Int)],v,k,w]
 |_,_,0,_,_,_,_,h=>by omega
 |0,n,f+1,v,k,w,hn,_=>by
  have:n=80:=by omega
  subst this;exact Tt AHV ACk
 |m+1,n,f+1,v,k,w,hn,hf=>RF (AMe (by omega)) (AKZ (by omega)) (ADL m (n+1) (by omega) (by omega))
def rW(k w:List Int):Nat→Nat→V8→V8
 |0,_,v=>v
 |m+1,n,v=>rW k w m (n+1) (wJ v (k.getD n 0) (w.getD n 0))
theorem of_l(v:V8):V8.of v.l=v:=rfl
theorem ze:∀ (m n:Nat) {f:Nat} {v:V8} {k w:List Int},n+m=80→m<f→(Gf (Ac.step AX) f [[(n:Int)],v.l,k,w]).getD 1 []=(rW k w m n v).l
 |_,_,0,_,_,_,_,h=>by omega
 |0,n,f+1,v,k,w,hn,_=>by
  have:n=80:=by omega
  subst this;rw[Rv ACk];rfl
 |m+1,n,f+1,v,k,w,hn,hf=>by
  rw[PY (AKZ (by omega)),of_l];exact ze m (n+1) (by omega) (by omega)
def nwR(T:Tb)(w:List Int)(i:Int):Int:=
 Di .add (Di .add (Di .add (Xz w (si i 16)) (Xz w (si i 7))) (Di .xor (Di .xor (tR T (Xz w (si i 15)) 1) (tR T (Xz w (si i 15)) 8)) (Di .shr (Xz w (si i 15)) 7))) (Di .xor (Di .xor (tR T (Xz w (si i 2)) 19) (tR T (Xz w (si i 2)) 61)) (Di .shr (Xz w (si i 2)) 6))
theorem Yh{T:Tb}{i:Int}{w:List Int}:sJ T Aj (Aj.tree Aa) (A8 [[i],w])=if K9 (decide (i<80))=0 then some (false,[[i],w]) else some (true,[[ai i 1],w.set i.toNat (nwR T w i)]):=by kernel_rfl
theorem Xm{i:Int}{w:List Int}:J9 Aa.T (Aj.tree Aa) (A8 [[i],w])=if K9 (decide (i<80))=0 then True else
  ((0≤si i 15∧si i 15<((80:Nat):Int))∧(0≤si i 2∧si i 2<((80:Nat):Int))∧(0≤si i 16∧si i 16<((80:Nat):Int))∧(0≤si i 7∧si i 7<((80:Nat):Int))∧dV (Xz w (si i 15)) 1∧dV (Xz w (si i 15)) 8∧dV (Xz w (si i 2)) 19∧dV (Xz w (si i 2)) 61∧(0≤i∧i<((80:Nat):Int))∧True):=by kernel_rfl
theorem xk:lk 90 Aa.T=some (.one Ew):=by kernel_rfl
theorem P7(x:Int):IntKind.u64.wrap x=x%18446744073709551616:=by
 simp[IntKind.wrap,IntKind.bits,IntKind.signed]
theorem AVE(a b c d:Int):Di .add (Di .add (Di .add a b) c) d=Di .add (Di .add (Di .add d b) c) a:=by
 show IntKind.u64.wrap (IntKind.u64.wrap (IntKind.u64.wrap (a+b)+c)+d)=IntKind.u64.wrap (IntKind.u64.wrap (IntKind.u64.wrap (d+b)+c)+a);rw[P7,P7,P7,P7,P7,P7];omega
theorem AMD{ws ys:List Int}{n:Nat}(h:16≤n)(h2:n<80)(hl:ws.length=n):nwR Aa.T (ws++ys) (n:Int)=nwN ws n:=by
 rw[← vB (ys:=ys) h h2 hl];unfold nwR nw;rw[Vh xk (by decide) (by decide),Vh xk (by decide) (by decide),Vh xk (by decide) (by decide),Vh xk (by decide) (by decide),AVE];rfl
theorem jd{n:Nat}(h:16≤n)(h2:n<80)(k:Nat)(hk:k≤16)(h0:0<k):0≤si (n:Int) (k:Int)∧si (n:Int) (k:Int)<((80:Nat):Int):=by
 rw[ADx (by omega) (by omega)];omega
section
variable{w:List Int}{n:Nat}
theorem xN:Aj.step Aa [[((80:Nat):Int)],w]=some (false,[[((80:Nat):Int)],w]):=by rw[Jz,Yh,if_pos yQ]
theorem ADn(hn:n<80):Aj.step Aa [[(n:Int)],w]=some (true,[[((n+1:Nat):Int)],w.set n (nwR Aa.T w (n:Int))]):=by
 rw[Jz,Yh,if_neg (AJz hn),ARs hn,TJ]
theorem AI9:Cn Aa.T (Aj.tree Aa) (A8 [[((80:Nat):Int)],w]):=Dk (zY Xm yQ)
theorem AP0(h:16≤n)(hn:n<80):Cn Aa.T (Aj.tree Aa) (A8 [[(n:Int)],w]):=Dk (AAc Xm (AJz hn)
 ⟨jd h hn 15 (by decide) (by decide),jd h hn 2 (by decide) (by decide),jd h hn 16 (by decide) (by decide),jd h hn 7 (by decide) (by decide),Vg (by decide) (by decide),Vg (by decide) (by decide),Vg (by decide) (by decide),Vg (by decide) (by decide),⟨by omega,by omega⟩,trivial⟩)
end
theorem ADT:∀ (m n:Nat) {f:Nat} {w:List Int},16≤n→n+m=80→m<f→Rj (Aj.step Aa) (fun ins=>Cn Aa.T (Aj.tree Aa) (A8 ins)) f [[(n:Int)],w]
 |_,_,0,_,_,_,h=>by omega
 |0,n,f+1,w,_,hn,_=>by
  have:n=80:=by omega
  subst this;exact Tt AI9 xN
 |m+1,n,f+1,w,h,hn,hf=>RF (AP0 h (by omega)) (ADn (by omega)) (ADT m (n+1) (by omega) (by omega) (by omega))
theorem xD:∀ (m n:Nat) {f:Nat} {bl ys:List Int},16≤n→n+m=80→m<f→ys.length=m→(Gf (Aj.step Aa) f [[(n:Int)],K7 bl n++ys]).getD 1 []=K7 bl 80
 |_,_,0,_,_,_,_,h,_=>by omega
 |0,n,f+1,bl,ys,_,hn,_,hy=>by
  have:n=80:=by omega
  subst this;have:ys= []:=zbx hy;subst this;rw[Rv xN,TL];rfl
 | m+1,n,f+1,bl,ys,h,hn,hf,hy=>by
  have e:(K7 bl n++ys).set n (nwR Aa.T (K7 bl n++ys) (n:Int))=K7 bl (n+1)++ys.drop 1:=by
   rw[oL (JQ bl n) (by omega),AMD h (by omega) (JQ bl n)];show _=(K7 bl n ++ [Yz bl (K7 bl n) n])++_;unfold Yz;rw[if_neg (by omega)]
  rw[PY (ADn (by omega)),e];exact xD m (n+1) (by omega) (by omega) (by omega) (by rw[nO];omega)
def wdS(b:List Int)(j:Nat):Int:=(List.range 8).foldl (fun a k=>Di .add (Di .shl a 8) (IntKind.u64.wrap (b.getD (8*j+k) 0))) 0
def uh(b:List Int):List Int:=(List.range 16).map (wdS b)++List.replicate 64 0
theorem mM{T:Tb}{b:List Int}:FB.valT T DR 0 [b]=sb (gv T (1000000+88) 0 [[16],uh b]) 0 80:=by kernel_rfl
theorem p9{b:List Int}:J9 DR.T (FB.tree DR) (A8 [b])=(Aj.pre Aa [[16],uh b]∧True):=by kernel_rfl
theorem dN{T:Tb}{h b:List Int}:Eo.valT T BK 0 [h,b]=(List.range 8).map fun k=>Di .add (h.getD k 0) ((gv T (1000000+69) 0 [[0],h,gv T 89 0 [],gv T 88 0 [b]]).getD k 0):=by kernel_rfl
theorem gK{h b:List Int}:J9 BK.T (Eo.tree BK) (A8 [h,b])=(Ac.pre AX [[0],h,gv BK.T 89 0 [],gv BK.T 88 0 [b]]∧True):=by kernel_rfl
theorem ABS:Aw 80 (Rq.raw Ri 0 [])=Y0:=by kernel_rfl
end
section
open Go
theorem Yj{b:List Int}(h:by8 b)(k:Nat):0≤bN b k∧bN b k≤255:=by
 unfold bN
 by_cases hk:k<b.length
 ·have e:b.getD k 0=b[k]:=by simp[List.getD,hk]
  have h1:=h _ (qj hk);rw[e,P7];omega
 ·have e:b.getD k 0=0:=by simp[List.getD,hk]
  rw[e];decide
theorem RQ{x:Int}{k:Nat}(h0:0≤x)(hk:k<64)(h:x*2^k<18446744073709551616):Di .shl x (k:Int)=x*2^k:=by
 show IntKind.u64.wrap (x*2^(min ((k:Int)).toNat 64))=_;rw[TJ,Nat.min_eq_left (by omega)];have:0≤x*2^k:=Int.mul_nonneg h0 (Int.le_of_lt (Int.pow_pos (by decide)));exact TW this h
theorem Yb{a x:Int}(ha:0≤a∧a<72057594037927936)(hx:0≤x∧x≤255):Di .add (Di .shl a 8) x=a*256+x:=by
 have e:Di .shl a 8=a*256:=RQ (k:=8) ha.1 (by decide) (by show a*256<_;omega);rw[e];exact jD (by omega) (by omega)
theorem orN{x y:Int}{m:Nat}(hx:0≤x∧x<18446744073709551616)(hm:(2:Int)^m ∣ x)(hy:0≤y∧y<2^m)(hy2:y<18446744073709551616):Di .or x y=x+y:=
 (aN (k:=.u64) rfl (x:=x) (y:=y) ⟨hx.1,by show x≤18446744073709551615;omega⟩ ⟨hy.1,by show y≤18446744073709551615;omega⟩ hm hy.2).1
theorem wd8{x0 x1 x2 x3 x4 x5 x6 x7:Int}(h0:0≤x0∧x0≤255)(h1:0≤x1∧x1≤255)(h2:0≤x2∧x2≤255)(h3:0≤x3∧x3≤255)(h4:0≤x4∧x4≤255)(h5:0≤x5∧x5≤255)(h6:0≤x6∧x6≤255)(h7:0≤x7∧x7≤255):
  Di .add (Di .shl (Di .add (Di .shl (Di .add (Di .shl (Di .add (Di .shl (Di .add (Di .shl (Di .add (Di .shl (Di .add (Di .shl (Di .add (Di .shl 0 8) x0) 8) x1) 8) x2) 8) x3) 8) x4) 8) x5) 8) x6) 8) x7=
  Di .or (Di .or (Di .or (Di .or (Di .or (Di .or (Di .or (Di .shl x0 56) (Di .shl x1 48)) (Di .shl x2 40)) (Di .shl x3 32)) (Di .shl x4 24)) (Di .shl x5 16)) (Di .shl x6 8)) x7:=by
 rw[Yb (a:=0) (by omega) h0,Yb (by omega) h1,Yb (by omega) h2,Yb (by omega) h3,Yb (by omega) h4,Yb (by omega) h5,Yb (by omega) h6,Yb (by omega) h7];have s0:Di .shl x0 56=x0*72057594037927936:=RQ (k:=56) h0.1 (by decide) (by show x0*72057594037927936<_;omega);have s1:Di .shl x1 48=x1*281474976710656:=RQ (k:=48) h1.1 (by decide) (by show x1*281474976710656<_;omega);have s2:Di .shl x2 40=x2*1099511627776:=RQ (k:=40) h2.1 (by decide) (by show x2*1099511627776<_;omega);have s3:Di .shl x3 32=x3*4294967296:=RQ (k:=32) h3.1 (by decide) (by show x3*4294967296<_;omega);have s4:Di .shl x4 24=x4*16777216:=RQ (k:=24) h4.1 (by decide) (by show x4*16777216<_;omega);have s5:Di .shl x5 16=x5*65536:=RQ (k:=16) h5.1 (by decide) (by show x5*65536<_;omega);have s6:Di .shl x6 8=x6*256:=RQ (k:=8) h6.1 (by decide) (by show x6*256<_;omega);rw[s0,s1,s2,s3,s4,s5,s6];rw[orN (m:=56) (x:=x0*72057594037927936) (y:=x1*281474976710656) (by omega) ⟨x0,by rw[Y6];rfl⟩ ⟨by omega,by show _<(72057594037927936:Int);omega⟩ (by omega)];rw[orN (m:=48) (x:=x0*72057594037927936+x1*281474976710656) (y:=x2*1099511627776) (by omega) ⟨x0*256+x1,by show _=(281474976710656:Int)*_;omega⟩ ⟨by omega,by show _<(281474976710656:Int);omega⟩ (by omega)];rw[orN (m:=40) (y:=x3*4294967296) (by omega) ⟨x0*65536+x1*256+x2,by show _=(1099511627776:Int)*_;omega⟩ ⟨by omega,by show _<(1099511627776:Int);omega⟩ (by omega)];rw[orN (m:=32) (y:=x4*16777216) (by omega) ⟨x0*16777216+x1*65536+x2*256+x3,by show _=(4294967296:Int)*_;omega⟩ ⟨by omega,by show _<(4294967296:Int);omega⟩ (by omega)];rw[orN (m:=24) (y:=x5*65536) (by omega) ⟨x0*4294967296+x1*16777216+x2*65536+x3*256+x4,by show _=(16777216:Int)*_;omega⟩ ⟨by omega,by show _<(16777216:Int);omega⟩ (by omega)];rw[orN (m:=16) (y:=x6*256) (by omega) ⟨x0*1099511627776+x1*4294967296+x2*16777216+x3*65536+x4*256+x5,by show _=(65536:Int)*_;omega⟩ ⟨by omega,by show _<(65536:Int);omega⟩ (by omega)];rw[orN (m:=8) (y:=x7) (by omega) ⟨x0*281474976710656+x1*1099511627776+x2*4294967296+x3*16777216+x4*65536+x5*256+x6,by show _=(256:Int)*_;omega⟩ ⟨by omega,by show _<(256:Int);omega⟩ (by omega)];omega
theorem APN{b:List Int}(h:by8 b)(j:Nat):wdS b j=wdN b (j*8):=by
 have e:j*8=8*j:=zcp _ _;rw[e];exact wd8 (Yj h _) (Yj h _) (Yj h _) (Yj h _) (Yj h _) (Yj h _) (Yj h _) (Yj h _)
theorem ACx{b:List Int}:∀ n,n≤16→K7 b n=(List.range n).map fun j=>wdN b (j*8)
 |0,_=>rfl
 |n+1,h=>by
  show K7 b n ++ [Yz b (K7 b n) n]=_;rw[List.range_succ,List.map_append,ACx n (by omega)];unfold Yz;rw[if_pos (by omega)];rfl
theorem AKB{b:List Int}(h:by8 b):uh b=K7 b 16++List.replicate 64 0:=by
 unfold uh;rw[ACx 16 (JP _)]
 congr 1
 exact fU fun j _=>APN h j
theorem AJT:(Aj.sum Aa (Aj.pre Aa)).pr 0= .l fun a=>Aw 80 ((Aj.val Aa a).getD 1 []):=rfl
theorem AJl:(Ac.sum AX (Ac.pre AX)).pr 0= .l fun a=>Aw 8 ((Ac.val AX a).getD 1 []):=rfl
theorem AJe{ins:List (List Int)}:Aj.val Aa ins=Gf (Aj.step Aa) 65 ins:=rfl
theorem AGl{ins:List (List Int)}:Ac.val AX ins=Gf (Ac.step AX) 81 ins:=rfl
theorem AJp{ins:List (List Int)}:Aj.pre Aa ins=Rj (Aj.step Aa) (fun ins=>Cn Aa.T (Aj.tree Aa) (A8 ins)) 65 ins:=rfl
theorem AKC{ins:List (List Int)}:Ac.pre AX ins=Rj (Ac.step AX) (fun ins=>Cn AX.T (Ac.tree AX) (A8 ins)) 81 ins:=rfl
theorem AGj:lk (1000000+88) DR.T=some (.one (Aj.sum Aa (Aj.pre Aa))):=by kernel_rfl
theorem AHk:lk (1000000+69) BK.T=some (.one (Ac.sum AX (Ac.pre AX))):=by kernel_rfl
theorem AIo:lk 88 BK.T=some (.one Kb):=by kernel_rfl
theorem AGz:lk 89 BK.T=some (.one Mg):=by kernel_rfl
theorem i16:((16:Nat):Int)=16:=rfl
theorem i00:((0:Nat):Int)=0:=rfl
theorem AUZ{l:List Int}(h:l.length=80):sb l 0 80=l:=by
 have:∀ {n:Nat} {l:List Int},l.length=n→sb l 0 n=l:=fun {n l} h=>by
  subst h;unfold sb;refine List.ext_getElem (by simp) fun i h1 h2=>?_
  simp[List.getD,h2]
 exact this h
theorem pM{b:List Int}(h:by8 b):FB.raw DR 0 [b]=K7 b 80:=by
 have hr:=xD 64 16 (f:=65) (bl:=b) (ys:=List.replicate 64 0) (JP _) rfl (by omega) SX;rw[i16] at hr;have hg:gv DR.T (1000000+88) 0 [[16],uh b]=K7 b 80:=by
  rw[Bg AGj,AJT];show Aw 80 ((Aj.val Aa [[16],uh b]).getD 1 [])=_;rw[AJe,AKB h,hr];exact Au (JQ b 80)
 rw[Et,mM,hg,AUZ (JQ b 80)]
theorem pW{b:List Int}:Cn DR.T (FB.tree DR) (A8 [b]):=by
 refine Dk (Ww p9 ?_);rw[AJp];have:=ADT 64 16 (f:=65) (w:=uh b) (JP _) rfl (by omega)
 rwa [i16] at this
theorem AEz:Kb.pr 0= .l fun a=>Aw 80 (FB.raw DR 0 a):=rfl
theorem APC:Mg.pr 0= .l fun a=>Aw 80 (Rq.raw Ri 0 a):=rfl
theorem yo{b:List Int}{n:Nat}:∀ {m:Nat},n<m→(K7 b m).getD n 0=Yz b (K7 b n) n
 |0,h=>by omega
 | m+1,h=>by
  show (K7 b m ++ [Yz b (K7 b m) m]).getD n 0=_
  rcases nG n m with h1|h1
  ·rw[← yo h1];simp only[List.getD];rw[gI (by rw[JQ];exact h1)]
  ·have:n=m:=by omega
   subst this;simp only[List.getD];rw[mH (by rw[JQ];omega),JQ,zcu];rfl
theorem AKp{b:List Int}{v0:V8}:∀ (m n:Nat),n+m=80→rW Y0 (K7 b 80) m n (rV b v0 n)=rV b v0 80
 |0,n,h=>by
  have:n=80:=by omega
  subst this;rfl
 |m+1,n,h=>by
  rw[rW,yo (by omega)];exact AKp m (n+1) (by omega)
theorem AVr{h l:List Int}(hh:h.length=8)(hl:l.length=8):((List.range 8).map fun k=>Di .add (h.getD k 0) (l.getD k 0))=List.zipWith (Di .add) h l:=by
 match h,hh,l,hl with
 | [_,_,_,_,_,_,_,_],_,[_,_,_,_,_,_,_,_],_=>rfl
theorem gM{h b:List Int}(hh:h.length=8)(hb:by8 b):Eo.raw BK 0 [h,b]=mO h b:=by
 have e1:gv BK.T 89 0 []=Y0:=by
  rw[Bg AGz,APC];exact ABS
 have e2:gv BK.T 88 0 [b]=K7 b 80:=by
  rw[Bg AIo,AEz];show Aw 80 (FB.raw DR 0 [b])=_;rw[pM hb];exact Au (JQ b 80)
 have hr:=ze 80 0 (f:=81) (v:=V8.of h) (k:=Y0) (w:=K7 b 80) rfl (by omega);rw[i00,V8.of_l hh] at hr;have hW:=AKp (b:=b) (v0:=V8.of h) 80 0 rfl;have hg:gv BK.T (1000000+69) 0 [[0],h,Y0,K7 b 80]=(rV b (V8.of h) 80).l:=by
  rw[Bg AHk,AJl];show Aw 8 ((Ac.val AX [[0],h,Y0,K7 b 80]).getD 1 [])=_;rw[AGl,hr]
  change rW Y0 (K7 b 80) 80 0 (V8.of h)=_ at hW
  rw[hW];exact Au rfl
 rw[Et,dN,e1,e2,hg];exact AVr hh rfl
theorem fo{h b:List Int}:Cn BK.T (Eo.tree BK) (A8 [h,b]):=by
 refine Dk (Ww gK ?_);rw[AKC];have:=ADL 80 0 (f:=81) (v:=h) (k:=gv BK.T 89 0 []) (w:=gv BK.T 88 0 [b]) rfl (by omega)
 rwa [i00] at this
theorem ATV{ks:List IntKind}{g:Nat}{wr:Bool}{ins:List (List Int)}(h:Ka [.sl ks g wr] ins):∃ b,ins= [b]:=by
 match ins,h with
 | [b],_=>exact⟨b,rfl⟩
theorem ARv{js ks:List IntKind}{g:Nat}{wr:Bool}{ins:List (List Int)}(h:Ka [.agg js,.sl ks g wr] ins):∃ a b,ins= [a,b]:=by
 match ins,h with
 | [a,b],_=>exact⟨a,b,rfl⟩
section
variable{GB:Nat}{GC:Nat→Nat→Option Value}{ad:Nat→Nat×Nat}(hG:Jk GB GC ad)
include hG
theorem YQ:Bp Tryz.prog GB GC 88 (.one Kb):=(AQ.finL hG (i:=FB) (l:=Aj) (T:=[]) (T':=[(90,.one Ew)]) (L:=[]) (L':=[]) (pre:=fun _=>True) (pl:=Aj.pre Aa) (lid:=1000000+88) (Cb:=Aa) (C1:=DR) (by decide) rfl rfl
 .nil .nil .nil Tryz.func88 rfl rfl rfl (.inl rfl) (.inl rfl) (fun _ _ h=>h)
 (.cons (k:=90) rfl (Tk hG) Tryz.call90 (AQ.lenP _ _) .nil) V5 (by kernel_rfl) (by kernel_rfl) WS fun _ h _=>by obtain⟨b,rfl⟩:=ATV h;exact pW).noPre fun _ _=>trivial
theorem Vm:Bp Tryz.prog GB GC 69 (.one XH):=(AQ.finL hG (i:=Eo) (l:=Ac) (T:=[(88,.one Kb),(89,.one Mg)]) (T':=[(90,.one Ew)]) (L:=[]) (L':=[]) (pre:=fun _=>True) (pl:=Ac.pre AX) (lid:=1000000+69) (Cb:=AX) (C1:=BK) (by decide) rfl rfl
 (.cons (k:=88) rfl (YQ hG) Tryz.call88 (fun _=>Z0 (AQ.lenH _ _ _ true)) (.cons (k:=89) rfl (aW hG) Tryz.call89 (AQ.len _ _) .nil)) .nil .nil Tryz.func69 rfl rfl rfl (.inl rfl) (.inl rfl) (fun _ _ h=>h)
 (.cons (k:=90) rfl (Tk hG) Tryz.call90 (AQ.lenP _ _) .nil) UC (by kernel_rfl) (by kernel_rfl) VS fun _ h _=>by obtain⟨a,b,rfl⟩:=ARv h;exact fo).noPre fun _ _=>trivial
end
end
end Go.Proofs.YtloibefkijfdlaaGreatDoor
