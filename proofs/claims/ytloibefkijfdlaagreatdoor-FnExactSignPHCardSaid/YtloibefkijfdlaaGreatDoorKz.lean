/- The hash's block function by its contract is cpr: the value. -/
import Derived.Test.YtloibefkijfdlaaGreatDoorFx
import Derived.Test.YtloibefkijfdlaaGreatDoorPt8
import Derived.Test.YtloibefkijfdlaaGreatDoorSb1
import Derived.Test.YtloibefkijfdlaaGreatDoorWd
namespace Go.Proofs.YtloibefkijfdlaaGreatDoor
section
open Go
theorem AB8{bl ys:List Int}{n:Nat}{v:V8}(hn:n<80)(hy:0<ys.length):AP.step AA (v.ls ++ [[(n:Int)],K7 bl n++ys,bl])=some (true,(wJ v (Y0.getD n 0) (Yz bl (K7 bl n) n)).ls ++ [[((n+1:Nat):Int)],K7 bl (n+1)++ys.drop 1,bl]):=by
 have h80:Ao .lss .i64 (n:Int) 80=1:=yD (j:=80) hn
 by_cases h:n<16
 ·have h16:Ao .lss .i64 (n:Int) 16=1:=yD (j:=16) h;have:=I7.stepP_ok (@AA3 v.a v.b v.c v.d v.e v.f v.g v.h (n:Int) (K7 bl n++ys) bl) (fun c hc=>by
   simp only[J4,List.not_mem_nil,or_false] at hc
   rcases hc with rfl|rfl
   ·simp[h80]
   ·simp[h16])
  have e8:Ao .mul .i64 (n:Int) 8=((n*8:Nat):Int):=ADh (j:=n) (k:=8) (by omega);rw[e8,ADj bl (by omega),ZZ hn (JQ bl n) hy] at this;rw[show Yz bl (K7 bl n) n=wdN bl (n*8) by unfold Yz;rw[if_pos h]];rw[show K7 bl (n+1)=K7 bl n ++ [wdN bl (n*8)] by show K7 bl n ++ [Yz bl (K7 bl n) n]=_;unfold Yz;rw[if_pos h]];exact this
 ·have h16:Ao .lss .i64 (n:Int) 16=0:=AKT (j:=16) (by omega);have:=I7.stepP_ok (@ABY v.a v.b v.c v.d v.e v.f v.g v.h (n:Int) (K7 bl n++ys) bl) (fun c hc=>by
   simp only[J4,List.not_mem_nil,or_false] at hc
   rcases hc with rfl|rfl
   ·simp[h80]
   ·simp[h16])
  rw[vB (by omega) hn (JQ bl n),ZZ hn (JQ bl n) hy] at this;rw[show Yz bl (K7 bl n) n=nwN (K7 bl n) n by unfold Yz;rw[if_neg h]];rw[show K7 bl (n+1)=K7 bl n ++ [nwN (K7 bl n) n] by show K7 bl n ++ [Yz bl (K7 bl n) n]=_;unfold Yz;rw[if_neg h]];exact this
theorem ABd{bl ws:List Int}{v:V8}:AP.step AA (v.ls ++ [[80],ws,bl])=some (false,v.ls ++ [[80],ws,bl]):=
 I7.stepP_ok (@vX v.a v.b v.c v.d v.e v.f v.g v.h 80 ws bl) (fun c hc=>by
  simp only[Nc] at hc;subst hc;exact⟨fun _=>rfl,fun _=>by decide⟩)
theorem xw{bl:List Int}{v0:V8}:∀ (m n:Nat) {ys:List Int},n+m=80→ys.length=m→Gf (AP.step AA) (m+1) ((rV bl v0 n).ls ++ [[(n:Int)],K7 bl n++ys,bl])=(rV bl v0 80).ls ++ [[80],K7 bl 80,bl]
 |0,n,ys,hn,hy=>by
  have:n=80:=by omega
  subst this;have:ys= []:=zbx hy;subst this;rw[TL];unfold Gf;rw[show ((80:Nat):Int)=80 from rfl,ABd]
 |m+1,n,ys,hn,hy=>by
  unfold Gf;rw[AB8 (by omega) (by omega)];exact xw m (n+1) (by omega) (by simp[hy])
theorem AAn{bl ws:List Int}{v:V8}(h:ws.length=80):Gf (AP.step AA) 81 (v.ls ++ [[0],ws,bl])=(rV bl v 80).ls ++ [[80],K7 bl 80,bl]:=
 xw (bl:=bl) (v0:=v) 80 0 (by omega) h
theorem AOS:∀ k,k<8→(AP.sum AA (AP.pre AA)).pr (k+1)= .i fun a=>d1 ((AP.val AA a).getD k [])
 |0,_|1,_|2,_|3,_|4,_|5,_|6,_|7,_=>rfl
theorem ASs(a:List (List Int)):AP.fuel a=81:=rfl
theorem ANJ(a:List (List Int)):AP.val AA a=Gf (AP.step AA) 81 a:=by
 unfold I7.val;rw[ASs]
theorem AT2(a:List (List Int)){k:Nat}(hk:k<8):gv BC.T (1000000+154) (k+1) a= [d1 ((Gf (AP.step AA) 81 a).getD k [])]:=by
 rw[Bg AFP,AOS k hk, ← ANJ];rfl
theorem ATg(v:V8){k:Nat}(hk:k<8):d1 (v.ls.getD k [])=v.l.getD k 0:=by
 have h:∀ x:Int,d1 [x]=x:=fun _=>rfl
 match k,hk with
 |0,_=>exact h v.a
 |1,_=>exact h v.b
 |2,_=>exact h v.c
 |3,_=>exact h v.d
 |4,_=>exact h v.e
 |5,_=>exact h v.f
 |6,_=>exact h v.g
 |7,_=>exact h v.h
theorem AP2{v:V8}{k:Nat}{x:List (List Int)}(h:k<8):(v.ls++x).getD k []=v.ls.getD k []:=by
 simp only[List.getD];rw[gI (by simpa[V8.ls] using h)]
theorem ASq{h:List Int}(v:V8)(hh:h.length=8):((List.range 8).map fun k=>Di .add (h.getD k 0) (v.l.getD k 0))=List.zipWith (Di .add) h v.l:=by
 match h,hh with
 | [_,_,_,_,_,_,_,_],_=>rfl
theorem AIb{h bl:List Int}(hl:h.length=8):Bq.raw BC 0 [h,bl]=mO h bl:=by
 have hgk:∀ k,k<8→(gv BC.T (1000000+154) (k+1) ((V8.of h).ls ++ [[0],List.replicate 80 0,bl])).getD 0 0=(rV bl (V8.of h) 80).l.getD k 0:=fun k hk=>by
  rw[AT2 _ hk,AAn SX,AP2 hk,Qu,ATg _ hk]
 rw[Et,AD0];rw[fU (g:=fun k=>Di .add (h.getD k 0) ((rV bl (V8.of h) 80).l.getD k 0)) fun k hk=>by rw[hgk k (fD.1 hk)]];exact ASq _ hl
end
section
open Go Ma
theorem dQ:∀ (k n:Nat),IG (octV k n)=((n%256^k:Nat):Int)
 |0,n=>by simp[octV,IG,Nat.mod_one]
 |k+1,n=>by
  rw[octV,IG,dQ k,r9,zcp (256^k),Nat.mod_mul];omega
def hiE:Nat:=57896044618658097711785492504343953926634992332820282019728792003956564819968
theorem yL(P:Pt):OT P=octV 32 (P.y.val+(bif Nat.beq (P.x.val%2) 1 then hiE else 0)):=by
 have hy:=P.y.isLt;have hP:(PP:Nat)≤hiE:=by decide +kernel
 have h256:(256:Nat)^32=2*hiE:=by decide +kernel
 unfold OT
 by_cases ho:P.x.val%2=1
 ·rw [if_pos ho,ho];show _=octV 32 (P.y.val+hiE);obtain⟨l1,l2⟩:=ADm P.y;have hl:(sb (octV 32 P.y.val) 0 31 ++ [(octV 32 P.y.val).getD 31 0+128]).length=32:=by rw[K6,ma];rfl
  have:=kD (l:=sb (octV 32 P.y.val) 0 31 ++ [(octV 32 P.y.val).getD 31 0+128]) (n:=P.y.val+hiE) (fun x hx=>?_) ?_
  ·rwa [hl] at this
  ·rcases iQ.1 hx with h|h
   ·simp only[sb,VI] at h;obtain⟨i,hi,rfl⟩:=h;rw[NU,bY (by have:=fD.1 hi;omega)];omega
   ·have:=Nc.1 h;omega
  ·have e:=dQ 32 P.y.val;have e2:octV 32 P.y.val=sb (octV 32 P.y.val) 0 31 ++ [(octV 32 P.y.val).getD 31 0]:=by
    have h1:=Xd (Ml 32 P.y.val);rw[← h1];have:sb (octV 32 P.y.val) 0 32=sb (octV 32 P.y.val) 0 31 ++ [(octV 32 P.y.val).getD 31 0]:=by
     unfold sb;rw[List.range_succ,List.map_append];simp
    rw[h1];rw[h1] at this;exact this
   rw[e2,RD,ma] at e;rw[RD,ma];simp only[IG] at e ⊢;rw[Nat.mod_eq_of_lt (by omega)] at e;have h31:(256:Int)^31*128=(hiE:Int):=by decide +kernel
   generalize (octV 32 P.y.val).getD 31 0=t at *
   rw[Int.mul_zero,wP] at e ⊢;rw[qC,h31,Int.natCast_add];omega
 ·rw[if_neg ho];have:Nat.beq (P.x.val%2) 1=false:=by
   cases hb:Nat.beq (P.x.val%2) 1 with
   |true=>exact absurd (CL hb) ho
   |false=>rfl
  rw[this];rfl
theorem za{T:Tb}(h:lk 104 T=some (.one BL)){P:Pt}{l:List Int}(hP:R3 P l):gv T 104 0 [l]=OT P:=by
 obtain⟨h1,h2,h3⟩:=APM h hP;rw[yL];refine B32.octV ⟨h2,h1,?_⟩;rw[h3,Int.natCast_add]
 congr 1
 cases Nat.beq (P.x.val%2) 1<;>rfl
end
section
open Go Ma
section
variable(T:Tb)
def kP8:List Int:=gv T (70000+155) 0 [List.replicate 8 0,[256]]
def kBl(x:List Int):List Int:=sb x 0 32++128::(List.replicate 87 0++sb (kP8 T) 0 8)
def kH(x:List Int):List Int:=gv T 154 0 [H0,kBl T x]
def kq0(x:List Int):List Int:=gv T 155 0 [List.replicate 64 0,[(kH T x).getD 0 0]]
def kq1(x:List Int):List Int:=gv T (10000+155) 0 [sb (kq0 T x) 8 56,[(kH T x).getD 1 0]]
def kq2(x:List Int):List Int:=gv T (20000+155) 0 [sb (kq1 T x) 8 48,[(kH T x).getD 2 0]]
def kq3(x:List Int):List Int:=gv T (30000+155) 0 [sb (kq2 T x) 8 40,[(kH T x).getD 3 0]]
def kq4(x:List Int):List Int:=gv T (40000+155) 0 [sb (kq3 T x) 8 32,[(kH T x).getD 4 0]]
def kq5(x:List Int):List Int:=gv T (50000+155) 0 [sb (kq4 T x) 8 24,[(kH T x).getD 5 0]]
def kq6(x:List Int):List Int:=gv T (60000+155) 0 [sb (kq5 T x) 8 16,[(kH T x).getD 6 0]]
def kq7(x:List Int):List Int:=gv T (70000+155) 0 [sb (kq6 T x) 8 8,[(kH T x).getD 7 0]]
def kLo(x:List Int):List Int:=sb (kq0 T x) 0 8++(sb (kq1 T x) 0 8++(sb (kq2 T x) 0 8++sb (kq3 T x) 0 8))
def kHi(x:List Int):List Int:=sb (kq4 T x) 0 8++(sb (kq5 T x) 0 8++(sb (kq6 T x) 0 8++sb (kq7 T x) 0 8))
def kS(v x:List Int):List Int:=gv T 95 0 [sb v 64 4,kLo T x]
def kA(v x:List Int):List Int:=gv T 104 0 [gv T 105 0 [List.replicate 20 0,kS T v x]]
variable{T}
theorem AMj{v x:List Int}:Bu.valT T AJ 0 [v,x]=sb x 0 32++(sb (kA T v x) 0 32++(sb (kS T v x) 0 4++kHi T x)):=by kernel_rfl
end
end
section
open Go Ma
theorem ASt{x y:List Int}{n:Nat}(h:x.length=n):sb (x++y) 0 n=x:=by
 have:=aO (x:=[]) (y:=x) (z:=y) (o:=0) rfl h
 simpa using this
theorem Wv{T:Tb}{f n:Nat}{s:Az}{i:AQ}{C:Cx}{old:List Int}{v:Int}(h:lk f T=some (.one s))(hp:s.pr 0= .l fun a=>Aw n (i.raw C 0 a))(hr:i.raw C 0 [old,[v]]=OL v++nE n old)(hn:8≤n):sb (gv T f 0 [old,[v]]) 0 8=OL v:=by
 rw[Bg h,hp];show sb (Aw n (i.raw C 0 [old,[v]])) 0 8=_;rw[hr,Au (by rw[K6,Ku,yf];omega)];exact ASt (Ku v)
theorem AO7:Hw.pr 0= .l fun a=>Aw 64 (IA.raw H7 0 a):=rfl
theorem ANN:Fb.pr 0= .l fun a=>Aw 56 (FY.raw F3 0 a):=rfl
theorem APY:Fq.pr 0= .l fun a=>Aw 48 (FZ.raw F7 0 a):=rfl
theorem AP1:FT.pr 0= .l fun a=>Aw 40 (GD.raw Fs 0 a):=rfl
theorem AMl:Fj.pr 0= .l fun a=>Aw 32 (Fg.raw Fa 0 a):=rfl
theorem AMy:FU.pr 0= .l fun a=>Aw 24 (Fw.raw Fv 0 a):=rfl
theorem AOK:Ff.pr 0= .l fun a=>Aw 16 (Fz.raw Fu 0 a):=rfl
theorem AFJ:Fh.pr 0= .l fun a=>Aw 8 (FW.raw GA 0 a):=rfl
theorem AM4:Er.pr 0= .l fun a=>Aw 8 (Bq.raw BC 0 a):=rfl
theorem AMM{h:List Int}(hl:h.length=8):qQ h=OL (h.getD 0 0)++(OL (h.getD 1 0)++(OL (h.getD 2 0)++OL (h.getD 3 0)))++(OL (h.getD 4 0)++(OL (h.getD 5 0)++(OL (h.getD 6 0)++OL (h.getD 7 0)))):=by
 match h,hl with
 | [_,_,_,_,_,_,_,_],_=>rfl
theorem ANV{x:List Int}(hl:x.length=32):Kn x=qQ (mO H0 (x++gD 32)):=by
 have hp:(x++gD 32).length=128:=by rw[K6,hl];rfl
 unfold Kn hst;rw[hl,hp];show qQ (mO H0 ((x++gD 32).take 128))=_;rw[zco (by omega)]
def SI(x:List Int):Int:=IG (clB ((Kn x).take 32))
theorem yE(x:List Int):by8 (Kn x):=fun y hy=>zf y hy
theorem Z5(x:List Int):((Kn x).take 32).length=32:=by rw[Y3,Du];rfl
theorem Ua(x:List Int):by8 ((Kn x).take 32):=fun y hy=>yE x y (List.mem_of_mem_take hy)
theorem Jy(P:Pt):(OT P).length=32:=by rw[yL];exact Ml _ _
theorem AOp{v x:List Int}(hl:x.length=32):∃ s,Bu.raw AJ 0 [v,x]=x++(OT (Nf.zm (SI x))++(s++(Kn x).drop 32))∧OW s (SI x):=by
 rw[Et,AMj];have T1:lk 155 AJ.T=some (.one Hw):=by kernel_rfl
 have U1:lk (10000+155) AJ.T=some (.one Fb):=by kernel_rfl
 have U2:lk (20000+155) AJ.T=some (.one Fq):=by kernel_rfl
 have U3:lk (30000+155) AJ.T=some (.one FT):=by kernel_rfl
 have U4:lk (40000+155) AJ.T=some (.one Fj):=by kernel_rfl
 have U5:lk (50000+155) AJ.T=some (.one FU):=by kernel_rfl
 have U6:lk (60000+155) AJ.T=some (.one Ff):=by kernel_rfl
 have U7:lk (70000+155) AJ.T=some (.one Fh):=by kernel_rfl
 have T2:lk 154 AJ.T=some (.one Er):=by kernel_rfl
 have T3:lk 95 AJ.T=some (.one Bf):=by kernel_rfl
 have T4:lk 105 AJ.T=some (.one AY):=by kernel_rfl
 have T5:lk 104 AJ.T=some (.one BL):=by kernel_rfl
 generalize AJ.T=T at *
 have hP8:sb (kP8 T) 0 8=OL 256:=Wv U7 AFJ lg (by decide);have hBl:kBl T x=x++gD 32:=by
  unfold kBl;rw[hP8,Xd hl];rfl
 have hH:kH T x=mO H0 (x++gD 32):=by
  unfold kH;rw[hBl,Bg T2,AM4];show Aw 8 (Bq.raw BC 0 [H0,x++gD 32])=_;rw[AIb rfl];exact Au (Xc rfl)
 have hHl:(kH T x).length=8:=by rw[hH];exact Xc rfl
 have q0:sb (kq0 T x) 0 8=OL ((kH T x).getD 0 0):=Wv T1 AO7 AAR (by decide);have q1:sb (kq1 T x) 0 8=OL ((kH T x).getD 1 0):=Wv U1 ANN zR (by decide);have q2:sb (kq2 T x) 0 8=OL ((kH T x).getD 2 0):=Wv U2 APY AAL (by decide);have q3:sb (kq3 T x) 0 8=OL ((kH T x).getD 3 0):=Wv U3 AP1 yV (by decide);have q4:sb (kq4 T x) 0 8=OL ((kH T x).getD 4 0):=Wv U4 AMl xI (by decide);have q5:sb (kq5 T x) 0 8=OL ((kH T x).getD 5 0):=Wv U5 AMy yO (by decide);have q6:sb (kq6 T x) 0 8=OL ((kH T x).getD 6 0):=Wv U6 AOK AAD (by decide);have q7:sb (kq7 T x) 0 8=OL ((kH T x).getD 7 0):=Wv U7 AFJ lg (by decide);have hs:Kn x=kLo T x++kHi T x:=by
  rw[ANV hl, ← hH,AMM hHl];unfold kLo kHi;rw[q0,q1,q2,q3,q4,q5,q6,q7]
 have hLl:(kLo T x).length=32:=by unfold kLo;simp[ma]
 have hLo:kLo T x=(Kn x).take 32:=by rw[hs, ← hLl,List.take_left]
 have hHi:kHi T x=(Kn x).drop 32:=by rw[hs, ← hLl,List.drop_left]
 have hS:OW (kS T v x) (SI x):=by
  unfold kS SI;rw[hLo];exact AQj T3 (Ua x) (Z5 x)
 have hA:kA T v x=OT (Nf.zm (SI x)):=za T5 (ADg T4 hS);refine⟨kS T v x,?_,hS⟩;rw[hA,hHi,Xd hl,Xd (Jy _),Xd hS.len]
theorem xH{x:List Int}(hl:x.length=32):∃ s,Yw x=x++(OT (Nf.zm (SI x))++(s++(Kn x).drop 32))∧OW s (SI x):=by
 obtain⟨s,h1,h2⟩:=AOp (v:=pk0) hl;refine⟨s,?_,h2⟩;rw[AFu,h1];refine Au ?_;simp only[K6,nO,Du,Jy,h2.len,hl]
theorem AHO{x:List Int}(hl:x.length=32):cp (Yw x) 0 64=x++OT (Nf.zm (SI x))∧cp (Yw x) 0 32=x∧cp (Yw x) 32 32=OT (Nf.zm (SI x)):=by
 obtain⟨s,h,-⟩:=xH hl;rw[h];refine⟨?_,um hl,aO hl (Jy _)⟩;rw[← YY];exact um (by rw[K6,hl,Jy])
end
end Go.Proofs.YtloibefkijfdlaaGreatDoor
