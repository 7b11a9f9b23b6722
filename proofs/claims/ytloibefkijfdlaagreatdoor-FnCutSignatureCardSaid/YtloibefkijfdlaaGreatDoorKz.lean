/- The hash's block function by its contract is cpr: the value. -/
import Derived.Test.YtloibefkijfdlaaGreatDoorFx
import Derived.Test.YtloibefkijfdlaaGreatDoorPt8
import Derived.Test.YtloibefkijfdlaaGreatDoorWd
namespace Go.Proofs.YtloibefkijfdlaaGreatDoor
section
open Go
theorem ADH{bl ys:List Int}{n:Nat}{v:V8}(hn:n<80)(hy:0<ys.length):AU.step AL (v.ls ++ [[(n:Int)],Og bl n++ys,bl])=some (true,(AEA v (AA0.getD n 0) (ak bl (Og bl n) n)).ls ++ [[((n+1:Nat):Int)],Og bl (n+1)++ys.drop 1,bl]):=by
 have h80:Ah .lss .i64 (n:Int) 80=1:=rq (j:=80) hn;by_cases h:n<16
 ·have nc:Ah .lss .i64 (n:Int) 16=1:=rq (j:=16) h;have:=JJ.hO (@xz v.a v.b v.c v.d v.e v.f v.g v.h (n:Int) (Og bl n++ys) bl) (λc hc=>by
   simp only[IR,List.not_mem_nil,or_false] at hc;rcases hc with rfl|rfl
   ·simp[h80]
   ·simp[nc])
  have e8:Ah .mul .i64 (n:Int) 8=((n*8:Nat):Int):=AAU (j:=n) (k:=8) (by omega);rw[e8,ACk bl (by omega),Xr hn (Oo bl n) hy] at this;rw[show ak bl (Og bl n) n=wdN bl (n*8) by unfold ak;rw[if_pos h]];rw[show Og bl (n+1)=Og bl n ++ [wdN bl (n*8)] by show Og bl n ++ [ak bl (Og bl n) n]=_;unfold ak;rw[if_pos h]];exact this
 ·have nc:Ah .lss .i64 (n:Int) 16=0:=AIK (j:=16) (by omega);have:=JJ.hO (@xU v.a v.b v.c v.d v.e v.f v.g v.h (n:Int) (Og bl n++ys) bl) (λc hc=>by
   simp only[IR,List.not_mem_nil,or_false] at hc;rcases hc with rfl|rfl
   ·simp[h80]
   ·simp[nc])
  rw[ABo (by omega) hn (Oo bl n),Xr hn (Oo bl n) hy] at this;rw[show ak bl (Og bl n) n=nwN (Og bl n) n by unfold ak;rw[if_neg h]];rw[show Og bl (n+1)=Og bl n ++ [nwN (Og bl n) n] by show Og bl n ++ [ak bl (Og bl n) n]=_;unfold ak;rw[if_neg h]];exact this
theorem yQ{bl ws:List Int}{v:V8}:AU.step AL (v.ls ++ [[80],ws,bl])=some (false,v.ls ++ [[80],ws,bl]):=
 JJ.hO (@pR v.a v.b v.c v.d v.e v.f v.g v.h 80 ws bl) (λc hc=>by
  simp only[NB] at hc;subst hc;exact⟨λ_=>rfl,λ_=>by decide⟩)
theorem wT{bl:List Int}{v0:V8}:∀(m n:Nat) {ys:List Int},n+m=80->ys.length=m->K6 (AU.step AL) (m+1) ((rV bl v0 n).ls ++ [[(n:Int)],Og bl n++ys,bl])=(rV bl v0 80).ls ++ [[80],Og bl 80,bl]
 |0,n,ys,hn,hy=>by
  have:n=80:=by omega
  subst this;have:ys= []:=I3 hy;subst this;rw[Rw];unfold K6;rw[show((80:Nat):Int)=80 from rfl,yQ]
 |m+1,n,ys,hn,hy=>by
  unfold K6;rw[ADH (by omega) (by omega)];exact wT m (n+1) (by omega) (by simp[hy])
theorem yY{bl ws:List Int}{v:V8}(h:ws.length=80):K6 (AU.step AL) 81 (v.ls ++ [[0],ws,bl])=(rV bl v 80).ls ++ [[80],Og bl 80,bl]:=
 wT (bl:=bl) (v0:=v) 80 0 (by omega) h
theorem AJ6:∀k,k<8->(AU.sum AL (AU.pre AL)).pr (k+1)= .i λa=>d1 ((AU.val AL a).getD k [])
 |0,_|1,_|2,_|3,_|4,_|5,_|6,_|7,_=>rfl
theorem APn(a:List (List Int)):AU.fuel a=81:=rfl
theorem ALD(a:List (List Int)):AU.val AL a=K6 (AU.step AL) 81 a:=by
 unfold JJ.val;rw[APn]
theorem AQm(a:List (List Int)){k:Nat}(hk:k<8):gv A9.T (1000000+154) (k+1) a= [d1 ((K6 (AU.step AL) 81 a).getD k [])]:=by
 rw[BQ ACp,AJ6 k hk, <- ALD];rfl
theorem AQG(v:V8){k:Nat}(hk:k<8):d1 (v.ls.getD k [])=v.l.getD k 0:=by
 have h:∀x:Int,d1 [x]=x:=λ_=>rfl
 match k,hk with
 |0,_=>exact h v.a
 |1,_=>exact h v.b
 |2,_=>exact h v.c
 |3,_=>exact h v.d
 |4,_=>exact h v.e
 |5,_=>exact h v.f
 |6,_=>exact h v.g
 |7,_=>exact h v.h
theorem ALq{v:V8}{k:Nat}{x:List (List Int)}(h:k<8):(v.ls++x).getD k []=v.ls.getD k []:=by
 simp only[List.getD];rw[Zm (by simpa[V8.ls] using h)]
theorem AQE{h:List Int}(v:V8)(hh:h.length=8):((List.range 8).map λk=>KN .add (h.getD k 0) (v.l.getD k 0))=List.zipWith (KN .add) h v.l:=by
 match h,hh with
 | [_,_,_,_,_,_,_,_],_=>rfl
theorem AEQ{h bl:List Int}(hl:h.length=8):Bp.raw A9 0 [h,bl]=yC h bl:=by
 have hgk:∀k,k<8->(gv A9.T (1000000+154) (k+1) ((V8.of h).ls ++ [[0],List.replicate 80 0,bl])).getD 0 0=(rV bl (V8.of h) 80).l.getD k 0:=λk hk=>by
  rw[AQm _ hk,yY Qs,ALq hk,Ru,AQG _ hk]
 rw[Lt,zF];rw[Zx (g:=λk=>KN .add (h.getD k 0) ((rV bl (V8.of h) 80).l.getD k 0)) λk hk=>by rw[hgk k (lZ.1 hk)]];exact AQE _ hl
end
section
open Go Ma
theorem Qv:∀(k n:Nat),Ct (ck k n)=((n%256^k:Nat):Int)
 |0,n=>by simp[ck,Ct,Nat.mod_one]
 |k+1,n=>by
  rw[ck,Ct,Qv k,ql,vg (256^k),Nat.mod_mul];omega
def hiE:Nat:=57896044618658097711785492504343953926634992332820282019728792003956564819968
theorem fT(P:Pt):JD P=ck 32 (P.y.val+(bif Nat.beq (P.x.val%2) 1 then hiE else 0)):=by
 have hy:=P.y.isLt;have hP:(PP:Nat)<=hiE:=by decide +kernel
 have LR:(256:Nat)^32=2*hiE:=by decide +kernel
 unfold JD;by_cases ho:P.x.val%2=1
 ·rw[if_pos ho,ho];show _=ck 32 (P.y.val+hiE);obtain⟨l1,l2⟩:=AHT P.y;have hl:(sb (ck 32 P.y.val) 0 31 ++ [(ck 32 P.y.val).getD 31 0+128]).length=32:=by rw[MN,fG];rfl
  have:=Vm (l:=sb (ck 32 P.y.val) 0 31 ++ [(ck 32 P.y.val).getD 31 0+128]) (n:=P.y.val+hiE) (λx hx=>?_) ?_
  ·rwa [hl] at this
  ·rcases jd.1 hx with h|h
   ·simp only[sb,UT] at h;obtain⟨i,hi,rfl⟩:=h;rw[Km,VM (by have:=lZ.1 hi;omega)];omega
   ·have:=NB.1 h;omega
  ·have e:=Qv 32 P.y.val;have e2:ck 32 P.y.val=sb (ck 32 P.y.val) 0 31 ++ [(ck 32 P.y.val).getD 31 0]:=by
    have h1:=Ye (Je 32 P.y.val);rw[<- h1];have:sb (ck 32 P.y.val) 0 32=sb (ck 32 P.y.val) 0 31 ++ [(ck 32 P.y.val).getD 31 0]:=by
     unfold sb;rw[List.range_succ,List.map_append];simp
    rw[h1];rw[h1] at this;exact this
   rw[e2,QL,fG] at e;rw[QL,fG];simp only[Ct] at e ⊢;rw[Nat.mod_eq_of_lt (by omega)] at e;have tg:(256:Int)^31*128=(hiE:Int):=by decide +kernel
   generalize (ck 32 P.y.val).getD 31 0=t at *
   rw[Int.mul_zero,HQ] at e ⊢;rw[qR,tg,Int.natCast_add];omega
 ·rw[if_neg ho];have:Nat.beq (P.x.val%2) 1=false:=by
   cases hb:Nat.beq (P.x.val%2) 1 with
   |true=>exact absurd (CR hb) ho
   |false=>rfl
  rw[this];rfl
theorem dn{T:Tb}(h:lk 104 T=some (.one BL)){P:Pt}{l:List Int}(hP:R3 P l):gv T 104 0 [l]=JD P:=by
 obtain⟨h1,h2,h3⟩:=AME h hP;rw[fT];refine B32.ck ⟨h2,h1,?_⟩;rw[h3,Int.natCast_add]
 congr 1
 cases Nat.beq (P.x.val%2) 1<;>rfl
end
section
open Go Ma
section
variable(T:Tb)
def kP8:List Int:=gv T (70000+155) 0 [List.replicate 8 0,[256]]
def kBl(x:List Int):List Int:=sb x 0 32++128::(List.replicate 87 0++sb (kP8 T) 0 8)
def kH(x:List Int):List Int:=gv T 154 0 [H0,kBl T x]
def kq0(x:List Int):List Int:=gv T 155 0 [List.replicate 64 0,[(kH T x).getD 0 0]]
def kq1(x:List Int):List Int:=gv T (10000+155) 0 [sb (kq0 T x) 8 56,[(kH T x).getD 1 0]]
def kq2(x:List Int):List Int:=gv T (20000+155) 0 [sb (kq1 T x) 8 48,[(kH T x).getD 2 0]]
def kq3(x:List Int):List Int:=gv T (30000+155) 0 [sb (kq2 T x) 8 40,[(kH T x).getD 3 0]]
def kq4(x:List Int):List Int:=gv T (40000+155) 0 [sb (kq3 T x) 8 32,[(kH T x).getD 4 0]]
def kq5(x:List Int):List Int:=gv T (50000+155) 0 [sb (kq4 T x) 8 24,[(kH T x).getD 5 0]]
def kq6(x:List Int):List Int:=gv T (60000+155) 0 [sb (kq5 T x) 8 16,[(kH T x).getD 6 0]]
def kq7(x:List Int):List Int:=gv T (70000+155) 0 [sb (kq6 T x) 8 8,[(kH T x).getD 7 0]]
def kLo(x:List Int):List Int:=sb (kq0 T x) 0 8++(sb (kq1 T x) 0 8++(sb (kq2 T x) 0 8++sb (kq3 T x) 0 8))
def kHi(x:List Int):List Int:=sb (kq4 T x) 0 8++(sb (kq5 T x) 0 8++(sb (kq6 T x) 0 8++sb (kq7 T x) 0 8))
def kS(v x:List Int):List Int:=gv T 95 0 [sb v 64 4,kLo T x]
def kA(v x:List Int):List Int:=gv T 104 0 [gv T 105 0 [List.replicate 20 0,kS T v x]]
variable{T}
theorem ALa{v x:List Int}:Bu.sd T AP 0 [v,x]=sb x 0 32++(sb (kA T v x) 0 32++(sb (kS T v x) 0 4++kHi T x)):=by kernel_rfl
end
end
section
open Go Ma
theorem AO1{x y:List Int}{n:Nat}(h:x.length=n):sb (x++y) 0 n=x:=by
 have:=sG (x:=[]) (y:=x) (z:=y) (o:=0) rfl h;simpa using this
theorem VI{T:Tb}{f n:Nat}{s:BH}{i:Ad}{C:Cx}{c8:List Int}{v:Int}(h:lk f T=some (.one s))(hp:s.pr 0= .l λa=>BK n (i.raw C 0 a))(hr:i.raw C 0 [c8,[v]]=Oe v++gy n c8)(hn:8<=n):sb (gv T f 0 [c8,[v]]) 0 8=Oe v:=by
 rw[BQ h,hp];show sb (BK n (i.raw C 0 [c8,[v]])) 0 8=_;rw[hr,Bn (by rw[MN,Oq,sI];omega)];exact AO1 (Oq v)
theorem ALc:He.pr 0= .l λa=>BK 64 (HY.raw HV 0 a):=rfl
theorem AKd:Ff.pr 0= .l λa=>BK 56 (FP.raw Fe 0 a):=rfl
theorem ALl:FY.pr 0= .l λa=>BK 48 (Fs.raw GA 0 a):=rfl
theorem AJs:Fa.pr 0= .l λa=>BK 40 (F9.raw Fg 0 a):=rfl
theorem AL8:FT.pr 0= .l λa=>BK 32 (F8.raw Fq 0 a):=rfl
theorem AMy:Fh.pr 0= .l λa=>BK 24 (Fb.raw Fy 0 a):=rfl
theorem AJX:FZ.pr 0= .l λa=>BK 16 (FQ.raw FW 0 a):=rfl
theorem ABQ:Fw.pr 0= .l λa=>BK 8 (Fz.raw F3 0 a):=rfl
theorem AKj:Em.pr 0= .l λa=>BK 8 (Bp.raw A9 0 a):=rfl
theorem AJ7{h:List Int}(hl:h.length=8):qF h=Oe (h.getD 0 0)++(Oe (h.getD 1 0)++(Oe (h.getD 2 0)++Oe (h.getD 3 0)))++(Oe (h.getD 4 0)++(Oe (h.getD 5 0)++(Oe (h.getD 6 0)++Oe (h.getD 7 0)))):=by
 match h,hl with
 | [_,_,_,_,_,_,_,_],_=>rfl
theorem AKh{x:List Int}(hl:x.length=32):MC x=qF (yC H0 (x++sP 32)):=by
 have hp:(x++sP 32).length=128:=by rw[MN,hl];rfl
 unfold MC gf;rw[hl,hp];show qF (yC H0 ((x++sP 32).take 128))=_;rw[N3 (by omega)]
def WN(x:List Int):Int:=Ct (Pa ((MC x).take 32))
theorem tN(x:List Int):cM (MC x):=λy hy=>AFF y hy
theorem AKI(x:List Int):((MC x).take 32).length=32:=by rw[Rk,J6];rfl
theorem ADJ(x:List Int):cM ((MC x).take 32):=λy hy=>tN x y (List.mem_of_mem_take hy)
theorem EN(P:Pt):(JD P).length=32:=by rw[fT];exact Je _ _
theorem AAe(P:Pt):cM (JD P):=by rw[fT];exact YQ _ _
theorem AMX{v x:List Int}(hl:x.length=32):∃s,Bu.raw AP 0 [v,x]=x++(JD (JS.zm (WN x))++(s++(MC x).drop 32))/\MO s (WN x):=by
 rw[Lt,ALa];have T1:lk 155 AP.T=some (.one He):=by kernel_rfl
 have U1:lk (10000+155) AP.T=some (.one Ff):=by kernel_rfl
 have U2:lk (20000+155) AP.T=some (.one FY):=by kernel_rfl
 have U3:lk (30000+155) AP.T=some (.one Fa):=by kernel_rfl
 have U4:lk (40000+155) AP.T=some (.one FT):=by kernel_rfl
 have U5:lk (50000+155) AP.T=some (.one Fh):=by kernel_rfl
 have U6:lk (60000+155) AP.T=some (.one FZ):=by kernel_rfl
 have U7:lk (70000+155) AP.T=some (.one Fw):=by kernel_rfl
 have T2:lk 154 AP.T=some (.one Em):=by kernel_rfl
 have T3:lk 95 AP.T=some (.one Bb):=by kernel_rfl
 have T4:lk 105 AP.T=some (.one Aa):=by kernel_rfl
 have T5:lk 104 AP.T=some (.one BL):=by kernel_rfl
 generalize AP.T=T at *
 have hP8:sb (kP8 T) 0 8=Oe 256:=VI U7 ABQ di (by decide);have hBl:kBl T x=x++sP 32:=by
  unfold kBl;rw[hP8,Ye hl];rfl
 have hH:kH T x=yC H0 (x++sP 32):=by
  unfold kH;rw[hBl,BQ T2,AKj];show BK 8 (Bp.raw A9 0 [H0,x++sP 32])=_;rw[AEQ rfl];exact Bn (Xq rfl)
 have hHl:(kH T x).length=8:=by rw[hH];exact Xq rfl
 have q0:sb (kq0 T x) 0 8=Oe ((kH T x).getD 0 0):=VI T1 ALc uV (by decide);have q1:sb (kq1 T x) 0 8=Oe ((kH T x).getD 1 0):=VI U1 AKd wO (by decide);have q2:sb (kq2 T x) 0 8=Oe ((kH T x).getD 2 0):=VI U2 ALl um (by decide);have q3:sb (kq3 T x) 0 8=Oe ((kH T x).getD 3 0):=VI U3 AJs uX (by decide);have q4:sb (kq4 T x) 0 8=Oe ((kH T x).getD 4 0):=VI U4 AL8 wQ (by decide);have q5:sb (kq5 T x) 0 8=Oe ((kH T x).getD 5 0):=VI U5 AMy uS (by decide);have q6:sb (kq6 T x) 0 8=Oe ((kH T x).getD 6 0):=VI U6 AJX ve (by decide);have q7:sb (kq7 T x) 0 8=Oe ((kH T x).getD 7 0):=VI U7 ABQ di (by decide);have hs:MC x=kLo T x++kHi T x:=by
  rw[AKh hl, <- hH,AJ7 hHl];unfold kLo kHi;rw[q0,q1,q2,q3,q4,q5,q6,q7]
 have hLl:(kLo T x).length=32:=by unfold kLo;simp[fG]
 have hLo:kLo T x=(MC x).take 32:=by rw[hs, <- hLl,List.take_left]
 have hHi:kHi T x=(MC x).drop 32:=by rw[hs, <- hLl,List.drop_left]
 have hS:MO (kS T v x) (WN x):=by
  unfold kS WN;rw[hLo];exact ANc T3 (ADJ x) (AKI x)
 have hA:kA T v x=JD (JS.zm (WN x)):=dn T5 (zN T4 hS);refine⟨kS T v x,?_,hS⟩;rw[hA,hHi,Ye hl,Ye (EN _),Ye hS.len]
theorem vC{x:List Int}(hl:x.length=32):∃s,WO x=x++(JD (JS.zm (WN x))++(s++(MC x).drop 32))/\MO s (WN x):=by
 obtain⟨s,h1,h2⟩:=AMX (v:=HE) hl;refine⟨s,?_,h2⟩;rw[ACd,h1];refine Bn ?_;simp only[MN,Uj,J6,EN,h2.len,hl]
theorem RG{x:List Int}(hl:x.length=32):cp (WO x) 0 64=x++JD (JS.zm (WN x))/\cp (WO x) 0 32=x/\cp (WO x) 32 32=JD (JS.zm (WN x)):=by
 obtain⟨s,h,-⟩:=vC hl;rw[h];refine⟨?_,nG hl,sG hl (EN _)⟩;rw[<- bU];exact nG (by rw[MN,hl,EN])
end
end Go.Proofs.YtloibefkijfdlaaGreatDoor
