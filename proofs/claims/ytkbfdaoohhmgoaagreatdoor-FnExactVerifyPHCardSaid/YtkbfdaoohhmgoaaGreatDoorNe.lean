/- Contracts of the reference: the hash's block. -/
import Derived.Test.YtkbfdaoohhmgoaaGreatDoorHc
import Derived.Test.YtkbfdaoohhmgoaaGreatDoorNd
namespace Go.Proofs.YtkbfdaoohhmgoaaGreatDoor
noncomputable section
open Go
def U80:List IntKind:=List.replicate 80 .u64
section
variable{GB:Nat}{GC:Nat->Nat->Option Value}{ad:Nat->Nat×Nat}(hG:GI GB GC ad)
include hG
def Jb:Ac:=⟨6000,Ab Tryz.f77,Tryz.f77.ntmps,Tryz.f77.results.toList,[],⟨[.int .u64,.int .i64],false,λ_=>True,[],[],[.int .u64 z0]⟩⟩
def G6:Cx:=F7 [] []
def EW:Az:=Jb.cQ G6
theorem Tc:Bv Tryz.prog GB GC 77 (.one EW):=Ac.fg hG .nil .nil Tryz.func77 rfl rfl rfl (.inl rfl) (by kernel_rfl)
def Qa:Ac:=⟨6000,Ab Tryz.f76,Tryz.f76.ntmps,Tryz.f76.results.toList,[],⟨[],false,λ_=>True,[],[],[.agg U80 z1]⟩⟩
def QY:Cx:=F7 [] []
def K6:Az:=Qa.sum QY
theorem az:Bv Tryz.prog GB GC 76 (.one K6):=Ac.fin hG .nil .nil Tryz.func76 rfl rfl rfl (.inl rfl) (by kernel_rfl)
end
def Ah:Ih:=⟨6000,PU 2 (Ab Tryz.f75),Tryz.f75.ntmps,2,[],⟨[.int .i64,.mem U80 1 true],true,λ_=>True,[(1,U80,z1)],[],[]⟩,[5,3],[6,7,27,28,29,30,31,32,33,34,35,36,37,38,39,40,41,42,43,44,45,46,47,48,49,50,51,52,53,54,55,56,57,58,59,60,61,62,63,64,65,66,67],λ_=>65⟩
def AU:Cx:=F7 [(77,.one EW)] []
def Ea:Ac:=⟨6000,Ab Tryz.f75,Tryz.f75.ntmps,Tryz.f75.results.toList,[],⟨[.sl (List.replicate 128 .u8) 0 false],true,λ_=>True,[],[],[.agg U80 z1]⟩⟩
def DC:Cx:=kM [(1000000+75,.one (Ah.sum AU (Ah.pre AU)))] [] [(Ah.id,⟨1000000+75,Ah.ps,Ah.ss,Ah.cl,Ah.nt⟩)]
def JV:Az:= { Ea.vu DC (λ_=>True) with hp:=false }
theorem VI:Ah.cN AU=true:=by kernel_rfl
theorem Vi:Ea.cN DC=true:=by kernel_rfl
def AY:Ih:=⟨6000,PU 0 (Ab Tryz.f51),Tryz.f51.ntmps,0,[],⟨[.int .i64,.mem U8 1 true,.mem U80 2 false,.mem U80 3 false],true,λ_=>True,[(1,U8,z1)],[],[]⟩,[8,7,6,5],[9,10,11,12,18,19,20,21,22,23,24,25,26,27,28,29,30,31,32,33,34,35,36,37,38,39,40,41,42,43,44,45,46,47,48,49,50,51,52,53,54,55,56,57,58,59,60,61,62,63,64,65,66,67,68,69,70,71,72,73,74,75,76,77,78,79,80,81,82,83,84,85,86,87,88,89,90,91,92,93,94,95,96,97],λ_=>81⟩
def AR:Cx:=F7 [(77,.one EW)] []
def EO:Ac:=⟨6000,Ab Tryz.f51,Tryz.f51.ntmps,Tryz.f51.results.toList,[],⟨[.agg U8,.sl (List.replicate 128 .u8) 0 false],true,λ_=>True,[],[],[.agg U8 z1]⟩⟩
def BH:Cx:=kM ((1000000+51,.one (AY.sum AR (AY.pre AR))) :: [(75,.one JV),(76,.one K6)]) [] [(AY.id,⟨1000000+51,AY.ps,AY.ss,AY.cl,AY.nt⟩)]
def VX:Az:= { EO.vu BH (λ_=>True) with hp:=false }
theorem Su:AY.cN AR=true:=by kernel_rfl
theorem UZ:EO.cN BH=true:=by kernel_rfl
end
section
open Go
def aK(x n:Int):Prop:=EW.pre [[x],[n]]
def tR(T:Tb)(x n:Int):Int:=(gv T 77 0 [[x],[n]]).getD 0 0
theorem sG{x n:Int}:Jb.raw G6 0 [[x],[n]]= [DR .or (DR .shr x n) (DR .shl x (Ak .sub .i64 64 n))]:=by kernel_rfl
theorem AAP{x n:Int}:Ji G6.T (Jb.tree G6) (BK [[x],[n]])=(0<=n/\0<=Ak .sub .i64 64 n/\True):=by kernel_rfl
theorem AFr{n:Int}(h0:0<=n)(h1:n<=64):Ak .sub .i64 64 n=64-n:=by
 show IntKind.i64.wrap (64-n)=_;exact YB (by omega) (by omega)
theorem Uu{x n:Int}(h0:0<=n)(h1:n<=64):aK x n:=by
 show Cv G6.T (Jb.tree G6) (BK [[x],[n]]);refine Dl ?_;rw[AAP,AFr h0 h1];exact⟨h0,by omega,trivial⟩
theorem AA4(x y:Int):DR .or x y=DR .or y x:=by
 show Es .or .u64 x y=Es .or .u64 y x;unfold Es;simp only[BitVec.or_comm]
theorem AAV:EW.pr 0= .i λa=>d1 (Jb.raw G6 0 a):=rfl
theorem Ug{T:Tb}(h:lk 77 T=some (.one EW)){x n:Int}(h0:0<=n)(h1:n<=64):tR T x n=rl x (64-n):=by
 unfold tR;rw[Bf h,AAV];show d1 (Jb.raw G6 0 [[x],[n]])=_;rw[sG,AFr h0 h1];show DR .or _ _=_;unfold rl;rw[AA4,show 64-(64-n)=n by omega]
theorem wZ{X A c:Prop}[Decidable c](h:X=if c then True else A)(hc:¬c)(hA:A):X:=by
 rw[h,if_neg hc];exact hA
theorem xy{X A c:Prop}[Decidable c](h:X=if c then True else A)(hc:c):X:=by
 rw[h,if_pos hc];trivial
def ANT(T:Tb)(v:List Int)(k w:Int):Int:=
 DR .add (DR .add (DR .add (DR .add (v.getD 7 0) (DR .xor (DR .xor (tR T (v.getD 4 0) 14) (tR T (v.getD 4 0) 18)) (tR T (v.getD 4 0) 41))) (DR .xor (DR .and (v.getD 4 0) (v.getD 5 0)) (DR .and (DR .xor 18446744073709551615 (v.getD 4 0)) (v.getD 6 0)))) k) w
def AQv(T:Tb)(v:List Int):Int:=
 DR .add (DR .xor (DR .xor (tR T (v.getD 0 0) 28) (tR T (v.getD 0 0) 34)) (tR T (v.getD 0 0) 39)) (DR .xor (DR .xor (DR .and (v.getD 0 0) (v.getD 1 0)) (DR .and (v.getD 0 0) (v.getD 2 0))) (DR .and (v.getD 1 0) (v.getD 2 0)))
def rdR(T:Tb)(v:List Int)(k w:Int):List Int:=[DR .add (ANT T v k w) (AQv T v),v.getD 0 0,v.getD 1 0,v.getD 2 0,DR .add (v.getD 3 0) (ANT T v k w),v.getD 4 0,v.getD 5 0,v.getD 6 0]
theorem Uv{T:Tb}{i:Int}{v k w:List Int}:zX T AY (AY.tree AR) (BK [[i],v,k,w])=if KQ (decide (i<80))=0 then some (false,[[i],v,k,w]) else some (true,[[ai i 1],rdR T v (XV k i) (XV w i),k,w]):=by kernel_rfl
theorem Sv{i:Int}{v k w:List Int}:Ji AR.T (AY.tree AR) (BK [[i],v,k,w])=if KQ (decide (i<80))=0 then True else
  (aK (v.getD 4 0) 14/\aK (v.getD 4 0) 18/\aK (v.getD 4 0) 41/\(0<=i/\i<((80:Nat):Int))/\(0<=i/\i<((80:Nat):Int))/\aK (v.getD 0 0) 28/\aK (v.getD 0 0) 34/\aK (v.getD 0 0) 39/\True):=by kernel_rfl
theorem ASD:lk 77 AR.T=some (.one EW):=by kernel_rfl
theorem AQS{T:Tb}(h:lk 77 T=some (.one EW)){v:List Int}{k w:Int}:rdR T v k w=(ABE (V8.of v) k w).l:=by
 have a1:=Ug h (x:=v.getD 4 0) (n:=14) (by decide) (by decide);have a2:=Ug h (x:=v.getD 4 0) (n:=18) (by decide) (by decide);have a3:=Ug h (x:=v.getD 4 0) (n:=41) (by decide) (by decide);have b1:=Ug h (x:=v.getD 0 0) (n:=28) (by decide) (by decide);have b2:=Ug h (x:=v.getD 0 0) (n:=34) (by decide) (by decide);have b3:=Ug h (x:=v.getD 0 0) (n:=39) (by decide) (by decide);unfold rdR ANT AQv;rw[a1,a2,a3,b1,b2,b3];rfl
theorem AG4{n:Nat}(h:n<80):¬KQ (decide ((n:Int)<80))=0:=λe=>Un.1 e (by omega)
theorem wU:KQ (decide (((80:Nat):Int)<80))=0:=by decide
theorem AQp{n:Nat}(h:n<80):ai (n:Int) 1=((n+1:Nat):Int):=uS (j:=n) (k:=1) (by omega)
section
variable{v k w:List Int}{n:Nat}
theorem ADu:AY.step AR [[((80:Nat):Int)],v,k,w]=some (false,[[((80:Nat):Int)],v,k,w]):=by rw[K3,Uv,if_pos wU]
theorem AKi(hn:n<80):AY.step AR [[(n:Int)],v,k,w]=some (true,[[((n+1:Nat):Int)],(ABE (V8.of v) (k.getD n 0) (w.getD n 0)).l,k,w]):=by
 rw[K3,Uv,if_neg (AG4 hn),AQp hn,AQS ASD,Yn,Yn]
theorem AHG:Cv AR.T (AY.tree AR) (BK [[((80:Nat):Int)],v,k,w]):=Dl (xy Sv wU)
theorem ALq(hn:n<80):Cv AR.T (AY.tree AR) (BK [[(n:Int)],v,k,w]):=Dl (wZ Sv (AG4 hn) ⟨Uu (by decide) (by decide),Uu (by decide) (by decide),Uu (by decide) (by decide),⟨by omega,by omega⟩,⟨by omega,by omega⟩,Uu (by decide) (by decide),Uu (by decide) (by decide),Uu (by decide) (by decide),trivial⟩)
end
theorem AE8:∀(m n:Nat) {f:Nat} {v k w:List Int},n+m=80->m<f->Rm (AY.step AR) (λins=>Cv AR.T (AY.tree AR) (BK ins)) f [[(n:Int)],v,k,w]
 |_,_,0,_,_,_,_,h=>by omega
 |0,n,f+1,v,k,w,hn,_=>by
  have:n=80:=by omega
  subst this;exact WC AHG ADu
 |m+1,n,f+1,v,k,w,hn,hf=>Ty (ALq (by omega)) (AKi (by omega)) (AE8 m (n+1) (by omega) (by omega))
def rW(k w:List Int):Nat->Nat->V8->V8
 |0,_,v=>v
 |m+1,n,v=>rW k w m (n+1) (ABE v (k.getD n 0) (w.getD n 0))
theorem aac(v:V8):V8.of v.l=v:=rfl
theorem vz:∀(m n:Nat) {f:Nat} {v:V8} {k w:List Int},n+m=80->m<f->(Ht (AY.step AR) f [[(n:Int)],v.l,k,w]).getD 1 []=(rW k w m n v).l
 |_,_,0,_,_,_,_,h=>by omega
 |0,n,f+1,v,k,w,hn,_=>by
  have:n=80:=by omega
  subst this;rw[UF ADu];rfl
 |m+1,n,f+1,v,k,w,hn,hf=>by
  rw[RF (AKi (by omega)),aac];exact vz m (n+1) (by omega) (by omega)
def nwR(T:Tb)(w:List Int)(i:Int):Int:=
 DR .add (DR .add (DR .add (XV w (si i 16)) (XV w (si i 7))) (DR .xor (DR .xor (tR T (XV w (si i 15)) 1) (tR T (XV w (si i 15)) 8)) (DR .shr (XV w (si i 15)) 7))) (DR .xor (DR .xor (tR T (XV w (si i 2)) 19) (tR T (XV w (si i 2)) 61)) (DR .shr (XV w (si i 2)) 6))
theorem Xk{T:Tb}{i:Int}{w:List Int}:zX T Ah (Ah.tree AU) (BK [[i],w])=if KQ (decide (i<80))=0 then some (false,[[i],w]) else some (true,[[ai i 1],w.set i.toNat (nwR T w i)]):=by kernel_rfl
theorem Wo{i:Int}{w:List Int}:Ji AU.T (Ah.tree AU) (BK [[i],w])=if KQ (decide (i<80))=0 then True else
  ((0<=si i 15/\si i 15<((80:Nat):Int))/\(0<=si i 2/\si i 2<((80:Nat):Int))/\(0<=si i 16/\si i 16<((80:Nat):Int))/\(0<=si i 7/\si i 7<((80:Nat):Int))/\aK (XV w (si i 15)) 1/\aK (XV w (si i 15)) 8/\aK (XV w (si i 2)) 19/\aK (XV w (si i 2)) 61/\(0<=i/\i<((80:Nat):Int))/\True):=by kernel_rfl
theorem ze:lk 77 AU.T=some (.one EW):=by kernel_rfl
theorem Ot(x:Int):IntKind.u64.wrap x=x%18446744073709551616:=by
 simp[IntKind.wrap,IntKind.bits,IntKind.signed]
theorem ATX(a b c d:Int):DR .add (DR .add (DR .add a b) c) d=DR .add (DR .add (DR .add d b) c) a:=by
 show IntKind.u64.wrap (IntKind.u64.wrap (IntKind.u64.wrap (a+b)+c)+d)=IntKind.u64.wrap (IntKind.u64.wrap (IntKind.u64.wrap (d+b)+c)+a);rw[Ot,Ot,Ot,Ot,Ot,Ot];omega
theorem AMy{ws ys:List Int}{n:Nat}(h:16<=n)(h2:n<80)(hl:ws.length=n):nwR AU.T (ws++ys) (n:Int)=nwN ws n:=by
 rw[<- AFC (ys:=ys) h h2 hl];unfold nwR nw;rw[Ug ze (by decide) (by decide),Ug ze (by decide) (by decide),Ug ze (by decide) (by decide),Ug ze (by decide) (by decide),ATX];rfl
theorem jm{n:Nat}(h:16<=n)(h2:n<80)(k:Nat)(hk:k<=16)(h0:0<k):0<=si (n:Int) (k:Int)/\si (n:Int) (k:Int)<((80:Nat):Int):=by
 rw[AFk (by omega) (by omega)];omega
section
variable{w:List Int}{n:Nat}
theorem wh:Ah.step AU [[((80:Nat):Int)],w]=some (false,[[((80:Nat):Int)],w]):=by rw[K3,Xk,if_pos wU]
theorem ABa(hn:n<80):Ah.step AU [[(n:Int)],w]=some (true,[[((n+1:Nat):Int)],w.set n (nwR AU.T w (n:Int))]):=by
 rw[K3,Xk,if_neg (AG4 hn),AQp hn,Rh]
theorem AGI:Cv AU.T (Ah.tree AU) (BK [[((80:Nat):Int)],w]):=Dl (xy Wo wU)
theorem AMN(h:16<=n)(hn:n<80):Cv AU.T (Ah.tree AU) (BK [[(n:Int)],w]):=Dl (wZ Wo (AG4 hn)
 ⟨jm h hn 15 (by decide) (by decide),jm h hn 2 (by decide) (by decide),jm h hn 16 (by decide) (by decide),jm h hn 7 (by decide) (by decide),Uu (by decide) (by decide),Uu (by decide) (by decide),Uu (by decide) (by decide),Uu (by decide) (by decide),⟨by omega,by omega⟩,trivial⟩)
end
theorem ACh:∀(m n:Nat) {f:Nat} {w:List Int},16<=n->n+m=80->m<f->Rm (Ah.step AU) (λins=>Cv AU.T (Ah.tree AU) (BK ins)) f [[(n:Int)],w]
 |_,_,0,_,_,_,h=>by omega
 |0,n,f+1,w,_,hn,_=>by
  have:n=80:=by omega
  subst this;exact WC AGI wh
 |m+1,n,f+1,w,h,hn,hf=>Ty (AMN h (by omega)) (ABa (by omega)) (ACh m (n+1) (by omega) (by omega) (by omega))
theorem wV:∀(m n:Nat) {f:Nat} {bl ys:List Int},16<=n->n+m=80->m<f->ys.length=m->(Ht (Ah.step AU) f [[(n:Int)],OD bl n++ys]).getD 1 []=OD bl 80
 |_,_,0,_,_,_,_,h,_=>by omega
 |0,n,f+1,bl,ys,_,hn,_,hy=>by
  have:n=80:=by omega
  subst this;have:ys= []:=HW hy;subst this;rw[UF wh,RD];rfl
 | m+1,n,f+1,bl,ys,h,hn,hf,hy=>by
  have e:(OD bl n++ys).set n (nwR AU.T (OD bl n++ys) (n:Int))=OD bl (n+1)++ys.drop 1:=by
   rw[oC (Jj bl n) (by omega),AMy h (by omega) (Jj bl n)];show _=(OD bl n ++ [oP bl (OD bl n) n])++_;unfold oP;rw[if_neg (by omega)]
  rw[RF (ABa (by omega)),e];exact wV m (n+1) (by omega) (by omega) (by omega) (by rw[VK];omega)
def wdS(b:List Int)(j:Nat):Int:=(List.range 8).foldl (λa k=>DR .add (DR .shl a 8) (IntKind.u64.wrap (b.getD (8*j+k) 0))) 0
def sF(b:List Int):List Int:=(List.range 16).map (wdS b)++List.replicate 64 0
theorem j4{T:Tb}{b:List Int}:Ea.ie T DC 0 [b]=sb (gv T (1000000+75) 0 [[16],sF b]) 0 80:=by kernel_rfl
theorem mV{b:List Int}:Ji DC.T (Ea.tree DC) (BK [b])=(Ah.pre AU [[16],sF b]/\True):=by kernel_rfl
theorem bI{T:Tb}{h b:List Int}:EO.ie T BH 0 [h,b]=(List.range 8).map λk=>DR .add (h.getD k 0) ((gv T (1000000+51) 0 [[0],h,gv T 76 0 [],gv T 75 0 [b]]).getD k 0):=by kernel_rfl
theorem cB{h b:List Int}:Ji BH.T (EO.tree BH) (BK [h,b])=(AY.pre AR [[0],h,gv BH.T 76 0 [],gv BH.T 75 0 [b]]/\True):=by kernel_rfl
theorem AAM:BF 80 (Qa.raw QY 0 [])=ah:=by kernel_rfl
end
section
open Go
theorem X0{b:List Int}(h:cI b)(k:Nat):0<=bN b k/\bN b k<=255:=by
 unfold bN;by_cases hk:k<b.length
 ·have e:b.getD k 0=b[k]:=by simp[List.getD,hk]
  have h1:=h _ (ku hk);rw[e,Ot];omega
 ·have e:b.getD k 0=0:=by simp[List.getD,hk]
  rw[e];decide
theorem QM{x:Int}{k:Nat}(h0:0<=x)(hk:k<64)(h:x*2^k<18446744073709551616):DR .shl x (k:Int)=x*2^k:=by
 show IntKind.u64.wrap (x*2^(min ((k:Int)).toNat 64))=_;rw[Rh,Nat.min_eq_left (by omega)];have:0<=x*2^k:=Int.mul_nonneg h0 (Int.le_of_lt (Int.pow_pos (by decide)));exact SN this h
theorem Xn{a x:Int}(ha:0<=a/\a<72057594037927936)(hx:0<=x/\x<=255):DR .add (DR .shl a 8) x=a*256+x:=by
 have e:DR .shl a 8=a*256:=QM (k:=8) ha.1 (by decide) (by show a*256<_;omega);rw[e];exact dN (by omega) (by omega)
theorem orN{x y:Int}{m:Nat}(hx:0<=x/\x<18446744073709551616)(hm:(2:Int)^m ∣ x)(hy:0<=y/\y<2^m)(hy2:y<18446744073709551616):DR .or x y=x+y:=
 (Tt (k:=.u64) rfl (x:=x) (y:=y) ⟨hx.1,by show x<=18446744073709551615;omega⟩ ⟨hy.1,by show y<=18446744073709551615;omega⟩ hm hy.2).1
theorem wd8{x0 x1 x2 x3 x4 x5 x6 x7:Int}(h0:0<=x0/\x0<=255)(h1:0<=x1/\x1<=255)(h2:0<=x2/\x2<=255)(h3:0<=x3/\x3<=255)(h4:0<=x4/\x4<=255)(h5:0<=x5/\x5<=255)(h6:0<=x6/\x6<=255)(h7:0<=x7/\x7<=255):
  DR .add (DR .shl (DR .add (DR .shl (DR .add (DR .shl (DR .add (DR .shl (DR .add (DR .shl (DR .add (DR .shl (DR .add (DR .shl (DR .add (DR .shl 0 8) x0) 8) x1) 8) x2) 8) x3) 8) x4) 8) x5) 8) x6) 8) x7=
  DR .or (DR .or (DR .or (DR .or (DR .or (DR .or (DR .or (DR .shl x0 56) (DR .shl x1 48)) (DR .shl x2 40)) (DR .shl x3 32)) (DR .shl x4 24)) (DR .shl x5 16)) (DR .shl x6 8)) x7:=by
 rw[Xn (a:=0) (by omega) h0,Xn (by omega) h1,Xn (by omega) h2,Xn (by omega) h3,Xn (by omega) h4,Xn (by omega) h5,Xn (by omega) h6,Xn (by omega) h7];have s0:DR .shl x0 56=x0*72057594037927936:=QM (k:=56) h0.1 (by decide) (by show x0*72057594037927936<_;omega);have s1:DR .shl x1 48=x1*281474976710656:=QM (k:=48) h1.1 (by decide) (by show x1*281474976710656<_;omega);have s2:DR .shl x2 40=x2*1099511627776:=QM (k:=40) h2.1 (by decide) (by show x2*1099511627776<_;omega);have s3:DR .shl x3 32=x3*4294967296:=QM (k:=32) h3.1 (by decide) (by show x3*4294967296<_;omega);have s4:DR .shl x4 24=x4*16777216:=QM (k:=24) h4.1 (by decide) (by show x4*16777216<_;omega);have s5:DR .shl x5 16=x5*65536:=QM (k:=16) h5.1 (by decide) (by show x5*65536<_;omega);have s6:DR .shl x6 8=x6*256:=QM (k:=8) h6.1 (by decide) (by show x6*256<_;omega);rw[s0,s1,s2,s3,s4,s5,s6];rw[orN (m:=56) (x:=x0*72057594037927936) (y:=x1*281474976710656) (by omega) ⟨x0,by rw[bf];rfl⟩ ⟨by omega,by show _<(72057594037927936:Int);omega⟩ (by omega)];rw[orN (m:=48) (x:=x0*72057594037927936+x1*281474976710656) (y:=x2*1099511627776) (by omega) ⟨x0*256+x1,by show _=(281474976710656:Int)*_;omega⟩ ⟨by omega,by show _<(281474976710656:Int);omega⟩ (by omega)];rw[orN (m:=40) (y:=x3*4294967296) (by omega) ⟨x0*65536+x1*256+x2,by show _=(1099511627776:Int)*_;omega⟩ ⟨by omega,by show _<(1099511627776:Int);omega⟩ (by omega)];rw[orN (m:=32) (y:=x4*16777216) (by omega) ⟨x0*16777216+x1*65536+x2*256+x3,by show _=(4294967296:Int)*_;omega⟩ ⟨by omega,by show _<(4294967296:Int);omega⟩ (by omega)];rw[orN (m:=24) (y:=x5*65536) (by omega) ⟨x0*4294967296+x1*16777216+x2*65536+x3*256+x4,by show _=(16777216:Int)*_;omega⟩ ⟨by omega,by show _<(16777216:Int);omega⟩ (by omega)];rw[orN (m:=16) (y:=x6*256) (by omega) ⟨x0*1099511627776+x1*4294967296+x2*16777216+x3*65536+x4*256+x5,by show _=(65536:Int)*_;omega⟩ ⟨by omega,by show _<(65536:Int);omega⟩ (by omega)];rw[orN (m:=8) (y:=x7) (by omega) ⟨x0*281474976710656+x1*1099511627776+x2*4294967296+x3*16777216+x4*65536+x5*256+x6,by show _=(256:Int)*_;omega⟩ ⟨by omega,by show _<(256:Int);omega⟩ (by omega)];omega
theorem AOT{b:List Int}(h:cI b)(j:Nat):wdS b j=Up b (j*8):=by
 have e:j*8=8*j:=qI _ _;rw[e];exact wd8 (X0 h _) (X0 h _) (X0 h _) (X0 h _) (X0 h _) (X0 h _) (X0 h _) (X0 h _)
theorem ABk{b:List Int}:∀n,n<=16->OD b n=(List.range n).map λj=>Up b (j*8)
 |0,_=>rfl
 |n+1,h=>by
  show OD b n ++ [oP b (OD b n) n]=_;rw[List.range_succ,List.map_append,ABk n (by omega)];unfold oP;rw[if_pos (by omega)];rfl
theorem AI1{b:List Int}(h:cI b):sF b=OD b 16++List.replicate 64 0:=by
 unfold sF;rw[ABk 16 (Ie _)]
 congr 1
 exact fT λj _=>AOT h j
theorem AJj:(Ah.sum AU (Ah.pre AU)).pr 0= .l λa=>BF 80 ((Ah.val AU a).getD 1 []):=rfl
theorem AJd:(AY.sum AR (AY.pre AR)).pr 0= .l λa=>BF 8 ((AY.val AR a).getD 1 []):=rfl
theorem AGr{ins:List (List Int)}:Ah.val AU ins=Ht (Ah.step AU) 65 ins:=rfl
theorem AF6{ins:List (List Int)}:AY.val AR ins=Ht (AY.step AR) 81 ins:=rfl
theorem AHZ{ins:List (List Int)}:Ah.pre AU ins=Rm (Ah.step AU) (λins=>Cv AU.T (Ah.tree AU) (BK ins)) 65 ins:=rfl
theorem AIS{ins:List (List Int)}:AY.pre AR ins=Rm (AY.step AR) (λins=>Cv AR.T (AY.tree AR) (BK ins)) 81 ins:=rfl
theorem AHP:lk (1000000+75) DC.T=some (.one (Ah.sum AU (Ah.pre AU))):=by kernel_rfl
theorem AGZ:lk (1000000+51) BH.T=some (.one (AY.sum AR (AY.pre AR))):=by kernel_rfl
theorem AHc:lk 75 BH.T=some (.one JV):=by kernel_rfl
theorem AHX:lk 76 BH.T=some (.one K6):=by kernel_rfl
theorem i16:((16:Nat):Int)=16:=rfl
theorem i00:((0:Nat):Int)=0:=rfl
theorem AT0{l:List Int}(h:l.length=80):sb l 0 80=l:=by
 have:∀ {n:Nat} {l:List Int},l.length=n->sb l 0 n=l:=λ{n l} h=>by
  subst h;unfold sb;refine List.ext_getElem (by simp) λi h1 h2=>?_
  simp[List.getD,h2]
 exact this h
theorem nD{b:List Int}(h:cI b):Ea.raw DC 0 [b]=OD b 80:=by
 have hr:=wV 64 16 (f:=65) (bl:=b) (ys:=List.replicate 64 0) (Ie _) rfl (by omega) Rp;rw[i16] at hr;have hg:gv DC.T (1000000+75) 0 [[16],sF b]=OD b 80:=by
  rw[Bf AHP,AJj];show BF 80 ((Ah.val AU [[16],sF b]).getD 1 [])=_;rw[AGr,AI1 h,hr];exact Ay (Jj b 80)
 rw[Gn,j4,hg,AT0 (Jj b 80)]
theorem mJ{b:List Int}:Cv DC.T (Ea.tree DC) (BK [b]):=by
 refine Dl (Ye mV ?_);rw[AHZ];have:=ACh 64 16 (f:=65) (w:=sF b) (Ie _) rfl (by omega);rwa [i16] at this
theorem ABj:JV.pr 0= .l λa=>BF 80 (Ea.raw DC 0 a):=rfl
theorem ANf:K6.pr 0= .l λa=>BF 80 (Qa.raw QY 0 a):=rfl
theorem vo{b:List Int}{n:Nat}:∀ {m:Nat},n<m->(OD b m).getD n 0=oP b (OD b n) n
 |0,h=>by omega
 | m+1,h=>by
  show(OD b m ++ [oP b (OD b m) m]).getD n 0=_;rcases kz n m with h1|h1
  ·rw[<- vo h1];simp only[List.getD];rw[gZ (by rw[Jj];exact h1)]
  ·have:n=m:=by omega
   subst this;simp only[List.getD];rw[fQ (by rw[Jj];omega),Jj,HF];rfl
theorem AKk{b:List Int}{v0:V8}:∀(m n:Nat),n+m=80->rW ah (OD b 80) m n (rV b v0 n)=rV b v0 80
 |0,n,h=>by
  have:n=80:=by omega
  subst this;rfl
 |m+1,n,h=>by
  rw[rW,vo (by omega)];exact AKk m (n+1) (by omega)
theorem ATx{h l:List Int}(hh:h.length=8)(hl:l.length=8):((List.range 8).map λk=>DR .add (h.getD k 0) (l.getD k 0))=List.zipWith (DR .add) h l:=by
 match h,hh,l,hl with
 | [_,_,_,_,_,_,_,_],_,[_,_,_,_,_,_,_,_],_=>rfl
theorem dM{h b:List Int}(hh:h.length=8)(hb:cI b):EO.raw BH 0 [h,b]=ru h b:=by
 have e1:gv BH.T 76 0 []=ah:=by
  rw[Bf AHX,ANf];exact AAM
 have e2:gv BH.T 75 0 [b]=OD b 80:=by
  rw[Bf AHc,ABj];show BF 80 (Ea.raw DC 0 [b])=_;rw[nD hb];exact Ay (Jj b 80)
 have hr:=vz 80 0 (f:=81) (v:=V8.of h) (k:=ah) (w:=OD b 80) rfl (by omega);rw[i00,V8.aac hh] at hr;have hW:=AKk (b:=b) (v0:=V8.of h) 80 0 rfl;have hg:gv BH.T (1000000+51) 0 [[0],h,ah,OD b 80]=(rV b (V8.of h) 80).l:=by
  rw[Bf AGZ,AJd];show BF 8 ((AY.val AR [[0],h,ah,OD b 80]).getD 1 [])=_;rw[AF6,hr];change rW ah (OD b 80) 80 0 (V8.of h)=_ at hW;rw[hW];exact Ay rfl
 rw[Gn,bI,e1,e2,hg];exact ATx hh rfl
theorem dG{h b:List Int}:Cv BH.T (EO.tree BH) (BK [h,b]):=by
 refine Dl (Ye cB ?_);rw[AIS];have:=AE8 80 0 (f:=81) (v:=h) (k:=gv BH.T 76 0 []) (w:=gv BH.T 75 0 [b]) rfl (by omega);rwa [i00] at this
theorem ARZ{ks:List IntKind}{g:Nat}{wr:Bool}{ins:List (List Int)}(h:J8 [.sl ks g wr] ins):∃b,ins= [b]:=by
 match ins,h with
 | [b],_=>exact⟨b,rfl⟩
theorem APL{js ks:List IntKind}{g:Nat}{wr:Bool}{ins:List (List Int)}(h:J8 [.agg js,.sl ks g wr] ins):∃a b,ins= [a,b]:=by
 match ins,h with
 | [a,b],_=>exact⟨a,b,rfl⟩
section
variable{GB:Nat}{GC:Nat->Nat->Option Value}{ad:Nat->Nat×Nat}(hG:GI GB GC ad)
include hG
theorem Xh:Bv Tryz.prog GB GC 75 (.one JV):=(Ac.Fm hG (i:=Ea) (l:=Ah) (T:=[]) (T':=[(77,.one EW)]) (L:=[]) (L':=[]) (pre:=λ_=>True) (pl:=Ah.pre AU) (tg:=1000000+75) (Cb:=AU) (C1:=DC) (by decide) rfl rfl
 .nil .nil .nil Tryz.func75 rfl rfl rfl (.inl rfl) (.inl rfl) (λ_ _ h=>h)
 (.cons (k:=77) rfl (Tc hG) Tryz.call77 (Ac.fX _ _) .nil) VI (by kernel_rfl) (by kernel_rfl) Vi λ_ h _=>by obtain⟨b,rfl⟩:=ARZ h;exact mJ).AF λ_ _=>trivial
theorem VR:Bv Tryz.prog GB GC 51 (.one VX):=(Ac.Fm hG (i:=EO) (l:=AY) (T:=[(75,.one JV),(76,.one K6)]) (T':=[(77,.one EW)]) (L:=[]) (L':=[]) (pre:=λ_=>True) (pl:=AY.pre AR) (tg:=1000000+51) (Cb:=AR) (C1:=BH) (by decide) rfl rfl
 (.cons (k:=75) rfl (Xh hG) Tryz.call75 (λ_=>Z4 (Ac.FG _ _ _ true)) (.cons (k:=76) rfl (az hG) Tryz.call76 (Ac.len _ _) .nil)) .nil .nil Tryz.func51 rfl rfl rfl (.inl rfl) (.inl rfl) (λ_ _ h=>h)
 (.cons (k:=77) rfl (Tc hG) Tryz.call77 (Ac.fX _ _) .nil) Su (by kernel_rfl) (by kernel_rfl) UZ λ_ h _=>by obtain⟨a,b,rfl⟩:=APL h;exact dG).AF λ_ _=>trivial
end
end
end Go.Proofs.YtkbfdaoohhmgoaaGreatDoor
