/- The functions of the field, as numbers modulo p. -/
import Derived.Test.YtkbfdaoohhmgoaaGreatDoorFa
import Derived.Test.YtkbfdaoohhmgoaaGreatDoorMa
namespace Go.Proofs.YtkbfdaoohhmgoaaGreatDoor
open Go Ma
theorem Bf{T:Tb}{f o:Nat}{s:Az}(h:lk f T=some (.one s))(args:List (List Int)):gv T f o args=(s.pr o).den args:=Tv h args
theorem C8{T:Tb}{f:Nat}{s:Az}(h:lk f T=some (.one s)){args:List (List Int)}(hp:s.pre args):NB T f args:=⟨⟨_,h,hp⟩⟩
theorem jR{a b:Int}{t:Fp}(h:(Kk:Int) ∣ a-b)(hb:Jn b=t):Jn a=t:=by rw[<- hb];exact ABq.2 h
theorem g5{l:List Int}(h:Ix l):∃a b c d e,l= [a,b,c,d,e]/\(0<=a/\a<=fB)/\(0<=b/\b<=fB)/\(0<=c/\c<=fB)/\(0<=d/\d<=fB)/\(0<=e/\e<=fB):=by
 obtain⟨a,b,c,d,e,rfl⟩:=ALI h.1;exact⟨a,b,c,d,e,rfl,h.2 0 (by omega),h.2 1 (by omega),h.2 2 (by omega),h.2 3 (by omega),h.2 4 (by omega)⟩
theorem UD(ρ:Bu)(p q:Fj):Er ρ (Ub [] p q)=Er ρ p*Er ρ q:=UG (λi h=>by cases h) p q
theorem KH{T:Tb}(h:lk 67 T=some (.one Ao)):KF.Ok T 67 .mul:=λv a b x y ha hb=>by
 refine⟨C8 h trivial,?_⟩;rw[Bf h];obtain⟨_,h1,ρ,h2,h3⟩:=AHB (ins:=[v,a,b]) (iP rfl rfl) ARN (LQ v (X4 ha.1 (X4 hb.1 (Hm _))));show Gl _ (BF 5 (IQ.raw IX 0 [v,a,b]));rw[Ay h1.1];refine⟨h1,jR h3 ?_⟩;rw[UD,TG ρ (h2 1 (by decide)),TG ρ (h2 2 (by decide)),Yu];show Jn (Oe a)*Jn (Oe b)=_;rw[ha.2,hb.2]
theorem Zd{T:Tb}(h:lk 64 T=some (.one DJ)):KF.Ok T 64 .sq:=λv a x ha=>by
 refine⟨C8 h trivial,?_⟩;rw[Bf h];obtain⟨_,h1,ρ,h2,h3⟩:=AHB (ins:=[v,a]) (iP rfl rfl) AT5 (LQ v (X4 ha.1 (Hm _)));show Gl _ (BF 5 (JK.raw JO 0 [v,a]));rw[Ay h1.1];refine⟨h1,jR h3 ?_⟩;rw[UD,TG ρ (h2 1 (by decide)),Yu];show Jn (Oe a)*Jn (Oe a)=_;rw[ha.2]
theorem Rv{T:Tb}(h:lk 69 T=some (.one Co)):KF.Ok T 69 .add:=λv a b x y ha hb=>by
 refine⟨C8 h trivial,?_⟩;rw[Bf h];obtain⟨_,h1,ρ,h2,h3⟩:=AHB (ins:=[v,a,b]) (uH rfl) ARo (LQ v (X4 ha.1 (X4 hb.1 (Hm _))));show Gl _ (BF 5 (Kl.raw Kt 0 [v,a,b]));rw[Ay h1.1];refine⟨h1,jR h3 ?_⟩;rw[Ci,TG ρ (h2 1 (by decide)),TG ρ (h2 2 (by decide)),jQ];show Jn (Oe a)+Jn (Oe b)=_;rw[ha.2,hb.2]
theorem yx{v a b:List Int}{x y:Fp}(ha:Gl x a)(hb:Gl y b):Gl (x-y) (Dq.raw Du 0 [v,a,b]):=by
 obtain⟨_,h1,ρ,h2,h3⟩:=AHB (ins:=[v,a,b]) (uH rfl) AQI (LQ v (X4 ha.1 (X4 hb.1 (Hm _))));refine⟨h1,jR h3 ?_⟩;rw[Ci,Cf,TG ρ (h2 1 (by decide)),TG ρ (h2 2 (by decide)),Int.neg_mul,zda, <- Int.sub_eq_add_neg,iY];show Jn (Oe a)-Jn (Oe b)=_;rw[ha.2,hb.2]
theorem Rn{T:Tb}(h:lk 65 T=some (.one BI)):KF.Ok T 65 .sub:=λv a b x y ha hb=>by
 refine⟨C8 h trivial,?_⟩;rw[Bf h];have h1:=yx (v:=v) ha hb;show Gl _ (BF 5 (Dq.raw Du 0 [v,a,b]));rw[Ay h1.1.1];exact h1
theorem AJZ(v a:List Int):JP.raw JL 0 [v,a]=(List.range 5).map λk=>((BI.pr 0).den [v,[0,0,0,0,0],a]).getD k 0:=by kernel_rfl
theorem ABb{l:List Int}(h:l.length=5):((List.range 5).map λk=>l.getD k 0)=l:=Ay h
theorem jC{T:Tb}(h:lk 71 T=some (.one FH)):KF.Ok T 71 .neg:=λv a x ha=>by
 refine⟨C8 h trivial,?_⟩;rw[Bf h];have h1:Gl (0-x) (Dq.raw Du 0 [v,[0,0,0,0,0],a]):=yx ⟨QB rfl,Kz⟩ ha;have h2:(BI.pr 0).den [v,[0,0,0,0,0],a]=Dq.raw Du 0 [v,[0,0,0,0,0],a]:=Ay h1.1.1;show Gl _ (BF 5 (JP.raw JL 0 [v,a]));rw[AJZ,h2,ABb h1.1.1,Ay h1.1.1];exact h1
theorem AIt(v:List Int)(a b c d e:Int):Kg.raw Km 0 [v,[a,b,c,d,e]]= [a,b,c,d,e]:=by kernel_rfl
theorem uq{T:Tb}(h:lk 73 T=some (.one Il)):KF.Ok T 73 .set:=λv a x ha=>by
 refine⟨C8 h trivial,?_⟩;rw[Bf h];obtain⟨a0,a1,a2,a3,a4,rfl,_⟩:=g5 ha.1;show Gl _ (BF 5 (Kg.raw Km 0 [v,_]));rw[AIt];exact ha
theorem AE7(v:List (List Int)):Jw.raw KL 0 v= [0,0,0,0,0]:=by kernel_rfl
theorem AHj(v:List (List Int)):Ko.raw Kj 0 v= [1,0,0,0,0]:=by kernel_rfl
theorem AJE{T:Tb}(h:lk 130 T=some (.one J2)):KF.Ok T 130 (.k 0):=λv=>by
 refine⟨C8 h trivial,?_⟩;rw[Bf h];show Gl _ (BF 5 (Jw.raw KL 0 v));rw[AE7];exact⟨QB rfl,rfl⟩
theorem sQ{T:Tb}(h:lk 74 T=some (.one Gp)):KF.Ok T 74 (.k 1):=λv=>by
 refine⟨C8 h trivial,?_⟩;rw[Bf h];show Gl _ (BF 5 (Ko.raw Kj 0 v));rw[AHj];exact⟨QB rfl,rfl⟩
def jE(c x y:Int):Int:=Ak .or .u64 (Ak .and .u64 (Ak .xor .u64 18446744073709551615 (Ak .sub .u64 (IntKind.u64.wrap c) 1)) x) (Ak .and .u64 (Ak .xor .u64 18446744073709551615 (Ak .xor .u64 18446744073709551615 (Ak .sub .u64 (IntKind.u64.wrap c) 1))) y)
theorem eF{x:Int}(h:0<=x/\x<=fB):IJ .u64 x:=XU h.1 (by have:=h.2;unfold fB at this;omega)
theorem AKg{x:Int}(h:IJ .u64 x):∃n:Nat,x=n/\n<18446744073709551616:=by
 obtain⟨h1,h2⟩:=uE h;exact⟨x.toNat,by omega,by omega⟩
theorem AUH:IJ .u64 18446744073709551615:=XU (by omega) (by omega)
theorem no0:IJ .u64 0:=XU (by omega) (by omega)
theorem Yb{x:Int}(h:IJ .u64 x):Es .and .u64 18446744073709551615 x=x:=by
 rw[(NS (k:=.u64) rfl AUH h).1];obtain⟨n,rfl,hn⟩:=AKg h;show(((2^64-1) &&& n:Nat):Int)=n;rw[Nat.and_comm,Nat.and_two_pow_sub_one_eq_mod,Nat.mod_eq_of_lt hn]
theorem iK{x:Int}(h:IJ .u64 x):Es .and .u64 0 x=0:=by
 rw[(NS (k:=.u64) rfl no0 h).1];show((0 &&& x.toNat:Nat):Int)=0;rw[Nat.zero_and];rfl
theorem wS{x:Int}(h:IJ .u64 x):Es .or .u64 x 0=x/\Es .or .u64 0 x=x:=by
 rw[(NS (k:=.u64) rfl no0 h).2.1,(NS (k:=.u64) rfl h no0).2.1];obtain⟨n,rfl,hn⟩:=AKg h;show((n ||| 0:Nat):Int)=n/\((0 ||| n:Nat):Int)=n;rw[Nat.or_zero,Nat.zero_or];exact⟨rfl,rfl⟩
theorem bK{x y:Int}(hx:IJ .u64 x)(hy:IJ .u64 y):jE 1 x y=x:=by
 have e:Ak .xor .u64 18446744073709551615 (Ak .sub .u64 (IntKind.u64.wrap 1) 1)=18446744073709551615:=by decide +kernel
 have e2:Ak .xor .u64 18446744073709551615 18446744073709551615=0:=by decide +kernel
 unfold jE;rw[e,e2];show Es .or .u64 (Es .and .u64 _ x) (Es .and .u64 0 y)=x;rw[Yb hx,iK hy,(wS hx).1]
theorem aT{x y:Int}(hx:IJ .u64 x)(hy:IJ .u64 y):jE 0 x y=y:=by
 have e:Ak .xor .u64 18446744073709551615 (Ak .sub .u64 (IntKind.u64.wrap 0) 1)=0:=by decide +kernel
 have e2:Ak .xor .u64 18446744073709551615 0=18446744073709551615:=by decide +kernel
 unfold jE;rw[e,e2];show Es .or .u64 (Es .and .u64 0 x) (Es .and .u64 _ y)=y;rw[Yb hy,iK hx,(wS hy).2]
theorem AHp(v:List Int)(a b c d e a' b' c' d' e' z:Int):JF.raw JE 0 [v,[a,b,c,d,e],[a',b',c',d',e'],[z]]= [jE z a a',jE z b b',jE z c c',jE z d d',jE z e e']:=by kernel_rfl
theorem jT{T:Tb}(h:lk 72 T=some (.one E9)):KF.Ok T 72 .cf:=λv a b x y c ha hb=>by
 refine⟨C8 h trivial,?_⟩;rw[Bf h];obtain⟨a0,a1,a2,a3,a4,rfl,h0,h1,h2,h3,h4⟩:=g5 ha.1;obtain⟨b0,b1,b2,b3,b4,rfl,k0,k1,k2,k3,k4⟩:=g5 hb.1;show Gl _ (BF 5 (JF.raw JE 0 [v,_,_,[_]]));rw[AHp];cases c with
 |true=>
  simp only[cond_true];rw[bK (eF h0) (eF k0),bK (eF h1) (eF k1),bK (eF h2) (eF k2),bK (eF h3) (eF k3),bK (eF h4) (eF k4)];exact ha
 |false=>
  simp only[cond_false];rw[aT (eF h0) (eF k0),aT (eF h1) (eF k1),aT (eF h2) (eF k2),aT (eF h3) (eF k3),aT (eF h4) (eF k4)];exact hb
end Go.Proofs.YtkbfdaoohhmgoaaGreatDoor
