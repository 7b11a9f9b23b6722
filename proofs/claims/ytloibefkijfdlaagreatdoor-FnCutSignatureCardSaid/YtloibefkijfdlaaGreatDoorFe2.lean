/- The functions of the field, as numbers modulo p. -/
import Derived.Test.YtloibefkijfdlaaGreatDoorFa
import Derived.Test.YtloibefkijfdlaaGreatDoorMa
namespace Go.Proofs.YtloibefkijfdlaaGreatDoor
open Go Ma
theorem BQ{T:Tb}{f o:Nat}{s:BH}(h:lk f T=some (.one s))(args:List (List Int)):gv T f o args=(s.pr o).den args:=Sj h args
theorem Cf{T:Tb}{f:Nat}{s:BH}(h:lk f T=some (.one s)){args:List (List Int)}(hp:s.pre args):LM T f args:=⟨⟨_,h,hp⟩⟩
theorem fU{a b:Int}{t:Fp}(h:(Mh:Int) ∣ a-b)(hb:Lh b=t):Lh a=t:=by rw[<- hb];exact AAo.2 h
theorem g5{l:List Int}(h:Is l):∃a b c d e,l= [a,b,c,d,e]/\(0<=a/\a<=fB)/\(0<=b/\b<=fB)/\(0<=c/\c<=fB)/\(0<=d/\d<=fB)/\(0<=e/\e<=fB):=by
 obtain⟨a,b,c,d,e,rfl⟩:=AJF h.1;exact⟨a,b,c,d,e,rfl,h.2 0 (by omega),h.2 1 (by omega),h.2 2 (by omega),h.2 3 (by omega),h.2 4 (by omega)⟩
theorem TS(ρ:Br)(p q:GU):FU ρ (Tn [] p q)=FU ρ p*FU ρ q:=TR (λi h=>by cases h) p q
theorem KO{T:Tb}(h:lk 115 T=some (.one Ao)):KF.Ok T 115 .mul:=λv a b x y ha hb=>by
 refine⟨Cf h trivial,?_⟩;rw[BQ h];obtain⟨_,h1,ρ,h2,h3⟩:=AEv (ins:=[v,a,b]) (dF rfl rfl) AP0 (Me v (XL ha.1 (XL hb.1 (IL _))));show Ho _ (BK 5 (JG.raw JN 0 [v,a,b]));rw[Bn h1.1];refine⟨h1,fU h3 ?_⟩;rw[TS,Sr ρ (h2 1 (by decide)),Sr ρ (h2 2 (by decide)),dw];show Lh (NG a)*Lh (NG b)=_;rw[ha.2,hb.2]
theorem XC{T:Tb}(h:lk 112 T=some (.one DD)):KF.Ok T 112 .sq:=λv a x ha=>by
 refine⟨Cf h trivial,?_⟩;rw[BQ h];obtain⟨_,h1,ρ,h2,h3⟩:=AEv (ins:=[v,a]) (dF rfl rfl) ASc (Me v (XL ha.1 (IL _)));show Ho _ (BK 5 (Jp.raw Ju 0 [v,a]));rw[Bn h1.1];refine⟨h1,fU h3 ?_⟩;rw[TS,Sr ρ (h2 1 (by decide)),dw];show Lh (NG a)*Lh (NG a)=_;rw[ha.2]
theorem Qb{T:Tb}(h:lk 117 T=some (.one Cn)):KF.Ok T 117 .add:=λv a b x y ha hb=>by
 refine⟨Cf h trivial,?_⟩;rw[BQ h];obtain⟨_,h1,ρ,h2,h3⟩:=AEv (ins:=[v,a,b]) (nS rfl) APx (Me v (XL ha.1 (XL hb.1 (IL _))));show Ho _ (BK 5 (LY.raw Lf 0 [v,a,b]));rw[Bn h1.1];refine⟨h1,fU h3 ?_⟩;rw[Cg,Sr ρ (h2 1 (by decide)),Sr ρ (h2 2 (by decide)),uT];show Lh (NG a)+Lh (NG b)=_;rw[ha.2,hb.2]
theorem rW{v a b:List Int}{x y:Fp}(ha:Ho x a)(hb:Ho y b):Ho (x-y) (EF.raw EE 0 [v,a,b]):=by
 obtain⟨_,h1,ρ,h2,h3⟩:=AEv (ins:=[v,a,b]) (nS rfl) AQC (Me v (XL ha.1 (XL hb.1 (IL _))));refine⟨h1,fU h3 ?_⟩;rw[Cg,CZ,Sr ρ (h2 1 (by decide)),Sr ρ (h2 2 (by decide)),Int.neg_mul,zda, <- Int.sub_eq_add_neg,AFQ];show Lh (NG a)-Lh (NG b)=_;rw[ha.2,hb.2]
theorem Qh{T:Tb}(h:lk 113 T=some (.one BD)):KF.Ok T 113 .sub:=λv a b x y ha hb=>by
 refine⟨Cf h trivial,?_⟩;rw[BQ h];have h1:=rW (v:=v) ha hb;show Ho _ (BK 5 (EF.raw EE 0 [v,a,b]));rw[Bn h1.1.1];exact h1
theorem AGD(v a:List Int):Jv.raw Jt 0 [v,a]=(List.range 5).map λk=>((BD.pr 0).den [v,[0,0,0,0,0],a]).getD k 0:=by kernel_rfl
theorem zA{l:List Int}(h:l.length=5):((List.range 5).map λk=>l.getD k 0)=l:=Bn h
theorem WR{T:Tb}(h:lk 119 T=some (.one EB)):KF.Ok T 119 .neg:=λv a x ha=>by
 refine⟨Cf h trivial,?_⟩;rw[BQ h];have h1:Ho (0-x) (EF.raw EE 0 [v,[0,0,0,0,0],a]):=rW ⟨Ow rfl,Kz⟩ ha;have h2:(BD.pr 0).den [v,[0,0,0,0,0],a]=EF.raw EE 0 [v,[0,0,0,0,0],a]:=Bn h1.1.1;show Ho _ (BK 5 (Jv.raw Jt 0 [v,a]));rw[AGD,h2,zA h1.1.1,Bn h1.1.1];exact h1
theorem AFz(v:List Int)(a b c d e:Int):Ld.raw Lb 0 [v,[a,b,c,d,e]]= [a,b,c,d,e]:=by kernel_rfl
theorem Ym{T:Tb}(h:lk 121 T=some (.one GR)):KF.Ok T 121 .set:=λv a x ha=>by
 refine⟨Cf h trivial,?_⟩;rw[BQ h];obtain⟨a0,a1,a2,a3,a4,rfl,_⟩:=g5 ha.1;show Ho _ (BK 5 (Ld.raw Lb 0 [v,_]));rw[AFz];exact ha
theorem ABJ(v:List (List Int)):K4.raw Ko 0 v= [0,0,0,0,0]:=by kernel_rfl
theorem AFn(v:List (List Int)):LW.raw LX 0 v= [1,0,0,0,0]:=by kernel_rfl
theorem wL{T:Tb}(h:lk 179 T=some (.one I7)):KF.Ok T 179 (.k 0):=λv=>by
 refine⟨Cf h trivial,?_⟩;rw[BQ h];show Ho _ (BK 5 (K4.raw Ko 0 v));rw[ABJ];exact⟨Ow rfl,rfl⟩
theorem Yw{T:Tb}(h:lk 122 T=some (.one Eh)):KF.Ok T 122 (.k 1):=λv=>by
 refine⟨Cf h trivial,?_⟩;rw[BQ h];show Ho _ (BK 5 (LW.raw LX 0 v));rw[AFn];exact⟨Ow rfl,rfl⟩
def cK(c x y:Int):Int:=Ah .or .u64 (Ah .and .u64 (Ah .xor .u64 18446744073709551615 (Ah .sub .u64 (IntKind.u64.wrap c) 1)) x) (Ah .and .u64 (Ah .xor .u64 18446744073709551615 (Ah .xor .u64 18446744073709551615 (Ah .sub .u64 (IntKind.u64.wrap c) 1))) y)
theorem NC{x:Int}(h:0<=x/\x<=fB):IU .u64 x:=UQ h.1 (by have:=h.2;unfold fB at this;omega)
theorem Yi{x:Int}(h:IU .u64 x):∃n:Nat,x=n/\n<18446744073709551616:=by
 obtain⟨h1,h2⟩:=p9 h;exact⟨x.toNat,by omega,by omega⟩
theorem ASS:IU .u64 18446744073709551615:=UQ (by omega) (by omega)
theorem no0:IU .u64 0:=UQ (by omega) (by omega)
theorem Us{x:Int}(h:IU .u64 x):Dp .and .u64 18446744073709551615 x=x:=by
 rw[(Iy (k:=.u64) rfl ASS h).1];obtain⟨n,rfl,hn⟩:=Yi h;show(((2^64-1) &&& n:Nat):Int)=n;rw[Nat.and_comm,Nat.and_two_pow_sub_one_eq_mod,Nat.mod_eq_of_lt hn]
theorem Yr{x:Int}(h:IU .u64 x):Dp .and .u64 0 x=0:=by
 rw[(Iy (k:=.u64) rfl no0 h).1];show((0 &&& x.toNat:Nat):Int)=0;rw[Nat.zero_and];rfl
theorem vR{x:Int}(h:IU .u64 x):Dp .or .u64 x 0=x/\Dp .or .u64 0 x=x:=by
 rw[(Iy (k:=.u64) rfl no0 h).2.1,(Iy (k:=.u64) rfl h no0).2.1];obtain⟨n,rfl,hn⟩:=Yi h;show((n ||| 0:Nat):Int)=n/\((0 ||| n:Nat):Int)=n;rw[Nat.or_zero,Nat.zero_or];exact⟨rfl,rfl⟩
theorem zk{x:Int}(h:IU .u64 x):Dp .xor .u64 x 0=x:=by
 rw[(Iy (k:=.u64) rfl h no0).2.2];obtain⟨n,rfl,hn⟩:=Yi h;show((n ^^^ 0:Nat):Int)=n;rw[Nat.xor_zero]
theorem mR{x y:Int}(hx:IU .u64 x)(hy:IU .u64 y):IU .u64 (Dp .xor .u64 x y):=by
 rw[(Iy (k:=.u64) rfl hx hy).2.2];obtain⟨m,rfl,hm⟩:=Yi hx;obtain⟨n,rfl,hn⟩:=Yi hy;have:m ^^^ n<2^64:=Nat.xor_lt_two_pow hm hn;exact UQ (sU _) (by show((m ^^^ n:Nat):Int)<_;omega)
theorem AEV{x y:Int}(hx:IU .u64 x)(hy:IU .u64 y):Dp .xor .u64 x (Dp .xor .u64 x y)=y/\Dp .xor .u64 y (Dp .xor .u64 x y)=x:=by
 have hz:=mR hx hy;rw[(Iy (k:=.u64) rfl hx hz).2.2,(Iy (k:=.u64) rfl hy hz).2.2,(Iy (k:=.u64) rfl hx hy).2.2];obtain⟨m,rfl,hm⟩:=Yi hx;obtain⟨n,rfl,hn⟩:=Yi hy;show((m ^^^ (m ^^^ n):Nat):Int)=n/\((n ^^^ (m ^^^ n):Nat):Int)=m;rw[<- Nat.xor_assoc,Nat.xor_self,Nat.zero_xor,Nat.xor_comm m n, <- Nat.xor_assoc,Nat.xor_self,Nat.zero_xor];exact⟨rfl,rfl⟩
theorem ZF{x y:Int}(hx:IU .u64 x)(hy:IU .u64 y):cK 1 x y=x:=by
 have e:Ah .xor .u64 18446744073709551615 (Ah .sub .u64 (IntKind.u64.wrap 1) 1)=18446744073709551615:=by decide +kernel
 have e2:Ah .xor .u64 18446744073709551615 18446744073709551615=0:=by decide +kernel
 unfold cK;rw[e,e2];show Dp .or .u64 (Dp .and .u64 _ x) (Dp .and .u64 0 y)=x;rw[Us hx,Yr hy,(vR hx).1]
theorem Yy{x y:Int}(hx:IU .u64 x)(hy:IU .u64 y):cK 0 x y=y:=by
 have e:Ah .xor .u64 18446744073709551615 (Ah .sub .u64 (IntKind.u64.wrap 0) 1)=0:=by decide +kernel
 have e2:Ah .xor .u64 18446744073709551615 0=18446744073709551615:=by decide +kernel
 unfold cK;rw[e,e2];show Dp .or .u64 (Dp .and .u64 0 x) (Dp .and .u64 _ y)=y;rw[Us hy,Yr hx,(vR hy).2]
theorem AE5(v:List Int)(a b c d e a' b' c' d' e' z:Int):Jo.raw J8 0 [v,[a,b,c,d,e],[a',b',c',d',e'],[z]]= [cK z a a',cK z b b',cK z c c',cK z d d',cK z e e']:=by kernel_rfl
theorem UD{T:Tb}(h:lk 120 T=some (.one Df)):KF.Ok T 120 .ca:=λv a b x y c ha hb=>by
 refine⟨Cf h trivial,?_⟩;rw[BQ h];obtain⟨a0,a1,a2,a3,a4,rfl,h0,h1,h2,h3,h4⟩:=g5 ha.1;obtain⟨b0,b1,b2,b3,b4,rfl,k0,k1,k2,k3,k4⟩:=g5 hb.1;show Ho _ (BK 5 (Jo.raw J8 0 [v,_,_,[_]]));rw[AE5];cases c with
 |true=>
  simp only[cond_true];rw[ZF (NC h0) (NC k0),ZF (NC h1) (NC k1),ZF (NC h2) (NC k2),ZF (NC h3) (NC k3),ZF (NC h4) (NC k4)];exact ha
 |false=>
  simp only[cond_false];rw[Yy (NC h0) (NC k0),Yy (NC h1) (NC k1),Yy (NC h2) (NC k2),Yy (NC h3) (NC k3),Yy (NC h4) (NC k4)];exact hb
def Tj(c x y z:Int):Int:=Ah .xor .u64 z (Ah .and .u64 (Ah .xor .u64 18446744073709551615 (Ah .sub .u64 (IntKind.u64.wrap c) 1)) (Ah .xor .u64 x y))
theorem QW{x y:Int}(hx:IU .u64 x)(hy:IU .u64 y):Tj 1 x y x=y/\Tj 1 x y y=x:=by
 have e:Ah .xor .u64 18446744073709551615 (Ah .sub .u64 (IntKind.u64.wrap 1) 1)=18446744073709551615:=by decide +kernel
 unfold Tj;rw[e];show Dp .xor .u64 x (Dp .and .u64 _ (Dp .xor .u64 x y))=y/\Dp .xor .u64 y (Dp .and .u64 _ (Dp .xor .u64 x y))=x;rw[Us (mR hx hy)];exact AEV hx hy
theorem Qk{x y:Int}(hx:IU .u64 x)(hy:IU .u64 y):Tj 0 x y x=x/\Tj 0 x y y=y:=by
 have e:Ah .xor .u64 18446744073709551615 (Ah .sub .u64 (IntKind.u64.wrap 0) 1)=0:=by decide +kernel
 unfold Tj;rw[e];show Dp .xor .u64 x (Dp .and .u64 0 (Dp .xor .u64 x y))=x/\Dp .xor .u64 y (Dp .and .u64 0 (Dp .xor .u64 x y))=y;rw[Yr (mR hx hy)];exact⟨zk hx,zk hy⟩
theorem uB(a b c d e a' b' c' d' e' z:Int):Hd.raw G7 0 [[a,b,c,d,e],[a',b',c',d',e'],[z]]= [Tj z a a' a,Tj z b b' b,Tj z c c' c,Tj z d d' d,Tj z e e' e]/\Hd.raw G7 1 [[a,b,c,d,e],[a',b',c',d',e'],[z]]= [Tj z a a' a',Tj z b b' b',Tj z c c' c',Tj z d d' d',Tj z e e' e']:=⟨by kernel_rfl,by kernel_rfl⟩
theorem AJ4{T:Tb}(h:lk 210 T=some (.one Kr)):KF.Ok T 210 .swp:=λa b x y c ha hb=>by
 refine⟨Cf h trivial,?_⟩;rw[BQ h,BQ h];obtain⟨a0,a1,a2,a3,a4,rfl,h0,h1,h2,h3,h4⟩:=g5 ha.1;obtain⟨b0,b1,b2,b3,b4,rfl,k0,k1,k2,k3,k4⟩:=g5 hb.1;show Ho _ (BK 5 (Hd.raw G7 0 [_,_,[_]]))/\Ho _ (BK 5 (Hd.raw G7 1 [_,_,[_]]));rw[(uB _ _ _ _ _ _ _ _ _ _ _).1,(uB _ _ _ _ _ _ _ _ _ _ _).2];cases c with
 |true=>
  simp only[cond_true];rw[(QW (NC h0) (NC k0)).1,(QW (NC h1) (NC k1)).1,(QW (NC h2) (NC k2)).1,(QW (NC h3) (NC k3)).1,(QW (NC h4) (NC k4)).1,(QW (NC h0) (NC k0)).2,(QW (NC h1) (NC k1)).2,(QW (NC h2) (NC k2)).2,(QW (NC h3) (NC k3)).2,(QW (NC h4) (NC k4)).2];exact⟨hb,ha⟩
 |false=>
  simp only[cond_false];rw[(Qk (NC h0) (NC k0)).1,(Qk (NC h1) (NC k1)).1,(Qk (NC h2) (NC k2)).1,(Qk (NC h3) (NC k3)).1,(Qk (NC h4) (NC k4)).1,(Qk (NC h0) (NC k0)).2,(Qk (NC h1) (NC k1)).2,(Qk (NC h2) (NC k2)).2,(Qk (NC h3) (NC k3)).2,(Qk (NC h4) (NC k4)).2];exact⟨ha,hb⟩
end Go.Proofs.YtloibefkijfdlaaGreatDoor
