/- The functions of the field, as numbers modulo p. -/
import Derived.Test.YtloibefkijfdlaaGreatDoorFa
import Derived.Test.YtloibefkijfdlaaGreatDoorMa
namespace Go.Proofs.YtloibefkijfdlaaGreatDoor
open Go Ma
theorem Bg{T:Tb}{f o:Nat}{s:Az}(h:lk f T=some (.one s))(args:List (List Int)):gv T f o args=(s.pr o).den args:=UM h args
theorem Cw{T:Tb}{f:Nat}{s:Az}(h:lk f T=some (.one s)){args:List (List Int)}(hp:s.pre args):OU T f args:=⟨⟨_,h,hp⟩⟩
theorem jc{a b:Int}{t:Fp}(h:(MN:Int) ∣ a-b)(hb:Ki b=t):Ki a=t:=by rw[← hb];exact AD7.2 h
theorem g5{l:List Int}(h:feG l):∃ a b c d e,l= [a,b,c,d,e]∧(0≤a∧a≤fB)∧(0≤b∧b≤fB)∧(0≤c∧c≤fB)∧(0≤d∧d≤fB)∧(0≤e∧e≤fB):=by
 obtain⟨a,b,c,d,e,rfl⟩:=ANE h.1;exact⟨a,b,c,d,e,rfl,h.2 0 (by omega),h.2 1 (by omega),h.2 2 (by omega),h.2 3 (by omega),h.2 4 (by omega)⟩
theorem U9(ρ:Bl)(p q:Gd):F8 ρ (VQ [] p q)=F8 ρ p*F8 ρ q:=VH (fun i h=>by cases h) p q
theorem OC{T:Tb}(h:lk 115 T=some (.one BJ)):KF.Ok T 115 .mul:=fun v a b x y ha hb=>by
 refine⟨Cw h trivial,?_⟩;rw[Bg h];obtain⟨_,h1,ρ,h2,h3⟩:=AJ0 (ins:=[v,a,b]) (lI rfl rfl) ATN (Mt v (Yu ha.1 (Yu hb.1 (Ie _))));show Js _ (Aw 5 (Jm.raw JZ 0 [v,a,b]));rw[Au h1.1];refine⟨h1,jc h3 ?_⟩;rw[U9,UY ρ (h2 1 (by decide)),UY ρ (h2 2 (by decide)),ZR];show Ki (Nk a)*Ki (Nk b)=_;rw[ha.2,hb.2]
theorem gX{T:Tb}(h:lk 112 T=some (.one DX)):KF.Ok T 112 .sq:=fun v a x ha=>by
 refine⟨Cw h trivial,?_⟩;rw[Bg h];obtain⟨_,h1,ρ,h2,h3⟩:=AJ0 (ins:=[v,a]) (lI rfl rfl) AVn (Mt v (Yu ha.1 (Ie _)));show Js _ (Aw 5 (KJ.raw KM 0 [v,a]));rw[Au h1.1];refine⟨h1,jc h3 ?_⟩;rw[U9,UY ρ (h2 1 (by decide)),ZR];show Ki (Nk a)*Ki (Nk a)=_;rw[ha.2]
theorem Vk{T:Tb}(h:lk 117 T=some (.one DF)):KF.Ok T 117 .add:=fun v a b x y ha hb=>by
 refine⟨Cw h trivial,?_⟩;rw[Bg h];obtain⟨_,h1,ρ,h2,h3⟩:=AJ0 (ins:=[v,a,b]) (ve rfl) ATM (Mt v (Yu ha.1 (Yu hb.1 (Ie _))));show Js _ (Aw 5 (MI.raw Lx 0 [v,a,b]));rw[Au h1.1];refine⟨h1,jc h3 ?_⟩;rw[Cc,UY ρ (h2 1 (by decide)),UY ρ (h2 2 (by decide)),lM];show Ki (Nk a)+Ki (Nk b)=_;rw[ha.2,hb.2]
theorem zV{v a b:List Int}{x y:Fp}(ha:Js x a)(hb:Js y b):Js (x-y) (EL.raw EJ 0 [v,a,b]):=by
 obtain⟨_,h1,ρ,h2,h3⟩:=AJ0 (ins:=[v,a,b]) (ve rfl) ARx (Mt v (Yu ha.1 (Yu hb.1 (Ie _))));refine⟨h1,jc h3 ?_⟩;rw[Cc,CW,UY ρ (h2 1 (by decide)),UY ρ (h2 2 (by decide)),Int.neg_mul,zcw, ← Int.sub_eq_add_neg,lK];show Ki (Nk a)-Ki (Nk b)=_;rw[ha.2,hb.2]
theorem WM{T:Tb}(h:lk 113 T=some (.one BV)):KF.Ok T 113 .sub:=fun v a b x y ha hb=>by
 refine⟨Cw h trivial,?_⟩;rw[Bg h];have h1:=zV (v:=v) ha hb;show Js _ (Aw 5 (EL.raw EJ 0 [v,a,b]));rw[Au h1.1.1];exact h1
theorem AJD(v a:List Int):KH.raw KU 0 [v,a]=(List.range 5).map fun k=>((BV.pr 0).den [v,[0,0,0,0,0],a]).getD k 0:=by kernel_rfl
theorem ACw{l:List Int}(h:l.length=5):((List.range 5).map fun k=>l.getD k 0)=l:=Au h
theorem au{T:Tb}(h:lk 119 T=some (.one ED)):KF.Ok T 119 .neg:=fun v a x ha=>by
 refine⟨Cw h trivial,?_⟩;rw[Bg h];have h1:Js (0-x) (EL.raw EJ 0 [v,[0,0,0,0,0],a]):=zV ⟨P8 rfl,LW⟩ ha;have h2:(BV.pr 0).den [v,[0,0,0,0,0],a]=EL.raw EJ 0 [v,[0,0,0,0,0],a]:=Au h1.1.1;show Js _ (Aw 5 (KH.raw KU 0 [v,a]));rw[AJD,h2,ACw h1.1.1,Au h1.1.1];exact h1
theorem AGm(v:List Int)(a b c d e:Int):Lv.raw MC 0 [v,[a,b,c,d,e]]= [a,b,c,d,e]:=by kernel_rfl
theorem jv{T:Tb}(h:lk 121 T=some (.one Gb)):KF.Ok T 121 .set:=fun v a x ha=>by
 refine⟨Cw h trivial,?_⟩;rw[Bg h];obtain⟨a0,a1,a2,a3,a4,rfl,_⟩:=g5 ha.1;show Js _ (Aw 5 (Lv.raw MC 0 [v,_]));rw[AGm];exact ha
theorem AFZ(v:List (List Int)):LB.raw LK 0 v= [0,0,0,0,0]:=by kernel_rfl
theorem AIO(v:List (List Int)):L8.raw ME 0 v= [1,0,0,0,0]:=by kernel_rfl
theorem AHA{T:Tb}(h:lk 179 T=some (.one LJ)):KF.Ok T 179 (.k 0):=fun v=>by
 refine⟨Cw h trivial,?_⟩;rw[Bg h];show Js _ (Aw 5 (LB.raw LK 0 v));rw[AFZ];exact⟨P8 rfl,rfl⟩
theorem tO{T:Tb}(h:lk 122 T=some (.one Gc)):KF.Ok T 122 (.k 1):=fun v=>by
 refine⟨Cw h trivial,?_⟩;rw[Bg h];show Js _ (Aw 5 (L8.raw ME 0 v));rw[AIO];exact⟨P8 rfl,rfl⟩
def jk(c x y:Int):Int:=Ao .or .u64 (Ao .and .u64 (Ao .xor .u64 18446744073709551615 (Ao .sub .u64 (IntKind.u64.wrap c) 1)) x) (Ao .and .u64 (Ao .xor .u64 18446744073709551615 (Ao .xor .u64 18446744073709551615 (Ao .sub .u64 (IntKind.u64.wrap c) 1))) y)
theorem Nb{x:Int}(h:0≤x∧x≤fB):JC .u64 x:=Vr h.1 (by have:=h.2;unfold fB at this;omega)
theorem bI{x:Int}(h:JC .u64 x):∃ n:Nat,x=n∧n<18446744073709551616:=by
 obtain⟨h1,h2⟩:=uI h;exact⟨x.toNat,by omega,by omega⟩
theorem AVB:JC .u64 18446744073709551615:=Vr (by omega) (by omega)
theorem no0:JC .u64 0:=Vr (by omega) (by omega)
theorem XM{x:Int}(h:JC .u64 x):Dl .and .u64 18446744073709551615 x=x:=by
 rw[(JL (k:=.u64) rfl AVB h).1];obtain⟨n,rfl,hn⟩:=bI h;show (((2^64-1) &&& n:Nat):Int)=n;rw[Nat.and_comm,Nat.and_two_pow_sub_one_eq_mod,Nat.mod_eq_of_lt hn]
theorem eU{x:Int}(h:JC .u64 x):Dl .and .u64 0 x=0:=by
 rw[(JL (k:=.u64) rfl no0 h).1];show ((0 &&& x.toNat:Nat):Int)=0;rw[Nat.zero_and];rfl
theorem x9{x:Int}(h:JC .u64 x):Dl .or .u64 x 0=x∧Dl .or .u64 0 x=x:=by
 rw[(JL (k:=.u64) rfl no0 h).2.1,(JL (k:=.u64) rfl h no0).2.1];obtain⟨n,rfl,hn⟩:=bI h;show ((n ||| 0:Nat):Int)=n∧((0 ||| n:Nat):Int)=n;rw[Nat.or_zero,Nat.zero_or];exact⟨rfl,rfl⟩
theorem AFD{x:Int}(h:JC .u64 x):Dl .xor .u64 x 0=x:=by
 rw[(JL (k:=.u64) rfl h no0).2.2];obtain⟨n,rfl,hn⟩:=bI h;show ((n ^^^ 0:Nat):Int)=n;rw[Nat.xor_zero]
theorem uT{x y:Int}(hx:JC .u64 x)(hy:JC .u64 y):JC .u64 (Dl .xor .u64 x y):=by
 rw[(JL (k:=.u64) rfl hx hy).2.2];obtain⟨m,rfl,hm⟩:=bI hx;obtain⟨n,rfl,hn⟩:=bI hy;have:m ^^^ n<2^64:=Nat.xor_lt_two_pow hm hn;exact Vr (yP _) (by show ((m ^^^ n:Nat):Int)<_;omega)
theorem AIv{x y:Int}(hx:JC .u64 x)(hy:JC .u64 y):Dl .xor .u64 x (Dl .xor .u64 x y)=y∧Dl .xor .u64 y (Dl .xor .u64 x y)=x:=by
 have hz:=uT hx hy;rw[(JL (k:=.u64) rfl hx hz).2.2,(JL (k:=.u64) rfl hy hz).2.2,(JL (k:=.u64) rfl hx hy).2.2];obtain⟨m,rfl,hm⟩:=bI hx;obtain⟨n,rfl,hn⟩:=bI hy;show ((m ^^^ (m ^^^ n):Nat):Int)=n∧((n ^^^ (m ^^^ n):Nat):Int)=m;rw[← Nat.xor_assoc,Nat.xor_self,Nat.zero_xor,Nat.xor_comm m n, ← Nat.xor_assoc,Nat.xor_self,Nat.zero_xor];exact⟨rfl,rfl⟩
theorem aQ{x y:Int}(hx:JC .u64 x)(hy:JC .u64 y):jk 1 x y=x:=by
 have e:Ao .xor .u64 18446744073709551615 (Ao .sub .u64 (IntKind.u64.wrap 1) 1)=18446744073709551615:=by decide +kernel
 have e2:Ao .xor .u64 18446744073709551615 18446744073709551615=0:=by decide +kernel
 unfold jk;rw[e,e2];show Dl .or .u64 (Dl .and .u64 _ x) (Dl .and .u64 0 y)=x;rw[XM hx,eU hy,(x9 hx).1]
theorem bP{x y:Int}(hx:JC .u64 x)(hy:JC .u64 y):jk 0 x y=y:=by
 have e:Ao .xor .u64 18446744073709551615 (Ao .sub .u64 (IntKind.u64.wrap 0) 1)=0:=by decide +kernel
 have e2:Ao .xor .u64 18446744073709551615 0=18446744073709551615:=by decide +kernel
 unfold jk;rw[e,e2];show Dl .or .u64 (Dl .and .u64 0 x) (Dl .and .u64 _ y)=y;rw[XM hy,eU hx,(x9 hy).2]
theorem AIh(v:List Int)(a b c d e a' b' c' d' e' z:Int):KI.raw KY 0 [v,[a,b,c,d,e],[a',b',c',d',e'],[z]]= [jk z a a',jk z b b',jk z c c',jk z d d',jk z e e']:=by kernel_rfl
theorem YN{T:Tb}(h:lk 120 T=some (.one DV)):KF.Ok T 120 .sel:=fun v a b x y c ha hb=>by
 refine⟨Cw h trivial,?_⟩;rw[Bg h];obtain⟨a0,a1,a2,a3,a4,rfl,h0,h1,h2,h3,h4⟩:=g5 ha.1;obtain⟨b0,b1,b2,b3,b4,rfl,k0,k1,k2,k3,k4⟩:=g5 hb.1;show Js _ (Aw 5 (KI.raw KY 0 [v,_,_,[_]]));rw[AIh]
 cases c with
 |true=>
  simp only[cond_true];rw[aQ (Nb h0) (Nb k0),aQ (Nb h1) (Nb k1),aQ (Nb h2) (Nb k2),aQ (Nb h3) (Nb k3),aQ (Nb h4) (Nb k4)];exact ha
 |false=>
  simp only[cond_false];rw[bP (Nb h0) (Nb k0),bP (Nb h1) (Nb k1),bP (Nb h2) (Nb k2),bP (Nb h3) (Nb k3),bP (Nb h4) (Nb k4)];exact hb
def VP(c x y z:Int):Int:=Ao .xor .u64 z (Ao .and .u64 (Ao .xor .u64 18446744073709551615 (Ao .sub .u64 (IntKind.u64.wrap c) 1)) (Ao .xor .u64 x y))
theorem Re{x y:Int}(hx:JC .u64 x)(hy:JC .u64 y):VP 1 x y x=y∧VP 1 x y y=x:=by
 have e:Ao .xor .u64 18446744073709551615 (Ao .sub .u64 (IntKind.u64.wrap 1) 1)=18446744073709551615:=by decide +kernel
 unfold VP;rw[e];show Dl .xor .u64 x (Dl .and .u64 _ (Dl .xor .u64 x y))=y∧Dl .xor .u64 y (Dl .and .u64 _ (Dl .xor .u64 x y))=x;rw[XM (uT hx hy)];exact AIv hx hy
theorem RZ{x y:Int}(hx:JC .u64 x)(hy:JC .u64 y):VP 0 x y x=x∧VP 0 x y y=y:=by
 have e:Ao .xor .u64 18446744073709551615 (Ao .sub .u64 (IntKind.u64.wrap 0) 1)=0:=by decide +kernel
 unfold VP;rw[e];show Dl .xor .u64 x (Dl .and .u64 0 (Dl .xor .u64 x y))=x∧Dl .xor .u64 y (Dl .and .u64 0 (Dl .xor .u64 x y))=y;rw[eU (uT hx hy)];exact⟨AFD hx,AFD hy⟩
theorem zU(a b c d e a' b' c' d' e' z:Int):Hr.raw Ht 0 [[a,b,c,d,e],[a',b',c',d',e'],[z]]= [VP z a a' a,VP z b b' b,VP z c c' c,VP z d d' d,VP z e e' e]∧Hr.raw Ht 1 [[a,b,c,d,e],[a',b',c',d',e'],[z]]= [VP z a a' a',VP z b b' b',VP z c c' c',VP z d d' d',VP z e e' e']:=⟨by kernel_rfl,by kernel_rfl⟩
theorem APt{T:Tb}(h:lk 210 T=some (.one Ld)):KF.Ok T 210 .swp:=fun a b x y c ha hb=>by
 refine⟨Cw h trivial,?_⟩;rw[Bg h,Bg h];obtain⟨a0,a1,a2,a3,a4,rfl,h0,h1,h2,h3,h4⟩:=g5 ha.1;obtain⟨b0,b1,b2,b3,b4,rfl,k0,k1,k2,k3,k4⟩:=g5 hb.1;show Js _ (Aw 5 (Hr.raw Ht 0 [_,_,[_]]))∧Js _ (Aw 5 (Hr.raw Ht 1 [_,_,[_]]));rw[(zU _ _ _ _ _ _ _ _ _ _ _).1,(zU _ _ _ _ _ _ _ _ _ _ _).2]
 cases c with
 |true=>
  simp only[cond_true];rw[(Re (Nb h0) (Nb k0)).1,(Re (Nb h1) (Nb k1)).1,(Re (Nb h2) (Nb k2)).1,(Re (Nb h3) (Nb k3)).1,(Re (Nb h4) (Nb k4)).1,(Re (Nb h0) (Nb k0)).2,(Re (Nb h1) (Nb k1)).2,(Re (Nb h2) (Nb k2)).2,(Re (Nb h3) (Nb k3)).2,(Re (Nb h4) (Nb k4)).2];exact⟨hb,ha⟩
 |false=>
  simp only[cond_false];rw[(RZ (Nb h0) (Nb k0)).1,(RZ (Nb h1) (Nb k1)).1,(RZ (Nb h2) (Nb k2)).1,(RZ (Nb h3) (Nb k3)).1,(RZ (Nb h4) (Nb k4)).1,(RZ (Nb h0) (Nb k0)).2,(RZ (Nb h1) (Nb k1)).2,(RZ (Nb h2) (Nb k2)).2,(RZ (Nb h3) (Nb k3)).2,(RZ (Nb h4) (Nb k4)).2];exact⟨ha,hb⟩
end Go.Proofs.YtloibefkijfdlaaGreatDoor
