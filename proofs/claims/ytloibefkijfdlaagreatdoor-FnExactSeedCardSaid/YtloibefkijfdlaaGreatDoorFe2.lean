/- The functions of the field, as numbers modulo p. -/
import Derived.Test.YtloibefkijfdlaaGreatDoorFa
import Derived.Test.YtloibefkijfdlaaGreatDoorMa
namespace Go.Proofs.YtloibefkijfdlaaGreatDoor
open Go Ma
theorem gv_one{T:Tb}{f o:Nat}{s:FSum}(h:lk f T=some (.one s))(args:List (List Int)):gv T f o args=(s.pr o).den args:=fn_den h args
theorem pay_one{T:Tb}{f:Nat}{s:FSum}(h:lk f T=some (.one s)){args:List (List Int)}(hp:s.pre args):Pay T f args:=⟨⟨_,h,hp⟩⟩
theorem feE_eq{a b:Int}{t:Fp}(h:(P25519:Int) ∣ a-b)(hb:fpI b=t):fpI a=t:=by rw[← hb]; exact fpI_eq.2 h
theorem g5{l:List Int}(h:feG l):∃ a b c d e,l= [a,b,c,d,e]∧(0≤a∧a≤fB)∧(0≤b∧b≤fB)∧(0≤c∧c≤fB)∧(0≤d∧d≤fB)∧(0≤e∧e≤fB):=by
 obtain⟨a,b,c,d,e,rfl⟩:=five h.1
 exact⟨a,b,c,d,e,rfl,h.2 0 (by omega),h.2 1 (by omega),h.2 2 (by omega),h.2 3 (by omega),h.2 4 (by omega)⟩
theorem pev_mul(ρ:Env)(p q:Poly):pev ρ (pmul [] p q)=pev ρ p*pev ρ q:=pmul_ev (fun i h=>by cases h) p q
theorem kf_mul{T:Tb}(h:lk 115 T=some (.one s_field_Element_Multiply)):KF.Ok T 115 .mul:=fun v a b x y ha hb=>by
 refine⟨pay_one h trivial,?_⟩
 rw[gv_one h]
 obtain⟨_,h1,ρ,h2,h3⟩:=feFn (ins:= [v,a,b]) (Mfe_ok rfl rfl) t_mul (bnd_no v (bnd_F ha.1 (bnd_F hb.1 (bnd_nil _))))
 show feR _ (fixL 5 (i_field_Element_Multiply.raw C_field_Element_Multiply 0 [v,a,b]))
 rw[fixL_id h1.1]
 refine⟨h1,feE_eq h3 ?_⟩
 rw[pev_mul,inP_ev ρ (h2 1 (by decide)),inP_ev ρ (h2 2 (by decide)),fpI_mul]
 show fpI (feV a)*fpI (feV b)=_
 rw[ha.2,hb.2]
theorem kf_sq{T:Tb}(h:lk 112 T=some (.one s_field_Element_Square)):KF.Ok T 112 .sq:=fun v a x ha=>by
 refine⟨pay_one h trivial,?_⟩
 rw[gv_one h]
 obtain⟨_,h1,ρ,h2,h3⟩:=feFn (ins:= [v,a]) (Mfe_ok rfl rfl) t_sq (bnd_no v (bnd_F ha.1 (bnd_nil _)))
 show feR _ (fixL 5 (i_field_Element_Square.raw C_field_Element_Square 0 [v,a]))
 rw[fixL_id h1.1]
 refine⟨h1,feE_eq h3 ?_⟩
 rw[pev_mul,inP_ev ρ (h2 1 (by decide)),fpI_mul]
 show fpI (feV a)*fpI (feV a)=_
 rw[ha.2]
theorem kf_add{T:Tb}(h:lk 117 T=some (.one s_field_Element_Add)):KF.Ok T 117 .add:=fun v a b x y ha hb=>by
 refine⟨pay_one h trivial,?_⟩
 rw[gv_one h]
 obtain⟨_,h1,ρ,h2,h3⟩:=feFn (ins:= [v,a,b]) (Mf1_ok rfl) t_add (bnd_no v (bnd_F ha.1 (bnd_F hb.1 (bnd_nil _))))
 show feR _ (fixL 5 (i_field_Element_Add.raw C_field_Element_Add 0 [v,a,b]))
 rw[fixL_id h1.1]
 refine⟨h1,feE_eq h3 ?_⟩
 rw[padd_ev,inP_ev ρ (h2 1 (by decide)),inP_ev ρ (h2 2 (by decide)),fpI_add]
 show fpI (feV a)+fpI (feV b)=_
 rw[ha.2,hb.2]
theorem sub_raw{v a b:List Int}{x y:Fp}(ha:feR x a)(hb:feR y b):feR (x-y) (i_field_Element_Subtract.raw C_field_Element_Subtract 0 [v,a,b]):=by
 obtain⟨_,h1,ρ,h2,h3⟩:=feFn (ins:= [v,a,b]) (Mf1_ok rfl) t_sub (bnd_no v (bnd_F ha.1 (bnd_F hb.1 (bnd_nil _))))
 refine⟨h1,feE_eq h3 ?_⟩
 rw[padd_ev,psmul_ev,inP_ev ρ (h2 1 (by decide)),inP_ev ρ (h2 2 (by decide)),Int.neg_mul,Int.one_mul, ← Int.sub_eq_add_neg,fpI_sub]
 show fpI (feV a)-fpI (feV b)=_
 rw[ha.2,hb.2]
theorem kf_sub{T:Tb}(h:lk 113 T=some (.one s_field_Element_Subtract)):KF.Ok T 113 .sub:=fun v a b x y ha hb=>by
 refine⟨pay_one h trivial,?_⟩
 rw[gv_one h]
 have h1:=sub_raw (v:=v) ha hb
 show feR _ (fixL 5 (i_field_Element_Subtract.raw C_field_Element_Subtract 0 [v,a,b]))
 rw[fixL_id h1.1.1]
 exact h1
theorem raw_neg(v a:List Int):i_field_Element_Negate.raw C_field_Element_Negate 0 [v,a]=(List.range 5).map fun k=>((s_field_Element_Subtract.pr 0).den [v,[0,0,0,0,0],a]).getD k 0:=by kernel_rfl
theorem range_id{l:List Int}(h:l.length=5):((List.range 5).map fun k=>l.getD k 0)=l:=fixL_id h
theorem kf_neg{T:Tb}(h:lk 119 T=some (.one s_field_Element_Negate)):KF.Ok T 119 .neg:=fun v a x ha=>by
 refine⟨pay_one h trivial,?_⟩
 rw[gv_one h]
 have h1:feR (0-x) (i_field_Element_Subtract.raw C_field_Element_Subtract 0 [v,[0,0,0,0,0],a]):=sub_raw ⟨litF_ok rfl,fpI_zero⟩ ha
 have h2:(s_field_Element_Subtract.pr 0).den [v,[0,0,0,0,0],a]=i_field_Element_Subtract.raw C_field_Element_Subtract 0 [v,[0,0,0,0,0],a]:=fixL_id h1.1.1
 show feR _ (fixL 5 (i_field_Element_Negate.raw C_field_Element_Negate 0 [v,a]))
 rw[raw_neg,h2,range_id h1.1.1,fixL_id h1.1.1]
 exact h1
theorem raw_set(v:List Int)(a b c d e:Int):i_field_Element_Set.raw C_field_Element_Set 0 [v,[a,b,c,d,e]]= [a,b,c,d,e]:=by kernel_rfl
theorem kf_set{T:Tb}(h:lk 121 T=some (.one s_field_Element_Set)):KF.Ok T 121 .set:=fun v a x ha=>by
 refine⟨pay_one h trivial,?_⟩
 rw[gv_one h]
 obtain⟨a0,a1,a2,a3,a4,rfl,_⟩:=g5 ha.1
 show feR _ (fixL 5 (i_field_Element_Set.raw C_field_Element_Set 0 [v,_]))
 rw[raw_set]
 exact ha
theorem raw_zero(v:List (List Int)):i_field_Element_Zero.raw C_field_Element_Zero 0 v= [0,0,0,0,0]:=by kernel_rfl
theorem raw_one(v:List (List Int)):i_field_Element_One.raw C_field_Element_One 0 v= [1,0,0,0,0]:=by kernel_rfl
theorem kf_zero{T:Tb}(h:lk 179 T=some (.one s_field_Element_Zero)):KF.Ok T 179 (.k 0):=fun v=>by
 refine⟨pay_one h trivial,?_⟩
 rw[gv_one h]
 show feR _ (fixL 5 (i_field_Element_Zero.raw C_field_Element_Zero 0 v))
 rw[raw_zero]
 exact⟨litF_ok rfl,rfl⟩
theorem kf_one{T:Tb}(h:lk 122 T=some (.one s_field_Element_One)):KF.Ok T 122 (.k 1):=fun v=>by
 refine⟨pay_one h trivial,?_⟩
 rw[gv_one h]
 show feR _ (fixL 5 (i_field_Element_One.raw C_field_Element_One 0 v))
 rw[raw_one]
 exact⟨litF_ok rfl,rfl⟩
def selW(c x y:Int):Int:=binD .or .u64 (binD .and .u64 (binD .xor .u64 18446744073709551615 (binD .sub .u64 (IntKind.u64.wrap c) 1)) x) (binD .and .u64 (binD .xor .u64 18446744073709551615 (binD .xor .u64 18446744073709551615 (binD .sub .u64 (IntKind.u64.wrap c) 1))) y)
theorem lim{x:Int}(h:0≤x∧x≤fB):inR .u64 x:=u64_in h.1 (by have:=h.2; unfold fB at this; omega)
theorem nat64{x:Int}(h:inR .u64 x):∃ n:Nat,x=n∧n<18446744073709551616:=by
 obtain⟨h1,h2⟩:=u64_of h
 exact⟨x.toNat,by omega,by omega⟩
theorem all1:inR .u64 18446744073709551615:=u64_in (by omega) (by omega)
theorem no0:inR .u64 0:=u64_in (by omega) (by omega)
theorem and_all{x:Int}(h:inR .u64 x):bitsD .and .u64 18446744073709551615 x=x:=by
 rw[(bitsD_nat (k:=.u64) rfl all1 h).1]
 obtain⟨n,rfl,hn⟩:=nat64 h
 show (((2^64-1) &&& n:Nat):Int)=n
 rw[Nat.and_comm,Nat.and_two_pow_sub_one_eq_mod,Nat.mod_eq_of_lt hn]
theorem and_no{x:Int}(h:inR .u64 x):bitsD .and .u64 0 x=0:=by
 rw[(bitsD_nat (k:=.u64) rfl no0 h).1]
 show ((0 &&& x.toNat:Nat):Int)=0
 rw[Nat.zero_and]; rfl
theorem or_no{x:Int}(h:inR .u64 x):bitsD .or .u64 x 0=x∧bitsD .or .u64 0 x=x:=by
 rw[(bitsD_nat (k:=.u64) rfl no0 h).2.1,(bitsD_nat (k:=.u64) rfl h no0).2.1]
 obtain⟨n,rfl,hn⟩:=nat64 h
 show ((n ||| 0:Nat):Int)=n∧((0 ||| n:Nat):Int)=n
 rw[Nat.or_zero,Nat.zero_or]; exact⟨rfl,rfl⟩
theorem xor_no{x:Int}(h:inR .u64 x):bitsD .xor .u64 x 0=x:=by
 rw[(bitsD_nat (k:=.u64) rfl h no0).2.2]
 obtain⟨n,rfl,hn⟩:=nat64 h
 show ((n ^^^ 0:Nat):Int)=n
 rw[Nat.xor_zero]
theorem xor_in{x y:Int}(hx:inR .u64 x)(hy:inR .u64 y):inR .u64 (bitsD .xor .u64 x y):=by
 rw[(bitsD_nat (k:=.u64) rfl hx hy).2.2]
 obtain⟨m,rfl,hm⟩:=nat64 hx
 obtain⟨n,rfl,hn⟩:=nat64 hy
 have:m ^^^ n<2^64:=Nat.xor_lt_two_pow hm hn
 exact u64_in (Int.natCast_nonneg _) (by show ((m ^^^ n:Nat):Int)<_; omega)
theorem xor_xor{x y:Int}(hx:inR .u64 x)(hy:inR .u64 y):bitsD .xor .u64 x (bitsD .xor .u64 x y)=y∧bitsD .xor .u64 y (bitsD .xor .u64 x y)=x:=by
 have hz:=xor_in hx hy
 rw[(bitsD_nat (k:=.u64) rfl hx hz).2.2,(bitsD_nat (k:=.u64) rfl hy hz).2.2,(bitsD_nat (k:=.u64) rfl hx hy).2.2]
 obtain⟨m,rfl,hm⟩:=nat64 hx
 obtain⟨n,rfl,hn⟩:=nat64 hy
 show ((m ^^^ (m ^^^ n):Nat):Int)=n∧((n ^^^ (m ^^^ n):Nat):Int)=m
 rw[← Nat.xor_assoc,Nat.xor_self,Nat.zero_xor,Nat.xor_comm m n, ← Nat.xor_assoc,Nat.xor_self,Nat.zero_xor]; exact⟨rfl,rfl⟩
theorem selW_1{x y:Int}(hx:inR .u64 x)(hy:inR .u64 y):selW 1 x y=x:=by
 have e:binD .xor .u64 18446744073709551615 (binD .sub .u64 (IntKind.u64.wrap 1) 1)=18446744073709551615:=by decide +kernel
 have e2:binD .xor .u64 18446744073709551615 18446744073709551615=0:=by decide +kernel
 unfold selW
 rw[e,e2]
 show bitsD .or .u64 (bitsD .and .u64 _ x) (bitsD .and .u64 0 y)=x
 rw[and_all hx,and_no hy,(or_no hx).1]
theorem selW_0{x y:Int}(hx:inR .u64 x)(hy:inR .u64 y):selW 0 x y=y:=by
 have e:binD .xor .u64 18446744073709551615 (binD .sub .u64 (IntKind.u64.wrap 0) 1)=0:=by decide +kernel
 have e2:binD .xor .u64 18446744073709551615 0=18446744073709551615:=by decide +kernel
 unfold selW
 rw[e,e2]
 show bitsD .or .u64 (bitsD .and .u64 0 x) (bitsD .and .u64 _ y)=y
 rw[and_all hy,and_no hx,(or_no hy).2]
theorem raw_sel(v:List Int)(a b c d e a' b' c' d' e' z:Int):i_field_Element_Select.raw C_field_Element_Select 0 [v,[a,b,c,d,e],[a',b',c',d',e'],[z]]= [selW z a a',selW z b b',selW z c c',selW z d d',selW z e e']:=by kernel_rfl
theorem kf_sel{T:Tb}(h:lk 120 T=some (.one s_field_Element_Select)):KF.Ok T 120 .sel:=fun v a b x y c ha hb=>by
 refine⟨pay_one h trivial,?_⟩
 rw[gv_one h]
 obtain⟨a0,a1,a2,a3,a4,rfl,h0,h1,h2,h3,h4⟩:=g5 ha.1
 obtain⟨b0,b1,b2,b3,b4,rfl,k0,k1,k2,k3,k4⟩:=g5 hb.1
 show feR _ (fixL 5 (i_field_Element_Select.raw C_field_Element_Select 0 [v,_,_,[_]]))
 rw[raw_sel]
 cases c with
 |true=>
  simp only[cond_true]
  rw[selW_1 (lim h0) (lim k0),selW_1 (lim h1) (lim k1),selW_1 (lim h2) (lim k2),selW_1 (lim h3) (lim k3),selW_1 (lim h4) (lim k4)]
  exact ha
 |false=>
  simp only[cond_false]
  rw[selW_0 (lim h0) (lim k0),selW_0 (lim h1) (lim k1),selW_0 (lim h2) (lim k2),selW_0 (lim h3) (lim k3),selW_0 (lim h4) (lim k4)]
  exact hb
def swpW(c x y z:Int):Int:=binD .xor .u64 z (binD .and .u64 (binD .xor .u64 18446744073709551615 (binD .sub .u64 (IntKind.u64.wrap c) 1)) (binD .xor .u64 x y))
theorem swpW_1{x y:Int}(hx:inR .u64 x)(hy:inR .u64 y):swpW 1 x y x=y∧swpW 1 x y y=x:=by
 have e:binD .xor .u64 18446744073709551615 (binD .sub .u64 (IntKind.u64.wrap 1) 1)=18446744073709551615:=by decide +kernel
 unfold swpW
 rw[e]
 show bitsD .xor .u64 x (bitsD .and .u64 _ (bitsD .xor .u64 x y))=y∧bitsD .xor .u64 y (bitsD .and .u64 _ (bitsD .xor .u64 x y))=x
 rw[and_all (xor_in hx hy)]
 exact xor_xor hx hy
theorem swpW_0{x y:Int}(hx:inR .u64 x)(hy:inR .u64 y):swpW 0 x y x=x∧swpW 0 x y y=y:=by
 have e:binD .xor .u64 18446744073709551615 (binD .sub .u64 (IntKind.u64.wrap 0) 1)=0:=by decide +kernel
 unfold swpW
 rw[e]
 show bitsD .xor .u64 x (bitsD .and .u64 0 (bitsD .xor .u64 x y))=x∧bitsD .xor .u64 y (bitsD .and .u64 0 (bitsD .xor .u64 x y))=y
 rw[and_no (xor_in hx hy)]
 exact⟨xor_no hx,xor_no hy⟩
theorem raw_swp(a b c d e a' b' c' d' e' z:Int):i_field_Element_Swap.raw C_field_Element_Swap 0 [[a,b,c,d,e],[a',b',c',d',e'],[z]]= [swpW z a a' a,swpW z b b' b,swpW z c c' c,swpW z d d' d,swpW z e e' e]∧i_field_Element_Swap.raw C_field_Element_Swap 1 [[a,b,c,d,e],[a',b',c',d',e'],[z]]= [swpW z a a' a',swpW z b b' b',swpW z c c' c',swpW z d d' d',swpW z e e' e']:=⟨by kernel_rfl,by kernel_rfl⟩
theorem kf_swp{T:Tb}(h:lk 210 T=some (.one s_field_Element_Swap)):KF.Ok T 210 .swp:=fun a b x y c ha hb=>by
 refine⟨pay_one h trivial,?_⟩
 rw[gv_one h,gv_one h]
 obtain⟨a0,a1,a2,a3,a4,rfl,h0,h1,h2,h3,h4⟩:=g5 ha.1
 obtain⟨b0,b1,b2,b3,b4,rfl,k0,k1,k2,k3,k4⟩:=g5 hb.1
 show feR _ (fixL 5 (i_field_Element_Swap.raw C_field_Element_Swap 0 [_,_,[_]]))∧feR _ (fixL 5 (i_field_Element_Swap.raw C_field_Element_Swap 1 [_,_,[_]]))
 rw[(raw_swp _ _ _ _ _ _ _ _ _ _ _).1,(raw_swp _ _ _ _ _ _ _ _ _ _ _).2]
 cases c with
 |true=>
  simp only[cond_true]
  rw[(swpW_1 (lim h0) (lim k0)).1,(swpW_1 (lim h1) (lim k1)).1,(swpW_1 (lim h2) (lim k2)).1,(swpW_1 (lim h3) (lim k3)).1,(swpW_1 (lim h4) (lim k4)).1,(swpW_1 (lim h0) (lim k0)).2,(swpW_1 (lim h1) (lim k1)).2,(swpW_1 (lim h2) (lim k2)).2,(swpW_1 (lim h3) (lim k3)).2,(swpW_1 (lim h4) (lim k4)).2]
  exact⟨hb,ha⟩
 |false=>
  simp only[cond_false]
  rw[(swpW_0 (lim h0) (lim k0)).1,(swpW_0 (lim h1) (lim k1)).1,(swpW_0 (lim h2) (lim k2)).1,(swpW_0 (lim h3) (lim k3)).1,(swpW_0 (lim h4) (lim k4)).1,(swpW_0 (lim h0) (lim k0)).2,(swpW_0 (lim h1) (lim k1)).2,(swpW_0 (lim h2) (lim k2)).2,(swpW_0 (lim h3) (lim k3)).2,(swpW_0 (lim h4) (lim k4)).2]
  exact⟨ha,hb⟩
end Go.Proofs.YtloibefkijfdlaaGreatDoor
