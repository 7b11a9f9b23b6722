/- Repeated squares. Powers; the curve's constants. -/
import Derived.Test.YtloibefkijfdlaaGreatDoorBc
import Derived.Test.YtloibefkijfdlaaGreatDoorCa
import Derived.Test.YtloibefkijfdlaaGreatDoorFe2
namespace Go.Proofs.YtloibefkijfdlaaGreatDoor
open Go Ma
def b1(lo hi:Int):List (Int×Int):= [(lo,hi)]
def bSq:List (List (Int×Int)):= [b1 0 fB,b1 0 fB,b1 0 fB,b1 0 fB,b1 0 fB,b1 0 100000,b1 0 99999]
def bSqE:List (List (Int×Int)):= [b1 0 fB,b1 0 fB,b1 0 fB,b1 0 fB,b1 0 fB,b1 0 100000,b1 0 100000]
def pIn(j:Nat):Poly:=patm (enc j 0 0)
def pIn5:Poly:=feLin [pIn 0,pIn 1,pIn 2,pIn 3,pIn 4]
def pIs(a:AV)(p:Poly):Bool:=pdvd 0 (padd a.p (psmul (-1) p))
theorem pIs_ok{ρ:Env}{x:Int}{a:AV}{p:Poly}(h:a.ok ρ x)(hp:pIs a p=true):x=pev ρ p:=by
 obtain⟨k,hk⟩:=pdvd_dvd ρ hp
 rw[padd_ev,psmul_ev, ← h.1] at hk
 simp only[Int.natCast_zero,Int.zero_mul] at hk
 omega
theorem pIn_ev(ρ:Env){j:Nat}{l:List Int}(h:ρ j=l):pev ρ (pIn j)=l.getD 0 0:=by
 unfold pIn
 rw[patm_ev,αv_enc0 ρ (by omega),h]
def sqT(R:Option LpR):Bool:=match R with
 |some R=>cnLt R true 6 5&&R.b&&(match R.av with
  | [[a],[b],[c],[d],[e],[n],[i]]=> [a,b,c,d,e].all avG&&pdvd P25519 (padd (feLin ([a,b,c,d,e].map (·.p))) (psmul (-1) (pmul [] pIn5 pIn5)))&&pIs i (padd (pIn 6) (pcon 1))&&pIs n (pIn 5)
  |_=>false)
 |none=>false
def sqE(R:Option LpR):Bool:=match R with
 |some R=>cnLt R false 6 5 && !R.b&&(match R.av with
  | [[a],[b],[c],[d],[e],_,_]=>pIs a (pIn 0)&&pIs b (pIn 1)&&pIs c (pIn 2)&&pIs d (pIn 3)&&pIs e (pIn 4)
  |_=>false)
 |none=>false
theorem t_sqT:sqT (ckLp l_field_feSquareN Cb_field_feSquareN Mfe bSq [true])=true:=by kernel_rfl
theorem t_sqE:sqE (ckLp l_field_feSquareN Cb_field_feSquareN Mfe bSqE [false])=true:=by kernel_rfl
theorem raw_sqn(v:List Int)(a b c d e n:Int):i_field_feSquareN.raw C_field_feSquareN 0 [v,[a,b,c,d,e],[n]]=(List.range 5).map fun k=>d1 ((l_field_feSquareN.val Cb_field_feSquareN [[a],[b],[c],[d],[e],[n],[0]]).getD k []):=by kernel_rfl
theorem ob_sqn:((lin (i_field_feSquareN.tree C_field_feSquareN)).map fun p=>p.2.1)=some [.pre (1000000+211) [.xs [.v 1 0],.xs [.v 1 1],.xs [.v 1 2],.xs [.v 1 3],.xs [.v 1 4],.xs [.v 2 0],.xs [.lit 0]]]:=by kernel_rfl
theorem lo_sqn:linOk 3 (i_field_feSquareN.tree C_field_feSquareN)=true:=by kernel_rfl
def sqI(a b c d e n i:Int):List (List Int):= [[a],[b],[c],[d],[e],[n],[i]]
theorem one_of{ρ:Env}{l:List Int}{a:AV}(h:AVs ρ l [a]):∃ x,l= [x]∧a.ok ρ x:=by
 obtain⟨h1,h2⟩:=h
 match l,h1 with
 | [x],_=>exact⟨x,rfl,h2 0 x a rfl rfl⟩
theorem seven{α:Type}{l:List α}(h:l.length=7):∃ a b c d e f g,l= [a,b,c,d,e,f,g]:=by
 match l,h with
 | [a,b,c,d,e,f,g],_=>exact⟨a,b,c,d,e,f,g,rfl⟩
theorem bnd_1{bnds:List (List (Int×Int))}{ins:List (List Int)}{x lo hi:Int}(h:lo≤x∧x≤hi)(hb:BndOk bnds ins):BndOk (b1 lo hi::bnds) ([x]::ins):=
 bnd_one _ _ ⟨by show 1≤4096; decide,fun k p hk=>by
  cases k with
  |zero=>
   simp only[b1,List.getElem?_cons_zero,osE] at hk
   subst hk; exact h
  |succ k=>simp[b1] at hk⟩ hb
theorem sq_round{a b c d e n i:Int}(h:feG [a,b,c,d,e])(hi:0≤i)(hlt:i<n)(hn:n≤100000):
  evOb Cb_field_feSquareN.T (l_field_feSquareN.tree Cb_field_feSquareN) (insE (sqI a b c d e n i))∧∃ a' b' c' d' e',l_field_feSquareN.step Cb_field_feSquareN (sqI a b c d e n i)=some (true,sqI a' b' c' d' e' n (i+1))∧feR (fpI (feV [a,b,c,d,e])*fpI (feV [a,b,c,d,e])) [a',b',c',d',e']:=by
 have ht:=t_sqT
 unfold sqT at ht
 split at ht
 ·rename_i R hR
  simp only[baE] at ht
  obtain⟨⟨h1,h2⟩,h3⟩:=ht
  have h0:=h.2 0 (by omega)
  have h1':=h.2 1 (by omega)
  have h2':=h.2 2 (by omega)
  have h3':=h.2 3 (by omega)
  have h4':=h.2 4 (by omega)
  obtain⟨ρ,g1,g2,g3⟩:=ckLp_ok (Mfe_ok rfl rfl) hR (ins:=sqI a b c d e n i) (bnd_1 h0 (bnd_1 h1' (bnd_1 h2' (bnd_1 h3' (bnd_1 h4' (bnd_1 (by omega) (bnd_1 (by omega) (bnd_nil _))))))))
  have e0:ρ 0= [a]:=g1 0 (by decide)
  have e1:ρ 1= [b]:=g1 1 (by decide)
  have e2:ρ 2= [c]:=g1 2 (by decide)
  have e3:ρ 3= [d]:=g1 3 (by decide)
  have e4:ρ 4= [e]:=g1 4 (by decide)
  have e5:ρ 5= [n]:=g1 5 (by decide)
  have e6:ρ 6= [i]:=g1 6 (by decide)
  obtain⟨k1,r,k2,k3,k4⟩:=g3 (cnLt_ok h1 g2 (by rw[e5,e6]; exact (decide_eq_true hlt).symm))
  refine⟨k1,?_⟩
  split at h3
  ·rename_i A B C D E N I hav
   simp only[baE] at h3
   obtain⟨⟨⟨p1,p2⟩,p3⟩,p4⟩:=h3
   rw[hav] at k3 k4
   obtain⟨ra,rb,rc,rd,re,rn,ri,rfl⟩:=seven k3
   obtain⟨a',rfl,qa⟩:=one_of (k4 0 _ rfl)
   obtain⟨b',rfl,qb⟩:=one_of (k4 1 _ rfl)
   obtain⟨c',rfl,qc⟩:=one_of (k4 2 _ rfl)
   obtain⟨d',rfl,qd⟩:=one_of (k4 3 _ rfl)
   obtain⟨e',rfl,qe⟩:=one_of (k4 4 _ rfl)
   obtain⟨n',rfl,qn⟩:=one_of (k4 5 _ rfl)
   obtain⟨i',rfl,qi⟩:=one_of (k4 6 _ rfl)
   have en:=pIs_ok qn p4
   have ei:=pIs_ok qi p3
   rw[pIn_ev ρ e5] at en
   rw[padd_ev,pIn_ev ρ e6,pcon_ev] at ei
   simp only[List.getD_cons_zero] at en ei
   subst en; subst ei
   rw[h2] at k2
   have hA:AVs ρ [a',b',c',d',e'] [A,B,C,D,E]:=⟨rfl,fun j x y hx hy=>by
    match j,hx,hy with
    |0,hx,hy=>cases hx; cases hy; exact qa
    |1,hx,hy=>cases hx; cases hy; exact qb
    |2,hx,hy=>cases hx; cases hy; exact qc
    |3,hx,hy=>cases hx; cases hy; exact qd
    |4,hx,hy=>cases hx; cases hy; exact qe⟩
   refine⟨a',b',c',d',e',k2,avG_all hA rfl p1,?_⟩
   have hd:=pdvd_dvd ρ p2
   rw[padd_ev,psmul_ev,feLin_ev hA rfl] at hd
   have hin:pev ρ pIn5=feV [a,b,c,d,e]:=by
    simp only[pIn5,feLin,padd_ev,psmul_ev,pIn_ev ρ e0,pIn_ev ρ e1,pIn_ev ρ e2,pIn_ev ρ e3,pIn_ev ρ e4]
    unfold feV
    simp only[List.getD_cons_zero,List.getD_cons_succ]
    omega
   rw[pev_mul,hin] at hd
   rw[← fpI_mul]
   refine fpI_eq.2 ?_
   have e:feV [a',b',c',d',e']-feV [a,b,c,d,e]*feV [a,b,c,d,e]=feV [a',b',c',d',e'] + -1*(feV [a,b,c,d,e]*feV [a,b,c,d,e]):=by omega
   rw[e]; exact hd
  ·cases h3
 ·cases ht
theorem sq_end{a b c d e n i:Int}(h:feG [a,b,c,d,e])(hi:0≤i)(hge:n≤i)(hn:0≤n)(hi2:i≤100000):
  evOb Cb_field_feSquareN.T (l_field_feSquareN.tree Cb_field_feSquareN) (insE (sqI a b c d e n i))∧∃ r,l_field_feSquareN.step Cb_field_feSquareN (sqI a b c d e n i)=some (false,r)∧(List.range 5).map (fun k=>d1 (r.getD k []))= [a,b,c,d,e]:=by
 have ht:=t_sqE
 unfold sqE at ht
 split at ht
 ·rename_i R hR
  simp only[baE,Bool.not_eq_true'] at ht
  obtain⟨⟨h1,h2⟩,h3⟩:=ht
  have h0:=h.2 0 (by omega)
  have h1':=h.2 1 (by omega)
  have h2':=h.2 2 (by omega)
  have h3':=h.2 3 (by omega)
  have h4':=h.2 4 (by omega)
  obtain⟨ρ,g1,g2,g3⟩:=ckLp_ok (Mfe_ok rfl rfl) hR (ins:=sqI a b c d e n i) (bnd_1 h0 (bnd_1 h1' (bnd_1 h2' (bnd_1 h3' (bnd_1 h4' (bnd_1 (by omega) (bnd_1 (by omega) (bnd_nil _))))))))
  have e0:ρ 0= [a]:=g1 0 (by decide)
  have e1:ρ 1= [b]:=g1 1 (by decide)
  have e2:ρ 2= [c]:=g1 2 (by decide)
  have e3:ρ 3= [d]:=g1 3 (by decide)
  have e4:ρ 4= [e]:=g1 4 (by decide)
  have e5:ρ 5= [n]:=g1 5 (by decide)
  have e6:ρ 6= [i]:=g1 6 (by decide)
  obtain⟨k1,r,k2,k3,k4⟩:=g3 (cnLt_ok h1 g2 (by rw[e5,e6]; exact (decide_eq_false (Int.not_lt.2 hge)).symm))
  refine⟨k1,?_⟩
  split at h3
  ·rename_i A B C D E N I hav
   simp only[baE] at h3
   obtain⟨⟨⟨⟨p0,p1⟩,p2⟩,p3⟩,p4⟩:=h3
   rw[hav] at k3 k4
   obtain⟨ra,rb,rc,rd,re,rn,ri,rfl⟩:=seven k3
   obtain⟨a',rfl,qa⟩:=one_of (k4 0 _ rfl)
   obtain⟨b',rfl,qb⟩:=one_of (k4 1 _ rfl)
   obtain⟨c',rfl,qc⟩:=one_of (k4 2 _ rfl)
   obtain⟨d',rfl,qd⟩:=one_of (k4 3 _ rfl)
   obtain⟨e',rfl,qe⟩:=one_of (k4 4 _ rfl)
   have x0:=pIs_ok qa p0
   have x1:=pIs_ok qb p1
   have x2:=pIs_ok qc p2
   have x3:=pIs_ok qd p3
   have x4:=pIs_ok qe p4
   rw[pIn_ev ρ e0] at x0
   rw[pIn_ev ρ e1] at x1
   rw[pIn_ev ρ e2] at x2
   rw[pIn_ev ρ e3] at x3
   rw[pIn_ev ρ e4] at x4
   simp only[List.getD_cons_zero] at x0 x1 x2 x3 x4
   subst x0; subst x1; subst x2; subst x3; subst x4
   rw[h2] at k2
   exact⟨_,k2,rfl⟩
  ·cases h3
 ·cases ht
theorem fpw_two(x:Fp):fpw x 2=x*x:=by rw[fpw_succ,fpw_one]
theorem sq_loop:∀ (m:Nat) {a b c d e n i:Int} {x:Fp},feR x [a,b,c,d,e]→0≤i→i+m=n→n≤100000→
  lpOb (l_field_feSquareN.step Cb_field_feSquareN) (fun ins=>evOb Cb_field_feSquareN.T (l_field_feSquareN.tree Cb_field_feSquareN) (insE ins)) (m+1) (sqI a b c d e n i)∧
   feR (fpw x (2^m)) ((List.range 5).map fun k=>d1 ((lpRun (l_field_feSquareN.step Cb_field_feSquareN) (m+1) (sqI a b c d e n i)).getD k []))
 |0,a,b,c,d,e,n,i,x,h,hi,hm,hn=>by
  obtain⟨h1,r,h2,h3⟩:=sq_end h.1 hi (n:=n) (by omega) (by omega) (by omega)
  unfold lpOb lpRun
  rw[h2]
  refine⟨⟨h1,trivial⟩,?_⟩
  simp only
  rw[h3,show 2^0=1 from rfl,fpw_one]
  exact h
 |m+1,a,b,c,d,e,n,i,x,h,hi,hm,hn=>by
  obtain⟨h1,a',b',c',d',e',h2,h3⟩:=sq_round h.1 hi (n:=n) (by omega) hn
  have ih:=sq_loop m (n:=n) (i:=i+1) h3 (by omega) (by omega) hn
  unfold lpOb lpRun
  rw[h2]
  refine⟨⟨h1,ih.1⟩,?_⟩
  simp only
  have e2:fpw x (2^(m+1))=fpw (x*x) (2^m):=by rw[Nat.pow_succ,Nat.mul_comm, ← fpw_mul,fpw_two]
  rw[e2, ← h.2]
  exact ih.2
theorem lk_sqn:lk (1000000+211) C_field_feSquareN.T=some (.one (l_field_feSquareN.sum Cb_field_feSquareN (l_field_feSquareN.pre Cb_field_feSquareN))):=by kernel_rfl
theorem kf_sqn{T:Tb}(h:lk 211 T=some (.one s_field_feSquareN)):KF.Ok T 211 .sqn:=fun v a x n hn ha=>by
 obtain⟨a0,a1,a2,a3,a4,rfl,_⟩:=g5 ha.1
 have hl:=sq_loop n (n:=(n:Int)) (i:=0) ha (by omega) (by omega) (by omega)
 have hf:l_field_feSquareN.fuel (sqI a0 a1 a2 a3 a4 n 0)=n+1:=by
  show ((n:Int)-0).toNat+1=n+1
  omega
 refine⟨pay_one h ?_,?_⟩
 ·show evOb C_field_feSquareN.T (i_field_feSquareN.tree C_field_feSquareN) (insE [v,[a0,a1,a2,a3,a4],[(n:Int)]])
  have hob:=ob_sqn
  match hl2:lin (i_field_feSquareN.tree C_field_feSquareN),hob with
  | some (ds,ob,e,st),hob=>
   simp only[Option.map_some,osE] at hob
   subst hob
   obtain⟨k1,k2,k3,k4,k5⟩:=lin_ok (T:=C_field_feSquareN.T) (ρ:=insE [v,[a0,a1,a2,a3,a4],[(n:Int)]]) lo_sqn hl2
   refine k5 fun q hq=> ?_
   rw[List.mem_singleton] at hq
   subst hq
   have e1:upds C_field_feSquareN.T (insE [v,[a0,a1,a2,a3,a4],[(n:Int)]]) ds 1= [a0,a1,a2,a3,a4]:=k1 1 (by omega)
   have e2:upds C_field_feSquareN.T (insE [v,[a0,a1,a2,a3,a4],[(n:Int)]]) ds 2= [(n:Int)]:=k1 2 (by omega)
   have ea: [Arg.xs [.v 1 0],.xs [.v 1 1],.xs [.v 1 2],.xs [.v 1 3],.xs [.v 1 4],.xs [.v 2 0],.xs [.lit 0]].map (·.den (upds C_field_feSquareN.T (insE [v,[a0,a1,a2,a3,a4],[(n:Int)]]) ds))=sqI a0 a1 a2 a3 a4 n 0:=by
    simp only[List.map_cons,List.map_nil,Arg.den,X.den,e1,e2]
    rfl
   exact obl_pre lk_sqn ea (LpI.sum_pre (LpI.pre_of hf hl.1))
 ·rw[gv_one h]
  show feR _ (fixL 5 (i_field_feSquareN.raw C_field_feSquareN 0 [v,_,_]))
  rw[raw_sqn]
  have h2:=hl.2
  rw[← LpI.val_of hf] at h2
  have e:sqI a0 a1 a2 a3 a4 n 0= [[a0],[a1],[a2],[a3],[a4],[(n:Int)],[0]]:=rfl
  rw[e] at h2
  rw[fixL_id h2.1.1]
  exact h2
end Go.Proofs.YtloibefkijfdlaaGreatDoor

namespace Go.Proofs.YtloibefkijfdlaaGreatDoor
open Go Ma
def FX.exp:FX→Option Nat
 | .v 0=>some 1
 | .mul x y=>(match x.exp,y.exp with
  |some m,some n=>some (m+n)
  |_,_=>none)
 | .pw x n=>(match x.exp with
  |some m=>some (m*n)
  |none=>none)
 |_=>none
theorem FX.exp_ok{ρ:FV}:∀ {e:FX} {m:Nat},e.exp=some m→e.isB=false∧e.ev ρ=fpw (ρ.v 0) m
 | .v 0,m,h=>by simp only[FX.exp,osE] at h; subst h; exact⟨rfl,(fpw_one _).symm⟩
 | .v (n+1),m,h=>by cases h
 | .mul x y,m,h=>by
  unfold FX.exp at h
  split at h
  ·rename_i a b h1 h2
   simp only[osE] at h; subst h
   refine⟨rfl,?_⟩
   show x.ev ρ*y.ev ρ=_
   rw[(FX.exp_ok h1).2,(FX.exp_ok h2).2,fpw_add]
  ·cases h
 | .pw x n,m,h=>by
  unfold FX.exp at h
  split at h
  ·rename_i a h1
   simp only[osE] at h; subst h
   refine⟨rfl,?_⟩
   show fpw (x.ev ρ) n=_
   rw[(FX.exp_ok h1).2,fpw_mul]
  ·cases h
 | .k _,_,h=>by cases h
 | .add _ _,_,h=>by cases h
 | .sub _ _,_,h=>by cases h
 | .b _,_,h=>by cases h
 | .ite _ _ _,_,h=>by cases h
 | .t _,_,h=>by cases h
 | .eq _ _,_,h=>by cases h
 | .or _ _,_,h=>by cases h
 | .odd _,_,h=>by cases h
 | .not _,_,h=>by cases h
def pwT(n:Nat)(r:Option (List (List (Bk FX)))):Bool:=match r with
 |some [[.a 5 e]]=>(match e.exp with
  |some m=>Nat.beq m n
  |none=>false)
 |_=>false
theorem pwFn{M:List (Nat×KF)}{i:FnI}{C:Cx}{n:Nat}(hM:MF C.T M)(h:pwT n (bkFn (tfF M) noO i C [none,some (fb [.v 0])])=true){v a:List Int}{x:Fp}(ha:feR x a):
  evOb C.T (i.tree C) (insE [v,a])∧feR (fpw x n) (i.raw C 0 [v,a]):=by
 unfold pwT at h
 split at h
 ·rename_i e hr
  split at h
  ·rename_i m hm
   have:=nbE h
   subst this
   have hx:=FX.exp_ok (ρ:=⟨fun _=>x,fun _=>false⟩) hm
   obtain⟨h1,u,w,g1,g2,g3⟩:=ptFn (es:= [e]) hM hr (by simp only[noB,List.all_cons,hx.1]; rfl) ⟨fun _=>x,fun _=>false⟩ (ins:= [v,a]) (.no (.yes (FsR.bl rfl ⟨a,[],by simp,ha,rfl⟩) .nil))
   have hw:w= []:=g3
   rw[hw,List.append_nil] at g1
   subst g1
   have g2':feR (e.ev ⟨fun _=>x,fun _=>false⟩) (i.raw C 0 [v,a]):=g2
   rw[hx.2] at g2'
   exact⟨h1,g2'⟩
  ·cases h
 ·cases h
theorem t_inv:pwT eI (bkFn (tfF [(112,.sq),(115,.mul),(211,.sqn)]) noO i_field_Element_Invert C_field_Element_Invert [none,some (fb [.v 0])])=true:=by kernel_rfl
theorem kf_inv{T:Tb}(h:lk 180 T=some (.one s_field_Element_Invert)):KF.Ok T 180 (.pw eI):=fun v a x ha=>by
 have hp:=pwFn (.cons (kf_sq rfl) (.cons (kf_mul rfl) (.cons (kf_sqn rfl) .nil))) t_inv (v:=v) ha
 refine⟨pay_one h hp.1,?_⟩
 rw[gv_one h]
 show feR _ (fixL 5 (i_field_Element_Invert.raw C_field_Element_Invert 0 [v,a]))
 rw[fixL_id hp.2.1.1]
 exact hp.2
theorem t_pow:pwT eP (bkFn (tfF [(112,.sq),(115,.mul),(211,.sqn)]) noO i_field_Element_Pow22523 C_field_Element_Pow22523 [none,some (fb [.v 0])])=true:=by kernel_rfl
theorem kf_pow{T:Tb}(h:lk 160 T=some (.one s_field_Element_Pow22523)):KF.Ok T 160 (.pw eP):=fun v a x ha=>by
 have hp:=pwFn (.cons (kf_sq rfl) (.cons (kf_mul rfl) (.cons (kf_sqn rfl) .nil))) t_pow (v:=v) ha
 refine⟨pay_one h hp.1,?_⟩
 rw[gv_one h]
 show feR _ (fixL 5 (i_field_Element_Pow22523.raw C_field_Element_Pow22523 0 [v,a]))
 rw[fixL_id hp.2.1.1]
 exact hp.2
def dL:List Int:= [929955233495203,466365720129213,1662059464998953,2033849074728123,1442794654840575]
def d2L:List Int:= [1859910466990425,932731440258426,1072319116312658,1815898335770999,633789495995903]
def d2Z:Int:=feV d2L
theorem raw_d(v:List (List Int)):i_edwards25519_dOf.raw C_edwards25519_dOf 0 v=dL:=by kernel_rfl
theorem raw_d2(v:List (List Int)):i_edwards25519_d2.raw C_edwards25519_d2 0 v=d2L:=by kernel_rfl
theorem raw_feOne(v:List (List Int)):i_edwards25519_feOne.raw C_edwards25519_feOne 0 v= [1,0,0,0,0]:=by kernel_rfl
theorem kf_d{T:Tb}(h:lk 116 T=some (.one s_edwards25519_dOf)):KF.Ok T 116 (.k (feV dL)):=fun v=>by
 refine⟨pay_one h trivial,?_⟩
 rw[gv_one h]
 show feR _ (fixL 5 (i_edwards25519_dOf.raw C_edwards25519_dOf 0 v))
 rw[raw_d]
 exact⟨litF_ok rfl,rfl⟩
theorem kf_d2{T:Tb}(h:lk 209 T=some (.one s_edwards25519_d2)):KF.Ok T 209 (.k d2Z):=fun v=>by
 refine⟨pay_one h trivial,?_⟩
 rw[gv_one h]
 show feR _ (fixL 5 (i_edwards25519_d2.raw C_edwards25519_d2 0 v))
 rw[raw_d2]
 exact⟨litF_ok rfl,rfl⟩
theorem kf_feOne{T:Tb}(h:lk 114 T=some (.one s_edwards25519_feOne)):KF.Ok T 114 (.k 1):=fun v=>by
 refine⟨pay_one h trivial,?_⟩
 rw[gv_one h]
 show feR _ (fixL 5 (i_edwards25519_feOne.raw C_edwards25519_feOne 0 v))
 rw[raw_feOne]
 exact⟨litF_ok rfl,rfl⟩
theorem d_eq:fpI (feV dL)=dE:=by decide +kernel
theorem d2_eq:fpI d2Z=dE+dE:=by decide +kernel
end Go.Proofs.YtloibefkijfdlaaGreatDoor
