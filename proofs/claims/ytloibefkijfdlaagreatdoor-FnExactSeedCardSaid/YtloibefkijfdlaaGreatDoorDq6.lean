/- Contracts of the reference: multiples of a point, the base point. -/
import Derived.Test.YtloibefkijfdlaaGreatDoorNd
namespace Go.Proofs.YtloibefkijfdlaaGreatDoor
open Go Ma
noncomputable def l_spec_multiple:LpI:=⟨6000,loopIn 0 (bodyOf Tryz.f36),Tryz.f36.ntmps,0,[],⟨[.int .i64,.mem U24 1 true,.mem U8 2 false,.mem U24 3 false,.mem U8 4 false],true,fun _=>True,[(1,U24,z1)],[],[]⟩,[7,6,2,3,5],[12,13,14,15,16,17,18,19,20,21,22,23,24,25,26],fun _=>257⟩
noncomputable def Cb_spec_multiple:Cx:=mkC [(56,.one s_spec_added),(67,.one s_spec_bit)] []
noncomputable def i_spec_multiple:FnI:=⟨6000,bodyOf Tryz.f36,Tryz.f36.ntmps,Tryz.f36.results.toList,[],⟨[.agg U8,.agg U24],true,fun _=>True,[],[],[.agg U24 z1]⟩⟩
noncomputable def C_spec_multiple:Cx:=mkCL ((1000000+36,.one (l_spec_multiple.sum Cb_spec_multiple (l_spec_multiple.pre Cb_spec_multiple))) :: [(68,.one s_spec_small),(57,.one s_spec_curve)]) [] [(l_spec_multiple.id,⟨1000000+36,l_spec_multiple.ps,l_spec_multiple.ss,l_spec_multiple.cl,l_spec_multiple.nt⟩)]
noncomputable def s_spec_multiple:FSum:= { i_spec_multiple.sumH C_spec_multiple (fun _=>True) with hp:=false }
theorem chkl_spec_multiple:l_spec_multiple.chk Cb_spec_multiple=true:=by kernel_rfl
theorem chk_spec_multiple:i_spec_multiple.chk C_spec_multiple=true:=by kernel_rfl
theorem st_multiple{T:Tb}{i:Int}{o n p d:List Int}:stX T l_spec_multiple (l_spec_multiple.tree Cb_spec_multiple) (insE [[i],o,n,p,d])=if b01 (decide (i ≥ 0))=0 then some (false,[[i],o,n,p,d]) else
  if (gv T 67 0 [n,[i]]).getD 0 0=0 then some (true,[[binD .sub .i64 i 1],gv T 56 0 [d,o,o],n,p,d]) else some (true,[[binD .sub .i64 i 1],gv T 56 0 [d,gv T 56 0 [d,o,o],p],n,p,d]):=by kernel_rfl
theorem ob_multiplel{i:Int}{o n p d:List Int}:evObX Cb_spec_multiple.T (l_spec_multiple.tree Cb_spec_multiple) (insE [[i],o,n,p,d])=if b01 (decide (i ≥ 0))=0 then True else
  (preB n i∧if (gv Cb_spec_multiple.T 67 0 [n,[i]]).getD 0 0=0 then True else True):=by kernel_rfl
def mu0(T:Tb):List Int:= [0,0,0,0,0,0,0,0]++(sb (sSm T 1) 0 8++sb (sSm T 1) 0 8)
def cu0(T:Tb):List Int:=gv T 57 0 []
theorem ob_multiple{n p:List Int}:evObX C_spec_multiple.T (i_spec_multiple.tree C_spec_multiple) (insE [n,p])=(l_spec_multiple.pre Cb_spec_multiple [[255],mu0 C_spec_multiple.T,n,p,cu0 C_spec_multiple.T]∧True):=by kernel_rfl
theorem raw_multiple{n p:List Int}:i_spec_multiple.raw C_spec_multiple 0 [n,p]=fixL 24 ((l_spec_multiple.val Cb_spec_multiple [[255],mu0 C_spec_multiple.T,n,p,cu0 C_spec_multiple.T]).getD 1 []):=by kernel_rfl
section
variable{o a e d:List Int}{n:Nat}
theorem sm_end:l_spec_multiple.step Cb_spec_multiple [[ctr 0],o,e,a,d]=some (false,[[ctr 0],o,e,a,d]):=by rw[step_stX,st_multiple,if_pos ctr_neg]
theorem sm_0(hn:n<1000)(hb:(gv Cb_spec_multiple.T 67 0 [e,[ctr (n+1)]]).getD 0 0=0):l_spec_multiple.step Cb_spec_multiple [[ctr (n+1)],o,e,a,d]=some (true,[[ctr n],gv Cb_spec_multiple.T 56 0 [d,o,o],e,a,d]):=by rw[step_stX,st_multiple,if_neg (ctr_pos n),if_pos hb,ctr_dec hn]
theorem sm_1(hn:n<1000)(hb:¬ (gv Cb_spec_multiple.T 67 0 [e,[ctr (n+1)]]).getD 0 0=0):l_spec_multiple.step Cb_spec_multiple [[ctr (n+1)],o,e,a,d]=some (true,[[ctr n],gv Cb_spec_multiple.T 56 0 [d,gv Cb_spec_multiple.T 56 0 [d,o,o],a],e,a,d]):=by rw[step_stX,st_multiple,if_neg (ctr_pos n),if_neg hb,ctr_dec hn]
theorem som_end:evOb Cb_spec_multiple.T (l_spec_multiple.tree Cb_spec_multiple) (insE [[ctr 0],o,e,a,d]):=evObX_ok (by rw[ob_multiplel,if_pos ctr_neg]; trivial)
theorem som_go(hn:n<256):evOb Cb_spec_multiple.T (l_spec_multiple.tree Cb_spec_multiple) (insE [[ctr (n+1)],o,e,a,d]):=evObX_ok (ob_gen ob_multiplel (ctr_pos n) (pre_ctr hn))
end
theorem mul_ob:∀ (n:Nat) {f:Nat} {o e a d:List Int},n≤256→n<f→lpOb (l_spec_multiple.step Cb_spec_multiple) (fun ins=>evOb Cb_spec_multiple.T (l_spec_multiple.tree Cb_spec_multiple) (insE ins)) f [[ctr n],o,e,a,d]
 |_,0,_,_,_,_,_,h=>by omega
 |0,f+1,o,e,a,d,_,_=>lpOb_end som_end sm_end
 |n+1,f+1,o,e,a,d,hn,hf=>by
  by_cases hb:(gv Cb_spec_multiple.T 67 0 [e,[ctr (n+1)]]).getD 0 0=0
  ·exact lpOb_go (som_go (by omega)) (sm_0 (by omega) hb) (mul_ob n (by omega) (by omega))
  ·exact lpOb_go (som_go (by omega)) (sm_1 (by omega) hb) (mul_ob n (by omega) (by omega))
theorem pre_mul_eq{ins:List (List Int)}:l_spec_multiple.pre Cb_spec_multiple ins=lpOb (l_spec_multiple.step Cb_spec_multiple) (fun ins=>evOb Cb_spec_multiple.T (l_spec_multiple.tree Cb_spec_multiple) (insE ins)) 257 ins:=rfl
theorem pre_multiple{o e a d:List Int}:l_spec_multiple.pre Cb_spec_multiple [[255],o,e,a,d]:=by
 have h:=mul_ob 256 (f:=257) (o:=o) (e:=e) (a:=a) (d:=d) (Nat.le_refl _) (by omega)
 rw[ctr_256] at h
 rw[pre_mul_eq]
 exact h
theorem ins2m{ks js:List IntKind}{ins:List (List Int)}(h:InsOk [.agg ks,.agg js] ins):∃ a b,ins= [a,b]:=by
 match ins,h with
 | [a,b],_=>exact⟨a,b,rfl⟩
theorem multiple_ob{ins:List (List Int)}(h:InsOk i_spec_multiple.s0.params ins):evOb C_spec_multiple.T (i_spec_multiple.tree C_spec_multiple) (insE ins):=by
 obtain⟨a,b,rfl⟩:=ins2m h
 exact evObX_ok (and_gen ob_multiple pre_multiple)
theorem lk_ma:lk 56 Cb_spec_multiple.T=some (.one s_spec_added):=by kernel_rfl
theorem lk_mb:lk 67 Cb_spec_multiple.T=some (.one s_spec_bit):=by kernel_rfl
theorem pr_added:s_spec_added.pr 0= .l fun a=>fixL 24 (i_spec_added.raw C_spec_added 0 a):=rfl
theorem added_gv{T:Tb}(h:lk 56 T=some (.one s_spec_added)){d p q:List Int}{P Q:Pt}(hd:NF d dE)(hp:Pj p P)(hq:Pj q Q):Pj (gv T 56 0 [d,p,q]) (P.add Q):=by
 have hn:=added_pr hd hp hq
 rw[gv_one h,pr_added]
 show Pj (fixL 24 _) _
 rw[fixL_id hn.len]
 exact hn
theorem bit_atm{E n:Nat}{e:List Int}(he:N8 e (E:Int))(hn:n<256):(gv Cb_spec_multiple.T 67 0 [e,[ctr (n+1)]]).getD 0 0=0↔¬ E/2^n%2=1:=by
 have h:gv Cb_spec_multiple.T 67 0 [e,[ctr (n+1)]]= [b01 (decide (E/2^n%2=1))]:=gv_bit lk_mb he hn
 rw[h,List.getD_cons_zero]
 exact b01_0
def muB(E:Nat)(P:Pt):Nat→Pt→Pt
 |0,X=>X
 |n+1,X=>muB E P n (if E/2^n%2=1 then (X.add X).add P else X.add X)
theorem mul_run:∀ (n:Nat) {f E:Nat} {o a e d:List Int} {X P:Pt},n≤256→n<f→Pj o X→Pj a P→N8 e (E:Int)→NF d dE→Pj ((lpRun (l_spec_multiple.step Cb_spec_multiple) f [[ctr n],o,e,a,d]).getD 1 []) (muB E P n X)
 |_,0,_,_,_,_,_,_,_,_,h,_,_,_,_=>by omega
 |0,f+1,E,o,a,e,d,X,P,_,_,ho,_,_,_=>by
  rw[lpRun_end sm_end]
  exact ho
 | n+1,f+1,E,o,a,e,d,X,P,hn,hf,ho,ha,he,hd=>by
  have h2:=added_gv lk_ma hd ho ho
  unfold muB
  by_cases hB:E/2^n%2=1
  ·rw[lpRun_go (sm_1 (by omega) (fun h=>(bit_atm he (by omega)).1 h hB)),if_pos hB]
   exact mul_run n (by omega) (by omega) (added_gv lk_ma hd h2 ha) ha he hd
  ·rw[lpRun_go (sm_0 (by omega) ((bit_atm he (by omega)).2 hB)),if_neg hB]
   exact mul_run n (by omega) (by omega) h2 ha he hd
theorem nm_mul(P:Pt)(a:Nat):∀ n,P.nm (a*n)=(P.nm a).nm n
 |0=>rfl
 |n+1=>by rw[Nat.mul_succ,Pt.nm_add,nm_mul P a n]; rfl
theorem muB_eq(E:Nat)(P:Pt):∀ (n:Nat) (X:Pt),muB E P n X=(X.nm (2^n)).add (P.nm (E%2^n))
 |0,X=>by
  rw[Nat.pow_zero,Nat.mod_one]
  show X=(Pt.zero.add X).add Pt.zero
  rw[Pt.add_zero,Pt.zero_add]
 | n+1,X=>by
  have e1:(X.add X).nm (2^n)=X.nm (2^(n+1)):=by
   have:X.add X=X.nm 2:=by
    show _=(Pt.zero.add X).add X
    rw[Pt.zero_add]
   rw[this, ← nm_mul,Nat.pow_succ,Nat.mul_comm]
  have e2:E%2^(n+1)=2^n*(E/2^n%2)+E%2^n:=by
   rw[Nat.pow_succ,Nat.mod_mul,Nat.add_comm]
  unfold muB
  rw[muB_eq E P n,e2]
  split
  ·rename_i hb
   rw[hb,Nat.mul_one,Pt.nm_add,pt_zm_dist_nat,e1,Pt.add_assoc]
  ·rename_i hb
   have:E/2^n%2=0:=by omega
   rw[this,Nat.mul_zero,Nat.zero_add,e1]
theorem zero_nm:∀ n,Pt.zero.nm n=Pt.zero
 |0=>rfl
 |n+1=>by show (Pt.zero.nm n).add Pt.zero=_; rw[Pt.add_zero,zero_nm n]
theorem muB_zero{E n:Nat}(P:Pt)(h:E<2^n):muB E P n Pt.zero=P.nm E:=by
 rw[muB_eq,zero_nm,Pt.zero_add,Nat.mod_eq_of_lt h]
theorem val_multiple{ins:List (List Int)}:l_spec_multiple.val Cb_spec_multiple ins=lpRun (l_spec_multiple.step Cb_spec_multiple) 257 ins:=rfl
theorem lk_ms:lk 68 C_spec_multiple.T=some (.one s_spec_small):=by kernel_rfl
theorem lk_mc:lk 57 C_spec_multiple.T=some (.one s_spec_curve):=by kernel_rfl
theorem mu0_pj:Pj (mu0 C_spec_multiple.T) Pt.zero:=by
 have h1:NF (sSm C_spec_multiple.T 1) (1:Fp):=by
  have:=sSm_nf lk_ms (n:=1) (by decide)
  rwa [fpI_one] at this
 exact⟨_,_,_,0,1,1,rfl,zero_nf,h1.sb,h1.sb,f_zero2⟩
theorem cu0_nf:NF (cu0 C_spec_multiple.T) dE:=curve_gv lk_mc
theorem multiple_pj{n p:List Int}{P:Pt}{E:Nat}(hn:N8 n (E:Int))(hp:Pj p P):Pj (i_spec_multiple.raw C_spec_multiple 0 [n,p]) (P.nm E):=by
 have h:=mul_run 256 (f:=257) (Nat.le_refl _) (by omega) mu0_pj hp hn cu0_nf
 rw[muB_zero P (n8_lt hn pw8_2),ctr_256] at h
 rw[raw_multiple,val_multiple,fixL_id h.len]
 exact h
noncomputable def i_spec_generator:FnI:=⟨6000,bodyOf Tryz.f40,Tryz.f40.ntmps,Tryz.f40.results.toList,[],⟨[],false,fun _=>True,[],[],[.agg U24 z1]⟩⟩
noncomputable def C_spec_generator:Cx:=mkC [(68,.one s_spec_small),(65,.one s_spec_inverse),(66,.one s_spec_times),(45,.one s_spec_octets),(52,.one s_spec_decoded)] []
noncomputable def s_spec_generator:FSum:=i_spec_generator.sum C_spec_generator
theorem chk_spec_generator:(i_spec_generator.chk C_spec_generator&&noOb (i_spec_generator.tree C_spec_generator))=true:=by kernel_rfl
def geB(T:Tb):List Int:=gv T 45 0 [sTm T (sSm T 4) (sInv T (sSm T 5))]
theorem raw_generator{T:Tb}:i_spec_generator.valT T C_spec_generator 0 []=sb (gv T 52 0 [geB T]) 0 24:=by kernel_rfl
theorem pr_decoded0:s_spec_decoded.pr 0= .l fun a=>fixL 24 (i_spec_decoded.raw C_spec_decoded 0 a):=rfl
theorem y45:fpI 4*(fpI 5)⁻¹ = yG:=by
 have h1:fpI 5≠0:=by decide +kernel
 refine cancel h1 ?_
 have h2:=fp_mic h1
 have h3:yG*fpI 5=fpI 4:=by decide +kernel
 rw[h3]
 generalize (fpI 5)⁻¹ = u at *
 grind
theorem elB_lo{l:List Int}(hl:l.length=32)(h:by8 l)(h31:l.getD 31 0<128):elB l=l:=by
 rw[elB_eq hl h]
 match l,hl with
 | [b0,b1,b2,b3,b4,b5,b6,b7,b8,b9,b10,b11,b12,b13,b14,b15,b16,b17,b18,b19,b20,b21,b22,b23,b24,b25,b26,b27,b28,b29,b30,b31],_=>
  have:=h b31 (by simp)
  have e:b31%128=b31:=Int.emod_eq_of_lt this.1 h31
  show [b0,b1,b2,b3,b4,b5,b6,b7,b8,b9,b10,b11,b12,b13,b14,b15,b16,b17,b18,b19,b20,b21,b22,b23,b24,b25,b26,b27,b28,b29,b30,b31%128]=_
  rw[e]
theorem pt_yG{y:Fp}(h:∃ x,OnC dE x y)(e:y=yG):(⟨xY y,y,xY_on h⟩:Pt)=ptB:=by
 subst e
 rfl
theorem generator_pj:Pj (i_spec_generator.raw C_spec_generator 0 []) ptB:=by
 rw[raw_valT,raw_generator]
 have T1:lk 68 C_spec_generator.T=some (.one s_spec_small):=rfl
 have T2:lk 65 C_spec_generator.T=some (.one s_spec_inverse):=rfl
 have T3:lk 66 C_spec_generator.T=some (.one s_spec_times):=rfl
 have T4:lk 45 C_spec_generator.T=some (.one s_spec_octets):=rfl
 have T5:lk 52 C_spec_generator.T=some (.one s_spec_decoded):=rfl
 generalize C_spec_generator.T=T at *
 have hY:=sTm_nf T3 (sSm_nf T1 (n:=4) (by decide)) (sInv_nf T2 (sSm_nf T1 (n:=5) (by decide)))
 rw[y45] at hY
 have hB:B32 (geB T) (yG.val:Int):=oct_gv T4 hY
 have h31:(geB T).getD 31 0<128:=by
  rw[hB.octV]
  exact (hi_lt yG).1
 have hy:yB (geB T)=yG:=by
  unfold yB
  rw[elB_lo hB.len hB.by8 h31,hB.val,fpI_v]
 have hc:∃ x,OnC dE x (yB (geB T)):=by rw[hy]; exact yG_on
 have hd:=(decoded_ok hB.len hB.by8).1.pr hc
 have hp:ptD (geB T) hc=ptB:=by
  unfold ptD
  rw[if_neg (by omega)]
  exact pt_yG hc hy
 rw[hp] at hd
 have he:gv T 52 0 [geB T]=i_spec_decoded.raw C_spec_decoded 0 [geB T]:=by
  rw[gv_one T5,pr_decoded0]
  exact fixL_id hd.len
 rw[he,sb_id hd.len]
 exact hd
section
variable{GB:Nat}{GC:Nat→Nat→Option Value}{ad:Nat→Nat×Nat}(hG:GOk GB GC ad)
include hG
theorem ok_spec_multiple:FEOk Tryz.prog GB GC 36 (.one s_spec_multiple):=(FnI.finL hG (i:=i_spec_multiple) (l:=l_spec_multiple) (T':= [(56,.one s_spec_added),(67,.one s_spec_bit)]) (L:= []) (L':= []) (pre:=fun _=>True) (pl:=l_spec_multiple.pre Cb_spec_multiple) (lid:=1000000+36) (Cb:=Cb_spec_multiple) (C1:=C_spec_multiple) (by decide) rfl rfl
 (.cons (k:=68) rfl (ok_spec_small hG) Tryz.call68 (FnI.len _ _) (.cons (k:=57) rfl (ok_spec_curve hG) Tryz.call57 (FnI.len _ _) .nil)) .nil .nil Tryz.func36 rfl rfl rfl (.inl rfl) (.inl rfl) (fun _ _ h=>h)
 (.cons (k:=56) rfl (ok_spec_added hG) Tryz.call56 (FnI.len _ _) (.cons (k:=67) rfl (ok_spec_bit hG) Tryz.call67 (FnI.lenP _ _) .nil)) chkl_spec_multiple (by kernel_rfl) (by kernel_rfl) chk_spec_multiple fun _ h _=>multiple_ob h).noPre fun _ _=>trivial
theorem ok_spec_generator:FEOk Tryz.prog GB GC 40 (.one s_spec_generator):=FnI.fin hG (.cons (k:=68) rfl (ok_spec_small hG) Tryz.call68 (FnI.len _ _) (.cons (k:=65) rfl (ok_spec_inverse hG) Tryz.call65 (FnI.len _ _) (.cons (k:=66) rfl (ok_spec_times hG) Tryz.call66 (fun _=>LenOk_auto _ _ _ _) (.cons (k:=45) rfl (ok_spec_octets hG) Tryz.call45 (FnI.len _ _) (.cons (k:=52) rfl (ok_spec_decoded hG) Tryz.call52 (FnI.len _ _) .nil))))) .nil Tryz.func40 rfl rfl rfl (.inl rfl) chk_spec_generator
end
end Go.Proofs.YtloibefkijfdlaaGreatDoor
