/- The signed digits of a scalar. -/
import Derived.Test.YtloibefkijfdlaaGreatDoorCa
import Derived.Test.YtloibefkijfdlaaGreatDoorSc
namespace Go.Proofs.YtloibefkijfdlaaGreatDoor
open Go
def bB32:List (Int×Int):=List.replicate 31 (0,255) ++ [(0,127)]
def r8Names:List (Nat×Def)→List Nat
 | []=> []
 |(n,d)::r=>(match d with
  |⟨.bin .add .i8,[_,.xs [.lit (.ofNat 8)]]⟩=> [n]
  |_=> [])++r8Names r
def r16T(s:CS):List AV→List Nat→Bool
 | [a],[]=>ileB (-8) a.lo&&ileB a.hi 8
 |a::al,n::ns=>(match flr s n 4 with
  |some p=>pdvd 0 (padd (padd a.p (pcon 8)) (psmul (-1) p))
  |none=>false)&&r16T s al ns
 |_,_=>false
def leH:List AV→Poly
 | []=> []
 |a::r=>padd a.p (psmul 16 (leH r))
def leC(n k:Nat):Nat→Poly
 |0=> []
 |m+1=>padd (patm (enc n k 0)) (psmul 256 (leC n (k+1) m))
def r16All(fb:Nat)(r:Option (List (Nat×Def)×List Obl×CS×List (List AV))):Bool:=match r with
 | some ((m,⟨.fn f true 0,[.vec 0]⟩)::_,ob,s,[d])=>Nat.beq m 34&&Nat.beq f fb&&(r16T s d (r8Names (dsOf r))&&Nat.beq d.length 64)&&(pdvd 0 (padd (leH d) (psmul (-1) (leC 34 0 32)))&&(match ob with
  | [.pre g [.vec 0],.zr (.v c 0)]=>Nat.beq g fb&&(match lk c (dsOf r) with
   |some ⟨.bin .gtr .u8,[.xs [.v x k],.xs [.lit (.ofNat y)]]⟩=>Nat.beq x 34&&Nat.beq k 31&&Nat.beq y 127
   |_=>false)
  |_=>false))
 |_=>false
 where dsOf:Option (List (Nat×Def)×List Obl×CS×List (List AV))→List (Nat×Def)
 |some (ds,_)=>ds
 |none=> []
theorem t_r16:r16All 107 (ckFnX i_edwards25519_Scalar_signedRadix16 C_edwards25519_Scalar_signedRadix16 [] [bU4] 34 bB32)=true:=by kernel_rfl
theorem ob_scb:((lin (i_edwards25519_Scalar_Bytes.tree C_edwards25519_Scalar_Bytes)).map fun p=>p.2.1.length)=some 0:=by kernel_rfl
theorem lo_scb:linOk 1 (i_edwards25519_Scalar_Bytes.tree C_edwards25519_Scalar_Bytes)=true:=by kernel_rfl
theorem ev_ob0{i:FnI}{C:Cx}(h:((lin (i.tree C)).map fun p=>p.2.1.length)=some 0){np:Nat}(hk:linOk np (i.tree C)=true)(ρ:Env):evOb C.T (i.tree C) ρ:=by
 match hl:lin (i.tree C),h with
 |some (ds,ob,e,st),h=>
  simp only[Option.map_some,osE,List.length_eq_zero_iff] at h
  subst h
  obtain⟨k1,k2,k3,k4,k5⟩:=lin_ok (T:=C.T) (ρ:=ρ) hk hl
  exact k5 fun q hq=>by cases hq
theorem scb_pre(args:List (List Int)):s_edwards25519_Scalar_Bytes.pre args:=ev_ob0 (i:=i_edwards25519_Scalar_Bytes) (C:=C_edwards25519_Scalar_Bytes) ob_scb lo_scb (insE args)
theorem obl_scb{T:Tb}(h:lk 107 T=some (.one s_edwards25519_Scalar_Bytes)){ρ:Env}{x:List Int}(e0:ρ 0=x):(Obl.pre 107 [.vec 0]).den T ρ:=by
 have ha: [Arg.vec 0].map (·.den ρ)= [x]:=by simp only[List.map_cons,List.map_nil,Arg.den,e0]
 exact obl_pre h ha (scb_pre [x])
theorem scb_gv{T:Tb}(h:lk 107 T=some (.one s_edwards25519_Scalar_Bytes)){x:List Int}(hx:u4 x):∃ m,ScV x m∧(gv T 107 0 [x]).length=32∧by8 (gv T 107 0 [x])∧leV (gv T 107 0 [x])=m:=by
 obtain⟨m,h1,h2,h3,h4⟩:=scb_raw hx
 have e:gv T 107 0 [x]=i_edwards25519_Scalar_Bytes.raw C_edwards25519_Scalar_Bytes 0 [x]:=by
  rw[gv_one h,pr_scb]
  exact fixL_id h2
 rw[e]
 exact⟨m,h1,h2,h3,h4⟩
theorem leV_top:∀ {l:List Int} {k:Nat},by8 l→k<l.length→l.getD k 0*256^k≤leV l
 | [],k,_,h=>by cases h
 |b::r,0,h,_=>by
  have:=(leV_bd (l:=r) fun y hy=>h y (lmM _ hy)).1
  simp only[leV,List.getD_cons_zero,Int.pow_zero]
  omega
 |b::r,k+1,h,hk=>by
  have h1:=leV_top (l:=r) (k:=k) (fun y hy=>h y (lmM _ hy)) (by simpa using hk)
  have h2:=h b lmS
  simp only[leV,List.getD_cons_succ,Int.pow_succ]
  rw[← Int.mul_assoc]
  generalize r.getD k 0*256^k=q at *
  omega
def dgV:List Int→Int
 | []=>0
 |b::r=>b+16*dgV r
theorem leH_ev{ρ:Env}:∀ {al:List AV} {l:List Int},AVs ρ l al→pev ρ (leH al)=dgV l
 | [],[],_=>rfl
 | [],x::l,h=>by have:=h.1; simp at this
 |a::al,[],h=>by have:=h.1; simp at this
 |a::al,x::l,h=>by
  obtain⟨h1,h2⟩:=h.cons
  simp only[leH,dgV,padd_ev,psmul_ev,leH_ev h2, ← h1.1]
theorem leC_ev{ρ:Env}{n:Nat}:∀ {m k:Nat},k+m≤4096→pev ρ (leC n k m)=leV ((List.range m).map fun j=>(ρ n).getD (k+j) 0)
 |0,_,_=>rfl
 | m+1,k,h=>by
  rw[List.range_succ_eq_map,List.map_cons,List.map_map]
  simp only[leC,padd_ev,psmul_ev,patm_ev,leV]
  rw[αv_enc0 ρ (by omega),leC_ev (m:=m) (k:=k+1) (by omega)]
  have:((fun j=>(ρ n).getD (k+j) 0) ∘ Nat.succ)=fun j=>(ρ n).getD (k+1+j) 0:=by
   funext j; simp only[Function.comp]; congr 1; omega
  rw[this]
  simp only[Nat.add_zero]
theorem r16T_ok{ρ:Env}{s:CS}(hs:CSOk ρ s):∀ {al:List AV} {ns:List Nat} {l:List Int},r16T s al ns=true→AVs ρ l al→∀ x∈l,-8≤x∧x≤8
 | [a],[],l,h,hA=>by
  simp only[r16T,baE] at h
  match l,hA with
  | [x],hA=>
   intro y hy
   rw[List.mem_singleton] at hy
   subst hy
   have:=hA.cons.1
   exact⟨Int.le_trans (ileB_le h.1) this.2.1,Int.le_trans this.2.2.1 (ileB_le h.2)⟩
  | [],hA=>have:=hA.1; simp at this
  |_::_::_,hA=>have:=hA.1; simp at this
 | a :: al,n::ns,l,h,hA=>by
  unfold r16T at h
  simp only[baE] at h
  match l,hA with
  | [],hA=>have:=hA.1; simp at this
  | x::l,hA=>
   obtain⟨h1,h2⟩:=hA.cons
   intro y hy
   rcases List.mem_cons.1 hy with rfl|hy
   ·have h3:=h.1
    split at h3
    ·rename_i p hp
     have h4:=pz (ρ:=ρ) h3
     have h5:=flr_ok hs hp
     rw[padd_ev,pcon_ev, ← h1.1] at h4
     have e:((2^4:Nat):Int)=16:=by decide
     rw[e] at h5
     omega
    ·cases h3
   ·exact r16T_ok hs h.2 h2 y hy
 | [],_,_,h,_=>by cases h
 |_::_::_,[],_,h,_=>by cases h
theorem lk_r16:lk 107 C_edwards25519_Scalar_signedRadix16.T=some (.one s_edwards25519_Scalar_Bytes):=rfl
theorem bB32_get{k:Nat}{p:Int×Int}(h:bB32[k]? = some p):k<32∧p.1=0∧(k<31→p.2=255)∧(k=31→p.2=127):=by
 have hlt:k<32:=(List.getElem?_eq_some_iff.1 h).1
 have:∀ k,k<32→∀ p,bB32[k]? = some p→p.1=0∧(k<31→p.2=255)∧(k=31→p.2=127):=by
  intro k hk
  have hh:∀ k:Fin 32,bB32[k.val]? = some (0,if k.val<31 then 255 else 127):=by decide +kernel
  intro p hp
  have:=hh ⟨k,hk⟩
  simp only at this
  rw[this,osE] at hp
  subst hp
  refine⟨rfl,fun h=>by simp[h],fun h=>by subst h; rfl⟩
 exact⟨hlt,this k hlt p h⟩
theorem r16_raw{x:List Int}(hx:u4 x):∃ m,ScV x m∧evOb C_edwards25519_Scalar_signedRadix16.T (i_edwards25519_Scalar_signedRadix16.tree C_edwards25519_Scalar_signedRadix16) (insE [x])∧(i_edwards25519_Scalar_signedRadix16.raw C_edwards25519_Scalar_signedRadix16 0 [x]).length=64∧(∀ d∈i_edwards25519_Scalar_signedRadix16.raw C_edwards25519_Scalar_signedRadix16 0 [x],-8≤d∧d≤8)∧dgV (i_edwards25519_Scalar_signedRadix16.raw C_edwards25519_Scalar_signedRadix16 0 [x])=m:=by
 have ht:=t_r16
 unfold r16All at ht
 split at ht
 ·rename_i m0 f ds0 ob s d hr
  simp only[baE] at ht
  obtain⟨⟨⟨t1,t2⟩,t3,t4⟩,t5,t6⟩:=ht
  have t1:=nbE t1
  have t2:=nbE t2
  have t4:=nbE t4
  subst t1; subst t2
  obtain⟨m,hm,hB⟩:=scb_gv lk_r16 hx
  have h34:∀ ρ:Env,ρ 0=x→DsE C_edwards25519_Scalar_signedRadix16.T ρ ((34,⟨.fn 107 true 0,[.vec 0]⟩)::ds0)→ρ 34=gv C_edwards25519_Scalar_signedRadix16.T 107 0 [x]:=fun ρ h0 hd=>by
   have:=hd _ lmS
   simp only[Def.den,List.map_cons,List.map_nil,Arg.den,h0] at this
   exact this
  generalize gv C_edwards25519_Scalar_signedRadix16.T 107 0 [x]=B at *
  obtain⟨b1,b2,b3⟩:=hB
  have hb31:B.getD 31 0≤127:=by
   have h1:=leV_top b2 (k:=31) (by omega)
   rw[b3] at h1
   have h2:=hm.hi
   unfold scL at h2
   have e:(256:Int)^31=452312848583266388373324160190187140051835877600158453279131187530910662656:=by decide
   rw[e] at h1
   omega
  have hbk:∀ k,k<32→0≤B.getD k 0∧B.getD k 0≤255:=fun k hk=>by
   have h1:k<B.length:=by omega
   have:=b2 B[k] (List.getElem_mem h1)
   rw[List.getD,lgE h1]
   exact this
  obtain⟨ρ,h1,h2,h3,h4,h5⟩:=ckFnX_ok (fun f κ h=>by cases h) hr (ins:= [x]) (bnd_4 hx (bnd_nil _)) (by decide) (fun ρ h0 hd k p hk=>by
   have e34:=h34 ρ (h0 0 (by decide)) hd
   obtain⟨g1,g2,g3,g4⟩:=bB32_get hk
   rw[e34,g2]
   refine⟨(hbk k g1).1,?_⟩
   by_cases h31:k<31
   ·rw[g3 h31]; exact (hbk k g1).2
   ·have:k=31:=by omega
    subst this
    rw[g4 rfl]; exact hb31)
  have e0:ρ 0=x:=h1 0 (by decide)
  have e34:=h34 ρ e0 h2
  have hA:=h5 0 d rfl
  refine⟨m,hm,h4 ?_,hA.1.trans t4,r16T_ok h3 t3 hA,?_⟩
  ·split at t6
   ·rename_i g c
    simp only[baE] at t6
    have e1:=nbE t6.1
    subst e1
    have t7:=t6.2
    split at t7
    ·rename_i y k z hc
     simp only[baE] at t7
     have e1:=nbE t7.1.1
     have e2:=nbE t7.1.2
     have e3:=nbE t7.2
     subst e1; subst e2; subst e3
     intro q hq
     rcases List.mem_cons.1 hq with rfl|hq
     ·exact obl_scb lk_r16 e0
     ·rw[List.mem_singleton] at hq
      subst hq
      rw[hr] at hc
      have hc0:lk c ((34,⟨.fn 107 true 0,[.vec 0]⟩)::ds0)=some ⟨.bin .gtr .u8,[.xs [.v 34 31],.xs [.lit (.ofNat 127)]]⟩:=hc
      have hc':=h2 _ (lk_mem hc0)
      have hc2:ρ c= [binD .gtr .u8 ((ρ 34).getD 31 0) 127]:=hc'
      show (ρ c).getD 0 0=0
      rw[hc2,e34]
      show binD .gtr .u8 (B.getD 31 0) 127=0
      have:¬ B.getD 31 0>127:=by omega
      show b01 (decide (B.getD 31 0>127))=0
      rw[_root_.decide_eq_false this]; rfl
    ·cases t7
   ·cases t6
  ·have t5:=pz (ρ:=ρ) t5
   rw[leH_ev hA,leC_ev (by omega),e34] at t5
   have e:(fun j=>B.getD (0+j) 0)=fun j=>B.getD j 0:=by funext j; rw[Nat.zero_add]
   rw[e,range_id2 b1] at t5
   exact t5.trans b3
 ·cases ht
end Go.Proofs.YtloibefkijfdlaaGreatDoor
