/- The reference's numbers: products modulo the prime, an element's bytes; their contracts. Contracts of the reference: powers. The reference's numbers as elements of the field: products, powers; bits of a number. -/
import Derived.Test.YtloibefkijfdlaaGreatDoorDq3
import Derived.Test.YtloibefkijfdlaaGreatDoorFe2
import Derived.Test.YtloibefkijfdlaaGreatDoorNa
namespace Go.Proofs.YtloibefkijfdlaaGreatDoor
open Go
theorem u_muld{x y:Int}(hx:0≤x∧x<4294967296)(hy:0≤y∧y<4294967296):u64o .mul x y=x*y∧0≤x*y∧x*y≤4294967295*4294967295:=by
 have h1:0≤x*y:=Int.mul_nonneg hx.1 hy.1
 have h2:x*y≤4294967295*4294967295:=Int.mul_le_mul (by omega) (by omega) hy.1 (by omega)
 refine⟨?_,h1,h2⟩
 show IntKind.u64.wrap (x*y)=_
 exact u64_w h1 (by omega)
theorem rowO_ok:∀ {os bs:List Int} {c a:Int},os.length=bs.length→dg os→dg bs→0≤c∧c<4294967296→0≤a∧a<4294967296→dg (rowO c os a bs)∧(rowO c os a bs).length=os.length+1∧nv (rowO c os a bs)=c+nv os+a*nv bs
 | [],[],c,a,_,_,_,hc,_=>⟨.mk hc .nil,rfl,by simp[rowO,nv]⟩
 |o::os,b::bs,c,a,hl,ho,hb,hc,ha=>by
  obtain⟨o1,o2⟩:=ho.cons
  obtain⟨b1,b2⟩:=hb.cons
  obtain⟨m1,m2,m3⟩:=u_muld ha b1
  have e1:u64o .add (u64o .add c o) (u64o .mul a b)=c+o+a*b:=by rw[u_add (x:=c) (y:=o) (by omega) (by omega),m1,u_add (by omega) (by omega)]
  have e2:u64o .rem (c+o+a*b) 4294967296=(c+o+a*b)%4294967296:=u_rem (by omega)
  have e3:u64o .quo (c+o+a*b) 4294967296=(c+o+a*b)/4294967296:=u_quo (by omega) (by omega)
  obtain⟨i1,i2,i3⟩:=rowO_ok (os:=os) (bs:=bs) (c:=(c+o+a*b)/4294967296) (by simpa using hl) o2 b2 (by omega) ha
  unfold rowO
  rw[e1,e2,e3]
  refine⟨.mk ⟨by omega,by omega⟩ i1,by rw[List.length_cons,i2,List.length_cons],?_⟩
  simp only[nv,i3]
  have e4:a*(b+4294967296*nv bs)=a*b+4294967296*(a*nv bs):=by rw[Int.mul_add,Int.mul_left_comm]
  rw[e4]
  omega
 | [],_::_,_,_,h,_,_,_,_=>by simp at h
 |_::_,[],_,_,h,_,_,_,_=>by simp at h
theorem tmO_ok:∀ {xs acc b:List Int},acc.length=b.length→dg xs→dg acc→dg b→dg (tmO xs acc b)∧(tmO xs acc b).length=xs.length+acc.length∧nv (tmO xs acc b)=nv acc+nv xs*nv b
 | [],acc,b,_,_,ha,_=>⟨ha,by simp[tmO],by simp[tmO,nv]⟩
 | x::xs,acc,b,hl,hx,ha,hb=>by
  obtain⟨x1,x2⟩:=hx.cons
  obtain⟨r1,r2,r3⟩:=rowO_ok (c:=0) hl ha hb (by omega) x1
  unfold tmO
  match hr:rowO 0 acc x b,r1,r2,r3 with
  |r0::rs,r1,r2,r3=>
   obtain⟨q1,q2⟩:=r1.cons
   have hlen:rs.length=acc.length:=by simpa using r2
   obtain⟨i1,i2,i3⟩:=tmO_ok (xs:=xs) (acc:=rs) (b:=b) (by omega) x2 q2 hb
   simp only[List.getD_cons_zero,List.drop_succ_cons,List.drop_zero]
   refine⟨.mk q1 i1,by simp only[List.length_cons,i2]; omega,?_⟩
   simp only[nv] at r3 ⊢
   rw[i3,Int.add_mul,Int.mul_assoc]
   omega
  | [],r1,r2,r3=>simp at r2
theorem lowO_len:∀ {xs ys:List Int} {c:Int},xs.length=ys.length→(lowO c xs ys).length=xs.length
 | [],[],_,_=>rfl
 |_::xs,_::ys,c,h=>by
  unfold lowO
  rw[List.length_cons,lowO_len (by simpa using h),List.length_cons]
 | [],_::_,_,h=>by simp at h
 |_::_,[],_,h=>by simp at h
theorem u_any(x y:Int):0≤u64o .add x y∧u64o .add x y<18446744073709551616:=by
 have h:=wrap_inR .u64 (x+y)
 have h1:0≤IntKind.u64.wrap (x+y):=h.1
 have h2:IntKind.u64.wrap (x+y)≤18446744073709551615:=h.2
 show 0≤IntKind.u64.wrap (x+y)∧IntKind.u64.wrap (x+y)<_
 omega
theorem lowO_dg:∀ {xs ys:List Int} {c:Int},dg (lowO c xs ys)
 |x::xs,y::ys,c=>by
  unfold lowO
  obtain⟨h1,h2⟩:=u_any (u64o .add c x) (u64o .mul 38 y)
  rw[u_rem h1]
  exact .mk (by omega) lowO_dg
 | [],_,_=>by unfold lowO; exact .nil
 |_::_,[],_=>by unfold lowO; exact .nil
theorem lowC_rng:∀ {xs ys:List Int} {c:Int},0≤c∧c<4294967296→0≤lowC c xs ys∧lowC c xs ys<4294967296
 |x::xs,y::ys,c,_=>by
  unfold lowC
  obtain⟨h1,h2⟩:=u_any (u64o .add c x) (u64o .mul 38 y)
  rw[u_quo h1 h2]
  exact lowC_rng (by omega)
 | [],_,_,h=>by unfold lowC; exact h
 |_::_,[],_,h=>by unfold lowC; exact h
theorem lowO_ok:∀ {xs ys:List Int} {c:Int},xs.length=ys.length→dg xs→dg ys→0≤c∧c<4294967296→c+nv xs+38*nv ys=nv (lowO c xs ys)+lowC c xs ys*pw xs.length
 | [],[],c,_,_,_,_=>by simp[lowO,lowC,nv,pw]
 | x::xs,y::ys,c,hl,hx,hy,hc=>by
  obtain⟨x1,x2⟩:=hx.cons
  obtain⟨y1,y2⟩:=hy.cons
  have e0:u64o .mul 38 y=38*y:=by
   show IntKind.u64.wrap (38*y)=_
   exact u64_w (by omega) (by omega)
  have e1:u64o .add (u64o .add c x) (u64o .mul 38 y)=c+x+38*y:=by rw[u_add (x:=c) (y:=x) (by omega) (by omega),e0,u_add (by omega) (by omega)]
  have e2:u64o .rem (c+x+38*y) 4294967296=(c+x+38*y)%4294967296:=u_rem (by omega)
  have e3:u64o .quo (c+x+38*y) 4294967296=(c+x+38*y)/4294967296:=u_quo (by omega) (by omega)
  have i:=lowO_ok (xs:=xs) (ys:=ys) (c:=(c+x+38*y)/4294967296) (by simpa using hl) x2 y2 (by omega)
  unfold lowO lowC
  rw[e1,e2,e3]
  simp only[nv,List.length_cons,pw]
  rw[Int.mul_left_comm (lowC _ _ _)]
  omega
 | [],_::_,_,h,_,_,_=>by simp at h
 |_::_,[],_,h,_,_,_=>by simp at h
theorem nv_app:∀ {x y:List Int},nv (x++y)=nv x+pw x.length*nv y
 | [],y=>by simp[nv,pw]
 |a::x,y=>by
  simp only[List.cons_append,nv,List.length_cons,pw,nv_app (x:=x) (y:=y)]
  rw[Int.mul_assoc,Int.mul_add]
  omega
theorem fo2_n8{a:List Int}{m k:Int}(ha:N8 a m)(h0:0≤k)(h1:k<4294967296):N8 (fold8 C_spec_folded2 a k) ((m+38*k)%spP):=by
 have:=fold2_n8 ha h0 h1
 unfold fold8
 rwa [fixL_id this.len]
theorem times_n8{a b:List Int}{m n:Int}(ha:N8 a m)(hb:N8 b n):N8 (i_spec_times.rawt C_spec_times 0 [a,b]) (m*n%spP):=by
 have z:(0:Int)≤0∧(0:Int)<4294967296:=by omega
 have d0:dg [0,0,0,0,0,0,0,0]:=.mk z (.mk z (.mk z (.mk z (.mk z (.mk z (.mk z (.mk z .nil)))))))
 obtain⟨t1,t2,t3⟩:=tmO_ok (xs:=a) (acc:= [0,0,0,0,0,0,0,0]) (b:=b) (by rw[hb.len]; rfl) ha.dg d0 hb.dg
 change dg (tm16 a b) at t1
 change (tm16 a b).length=_ at t2
 change nv (tm16 a b)=_ at t3
 have hl16:(tm16 a b).length=16:=by rw[t2,ha.len]; rfl
 rw[show nv [0,0,0,0,0,0,0,0]=0 from rfl,ha.val,hb.val,Int.zero_add] at t3
 have e:i_spec_times.rawt C_spec_times 0 [a,b]=l8 (fold8 C_spec_folded2 (lowO 0 ((tm16 a b).take 8) ((tm16 a b).drop 8)) (lowC 0 ((tm16 a b).take 8) ((tm16 a b).drop 8))):=by
  match a,ha.len,b,hb.len with
  | [_,_,_,_,_,_,_,_],_,[_,_,_,_,_,_,_,_],_=>exact raw_times
 generalize tm16 a b=t at *
 have l1:(t.take 8).length=8:=by rw[List.length_take]; omega
 have l2:(t.drop 8).length=8:=by rw[List.length_drop]; omega
 have x1:dg (t.take 8):=fun x hx=>t1 x (List.mem_of_mem_take hx)
 have x2:dg (t.drop 8):=fun x hx=>t1 x (List.mem_of_mem_drop hx)
 have hv:=lowO_ok (c:=0) (by rw[l1,l2]) x1 x2 (by omega)
 have hN:N8 (lowO 0 (t.take 8) (t.drop 8)) (nv (lowO 0 (t.take 8) (t.drop 8))):=⟨by rw[lowO_len (by rw[l1,l2]),l1],lowO_dg,rfl⟩
 obtain⟨c1,c2⟩:=lowC_rng (xs:=t.take 8) (ys:=t.drop 8) (c:=0) (by omega)
 have hf:=fo2_n8 hN c1 c2
 rw[e,l8_id hf.len]
 have ht:nv t=nv (t.take 8)+pw 8*nv (t.drop 8):=by
  have:=nv_app (x:=t.take 8) (y:=t.drop 8)
  rwa [List.take_append_drop,l1] at this
 rw[l1] at hv
 generalize nv (lowO 0 (t.take 8) (t.drop 8))=lo at *
 generalize lowC 0 (t.take 8) (t.drop 8)=cc at *
 generalize nv (t.take 8)=u at *
 generalize nv (t.drop 8)=v at *
 have e2:m*n%spP=(lo+38*cc)%spP:=by
  rw[← t3,ht, ← Int.emod_emod_of_dvd (lo+38*cc) (Int.dvd_refl spP),Int.emod_emod_of_dvd _ (Int.dvd_refl spP)]
  refine Int.emod_eq_emod_iff_emod_sub_eq_zero.2 ?_
  have:u+pw 8*v-(lo+38*cc)=spP*(2*v+2*cc):=by
   rw[pw8] at *
   unfold spP
   omega
  rw[this]
  exact Int.mul_emod_right _ _
 rw[e2]
 exact hf
theorem ins2{ks:List IntKind}{ins:List (List Int)}(h:InsOk [.agg ks,.agg ks] ins):∃ a b,ins= [a,b]∧AllR ks a∧AllR ks b:=by
 match ins,h with
 | [a,b],h=>exact⟨a,b,rfl,h.1,h.2.1⟩
theorem ins1{ks:List IntKind}{ins:List (List Int)}(h:InsOk [.agg ks] ins):∃ a,ins= [a]∧AllR ks a:=by
 match ins,h with
 | [a],h=>exact⟨a,rfl,h.1⟩
theorem tm16_len{a b:List Int}(ha:a.length=8)(hb:b.length=8):(tm16 a b).length=16:=by
 have key:∀ (os bs:List Int) (c x:Int),os.length=bs.length→(rowO c os x bs).length=os.length+1:=fun os=>by
  induction os with
  |nil=>intro bs c x h; cases bs<;>rfl
  | cons o os ih=>
   intro bs c x h
   match bs,h with
   |b::bs,h=>
    unfold rowO
    rw[List.length_cons,ih bs _ _ (by simpa using h),List.length_cons]
   | [],h=>simp at h
 have k2:∀ (xs acc:List Int),acc.length=b.length→(tmO xs acc b).length=xs.length+acc.length:=fun xs=>by
  induction xs with
  |nil=>intro acc _; simp[tmO]
  |cons x xs ih=>
   intro acc h
   unfold tmO
   have:=key acc b 0 x h
   rw[List.length_cons,ih _ (by rw[List.length_drop]; omega),List.length_drop,List.length_cons]
   omega
 have:=k2 a [0,0,0,0,0,0,0,0] (by rw[hb]; rfl)
 rw[ha] at this
 exact this
theorem times_ob{ins:List (List Int)}(h:InsOk i_spec_times.s0.params ins):evOb C_spec_times.T (i_spec_times.treet C_spec_times) (insE ins):=by
 obtain⟨a,b,rfl,ha,hb⟩:=ins2 h
 have la:a.length=8:=ha.1
 have lb:b.length=8:=hb.1
 refine evObX_ok ?_
 have ht:=tm16_len la lb
 have hl:(lowO 0 ((tm16 a b).take 8) ((tm16 a b).drop 8)).length=8:=by rw[lowO_len (by rw[List.length_take,List.length_drop]; omega),List.length_take]; omega
 obtain⟨c1,c2⟩:=lowC_rng (xs:=(tm16 a b).take 8) (ys:=(tm16 a b).drop 8) (c:=0) (by omega)
 have hf:fo2 [lowO 0 ((tm16 a b).take 8) ((tm16 a b).drop 8),[lowC 0 ((tm16 a b).take 8) ((tm16 a b).drop 8)]]:=⟨c1,c2,_,hl,lowO_dg,rfl⟩
 match a,la,b,lb with
 | [_,_,_,_,_,_,_,_],_,[_,_,_,_,_,_,_,_],_=>
  rw[ob_times]
  exact⟨hf,trivial⟩
def elB:List Int→List Int
 | [b0,b1,b2,b3,b4,b5,b6,b7,b8,b9,b10,b11,b12,b13,b14,b15,b16,b17,b18,b19,b20,b21,b22,b23,b24,b25,b26,b27,b28,b29,b30,b31]=> [b0,b1,b2,b3,b4,b5,b6,b7,b8,b9,b10,b11,b12,b13,b14,b15,b16,b17,b18,b19,b20,b21,b22,b23,b24,b25,b26,b27,b28,b29,b30,binD .rem .u8 b31 128]
 |_=> []
theorem raw_element{b0 b1 b2 b3 b4 b5 b6 b7 b8 b9 b10 b11 b12 b13 b14 b15 b16 b17 b18 b19 b20 b21 b22 b23 b24 b25 b26 b27 b28 b29 b30 b31:Int}:i_spec_element.rawt C_spec_element 0 [[b0,b1,b2,b3,b4,b5,b6,b7,b8,b9,b10,b11,b12,b13,b14,b15,b16,b17,b18,b19,b20,b21,b22,b23,b24,b25,b26,b27,b28,b29,b30,b31]]=l8 (fold8 C_spec_folded2 (whole8 (elB [b0,b1,b2,b3,b4,b5,b6,b7,b8,b9,b10,b11,b12,b13,b14,b15,b16,b17,b18,b19,b20,b21,b22,b23,b24,b25,b26,b27,b28,b29,b30,b31])) 0):=by kernel_rfl
theorem ob_element{b0 b1 b2 b3 b4 b5 b6 b7 b8 b9 b10 b11 b12 b13 b14 b15 b16 b17 b18 b19 b20 b21 b22 b23 b24 b25 b26 b27 b28 b29 b30 b31:Int}:evObX C_spec_element.T (i_spec_element.treet C_spec_element) (insE [[b0,b1,b2,b3,b4,b5,b6,b7,b8,b9,b10,b11,b12,b13,b14,b15,b16,b17,b18,b19,b20,b21,b22,b23,b24,b25,b26,b27,b28,b29,b30,b31]])=(fo2 [whole8 (elB [b0,b1,b2,b3,b4,b5,b6,b7,b8,b9,b10,b11,b12,b13,b14,b15,b16,b17,b18,b19,b20,b21,b22,b23,b24,b25,b26,b27,b28,b29,b30,b31]),[0]]∧True):=by kernel_rfl
theorem u8_rem{b:Int}(h:0≤b∧b≤255):binD .rem .u8 b 128=b%128:=by
 show b.tmod 128=_
 exact Int.tmod_eq_emod_of_nonneg h.1
theorem leV_ap2:∀ {x y:List Int},leV (x++y)=leV x+256^x.length*leV y
 | [],y=>by simp[leV]
 |a::x,y=>by
  simp only[List.cons_append,leV,List.length_cons,Int.pow_succ,leV_ap2 (x:=x) (y:=y)]
  rw[Int.mul_add,Int.mul_comm (256^x.length) 256,Int.mul_assoc]
  omega
theorem elB_eq{l:List Int}(hl:l.length=32)(h:by8 l):elB l=l.take 31 ++ [l.getD 31 0%128]:=by
 match l,hl with
 | [b0,b1,b2,b3,b4,b5,b6,b7,b8,b9,b10,b11,b12,b13,b14,b15,b16,b17,b18,b19,b20,b21,b22,b23,b24,b25,b26,b27,b28,b29,b30,b31],_=>
  have h31:=h b31 (by simp)
  show [b0,b1,b2,b3,b4,b5,b6,b7,b8,b9,b10,b11,b12,b13,b14,b15,b16,b17,b18,b19,b20,b21,b22,b23,b24,b25,b26,b27,b28,b29,b30,binD .rem .u8 b31 128]=_
  rw[u8_rem h31]
  rfl
theorem elB_ok{l:List Int}(hl:l.length=32)(h:by8 l):by8 (elB l)∧(elB l).length=32:=by
 rw[elB_eq hl h]
 refine⟨fun x hx=> ?_,by rw[List.length_append,List.length_take,hl]; rfl⟩
 rcases List.mem_append.1 hx with hx|hx
 ·exact h x (List.mem_of_mem_take hx)
 ·have:=List.mem_singleton.1 hx
  omega
theorem element_n8{l:List Int}(hl:l.length=32)(h:by8 l):N8 (i_spec_element.rawt C_spec_element 0 [l]) (leV (elB l)%spP):=by
 obtain⟨h1,h2⟩:=elB_ok hl h
 have hw:=n8_fix (whole_n8 h2 h1)
 have hf:=fo2_n8 hw (k:=0) (by omega) (by omega)
 rw[Int.mul_zero,Int.add_zero] at hf
 match l,hl with
 | [_,_,_,_,_,_,_,_,_,_,_,_,_,_,_,_,_,_,_,_,_,_,_,_,_,_,_,_,_,_,_,_],_=>
  rw[raw_element]
  change N8 (fold8 C_spec_folded2 (whole8 _) 0) _ at hf
  rw[l8_id hf.len]
  exact hf
theorem AllR.by8{l:List Int}{n:Nat}(h:AllR (List.replicate n .u8) l):l.length=n∧by8 l:=by
 have hl:l.length=n:=by have:=h.1; simpa using this
 refine⟨hl,fun x hx=> ?_⟩
 obtain⟨i,hi,rfl⟩:=List.getElem_of_mem hx
 have:=h.2 i .u8 l[i] (by rw[List.getElem?_replicate,if_pos (by omega)]) (lgE hi)
 exact⟨this.1,this.2⟩
theorem element_ob{ins:List (List Int)}(h:InsOk i_spec_element.s0.params ins):evOb C_spec_element.T (i_spec_element.treet C_spec_element) (insE ins):=by
 obtain⟨a,rfl,ha⟩:=ins1 h
 obtain⟨la,h8⟩:=ha.by8
 obtain⟨h1,h2⟩:=elB_ok la h8
 have hw:=n8_fix (whole_n8 h2 h1)
 have hf:fo2 [whole8 (elB a),[0]]:=⟨by decide,by decide,_,hw⟩
 refine evObX_ok ?_
 match a,la with
 | [_,_,_,_,_,_,_,_,_,_,_,_,_,_,_,_,_,_,_,_,_,_,_,_,_,_,_,_,_,_,_,_],_=>
  rw[ob_element]
  exact⟨hf,trivial⟩
section
variable{GB:Nat}{GC:Nat→Nat→Option Value}{ad:Nat→Nat×Nat}(hG:GOk GB GC ad)
include hG
theorem ok_spec_times:FEOk Tryz.prog GB GC 66 (.one s_spec_times):=FnI.okF (mkC_ok hG (.cons (k:=87) rfl (ok_spec_folded2 hG) Tryz.call87 (fun _=>LenOk_auto _ _ _ _) .nil) .nil) Tryz.func66 rfl rfl rfl rfl (gls_of hG (.inl rfl)).1 (gls_of hG (.inl rfl)).2 chk_spec_times fun _ h=>times_ob h
theorem ok_spec_element:FEOk Tryz.prog GB GC 77 (.one s_spec_element):=FnI.okF (mkC_ok hG (.cons (k:=53) rfl (ok_spec_whole hG) Tryz.call53 (FnI.len _ _) (.cons (k:=87) rfl (ok_spec_folded2 hG) Tryz.call87 (fun _=>LenOk_auto _ _ _ _) .nil)) .nil) Tryz.func77 rfl rfl rfl rfl (gls_of hG (.inl rfl)).1 (gls_of hG (.inl rfl)).2 chk_spec_element fun _ h=>element_ob h
end
end Go.Proofs.YtloibefkijfdlaaGreatDoor

namespace Go.Proofs.YtloibefkijfdlaaGreatDoor
open Go
theorem FEOk.noPre{P:Program}{GB:Nat}{GC:Nat→Nat→Option Value}{f:Nat}{s:FSum}(h:FEOk P GB GC f (.one s))(hp:∀ ins,InsOk s.params ins→s.pre ins):FEOk P GB GC f (.one { s with hp:=false }):=
 FEOk.one fun args ins bs w h1 h2 h3 h4 _=>(h true args ins bs w h1 h2 h3 h4 (fun _=>hp ins (PMs_ins h3)) rfl).mono fun _ _ ⟨fb,vs,he,hq⟩=>⟨fb,vs,he,⟨hq.len,hq.fr,hq.fd,hq.frm,hq.outs,hq.fresh,hq.ret,hq.gw⟩⟩
def stX(T:Tb)(i:LpI):Tree→Env→Option (Bool×List (List Int))
 | .leaf e st,ρ=>match i.leaf e st with
  |some (b,al)=>some (b,al.map (·.den ρ))
  |none=>none
 | .evs ds _ t,ρ=>stX T i t (upds T ρ ds)
 | .br x t f,ρ=>if x.den ρ=0 then stX T i f ρ else stX T i t ρ
 | .brc f ar t e,ρ=>match lk f T with
  |some fe=>cond (fe.cnd (ar.map (·.den ρ))) (stX T i t ρ) (stX T i e ρ)
  |none=>none
 | .chk _ k,ρ=>stX T i k ρ
 | .bad _,_=>none
theorem stX_eq{T:Tb}{i:LpI}:∀ {t:Tree} {ρ:Env},(match evX T t ρ with
 |some (ρ,e,st)=>(match i.leaf e st with
  |some (b,al)=>some (b,al.map (·.den ρ))
  |none=>none)
 |none=>none)=stX T i t ρ
 | .leaf _ _,_=>rfl
 | .evs _ _ t,_=>stX_eq (t:=t)
 | .br x t f,ρ=>by
  unfold evX stX
  by_cases h:x.den ρ=0
  ·rw[if_pos h,if_pos h]
   exact stX_eq (t:=f)
  ·rw[if_neg h,if_neg h]
   exact stX_eq (t:=t)
 | .brc f ar t e,ρ=>by
  unfold evX stX
  cases lk f T with
  |none=>rfl
  |some fe=>
   simp only
   cases fe.cnd (ar.map (·.den ρ)) with
   |true=>exact stX_eq (t:=t)
   |false=>exact stX_eq (t:=e)
 | .chk _ k,_=>stX_eq (t:=k)
 | .bad _,_=>rfl
theorem step_stX{i:LpI}{C:Cx}{ins:List (List Int)}:i.step C ins=stX C.T i (i.tree C) (insE ins):=stX_eq
def U8:List IntKind:=List.replicate 8 .u64
noncomputable def l_spec_power:LpI:=⟨6000,loopIn 0 (bodyOf Tryz.f85),Tryz.f85.ntmps,0,[],⟨[.int .i64,.mem U8 1 true,.mem U8 2 false,.mem U8 3 false],true,fun _=>True,[(1,U8,z1)],[],[]⟩,[6,5,2,3],[8,9,10,11,12,13,14,15,16,17,18,19,20],fun _=>257⟩
noncomputable def Cb_spec_power:Cx:=mkC [(66,.one s_spec_times),(67,.one s_spec_bit)] []
noncomputable def i_spec_power:FnI:=⟨6000,bodyOf Tryz.f85,Tryz.f85.ntmps,Tryz.f85.results.toList,[],⟨[.agg U8,.agg U8],true,fun _=>True,[],[],[.agg U8 z1]⟩⟩
noncomputable def C_spec_power:Cx:=mkCL ((1000000+85,.one (l_spec_power.sum Cb_spec_power (l_spec_power.pre Cb_spec_power))) :: [(68,.one s_spec_small)]) [] [(l_spec_power.id,⟨1000000+85,l_spec_power.ps,l_spec_power.ss,l_spec_power.cl,l_spec_power.nt⟩)]
noncomputable def s_spec_power:FSum:= { i_spec_power.sumH C_spec_power (fun _=>True) with hp:=false }
theorem chkl_spec_power:l_spec_power.chk Cb_spec_power=true:=by kernel_rfl
theorem chk_spec_power:i_spec_power.chk C_spec_power=true:=by kernel_rfl
theorem st_power{T:Tb}{i:Int}{o a e:List Int}:stX T l_spec_power (l_spec_power.tree Cb_spec_power) (insE [[i],o,a,e])=if b01 (decide (i ≥ 0))=0 then some (false,[[i],o,a,e]) else
  if (gv T 67 0 [e,[i]]).getD 0 0=0 then some (true,[[binD .sub .i64 i 1],gv T 66 0 [o,o],a,e]) else some (true,[[binD .sub .i64 i 1],gv T 66 0 [gv T 66 0 [o,o],a],a,e]):=by kernel_rfl
def preB(e:List Int)(i:Int):Prop:=s_spec_bit.pre [e,[i]]
theorem ob_powerl{i:Int}{o a e:List Int}:evObX Cb_spec_power.T (l_spec_power.tree Cb_spec_power) (insE [[i],o,a,e])=if b01 (decide (i ≥ 0))=0 then True else
  (preB e i∧if (gv Cb_spec_power.T 67 0 [e,[i]]).getD 0 0=0 then True else True):=by kernel_rfl
theorem ob_power{a e:List Int}:evObX C_spec_power.T (i_spec_power.tree C_spec_power) (insE [a,e])=(l_spec_power.pre Cb_spec_power [[255],fixL 8 [1,0,0,0,0,0,0,0],a,e]∧True):=by kernel_rfl
theorem raw_power{a e:List Int}:i_spec_power.raw C_spec_power 0 [a,e]=fixL 8 ((l_spec_power.val Cb_spec_power [[255],fixL 8 [1,0,0,0,0,0,0,0],a,e]).getD 1 []):=by kernel_rfl
end Go.Proofs.YtloibefkijfdlaaGreatDoor

namespace Go.Proofs.YtloibefkijfdlaaGreatDoor
open Go Ma
def NF(l:List Int)(x:Fp):Prop:=N8 l (x.val:Int)
theorem spP_eq:spP=((PP:Nat):Int):=by kernel_rfl
theorem NF.of{l:List Int}{m:Int}{x:Fp}(h:N8 l (m%spP))(hx:fpI m=x):NF l x:=by
 subst hx
 unfold NF
 rw[fpI_val]
 exact h
theorem fpI_v(x:Fp):fpI (x.val:Int)=x:=fpI_of x
theorem pr_times:s_spec_times.pr 0= .l fun a=>fixL 8 (i_spec_times.rawt C_spec_times 0 a):=rfl
theorem gv_times{T:Tb}(h:lk 66 T=some (.one s_spec_times)){a b:List Int}{x y:Fp}(ha:NF a x)(hb:NF b y):NF (gv T 66 0 [a,b]) (x*y):=by
 have hn:=times_n8 ha hb
 rw[gv_one h,pr_times]
 show NF (fixL 8 _) _
 rw[fixL_id hn.len]
 exact NF.of hn (by rw[fpI_mul,fpI_v,fpI_v])
def bitO(e:List Int)(i:Int):Int:=u64o .eql (u64o .rem (u64o .shr (e.getD (binD .quo .i64 i 32).toNat 0) (binD .rem .i64 i 32)) 2) 1
theorem raw_bit{e:List Int}{i:Int}:i_spec_bit.raw C_spec_bit 0 [e,[i]]= [bitO e i]:=by kernel_rfl
theorem ob_bit{e:List Int}{i:Int}:evObX C_spec_bit.T (i_spec_bit.tree C_spec_bit) (insE [e,[i]])=((0≤binD .quo .i64 i 32∧binD .quo .i64 i 32<((8:Nat):Int))∧0≤binD .rem .i64 i 32∧True):=by kernel_rfl
theorem i_quo{n:Nat}(h:n<1000):binD .quo .i64 (n:Int) 32=((n/32:Nat):Int):=by
 show IntKind.i64.wrap ((n:Int).tdiv 32)=_
 rw[Int.tdiv_eq_ediv_of_nonneg (by omega),wrap_in (k:=.i64) ⟨by show (-9223372036854775808:Int)≤_; omega,by show _≤(9223372036854775807:Int); omega⟩]
 omega
theorem i_rem{n:Nat}:binD .rem .i64 (n:Int) 32=((n%32:Nat):Int):=by
 show (n:Int).tmod 32=_
 rw[Int.tmod_eq_emod_of_nonneg (by omega)]
 omega
theorem pre_bit{e:List Int}{n:Nat}(h:n<256):s_spec_bit.pre [e,[(n:Int)]]:=by
 show evOb C_spec_bit.T (i_spec_bit.tree C_spec_bit) (insE [e,[(n:Int)]])
 refine evObX_ok ?_
 rw[ob_bit,i_quo (by omega),i_rem]
 exact⟨⟨by omega,by omega⟩,by omega,trivial⟩
theorem half2{x a:Int}{r:Nat}(h:r<32):(x+4294967296*a)/2^r%2=x/2^r%2:=by
 have hp:(0:Int)<2^r:=Int.pow_pos (by decide)
 have e:(4294967296:Int)=2^r*(2*2^(31-r)):=by
  rw[show (2:Int)*2^(31-r)=2^(32-r) by rw[show 32-r=(31-r)+1 by omega,Int.pow_succ,Int.mul_comm], ← Int.pow_add,show r+(32-r)=32 by omega]
  rfl
 rw[e,Int.mul_assoc,Int.add_mul_ediv_left _ _ (Int.ne_of_gt hp),Int.mul_assoc,Int.add_mul_emod_self_left]
theorem nv_bit:∀ {l:List Int} {q r:Nat},dg l→r<32→nv l/2^(32*q+r)%2=l.getD q 0/2^r%2
 | [],q,r,_,_=>by simp[nv]
 |x::l,0,r,_,hr=>by
  rw[Nat.mul_zero,Nat.zero_add,List.getD_cons_zero]
  exact half2 hr
 |x::l,q+1,r,h,hr=>by
  obtain⟨h1,h2⟩:=h.cons
  have i:=nv_bit (l:=l) (q:=q) h2 hr
  rw[List.getD_cons_succ, ← i,show 32*(q+1)+r=32+(32*q+r) by omega,Int.pow_add, ← Int.ediv_ediv_of_nonneg (by decide)]
  congr 2
  simp only[nv]
  rw[show (2:Int)^32=4294967296 from rfl]
  omega
theorem dg_at{l:List Int}(h:dg l)(q:Nat):0≤l.getD q 0∧l.getD q 0<4294967296:=by
 by_cases hq:q<l.length
 ·rw[show l.getD q 0=l[q] by simp[List.getD,hq]]
  exact h _ (List.getElem_mem hq)
 ·rw[show l.getD q 0=0 by simp[List.getD,hq]]
  omega
theorem bitO_n8{e:List Int}{E n:Nat}(h:N8 e (E:Int))(hn:n<256):bitO e (n:Int)=b01 (decide (E/2^n%2=1)):=by
 unfold bitO
 rw[i_quo (by omega),i_rem,Int.toNat_natCast]
 have hd:=dg_at h.dg (n/32)
 have e1:u64o .shr (e.getD (n/32) 0) ((n%32:Nat):Int)=e.getD (n/32) 0/2^(n%32):=by
  show (e.getD (n/32) 0).fdiv (2^(min ((n%32:Nat):Int).toNat 64))=_
  rw[Int.toNat_natCast,Nat.min_eq_left (by omega),Int.fdiv_eq_ediv_of_nonneg _ (Int.le_of_lt (Int.pow_pos (by decide)))]
 have e2:0≤e.getD (n/32) 0/2^(n%32):=Int.ediv_nonneg hd.1 (Int.le_of_lt (Int.pow_pos (by decide)))
 rw[e1]
 show b01 ((e.getD (n/32) 0/2^(n%32)).tmod 2 == 1)=_
 rw[Int.tmod_eq_emod_of_nonneg e2, ← nv_bit h.dg (Nat.mod_lt _ (by decide)),Nat.div_add_mod,h.val]
 congr 1
 have e3:(E:Int)/2^n%2=((E/2^n%2:Nat):Int):=by
  rw[Int.natCast_emod,Int.natCast_ediv,pow_cast]; rfl
 rw[e3]
 by_cases hb:E/2^n%2=1
 ·rw[hb]; rfl
 ·rw[decide_eq_false hb]
  have:¬ (((E/2^n%2:Nat):Int)=1):=by omega
  simpa using this
theorem pr_bit:s_spec_bit.pr 0= .i fun a=>d1 (i_spec_bit.raw C_spec_bit 0 a):=rfl
theorem gv_bit{T:Tb}(h:lk 67 T=some (.one s_spec_bit)){e:List Int}{E n:Nat}(he:N8 e (E:Int))(hn:n<256):gv T 67 0 [e,[(n:Int)]]= [b01 (decide (E/2^n%2=1))]:=by
 rw[gv_one h,pr_bit]
 show [d1 (i_spec_bit.raw C_spec_bit 0 [e,[(n:Int)]])]=_
 rw[raw_bit, ← bitO_n8 he hn]
 rfl
theorem b01_0{p:Prop}[Decidable p]:b01 (decide p)=0↔¬ p:=by
 by_cases h:p
 ·rw[decide_eq_true h]
  exact⟨fun e=>absurd (show (1:Int)=0 from e) (by decide),fun e=>absurd h e⟩
 ·rw[decide_eq_false h]
  exact⟨fun _=>h,fun _=>rfl⟩
theorem i_dec{n:Nat}(h:n<1000):binD .sub .i64 ((n+1:Nat):Int) 1=(n:Int):=by
 show IntKind.i64.wrap (((n+1:Nat):Int)-1)=_
 rw[wrap_in (k:=.i64) ⟨by show (-9223372036854775808:Int)≤_; omega,by show _≤(9223372036854775807:Int); omega⟩]
 omega
theorem i_dec0:binD .sub .i64 (0:Int) 1= -1:=by decide +kernel
def ctr:Nat→Int
 |0=> -1
 |n+1=>n
theorem ctr_dec:∀ {n:Nat},n<1000→binD .sub .i64 (ctr (n+1)) 1=ctr n
 |0,_=>i_dec0
 |_+1,h=>i_dec (by omega)
theorem ctr_neg:b01 (decide (ctr 0 ≥ 0))=0:=by decide
theorem ctr_pos(n:Nat):¬ b01 (decide (ctr (n+1) ≥ 0))=0:=by
 rw[b01_0]
 have:ctr (n+1) ≥ 0:=Int.natCast_nonneg n
 exact fun h=>h this
section
variable{st:List (List Int)→Option (Bool×List (List Int))}{ob:List (List Int)→Prop}{ins r:List (List Int)}{f:Nat}
theorem lpOb_end(h:ob ins)(hs:st ins=some (false,r)):lpOb st ob (f+1) ins:=⟨h,by rw[hs]; trivial⟩
theorem lpOb_go(h:ob ins)(hs:st ins=some (true,r))(hn:lpOb st ob f r):lpOb st ob (f+1) ins:=⟨h,by rw[hs]; exact hn⟩
theorem lpRun_end(hs:st ins=some (false,r)):lpRun st (f+1) ins=r:=by unfold lpRun; rw[hs]
theorem lpRun_go(hs:st ins=some (true,r)):lpRun st (f+1) ins=lpRun st f r:=by rw[lpRun]; rw[hs]
end
section
variable{o a e:List Int}{n:Nat}
theorem sp_end:l_spec_power.step Cb_spec_power [[ctr 0],o,a,e]=some (false,[[ctr 0],o,a,e]):=by rw[step_stX,st_power,if_pos ctr_neg]
theorem sp_0(hn:n<1000)(hb:(gv Cb_spec_power.T 67 0 [e,[ctr (n+1)]]).getD 0 0=0):l_spec_power.step Cb_spec_power [[ctr (n+1)],o,a,e]=some (true,[[ctr n],gv Cb_spec_power.T 66 0 [o,o],a,e]):=by rw[step_stX,st_power,if_neg (ctr_pos n),if_pos hb,ctr_dec hn]
theorem sp_1(hn:n<1000)(hb:¬ (gv Cb_spec_power.T 67 0 [e,[ctr (n+1)]]).getD 0 0=0):l_spec_power.step Cb_spec_power [[ctr (n+1)],o,a,e]=some (true,[[ctr n],gv Cb_spec_power.T 66 0 [gv Cb_spec_power.T 66 0 [o,o],a],a,e]):=by rw[step_stX,st_power,if_neg (ctr_pos n),if_neg hb,ctr_dec hn]
theorem if_tt{p:Prop}[Decidable p]:if p then True else True:=by split<;>trivial
theorem ctr_s(n:Nat):ctr (n+1)=(n:Int):=rfl
theorem pre_ctr(hn:n<256):preB e (ctr (n+1)):=by
 rw[ctr_s]
 unfold preB
 exact pre_bit hn
theorem so_end:evOb Cb_spec_power.T (l_spec_power.tree Cb_spec_power) (insE [[ctr 0],o,a,e]):=evObX_ok (by rw[ob_powerl,if_pos ctr_neg]; trivial)
theorem ob_gen{X A c d:Prop}[Decidable c][Decidable d](h:X=if c then True else (A∧if d then True else True))(hc:¬ c)(hA:A):X:=by
 rw[h,if_neg hc]
 exact⟨hA,if_tt⟩
theorem so_go(hn:n<256):evOb Cb_spec_power.T (l_spec_power.tree Cb_spec_power) (insE [[ctr (n+1)],o,a,e]):=evObX_ok (ob_gen ob_powerl (ctr_pos n) (pre_ctr hn))
end
theorem pow_ob:∀ (n:Nat) {f:Nat} {o a e:List Int},n≤256→n<f→lpOb (l_spec_power.step Cb_spec_power) (fun ins=>evOb Cb_spec_power.T (l_spec_power.tree Cb_spec_power) (insE ins)) f [[ctr n],o,a,e]
 |_,0,_,_,_,_,h=>by omega
 |0,f+1,o,a,e,_,_=>lpOb_end so_end sp_end
 |n+1,f+1,o,a,e,hn,hf=>by
  by_cases hb:(gv Cb_spec_power.T 67 0 [e,[ctr (n+1)]]).getD 0 0=0
  ·exact lpOb_go (so_go (by omega)) (sp_0 (by omega) hb) (pow_ob n (by omega) (by omega))
  ·exact lpOb_go (so_go (by omega)) (sp_1 (by omega) hb) (pow_ob n (by omega) (by omega))
theorem ctr_256:ctr 256=255:=rfl
theorem pre_pow_eq{ins:List (List Int)}:l_spec_power.pre Cb_spec_power ins=lpOb (l_spec_power.step Cb_spec_power) (fun ins=>evOb Cb_spec_power.T (l_spec_power.tree Cb_spec_power) (insE ins)) 257 ins:=rfl
theorem pre_power{o a e:List Int}:l_spec_power.pre Cb_spec_power [[255],o,a,e]:=by
 have h:=pow_ob 256 (f:=257) (o:=o) (a:=a) (e:=e) (Nat.le_refl _) (by omega)
 rw[ctr_256] at h
 rw[pre_pow_eq]
 exact h
theorem and_gen{X A:Prop}(h:X=(A∧True))(hA:A):X:=by
 rw[h]
 exact⟨hA,trivial⟩
theorem power_ob{ins:List (List Int)}(h:InsOk i_spec_power.s0.params ins):evOb C_spec_power.T (i_spec_power.tree C_spec_power) (insE ins):=by
 obtain⟨a,b,rfl,-, -⟩:=ins2 h
 exact evObX_ok (and_gen ob_power pre_power)
def pwB(E:Nat)(m:Fp):Nat→Fp→Fp
 |0,x=>x
 |n+1,x=>pwB E m n (if E/2^n%2=1 then x*x*m else x*x)
theorem lk_pt:lk 66 Cb_spec_power.T=some (.one s_spec_times):=by kernel_rfl
theorem lk_pb:lk 67 Cb_spec_power.T=some (.one s_spec_bit):=by kernel_rfl
theorem bit_at{E n:Nat}{e:List Int}(he:N8 e (E:Int))(hn:n<256):(gv Cb_spec_power.T 67 0 [e,[ctr (n+1)]]).getD 0 0=0↔¬ E/2^n%2=1:=by
 have h:gv Cb_spec_power.T 67 0 [e,[ctr (n+1)]]= [b01 (decide (E/2^n%2=1))]:=gv_bit lk_pb he hn
 rw[h,List.getD_cons_zero]
 exact b01_0
theorem pow_run:∀ (n:Nat) {f E:Nat} {o a e:List Int} {x m:Fp},n≤256→n<f→NF o x→NF a m→N8 e (E:Int)→NF ((lpRun (l_spec_power.step Cb_spec_power) f [[ctr n],o,a,e]).getD 1 []) (pwB E m n x)
 |_,0,_,_,_,_,_,_,_,h,_,_,_=>by omega
 |0,f+1,E,o,a,e,x,m,_,_,ho,_,_=>by
  rw[lpRun_end sp_end]
  exact ho
 | n+1,f+1,E,o,a,e,x,m,hn,hf,ho,ha,he=>by
  have h2:=gv_times lk_pt ho ho
  unfold pwB
  by_cases hB:E/2^n%2=1
  ·rw[lpRun_go (sp_1 (by omega) (fun h=>(bit_at he (by omega)).1 h hB)),if_pos hB]
   exact pow_run n (by omega) (by omega) (gv_times lk_pt h2 ha) ha he
  ·rw[lpRun_go (sp_0 (by omega) ((bit_at he (by omega)).2 hB)),if_neg hB]
   exact pow_run n (by omega) (by omega) h2 ha he
theorem pwB_eq(E:Nat)(m:Fp):∀ (n:Nat) (x:Fp),pwB E m n x=fpw x (2^n)*fpw m (E%2^n)
 |0,x=>by
  rw[Nat.pow_zero,Nat.mod_one,fpw_zero,fpw_one]
  show x=x*1
  grind
 | n+1,x=>by
  have e1:fpw (x*x) (2^n)=fpw x (2^(n+1)):=by
   have:x*x=fpw x 2:=by rw[fpw_succ,fpw_one]
   rw[this,fpw_mul,Nat.pow_succ,Nat.mul_comm]
  have e2:E%2^(n+1)=E%2^n+2^n*(E/2^n%2):=by
   rw[Nat.pow_succ,Nat.mod_mul]
  have e3:∀ (a b:Fp) (k:Nat),fpw (a*b) k=fpw a k*fpw b k:=fun a b k=>by
   induction k with
   |zero=>rw[fpw_zero,fpw_zero,fpw_zero]; grind
   |succ k ih=>rw[fpw_succ,fpw_succ,fpw_succ,ih]; grind
  unfold pwB
  rw[pwB_eq E m n,e2]
  split
  ·rename_i hb
   rw[hb,Nat.mul_one,fpw_add,e3,e1]
   grind
  ·rename_i hb
   have:E/2^n%2=0:=by omega
   rw[this,Nat.mul_zero,e1]
   rfl
theorem pwB_one{E n:Nat}(m:Fp)(h:E<2^n):pwB E m n 1=fpw m E:=by
 rw[pwB_eq,Nat.mod_eq_of_lt h]
 generalize 2^n=k
 rw[fpw_1]
 grind
theorem val_power{ins:List (List Int)}:l_spec_power.val Cb_spec_power ins=lpRun (l_spec_power.step Cb_spec_power) 257 ins:=rfl
theorem one_nf:NF (fixL 8 [1,0,0,0,0,0,0,0]) (1:Fp):=by
 have:=small_n8 (x:=1) (by decide)
 rw[raw_small] at this
 exact this
theorem n8_lt{e:List Int}{E n:Nat}(he:N8 e (E:Int))(h:pw 8=((2^n:Nat):Int)):E<2^n:=by
 have:=he.bd.2
 rw[h] at this
 omega
theorem pw8_2:pw 8=((2^256:Nat):Int):=by decide +kernel
theorem power_nf{a e:List Int}{m:Fp}{E:Nat}(ha:NF a m)(he:N8 e (E:Int)):NF (i_spec_power.raw C_spec_power 0 [a,e]) (fpw m E):=by
 have h:=pow_run 256 (f:=257) (Nat.le_refl _) (by omega) one_nf ha he
 rw[pwB_one m (n8_lt he pw8_2),ctr_256] at h
 rw[raw_power,val_power,fixL_id h.len]
 exact h
section
variable{GB:Nat}{GC:Nat→Nat→Option Value}{ad:Nat→Nat×Nat}(hG:GOk GB GC ad)
include hG
theorem ok_spec_power:FEOk Tryz.prog GB GC 85 (.one s_spec_power):=(FnI.finL hG (i:=i_spec_power) (l:=l_spec_power) (T':= [(66,.one s_spec_times),(67,.one s_spec_bit)]) (L:= []) (L':= []) (pre:=fun _=>True) (pl:=l_spec_power.pre Cb_spec_power) (lid:=1000000+85) (Cb:=Cb_spec_power) (C1:=C_spec_power) (by decide) rfl rfl
 (.cons (k:=68) rfl (ok_spec_small hG) Tryz.call68 (FnI.len _ _) .nil) .nil .nil Tryz.func85 rfl rfl rfl (.inl rfl) (.inl rfl) (fun _ _ h=>h)
 (.cons (k:=66) rfl (ok_spec_times hG) Tryz.call66 (fun _=>LenOk_auto _ _ _ _) (.cons (k:=67) rfl (ok_spec_bit hG) Tryz.call67 (FnI.lenP _ _) .nil)) chkl_spec_power (by kernel_rfl) (by kernel_rfl) chk_spec_power fun _ h _=>power_ob h).noPre fun _ _=>trivial
end
end Go.Proofs.YtloibefkijfdlaaGreatDoor
