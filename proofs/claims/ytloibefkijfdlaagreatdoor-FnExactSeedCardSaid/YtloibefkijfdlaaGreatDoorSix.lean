/- Copies of bytes; keys from seeds and from bytes. Keys from seeds and from bytes; keys told. Signing, in plain words. Signing, in plain words: Sign, and the thin package's Sign and SignPrivate. FnSignPrivate: every seed and every message. -/
import Derived.Test.YtloibefkijfdlaaGreatDoorSgx
import Derived.Test.YtloibefkijfdlaaGreatDoorSmx
namespace Go.Proofs.YtloibefkijfdlaaGreatDoor
open Go Go.RowKit Go.Lib
theorem frm_below{w w':World}{S:Nat→Nat→Prop}(h:Below w.heap.size w w'):Frm w w' S:=by
 refine⟨h.size,fun b x hx=> ?_,?_⟩
 ·have hb:b<w.heap.size:=by
   rcases Nat.lt_or_ge b w.heap.size with h2|h2
   ·exact h2
   ·simp[Array.getElem?_eq_none h2] at hx
  exact⟨x,by rw[h.block b hb]; exact hx,.refl _ _⟩
 ·obtain⟨h1,h2,h3,_,_⟩:=h
  exact⟨h1,h3,h2⟩
theorem Msg.nil{w:World}{v:Value}{xs:List Int}(hx:xs= []){ap:Option Addr}{c:Nat}(hv:v= .slice ap 0 c):Msg w v xs:=by
 subst hx; subst hv
 exact⟨ap,c,rfl,Nat.zero_le _,fun x hx=>(by cases hx),fun h=>absurd h (Nat.lt_irrefl 0)⟩
theorem Msg.of_has{w:World}{b o n c:Nat}{xs:List Int}(h:Has8 w b o xs)(hl:xs.length=n)(hc:n≤c):Msg w (.slice (some ⟨b,o,none⟩) n c) xs:=
 ⟨_,c,by rw[hl],by omega,h.1,fun h0=>⟨b,o,rfl,h.lt h0,h.2⟩⟩
theorem Msg.frm{w w':World}{v:Value}{xs:List Int}{S:Nat→Nat→Prop}(h:Msg w v xs)(hf:Frm w w' S)(hS:∀ b i,S b i→w.heap.size≤b):Msg w' v xs:=by
 obtain⟨ap,c,h1,h2,h3,h4⟩:=h
 refine⟨ap,c,h1,h2,h3,fun h0=> ?_⟩
 obtain⟨b,o,e,hb,hc⟩:=h4 h0
 exact⟨b,o,e,Nat.lt_of_lt_of_le hb hf.1,fun i hi=>(hf.hasC (f:=false) ⟨hc i hi,fun h=>(by cases h)⟩ (fun h=>by have:=hS b _ h; omega)).1⟩
theorem Msg.frm0{w w':World}{v:Value}{xs:List Int}(h:Msg w v xs)(hf:Frm w w' (fun _ _=>False)):Msg w' v xs:=h.frm hf fun _ _ h=>h.elim
theorem Msg.has{w:World}{v:Value}{xs:List Int}(h:Msg w v xs)(h0:0<xs.length):∃ b o c,v= .slice (some ⟨b,o,none⟩) xs.length c∧xs.length≤c∧Has8 w b o xs:=by
 obtain⟨ap,c,h1,h2,h3,h4⟩:=h
 obtain⟨b,o,rfl,_,hc⟩:=h4 h0
 exact⟨b,o,c,h1,h2,h3,hc⟩
theorem Has8.memI{w:World}{b o n:Nat}{xs:List Int}(h:Has8 w b o xs)(hl:xs.length=n):MemI false w (b,o) (List.replicate n .u8) xs:=mem8 hl h.1 fun i hi=>⟨h.2 i (by omega),fun h=>by cases h⟩
structure ClP (w:World) (xs:List Int) (e:Ending) (w':World):Prop where
 ret:∃ v',e= .returned v'∧Msg w' v' xs
 frm:Frm w w' (fun _ _=>False)
set_option maxRecDepth 100000 in
set_option maxHeartbeats 2000000 in
theorem clone_has(b o n c:Nat)(xs:List Int)(w:World)(hx:Has8 w b o xs)(hl:xs.length=n)(h0:0<n)(hn:n≤140737488355328):
  Calls Tryz.prog 34 #[.slice (some ⟨b,o,none⟩) n c] w (ClP w xs):=by
 obtain⟨i0,hi,hz0,hz1,hz2⟩:=info_parts i8
 have mx:=mixed
 have t22:=Tryz.underlying22
 have q22:∀ (w:World) (a:Option Addr) (n c n' c':Nat),(binOp .eql 22 (.slice a n c) (.slice none n' c')).run Tryz.prog w= .ok (.bool a.isNone) w:=fun w a n c n' c'=>Lib.run_eql_slice_nil w _ _ a n c n' c' t22
 have ha1:Below w.heap.size w (w.alloc (.cells #[] 5)):=(Below.refl _ w).alloc (Nat.le_refl _) _
 have hx1:∀ j u,(v8 xs)[j]? = some u→(w.alloc (.cells #[] 5)).cell? ((⟨b,o,none⟩:Addr).add j)=some u:=by
  intro j u hj
  have h0:0<xs.length:=by have:=(List.getElem?_eq_some_iff.1 hj).1; simp[v8] at this; omega
  exact (hx.below ha1 (hx.lt h0)).at j u hj
 have hr:=hx.1
 clear hx
 go_enter Tryz.func34,Tryz.ntmps34
 go_wp2_with (at_builtin; refine wpList_append_own _ rfl _ _ 22 rfl w.heap.size 5 i0 (.int .u8 0) 1 1 t22 hi hz0 hz1 hz2 rfl (by decide) _ _ _ rfl (World.ownsRow_made w #[] 0 (Nat.le_refl _) (Nat.zero_le _) rfl) ⟨b,o,none⟩ n c (v8 xs) rfl (by simp[v8,hl]) hx1 v8_one (by unfold maxLen; omega) (by omega) (by simp) ?_; intro v' w1 hown hgrow _; have hb:=grown_new hgrow)
 obtain⟨b',c',rfl,hc',-, -, h8⟩:=own_has (xs:=xs) (by simpa using hown) h0 hr
 clear hown hgrow
 go_wp2
 go_ret
 exact⟨⟨_,rfl,Msg.of_has h8 hl hc'⟩,frm_below hb⟩
set_option maxRecDepth 100000 in
theorem clone_nil(w:World):Calls Tryz.prog 34 #[.slice none 0 0] w (ClP w []):=by
 have t22:=Tryz.underlying22
 have q22:∀ (w:World) (a:Option Addr) (n c n' c':Nat),(binOp .eql 22 (.slice a n c) (.slice none n' c')).run Tryz.prog w= .ok (.bool a.isNone) w:=fun w a n c n' c'=>Lib.run_eql_slice_nil w _ _ a n c n' c' t22
 go_enter Tryz.func34,Tryz.ntmps34
 go_wp2
 go_ret
 exact⟨⟨_,rfl,Msg.nil rfl rfl⟩,Frm.refl _ _⟩
set_option maxRecDepth 100000 in
set_option maxHeartbeats 2000000 in
theorem clone_zero(a:Addr)(c:Nat)(w:World):Calls Tryz.prog 34 #[.slice (some a) 0 c] w (ClP w []):=by
 obtain⟨i0,hi,hz0,hz1,hz2⟩:=info_parts i8
 have mx:=mixed
 have t22:=Tryz.underlying22
 have q22:∀ (w:World) (a:Option Addr) (n c n' c':Nat),(binOp .eql 22 (.slice a n c) (.slice none n' c')).run Tryz.prog w= .ok (.bool a.isNone) w:=fun w a n c n' c'=>Lib.run_eql_slice_nil w _ _ a n c n' c' t22
 go_enter Tryz.func34,Tryz.ntmps34
 go_wp2_with (at_builtin; refine wpList_append_own _ rfl _ _ 22 rfl w.heap.size 5 i0 (.int .u8 0) 1 1 t22 hi hz0 hz1 hz2 rfl (by decide) _ _ _ rfl (World.ownsRow_made w #[] 0 (Nat.le_refl _) (Nat.zero_le _) rfl) a 0 c [] rfl rfl (by intro j u hj; simp at hj) (by intro u hu; cases hu) (by unfold maxLen; omega) (by omega) (by simp) ?_; intro v' w1 hown hgrow _; have hb:=grown_new hgrow)
 obtain⟨a,c',rfl⟩:=own_slice hown
 clear hown hgrow
 go_wp2
 go_ret
 exact⟨⟨_,rfl,Msg.nil rfl rfl⟩,frm_below hb⟩
theorem clone_any{w:World}{v:Value}{xs:List Int}(h:Msg w v xs)(hn:xs.length≤140737488355328)(hz:v= .slice none 0 0∨∃ a n c,v= .slice (some a) n c):Calls Tryz.prog 34 #[v] w (ClP w xs):=by
 rcases Nat.eq_zero_or_pos xs.length with h0|h0
 ·have hx:xs= []:=List.eq_nil_of_length_eq_zero h0
  subst hx
  obtain⟨ap,c,rfl,-, -, -⟩:=h
  rcases hz with e|⟨a,n,c',e⟩
  ·rw[e]; exact clone_nil w
  ·rw[e]
   cases e
   exact clone_zero a c w
 ·obtain⟨b,o,c,rfl,hc,h8⟩:=h.has h0
  exact clone_has b o _ c xs w h8 rfl h0 hn
end Go.Proofs.YtloibefkijfdlaaGreatDoor

namespace Go.Proofs.YtloibefkijfdlaaGreatDoor
open Go
def pk0:List Int:=List.replicate 100 0
noncomputable def nkF(x:List Int):List Int:=gv [(64,.one s_ed25519_newPrivateKeyFromSeed)] 64 0 [pk0,x]
theorem pm_nk:s_ed25519_newPrivateKeyFromSeed.params= [.mem kPK 40 true,.sl (List.replicate 32 .u8) 0 false]:=by kernel_rfl
theorem out_nk:s_ed25519_newPrivateKeyFromSeed.outs= [(0,kPK,fun a=>fixL 100 (i_ed25519_newPrivateKeyFromSeed.raw C_ed25519_newPrivateKeyFromSeed 0 a))]:=by kernel_rfl
theorem ret_nk:s_ed25519_newPrivateKeyFromSeed.ret= [.ptrP 0,.nilI]:=by kernel_rfl
theorem prr_nk:s_ed25519_newPrivateKeyFromSeed.pr 0= .l fun a=>fixL 100 (i_ed25519_newPrivateKeyFromSeed.raw C_ed25519_newPrivateKeyFromSeed 0 a):=rfl
theorem nkF_eq(x:List Int):nkF x=fixL 100 (i_ed25519_newPrivateKeyFromSeed.raw C_ed25519_newPrivateKeyFromSeed 0 [pk0,x]):=by
 unfold nkF
 rw[gv_one lk_me,prr_nk]; rfl
set_option maxRecDepth 100000 in
theorem pre_nk(x:List Int):s_ed25519_newPrivateKeyFromSeed.pre [pk0,x]:=pre_two (ky_pay lk_me pk0 x)
theorem psep_ms{ks js:List IntKind}{g g':Nat}{wr wr':Bool}{b c:Nat×Nat}(h:b.1≠c.1):PSep (.mem ks g wr) (.sl js g' wr') b c:=fun _=>.inr (.inl h)
section
variable{ρ:Operand→Value}{d:Option Tmp}{x y:Operand}{ty:TypeId}{pos:String}{af:Array Edge}{w:World}{b o:Nat}
theorem zK:Tryz.zeroCells84=(intsV kPK pk0).toArray:=by kernel_rfl
theorem e_bldK:(execOp ρ ⟨d,.build 84 #[],ty,pos,af,none⟩).run Tryz.prog w= .ok (.value (.agg (intsV kPK pk0).toArray)) w:=by
 simp[execOp,go_sem,zK]
theorem e_boxK{cs:Array Value}(h:ρ x= .agg cs):(execOp ρ ⟨d,.box 84 x,ty,pos,af,none⟩).run Tryz.prog w= .ok (.value (.pointer (some ⟨w.heap.size,0,none⟩))) (w.alloc (.cells cs 84)):=by
 simp[execOp,go_sem,h]
theorem e_ex4{v0 v1 v2 v3:Value}{k:Nat}(h:ρ x= .tuple #[v0,v1,v2,v3])(hk:k<4):(execOp ρ ⟨d,.extract x k,ty,pos,af,none⟩).run Tryz.prog w= .ok (.value (#[v0,v1,v2,v3].getD k undef)) w:=by
 match k,hk with
 |0,_|1,_|2,_|3,_=>simp[execOp,go_sem,h]
end
section
variable{ρ:Operand→Value}{d:Option Tmp}{x y z:Operand}{ty:TypeId}{pos:String}{af:Array Edge}{w:World}
end
structure KyP (GC:Nat→Nat→Option Value) (pk:List Int) (w:World) (e:Ending) (w':World):Prop where
 ret:∃ B o,e= .returned (.tuple #[.pointer (some ⟨B,o,none⟩),.nilIface])∧w.heap.size≤B∧MemI true w' (B,o) kPK pk
 frm:Frm w w' (fun _ _=>False)
 gw:GW GC w'
section
variable{GB:Nat}{GC:Nat→Nat→Option Value}{ad:Nat→Nat×Nat}(hG:GOk GB GC ad){w:World}(hgw:GW GC w)(hGB:GB≤w.heap.size)
include hG hgw hGB
set_option maxRecDepth 100000 in
theorem nk_any{b o c:Nat}{x:List Int}(hx:Has8 w b o x)(hl:x.length=32)(hc:32≤c):Calls Tryz.prog 33 #[.slice (some ⟨b,o,none⟩) 32 c] w (KyP GC (nkF x) w):=by
 have hb:b<w.heap.size:=hx.lt (by omega)
 refine enter (args:= [.slice (some ⟨b,o,none⟩) 32 c]) Tryz.func33 rfl (n:=12) rfl fun a F=> ?_
 refine w_sr (w_const F rfl fun a F=>w_const F rfl fun a F=>w_end ?_)
 refine w_sr (w_val F rfl rfl rfl e_bldK fun a F=>w_val F rfl rfl rfl (e_boxK (F.ev rfl)) fun a F=>w_assign F rfl fun a F=>w_end ?_)
 have N1:=mem_newI w kPK pk0 84 (allR_of (by decide))
 have f1:Frm w (w.alloc (.cells (intsV kPK pk0).toArray 84)) (fun _ _=>False):=frm_alloc _ _ _
 generalize w.alloc (.cells (intsV kPK pk0).toArray 84)=w1 at N1 f1 ⊢
 have hm:=(hx.memI hl).frm f1 fun _ _ h=>h
 have hcall:=out_gen hG (gw_F hG hgw f1) (Nat.le_trans hGB f1.1) (rv:= [.pointer (some ⟨w.heap.size,0,none⟩),.nilIface]) (ok_ed25519_newPrivateKeyFromSeed hG) pm_nk out_nk ret_nk (b0:=(w.heap.size,0)) (b1:=(b,o)) (x0:=pk0) (x1:=x) ⟨rfl,N1,fun _=>hGB⟩ ⟨c,rfl,hc,hm,fun h=>(by cases h)⟩ (psep_ms (by show w.heap.size≠b; omega)) (pre_nk x) (fun fb vs h=>rvs_pn h)
 refine w_sr (w_move F rfl fun a F=>w_move F rfl fun a F=>w_call F rfl rfl rfl (e_call2 rfl (F.ev rfl) (F.ev rfl) Tryz.call64) hcall fun e w2 h2=>⟨_,h2.ret,fun a F=>w_val F rfl rfl rfl (e_ext (F.ev rfl)) fun a F=>w_val F rfl rfl rfl (e_ext1 (F.ev rfl)) fun a F=>w_assign F rfl fun a F=>w_assign F rfl fun a F=>w_end ?_⟩)
 have hmem:MemI true w2 (w.heap.size,0) kPK (nkF x):=by rw[nkF_eq]; exact h2.mem
 refine w_ret ⟨F.df,.tuple #[.pointer (some ⟨w.heap.size,0,none⟩),.nilIface],?_,⟨w.heap.size,0,rfl,Nat.le_refl _,hmem⟩,f1.trans' h2.frm fun b' i hb' (h:b'=w.heap.size)=>by omega,h2.gw⟩
 have q2:=F.tm 2
 have q3:=F.tm 3
 rw[Array.getD_eq_getD_getElem?] at q2 q3
 simp[results,Tryz.results33,go_sem]
 exact⟨q2,q3⟩
end
end Go.Proofs.YtloibefkijfdlaaGreatDoor

namespace Go.Proofs.YtloibefkijfdlaaGreatDoor
open Go
structure FrP (GC:Nat→Nat→Option Value) (n:Nat) (l:List Int) (w:World) (e:Ending) (w':World):Prop where
 ret:∃ B o,e= .returned (.slice (some ⟨B,o,none⟩) n n)∧Has8 w' B o l∧l.length=n
 frm:Frm w w' (fun _ _=>False)
 gw:GW GC w'
theorem raw_kb{pk:List Int}:i_ed25519_PrivateKey_Bytes.raw C_ed25519_PrivateKey_Bytes 0 [pk]=cp pk 0 64:=by kernel_rfl
theorem raw_ks{pk:List Int}:i_ed25519_PrivateKey_Seed.raw C_ed25519_PrivateKey_Seed 0 [pk]=cp pk 0 32:=by kernel_rfl
theorem raw_kp{pk:List Int}:i_ed25519_PrivateKey_PublicKey.raw C_ed25519_PrivateKey_PublicKey 0 [pk]=cp pk 32 32:=by kernel_rfl
section
variable{GB:Nat}{GC:Nat→Nat→Option Value}{ad:Nat→Nat×Nat}(hG:GOk GB GC ad){w:World}(hgw:GW GC w)(hGB:GB≤w.heap.size)
theorem fr_gen{f n m g:Nat}{i:FnI}{C:Cx}{ks:List IntKind}{z:PF}{b o:Nat}{l:List Int}{w:World}(hgw:GW GC w)(hGB:GB≤w.heap.size)(hok:FEOk Tryz.prog GB GC f (.one (i.sum C)))(hp:i.s0.params= [.mem ks g false])(hout:i.s0.outs= [])(hfr:i.s0.fresh= [(List.replicate n .u8,z)])(hret:i.s0.ret= [.slF 0 m n])(hmn:m=n)(hm:MemI false w (b,o) ks l){r:List Int}(hr:i.raw C 0 [l]=r)(hl:r.length=n):Calls Tryz.prog f #[.pointer (some ⟨b,o,none⟩)] w (FrP GC n r w):=by
 subst hmn
 have hP:PMs GB w (FE.sel (.one (i.sum C)) true).params [.pointer (some ⟨b,o,none⟩)] [l] [(b,o)]:=by
  show PMs GB w i.s0.params _ _ _
  rw[hp]; exact⟨⟨rfl,hm,fun h=>(by cases h)⟩,trivial⟩
 have hS:PSeps (FE.sel (.one (i.sum C)) true).params [(b,o)]:=by
  show PSeps i.s0.params _
  rw[hp]; exact⟨fun x hx=>(by cases hx),trivial⟩
 refine (hok true _ [l] [(b,o)] w hgw hGB hP hS (fun h=>(by cases h)) rfl).mono fun e w' ⟨fb,vs,he,hq⟩=> ?_
 simp only[FE.sel] at hq
 have ef:(i.sum C).fresh= [(List.replicate m .u8,fun a=>fixL (List.replicate m IntKind.u8).length (i.raw C 0 a))]:=by
  show withF (i.raw C) i.s0.outs.length i.s0.fresh=_
  rw[hout,hfr]; rfl
 have er:(i.sum C).ret= [.slF 0 m m]:=by
  show withR (i.raw C) (i.s0.outs.length+i.s0.fresh.length) i.s0.ret=_
  rw[hret]; rfl
 have hrr:=hq.ret
 have hff:=hq.fresh
 rw[er] at hrr
 rw[ef] at hff
 match vs,hrr with
 | [v],hrr=>
 obtain⟨b',f0,hv⟩:=hrr.1
 subst hv
 have h8:=Has8.of_mem (hff 0 _ b' rfl f0)
 have e1:fixL (List.replicate m IntKind.u8).length (i.raw C 0 [l])=r:=by rw[hr,List.length_replicate]; exact fixL_id hl
 simp only at h8
 rw[e1] at h8
 refine⟨⟨b'.1,b'.2,he,h8,hl⟩,hq.frm.mono fun b o _ hs=> ?_,hq.gw⟩
 obtain⟨p,hp',_⟩:=hs
 have:(i.sum C).outs= []:=by
  show withO (i.raw C) 0 i.s0.outs= []
  rw[hout]; rfl
 rw[this] at hp'; cases hp'
include hG hgw hGB
theorem kb_any{b o:Nat}{pk:List Int}(hm:MemI false w (b,o) kPK pk):Calls Tryz.prog 61 #[.pointer (some ⟨b,o,none⟩)] w (FrP GC 64 (cp pk 0 64) w):=fr_gen hgw hGB (ok_ed25519_PrivateKey_Bytes hG) rfl rfl rfl rfl rfl hm raw_kb (cp_len _ _ _)
theorem ks_any{b o:Nat}{pk:List Int}(hm:MemI false w (b,o) kPK pk):Calls Tryz.prog 62 #[.pointer (some ⟨b,o,none⟩)] w (FrP GC 32 (cp pk 0 32) w):=fr_gen hgw hGB (ok_ed25519_PrivateKey_Seed hG) rfl rfl rfl rfl rfl hm raw_ks (cp_len _ _ _)
theorem kp_any{b o:Nat}{pk:List Int}(hm:MemI false w (b,o) kPK pk):Calls Tryz.prog 63 #[.pointer (some ⟨b,o,none⟩)] w (FrP GC 32 (cp pk 32 32) w):=fr_gen hgw hGB (ok_ed25519_PrivateKey_PublicKey hG) rfl rfl rfl rfl rfl hm raw_kp (cp_len _ _ _)
end
theorem clone_of{w:World}{b o n:Nat}{xs:List Int}(h:Has8 w b o xs)(hl:xs.length=n)(hn:n≤1000):Calls Tryz.prog 34 #[.slice (some ⟨b,o,none⟩) n n] w (ClP w xs):=by
 subst hl
 exact clone_any (Msg.of_has h rfl (Nat.le_refl _)) (by omega) (.inr ⟨_,_,_,rfl⟩)
structure TdP (GC:Nat→Nat→Option Value) (pk:List Int) (w:World) (e:Ending) (w':World):Prop where
 ret:∃ v0 v1 v2,e= .returned (.tuple #[v0,v1,v2,.bool true])∧Msg w' v0 (cp pk 0 64)∧Msg w' v1 (cp pk 0 32)∧Msg w' v2 (cp pk 32 32)
 frm:Frm w w' (fun _ _=>False)
 gw:GW GC w'
section
variable{GB:Nat}{GC:Nat→Nat→Option Value}{ad:Nat→Nat×Nat}(hG:GOk GB GC ad){w:World}(hgw:GW GC w)(hGB:GB≤w.heap.size)
include hG hgw hGB
set_option maxRecDepth 100000 in
theorem told_any{b o:Nat}{pk:List Int}(hm:MemI false w (b,o) kPK pk):Calls Tryz.prog 32 #[.pointer (some ⟨b,o,none⟩),.nilIface] w (TdP GC pk w):=by
 refine enter (args:= [.pointer (some ⟨b,o,none⟩),.nilIface]) Tryz.func32 rfl (n:=19) rfl fun a F=> ?_
 refine w_sr (w_const F rfl fun a F=>w_const F rfl fun a F=>w_const F rfl fun a F=>w_const F rfl fun a F=>w_end ?_)
 refine wp_seq (w_sr (w_move F rfl fun a F=>w_val F rfl rfl rfl (e_nif (F.ev rfl) rfl) fun a F=>w_end (wp_cond_false (F.ev rfl) (wp_skip ?_))))
 show Code.wp _ _ _ _ _
 refine w_sr (w_move F rfl fun a F=>w_call F rfl rfl rfl (e_call1 rfl (F.ev rfl) Tryz.call61) (kb_any hG hgw hGB hm) fun e w1 h1=> ?_)
 obtain⟨B1,o1,he1,hh1,hl1⟩:=h1.ret
 have g1:=h1.frm
 refine⟨_,he1,fun a F=>w_call F rfl rfl rfl (e_call1 rfl (F.ev rfl) Tryz.call34) (clone_of hh1 hl1 (by omega)) fun e w2 h2=> ?_⟩
 obtain⟨v0,he2,m0⟩:=h2.ret
 have g2:=g1.trans h2.frm
 refine⟨_,he2,fun a F=>w_move F rfl fun a F=>w_call F rfl rfl rfl (e_call1 rfl (F.ev rfl) Tryz.call62) (ks_any hG (gw_F hG hgw g2) (Nat.le_trans hGB g2.1) (hm.frm g2 fun _ _ h=>h)) fun e w3 h3=> ?_⟩
 obtain⟨B3,o3,he3,hh3,hl3⟩:=h3.ret
 have g3:=g2.trans h3.frm
 refine⟨_,he3,fun a F=>w_call F rfl rfl rfl (e_call1 rfl (F.ev rfl) Tryz.call34) (clone_of hh3 hl3 (by omega)) fun e w4 h4=> ?_⟩
 obtain⟨v1,he4,m1⟩:=h4.ret
 have g4:=g3.trans h4.frm
 refine⟨_,he4,fun a F=>w_move F rfl fun a F=>w_call F rfl rfl rfl (e_call1 rfl (F.ev rfl) Tryz.call63) (kp_any hG (gw_F hG hgw g4) (Nat.le_trans hGB g4.1) (hm.frm g4 fun _ _ h=>h)) fun e w5 h5=> ?_⟩
 obtain⟨B5,o5,he5,hh5,hl5⟩:=h5.ret
 have g5:=g4.trans h5.frm
 refine⟨_,he5,fun a F=>w_call F rfl rfl rfl (e_call1 rfl (F.ev rfl) Tryz.call34) (clone_of hh5 hl5 (by omega)) fun e w6 h6=> ?_⟩
 obtain⟨v2,he6,m2⟩:=h6.ret
 have g6:=g5.trans h6.frm
 refine⟨_,he6,fun a F=>w_assign F rfl fun a F=>w_assign F rfl fun a F=>w_assign F rfl fun a F=>w_const F rfl fun a F=>w_end ?_⟩
 refine w_ret ⟨F.df,.tuple #[v0,v1,v2,.bool true],?_,⟨v0,v1,v2,rfl,((m0.frm0 h3.frm).frm0 h4.frm).frm0 (h5.frm.trans h6.frm),m1.frm0 (h5.frm.trans h6.frm),m2⟩,g6,gw_F hG hgw g6⟩
 have q4:=F.tm 4
 have q5:=F.tm 5
 have q6:=F.tm 6
 have q7:=F.tm 7
 rw[Array.getD_eq_getD_getElem?] at q4 q5 q6 q7
 simp[results,Tryz.results32,go_sem]
 exact⟨q4,q5,q6,q7⟩
set_option maxRecDepth 100000 in
theorem fs_any{v:Value}{x:List Int}(hx:Msg w v x)(hl:x.length=32):Calls Tryz.prog 17 #[v] w (TdP GC (nkF x) w):=by
 obtain⟨b,o,c,rfl,hc,h8⟩:=hx.has (by omega)
 refine enter (args:= [.slice (some ⟨b,o,none⟩) x.length c]) Tryz.func17 rfl (n:=16) rfl fun a F=> ?_
 refine w_sr (w_const F rfl fun a F=>w_const F rfl fun a F=>w_const F rfl fun a F=>w_const F rfl fun a F=>w_end ?_)
 refine w_sr (w_move F rfl fun a F=>w_call F rfl rfl rfl (e_call1 rfl (F.ev rfl) Tryz.call34) (clone_any hx (by omega) (.inr ⟨_,_,_,rfl⟩)) fun e w1 h1=> ?_)
 obtain⟨v1,he1,m1⟩:=h1.ret
 have g1:=h1.frm
 obtain⟨b1,o1,c1,rfl,hc1,h81⟩:=m1.has (by omega)
 refine⟨_,he1,fun a F=>w_call F rfl rfl rfl (e_call1 rfl (F.ev rfl) Tryz.call33) (by rw[hl]; exact nk_any hG (gw_F hG hgw g1) (Nat.le_trans hGB g1.1) h81 hl (by omega)) fun e w2 h2=> ?_⟩
 obtain⟨B,o2,he2,hB,M2⟩:=h2.ret
 have g2:=g1.trans h2.frm
 refine⟨_,he2,fun a F=>w_val F rfl rfl rfl (e_ext (F.ev rfl)) fun a F=>w_val F rfl rfl rfl (e_ext1 (F.ev rfl)) fun a F=>w_call F rfl rfl rfl (e_call2 rfl (F.ev rfl) (F.ev rfl) Tryz.call32) (told_any hG h2.gw (Nat.le_trans hGB g2.1) ⟨M2.1,fun i k x a b=>(M2.2 i k x a b).weak⟩) fun e w3 h3=> ?_⟩
 obtain⟨v0,v1,v2,he3,m0,m1,m2⟩:=h3.ret
 have g3:=g2.trans h3.frm
 refine⟨_,he3,fun a F=>w_val F rfl rfl rfl (e_ex4 (F.ev rfl) (k:=0) (by omega)) fun a F=>w_val F rfl rfl rfl (e_ex4 (F.ev rfl) (k:=1) (by omega)) fun a F=>w_val F rfl rfl rfl (e_ex4 (F.ev rfl) (k:=2) (by omega)) fun a F=>w_val F rfl rfl rfl (e_ex4 (F.ev rfl) (k:=3) (by omega)) fun a F=>w_assign F rfl fun a F=>w_assign F rfl fun a F=>w_assign F rfl fun a F=>w_assign F rfl fun a F=>w_end ?_⟩
 refine w_ret ⟨F.df,.tuple #[v0,v1,v2,.bool true],?_,⟨v0,v1,v2,rfl,m0,m1,m2⟩,g3,h3.gw⟩
 have q4:=F.tm 2
 have q5:=F.tm 3
 have q6:=F.tm 4
 have q7:=F.tm 5
 rw[Array.getD_eq_getD_getElem?] at q4 q5 q6 q7
 simp[results,Tryz.results17,go_sem]
 exact⟨q4,q5,q6,q7⟩
end
end Go.Proofs.YtloibefkijfdlaaGreatDoor

namespace Go.Proofs.YtloibefkijfdlaaGreatDoor
open Go
section
variable{GB:Nat}{GC:Nat→Nat→Option Value}{ad:Nat→Nat×Nat}(hG:GOk GB GC ad){w:World}(hgw:GW GC w)(hGB:GB≤w.heap.size)
include hG hgw hGB
end
end Go.Proofs.YtloibefkijfdlaaGreatDoor

namespace Go.Proofs.YtloibefkijfdlaaGreatDoor
open Go Go.RowKit Go.ChangeShapes Go.WideShapes
def LawP(w:World)(e:Ending)(w':World):Prop:=e= .returned (.bool true)∧Below w.heap.size w w'
set_option maxRecDepth 100000 in
theorem open_msg{H:Type}{enc:TypeId×Value→H}{W:World}{base:Nat}{v:Value}{d:DataW H}{p:List MemPlace}(hval:Value.okWide Tryz.prog W .any base 22 v)(h:DataW.Trod enc Tryz.prog W 0 (fun _=>true) true 22 v d p):
  ∃ a n c xs,v= .slice a n c∧Msg W v xs∧xs.length=n∧(v= .slice none 0 0∨∃ a n c,v= .slice (some a) n c):=by
 rcases open_u8 Tryz.underlying22 Tryz.underlying5 (by kernel_rfl) hval h with ⟨rfl,_,_⟩|⟨a,n,c,zs,rfl,hnc,hcm,hz,_,_,hcell,hr,hsp⟩
 ·exact⟨none,0,0,[],rfl,Msg.nil rfl rfl,rfl,.inl rfl⟩
 ·have hl:(zs.take n).length=n:=by rw[List.length_take]; omega
  refine⟨some a,n,c,zs.take n,rfl,?_,hl,.inr ⟨_,_,_,rfl⟩⟩
  rcases Nat.eq_zero_or_pos n with h0|h0
  ·subst h0; exact Msg.nil rfl rfl
  ·obtain⟨b,o,s⟩:=a
   have hs:s=none:=hsp (by omega)
   subst hs
   refine Msg.of_has ⟨fun x hx=>hr x (List.mem_of_mem_take hx),fun i hi=> ?_⟩ hl hnc
   rw[hl] at hi
   have:=hcell i (by omega)
   rw[Addr.add_lit] at this
   rw[this]
   simp[List.getD,hi]
section
variable{GB:Nat}{GC:Nat→Nat→Option Value}{ad:Nat→Nat×Nat}(hG:GOk GB GC ad)
include hG
end
end Go.Proofs.YtloibefkijfdlaaGreatDoor
