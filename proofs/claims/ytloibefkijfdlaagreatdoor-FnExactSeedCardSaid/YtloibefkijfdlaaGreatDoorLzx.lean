/- The reference's public key of a seed, by hand. FnExactSeed: every seed. -/
import Derived.Test.YtloibefkijfdlaaGreatDoorKz
import Derived.Test.YtloibefkijfdlaaGreatDoorLa
import Derived.Test.YtloibefkijfdlaaGreatDoorSix
import Derived.WalkMore
import Derived.Lib.ItoaLen
namespace Go.Proofs.YtloibefkijfdlaaGreatDoor
open Go Go.RowKit Go.Lib Ma
def B32k:List IntKind:=List.replicate 32 .u8
section
variable{GB:Nat}{GC:Nat→Nat→Option Value}{ad:Nat→Nat×Nat}(hG:GOk GB GC ad){w:World}(hgw:GW GC w)(hGB:GB≤w.heap.size)
include hG hgw hGB
omit hG hgw hGB in
theorem raw_thirty{x:List Int}:i_spec_thirty.raw C_spec_thirty 0 [x]=sb x 0 32:=by kernel_rfl
theorem thirty_any{b o c:Nat}{x:List Int}(hm:MemI false w (b,o) B32k x)(hc:32≤c):Calls Tryz.prog 38 #[.slice (some ⟨b,o,none⟩) 32 c] w (AgP GC B32k x w):=by
 have:=agg_gen (F:=fun a=>fixL 32 (i_spec_thirty.raw C_spec_thirty 0 a)) (ks:=B32k) (args:= [.slice (some ⟨b,o,none⟩) 32 c]) (ins:= [x]) (bs:= [(b,o)]) hgw hGB (ok_spec_thirty hG) rfl rfl ⟨⟨c,rfl,hc,hm,fun h=>(by cases h)⟩,trivial⟩ sep1 (fun h=>absurd (show false=true from h) (by decide))
 have hl:x.length=32:=hm.1.1
 rw[raw_thirty,sb_id hl,fixL_id hl] at this
 exact this
theorem clamped_any{x:List Int}(hx:AllR B32k x):Calls Tryz.prog 37 #[.agg (intsV B32k x).toArray] w (AgP GC U8 (i_spec_clamped.raw C_spec_clamped 0 [x]) w):=by
 have:=agg_gen (F:=fun a=>fixL 8 (i_spec_clamped.raw C_spec_clamped 0 a)) (ks:=U8) (args:= [.agg (intsV B32k x).toArray]) (ins:= [x]) (bs:= [(0,0)]) hgw hGB (ok_spec_clamped hG) rfl rfl ⟨⟨hx,rfl⟩,trivial⟩ sep1 (fun h=>absurd (show false=true from h) (by decide))
 obtain⟨h1,h2⟩:=hx.by8
 rw[fixL_id (clamped_n8 h1 h2).1.len] at this
 exact this
theorem generator_any:Calls Tryz.prog 40 #[] w (AgP GC U24 (i_spec_generator.raw C_spec_generator 0 []) w):=by
 have:=agg_gen (F:=fun a=>fixL 24 (i_spec_generator.raw C_spec_generator 0 a)) (ks:=U24) (args:= []) (ins:= []) (bs:= []) hgw hGB (ok_spec_generator hG) rfl rfl trivial trivial (fun h=>absurd (show false=true from h) (by decide))
 rw[fixL_id generator_pj.len] at this
 exact this
theorem multiple_any{n p:List Int}{P:Pt}{E:Nat}(hn:AllR U8 n)(hp:AllR U24 p)(h8:N8 n (E:Int))(hP:Pj p P):Calls Tryz.prog 36 #[.agg (intsV U8 n).toArray,.agg (intsV U24 p).toArray] w (AgP GC U24 (i_spec_multiple.raw C_spec_multiple 0 [n,p]) w):=by
 have:=agg_gen (F:=fun a=>fixL 24 (i_spec_multiple.raw C_spec_multiple 0 a)) (ks:=U24) (args:= [.agg (intsV U8 n).toArray,.agg (intsV U24 p).toArray]) (ins:= [n,p]) (bs:= [(0,0),(0,0)]) hgw hGB (ok_spec_multiple hG) rfl rfl ⟨⟨hn,rfl⟩,⟨hp,rfl⟩,trivial⟩ (sep_a sep1) (fun h=>absurd (show false=true from h) (by decide))
 rw[fixL_id (multiple_pj h8 hP).len] at this
 exact this
theorem encoded_any{p:List Int}{P:Pt}(hp:AllR U24 p)(hP:Pj p P):Calls Tryz.prog 35 #[.agg (intsV U24 p).toArray] w (AgP GC B32k (encP P) w):=by
 have:=agg_gen (F:=fun a=>fixL 32 (i_spec_encoded.raw C_spec_encoded 0 a)) (ks:=B32k) (args:= [.agg (intsV U24 p).toArray]) (ins:= [p]) (bs:= [(0,0)]) hgw hGB (ok_spec_encoded hG) rfl rfl ⟨⟨hp,rfl⟩,trivial⟩ sep1 (fun h=>absurd (show false=true from h) (by decide))
 rw[encoded_eq hP,fixL_id (encP_len P)] at this
 exact this
end
section
variable{ρ:Operand→Value}{d:Option Tmp}{x y:Operand}{ty:TypeId}{pos:String}{af:Array Edge}{w:World}{b o:Nat}
theorem e_al32:(execOp ρ ⟨d,.alloc 48,ty,pos,af,none⟩).run Tryz.prog w= .ok (.value (.pointer (some ⟨w.heap.size,0,none⟩))) (w.alloc (.cells (Array.replicate 32 (.int .u8 0)) 48)):=by
 simp[execOp,go_sem]
 rfl
end
theorem gw_e{GB:Nat}{GC:Nat→Nat→Option Value}{ad:Nat→Nat×Nat}(hG:GOk GB GC ad){w w':World}(hgw:GW GC w)(hf:Frm w w' (fun _ _=>False))(hGB:GB≤w.heap.size):GW GC w':=gw_frm hG hgw (hf.mono (S':=fun b _=>b=w.heap.size) fun _ _ _ h=>h.elim) hGB
theorem sdN_nat(x:List Int):((sdN x).toNat:Int)=sdN x:=by
 have h:=(clamped_n8 (take32 x) (take32_8 x)).1.bd.1
 exact Int.toNat_of_nonneg h
set_option maxRecDepth 100000 in
theorem public_any{GB:Nat}{GC:Nat→Nat→Option Value}{ad:Nat→Nat×Nat}(hG:GOk GB GC ad){w:World}{D:Value}{m:List Int}(hgw:GW GC w)(hGB:GB≤w.heap.size)(hD:Msg w D m)(h0:0<m.length)(hlen:m.length<1000000000000):
  Calls Tryz.prog 18 #[D] w (MsP GC (encP (ptB.zm (sdN m))) w):=by
 refine enter (args:= [D]) Tryz.func18 rfl (n:=13) rfl fun a F=> ?_
 refine w_sr (w_const F rfl fun a F=>w_end ?_)
 refine w_sr (w_move F rfl fun a F=>w_call F rfl rfl rfl (e_call1 rfl (F.ev rfl) Tryz.call39) (sum5_any hG hgw hGB hD h0 hlen) fun e w1 h1=> ?_)
 obtain⟨v1,he1,m1⟩:=h1.ret
 obtain⟨b,o,c,hv1,hc,h8⟩:=m1.has (by rw[sha_len]; omega)
 rw[sha_len] at hv1 hc
 subst hv1
 have g1:=h1.frm
 have G1:=Nat.le_trans hGB g1.1
 refine⟨_,he1,fun a F=>w_val F rfl rfl rfl (e_shi (k:=32) (F.ev rfl) rfl (by omega)) fun a F=> ?_⟩
 have M1:MemI false w1 (b,o) B32k ((sha m).take 32):=by
  have:=(h8.memI (sha_len m)).take (n:=32) (by omega)
  exact this
 refine w_call F rfl rfl rfl (e_call1 rfl (F.ev rfl) Tryz.call38) (thirty_any hG h1.gw G1 M1 (by omega)) fun e w2 h2=>⟨_,h2.ret,fun a F=> ?_⟩
 have g2:=g1.trans h2.frm
 have G2:=Nat.le_trans hGB g2.1
 refine w_call F rfl rfl rfl (e_call1 rfl (F.ev rfl) Tryz.call37) (clamped_any hG h2.gw G2 h2.rng) fun e w3 h3=>⟨_,h3.ret,fun a F=> ?_⟩
 have g3:=g2.trans h3.frm
 have G3:=Nat.le_trans hGB g3.1
 have hN:N8 (i_spec_clamped.raw C_spec_clamped 0 [(sha m).take 32]) (((sdN m).toNat:Nat):Int):=by
  rw[sdN_nat]
  exact (clamped_n8 (take32 m) (take32_8 m)).1
 refine w_call F rfl rfl rfl (e_call0 rfl Tryz.call40) (generator_any hG h3.gw G3) fun e w4 h4=>⟨_,h4.ret,fun a F=> ?_⟩
 have g4:=g3.trans h4.frm
 have G4:=Nat.le_trans hGB g4.1
 refine w_call F rfl rfl rfl (e_call2 rfl (F.ev rfl) (F.ev rfl) Tryz.call36) (multiple_any hG h4.gw G4 h3.rng h4.rng hN generator_pj) fun e w5 h5=>⟨_,h5.ret,fun a F=> ?_⟩
 have g5:=g4.trans h5.frm
 have G5:=Nat.le_trans hGB g5.1
 refine w_call F rfl rfl rfl (e_call1 rfl (F.ev rfl) Tryz.call35) (encoded_any hG h5.gw G5 h5.rng (multiple_pj hN generator_pj)) fun e w6 h6=>⟨_,h6.ret,fun a F=> ?_⟩
 have g6:=g5.trans h6.frm
 have hP:ptB.nm (sdN m).toNat=ptB.zm (sdN m):=by rw[← zm_nm,sdN_nat]
 have hr6:=h6.rng
 have hcl:=intsV_len h6.rng.1
 rw[hP] at hr6 hcl F
 clear h1 h2 h3 h4 h5 h6
 refine w_val F rfl rfl rfl e_al32 fun a F=> ?_
 have M7:=mem_new w6 32 .u8 48 ⟨by decide,by decide⟩
 have f7:=g6.trans (frm_alloc w6 (.cells (Array.replicate 32 (.int .u8 0)) 48) (fun _ _=>False))
 generalize w6.alloc (.cells (Array.replicate 32 (.int .u8 0)) 48)=w7 at M7 f7 ⊢
 refine w_skip F rfl rfl (e_stA (cs:=intsV B32k (encP (ptB.zm (sdN m)))) (fun w=>by rw[hcl]; simp[go_sem]; rfl) (F.ev rfl) (F.ev rfl) intsV_one (fun j hj=>M7.ex j (by rw[hcl] at hj; exact hj))) fun a F=>w_end ?_
 have M8:=mem_st hr6 M7.ex
 have f8:=frm_setCells (S:=fun _ _=>False) (b:=w6.heap.size) (intsV B32k (encP (ptB.zm (sdN m)))) 0 f7 fun _ _=>.inl g6.1
 generalize w7.setCells w6.heap.size 0 (intsV B32k (encP (ptB.zm (sdN m))))=w8 at M8 f8 ⊢
 refine w_sr (w_val F rfl rfl rfl (e_s32 (F.ev rfl)) fun a F=>w_assign F rfl fun a F=>w_end ?_)
 have H8:Has8 w8 w6.heap.size 0 (encP (ptB.zm (sdN m))):=⟨M8.rng8,fun i hi=>(M8.at8 (by rw[encP_len] at hi; exact hi)).1.1⟩
 refine w_ret ⟨F.df,.slice (some ⟨w6.heap.size,0,none⟩) 32 32,?_,⟨_,rfl,Msg.of_has H8 (encP_len _) (Nat.le_refl _)⟩,f8,gw_e hG hgw f8 hGB⟩
 have h2:=F.tm 2
 rw[Array.getD_eq_getD_getElem?] at h2
 simp[results,Tryz.results18,go_sem]
 exact h2
end Go.Proofs.YtloibefkijfdlaaGreatDoor

namespace Go.Proofs.YtloibefkijfdlaaGreatDoor
open Go Ma Go.RowKit Go.Lib Go.ChangeShapes Go.WideShapes
def ErrP(w:World)(e:Ending)(w':World):Prop:=(∃ t x,e= .returned (.tuple #[.pointer none,.iface t x]))∧Below w.heap.size w w'
set_option maxRecDepth 100000 in
set_option maxHeartbeats 2000000 in
theorem nsk_bad (p:Addr) (a:Option Addr) (n c:Nat) (w:World) (hn:((n:Int) == 32)=false) (hb:(n:Int)≤2147483647) (htab:Lib.TabIs Tryz.prog w "internal/strconv.uint64pow10" .u64 Lib.pow10Tab):
  Calls Tryz.prog 64 #[.pointer (some p),.slice a n c] w (ErrP w):=by
 have mx:=mixed
 have hlen:33+(Lib.itoa (n:Int)).length≤9223372036854775807:=by
  have:=Lib.itoa_length_le (n:Int) (by omega) (by omega)
  omega
 go_enter Tryz.func64,Tryz.ntmps64
 go_wp2_with (first
  |(go_at_call 82; refine (Tryz.strconv_Itoa _ (by omega) (by omega) _ htab).mono ?_; rintro e w' ⟨rfl,k,os,rfl⟩; have hb1:=grow_below w k os)
  |go_in)
 go_ret2
 exact⟨⟨_,_,rfl⟩,hb1.alloc hb1.size _⟩
def BadP(w:World)(e:Ending)(w':World):Prop:=e= .returned (.tuple #[.slice none 0 0,.slice none 0 0,.slice none 0 0,.bool false])∧Below w.heap.size w w'
theorem told_bad(p:Value)(t:TypeId)(x:Value)(w:World):Calls Tryz.prog 32 #[p,.iface t x] w fun e w'=>e= .returned (.tuple #[.slice none 0 0,.slice none 0 0,.slice none 0 0,.bool false])∧w=w':=by
 go_enter Tryz.func32,Tryz.ntmps32
 go_wp2
 exact bodyPost_ret (v:=.tuple #[.slice none 0 0,.slice none 0 0,.slice none 0 0,.bool false]) (by simp[results,Tryz.results32,go_sem]) rfl ⟨rfl,rfl⟩
def CloneP(w:World)(n:Nat)(e:Ending)(w':World):Prop:=∃ a c,e= .returned (.slice a n c)∧Below w.heap.size w w'
theorem clone_p{w:World}{v:Value}{xs:List Int}(h:Msg w v xs)(hn:xs.length≤140737488355328)(hz:v= .slice none 0 0∨∃ a n c,v= .slice (some a) n c):Calls Tryz.prog 34 #[v] w (CloneP w xs.length):=by
 refine (clone_any h hn hz).mono fun e w' h1=> ?_
 obtain⟨v',he,m⟩:=h1.ret
 obtain⟨ap,c,hv,-⟩:=m
 exact⟨ap,c,by rw[he,hv],below_of h1.frm fun _ _ h=>h⟩
set_option maxRecDepth 100000 in
set_option maxHeartbeats 2000000 in
theorem fsd_bad (v:Value) (n:Nat) (w:World) (hc:Calls Tryz.prog 34 #[v] w (CloneP w n)) (hn:((n:Int) == 32)=false) (hb:(n:Int)≤2147483647) (htab:Lib.TabIs Tryz.prog w "internal/strconv.uint64pow10" .u64 Lib.pow10Tab):
  Calls Tryz.prog 17 #[v] w (BadP w):=by
 have mx:=mixed
 go_enter Tryz.func17,Tryz.ntmps17
 go_wp2_with (first
  |(go_at_call 34; refine hc.mono ?_; clear hc; rintro e w1 ⟨a,c,rfl,hb1⟩; have htab1:=tab_below htab hb1)
  |(go_at_call 64; refine (nsk_bad _ _ _ _ _ hn hb (tab_below htab1 ((Below.refl _ _).alloc (Nat.le_refl _) _))).mono ?_; rintro e w2 ⟨⟨t,x,rfl⟩,hb2⟩)
  |(go_at_call 32; refine (told_bad _ _ _ _).mono ?_; rintro e w3 ⟨rfl,rfl⟩)
  |go_in)
 have hb3:Below w1.heap.size w1 w2:=((Below.refl _ w1).alloc (Nat.le_refl _) _).trans (hb2.mono (by simp))
 exact bodyPost_ret (v:=.tuple #[.slice none 0 0,.slice none 0 0,.slice none 0 0,.bool false]) (by simp[results,Tryz.results17,go_sem]) rfl ⟨rfl,hb1.trans (hb3.mono hb1.size)⟩
set_option maxRecDepth 100000 in
set_option maxHeartbeats 2000000 in
theorem ex_bad(a:Option Addr)(n c:Nat)(w:World)(hfs:Calls Tryz.prog 17 #[.slice a n c] w (BadP w))(hn:((n:Int) == 32)=false)(hb:(n:Int)≤2147483647):Calls Tryz.prog 3 #[.slice a n c] w (LawP w):=by
 have mx:=mixed
 go_enter Tryz.func3,Tryz.ntmps3
 go_wp2_with (go_at_call 17; refine hfs.mono ?_; clear hfs; rintro e w1 ⟨rfl,hb1⟩)
 all_goals go_ret
 all_goals exact⟨rfl,hb1⟩
set_option maxRecDepth 100000 in
theorem ex_big(a:Option Addr)(n c:Nat)(w:World)(h:2147483647<(n:Int)):Calls Tryz.prog 3 #[.slice a n c] w (LawP w):=by
 go_enter Tryz.func3,Tryz.ntmps3
 go_wp2
 all_goals go_ret
 all_goals exact⟨rfl,Below.refl _ _⟩
theorem wpList_append_ownG{P:Program}{ops:Array Oper}{rest:List Oper}{o:Oper}{a:Act}{w:World}{Q:Exit→Act→World→Prop}(hw:Region.wanted o (yielded ops a.tmps)=true)(s x:Operand)(t:TypeId)
  (ho:o.op= .call { callee:=.builtin .append,args:= #[s,x],argTypes:= #[t,t] })
  (base:Nat) (e:TypeId) (i:TypeInfo) (z:Value) (size bytes:Nat) (ht:P.underlying t=some (.slice e)) (hi:P.info? e=some i) (hz:i.zero=some z)
  (hsize:i.size=size) (hby:i.bytes=bytes) (hzs:z.cells.size=size) (hsz:0<size)
  (v:Value) (n:Nat) (xs:List Value) (hs:a.eval s=v) (hown:w.ownsRow base e size v n xs)
  (ad:Addr) (m c:Nat) (news:List Value) (hx:a.eval x= .slice (some ad) m c) (hl:news.length=m*size) (hnews:∀ j u,news[j]? = some u→w.cell? (ad.add j)=some u) (h1:∀ u∈news,u.oneCell'=true)
  (h63:n+m≤maxLen) (hbytes:(n+m)*bytes≤140737488355328) (hbase:base≤w.heap.size)
  (h:∀ v' w',w'.ownsRow base e size v' (n+m) (xs++news)→w.grownBy w' v.ownBlock→wpList P ops Q rest (a.put o.dst v') w'):wpList P ops Q (o::rest) a w:=
 wpList_step fun K hK=>by
  rw[if_pos hw]
  exact wp_append_own w s x t ho base e i z size bytes ht hi hz hsize hby hzs hsz v n xs hs hown ad m c news hx hl hnews h1 h63 hbytes hbase fun v' w' h2 h3 _=>hK _ _ (h v' w' h2 h3)
section
variable{GB:Nat}{GC:Nat→Nat→Option Value}{ad:Nat→Nat×Nat}(hG:GOk GB GC ad)
include hG
set_option maxRecDepth 100000 in
set_option maxHeartbeats 2000000 in
theorem ex_32{w:World}{b0 o0 c0:Nat}{x:List Int}(hgw:GW GC w)(hGB:GB≤w.heap.size)(hx0:Has8 w b0 o0 x)(hl:x.length=32)(hc0:32≤c0):Calls Tryz.prog 3 #[.slice (some ⟨b0,o0,none⟩) 32 c0] w (LawP w):=by
 have hx:Msg w (.slice (some ⟨b0,o0,none⟩) 32 c0) x:=Msg.of_has hx0 hl hc0
 have hfs:=fs_any hG hgw hGB hx hl
 obtain⟨i0,hi,hz0,hz1,hz2⟩:=info_parts i8
 obtain⟨q0,q1,q2⟩:=nkF_cut hl
 have mx:=mixed
 have t22:=Tryz.underlying22
 have lE:=encP_len (ptB.zm (sdN x))
 have l64:(x++encP (ptB.zm (sdN x))).length=64:=by rw[List.length_append,hl,lE]
 have hbx:b0<w.heap.size:=hx0.lt (by omega)
 have HL:=Lib.hid hl
 clear hx hl
 go_enter Tryz.func3,Tryz.ntmps3
 go_wp2_with (go_at_call 17; refine hfs.mono ?_; clear hfs; rintro e w1 h1; obtain⟨v0,v1,v2,he,m0,m1,m2⟩:=h1.ret; subst he)
 have g1:=h1.frm
 rw[q0] at m0
 rw[q1] at m1
 rw[q2] at m2
 have hx1:Has8 w1 b0 o0 x:=hx0.frm0 g1
 have hpb:=public_any hG h1.gw (Nat.le_trans hGB g1.1) (Msg.of_has hx1 HL.out hc0) (by rw[HL.out]; omega) (by rw[HL.out]; omega)
 obtain⟨r0,s0,k0,e0,j0,n0⟩:=m0.has (by rw[l64]; omega)
 obtain⟨r1,s1,k1,e1,j1,n1⟩:=m1.has (by rw[HL.out]; omega)
 obtain⟨r2,s2,k2,e2,j2,n2⟩:=m2.has (by rw[lE]; omega)
 rw[l64] at e0 j0
 rw[HL.out] at e1 j1
 rw[lE] at e2 j2
 subst e0; subst e1; subst e2
 clear m0 m1 m2
 go_wp2_with (go_at_call 18; refine hpb.mono ?_; clear hpb; rintro e w2 h2; obtain⟨v3,he,m3⟩:=h2.ret; subst he; obtain⟨r3,s3,k3,e3,j3,n3⟩:=m3.has (by rw[lE]; omega); rw[lE] at e3 j3; subst e3; clear m3)
 have g2:=h2.frm
 have x2:Has8 w2 b0 o0 x:=hx1.frm0 g2
 have y0:Has8 w2 r0 s0 (x++encP (ptB.zm (sdN x))):=n0.frm0 g2
 have y1:Has8 w2 r1 s1 x:=n1.frm0 g2
 have y2:Has8 w2 r2 s2 (encP (ptB.zm (sdN x))):=n2.frm0 g2
 have hb2:Below w.heap.size w w2:=below_of (g1.trans g2) fun _ _ h=>h
 have hbx2:b0<w2.heap.size:=Nat.lt_of_lt_of_le hbx (g1.trans g2).1
 refine (same_any w2 y1 x2 HL.out HL.out).mono ?_
 rintro e w3 ⟨rfl,rfl⟩
 clear h1 h2 g1 g2 hx1 n0 n1 n2 hgw hx0 q0 q1 q2
 generalize hE:encP (ptB.zm (sdN x))=E at *
 have ha2:Below w2.heap.size w2 (w2.alloc (.cells #[] 5)):=(Below.refl _ w2).alloc (Nat.le_refl _) _
 have x3:=x2.below ha2 hbx2
 have h3l:=n3.lt (by omega)
 go_wp2_with (first
  |(go_at_call 19; (with_reducible refine (same_any w2 y2 n3 lE lE).mono ?_); rintro e w3 ⟨rfl,rfl⟩)
  | (at_builtin; refine wpList_append_ownG (o:=⟨some 40,_,_,_,_,_⟩) (by rfl) _ _ 22 rfl w2.heap.size 5 i0 (.int .u8 0) 1 1 t22 hi hz0 hz1 hz2 rfl (by decide) _ _ _ rfl (World.ownsRow_made w2 #[] 0 (Nat.le_refl _) (Nat.zero_le _) rfl) ⟨b0,o0,none⟩ 32 c0 (v8 x) rfl (by simp[v8,HL.out]) x3.at v8_one (by unfold maxLen; omega) (by omega) (by simp) ?_
     intro u1 w4 hown1 hgrow1
     have hb4:Below w2.heap.size w2 w4:=grown_new hgrow1
     have n4:=n3.below hb4 h3l)
  | (at_builtin; refine wpList_append_ownG (o:=⟨some 42,_,_,_,_,_⟩) (by rfl) _ _ 22 rfl w2.heap.size 5 i0 (.int .u8 0) 1 1 t22 hi hz0 hz1 hz2 rfl (by decide) _ _ _ rfl hown1 ⟨r3,s3,none⟩ 32 k3 (v8 E) rfl (by simp[v8,lE]) n4.at v8_one (by unfold maxLen; omega) (by omega) hb4.size ?_
     intro u2 w5 hown2 hgrow2
     have hb5:Below w2.heap.size w4 w5:=grown_own hown1 hgrow2 hb4.size))
 rw[show ([]:List Value)++v8 x++v8 E=v8 (x++E) by simp[v8]] at hown2
 have hxx:∀ z∈x++E,0≤z∧z≤255:=fun z hz=>by
  rcases List.mem_append.1 hz with h|h
  ·exact x2.1 z h
  ·exact n3.1 z h
 obtain⟨b5,c5,rfl,hc5,hB5,hl5,h85⟩:=own_has hown2 (by omega) hxx
 have hb45:=hb4.trans hb5
 have y05:=y0.below hb45 (y0.lt (by omega))
 have hend:Below w.heap.size w w5:=hb2.trans (hb45.mono hb2.size)
 refine (same_any w5 y05 h85 l64 l64).mono ?_
 rintro e w6 ⟨rfl,rfl⟩
 clear hown1 hown2 hgrow1 hgrow2 hb4 hb5 hb45 y0 y1 y2 x2 x3 n3 n4 y05 h85 hxx hE
 go_wp2
 all_goals go_ret
 all_goals exact⟨rfl,hend⟩
end
set_option maxRecDepth 100000 in
theorem law_fnExactSeed {GB:Nat} {GC:Nat→Nat→Option Value} {ad:Nat→Nat×Nat} (hG:GOk GB GC ad) {H:Type} {enc:TypeId×Value→H} {W:World} {base:Nat} {v0:Value} {d0:DataW H} {p0:List MemPlace} (htab:Lib.TabIs Tryz.prog W "internal/strconv.uint64pow10" .u64 Lib.pow10Tab) (hgw:GW GC W) (hGB:GB≤W.heap.size)
  (hv0:Value.okWide Tryz.prog W .any base 22 v0) (h0:DataW.Trod enc Tryz.prog W 0 (fun _=>true) true 22 v0 d0 p0):
  Calls Tryz.prog 3 #[v0] W fun e W'=>e= .returned (.bool true)∧Below W.heap.size W W':=by
 rcases open_n 32 (by omega) Tryz.underlying22 Tryz.underlying5 (by kernel_rfl) hv0 h0 with ⟨a,n,c,hv,hn⟩|⟨b,o,c,xs,rfl,hc,hl,hx⟩
 ·obtain⟨a',n',c',xs',hv',hm,hl',hz⟩:=open_msg hv0 h0
  rw[hv] at hv'
  cases hv'
  subst hv
  subst hl'
  by_cases hbig:2147483647<(xs'.length:Int)
  ·exact ex_big a _ c W hbig
  ·exact ex_bad a _ c W (fsd_bad _ _ W (clone_p hm (by omega) hz) (ne_dec hn) (by omega) htab) (ne_dec hn) (by omega)
 ·exact ex_32 hG hgw hGB hx hl hc
end Go.Proofs.YtloibefkijfdlaaGreatDoor
