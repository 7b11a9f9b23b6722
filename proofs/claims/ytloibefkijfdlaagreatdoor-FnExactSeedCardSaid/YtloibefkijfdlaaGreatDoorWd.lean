/- Walking by hand: rows that grow; rounds; values that are lists of words. The reference's SHA-512, by hand: what is hashed, padded. -/
import Derived.Test.YtloibefkijfdlaaGreatDoorNe
import Derived.Test.YtloibefkijfdlaaGreatDoorSix
namespace Go.Proofs.YtloibefkijfdlaaGreatDoor
open Go Go.RowKit Go.Lib
theorem rounds_ind{P:Program}{X:Code}{J:Nat→Act→World→Prop}{Q:Exit→Act→World→Prop}(h0:∀ a w,J 0 a w→X.wp P (Exit.then (fun _ _=>False) Q) a w)(hs:∀ k a w,J (k+1) a w→X.wp P (fun e a' w'=>e= .normal∧J k a' w') a w):∀ (k:Nat) (a:Act) (w:World),J k a w→Code.rounds P X Q (k+1) a w
 |0,a,w,h=>h0 a w h
 |k+1,a,w,h=>wp_mono (hs k a w h) fun e a' w' ⟨he,hj⟩=>by
  subst he
  exact rounds_ind h0 hs k a' w' hj
abbrev Own (w:World) (B:Nat) (v:Value) (xs:List Int):Prop:=w.ownsRow B 5 1 v xs.length (v8 xs)
theorem own_new(w:World)(cur:Array Value)(cap:Nat)(hc:cap≤1000)(hs:cur.size=cap):Own (w.alloc (.cells cur 5)) w.heap.size (.slice (some ⟨w.heap.size,0,none⟩) 0 cap) []:=World.ownsRow_made w cur cap (Nat.le_refl _) (by unfold maxLen; omega) (by rw[hs,Nat.mul_one])
section
variable{ops:Array Oper}{Q:Exit→Act→World→Prop}{rest:List Oper}{a:Act}{w:World}{n:Nat}{f:Nat→Value}
theorem w_app{t x y B m c b o:Nat}{ty:TypeId}{pos:String}{af:Array Edge}{xs ys:List Int}(F:Fr a n f)(ht:Nat.blt t n=true)(hown:Own w B (f x) xs)(hy:f y= .slice (some ⟨b,o,none⟩) m c)(hm:ys.length=m)(h8:Has8 w b o ys)(hb:xs.length+m≤140737488355328)(hB:B≤w.heap.size)
  (hn:∀ v' w' a',Own w' B v' (xs++ys)→Below B w w'→Fr a' n (upd f t v')→wpList Tryz.prog ops Q rest a' w'):wpList Tryz.prog ops Q (⟨some t,.call ⟨.builtin .append,#[.tmp x,.tmp y],#[22,22]⟩,ty,pos,af,none⟩::rest) a w:=by
 obtain⟨i0,hi,hz0,hz1,hz2⟩:=info_parts i8
 refine wpList_append_own (o:=⟨some t,.call ⟨.builtin .append,#[.tmp x,.tmp y],#[22,22]⟩,ty,pos,af,none⟩) w rfl (.tmp x) (.tmp y) 22 rfl B 5 i0 (.int .u8 0) 1 1 Tryz.underlying22 hi hz0 hz1 hz2 rfl (by decide) (f x) xs.length (v8 xs) (F.ev rfl) hown ⟨b,o,none⟩ m c (v8 ys) (F.ev hy) (by simp[v8,hm]) h8.at v8_one (by unfold maxLen; omega) (by omega) hB ?_
 intro v' w' ho hg _
 refine hn v' w' _ ?_ (grown_own hown hg hB) (F.put ht v')
 show w'.ownsRow B 5 1 v' (xs++ys).length (v8 (xs++ys))
 rw[List.length_append,hm]
 have:v8 (xs++ys)=v8 xs++v8 ys:=by simp[v8]
 rw[this]
 exact ho
end
theorem has1(w:World)(x:Int)(hx:0≤x∧x≤255):Has8 (w.alloc (.cells #[.int .u8 x] 5)) w.heap.size 0 [x]:=by
 have h:=mem_newI w [.u8] [x] 5 (by
  refine⟨rfl,fun i k y hk hy=> ?_⟩
  match i,hk,hy with
  |0,hk,hy=>
   simp only[List.getElem?_cons_zero,osE] at hk hy
   subst hk; subst hy
   exact⟨hx.1,hx.2⟩
  |i+1,hk,_=>simp at hk)
 exact⟨fun z hz=>by rw[List.mem_singleton] at hz; subst hz; exact hx,fun i hi=>(h.at8 (n:=1) (i:=i) (by simpa using hi)).1.1⟩
theorem has_rep(w:World)(n:Nat):Has8 (w.alloc (.cells (Array.replicate n (.int .u8 0)) 5)) w.heap.size 0 (List.replicate n 0):=by
 have h:=mem_new w n .u8 5 ⟨by decide,by decide⟩
 exact⟨fun z hz=>by rw[(List.mem_replicate.1 hz).2]; decide,fun i hi=>(h.at8 (i:=i) (by simpa using hi)).1.1⟩
theorem Own.below{w w':World}{B:Nat}{v:Value}{xs:List Int}(h:Own w B v xs)(hb:Below w.heap.size w w'):Own w' B v xs:=by
 refine⟨h.1,?_⟩
 rcases h.2 with h2|⟨g,cap,cur,h1,h2,h3,h4⟩
 ·exact .inl h2
 ·refine .inr ⟨g,cap,cur,h1,h2,?_,h4⟩
  have hlt:g<w.heap.size:=by
   rcases Nat.lt_or_ge g w.heap.size with h|h
   ·exact h
   ·simp[Array.getElem?_eq_none h] at h3
  rw[hb.block g hlt]
  exact h3
theorem Own.sl{w:World}{B:Nat}{v:Value}{xs:List Int}(h:Own w B v xs):∃ ap c,v= .slice ap xs.length c:=by
 rcases h.2 with ⟨h1,h2⟩|⟨g,cap,cur,h1,_⟩
 ·exact⟨none,0,by rw[h1,h2]⟩
 ·exact⟨_,_,h1⟩
theorem below_alloc(w:World)(o:Obj):Below w.heap.size w (w.alloc o):=(Below.refl _ w).alloc (Nat.le_refl _) _
theorem below_down{B C:Nat}{w w':World}(h:Below C w w')(hb:B≤C):Below B w w':=⟨h.1,h.2,h.3,h.4,fun k hk=>h.5 k (by omega)⟩
structure AgP (GC:Nat→Nat→Option Value) (ks:List IntKind) (l:List Int) (w:World) (e:Ending) (w':World):Prop where
 ret:e= .returned (.agg (intsV ks l).toArray)
 rng:AllR ks l
 frm:Frm w w' (fun _ _=>False)
 gw:GW GC w'
section
variable{GB:Nat}{GC:Nat→Nat→Option Value}{w:World}(hgw:GW GC w)(hGB:GB≤w.heap.size)
include hgw hGB
theorem agg_gen{f:Nat}{s:FSum}{ks:List IntKind}{F:PF}{args:List Value}{ins:List (List Int)}{bs:List (Nat×Nat)}(hok:FEOk Tryz.prog GB GC f (.one s))(hout:s.outs= [])(hret:s.ret= [.agg ks F])(hP:PMs GB w s.params args ins bs)(hS:PSeps s.params bs)(hpre:s.hp=true→s.pre ins):
  Calls Tryz.prog f args.toArray w (AgP GC ks (F ins) w):=by
 refine (hok true args ins bs w hgw hGB hP hS hpre rfl).mono fun e w' ⟨fb,vs,he,hq⟩=> ?_
 simp only[FE.sel] at hq
 have hr:=hq.ret
 rw[hret] at hr
 match vs,hr with
 | [v],hr=>
  have h1:AllR ks (F ins)∧v= .agg (intsV ks (F ins)).toArray:=hr.1
  refine⟨by rw[he,h1.2]; rfl,h1.1,hq.frm.mono fun b o _ hs=> ?_,hq.gw⟩
  obtain⟨p,hp',_⟩:=hs
  rw[hout] at hp'
  cases hp'
end
theorem sep1{p:PSh}{b:Nat×Nat}:PSeps [p] [b]:=⟨fun _ h=>(by cases h),trivial⟩
theorem sep_a{ks:List IntKind}{ps:List PSh}{b:Nat×Nat}{bs:List (Nat×Nat)}(h:PSeps ps bs):PSeps (.agg ks::ps) (b::bs):=⟨fun x _=>by unfold PSep; simp[PSh.reg],h⟩
end Go.Proofs.YtloibefkijfdlaaGreatDoor

namespace Go.Proofs.YtloibefkijfdlaaGreatDoor
open Go Go.RowKit Go.Lib
section
variable{ρ:Operand→Value}{d:Option Tmp}{x y:Operand}{ty:TypeId}{pos:String}{af:Array Edge}{w:World}{b o:Nat}
theorem e_remi{i j:Nat}(h:ρ x= .int .i64 i)(hy:ρ y= .int .i64 j)(hj:0<j):(execOp ρ ⟨d,.binOp .rem 3 x y 3,ty,pos,af,none⟩).run Tryz.prog w= .ok (.value (.int .i64 ((i%j:Nat):Int))) w:=by
 simp[execOp,go_sem,h,hy]
 rw[if_neg (by omega)]
 rfl
theorem e_bH{a:Act}:(execOp a.eval ⟨d,.build 51 #[(0,.const (.int .u64 7640891576956012808)),(1,.const (.int .u64 13503953896175478587)),(2,.const (.int .u64 4354685564936845355)),(3,.const (.int .u64 11912009170470909681)),(4,.const (.int .u64 5840696475078001361)),(5,.const (.int .u64 11170449401992604703)),(6,.const (.int .u64 2270897969802886507)),(7,.const (.int .u64 6620516959819538809))],ty,pos,af,none⟩).run Tryz.prog w= .ok (.value (.agg (intsV U8 H0).toArray)) w:=by
 simp[execOp,go_sem,Act.eval]
 rfl
theorem e_al8:(execOp ρ ⟨d,.alloc 51,ty,pos,af,none⟩).run Tryz.prog w= .ok (.value (.pointer (some ⟨w.heap.size,0,none⟩))) (w.alloc (.cells (Array.replicate 8 (.int .u64 0)) 51)):=by
 simp[execOp,go_sem]
 rfl
theorem e_bs0:(execOp ρ ⟨d,.buildSlice 22 0 #[],ty,pos,af,none⟩).run Tryz.prog w= .ok (.value (.slice (some ⟨w.heap.size,0,none⟩) 0 0)) (w.alloc (.cells #[] 5)):=by
 simp[execOp,go_sem]
theorem e_bs8{a:Act}:(execOp a.eval ⟨d,.buildSlice 22 8 #[(0,.const (.int .u8 0)),(1,.const (.int .u8 0)),(2,.const (.int .u8 0)),(3,.const (.int .u8 0)),(4,.const (.int .u8 0)),(5,.const (.int .u8 0)),(6,.const (.int .u8 0)),(7,.const (.int .u8 0))],ty,pos,af,none⟩).run Tryz.prog w= .ok (.value (.slice (some ⟨w.heap.size,0,none⟩) 8 8)) (w.alloc (.cells (Array.replicate 8 (.int .u8 0)) 5)):=by
 simp[execOp,go_sem,Act.eval]
 rfl
theorem e_mul8{i:Int}(hx:ρ x= .int .u64 i)(hy:ρ y= .int .u64 8):(execOp ρ ⟨d,.binOp .mul 50 x y 50,ty,pos,af,none⟩).run Tryz.prog w= .ok (.value (.int .u64 (IntKind.u64.wrap (i*8)))) w:=by
 simp[execOp,go_sem,hx,hy]
theorem e_mi8{i:Int}(hx:ρ x= .int .i64 8)(hy:ρ y= .int .i64 i):(execOp ρ ⟨d,.binOp .mul 3 x y 3,ty,pos,af,none⟩).run Tryz.prog w= .ok (.value (.int .i64 (IntKind.i64.wrap (8*i)))) w:=by
 simp[execOp,go_sem,hx,hy]
theorem e_shr8{v:Int}{k:Nat}(hx:ρ x= .int .u64 v)(hy:ρ y= .int .i64 (k:Int)):(execOp ρ ⟨d,.binOp .shr 50 x y 3,ty,pos,af,none⟩).run Tryz.prog w= .ok (.value (.int .u64 (o64 .shr v (k:Int)))) w:=by
 simp[execOp,go_sem,hx,hy]
 show _=v.fdiv (2^(min ((k:Int)).toNat 64))
 rw[Int.toNat_natCast,Int.fdiv_eq_ediv_of_nonneg _ (Int.le_of_lt (Int.pow_pos (by decide)))]
theorem e_cv8{i:Int}(h:ρ x= .int .u64 i):(execOp ρ ⟨d,.convert 50 5 x,ty,pos,af,none⟩).run Tryz.prog w= .ok (.value (.int .u8 (IntKind.u8.wrap i))) w:=by
 simp[execOp,go_sem,h]
theorem e_subi{i j:Int}(h:ρ x= .int .i64 i)(hy:ρ y= .int .i64 j):(execOp ρ ⟨d,.binOp .sub 3 x y 3,ty,pos,af,none⟩).run Tryz.prog w= .ok (.value (.int .i64 (IntKind.i64.wrap (i-j)))) w:=by
 simp[execOp,go_sem,h,hy]
theorem e_lssi{i j:Int}(h:ρ x= .int .i64 i)(hy:ρ y= .int .i64 j):(execOp ρ ⟨d,.binOp .lss 3 x y 3,ty,pos,af,none⟩).run Tryz.prog w= .ok (.value (.bool (decide (i<j)))) w:=by
 simp[execOp,go_sem,h,hy]
end
structure PA (w1:World) (D:Value) (hb:Nat) (al:List Int) (a:Act) (w:World):Prop where
 ex:∃ f,Fr a 76 f∧f 0=D∧f 3= .pointer (some ⟨hb,0,none⟩)∧Own w w1.heap.size (f 4) al
 bel:Below w1.heap.size w1 w
theorem padT_pos(L:Nat):1≤padT L:=by unfold padT; split<;>omega
theorem pad_end{L:Nat}:(L+1+(padT L-1))%128=112:=by unfold padT; split<;>omega
theorem pad_mid{L k:Nat}(h:k+1≤padT L-1):(L+1+(padT L-1-(k+1)))%128≠112:=by
 unfold padT at *
 by_cases h1:L%128<112
 ·rw[if_pos h1] at *
  omega
 ·rw[if_neg h1] at *
  omega
theorem rep_succ(n:Nat):List.replicate (n+1) (0:Int)=List.replicate n 0 ++ [0]:=List.replicate_succ'
def al1(m:List Int)(k:Nat):List Int:=m++128::List.replicate (padT m.length-1-k) 0
theorem al1_len(m:List Int)(k:Nat):(al1 m k).length=m.length+1+(padT m.length-1-k):=by simp[al1]; omega
theorem al1_step{m:List Int}{k:Nat}(h:k+1≤padT m.length-1):al1 m (k+1) ++ [0]=al1 m k:=by
 unfold al1
 rw[List.append_assoc,List.cons_append, ← rep_succ,show padT m.length-1-(k+1)+1=padT m.length-1-k by omega]
def al2(m:List Int)(k:Nat):List Int:=al1 m 0++(List.replicate 8 0++(be8 ((m.length*8:Nat):Int)).take (8-k))
theorem be8_take{v:Int}:∀ {k:Nat},k<8→(be8 v).take (8-(k+1)) ++ [IntKind.u8.wrap (o64 .shr v ((8*k:Nat):Int))]=(be8 v).take (8-k)
 |0,_=>rfl
 |1,_=>rfl
 |2,_=>rfl
 |3,_=>rfl
 |4,_=>rfl
 |5,_=>rfl
 |6,_=>rfl
 |7,_=>rfl
 |k+8,h=>by omega
theorem al2_step{m:List Int}{k:Nat}(h:k<8):al2 m (k+1) ++ [IntKind.u8.wrap (o64 .shr ((m.length*8:Nat):Int) ((8*k:Nat):Int))]=al2 m k:=by
 unfold al2
 rw[List.append_assoc,List.append_assoc,be8_take h]
theorem al2_len(m:List Int){k:Nat}(h:k≤8):(al2 m k).length=(al1 m 0).length+16-k:=by
 unfold al2
 rw[List.length_append,List.length_append,List.length_replicate,List.length_take,be8_len]
 omega
theorem al2_end(m:List Int):al2 m 0=m++pad m.length:=by
 have hz:=padT_pos m.length
 unfold al2 al1 pad
 rw[List.take_of_length_le (by rw[be8_len]; omega),List.append_assoc,List.cons_append, ← List.append_assoc (List.replicate _ _),List.replicate_append_replicate,show padT m.length-1-0+8=padT m.length+7 by omega]
theorem u8_rng(x:Int):0≤IntKind.u8.wrap x∧IntKind.u8.wrap x≤255:=by
 rw[u8_w]
 omega
structure PB (w1:World) (D:Value) (hb:Nat) (m:List Int) (k:Nat) (a:Act) (w:World):Prop where
 ex:∃ f,Fr a 76 f∧f 0=D∧f 3= .pointer (some ⟨hb,0,none⟩)∧Own w w1.heap.size (f 4) (al2 m k)∧f 5= .int .u64 ((m.length*8:Nat):Int)∧f 6= .int .i64 (ctr k)
 bel:Below w1.heap.size w1 w
theorem pad_rng{L:Nat}:∀ x∈pad L,0≤x∧x≤255:=fun x hx=>by
 unfold pad at hx
 rcases List.mem_cons.1 hx with h|h
 ·subst h; decide
 ·rcases List.mem_append.1 h with h|h
  ·rw[(List.mem_replicate.1 h).2]; decide
  ·unfold be8 at h
   obtain⟨k,-, rfl⟩:=List.mem_map.1 h
   exact u8_rng _
def PC(GC:Nat→Nat→Option Value)(w0:World)(rb rc:Nat)(A:List Int)(k:Nat)(a:Act)(w:World):Prop:=
 ∃ f h,Fr a 76 f∧f 3= .pointer (some ⟨w0.heap.size,0,none⟩)∧f 4= .slice (some ⟨rb,0,none⟩) A.length rc∧f 7= .int .i64 ((A.length-k*128:Nat):Int)∧MemI true w (w0.heap.size,0) U8 h∧cprN k h (A.drop (A.length-k*128))=cprN (A.length/128) H0 A∧Has8 w rb 0 A∧Frm w0 w (fun _ _=>False)∧GW GC w
theorem e_slb{ρ:Operand→Value}{d:Option Tmp}{x y z:Operand}{ty:TypeId}{pos:String}{af:Array Edge}{w:World}{b m c i n:Nat}(hx:ρ x= .slice (some ⟨b,0,none⟩) m c)(hy:ρ y= .int .i64 (i:Int))(hz:ρ z= .int .i64 ((i+n:Nat):Int))(h1:0<n)(h2:i+n≤c):(execOp ρ ⟨d,.slice 22 x (some y) (some z) none,ty,pos,af,none⟩).run Tryz.prog w= .ok (.value (.slice (some ⟨b,i,none⟩) n (c-i))) w:=by
 have hu:=run_underlying (w:=w) Tryz.underlying22
 have hb1:∀ code,(Instr.sliceBound (.int .i64 (i:Int)) (i+n) code).run Tryz.prog w= .ok i w:=fun code=>run_sliceBound _ w (by omega) code
 have hb2:∀ code,(Instr.sliceBound (.int .i64 ((i+n:Nat):Int)) c code).run Tryz.prog w= .ok (i+n) w:=fun code=>run_sliceBound _ w h2 code
 simp only[execOp,hx,hy,hz,Option.map_some,Option.map_none,Instr.sliceAt,Instr.slice,Sem.run_bind,hu,Result.andThen_ok]
 simp only[Instr.sliceBounds,hb1,hb2,sz8,Sem.run_bind,Sem.run_pure,Result.andThen_ok]
 have hne:¬ (c=i):=by omega
 simp[hne,addr_add]
theorem Has8.frm0{w w':World}{b o:Nat}{xs:List Int}(h:Has8 w b o xs)(hf:Frm w w' (fun _ _=>False)):Has8 w' b o xs:=⟨h.1,fun i hi=>(hf.hasC (f:=false) ⟨h.2 i hi,fun h=>(by cases h)⟩ (fun h=>h)).1⟩
theorem sepC{ks js:List IntKind}{g:Nat}{b c:Nat×Nat}:PSeps [.agg ks,.sl js g false] [b,c]:=sep_a sep1
theorem comp_any{GB:Nat}{GC:Nat→Nat→Option Value}{ad:Nat→Nat×Nat}(hG:GOk GB GC ad){w:World}(hgw:GW GC w)(hGB:GB≤w.heap.size){rb at_ c:Nat}{h bl:List Int}(hh:AllR U8 h)(hm:MemI false w (rb,at_) (List.replicate 128 .u8) bl)(hc:128≤c):
  Calls Tryz.prog 69 #[.agg (intsV U8 h).toArray,.slice (some ⟨rb,at_,none⟩) 128 c] w (AgP GC U8 (cpr h bl) w):=by
 have:=agg_gen (F:=fun a=>fixL 8 (i_spec_compressed.raw C_spec_compressed 0 a)) (ks:=U8) (args:= [.agg (intsV U8 h).toArray,.slice (some ⟨rb,at_,none⟩) 128 c]) (ins:= [h,bl]) (bs:= [(0,0),(rb,at_)]) hgw hGB (ok_spec_compressed hG) rfl rfl ⟨⟨hh,rfl⟩,⟨c,rfl,hc,hm,fun h=>(by cases h)⟩,trivial⟩ sepC (fun h=>absurd (show false=true from h) (by decide))
 have hl:h.length=8:=hh.1
 rw[compressed_eq hl hm.rng8,fixL_id (cpr_len hl)] at this
 exact this
def ou(h:List Int)(i:Nat):List Int:=(h.take i).flatMap be8
theorem ou_succ{h:List Int}{i:Nat}(hi:i<h.length):ou h (i+1)=ou h i++be8 (h.getD i 0):=by
 unfold ou
 rw[List.take_add_one,List.flatMap_append,show h[i]? = some (h.getD i 0) by simp[List.getD,hi]]
 simp
theorem ou_len{h:List Int}{i:Nat}(hi:i≤h.length):(ou h i).length=8*i:=by
 unfold ou
 rw[List.length_flatMap]
 have:(List.map (fun x=>(be8 x).length) (h.take i))=List.replicate i 8:=by
  rw[List.eq_replicate_iff]
  refine⟨by rw[List.length_map,List.length_take]; omega,fun x hx=> ?_⟩
  obtain⟨y,-, rfl⟩:=List.mem_map.1 hx
  exact be8_len y
 rw[this]
 simp
 omega
theorem be8_rng{v:Int}:∀ x∈be8 v,0≤x∧x≤255:=fun x h=>by
 unfold be8 at h
 obtain⟨k,-, rfl⟩:=List.mem_map.1 h
 exact u8_rng _
theorem sha_rng{m:List Int}:∀ x∈sha m,0≤x∧x≤255:=fun x hx=>by
 unfold sha out8 at hx
 obtain⟨v,-, h⟩:=List.mem_flatMap.1 hx
 exact be8_rng x h
structure MsP (GC:Nat→Nat→Option Value) (l:List Int) (w:World) (e:Ending) (w':World):Prop where
 ret:∃ v,e= .returned v∧Msg w' v l
 frm:Frm w w' (fun _ _=>False)
 gw:GW GC w'
set_option maxRecDepth 100000 in
theorem sum5_any{GB:Nat}{GC:Nat→Nat→Option Value}{ad:Nat→Nat×Nat}(hG:GOk GB GC ad){w:World}{D:Value}{m:List Int}(hgw:GW GC w)(hGB:GB≤w.heap.size)(hD:Msg w D m)(h0:0<m.length)(hlen:m.length<1000000000000):
  Calls Tryz.prog 39 #[D] w (MsP GC (sha m) w):=by
 obtain⟨b,o,c,hDv,hc,h8⟩:=hD.has h0
 refine enter (args:= [D]) Tryz.func39 rfl (n:=76) rfl fun a F=> ?_
 refine w_sr (w_const F rfl fun a F=>w_end ?_)
 refine w_sr (w_val F rfl rfl rfl e_bH fun a F=>w_val F rfl rfl rfl e_al8 fun a F=> ?_)
 have M1:=mem_new w 8 .u64 51 ⟨by decide,by decide⟩
 have f1:Frm w (w.alloc (.cells (Array.replicate 8 (.int .u64 0)) 51)) (fun _ _=>False):=frm_alloc _ _ _
 generalize hw1:w.alloc (.cells (Array.replicate 8 (.int .u64 0)) 51)=w1 at M1 f1 ⊢
 have hl8:(intsV U8 H0).length=8:=rfl
 refine w_skip F rfl rfl (e_stA (cs:=intsV U8 H0) (fun w=>by rw[hl8]; simp[go_sem]) (F.ev rfl) (F.ev rfl) intsV_one (fun j hj=>M1.ex j (by rw[hl8] at hj; simpa using hj))) fun a F=>w_end ?_
 have M2:=mem_st (w:=w1) (b:=w.heap.size) (o:=0) (ks:=U8) (xs:=H0) (allR_of (by decide)) (fun j hj=>M1.ex j hj)
 have f2:Frm w (w1.setCells w.heap.size 0 (intsV U8 H0)) (fun _ _=>False):=frm_setCells _ _ f1 fun _ _=>.inl (Nat.le_refl _)
 generalize w1.setCells w.heap.size 0 (intsV U8 H0)=w2 at M2 f2 ⊢
 have hs2:w.heap.size<w2.heap.size:=(M2.2 0 .u64 _ rfl rfl).lt
 refine w_sr (w_val F rfl rfl rfl e_bs0 fun a F=>w_move F rfl fun a F=> ?_)
 have O3:=own_new w2 #[] 0 (by omega) rfl
 have b3:=below_alloc w2 (.cells #[] 5)
 generalize w2.alloc (.cells #[] 5)=w3 at O3 b3 ⊢
 have h83:Has8 w3 b o m:=(h8.below (below_of f2 fun _ _ h=>h) (h8.lt h0)).below b3 (Nat.lt_of_lt_of_le (h8.lt h0) f2.1)
 refine w_app F rfl O3 hDv rfl h83 (by rw[List.length_nil]; omega) b3.size fun v4 w4 a O4 b4 F=> ?_
 rw[List.nil_append] at O4
 have b4':=b3.trans b4
 refine w_val F rfl rfl rfl (e_bs1 (i:=128) rfl) fun a F=> ?_
 have O5:=O4.below (below_alloc w4 (.cells #[.int .u8 128] 5))
 have h5:=has1 w4 128 (by decide)
 have b5:=b4'.trans (below_down (below_alloc w4 (.cells #[.int .u8 128] 5)) b4'.size)
 generalize w4.alloc (.cells #[.int .u8 128] 5)=w5 at O5 h5 b5 ⊢
 refine w_app F rfl O5 rfl rfl h5 (by omega) b5.size fun v6 w6 a O6 b6 F=>w_assign F rfl fun a F=>w_end ?_
 have hz:=padT_pos m.length
 have hJ:PA w2 D w.heap.size (al1 m (padT m.length-1)) a w6:=by
  refine⟨⟨_,F,rfl,rfl,?_⟩,b5.trans b6⟩
  have:al1 m (padT m.length-1)=m ++ [128]:=by unfold al1; rw[Nat.sub_self]; rfl
  rw[this]
  exact O6
 clear F O6 b6 O5 h5 b5 O4 b4 b4' O3 b3 h83
 refine w_seqJ (J:=fun a w'=>PA w2 D w.heap.size (al1 m 0) a w') (wp_block (wp_loop_rounds _ (rounds_ind (J:=fun k a w'=>PA w2 D w.heap.size (al1 m k) a w'∧k≤padT m.length-1) ?_ ?_ (padT m.length-1) _ _ ⟨hJ,Nat.le_refl _⟩))) ?_
 ·intro a w' ⟨⟨⟨f,F,e0,e3,O⟩,bel⟩,_⟩
  obtain⟨ap,cc,hv⟩:=O.sl
  have hb:((((al1 m 0).length%128:Nat):Int) != 112)=false:=by
   rw[al1_len,Nat.sub_zero,pad_end]
   rfl
  refine wp_seq (wp_seq (reg (w_move F rfl fun a F=>w_val F rfl rfl rfl (e_len (F.ev hv)) fun a F=>w_val F rfl rfl rfl (e_remi (j:=128) (F.ev rfl) rfl (by decide)) fun a F=>w_val F rfl rfl rfl (e_neqi (F.ev rfl) rfl) fun a F=>w_nil ?_)))
  refine wp_cond (t:=false) (F.ev (congrArg Value.bool hb)) (wp_exit ?_)
  exact⟨rfl,⟨_,F,e0,e3,O⟩,bel⟩
 ·intro k a w' ⟨⟨⟨f,F,e0,e3,O⟩,bel⟩,hk⟩
  obtain⟨ap,cc,hv⟩:=O.sl
  have hb:((((al1 m (k+1)).length%128:Nat):Int) != 112)=true:=by
   have:=pad_mid hk
   rw[al1_len]
   simp only[bne_iff_ne,ne_eq]
   omega
  refine wp_seq (wp_seq (reg (w_move F rfl fun a F=>w_val F rfl rfl rfl (e_len (F.ev hv)) fun a F=>w_val F rfl rfl rfl (e_remi (j:=128) (F.ev rfl) rfl (by decide)) fun a F=>w_val F rfl rfl rfl (e_neqi (F.ev rfl) rfl) fun a F=>w_nil ?_)))
  refine wp_cond (t:=true) (F.ev (congrArg Value.bool hb)) (wp_skip ?_)
  refine wp_block (reg (w_move F rfl fun a F=>w_val F rfl rfl rfl (e_bs1 (i:=0) rfl) fun a F=> ?_))
  have O5:=O.below (below_alloc w' (.cells #[.int .u8 0] 5))
  have h5:=has1 w' 0 (by decide)
  have b5:=bel.trans (below_down (below_alloc w' (.cells #[.int .u8 0] 5)) bel.size)
  generalize w'.alloc (.cells #[.int .u8 0] 5)=w5 at O5 h5 b5 ⊢
  refine w_app F rfl O5 rfl rfl h5 (by rw[al1_len]; have:=padT_le m.length; omega) b5.size fun v6 w6 a O6 b6 F=>w_assign F rfl fun a F=>w_nil ?_
  rw[al1_step hk] at O6
  exact⟨rfl,⟨⟨_,F,e0,e3,O6⟩,b5.trans b6⟩,by omega⟩
 intro a w3 ⟨⟨f,F,e0,e3,O3⟩,b3⟩
 refine w_sr (w_move F rfl fun a F=>w_val F rfl rfl rfl e_bs8 fun a F=> ?_)
 have O5:=O3.below (below_alloc w3 (.cells (Array.replicate 8 (.int .u8 0)) 5))
 have h5:=has_rep w3 8
 have b5:=b3.trans (below_down (below_alloc w3 (.cells (Array.replicate 8 (.int .u8 0)) 5)) b3.size)
 generalize w3.alloc (.cells (Array.replicate 8 (.int .u8 0)) 5)=w5 at O5 h5 b5 ⊢
 refine w_app F rfl O5 rfl rfl h5 (by rw[al1_len]; have:=padT_le m.length; omega) b5.size fun v6 w6 a O6 b6 F=>w_assign F rfl fun a F=>w_end ?_
 have b6':=b5.trans b6
 obtain⟨ap,cc,hDv2⟩:∃ ap cc,D= .slice ap m.length cc:=⟨_,_,hDv⟩
 have hw8:IntKind.u64.wrap (IntKind.u64.wrap (m.length:Int)*8)=((m.length*8:Nat):Int):=by
  rw[u64_mod,u64_mod]
  omega
 refine w_sr (w_move F rfl fun a F=>w_val F rfl rfl rfl (e_len (F.ev (e0.trans hDv2))) fun a F=>w_val F rfl rfl rfl (e_iu (F.ev rfl)) fun a F=>w_val F rfl rfl rfl (e_mul8 (F.ev rfl) rfl) fun a F=>w_assign F rfl fun a F=>w_end ?_)
 refine w_seqJ (J:=fun a w'=>PB w2 D w.heap.size m 0 a w') (w_sr (w_const F rfl fun a F=>w_end ?_)) ?_
 ·have hJ:PB w2 D w.heap.size m 8 a w6:=by
   refine⟨⟨_,F,e0,e3,?_,congrArg (Value.int .u64) hw8,rfl⟩,b6'⟩
   have:al2 m 8=al1 m 0++List.replicate 8 0:=by unfold al2; rw[Nat.sub_self,List.take_zero,List.append_nil]
   rw[this]
   exact O6
  clear F O6 b6 b6' O5 h5 b5 O3 b3 e0 e3
  refine wp_block (wp_loop_rounds _ (rounds_ind (J:=fun k a w'=>PB w2 D w.heap.size m k a w'∧k≤8) ?_ ?_ 8 _ _ ⟨hJ,Nat.le_refl _⟩))
  ·intro a w' ⟨⟨⟨f,F,e0,e3,O,e5,e6⟩,bel⟩,_⟩
   refine wp_seq (wp_seq (reg (w_move F rfl fun a F=>w_val F rfl rfl rfl (e_geq (F.ev e6) rfl) fun a F=>w_nil ?_)))
   refine wp_cond (t:=false) (F.ev rfl) (wp_exit ?_)
   exact⟨rfl,⟨_,F,e0,e3,O,e5,e6⟩,bel⟩
  ·intro k a w' ⟨⟨⟨f,F,e0,e3,O,e5,e6⟩,bel⟩,hk⟩
   have hb:decide ((0:Int)≤ctr (k+1))=true:=decide_eq_true (Int.natCast_nonneg k)
   have h8k:IntKind.i64.wrap (8*ctr (k+1))=((8*k:Nat):Int):=by
    rw[ctr_s,wr64 (by omega) (by omega)]
    omega
   refine wp_seq (wp_seq (reg (w_move F rfl fun a F=>w_val F rfl rfl rfl (e_geq (F.ev e6) rfl) fun a F=>w_nil ?_)))
   refine wp_cond (t:=true) (F.ev (congrArg Value.bool hb)) (wp_skip ?_)
   refine wp_seq (wp_block (reg (w_move F rfl fun a F=>w_move F rfl fun a F=>w_move F rfl fun a F=>w_val F rfl rfl rfl (e_mi8 rfl (F.ev e6)) fun a F=>w_val F rfl rfl rfl (e_shr8 (F.ev e5) (F.ev (congrArg (Value.int .i64) h8k))) fun a F=>w_val F rfl rfl rfl (e_cv8 (F.ev rfl)) fun a F=>w_val F rfl rfl rfl (e_bs1 (F.ev rfl)) fun a F=> ?_)))
   have O5:=O.below (below_alloc w' (.cells #[.int .u8 (IntKind.u8.wrap (o64 .shr ((m.length*8:Nat):Int) ((8*k:Nat):Int)))] 5))
   have h5:=has1 w' _ (u8_rng (o64 .shr ((m.length*8:Nat):Int) ((8*k:Nat):Int)))
   have b5:=bel.trans (below_down (below_alloc w' (.cells #[.int .u8 (IntKind.u8.wrap (o64 .shr ((m.length*8:Nat):Int) ((8*k:Nat):Int)))] 5)) bel.size)
   generalize w'.alloc (.cells #[.int .u8 (IntKind.u8.wrap (o64 .shr ((m.length*8:Nat):Int) ((8*k:Nat):Int)))] 5)=w5 at O5 h5 b5 ⊢
   refine w_app F rfl O5 rfl rfl h5 (by rw[al2_len m hk,al1_len]; have:=padT_le m.length; omega) b5.size fun v6 w6 a O6 b6 F=>w_assign F rfl fun a F=>w_nil ?_
   rw[al2_step (by omega)] at O6
   refine reg (w_move F rfl fun a F=>w_val F rfl rfl rfl (e_subi (F.ev e6) rfl) fun a F=>w_assign F rfl fun a F=>w_nil ?_)
   exact⟨rfl,⟨⟨_,F,e0,e3,O6,e5,congrArg (Value.int .i64) (ctr_dec (by omega))⟩,b5.trans b6⟩,by omega⟩
 intro a w3 ⟨⟨f,F,e0,e3,O3,_,_⟩,b3⟩
 rw[al2_end] at O3
 have hmod:=sha_mod m
 have hAl:(m++pad m.length).length=m.length+(padT m.length+16):=by rw[List.length_append,pad_len]
 have hpT:=padT_le m.length
 have hA8:∀ x∈m++pad m.length,0≤x∧x≤255:=fun x hx=>by
  rcases List.mem_append.1 hx with h|h
  ·exact h8.1 x h
  ·exact pad_rng x h
 obtain⟨rb,rc,hrv,hrc,hrB,-, hr8⟩:=own_has O3 (by omega) hA8
 have M3:MemI true w3 (w.heap.size,0) U8 H0:=M2.frm (frm_below (S:=fun _ _=>False) b3) fun _ _ h=>h
 have f3:Frm w w3 (fun _ _=>False):=f2.trans (frm_below b3)
 have hne:rb≠w.heap.size:=by omega
 generalize hAA:m++pad m.length=A at *
 refine w_seqJ (J:=fun a w'=>PC GC w rb rc A 0 a w') (w_sr (w_const F rfl fun a F=>w_end ?_)) ?_
 ·have hJ:PC GC w rb rc A (A.length/128) _ w3:=⟨_,_,F,e3,hrv,by rw[show A.length-A.length/128*128=0 by omega]; rfl,M3,by rw[show A.length-A.length/128*128=0 by omega]; rfl,hr8,f3,gw_frm hG hgw (f3.mono (S':=fun b _=>b=w.heap.size) fun _ _ _ h=>h.elim) hGB⟩
  clear F O3 b3 e0 e3 M3 f3 hrv hr8
  refine wp_block (wp_loop_rounds _ (rounds_ind (J:=fun k a w'=>PC GC w rb rc A k a w'∧k*128≤A.length) ?_ ?_ (A.length/128) _ _ ⟨hJ,by omega⟩))
  ·intro a w' ⟨⟨f,h,F,e3,e4,e7,M,hh,r8,fr,gw⟩,_⟩
   have hb:decide (((A.length-0*128:Nat):Int)<(A.length:Int))=false:=decide_eq_false (by omega)
   refine wp_seq (wp_seq (reg (w_move F rfl fun a F=>w_move F rfl fun a F=>w_val F rfl rfl rfl (e_len (F.ev e4)) fun a F=>w_val F rfl rfl rfl (e_lssi (F.ev e7) (F.ev rfl)) fun a F=>w_nil ?_)))
   refine wp_cond (t:=false) (F.ev (congrArg Value.bool hb)) (wp_exit ?_)
   exact⟨rfl,_,_,F,e3,e4,e7,M,hh,r8,fr,gw⟩
  ·intro k a w' ⟨⟨f,h,F,e3,e4,e7,M,hh,r8,fr,gw⟩,hk⟩
   have hb:decide (((A.length-(k+1)*128:Nat):Int)<(A.length:Int))=true:=decide_eq_true (by omega)
   refine wp_seq (wp_seq (reg (w_move F rfl fun a F=>w_move F rfl fun a F=>w_val F rfl rfl rfl (e_len (F.ev e4)) fun a F=>w_val F rfl rfl rfl (e_lssi (F.ev e7) (F.ev rfl)) fun a F=>w_nil ?_)))
   refine wp_cond (t:=true) (F.ev (congrArg Value.bool hb)) (wp_skip ?_)
   have hat:IntKind.i64.wrap (((A.length-(k+1)*128:Nat):Int)+128)=((A.length-(k+1)*128+128:Nat):Int):=by
    rw[wr64 (by omega) (by omega)]
    omega
   refine wp_seq (wp_block (wp_region_still_tail 6 mixed (by kernel_rfl) ?_))
   have hfd:Frm w' { w' with drawn:=w'.drawn+1 } (fun _ _=>False):=(Frm.refl _ _).of_heap rfl rfl rfl rfl
   generalize ({ w' with drawn:=w'.drawn+1 }:World)=w5 at hfd ⊢
   have M5:=M.frm hfd fun _ _ h=>h
   have r5:=r8.frm0 hfd
   have fr5:=fr.trans hfd
   have gw5:=gw_frm hG gw (hfd.mono (S':=fun b _=>b=w.heap.size) fun _ _ _ h=>h.elim) hGB
   refine st_val F rfl rfl rfl (e_ldA (cs:=intsV U8 h) (fun w=>by simp[go_sem]) (fun w=>by rw[intsV_len M.1.1]; simp[go_sem]; rfl) (F.ev e3) M5.vals) fun a F=>st_move F rfl fun a F=>st_move F rfl fun a F=>st_move F rfl fun a F=>st_val F rfl rfl rfl (e_addi (F.ev e7) rfl) fun a F=>st_val F rfl rfl rfl (e_slb (F.ev e4) (F.ev e7) (F.ev (congrArg (Value.int .i64) hat)) (by omega) (by omega)) fun a F=> ?_
   have mb:MemI false w5 (rb,A.length-(k+1)*128) (List.replicate 128 .u8) ((A.drop (A.length-(k+1)*128)).take 128):=by
    have:=mem_sub (k:=A.length-(k+1)*128) (m:=128) (r5.memI rfl) (by omega)
    rwa [Nat.zero_add] at this
   refine w_call F rfl rfl rfl (e_call2 rfl (F.ev rfl) (F.ev rfl) Tryz.call69) (comp_any hG gw5 (Nat.le_trans hGB fr5.1) M5.1 mb (by omega)) fun e w6 h6=>⟨_,h6.ret,fun a F=> ?_⟩
   have M6:=M5.frm h6.frm fun _ _ h=>h
   have r6:=r5.frm0 h6.frm
   have fr6:=fr5.trans h6.frm
   have hl6:=intsV_len h6.rng.1
   refine w_skip F rfl rfl (e_stA (cs:=intsV U8 (cpr h ((A.drop (A.length-(k+1)*128)).take 128))) (fun w=>by rw[hl6]; simp[go_sem]; rfl) (F.ev e3) (F.ev rfl) intsV_one (fun j hj=>M6.ex j (by rw[hl6] at hj; exact hj))) fun a F=>w_nil ?_
   have M7:=mem_st h6.rng M6.ex
   have r7:Has8 (w6.setCells w.heap.size 0 (intsV U8 (cpr h ((A.drop (A.length-(k+1)*128)).take 128)))) rb 0 A:=⟨r6.1,fun i hi=>(hasC_setCells_out (f:=false) ⟨r6.2 i hi,fun h=>(by cases h)⟩ (.inl hne)).1⟩
   have f7:=frm_setCells (S:=fun _ _=>False) (b:=w.heap.size) (intsV U8 (cpr h ((A.drop (A.length-(k+1)*128)).take 128))) 0 fr6 fun _ _=>.inl (Nat.le_refl _)
   generalize w6.setCells w.heap.size 0 (intsV U8 (cpr h ((A.drop (A.length-(k+1)*128)).take 128)))=w7 at M7 r7 f7 ⊢
   refine reg (w_move F rfl fun a F=>w_val F rfl rfl rfl (e_addi (F.ev e7) rfl) fun a F=>w_assign F rfl fun a F=>w_nil ?_)
   have hat2:A.length-(k+1)*128+128=A.length-k*128:=by omega
   refine⟨rfl,⟨_,_,F,e3,e4,congrArg (Value.int .i64) (by rw[hat,hat2]),M7,?_,r7,f7,gw_frm hG hgw (f7.mono (S':=fun b _=>b=w.heap.size) fun _ _ _ h=>h.elim) hGB⟩,by omega⟩
   rw[← hh,cprN,List.drop_drop,hat2]
 intro a w8 ⟨f,h,F,e3,_,_,M8,hh,_,f8,g8⟩
 have hh2:h=hst A:=hh
 have hhl:h.length=8:=M8.1.1
 refine w_sr (w_val F rfl rfl rfl e_bs0 fun a F=>w_assign F rfl fun a F=>w_end ?_)
 have O9:=own_new w8 #[] 0 (by omega) rfl
 have b9:=below_alloc w8 (.cells #[] 5)
 generalize w8.alloc (.cells #[] 5)=w9 at O9 b9 ⊢
 refine w_seqJ (J:=fun a w'=>∃ f,Fr a 76 f∧Own w' w8.heap.size (f 8) (ou h 8)∧Below w8.heap.size w8 w') (w_sr (w_const F rfl fun a F=>w_end ?_)) ?_
 ·refine wp_block (wp_loop_rounds _ (rounds_ind (J:=fun k a w'=>∃ f,Fr a 76 f∧f 3= .pointer (some ⟨w.heap.size,0,none⟩)∧f 9= .int .i64 ((8-k:Nat):Int)∧Own w' w8.heap.size (f 8) (ou h (8-k))∧Below w8.heap.size w8 w'∧k≤8) ?_ ?_ 8 _ _ ⟨_,F,e3,rfl,by rw[show ou h (8-8)= [] from rfl]; exact O9,b9,Nat.le_refl _⟩))
  ·intro a w' ⟨f,F,e3,e9,O,bel,_⟩
   refine wp_seq (wp_seq (reg (w_move F rfl fun a F=>w_val F rfl rfl rfl (e_lssi (F.ev e9) rfl) fun a F=>w_nil ?_)))
   refine wp_cond (t:=false) (F.ev rfl) (wp_exit ?_)
   exact⟨rfl,_,F,O,bel⟩
  ·intro k a w' ⟨f,F,e3,e9,O,bel,hk⟩
   have hb:decide (((8-(k+1):Nat):Int)<8)=true:=decide_eq_true (by omega)
   refine wp_seq (wp_seq (reg (w_move F rfl fun a F=>w_val F rfl rfl rfl (e_lssi (F.ev e9) rfl) fun a F=>w_nil ?_)))
   refine wp_cond (t:=true) (F.ev (congrArg Value.bool hb)) (wp_skip ?_)
   generalize hi:8-(k+1)=i at *
   have hi8:i<8:=by omega
   refine w_seqJ (J:=fun a w'=>∃ f,Fr a 76 f∧f 3= .pointer (some ⟨w.heap.size,0,none⟩)∧f 9= .int .i64 (i:Int)∧Own w' w8.heap.size (f 8) (ou h (i+1))∧Below w8.heap.size w8 w') (wp_block (w_sr (w_const F rfl fun a F=>w_end ?_))) ?_
   ·refine wp_block (wp_loop_rounds _ (rounds_ind (J:=fun q a w'=>∃ f,Fr a 76 f∧f 3= .pointer (some ⟨w.heap.size,0,none⟩)∧f 9= .int .i64 (i:Int)∧f 10= .int .i64 (ctr q)∧Own w' w8.heap.size (f 8) (ou h i++(be8 (h.getD i 0)).take (8-q))∧Below w8.heap.size w8 w'∧q≤8) ?_ ?_ 8 _ _ ⟨_,F,e3,e9,rfl,by rw[Nat.sub_self,List.take_zero,List.append_nil]; exact O,bel,Nat.le_refl _⟩))
    ·intro a w' ⟨f,F,e3,e9,e10,O,bel,_⟩
     refine wp_seq (wp_seq (reg (w_move F rfl fun a F=>w_val F rfl rfl rfl (e_geq (F.ev e10) rfl) fun a F=>w_nil ?_)))
     refine wp_cond (t:=false) (F.ev rfl) (wp_exit ?_)
     refine⟨rfl,_,F,e3,e9,?_,bel⟩
     rw[ou_succ (by omega)]
     rwa [List.take_of_length_le (by rw[be8_len]; omega)] at O
    ·intro q a w' ⟨f,F,e3,e9,e10,O,bel,hq⟩
     have hb:decide ((0:Int)≤ctr (q+1))=true:=decide_eq_true (Int.natCast_nonneg q)
     have h8k:IntKind.i64.wrap (8*ctr (q+1))=((8*q:Nat):Int):=by
      rw[ctr_s,wr64 (by omega) (by omega)]
      omega
     have Mw:=M8.frm (frm_below (S:=fun _ _=>False) bel) fun _ _ h=>h
     have hcell:=(Mw.2 i .u64 (h.getD i 0) (by rw[U8,List.getElem?_replicate,if_pos hi8]) (by simp[List.getD,hhl,hi8])).1
     refine wp_seq (wp_seq (reg (w_move F rfl fun a F=>w_val F rfl rfl rfl (e_geq (F.ev e10) rfl) fun a F=>w_nil ?_)))
     refine wp_cond (t:=true) (F.ev (congrArg Value.bool hb)) (wp_skip ?_)
     refine wp_seq (wp_block (reg (w_move F rfl fun a F=>w_move F rfl fun a F=>w_val F rfl rfl rfl (e_ixh (F.ev e3) (F.ev e9) hi8) fun a F=>w_val F rfl rfl rfl (e_ldu (F.ev rfl) hcell) fun a F=>w_move F rfl fun a F=>w_val F rfl rfl rfl (e_mi8 rfl (F.ev e10)) fun a F=>
      w_val F rfl rfl rfl (e_shr8 (F.ev rfl) (F.ev (congrArg (Value.int .i64) h8k))) fun a F=>w_val F rfl rfl rfl (e_cv8 (F.ev rfl)) fun a F=>w_val F rfl rfl rfl (e_bs1 (F.ev rfl)) fun a F=> ?_)))
     have O5:=O.below (below_alloc w' (.cells #[.int .u8 (IntKind.u8.wrap (o64 .shr (h.getD i 0) ((8*q:Nat):Int)))] 5))
     have h5:=has1 w' _ (u8_rng (o64 .shr (h.getD i 0) ((8*q:Nat):Int)))
     have b5:=bel.trans (below_down (below_alloc w' (.cells #[.int .u8 (IntKind.u8.wrap (o64 .shr (h.getD i 0) ((8*q:Nat):Int)))] 5)) bel.size)
     generalize w'.alloc (.cells #[.int .u8 (IntKind.u8.wrap (o64 .shr (h.getD i 0) ((8*q:Nat):Int)))] 5)=w5 at O5 h5 b5 ⊢
     refine w_app F rfl O5 rfl rfl h5 (by rw[List.length_append,ou_len (by omega),List.length_take,be8_len]; omega) b5.size fun v6 w6 a O6 b6 F=>w_assign F rfl fun a F=>w_nil ?_
     rw[List.append_assoc,be8_take (by omega)] at O6
     refine reg (w_move F rfl fun a F=>w_val F rfl rfl rfl (e_subi (F.ev e10) rfl) fun a F=>w_assign F rfl fun a F=>w_nil ?_)
     exact⟨rfl,_,F,e3,e9,congrArg (Value.int .i64) (ctr_dec (by omega)),O6,b5.trans b6,by omega⟩
   ·intro a w' ⟨f,F,e3,e9,O,bel⟩
    have hi1:IntKind.i64.wrap ((i:Int)+1)=((8-k:Nat):Int):=by
     rw[wr64 (by omega) (by omega)]
     omega
    refine reg (w_move F rfl fun a F=>w_val F rfl rfl rfl (e_addi (F.ev e9) rfl) fun a F=>w_assign F rfl fun a F=>w_nil ?_)
    rw[show i+1=8-k by omega] at O
    exact⟨rfl,_,F,e3,congrArg (Value.int .i64) hi1,O,bel,by omega⟩
 intro a w' ⟨f,F,O,bel⟩
 refine w_sr (w_move F rfl fun a F=>w_assign F rfl fun a F=>w_end ?_)
 have fr':=f8.trans (frm_below (S:=fun _ _=>False) bel)
 have hout:ou h 8=sha m:=by
  unfold sha out8 ou
  rw[List.take_of_length_le (by omega),hh2, ← hAA]
 rw[hout] at O
 obtain⟨b',c',hv,hc',-, hb',h8'⟩:=own_has O (by rw[sha_len]; omega) (fun x hx=>sha_rng x hx)
 refine w_ret ⟨F.df,f 8,?_,⟨_,rfl,by rw[hv]; exact Msg.of_has h8' rfl hc'⟩,fr',gw_frm hG hgw (fr'.mono (S':=fun b _=>b=w.heap.size) fun _ _ _ h=>h.elim) hGB⟩
 have h2:=F.tm 2
 rw[Array.getD_eq_getD_getElem?] at h2
 simp[results,Tryz.results39,go_sem]
 exact h2
end Go.Proofs.YtloibefkijfdlaaGreatDoor
