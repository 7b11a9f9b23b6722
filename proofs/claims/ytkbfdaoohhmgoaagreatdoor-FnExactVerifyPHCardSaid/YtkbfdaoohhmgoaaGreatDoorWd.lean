/- Walking by hand: rows that grow; rounds; values that are lists of words. -/
import Derived.Test.YtkbfdaoohhmgoaaGreatDoorNe
import Derived.Test.YtkbfdaoohhmgoaaGreatDoorSix
namespace Go.Proofs.YtkbfdaoohhmgoaaGreatDoor
section
open Go Go.RowKit Go.Lib
theorem Gj{P:Program}{X:Code}{J:Nat->Act->World->Prop}{Q:Exit->Act->World->Prop}(h0:∀a w,J 0 a w->X.wp P (Exit.then (λ_ _=>False) Q) a w)(hs:∀k a w,J (k+1) a w->X.wp P (λe a' w'=>e= .normal/\J k a' w') a w):∀(k:Nat) (a:Act) (w:World),J k a w->Code.rounds P X Q (k+1) a w
 |0,a,w,h=>h0 a w h
 |k+1,a,w,h=>wp_mono (hs k a w h) λe a' w' ⟨he,hj⟩=>by
  subst he;exact Gj h0 hs k a' w' hj
abbrev RX (w:World) (B:Nat) (v:Value) (xs:List Int):Prop:=w.ownsRow B 5 1 v xs.length (v8 xs)
theorem iD(w:World)(cur:Array Value)(cap:Nat)(hc:cap<=1000)(hs:cur.size=cap):RX (w.alloc (.cells cur 5)) w.heap.size (.slice (some ⟨w.heap.size,0,none⟩) 0 cap) []:=World.ownsRow_made w cur cap (Ie _) (by unfold maxLen;omega) (by rw[hs,Nat.mul_one])
section
variable{ops:Array Oper}{Q:Exit->Act->World->Prop}{rest:List Oper}{a:Act}{w:World}{n:Nat}{f:Nat->Value}
theorem dS{t x y B m c b o:Nat}{ty:TypeId}{pos:String}{af:Array Edge}{xs ys:List Int}(F:Fr a n f)(ht:Nat.blt t n=true)(τ:RX w B (f x) xs)(hy:f y= .slice (some ⟨b,o,none⟩) m c)(hm:ys.length=m)(h8:DD w b o ys)(hb:xs.length+m<=140737488355328)(hB:B<=w.heap.size)
  (hn:∀v' w' a',RX w' B v' (xs++ys)->Below B w w'->Fr a' n (Rw f t v')->wpList Tryz.prog ops Q rest a' w'):wpList Tryz.prog ops Q (⟨some t,.call ⟨.builtin .append,#[.tmp x,.tmp y],#[22,22]⟩,ty,pos,af,none⟩::rest) a w:=by
 obtain⟨i0,hi,F2,rL,rm⟩:=info_parts i8;refine wpList_append_own (o:=⟨some t,.call ⟨.builtin .append,#[.tmp x,.tmp y],#[22,22]⟩,ty,pos,af,none⟩) w rfl (.tmp x) (.tmp y) 22 rfl B 5 i0 (.int .u8 0) 1 1 Tryz.underlying22 hi F2 rL rm rfl (by decide) (f x) xs.length (v8 xs) F.e τ ⟨b,o,none⟩ m c (v8 ys) (F.ev hy) (by simp[v8,hm]) h8.at VN (by unfold maxLen;omega) (by omega) hB ?_;intro v' w' ho hg _;refine hn v' w' _ ?_ (Wz τ hg hB) (F.put ht v');show w'.ownsRow B 5 1 v' (xs++ys).length (v8 (xs++ys));rw[NC,hm];have:v8 (xs++ys)=v8 xs++v8 ys:=by simp[v8]
 rw[this];exact ho
end
theorem AGf(w:World)(x:Int)(hx:0<=x/\x<=255):DD (w.alloc (.cells #[.int .u8 x] 5)) w.heap.size 0 [x]:=by
 have h:=Jr w [.u8] [x] 5 (by
  refine⟨rfl,λi k y hk hy=>?_⟩
  match i,hk,hy with
  |0,hk,hy=>
   simp only[UV,Ai] at hk hy;subst hk;subst hy;exact⟨hx.1,hx.2⟩
  |i+1,hk,_=>simp at hk)
 exact⟨λz hz=>by rw[NU] at hz;subst hz;exact hx,λi hi=>(h.at8 (n:=1) (i:=i) (by simpa using hi)).1.1⟩
theorem AHS(w:World)(n:Nat):DD (w.alloc (.cells (Array.replicate n (.int .u8 0)) 5)) w.heap.size 0 (List.replicate n 0):=by
 have h:=Dj w n .u8 5 ⟨by decide,by decide⟩;exact⟨λz hz=>by rw[(A6.1 hz).2];decide,λi hi=>(h.at8 (i:=i) (by simpa using hi)).1.1⟩
theorem RX.below{w w':World}{B:Nat}{v:Value}{xs:List Int}(h:RX w B v xs)(hb:Below w.heap.size w w'):RX w' B v xs:=by
 refine⟨h.1,?_⟩;rcases h.2 with h2|⟨g,cap,cur,h1,h2,h3,h4⟩
 ·exact .inl h2
 ·refine .inr ⟨g,cap,cur,h1,h2,?_,h4⟩;have bj:g<w.heap.size:=by
   rcases kz g w.heap.size with h|h
   ·exact h
   ·simp[uM h] at h3
  rw[hb.block g bj];exact h3
theorem RX.sl{w:World}{B:Nat}{v:Value}{xs:List Int}(h:RX w B v xs):∃ap c,v= .slice ap xs.length c:=by
 rcases h.2 with⟨h1,h2⟩|⟨g,cap,cur,h1,_⟩
 ·exact⟨none,0,by rw[h1,h2]⟩
 ·exact⟨_,_,h1⟩
theorem DT(w:World)(o:Obj):Below w.heap.size w (w.alloc o):=(Below.refl _ w).alloc (Ie _) _
theorem LW{B C:Nat}{w w':World}(h:Below C w w')(hb:B<=C):Below B w w':=⟨h.1,h.2,h.3,h.4,λk hk=>h.5 k (by omega)⟩
structure ql (GC:Nat->Nat->Option Value) (ks:List IntKind) (l:List Int) (w:World) (e:Ending) (w':World):Prop where
 ret:e= .returned (.agg (AL ks l).toArray)
 fy:EP ks l
 an:BD w w' (λ_ _=>False)
 gw:GW GC w'
section
variable{GB:Nat}{GC:Nat->Nat->Option Value}{w:World}(ε:GW GC w)(δ:GB<=w.heap.size)
include ε δ
theorem Mc{f:Nat}{s:Az}{ks:List IntKind}{F:PF}{args:List Value}{ins:List (List Int)}{bs:List (Nat×Nat)}(eM:Bv Tryz.prog GB GC f (.one s))(cY:s.outs= [])(vf:s.ret= [.agg ks F])(hP:Jg GB w s.params args ins bs)(hS:Ep s.params bs)(MY:s.hp=true->s.pre ins):
  Calls Tryz.prog f args.toArray w (ql GC ks (F ins) w):=by
 refine(eM true args ins bs w ε δ hP hS MY rfl).mono λe w' ⟨fb,vs,he,hq⟩=>?_
 simp only[FE.cf] at hq;have hr:=hq.ret;rw[vf] at hr
 match vs,hr with
 | [v],hr=>
  have h1:EP ks (F ins)/\v= .agg (AL ks (F ins)).toArray:=hr.1;refine⟨by rw[he,h1.2];rfl,h1.1,hq.an.mono λb o _ hs=>?_,hq.gw⟩;obtain⟨p,eA,_⟩:=hs;rw[cY] at eA;cases eA
end
theorem Wx{p:Et}{b:Nat×Nat}:Ep [p] [b]:=⟨λ_ h=>(by cases h),trivial⟩
theorem Z0{ks:List IntKind}{ps:List Et}{b:Nat×Nat}{bs:List (Nat×Nat)}(h:Ep ps bs):Ep (.agg ks::ps) (b::bs):=⟨λx _=>by unfold U9;simp[Et.cp],h⟩
end
section
open Go Go.RowKit Go.Lib
section
variable{ρ:Operand->Value}{d:Option Tmp}{x y:Operand}{ty:TypeId}{pos:String}{af:Array Edge}{w:World}{b o:Nat}
theorem AEk{i j:Nat}(h:ρ x= .int .i64 i)(hy:ρ y= .int .i64 j)(hj:0<j):(execOp ρ ⟨d,.binOp .rem 3 x y 3,ty,pos,af,none⟩).run Tryz.prog w= .ok (.value (.int .i64 ((i%j:Nat):Int))) w:=by
 simp[execOp,go_sem,h,hy];rw[if_neg (by omega)];rfl
theorem AUG{a:Act}:(execOp a.eval ⟨d,.build 39 #[(0,.const (.int .u64 7640891576956012808)),(1,.const (.int .u64 13503953896175478587)),(2,.const (.int .u64 4354685564936845355)),(3,.const (.int .u64 11912009170470909681)),(4,.const (.int .u64 5840696475078001361)),(5,.const (.int .u64 11170449401992604703)),(6,.const (.int .u64 2270897969802886507)),(7,.const (.int .u64 6620516959819538809))],ty,pos,af,none⟩).run Tryz.prog w= .ok (.value (.agg (AL U8 H0).toArray)) w:=by
 simp[execOp,go_sem,Act.eval];rfl
theorem APN:(execOp ρ ⟨d,.alloc 39,ty,pos,af,none⟩).run Tryz.prog w= .ok (.value (.pointer (some ⟨w.heap.size,0,none⟩))) (w.alloc (.cells (Array.replicate 8 (.int .u64 0)) 39)):=by
 simp[execOp,go_sem];rfl
theorem ADm:(execOp ρ ⟨d,.buildSlice 22 0 #[],ty,pos,af,none⟩).run Tryz.prog w= .ok (.value (.slice (some ⟨w.heap.size,0,none⟩) 0 0)) (w.alloc (.cells #[] 5)):=by
 simp[execOp,go_sem]
theorem ARS{a:Act}:(execOp a.eval ⟨d,.buildSlice 22 8 #[(0,.const (.int .u8 0)),(1,.const (.int .u8 0)),(2,.const (.int .u8 0)),(3,.const (.int .u8 0)),(4,.const (.int .u8 0)),(5,.const (.int .u8 0)),(6,.const (.int .u8 0)),(7,.const (.int .u8 0))],ty,pos,af,none⟩).run Tryz.prog w= .ok (.value (.slice (some ⟨w.heap.size,0,none⟩) 8 8)) (w.alloc (.cells (Array.replicate 8 (.int .u8 0)) 5)):=by
 simp[execOp,go_sem,Act.eval];rfl
theorem AL3{i:Int}(hx:ρ x= .int .u64 i)(hy:ρ y= .int .u64 8):(execOp ρ ⟨d,.binOp .mul 38 x y 38,ty,pos,af,none⟩).run Tryz.prog w= .ok (.value (.int .u64 (IntKind.u64.wrap (i*8)))) w:=by
 simp[execOp,go_sem,hx,hy]
theorem AKB{i:Int}(hx:ρ x= .int .i64 8)(hy:ρ y= .int .i64 i):(execOp ρ ⟨d,.binOp .mul 3 x y 3,ty,pos,af,none⟩).run Tryz.prog w= .ok (.value (.int .i64 (IntKind.i64.wrap (8*i)))) w:=by
 simp[execOp,go_sem,hx,hy]
theorem AD0{v:Int}{k:Nat}(hx:ρ x= .int .u64 v)(hy:ρ y= .int .i64 (k:Int)):(execOp ρ ⟨d,.binOp .shr 38 x y 3,ty,pos,af,none⟩).run Tryz.prog w= .ok (.value (.int .u64 (DR .shr v (k:Int)))) w:=by
 simp[execOp,go_sem,hx,hy];show _=v.fdiv (2^(min ((k:Int)).toNat 64));rw[Rh,Int.fdiv_eq_ediv_of_nonneg _ (Int.le_of_lt (Int.pow_pos (by decide)))]
theorem AJ0{i:Int}(h:ρ x= .int .u64 i):(execOp ρ ⟨d,.convert 38 5 x,ty,pos,af,none⟩).run Tryz.prog w= .ok (.value (.int .u8 (IntKind.u8.wrap i))) w:=by
 simp[execOp,go_sem,h]
theorem TQ{i j:Int}(h:ρ x= .int .i64 i)(hy:ρ y= .int .i64 j):(execOp ρ ⟨d,.binOp .sub 3 x y 3,ty,pos,af,none⟩).run Tryz.prog w= .ok (.value (.int .i64 (IntKind.i64.wrap (i-j)))) w:=by
 simp[execOp,go_sem,h,hy]
theorem Qc{i j:Int}(h:ρ x= .int .i64 i)(hy:ρ y= .int .i64 j):(execOp ρ ⟨d,.binOp .lss 3 x y 3,ty,pos,af,none⟩).run Tryz.prog w= .ok (.value (.bool (decide (i<j)))) w:=by
 simp[execOp,go_sem,h,hy]
end
structure PA (w1:World) (D:Value) (hb:Nat) (al:List Int) (a:Act) (w:World):Prop where
 ex:∃f,Fr a 76 f/\f 0=D/\f 3= .pointer (some ⟨hb,0,none⟩)/\RX w w1.heap.size (f 4) al
 oS:Below w1.heap.size w1 w
theorem om(L:Nat):1<=Fh L:=by unfold Fh;split<;>omega
theorem AJV{L:Nat}:(L+1+(Fh L-1))%128=112:=by unfold Fh;split<;>omega
theorem AIu{L k:Nat}(h:k+1<=Fh L-1):(L+1+(Fh L-1-(k+1)))%128≠112:=by
 unfold Fh at *
 by_cases h1:L%128<112
 ·rw[if_pos h1] at *
  omega
 ·rw[if_neg h1] at *
  omega
theorem ACs(n:Nat):List.replicate (n+1) (0:Int)=List.replicate n 0 ++ [0]:=List.replicate_succ'
def qo(m:List Int)(k:Nat):List Int:=m++128::List.replicate (Fh m.length-1-k) 0
theorem Vr(m:List Int)(k:Nat):(qo m k).length=m.length+1+(Fh m.length-1-k):=by simp[qo];omega
theorem AET{m:List Int}{k:Nat}(h:k+1<=Fh m.length-1):qo m (k+1) ++ [0]=qo m k:=by
 unfold qo;rw[Yt,LS, <- ACs,show Fh m.length-1-(k+1)+1=Fh m.length-1-k by omega]
def C6(m:List Int)(k:Nat):List Int:=qo m 0++(List.replicate 8 0++(Ra ((m.length*8:Nat):Int)).take (8-k))
theorem qJ{v:Int}:∀ {k:Nat},k<8->(Ra v).take (8-(k+1)) ++ [IntKind.u8.wrap (DR .shr v ((8*k:Nat):Int))]=(Ra v).take (8-k)
 |0,_=>rfl
 |1,_=>rfl
 |2,_=>rfl
 |3,_=>rfl
 |4,_=>rfl
 |5,_=>rfl
 |6,_=>rfl
 |7,_=>rfl
 |k+8,h=>by omega
theorem ACO{m:List Int}{k:Nat}(h:k<8):C6 m (k+1) ++ [IntKind.u8.wrap (DR .shr ((m.length*8:Nat):Int) ((8*k:Nat):Int))]=C6 m k:=by
 unfold C6;rw[Yt,Yt,qJ h]
theorem AIP(m:List Int){k:Nat}(h:k<=8):(C6 m k).length=(qo m 0).length+16-k:=by
 unfold C6;rw[NC,NC,Rp,Qw,LA];omega
theorem AHl(m:List Int):C6 m 0=m++tQ m.length:=by
 have hz:=om m.length;unfold C6 qo tQ;rw[NO (by rw[LA];omega),Yt,LS, <- Yt (List.replicate _ _),List.replicate_append_replicate,show Fh m.length-1-0+8=Fh m.length+7 by omega]
theorem VC(x:Int):0<=IntKind.u8.wrap x/\IntKind.u8.wrap x<=255:=by
 rw[uF];omega
structure PB (w1:World) (D:Value) (hb:Nat) (m:List Int) (k:Nat) (a:Act) (w:World):Prop where
 ex:∃f,Fr a 76 f/\f 0=D/\f 3= .pointer (some ⟨hb,0,none⟩)/\RX w w1.heap.size (f 4) (C6 m k)/\f 5= .int .u64 ((m.length*8:Nat):Int)/\f 6= .int .i64 (MJ k)
 oS:Below w1.heap.size w1 w
theorem AIU{L:Nat}:∀x∈tQ L,0<=x/\x<=255:=λx hx=>by
 unfold tQ at hx;rcases G9.1 hx with h|h
 ·subst h;decide
 ·rcases qM.1 h with h|h
  ·rw[(A6.1 h).2];decide
  ·unfold Ra at h;obtain⟨k,-,rfl⟩:=Us.1 h;exact VC _
def PC(GC:Nat->Nat->Option Value)(w0:World)(rb rc:Nat)(A:List Int)(k:Nat)(a:Act)(w:World):Prop:=
 ∃f h,Fr a 76 f/\f 3= .pointer (some ⟨w0.heap.size,0,none⟩)/\f 4= .slice (some ⟨rb,0,none⟩) A.length rc/\f 7= .int .i64 ((A.length-k*128:Nat):Int)/\AO true w (w0.heap.size,0) U8 h/\Oz k h (A.drop (A.length-k*128))=Oz (A.length/128) H0 A/\DD w rb 0 A/\BD w0 w (λ_ _=>False)/\GW GC w
theorem ARj{ρ:Operand->Value}{d:Option Tmp}{x y z:Operand}{ty:TypeId}{pos:String}{af:Array Edge}{w:World}{b m c i n:Nat}(hx:ρ x= .slice (some ⟨b,0,none⟩) m c)(hy:ρ y= .int .i64 (i:Int))(hz:ρ z= .int .i64 ((i+n:Nat):Int))(h1:0<n)(h2:i+n<=c):(execOp ρ ⟨d,.slice 22 x (some y) (some z) none,ty,pos,af,none⟩).run Tryz.prog w= .ok (.value (.slice (some ⟨b,i,none⟩) n (c-i))) w:=by
 have hu:=run_underlying (w:=w) Tryz.underlying22;have rj:∀code,(Instr.sliceBound (.int .i64 (i:Int)) (i+n) code).run Tryz.prog w= .ok i w:=λcode=>Bn _ w (by omega) code
 have cV:∀code,(Instr.sliceBound (.int .i64 ((i+n:Nat):Int)) c code).run Tryz.prog w= .ok (i+n) w:=λcode=>Bn _ w h2 code
 simp only[execOp,hx,hy,hz,UT,Option.map_none,Instr.sliceAt,Instr.slice,Gi,hu,Fb];simp only[Instr.sliceBounds,rj,cV,sz8,Gi,I4,Fb];have cj:¬(c=i):=by omega
 simp[cj,Ce]
theorem DD.cr{w w':World}{b o:Nat}{xs:List Int}(h:DD w b o xs)(hf:BD w w' (λ_ _=>False)):DD w' b o xs:=⟨h.1,λi hi=>(hf.fk (f:=false) ⟨h.2 i hi,λh=>(by cases h)⟩ (λh=>h)).1⟩
theorem AT2{ks js:List IntKind}{g:Nat}{b c:Nat×Nat}:Ep [.agg ks,.sl js g false] [b,c]:=Z0 Wx
theorem AEW{GB:Nat}{GC:Nat->Nat->Option Value}{ad:Nat->Nat×Nat}(hG:GI GB GC ad){w:World}(ε:GW GC w)(δ:GB<=w.heap.size){rb at_ c:Nat}{h bl:List Int}(hh:EP U8 h)(hm:AO false w (rb,at_) (List.replicate 128 .u8) bl)(hc:128<=c):
  Calls Tryz.prog 51 #[.agg (AL U8 h).toArray,.slice (some ⟨rb,at_,none⟩) 128 c] w (ql GC U8 (ru h bl) w):=by
 have:=Mc (F:=λa=>BF 8 (EO.raw BH 0 a)) (ks:=U8) (args:=[.agg (AL U8 h).toArray,.slice (some ⟨rb,at_,none⟩) 128 c]) (ins:=[h,bl]) (bs:=[(0,0),(rb,at_)]) ε δ (VR hG) rfl rfl ⟨⟨hh,rfl⟩,⟨c,rfl,hc,hm,λh=>(by cases h)⟩,trivial⟩ AT2 (λh=>absurd (show false=true from h) (by decide));have hl:h.length=8:=hh.1;rw[dM hl hm.jz,Ay (kI hl)] at this;exact this
def ou(h:List Int)(i:Nat):List Int:=(h.take i).flatMap Ra
theorem AGC{h:List Int}{i:Nat}(hi:i<h.length):ou h (i+1)=ou h i++Ra (h.getD i 0):=by
 unfold ou;rw[List.take_add_one,List.flatMap_append,show h[i]? = some (h.getD i 0) by simp[List.getD,hi]];simp
theorem ALR{h:List Int}{i:Nat}(hi:i<=h.length):(ou h i).length=8*i:=by
 unfold ou;rw[List.length_flatMap];have:(List.map (λx=>(Ra x).length) (h.take i))=List.replicate i 8:=by
  rw[List.eq_replicate_iff];refine⟨by rw[UC,Qw];omega,λx hx=>?_⟩;obtain⟨y,-,rfl⟩:=Us.1 hx;exact LA y
 rw[this];simp;omega
theorem AI8{v:Int}:∀x∈Ra v,0<=x/\x<=255:=λx h=>by
 unfold Ra at h;obtain⟨k,-,rfl⟩:=Us.1 h;exact VC _
theorem AIV{m:List Int}:∀x∈Qt m,0<=x/\x<=255:=λx hx=>by
 unfold Qt ACv at hx;obtain⟨v,-,h⟩:=List.mem_flatMap.1 hx;exact AI8 x h
structure MsP (GC:Nat->Nat->Option Value) (l:List Int) (w:World) (e:Ending) (w':World):Prop where
 ret:∃v,e= .returned v/\Ku w' v l
 an:BD w w' (λ_ _=>False)
 gw:GW GC w'
set_option maxRecDepth 100000 in
theorem ACW{GB:Nat}{GC:Nat->Nat->Option Value}{ad:Nat->Nat×Nat}(hG:GI GB GC ad){w:World}{D:Value}{m:List Int}(ε:GW GC w)(δ:GB<=w.heap.size)(hD:Ku w D m)(h0:0<m.length)(hlen:m.length<1000000000000):
  Calls Tryz.prog 40 #[D] w (MsP GC (Qt m) w):=by
 obtain⟨b,o,c,hDv,hc,h8⟩:=hD.has h0;refine enter (args:=[D]) Tryz.func40 rfl (n:=76) rfl λa F=>?_
 refine AP (Aj F rfl λa F=>AJ ?_);refine AP (AZ F rfl AUG λa F=>AZ F rfl APN λa F=>?_);have M1:=Dj w 8 .u64 39 ⟨by decide,by decide⟩;have f1:BD w (w.alloc (.cells (Array.replicate 8 (.int .u64 0)) 39)) (λ_ _=>False):=BC _ _ _;generalize AD:w.alloc (.cells (Array.replicate 8 (.int .u64 0)) 39)=w1 at M1 f1 ⊢;have mC:(AL U8 H0).length=8:=rfl;refine FB F rfl rfl (Kb (cs:=AL U8 H0) (λw=>by rw[mC];simp[go_sem]) F.e F.e D7 (λj hj=>M1.ex j (by rw[mC] at hj;simpa using hj))) λa F=>AJ ?_
 have M2:=Iw (w:=w1) (b:=w.heap.size) (o:=0) (ks:=U8) (xs:=H0) (O8 (by decide)) (λj hj=>M1.ex j hj);have f2:BD w (w1.setCells w.heap.size 0 (AL U8 H0)) (λ_ _=>False):=BG _ _ f1 λ_ _=>.inl (Ie _)
 generalize w1.setCells w.heap.size 0 (AL U8 H0)=w2 at M2 f2 ⊢;have hs2:w.heap.size<w2.heap.size:=(M2.2 0 .u64 _ rfl rfl).lt;refine AP (AZ F rfl ADm λa F=>AA F rfl λa F=>?_);have O3:=iD w2 #[] 0 (by omega) rfl;have b3:=DT w2 (.cells #[] 5);generalize w2.alloc (.cells #[] 5)=w3 at O3 b3 ⊢;have h83:DD w3 b o m:=(h8.below (J9 f2 λ_ _ h=>h) (h8.lt h0)).below b3 (qm (h8.lt h0) f2.1);refine dS F rfl O3 hDv rfl h83 (by rw[HM];omega) b3.size λv4 w4 a O4 b4 F=>?_
 rw[MA] at O4;have MD:=b3.trans b4;refine AZ F rfl (ow (i:=128) rfl) λa F=>?_
 have O5:=O4.below (DT w4 (.cells #[.int .u8 128] 5));have h5:=AGf w4 128 (by decide);have b5:=MD.trans (LW (DT w4 (.cells #[.int .u8 128] 5)) MD.size);generalize w4.alloc (.cells #[.int .u8 128] 5)=w5 at O5 h5 b5 ⊢;refine dS F rfl O5 rfl rfl h5 (by omega) b5.size λv6 w6 a O6 b6 F=>AB F rfl λa F=>AJ ?_
 have hz:=om m.length;have hJ:PA w2 D w.heap.size (qo m (Fh m.length-1)) a w6:=by
  refine⟨⟨_,F,rfl,rfl,?_⟩,b5.trans b6⟩;have:qo m (Fh m.length-1)=m ++ [128]:=by unfold qo;rw[HF];rfl
  rw[this];exact O6
 clear F O6 b6 O5 h5 b5 O4 b4 MD O3 b3 h83;refine GM (J:=λa w'=>PA w2 D w.heap.size (qo m 0) a w') (wp_block (wp_loop_rounds _ (Gj (J:=λk a w'=>PA w2 D w.heap.size (qo m k) a w'/\k<=Fh m.length-1) ?_ ?_ (Fh m.length-1) _ _ ⟨hJ,Ie _⟩))) ?_
 ·intro a w' ⟨⟨⟨f,F,e0,e3,O⟩,oS⟩,_⟩;obtain⟨ap,cc,hv⟩:=O.sl;have hb:((((qo m 0).length%128:Nat):Int) != 112)=false:=by
   rw[Vr,Nat.sub_zero,AJV];rfl
  refine wp_seq (wp_seq (cp (AA F rfl λa F=>AZ F rfl (OE (F.ev hv)) λa F=>AZ F rfl (AEk (j:=128) F.e rfl (by decide)) λa F=>AZ F rfl (Qd F.e rfl) λa F=>CY ?_)));refine wp_cond (t:=false) (F.ev (CV Value.bool hb)) (wp_exit ?_);exact⟨rfl,⟨_,F,e0,e3,O⟩,oS⟩
 ·intro k a w' ⟨⟨⟨f,F,e0,e3,O⟩,oS⟩,hk⟩;obtain⟨ap,cc,hv⟩:=O.sl;have hb:((((qo m (k+1)).length%128:Nat):Int) != 112)=true:=by
   have:=AIu hk;rw[Vr];simp only[bne_iff_ne,ne_eq];omega
  refine wp_seq (wp_seq (cp (AA F rfl λa F=>AZ F rfl (OE (F.ev hv)) λa F=>AZ F rfl (AEk (j:=128) F.e rfl (by decide)) λa F=>AZ F rfl (Qd F.e rfl) λa F=>CY ?_)));refine wp_cond (t:=true) (F.ev (CV Value.bool hb)) (wp_skip ?_);refine wp_block (cp (AA F rfl λa F=>AZ F rfl (ow (i:=0) rfl) λa F=>?_));have O5:=O.below (DT w' (.cells #[.int .u8 0] 5));have h5:=AGf w' 0 (by decide);have b5:=oS.trans (LW (DT w' (.cells #[.int .u8 0] 5)) oS.size);generalize w'.alloc (.cells #[.int .u8 0] 5)=w5 at O5 h5 b5 ⊢;refine dS F rfl O5 rfl rfl h5 (by rw[Vr];have:=RZ m.length;omega) b5.size λv6 w6 a O6 b6 F=>AB F rfl λa F=>CY ?_
  rw[AET hk] at O6;exact⟨rfl,⟨⟨_,F,e0,e3,O6⟩,b5.trans b6⟩,by omega⟩
 intro a w3 ⟨⟨f,F,e0,e3,O3⟩,b3⟩;refine AP (AA F rfl λa F=>AZ F rfl ARS λa F=>?_);have O5:=O3.below (DT w3 (.cells (Array.replicate 8 (.int .u8 0)) 5));have h5:=AHS w3 8;have b5:=b3.trans (LW (DT w3 (.cells (Array.replicate 8 (.int .u8 0)) 5)) b3.size);generalize w3.alloc (.cells (Array.replicate 8 (.int .u8 0)) 5)=w5 at O5 h5 b5 ⊢;refine dS F rfl O5 rfl rfl h5 (by rw[Vr];have:=RZ m.length;omega) b5.size λv6 w6 a O6 b6 F=>AB F rfl λa F=>AJ ?_
 have b6':=b5.trans b6;obtain⟨ap,cc,afc⟩:∃ap cc,D= .slice ap m.length cc:=⟨_,_,hDv⟩;have hw8:IntKind.u64.wrap (IntKind.u64.wrap (m.length:Int)*8)=((m.length*8:Nat):Int):=by
  rw[Ot,Ot];omega
 refine AP (AA F rfl λa F=>AZ F rfl (OE (F.ev (e0.trans afc))) λa F=>AZ F rfl (ASe F.e) λa F=>AZ F rfl (AL3 F.e rfl) λa F=>AB F rfl λa F=>AJ ?_);refine GM (J:=λa w'=>PB w2 D w.heap.size m 0 a w') (AP (Aj F rfl λa F=>AJ ?_)) ?_
 ·have hJ:PB w2 D w.heap.size m 8 a w6:=by
   refine⟨⟨_,F,e0,e3,?_,CV (Value.int .u64) hw8,rfl⟩,b6'⟩;have:C6 m 8=qo m 0++List.replicate 8 0:=by unfold C6;rw[HF,zcv,RD]
   rw[this];exact O6
  clear F O6 b6 b6' O5 h5 b5 O3 b3 e0 e3;refine wp_block (wp_loop_rounds _ (Gj (J:=λk a w'=>PB w2 D w.heap.size m k a w'/\k<=8) ?_ ?_ 8 _ _ ⟨hJ,Ie _⟩))
  ·intro a w' ⟨⟨⟨f,F,e0,e3,O,e5,e6⟩,oS⟩,_⟩;refine wp_seq (wp_seq (cp (AA F rfl λa F=>AZ F rfl (Np (F.ev e6) rfl) λa F=>CY ?_)));refine wp_cond (t:=false) F.e (wp_exit ?_);exact⟨rfl,⟨_,F,e0,e3,O,e5,e6⟩,oS⟩
  ·intro k a w' ⟨⟨⟨f,F,e0,e3,O,e5,e6⟩,oS⟩,hk⟩;have hb:decide ((0:Int)<=MJ (k+1))=true:=decide_eq_true (nI k);have h8k:IntKind.i64.wrap (8*MJ (k+1))=((8*k:Nat):Int):=by
    rw[xD,YB (by omega) (by omega)];omega
   refine wp_seq (wp_seq (cp (AA F rfl λa F=>AZ F rfl (Np (F.ev e6) rfl) λa F=>CY ?_)));refine wp_cond (t:=true) (F.ev (CV Value.bool hb)) (wp_skip ?_);refine wp_seq (wp_block (cp (AA F rfl λa F=>AA F rfl λa F=>AA F rfl λa F=>AZ F rfl (AKB rfl (F.ev e6)) λa F=>AZ F rfl (AD0 (F.ev e5) (F.ev (CV (Value.int .i64) h8k))) λa F=>AZ F rfl (AJ0 F.e) λa F=>AZ F rfl (ow F.e) λa F=>?_)));have O5:=O.below (DT w' (.cells #[.int .u8 (IntKind.u8.wrap (DR .shr ((m.length*8:Nat):Int) ((8*k:Nat):Int)))] 5));have h5:=AGf w' _ (VC (DR .shr ((m.length*8:Nat):Int) ((8*k:Nat):Int)));have b5:=oS.trans (LW (DT w' (.cells #[.int .u8 (IntKind.u8.wrap (DR .shr ((m.length*8:Nat):Int) ((8*k:Nat):Int)))] 5)) oS.size);generalize w'.alloc (.cells #[.int .u8 (IntKind.u8.wrap (DR .shr ((m.length*8:Nat):Int) ((8*k:Nat):Int)))] 5)=w5 at O5 h5 b5 ⊢;refine dS F rfl O5 rfl rfl h5 (by rw[AIP m hk,Vr];have:=RZ m.length;omega) b5.size λv6 w6 a O6 b6 F=>AB F rfl λa F=>CY ?_
   rw[ACO (by omega)] at O6;refine cp (AA F rfl λa F=>AZ F rfl (TQ (F.ev e6) rfl) λa F=>AB F rfl λa F=>CY ?_);exact⟨rfl,⟨⟨_,F,e0,e3,O6,e5,CV (Value.int .i64) (MQ (by omega))⟩,b5.trans b6⟩,by omega⟩
 intro a w3 ⟨⟨f,F,e0,e3,O3,_,_⟩,b3⟩;rw[AHl] at O3;have aay:=yj m;have hAl:(m++tQ m.length).length=m.length+(Fh m.length+16):=by rw[NC,Yo]
 have hpT:=RZ m.length;have hA8:∀x∈m++tQ m.length,0<=x/\x<=255:=λx hx=>by
  rcases qM.1 hx with h|h
  ·exact h8.1 x h
  ·exact AIU x h
 obtain⟨rb,rc,RE,hrc,hrB,-,S8⟩:=Ya O3 (by omega) hA8;have M3:AO true w3 (w.heap.size,0) U8 H0:=M2.an (HY (S:=λ_ _=>False) b3) λ_ _ h=>h
 have f3:BD w w3 (λ_ _=>False):=f2.trans (HY b3);have cj:rb≠w.heap.size:=by omega
 generalize hAA:m++tQ m.length=A at *
 refine GM (J:=λa w'=>PC GC w rb rc A 0 a w') (AP (Aj F rfl λa F=>AJ ?_)) ?_
 ·have hJ:PC GC w rb rc A (A.length/128) _ w3:=⟨_,_,F,e3,RE,by rw[show A.length-A.length/128*128=0 by omega];rfl,M3,by rw[show A.length-A.length/128*128=0 by omega];rfl,S8,f3,Fu hG ε (f3.mono (S':=λb _=>b=w.heap.size) λ_ _ _ h=>h.elim) δ⟩;clear F O3 b3 e0 e3 M3 f3 RE S8;refine wp_block (wp_loop_rounds _ (Gj (J:=λk a w'=>PC GC w rb rc A k a w'/\k*128<=A.length) ?_ ?_ (A.length/128) _ _ ⟨hJ,by omega⟩))
  ·intro a w' ⟨⟨f,h,F,e3,e4,e7,M,hh,r8,fr,gw⟩,_⟩;have hb:decide (((A.length-0*128:Nat):Int)<(A.length:Int))=false:=decide_eq_false (by omega);refine wp_seq (wp_seq (cp (AA F rfl λa F=>AA F rfl λa F=>AZ F rfl (OE (F.ev e4)) λa F=>AZ F rfl (Qc (F.ev e7) F.e) λa F=>CY ?_)));refine wp_cond (t:=false) (F.ev (CV Value.bool hb)) (wp_exit ?_);exact⟨rfl,_,_,F,e3,e4,e7,M,hh,r8,fr,gw⟩
  ·intro k a w' ⟨⟨f,h,F,e3,e4,e7,M,hh,r8,fr,gw⟩,hk⟩;have hb:decide (((A.length-(k+1)*128:Nat):Int)<(A.length:Int))=true:=decide_eq_true (by omega);refine wp_seq (wp_seq (cp (AA F rfl λa F=>AA F rfl λa F=>AZ F rfl (OE (F.ev e4)) λa F=>AZ F rfl (Qc (F.ev e7) F.e) λa F=>CY ?_)));refine wp_cond (t:=true) (F.ev (CV Value.bool hb)) (wp_skip ?_);have hat:IntKind.i64.wrap (((A.length-(k+1)*128:Nat):Int)+128)=((A.length-(k+1)*128+128:Nat):Int):=by
    rw[YB (by omega) (by omega)];omega
   refine wp_seq (wp_block (wp_region_still_tail 6 mixed (by kernel_rfl) ?_));have vq:BD w' { w' with drawn:=w'.drawn+1 } (λ_ _=>False):=(BD.refl _ _).of_heap rfl rfl rfl rfl;generalize ({ w' with drawn:=w'.drawn+1 }:World)=w5 at vq ⊢;have M5:=M.an vq λ_ _ h=>h
   have r5:=r8.cr vq;have fr5:=fr.trans vq;have gw5:=Fu hG gw (vq.mono (S':=λb _=>b=w.heap.size) λ_ _ _ h=>h.elim) δ;refine BZ F rfl rfl rfl (OL (cs:=AL U8 h) (λw=>by simp[go_sem]) (λw=>by rw[Cg M.1.1];simp[go_sem];rfl) (F.ev e3) M5.cJ) λa F=>Dm F rfl λa F=>Dm F rfl λa F=>Dm F rfl λa F=>BZ F rfl rfl rfl (XK (F.ev e7) rfl) λa F=>BZ F rfl rfl rfl (ARj (F.ev e4) (F.ev e7) (F.ev (CV (Value.int .i64) hat)) (by omega) (by omega)) λa F=>?_
   have mb:AO false w5 (rb,A.length-(k+1)*128) (List.replicate 128 .u8) ((A.drop (A.length-(k+1)*128)).take 128):=by
    have:=za (k:=A.length-(k+1)*128) (m:=128) (r5.Ks rfl) (by omega);rwa [KN] at this
   refine EG F rfl (Bg rfl F.e F.e Tryz.call51) (AEW hG gw5 (EX δ fr5.1) M5.1 mb (by omega)) λe w6 h6=>⟨_,h6.ret,λa F=>?_⟩
   have M6:=M5.an h6.an λ_ _ h=>h
   have r6:=r5.cr h6.an;have fr6:=fr5.trans h6.an;have hl6:=Cg h6.fy.1;refine FB F rfl rfl (Kb (cs:=AL U8 (ru h ((A.drop (A.length-(k+1)*128)).take 128))) (λw=>by rw[hl6];simp[go_sem];rfl) (F.ev e3) F.e D7 (λj hj=>M6.ex j (by rw[hl6] at hj;exact hj))) λa F=>CY ?_
   have M7:=Iw h6.fy M6.ex;have r7:DD (w6.setCells w.heap.size 0 (AL U8 (ru h ((A.drop (A.length-(k+1)*128)).take 128)))) rb 0 A:=⟨r6.1,λi hi=>(Gb (f:=false) ⟨r6.2 i hi,λh=>(by cases h)⟩ (.inl cj)).1⟩;have f7:=BG (S:=λ_ _=>False) (b:=w.heap.size) (AL U8 (ru h ((A.drop (A.length-(k+1)*128)).take 128))) 0 fr6 λ_ _=>.inl (Ie _)
   generalize w6.setCells w.heap.size 0 (AL U8 (ru h ((A.drop (A.length-(k+1)*128)).take 128)))=w7 at M7 r7 f7 ⊢;refine cp (AA F rfl λa F=>AZ F rfl (XK (F.ev e7) rfl) λa F=>AB F rfl λa F=>CY ?_);have acC:A.length-(k+1)*128+128=A.length-k*128:=by omega
   refine⟨rfl,⟨_,_,F,e3,e4,CV (Value.int .i64) (by rw[hat,acC]),M7,?_,r7,f7,Fu hG ε (f7.mono (S':=λb _=>b=w.heap.size) λ_ _ _ h=>h.elim) δ⟩,by omega⟩;rw[<- hh,Oz,List.drop_drop,acC]
 intro a w8 ⟨f,h,F,e3,_,_,M8,hh,_,f8,g8⟩;have hh2:h=eN A:=hh;have hhl:h.length=8:=M8.1.1;refine AP (AZ F rfl ADm λa F=>AB F rfl λa F=>AJ ?_);have O9:=iD w8 #[] 0 (by omega) rfl;have b9:=DT w8 (.cells #[] 5);generalize w8.alloc (.cells #[] 5)=w9 at O9 b9 ⊢;refine GM (J:=λa w'=>∃f,Fr a 76 f/\RX w' w8.heap.size (f 8) (ou h 8)/\Below w8.heap.size w8 w') (AP (Aj F rfl λa F=>AJ ?_)) ?_
 ·refine wp_block (wp_loop_rounds _ (Gj (J:=λk a w'=>∃f,Fr a 76 f/\f 3= .pointer (some ⟨w.heap.size,0,none⟩)/\f 9= .int .i64 ((8-k:Nat):Int)/\RX w' w8.heap.size (f 8) (ou h (8-k))/\Below w8.heap.size w8 w'/\k<=8) ?_ ?_ 8 _ _ ⟨_,F,e3,rfl,by rw[show ou h (8-8)= [] from rfl];exact O9,b9,Ie _⟩))
  ·intro a w' ⟨f,F,e3,e9,O,oS,_⟩;refine wp_seq (wp_seq (cp (AA F rfl λa F=>AZ F rfl (Qc (F.ev e9) rfl) λa F=>CY ?_)));refine wp_cond (t:=false) F.e (wp_exit ?_);exact⟨rfl,_,F,O,oS⟩
  ·intro k a w' ⟨f,F,e3,e9,O,oS,hk⟩;have hb:decide (((8-(k+1):Nat):Int)<8)=true:=decide_eq_true (by omega);refine wp_seq (wp_seq (cp (AA F rfl λa F=>AZ F rfl (Qc (F.ev e9) rfl) λa F=>CY ?_)));refine wp_cond (t:=true) (F.ev (CV Value.bool hb)) (wp_skip ?_);generalize hi:8-(k+1)=i at *
   have hi8:i<8:=by omega
   refine GM (J:=λa w'=>∃f,Fr a 76 f/\f 3= .pointer (some ⟨w.heap.size,0,none⟩)/\f 9= .int .i64 (i:Int)/\RX w' w8.heap.size (f 8) (ou h (i+1))/\Below w8.heap.size w8 w') (wp_block (AP (Aj F rfl λa F=>AJ ?_))) ?_
   ·refine wp_block (wp_loop_rounds _ (Gj (J:=λq a w'=>∃f,Fr a 76 f/\f 3= .pointer (some ⟨w.heap.size,0,none⟩)/\f 9= .int .i64 (i:Int)/\f 10= .int .i64 (MJ q)/\RX w' w8.heap.size (f 8) (ou h i++(Ra (h.getD i 0)).take (8-q))/\Below w8.heap.size w8 w'/\q<=8) ?_ ?_ 8 _ _ ⟨_,F,e3,e9,rfl,by rw[HF,zcv,RD];exact O,oS,Ie _⟩))
    ·intro a w' ⟨f,F,e3,e9,kB,O,oS,_⟩;refine wp_seq (wp_seq (cp (AA F rfl λa F=>AZ F rfl (Np (F.ev kB) rfl) λa F=>CY ?_)));refine wp_cond (t:=false) F.e (wp_exit ?_);refine⟨rfl,_,F,e3,e9,?_,oS⟩;rw[AGC (by omega)];rwa [NO (by rw[LA];omega)] at O
    ·intro q a w' ⟨f,F,e3,e9,kB,O,oS,hq⟩;have hb:decide ((0:Int)<=MJ (q+1))=true:=decide_eq_true (nI q);have h8k:IntKind.i64.wrap (8*MJ (q+1))=((8*q:Nat):Int):=by
      rw[xD,YB (by omega) (by omega)];omega
     have Mw:=M8.an (HY (S:=λ_ _=>False) oS) λ_ _ h=>h
     have cR:=(Mw.2 i .u64 (h.getD i 0) (by rw[U8,iF,if_pos hi8]) (by simp[List.getD,hhl,hi8])).1;refine wp_seq (wp_seq (cp (AA F rfl λa F=>AZ F rfl (Np (F.ev kB) rfl) λa F=>CY ?_)));refine wp_cond (t:=true) (F.ev (CV Value.bool hb)) (wp_skip ?_);refine wp_seq (wp_block (cp (AA F rfl λa F=>AA F rfl λa F=>AZ F rfl (WN (F.ev e3) (F.ev e9) hi8) λa F=>AZ F rfl (QA F.e cR) λa F=>AA F rfl λa F=>AZ F rfl (AKB rfl (F.ev kB)) λa F=>
      AZ F rfl (AD0 F.e (F.ev (CV (Value.int .i64) h8k))) λa F=>AZ F rfl (AJ0 F.e) λa F=>AZ F rfl (ow F.e) λa F=>?_)))
     have O5:=O.below (DT w' (.cells #[.int .u8 (IntKind.u8.wrap (DR .shr (h.getD i 0) ((8*q:Nat):Int)))] 5));have h5:=AGf w' _ (VC (DR .shr (h.getD i 0) ((8*q:Nat):Int)));have b5:=oS.trans (LW (DT w' (.cells #[.int .u8 (IntKind.u8.wrap (DR .shr (h.getD i 0) ((8*q:Nat):Int)))] 5)) oS.size);generalize w'.alloc (.cells #[.int .u8 (IntKind.u8.wrap (DR .shr (h.getD i 0) ((8*q:Nat):Int)))] 5)=w5 at O5 h5 b5 ⊢;refine dS F rfl O5 rfl rfl h5 (by rw[NC,ALR (by omega),Qw,LA];omega) b5.size λv6 w6 a O6 b6 F=>AB F rfl λa F=>CY ?_
     rw[Yt,qJ (by omega)] at O6;refine cp (AA F rfl λa F=>AZ F rfl (TQ (F.ev kB) rfl) λa F=>AB F rfl λa F=>CY ?_);exact⟨rfl,_,F,e3,e9,CV (Value.int .i64) (MQ (by omega)),O6,b5.trans b6,by omega⟩
   ·intro a w' ⟨f,F,e3,e9,O,oS⟩;have Wr:IntKind.i64.wrap ((i:Int)+1)=((8-k:Nat):Int):=by
     rw[YB (by omega) (by omega)];omega
    refine cp (AA F rfl λa F=>AZ F rfl (XK (F.ev e9) rfl) λa F=>AB F rfl λa F=>CY ?_);rw[show i+1=8-k by omega] at O;exact⟨rfl,_,F,e3,CV (Value.int .i64) Wr,O,oS,by omega⟩
 intro a w' ⟨f,F,O,oS⟩;refine AP (AA F rfl λa F=>AB F rfl λa F=>AJ ?_);have fr':=f8.trans (HY (S:=λ_ _=>False) oS);have cY:ou h 8=Qt m:=by
  unfold Qt ACv ou;rw[NO (by omega),hh2, <- hAA]
 rw[cY] at O;obtain⟨b',c',hv,j8,-,vn,h8'⟩:=Ya O (by rw[JN];omega) (λx hx=>AIV x hx);refine Cn ⟨F.df,f 8,?_,⟨_,rfl,by rw[hv];exact Ku.i6 h8' rfl j8⟩,fr',Fu hG ε (fr'.mono (S':=λb _=>b=w.heap.size) λ_ _ _ h=>h.elim) δ⟩;have h2:=F.tm 2;rw[YJ] at h2;simp[results,Tryz.results40,go_sem];exact h2
end
end Go.Proofs.YtkbfdaoohhmgoaaGreatDoor
