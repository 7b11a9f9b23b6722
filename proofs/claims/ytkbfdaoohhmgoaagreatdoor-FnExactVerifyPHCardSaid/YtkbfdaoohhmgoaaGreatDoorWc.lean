/- The hash over any bytes: the padding and the words, written out: checkSum. -/
import Derived.Test.YtkbfdaoohhmgoaaGreatDoorWb
namespace Go.Proofs.YtkbfdaoohhmgoaaGreatDoor
section
open Go
section
variable{ρ:Operand->Value}{d:Option Tmp}{x y:Operand}{ty:TypeId}{pos:String}{af:Array Edge}{w:World}{b o:Nat}
theorem X6{kk:IntKind}{k:Nat}(hx:ρ x= .pointer (some ⟨b,o,none⟩))(hy:ρ y= .int kk k)(h1:k<64):(execOp ρ ⟨d,.slice 117 x (some y) none none,ty,pos,af,none⟩).run Tryz.prog w= .ok (.value (.slice (some ⟨b,o+k,none⟩) (64-k) (64-k))) w:=by
 have hu:=run_underlying (w:=w) Tryz.underlying117;have hb:∀code,(Instr.sliceBound (.int kk k) 64 code).run Tryz.prog w= .ok k w:=λcode=>Bn _ w (by omega) code
 simp only[execOp,hx,hy,UT,Option.map_none,Instr.sliceAt,Instr.slice,Gi,hu,Fb];have cj:¬(64=k):=by omega
 simp[Instr.sliceBounds,Instr.sureAddr,Ce,cj,go_sem];intro h;omega
theorem ARn{kk:IntKind}{k:Nat}(hx:ρ x= .pointer (some ⟨b,o,none⟩))(hy:ρ y= .int kk k)(h1:k<=144):(execOp ρ ⟨d,.slice 173 x none (some y) none,ty,pos,af,none⟩).run Tryz.prog w= .ok (.value (.slice (some ⟨b,o,none⟩) k 144)) w:=by
 have hu:=run_underlying (w:=w) Tryz.underlying173;have hb:∀code,(Instr.sliceBound (.int kk k) 144 code).run Tryz.prog w= .ok k w:=λcode=>Bn _ w (by omega) code
 simp only[execOp,hx,hy,UT,Option.map_none,Instr.sliceAt,Instr.slice,Gi,hu,Fb];simp[Instr.sliceBounds,Instr.sureAddr,Ce,go_sem];intro h;omega
theorem AQk{i j:Int}(h:ρ x= .pointer (some ⟨b,o,none⟩))(hy:ρ y= .int .u8 j)(hc:CP true w b o (.int .u8 i)):(execOp ρ ⟨d,.store 5 x y,ty,pos,af,none⟩).run Tryz.prog w= .ok .skip (w.setCell ⟨b,o,none⟩ (.int .u8 j)):=by
 simp[execOp,go_sem,h,hy,hc.1,hc.2 rfl]
end
theorem AO.sB{f:Bool}{w:World}{b o n:Nat}{xs:List Int}(h:AO f w (b,o) (List.replicate n .u64) xs){i:Nat}(hi:i<n):CP f w b (o+i) (.int .u64 (xs.getD i 0))/\IJ .u64 (xs.getD i 0):=by
 obtain⟨⟨h1,h2⟩,h3⟩:=h;rw[Rp] at h1;have hk:(List.replicate n IntKind.u64)[i]? = some .u64:=by simp[hi]
 have hx:xs[i]? = some (xs.getD i 0):=by simp[List.getD,show i<xs.length by omega]
 exact⟨h3 i .u64 _ hk hx,h2 i .u64 _ hk hx⟩
theorem AO.yb{w:World}{b n:Nat}{x:List Int}{k:Nat}{v:Int}(h:AO true w (b,0) (List.replicate n .u8) x)(hk:k<n)(hv:0<=v/\v<=255):AO true (w.setCell ⟨b,k,none⟩ (.int .u8 v)) (b,0) (List.replicate n .u8) (lay x [v] k):=by
 have:=UJ (r:=k) (ys:=[v]) h (λy hy=>by rw[NU] at hy;rw[hy];exact hv) (by simp;omega);rwa [KN] at this
structure AUD (GC:Nat->Nat->Option Value) (B:Nat) (m:List Int) (w:World) (e:Ending) (w':World):Prop where
 ret:e= .returned (.agg (v8 (Qt m)).toArray)
 fy:∀y∈Qt m,0<=y/\y<=255
 an:BD w w' (λb _=>b=B)
 gw:GW GC w'
theorem V6{P:Program}{t:TypeId}{cs:List Value}{b o:Nat}{w:World}(ha:∀w,(isAgg t).run P w= .ok true w)(hz:∀w,(sizeOf t).run P w= .ok cs.length w)(hc:∀i v,cs[i]? = some v->w.cell? ⟨b,o+i,none⟩=some v):(loadVar t ⟨b,o,none⟩).run P w= .ok (.agg cs.toArray) w:=by
 have hl:=run_loadCells_list (P:=P) w ⟨b,o,none⟩ cs (λj u hu=>by rw[Ce];exact hc j u hu);simp only[loadVar,Gi,I4,Fb,ha,if_true,hz,hl]
theorem TH{P:Program}{fn:Func}{tmps:Array Value}{t:Tmp}{ty:TypeId}{q:Addr}{v:Value}{w:World}(hr:fn.results= #[.cell t ty])(ht:tmps.getD t undef= .pointer (some q))(hl:(loadVar ty q).run P w= .ok v w):(results fn tmps).run P w= .ok v w:=by
 unfold results;rw[hr,Array.mapM_eq_mapM_toList];simp only[List.mapM_cons,List.mapM_nil,map_eq_pure_bind,bind_assoc,pure_bind,Gi,ht,asAddr,I4,Fb,hl];simp
theorem AB2(h:List Int)(hl:h.length=8):lay (lay (lay (lay (lay (lay (lay (lay (List.replicate 64 0) (Ra (h.getD 0 0)) 0) (Ra (h.getD 1 0)) 8) (Ra (h.getD 2 0)) 16) (Ra (h.getD 3 0)) 24) (Ra (h.getD 4 0)) 32) (Ra (h.getD 5 0)) 40) (Ra (h.getD 6 0)) 48) (Ra (h.getD 7 0)) 56=ACv h:=by
 match h,hl with
 | [a,b,c,d,e,f,g,i],_=>rfl
theorem ACA{h:List Int}(hl:h.length=8):(ACv h).length=64:=by
 match h,hl with
 | [a,b,c,d,e,f,g,i],_=>rfl
theorem JN(m:List Int):(Qt m).length=64:=ACA (WP _)
theorem O0{w0 w w':World}{B k:Nat}{S:Nat->Nat->Prop}(h:BD w0 w (λb _=>b=B))(hf:BD w w' S)(hS:∀b i,S b i->b=k)(hk:w0.heap.size<=k):BD w0 w' (λb _=>b=B):=h.trans' hf λb i hb hs=>absurd (hS b i hs) (by omega)
set_option maxRecDepth 100000 in
set_option maxHeartbeats 2000000 in
theorem AFI{GB:Nat}{GC:Nat->Nat->Option Value}{ad:Nat->Nat×Nat}(hG:GI GB GC ad){w:World}{B o:Nat}{m:List Int}(ε:GW GC w)(δ:GB<=w.heap.size)(hB:GB<=B)(hd:JT w B o m)(hlen:m.length<1152921504606846000):
  Calls Tryz.prog 81 #[.pointer (some ⟨B,o,none⟩)] w (AUD GC B m w):=by
 obtain⟨x,D,hxm⟩:=hd.ex;have hBl:B<w.heap.size:=D.hs.lt;have hpt:=RZ m.length;refine enter (args:=[.pointer (some ⟨B,o,none⟩)]) Tryz.func81 rfl (n:=104) rfl λa F=>?_
 refine AP (AZ F rfl sw λa F=>AJ ?_);have M1:=Dj w 64 .u8 117 ⟨by decide,by decide⟩;have f1:BD w (w.alloc (.cells (Array.replicate 64 (.int .u8 0)) 117)) (λb _=>b=B):=BC _ _ _;have D1:=D.an (BC w (.cells (Array.replicate 64 (.int .u8 0)) 117) (λ_ _=>False)) λ_ h=>h
 have z1':(w.alloc (.cells (Array.replicate 64 (.int .u8 0)) 117)).heap.size=w.heap.size+1:=Array.size_push _;generalize w.alloc (.cells (Array.replicate 64 (.int .u8 0)) 117)=w1 at M1 f1 D1 z1' ⊢;refine AP (AA F rfl λa F=>Eu F rfl rfl λa F=>AZ F rfl (ALJ F.e) λa F=>AZ F rfl (QA F.e D1.hl.1) λa F=>AB F rfl λa F=>AJ ?_);refine AP (AZ F rfl AIj λa F=>AJ ?_);have T2:=Dj w1 144 .u8 173 ⟨by decide,by decide⟩;have f2:BD w1 (w1.alloc (.cells (Array.replicate 144 (.int .u8 0)) 173)) (λ_ _=>False):=BC _ _ _;have z2':(w1.alloc (.cells (Array.replicate 144 (.int .u8 0)) 173)).heap.size=w1.heap.size+1:=Array.size_push _;generalize w1.alloc (.cells (Array.replicate 144 (.int .u8 0)) 173)=w2 at T2 f2 z2' ⊢;have g2:BD w w2 (λb _=>b=B):=f1.trans (f2.mono λ_ _ _ h=>h.elim);have D2:=D1.an f2 λ_ h=>h
 have M2:=M1.an f2 λ_ _ h=>h
 generalize hBt:w1.heap.size=Bt at T2 F z2';refine AP (AZ F rfl (ASG F.e rfl) λa F=>FB F rfl rfl (AQk F.e rfl (T2.at8 (i:=0) (by omega)).1) λa F=>AJ ?_);have T3:=T2.yb (k:=0) (v:=128) (by omega) ⟨by omega,by omega⟩;have g3:=g2.setCell (b:=Bt) (o:=0) (v:=.int .u8 128) (.inl (by omega));have f3:BD w2 (w2.setCell ⟨Bt,0,none⟩ (.int .u8 128)) (λb _=>b=Bt):=(BD.refl _ _).setCell (.inr rfl);have z3':(w2.setCell ⟨Bt,0,none⟩ (.int .u8 128)).heap.size=w2.heap.size:=Ri _ _ _;generalize w2.setCell ⟨Bt,0,none⟩ (.int .u8 128)=w3 at T3 g3 f3 z3' ⊢;have D3:=D2.an f3 λ_ (h:B=Bt)=>by omega
 have M3:=M2.an f3 λ_ _ (h:w.heap.size=Bt)=>by omega
 refine AP (Aj F rfl λa F=>AJ ?_);refine GM (J:=λa w'=>w'=w3/\∃f,Fr a 104 f/\f 0= .pointer (some ⟨B,o,none⟩)/\f 2= .pointer (some ⟨w.heap.size,0,none⟩)/\f 3= .int .u64 (m.length:Nat)/\f 4= .pointer (some ⟨Bt,0,none⟩)/\f 5= .int .u64 (Fh m.length:Nat)) ?_ ?_
 ·refine AP (AA F rfl λa F=>AZ F rfl (vL F.e (j:=128) rfl (by omega)) λa F=>AZ F rfl (ALw F.e rfl) λa F=>AJ (ry F rfl (λhb=>?_) λhb=>?_))
  ·have bj:m.length%128<112:=by have:=of_decide_eq_true hb;omega
   have e1:IntKind.u64.wrap (112-((m.length%128:Nat):Int))=((Fh m.length:Nat):Int):=by
    rw[bW (by omega) (by omega)];unfold Fh;rw[if_pos bj];omega
   refine cp (AA F rfl λa F=>AZ F rfl (vL F.e (j:=128) rfl (by omega)) λa F=>AZ F rfl (ADp rfl F.e) λa F=>AB F rfl λa F=>CY ⟨rfl,rfl,_,F,rfl,rfl,rfl,rfl,?_⟩);exact CV (Value.int .u64) e1
  ·have lE:¬m.length%128<112:=by have:=of_decide_eq_false hb;omega
   have e1:IntKind.u64.wrap (240-((m.length%128:Nat):Int))=((Fh m.length:Nat):Int):=by
    rw[bW (by omega) (by omega)];unfold Fh;rw[if_neg lE];omega
   refine cp (AA F rfl λa F=>AZ F rfl (vL F.e (j:=128) rfl (by omega)) λa F=>AZ F rfl (ADp rfl F.e) λa F=>AB F rfl λa F=>CY ⟨rfl,rfl,_,F,rfl,rfl,rfl,rfl,?_⟩);exact CV (Value.int .u64) e1
 clear F;rintro a w3' ⟨rfl,f,F,h0,h2,h3,h4,h5⟩;have F:=F.wi h0;have F:=F.wi (t:=2) (v:=.pointer (some ⟨w.heap.size,0,none⟩)) h2;have F:=F.wi (t:=3) (v:=.int .u64 (m.length:Nat)) h3;have F:=F.wi (t:=4) (v:=.pointer (some ⟨Bt,0,none⟩)) h4;have F:=F.wi (t:=5) (v:=.int .u64 (Fh m.length:Nat)) h5;clear h0 h2 h3 h4 h5;have e8:IntKind.u64.wrap ((m.length:Int)*8)=((m.length*8:Nat):Int):=by
  rw[bW (by omega) (by omega)];omega
 have Zs:IntKind.u64.wrap (((Fh m.length:Nat):Int)+16)=((Fh m.length+16:Nat):Int):=by
  rw[bW (by omega) (by omega)];omega
 have ep8:IntKind.u64.wrap (((Fh m.length:Nat):Int)+8)=((Fh m.length+8:Nat):Int):=by
  rw[bW (by omega) (by omega)];omega
 refine AP (AA F rfl λa F=>AZ F rfl (ANb F.e rfl) λa F=>AB F rfl λa F=>AJ ?_);rw[e8] at F;refine AP (AA F rfl λa F=>AZ F rfl (sM F.e rfl) λa F=>?_);rw[Zs] at F;refine AZ F rfl (ARn F.e F.e (by omega)) λa F=>AB F rfl λa F=>AJ ?_
 refine AP (AA F rfl λa F=>AA F rfl λa F=>AZ F rfl (sM F.e rfl) λa F=>?_);rw[ep8] at F;have ajd:AO true w3' (Bt,Fh m.length+8) (List.replicate 8 .u8) ((((lay (List.replicate 144 0) [128] 0)).drop (Fh m.length+8)).take 8):=by
  have:=za (k:=Fh m.length+8) (m:=8) T3 (by omega);rwa [KN] at this
 have ae0:=Fu hG ε g3 hB;have ajL:GB<=Bt:=by omega
 have tw:(Value.slice (if(144:Nat)=Fh m.length+8 then some ⟨Bt,0,none⟩ else(some (⟨Bt,0,none⟩:Addr)).map (·.add (Fh m.length+8))) (Fh m.length+16-(Fh m.length+8)) (144-(Fh m.length+8)))= .slice (some ⟨Bt,Fh m.length+8,none⟩) 8 (144-(Fh m.length+8)):=by
  rw[if_neg (by omega),UT,Ce,KN]
  congr 1;omega
 refine AZ F rfl (zb F.e F.e (by omega) (by omega)) λa F=>?_
 rw[tw] at F;refine AA F rfl λa F=>EG F rfl (Bg rfl F.e F.e Tryz.call117) (AQT hG ae0 (EX δ g3.1) ajL ⟨by show(0:Int)<=_;omega,by show _<=(18446744073709551615:Int);omega⟩ ajd (by omega)) λe w4 h4=>⟨_,h4.ret,λa F=>AJ ?_⟩
 have g4:=O0 g3 h4.an (λb i h=>h.1) (by omega);have T4:=Ox (k:=Fh m.length+8) T3 (by rw[KN];exact h4.an) (by rw[KN];exact h4.mem) (by omega);have D4:=D3.an h4.an λ_ h=>by omega
 have M4:=M3.an h4.an λ_ _ h=>by have:=h.1;omega
 have akd:bY w4 B (.slice (some ⟨Bt,0,none⟩) (Fh m.length+16) 144) (tQ m.length):=by
  have h:=(T4.take (n:=Fh m.length+16) (by omega));rw[AG0] at h;exact bY.i6 (DD.iz h) (Yo _) (by omega) (by omega)
 refine AP (AA F rfl λa F=>AA F rfl λa F=>EG F rfl (Bg rfl F.e F.e Tryz.call54) (Nc hG h4.gw (EX δ g4.1) hB ⟨x,D4,hxm⟩ akd (by rw[Yo];omega)) λe w5 h5=>⟨_,h5.ret,λa F=>AJ ?_⟩);have g5:=g4.trans h5.an;have M5:=M4.an h5.an λ_ _ (h:w.heap.size=B)=>by omega
 obtain⟨x5,D5,-⟩:=h5.Cd.ex;have hz:=yj m;refine wp_seq (AP (AA F rfl λa F=>Eu F rfl rfl λa F=>AZ F rfl (mH F.e) λa F=>AZ F rfl (bJ F.e D5.hn.1) λa F=>AZ F rfl (Qd F.e rfl) λa F=>?_));have rm:((((m++tQ m.length).length%128:Nat):Int) != 0)=false:=by rw[hz];rfl
 rw[rm] at F;refine AJ (wp_cond_false F.e (wp_skip ?_));show Code.wp _ _ _ _ _;refine AP (AZ F rfl sw λa F=>AJ ?_);have N6:=Dj w5 64 .u8 117 ⟨by decide,by decide⟩;have f6:BD w5 (w5.alloc (.cells (Array.replicate 64 (.int .u8 0)) 117)) (λ_ _=>False):=BC _ _ _;generalize w5.alloc (.cells (Array.replicate 64 (.int .u8 0)) 117)=v0 at N6 f6 ⊢;have g6:BD w v0 (λb _=>b=B):=g5.trans (f6.mono λ_ _ _ h=>h.elim);have E0:=D5.an f6 λ_ h=>h
 have R0:=M5.an f6 λ_ _ h=>h
 have hs5:=g5.1;have hB5:B<w5.heap.size:=by omega
 have hr5:w.heap.size<w5.heap.size:=by have:=(M5.at8 (i:=0) (by omega)).1.lt;omega
 generalize w5.heap.size=Bo at N6 F hs5 hB5 hr5;have ON:GB<=Bo:=by omega
 have U0:=Fu hG ε g6 hB;refine wp_seq (wp_region_still_tail 6 mixed (by kernel_rfl) ?_);have fd0:BD v0 { v0 with drawn:=v0.drawn+1 } (λ_ _=>False):=(BD.refl _ _).of_heap rfl rfl rfl rfl;have Ed0:=E0.an fd0 λ_ h=>h
 have Nd0:=N6.an fd0 λ_ _ h=>h
 have Rd0:=R0.an fd0 λ_ _ h=>h
 have gd0:BD w { v0 with drawn:=v0.drawn+1 } (λb _=>b=B):=g6.trans (fd0.mono λ_ _ _ h=>h.elim);generalize ({ v0 with drawn:=v0.drawn+1 }:World)=u0 at Ed0 Nd0 Rd0 gd0 ⊢;clear N6 g6;have hw0:=Ed0.hh.sB (i:=0) (by omega);refine BZ F rfl rfl rfl (X6 (k:=0) F.e rfl (by omega)) λa F=>Dm F rfl λa F=>IW F rfl rfl λa F=>BZ F rfl rfl rfl (qX F.e) λa F=>BZ F rfl rfl rfl (WN (k:=0) F.e rfl (by omega)) λa F=>BZ F rfl rfl rfl (QA F.e hw0.1.1) λa F=>?_
 have zj:=Nd0.drop (n:=0) (by omega);refine EG F rfl (Bg rfl F.e F.e Tryz.call117) (AUN hG (Fu hG ε gd0 hB) (EX δ gd0.1) ON hw0.2 zj (by omega)) λe v1 OS=>⟨_,OS.ret,λa F=>AJ ?_⟩
 have N6:=Ox (k:=0) Nd0 OS.an OS.mem (by omega);have E1:=Ed0.an OS.an λ_ h=>by omega
 have R1:=Rd0.an OS.an λ_ _ h=>by have:=h.1;omega
 have g6:=O0 gd0 OS.an (λb i h=>h.1) (by omega);refine wp_seq (wp_region_still_tail 6 mixed (by kernel_rfl) ?_);have fd1:BD v1 { v1 with drawn:=v1.drawn+1 } (λ_ _=>False):=(BD.refl _ _).of_heap rfl rfl rfl rfl;have Ed1:=E1.an fd1 λ_ h=>h
 have Nd1:=N6.an fd1 λ_ _ h=>h
 have Rd1:=R1.an fd1 λ_ _ h=>h
 have gd1:BD w { v1 with drawn:=v1.drawn+1 } (λb _=>b=B):=g6.trans (fd1.mono λ_ _ _ h=>h.elim);generalize ({ v1 with drawn:=v1.drawn+1 }:World)=u1 at Ed1 Nd1 Rd1 gd1 ⊢;clear N6 g6;have AD:=Ed1.hh.sB (i:=1) (by omega);refine BZ F rfl rfl rfl (X6 (k:=8) F.e rfl (by omega)) λa F=>Dm F rfl λa F=>IW F rfl rfl λa F=>BZ F rfl rfl rfl (qX F.e) λa F=>BZ F rfl rfl rfl (WN (k:=1) F.e rfl (by omega)) λa F=>BZ F rfl rfl rfl (QA F.e AD.1.1) λa F=>?_
 have hs1:=Nd1.drop (n:=8) (by omega);refine EG F rfl (Bg rfl F.e F.e Tryz.call117) (ATv hG (Fu hG ε gd1 hB) (EX δ gd1.1) ON AD.2 hs1 (by omega)) λe v2 kO=>⟨_,kO.ret,λa F=>AJ ?_⟩
 have N6:=Ox (k:=8) Nd1 kO.an kO.mem (by omega);have E2:=Ed1.an kO.an λ_ h=>by omega
 have R2:=Rd1.an kO.an λ_ _ h=>by have:=h.1;omega
 have g6:=O0 gd1 kO.an (λb i h=>h.1) (by omega);refine wp_seq (wp_region_still_tail 6 mixed (by kernel_rfl) ?_);have fd2:BD v2 { v2 with drawn:=v2.drawn+1 } (λ_ _=>False):=(BD.refl _ _).of_heap rfl rfl rfl rfl;have Ed2:=E2.an fd2 λ_ h=>h
 have Nd2:=N6.an fd2 λ_ _ h=>h
 have Rd2:=R2.an fd2 λ_ _ h=>h
 have gd2:BD w { v2 with drawn:=v2.drawn+1 } (λb _=>b=B):=g6.trans (fd2.mono λ_ _ _ h=>h.elim);generalize ({ v2 with drawn:=v2.drawn+1 }:World)=u2 at Ed2 Nd2 Rd2 gd2 ⊢;clear N6 g6;have hw2:=Ed2.hh.sB (i:=2) (by omega);refine BZ F rfl rfl rfl (X6 (k:=16) F.e rfl (by omega)) λa F=>Dm F rfl λa F=>IW F rfl rfl λa F=>BZ F rfl rfl rfl (qX F.e) λa F=>BZ F rfl rfl rfl (WN (k:=2) F.e rfl (by omega)) λa F=>BZ F rfl rfl rfl (QA F.e hw2.1.1) λa F=>?_
 have hs2:=Nd2.drop (n:=16) (by omega);refine EG F rfl (Bg rfl F.e F.e Tryz.call117) (ATI hG (Fu hG ε gd2 hB) (EX δ gd2.1) ON hw2.2 hs2 (by omega)) λe v3 BE=>⟨_,BE.ret,λa F=>AJ ?_⟩
 have N6:=Ox (k:=16) Nd2 BE.an BE.mem (by omega);have E3:=Ed2.an BE.an λ_ h=>by omega
 have R3:=Rd2.an BE.an λ_ _ h=>by have:=h.1;omega
 have g6:=O0 gd2 BE.an (λb i h=>h.1) (by omega);refine wp_seq (wp_region_still_tail 6 mixed (by kernel_rfl) ?_);have fd3:BD v3 { v3 with drawn:=v3.drawn+1 } (λ_ _=>False):=(BD.refl _ _).of_heap rfl rfl rfl rfl;have Ed3:=E3.an fd3 λ_ h=>h
 have Nd3:=N6.an fd3 λ_ _ h=>h
 have Rd3:=R3.an fd3 λ_ _ h=>h
 have gd3:BD w { v3 with drawn:=v3.drawn+1 } (λb _=>b=B):=g6.trans (fd3.mono λ_ _ _ h=>h.elim);generalize ({ v3 with drawn:=v3.drawn+1 }:World)=u3 at Ed3 Nd3 Rd3 gd3 ⊢;clear N6 g6;have hw3:=Ed3.hh.sB (i:=3) (by omega);refine BZ F rfl rfl rfl (X6 (k:=24) F.e rfl (by omega)) λa F=>Dm F rfl λa F=>IW F rfl rfl λa F=>BZ F rfl rfl rfl (qX F.e) λa F=>BZ F rfl rfl rfl (WN (k:=3) F.e rfl (by omega)) λa F=>BZ F rfl rfl rfl (QA F.e hw3.1.1) λa F=>?_
 have hs3:=Nd3.drop (n:=24) (by omega);refine EG F rfl (Bg rfl F.e F.e Tryz.call117) (ATP hG (Fu hG ε gd3 hB) (EX δ gd3.1) ON hw3.2 hs3 (by omega)) λe v4 wj=>⟨_,wj.ret,λa F=>AJ ?_⟩
 have N6:=Ox (k:=24) Nd3 wj.an wj.mem (by omega);have E4:=Ed3.an wj.an λ_ h=>by omega
 have R4:=Rd3.an wj.an λ_ _ h=>by have:=h.1;omega
 have g6:=O0 gd3 wj.an (λb i h=>h.1) (by omega);refine wp_seq (wp_region_still_tail 6 mixed (by kernel_rfl) ?_);have fd4:BD v4 { v4 with drawn:=v4.drawn+1 } (λ_ _=>False):=(BD.refl _ _).of_heap rfl rfl rfl rfl;have Ed4:=E4.an fd4 λ_ h=>h
 have Nd4:=N6.an fd4 λ_ _ h=>h
 have Rd4:=R4.an fd4 λ_ _ h=>h
 have gd4:BD w { v4 with drawn:=v4.drawn+1 } (λb _=>b=B):=g6.trans (fd4.mono λ_ _ _ h=>h.elim);generalize ({ v4 with drawn:=v4.drawn+1 }:World)=u4 at Ed4 Nd4 Rd4 gd4 ⊢;clear N6 g6;have hw4:=Ed4.hh.sB (i:=4) (by omega);refine BZ F rfl rfl rfl (X6 (k:=32) F.e rfl (by omega)) λa F=>Dm F rfl λa F=>IW F rfl rfl λa F=>BZ F rfl rfl rfl (qX F.e) λa F=>BZ F rfl rfl rfl (WN (k:=4) F.e rfl (by omega)) λa F=>BZ F rfl rfl rfl (QA F.e hw4.1.1) λa F=>?_
 have hs4:=Nd4.drop (n:=32) (by omega);refine EG F rfl (Bg rfl F.e F.e Tryz.call117) (AUU hG (Fu hG ε gd4 hB) (EX δ gd4.1) ON hw4.2 hs4 (by omega)) λe v5 DB=>⟨_,DB.ret,λa F=>AJ ?_⟩
 have N6:=Ox (k:=32) Nd4 DB.an DB.mem (by omega);have E5:=Ed4.an DB.an λ_ h=>by omega
 have R5:=Rd4.an DB.an λ_ _ h=>by have:=h.1;omega
 have g6:=O0 gd4 DB.an (λb i h=>h.1) (by omega);refine wp_seq (wp_region_still_tail 6 mixed (by kernel_rfl) ?_);have fd5:BD v5 { v5 with drawn:=v5.drawn+1 } (λ_ _=>False):=(BD.refl _ _).of_heap rfl rfl rfl rfl;have Ed5:=E5.an fd5 λ_ h=>h
 have Nd5:=N6.an fd5 λ_ _ h=>h
 have Rd5:=R5.an fd5 λ_ _ h=>h
 have gd5:BD w { v5 with drawn:=v5.drawn+1 } (λb _=>b=B):=g6.trans (fd5.mono λ_ _ _ h=>h.elim);generalize ({ v5 with drawn:=v5.drawn+1 }:World)=u5 at Ed5 Nd5 Rd5 gd5 ⊢;clear N6 g6;have hw5:=Ed5.hh.sB (i:=5) (by omega);refine BZ F rfl rfl rfl (X6 (k:=40) F.e rfl (by omega)) λa F=>Dm F rfl λa F=>IW F rfl rfl λa F=>BZ F rfl rfl rfl (qX F.e) λa F=>BZ F rfl rfl rfl (WN (k:=5) F.e rfl (by omega)) λa F=>BZ F rfl rfl rfl (QA F.e hw5.1.1) λa F=>?_
 have hs5:=Nd5.drop (n:=40) (by omega);refine EG F rfl (Bg rfl F.e F.e Tryz.call117) (ATW hG (Fu hG ε gd5 hB) (EX δ gd5.1) ON hw5.2 hs5 (by omega)) λe v6 Lz=>⟨_,Lz.ret,λa F=>AJ ?_⟩
 have N6:=Ox (k:=40) Nd5 Lz.an Lz.mem (by omega);have E6:=Ed5.an Lz.an λ_ h=>by omega
 have R6:=Rd5.an Lz.an λ_ _ h=>by have:=h.1;omega
 have g6:=O0 gd5 Lz.an (λb i h=>h.1) (by omega);refine GM (J:=λa w'=>∃f,Fr a 104 f/\f 2= .pointer (some ⟨w.heap.size,0,none⟩)/\f 7= .pointer (some ⟨Bo,0,none⟩)/\BD w w' (λb _=>b=B)/\GW GC w'/\AO true w' (w.heap.size,0) (List.replicate 64 .u8) (List.replicate 64 0)/\AO true w' (Bo,0) (List.replicate 64 .u8) (Qt m)) (AP (AA F rfl λa F=>Eu F rfl rfl λa F=>AZ F rfl (APa F.e) λa F=>AZ F rfl (bJ F.e E6.hs.1) λa F=>AZ F rfl (Qd F.e rfl) λa F=>AJ (wp_cond_true F.e ?_))) ?_
 ·refine wp_seq (wp_region_still_tail 6 mixed (by kernel_rfl) ?_);have fd6:BD v6 { v6 with drawn:=v6.drawn+1 } (λ_ _=>False):=(BD.refl _ _).of_heap rfl rfl rfl rfl;have Ed6:=E6.an fd6 λ_ h=>h
  have Nd6:=N6.an fd6 λ_ _ h=>h
  have Rd6:=R6.an fd6 λ_ _ h=>h
  have gd6:BD w { v6 with drawn:=v6.drawn+1 } (λb _=>b=B):=g6.trans (fd6.mono λ_ _ _ h=>h.elim);generalize ({ v6 with drawn:=v6.drawn+1 }:World)=u6 at Ed6 Nd6 Rd6 gd6 ⊢;clear N6 g6;have hw6:=Ed6.hh.sB (i:=6) (by omega);refine BZ F rfl rfl rfl (X6 (k:=48) F.e rfl (by omega)) λa F=>Dm F rfl λa F=>IW F rfl rfl λa F=>BZ F rfl rfl rfl (qX F.e) λa F=>BZ F rfl rfl rfl (WN (k:=6) F.e rfl (by omega)) λa F=>BZ F rfl rfl rfl (QA F.e hw6.1.1) λa F=>?_
  have hs6:=Nd6.drop (n:=48) (by omega);refine EG F rfl (Bg rfl F.e F.e Tryz.call117) (ATd hG (Fu hG ε gd6 hB) (EX δ gd6.1) ON hw6.2 hs6 (by omega)) λe v7 h6'=>⟨_,h6'.ret,λa F=>AJ ?_⟩
  have N6:=Ox (k:=48) Nd6 h6'.an h6'.mem (by omega);have E7:=Ed6.an h6'.an λ_ h=>by omega
  have R7:=Rd6.an h6'.an λ_ _ h=>by have:=h.1;omega
  have g6:=O0 gd6 h6'.an (λb i h=>h.1) (by omega);refine wp_region_still_tail 6 mixed (by kernel_rfl) ?_;have fd7:BD v7 { v7 with drawn:=v7.drawn+1 } (λ_ _=>False):=(BD.refl _ _).of_heap rfl rfl rfl rfl;have Ed7:=E7.an fd7 λ_ h=>h
  have Nd7:=N6.an fd7 λ_ _ h=>h
  have Rd7:=R7.an fd7 λ_ _ h=>h
  have gd7:BD w { v7 with drawn:=v7.drawn+1 } (λb _=>b=B):=g6.trans (fd7.mono λ_ _ _ h=>h.elim);generalize ({ v7 with drawn:=v7.drawn+1 }:World)=u7 at Ed7 Nd7 Rd7 gd7 ⊢;clear N6 g6;have hw7:=Ed7.hh.sB (i:=7) (by omega);refine BZ F rfl rfl rfl (X6 (k:=56) F.e rfl (by omega)) λa F=>Dm F rfl λa F=>IW F rfl rfl λa F=>BZ F rfl rfl rfl (qX F.e) λa F=>BZ F rfl rfl rfl (WN (k:=7) F.e rfl (by omega)) λa F=>BZ F rfl rfl rfl (QA F.e hw7.1.1) λa F=>?_
  have hs7:=Nd7.drop (n:=56) (by omega);refine EG F rfl (Bg rfl F.e F.e Tryz.call117) (AQT hG (Fu hG ε gd7 hB) (EX δ gd7.1) ON hw7.2 hs7 (by omega)) λe v8 On=>⟨_,On.ret,λa F=>CY ?_⟩
  have N6:=Ox (k:=56) Nd7 On.an On.mem (by omega);have E8:=Ed7.an On.an λ_ h=>by omega
  have R8:=Rd7.an On.an λ_ _ h=>by have:=h.1;omega
  have g6:=O0 gd7 On.an (λb i h=>h.1) (by omega);rw[AB2 _ (WP _)] at N6;exact⟨rfl,_,F,rfl,rfl,g6,On.gw,R8,N6⟩
 ·rintro a w6 ⟨f,F6,q2,q7,gg,qgw,qr,qs⟩;have F:=F6.wi q2;have F:=F.wi (t:=7) (v:=.pointer (some ⟨Bo,0,none⟩)) q7;have mC:(v8 (Qt m)).length=64:=by simp[v8,JN]
  have S8:∀y∈Qt m,0<=y/\y<=255:=qs.jz;refine AP (AZ F rfl (OL (cs:=v8 (Qt m)) (λw=>by simp[go_sem]) (λw=>by rw[mC];simp[go_sem]) F.e (λi v hi=>?_)) λa F=>FB F rfl rfl (Kb (cs:=v8 (Qt m)) (λw=>by rw[mC];simp[go_sem]) F.e F.e VN (λj hj=>⟨_,(qr.at8 (by omega)).1⟩)) λa F=>AJ ?_)
  ·exact(DD.iz qs).at i v hi |> λh=>by rw[Ce] at h;exact h
  ·have h9:=UJ (r:=0) (ys:=Qt m) qr S8 (by rw[JN];omega);have e9:lay (List.replicate 64 0) (Qt m) 0=Qt m:=by
    unfold lay;rw[zcv,MA,List.drop_of_length_le (by rw[Rp,JN];omega),RD]
   rw[e9] at h9;have g9:BD w (w6.setCells w.heap.size (0+0) (v8 (Qt m))) (λb _=>b=B):=BG _ _ gg λ_ _=>.inl (Ie _)
   refine Cn ⟨F.df,.agg (v8 (Qt m)).toArray,?_,rfl,S8,g9,Fu hG ε g9 hB⟩;exact TH rfl ((F.tm 2).trans rfl) (V6 (cs:=v8 (Qt m)) (λw=>by simp[go_sem]) (λw=>by rw[mC];simp[go_sem]) (λi v hi=>by have:=(DD.iz h9).at i v hi;rwa [Ce] at this))
end
section
open Go
theorem oF{ks:List IntKind}{xs:List Int}{i:Nat}{v:Value}(h:(AL ks xs)[i]? = some v):∃k x,ks[i]? = some k/\xs[i]? = some x/\v= .int k x:=by
 unfold AL at h;rw[List.getElem?_zipWith] at h;split at h
 ·rename_i k x h1 h2;exact⟨k,x,h1,h2,by simpa using h.symm⟩
 ·cases h
theorem AO.cJ{f:Bool}{w:World}{b o:Nat}{ks:List IntKind}{xs:List Int}(h:AO f w (b,o) ks xs):∀i v,(AL ks xs)[i]? = some v->w.cell? ⟨b,o+i,none⟩=some v:=λi v hv=>by
 obtain⟨k,x,h1,h2,rfl⟩:=oF hv;exact(h.2 i k x h1 h2).1
theorem Cg{ks:List IntKind}{xs:List Int}(h:xs.length=ks.length):(AL ks xs).length=ks.length:=by simp[AL,h]
theorem D7{ks:List IntKind}{xs:List Int}:∀v∈AL ks xs,v.oneCell'=true:=λv hv=>by
 obtain⟨i,hi,rfl⟩:=kY hv;obtain⟨k,x,-, -,e⟩:=oF (Io hi);rw[e];rfl
theorem Iw{w:World}{b o:Nat}{ks:List IntKind}{xs:List Int}(hr:EP ks xs)(hd:∀j,j<ks.length->∃u,CP true w b (o+j) u):AO true (w.setCells b o (AL ks xs)) (b,o) ks xs:=by
 have hl:=Cg hr.1;refine⟨hr,λi k x hk hx=>?_⟩;have hi:i<ks.length:=(Oa.1 hk).1;have:=RH (vs:=AL ks xs) (w:=w) (b:=b) (o:=o) (i:=i) (λj hj=>hd j (by omega)) (by omega);rwa [show(AL ks xs).getD i undef= .int k x by simp[AL,List.getD,List.getElem?_zipWith,hk,hx]] at this
theorem AO.join{f:Bool}{w:World}{b o:Nat}{ks js:List IntKind}{xs ys:List Int}(h:AO f w (b,o) ks xs)(g:AO f w (b,o+ks.length) js ys):AO f w (b,o) (ks++js) (xs++ys):=by
 have hl:=h.1.1;have hs:∀ {i:Nat} {k:IntKind} {x:Int},(ks++js)[i]? = some k->(xs++ys)[i]? = some x->(ks[i]? = some k/\xs[i]? = some x)\/(ks.length<=i/\js[i-ks.length]? = some k/\ys[i-ks.length]? = some x):=λ{i k x} hk hx=>by
  by_cases hi:i<ks.length
  ·rw[gZ hi] at hk;rw[gZ (by omega)] at hx;exact .inl ⟨hk,hx⟩
  ·rw[fQ (by omega)] at hk;rw[fQ (by omega),hl] at hx;exact .inr ⟨by omega,hk,hx⟩
 refine⟨⟨by rw[NC,NC,hl,g.1.1],λi k x hk hx=>?_⟩,λi k x hk hx=>?_⟩
 ·rcases hs hk hx with⟨a,b⟩|⟨_,a,b'⟩
  ·exact h.1.2 i k x a b
  ·exact g.1.2 _ k x a b'
 ·rcases hs hk hx with⟨a,b⟩|⟨c,a,b'⟩
  ·exact h.2 i k x a b
  ·have:=g.2 _ k x a b';rwa [show(b,o+ks.length).2+(i-ks.length)=o+i by show o+ks.length+(i-ks.length)=o+i;omega] at this
theorem jY{w:World}{b o:Nat}{k:IntKind}{x:Int}(h:CP true w b o (.int k x))(hr:IJ k x):AO true w (b,o) [k] [x]:=by
 have hs:∀ {i:Nat} {k':IntKind} {x':Int},[k][i]? = some k'-> [x][i]? = some x'->i=0/\k'=k/\x'=x:=λ{i k' x'} h1 h2=>by
  rcases i with _|i
  ·exact⟨rfl,by simpa using h1.symm,by simpa using h2.symm⟩
  ·simp at h1
 refine⟨⟨rfl,λi k' x' h1 h2=>?_⟩,λi k' x' h1 h2=>?_⟩
 ·obtain⟨-,rfl,rfl⟩:=hs h1 h2;exact hr
 ·obtain⟨rfl,rfl,rfl⟩:=hs h1 h2;exact h
theorem Dg.aaK{w:World}{B o:Nat}{h x:List Int}{nx L:Nat}(d:Dg w B o h x nx L)(hn:nx<1000)(hL:L<1152921504606846976):AO true w (B,o) dK (h++(x ++ [(nx:Int),(L:Int),64])):=by
 have e8:(List.replicate 8 IntKind.u64).length=8:=Rp;have Wg:(List.replicate 128 IntKind.u8).length=128:=Rp;refine d.hh.join ?_;rw[e8];refine d.hx.join ?_;rw[Wg];refine(jY d.hn ⟨by show(-9223372036854775808:Int)<=_;omega,by show _<=(9223372036854775807:Int);omega⟩).join (ks:=[.i64]) (js:=[.u64,.i64]) (ys:=[(L:Int),64]) ?_;refine(jY (o:=o+137) d.hl ⟨by show(0:Int)<=_;omega,by show _<=(18446744073709551615:Int);omega⟩).join (ks:=[.u64]) (js:=[.i64]) (ys:=[64]) ?_;exact jY (o:=o+138) d.hs ⟨by decide,by decide⟩
theorem Jr(w:World)(ks:List IntKind)(xs:List Int)(e:TypeId)(hr:EP ks xs):AO true (w.alloc (.cells (AL ks xs).toArray e)) (w.heap.size,0) ks xs:=by
 refine⟨hr,λi k x hk hx=>?_⟩;refine CP.fh (c:=(AL ks xs).toArray) (e:=e) (lo:=0) (hi:=0) ?_ ?_ (λ_=>by omega)
 ·show(w.heap.push _)[w.heap.size]? = _;exact Array.getElem?_push_size
 ·rw[KN,List.getElem?_toArray];simp[AL,List.getElem?_zipWith,hk,hx]
theorem O8{ks:List IntKind}{xs:List Int}(h:(Nat.beq xs.length ks.length&&(List.zipWith bL ks xs).all id)=true):EP ks xs:=by
 simp only[Bj] at h;refine⟨Ca h.1,λi k x hk hx=>?_⟩;have h2:=Kh.1 h.2 (bL k x) (MB (i:=i) (by rw[List.getElem?_zipWith,hk,hx]));simp only[id,bL,Bj,decide_eq_true_eq] at h2;exact h2
section
variable{ρ:Operand->Value}{d:Option Tmp}{x y:Operand}{ty:TypeId}{pos:String}{af:Array Edge}{w:World}{b o:Nat}
theorem AQP(hx:ρ x= .pointer (some ⟨b,o,none⟩))(hy:ρ y= .int .i64 64):(execOp ρ ⟨d,.slice 117 x none (some y) none,ty,pos,af,none⟩).run Tryz.prog w= .ok (.value (.slice (some ⟨b,o,none⟩) 64 64)) w:=by
 have hu:=run_underlying (w:=w) Tryz.underlying117;have hb:∀code,(Instr.sliceBound (.int .i64 64) 64 code).run Tryz.prog w= .ok 64 w:=λcode=>Bn (k:=.i64) _ w (n:=64) (Ie 64) code
 simp only[execOp,hx,hy,UT,Option.map_none,Instr.sliceAt,Instr.slice,Gi,hu,Fb];simp[Instr.sliceBounds,Instr.sureAddr,go_sem]
theorem ARz{n m c c':Nat}{q:Addr}{ys:List Int}(hx:ρ x= .slice (some ⟨b,o,none⟩) n c)(hy:ρ y= .slice (some q) m c')(hl:ys.length=m)(hr:n+m<=c)(hs:∀i,i<m->w.cell? (q.add i)=some (.int .u8 (ys.getD i 0)))(hd:∀i,i<m->∃u,CP true w b (o+n+i) u):
  (execOp ρ ⟨d,.call ⟨.builtin .append,#[x,y],#[22,22]⟩,ty,pos,af,none⟩).run Tryz.prog w= .ok (.value (.slice (some ⟨b,o,none⟩) (n+m) c)) (w.setCells b (o+n) (v8 ys)):=by
 have mC:(v8 ys).length=m:=by simp[v8,hl]
 have S4:=run_loadCells_list (P:=Tryz.prog) w q (v8 ys) (λj u hu=>by
  have hj:j<ys.length:=by have:=(Oa.1 hu).1;omega
  rw[hs j (by omega)];have:(v8 ys)[j]? = some (.int .u8 (ys.getD j 0)):=by simp[v8,List.getD,hj]
  rw[<- this];exact hu)
 rw[mC] at S4;have eN:=JS (P:=Tryz.prog) b (o+n) (v8 ys) 0 w VN (λj hj=>by
  rw[QO];exact hd j (by omega))
 rw[QO,QG] at eN;have hu:=run_underlying (w:=w) Tryz.underlying22;simp only[execOp,resolve,invoke,hx,hy,Gi,I4,Fb,List.map_toArray,NM,VW];simp[builtin,Builtin.append_,hu,Builtin.lenOf,Builtin.firstCells,hr,S4,Ce,eN]
end
structure SmP (GC:Nat->Nat->Option Value) (Bi oi c:Nat) (m:List Int) (w:World) (e:Ending) (w':World):Prop where
 ret:e= .returned (.slice (some ⟨Bi,oi,none⟩) 64 c)
 mem:AO true w' (Bi,oi) (List.replicate 64 .u8) (Qt m)
 an:BD w w' (λb _=>b=Bi)
 gw:GW GC w'
theorem AKe:∀w:World,(sizeOf 115).run Tryz.prog w= .ok 139 w:=λw=>by simp[go_sem]
theorem APS:∀w:World,(isAgg 115).run Tryz.prog w= .ok true w:=λw=>by simp[go_sem]
theorem ATJ:∀w:World,(sizeOf 117).run Tryz.prog w= .ok 64 w:=λw=>by simp[go_sem]
theorem AO.ex{w:World}{b o:Nat}{ks:List IntKind}{xs:List Int}(h:AO true w (b,o) ks xs):∀j,j<ks.length->∃u,CP true w b (o+j) u:=λj hj=>
 ⟨_,h.2 j ks[j] (xs[j]'(by rw[h.1.1];exact hj)) (Io hj) (Io _)⟩
set_option maxRecDepth 100000 in
set_option maxHeartbeats 1000000 in
theorem AGq{GB:Nat}{GC:Nat->Nat->Option Value}{ad:Nat->Nat×Nat}(hG:GI GB GC ad){w:World}{B o Bi oi c:Nat}{m zs:List Int}(ε:GW GC w)(δ:GB<=w.heap.size)(hd:JT w B o m)(hlen:m.length<1152921504606846000)(hBi:GB<=Bi)(hi:AO true w (Bi,oi) (List.replicate 64 .u8) zs)(hc:64<=c):
  Calls Tryz.prog 55 #[.pointer (some ⟨B,o,none⟩),.slice (some ⟨Bi,oi,none⟩) 0 c] w (SmP GC Bi oi c m w):=by
 obtain⟨x,D,hxm⟩:=hd.ex;have hBl:B<w.heap.size:=D.hs.lt;have az4:Bi<w.heap.size:=(hi.at8 (i:=0) (by omega)).1.lt;have hM:=D.aaK (by omega) (by omega);refine enter (args:=[.pointer (some ⟨B,o,none⟩),.slice (some ⟨Bi,oi,none⟩) 0 c]) Tryz.func55 rfl (n:=22) rfl λa F=>?_
 refine AP (Aj F rfl λa F=>AJ ?_);refine AP (AZ F rfl AQy λa F=>AB F rfl λa F=>AJ ?_);have N1:=Jr w dK (List.replicate 139 0) 115 (O8 (by decide));have f1:BD w (w.alloc (.cells (AL dK (List.replicate 139 0)).toArray 115)) (λ_ _=>False):=BC _ _ _;generalize w.alloc (.cells (AL dK (List.replicate 139 0)).toArray 115)=w1 at N1 f1 ⊢;have hM1:=hM.an f1 λ_ _ h=>h
 have kx:(AL dK (eN m++(x ++ [((m.length%128:Nat):Int),(m.length:Int),64]))).length=139:=Cg hM.1.1;refine AP (AA F rfl λa F=>AA F rfl λa F=>Eu F rfl rfl λa F=>AZ F rfl (OL (cs:=AL dK (eN m++(x ++ [((m.length%128:Nat):Int),(m.length:Int),64]))) APS (λw=>by rw[kx];exact AKe w) F.e hM1.cJ) λa F=>
  Eu F rfl rfl λa F=>FB F rfl rfl (Kb (cs:=AL dK (eN m++(x ++ [((m.length%128:Nat):Int),(m.length:Int),64]))) (λw=>by rw[kx];exact AKe w) F.e F.e D7 (λj hj=>N1.ex j (by rw[kx] at hj;exact hj))) λa F=>AJ ?_)
 have S2:=Iw hM.1 N1.ex;have g2:BD w (w1.setCells w.heap.size 0 (AL dK (eN m++(x ++ [((m.length%128:Nat):Int),(m.length:Int),64])))) (λ_ _=>False):=BG _ _ f1 λ_ _=>.inl (Ie _)
 generalize w1.setCells w.heap.size 0 (AL dK (eN m++(x ++ [((m.length%128:Nat):Int),(m.length:Int),64])))=w2 at S2 g2 ⊢;have D2:=Dg.iz (WP m) D.hx.len8 S2;have Xs:GW GC w2:=Fu hG ε (g2.mono (S':=λb _=>b=w.heap.size) λ_ _ _ h=>h.elim) δ;have hs2:w.heap.size<w2.heap.size:=(D2.hs).lt;refine AP (AA F rfl λa F=>EG F rfl (BJ rfl F.e Tryz.call81) (AFI hG Xs (EX δ g2.1) δ ⟨x,D2,hxm⟩ hlen) λe w3 h3=>⟨_,h3.ret,λa F=>AZ F rfl sw λa F=>?_⟩);have g3:BD w w3 (λ_ _=>False):=g2.trans' h3.an λb _ hb (h:b=w.heap.size)=>by omega
 have N4:=Dj w3 64 .u8 117 ⟨by decide,by decide⟩;have f4:BD w3 (w3.alloc (.cells (Array.replicate 64 (.int .u8 0)) 117)) (λ_ _=>False):=BC _ _ _;generalize w3.alloc (.cells (Array.replicate 64 (.int .u8 0)) 117)=w4 at N4 f4 ⊢;have g4:=g3.trans f4;have hs3:w.heap.size<=w3.heap.size:=g3.1;have mC:(v8 (Qt m)).length=64:=by simp[v8,JN]
 refine FB F rfl rfl (Kb (cs:=v8 (Qt m)) (λw=>by rw[mC];exact ATJ w) F.e F.e VN (λj hj=>⟨_,(N4.at8 (by omega)).1⟩)) λa F=>AJ ?_
 have S8:∀y∈Qt m,0<=y/\y<=255:=h3.fy;have N5:=UJ (r:=0) (ys:=Qt m) N4 S8 (by rw[JN];omega);have e5:lay (List.replicate 64 0) (Qt m) 0=Qt m:=by
  unfold lay;rw[zcv,MA,List.drop_of_length_le (by rw[Rp,JN];omega),RD]
 rw[e5] at N5;have g5:BD w (w4.setCells w3.heap.size (0+0) (v8 (Qt m))) (λ_ _=>False):=BG _ _ g4 λ_ _=>.inl hs3
 generalize w4.setCells w3.heap.size (0+0) (v8 (Qt m))=w5 at N5 g5 ⊢;have D5:=D.an g5 λ_ h=>h
 have I5:=hi.an g5 λ_ _ h=>h
 refine AP (AA F rfl λa F=>AA F rfl λa F=>Eu F rfl rfl λa F=>AZ F rfl (APa F.e) λa F=>AZ F rfl (bJ F.e D5.hs.1) λa F=>AZ F rfl (AQP F.e F.e) λa F=>
  AZ F rfl (ARz (m:=64) (ys:=Qt m) F.e F.e (JN m) (by omega) (λi hi=>by rw[Ce];exact(N5.at8 hi).1.1) (λi hi=>⟨_,(I5.at8 hi).1⟩)) λa F=>AB F rfl λa F=>AJ ?_)
 have N6:=UJ (r:=0) (ys:=Qt m) I5 S8 (by rw[JN];omega);have e6:lay zs (Qt m) 0=Qt m:=by
  unfold lay;rw[zcv,MA,List.drop_of_length_le (by have:=hi.len8;rw[JN];omega),RD]
 rw[e6] at N6;have g6:BD w (w5.setCells Bi (oi+0) (v8 (Qt m))) (λb _=>b=Bi):=BG _ _ (g5.mono λ_ _ _ h=>h.elim) λ_ _=>.inr rfl
 refine Cn ⟨F.df,.slice (some ⟨Bi,oi,none⟩) 64 c,?_,rfl,N6,g6,Fu hG ε g6 hBi⟩;have h4:=F.tm 4;rw[YJ] at h4;simp[results,Tryz.results55,go_sem];exact h4
end
end Go.Proofs.YtkbfdaoohhmgoaaGreatDoor
