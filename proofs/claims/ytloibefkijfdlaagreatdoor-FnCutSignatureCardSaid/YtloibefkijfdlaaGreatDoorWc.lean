/- The hash over any bytes: the padding and the words, written out: checkSum. -/
import Derived.Test.YtloibefkijfdlaaGreatDoorWb
namespace Go.Proofs.YtloibefkijfdlaaGreatDoor
section
open Go
section
variable{ρ:Operand->Value}{d:Option Tmp}{x y:Operand}{ty:TypeId}{pos:String}{af:Array Edge}{w:World}{b o:Nat}
theorem XO{kk:IntKind}{k:Nat}(hx:ρ x= .pointer (some ⟨b,o,none⟩))(hy:ρ y= .int kk k)(h1:k<64):(execOp ρ ⟨d,.slice 137 x (some y) none none,ty,pos,af,none⟩).run Tryz.prog w= .ok (.value (.slice (some ⟨b,o+k,none⟩) (64-k) (64-k))) w:=by
 have hu:=run_underlying (w:=w) Tryz.underlying137;have hb:∀code,(Instr.sliceBound (.int kk k) 64 code).run Tryz.prog w= .ok k w:=λcode=>CW _ w (by omega) code
 simp only[execOp,hx,hy,UA,Option.map_none,Instr.sliceAt,Instr.slice,IY,hu,Hm];have cq:¬(64=k):=by omega
 simp[Instr.sliceBounds,Instr.sureAddr,Cu,cq,go_sem];intro h;omega
theorem AQc{kk:IntKind}{k:Nat}(hx:ρ x= .pointer (some ⟨b,o,none⟩))(hy:ρ y= .int kk k)(h1:k<=144):(execOp ρ ⟨d,.slice 199 x none (some y) none,ty,pos,af,none⟩).run Tryz.prog w= .ok (.value (.slice (some ⟨b,o,none⟩) k 144)) w:=by
 have hu:=run_underlying (w:=w) Tryz.underlying199;have hb:∀code,(Instr.sliceBound (.int kk k) 144 code).run Tryz.prog w= .ok k w:=λcode=>CW _ w (by omega) code
 simp only[execOp,hx,hy,UA,Option.map_none,Instr.sliceAt,Instr.slice,IY,hu,Hm];simp[Instr.sliceBounds,Instr.sureAddr,Cu,go_sem];intro h;omega
theorem AP2{i j:Int}(h:ρ x= .pointer (some ⟨b,o,none⟩))(hy:ρ y= .int .u8 j)(hc:CY true w b o (.int .u8 i)):(execOp ρ ⟨d,.store 5 x y,ty,pos,af,none⟩).run Tryz.prog w= .ok .skip (w.setCell ⟨b,o,none⟩ (.int .u8 j)):=by
 simp[execOp,go_sem,h,hy,hc.1,hc.2 rfl]
end
theorem AQ.kq{f:Bool}{w:World}{b o n:Nat}{xs:List Int}(h:AQ f w (b,o) (List.replicate n .u64) xs){i:Nat}(hi:i<n):CY f w b (o+i) (.int .u64 (xs.getD i 0))/\IU .u64 (xs.getD i 0):=by
 obtain⟨⟨h1,h2⟩,h3⟩:=h;rw[Qs] at h1;have hk:(List.replicate n IntKind.u64)[i]? = some .u64:=by simp[hi]
 have hx:xs[i]? = some (xs.getD i 0):=by simp[List.getD,show i<xs.length by omega]
 exact⟨h3 i .u64 _ hk hx,h2 i .u64 _ hk hx⟩
theorem AQ.zd{w:World}{b n:Nat}{x:List Int}{k:Nat}{v:Int}(h:AQ true w (b,0) (List.replicate n .u8) x)(hk:k<n)(hv:0<=v/\v<=255):AQ true (w.setCell ⟨b,k,none⟩ (.int .u8 v)) (b,0) (List.replicate n .u8) (lay x [v] k):=by
 have:=Vr (r:=k) (ys:=[v]) h (λy hy=>by rw[NB] at hy;rw[hy];exact hv) (by simp;omega);rwa [Km] at this
structure ARz (GC:Nat->Nat->Option Value) (B:Nat) (m:List Int) (w:World) (e:Ending) (w':World):Prop where
 ret:e= .returned (.agg (v8 (MC m)).toArray)
 jn:∀y∈MC m,0<=y/\y<=255
 an:BM w w' (λb _=>b=B)
 gw:GW GC w'
theorem uW{P:Program}{t:TypeId}{cs:List Value}{b o:Nat}{w:World}(ha:∀w,(isAgg t).run P w= .ok true w)(hz:∀w,(sizeOf t).run P w= .ok cs.length w)(hc:∀i v,cs[i]? = some v->w.cell? ⟨b,o+i,none⟩=some v):(loadVar t ⟨b,o,none⟩).run P w= .ok (.agg cs.toArray) w:=by
 have hl:=run_loadCells_list (P:=P) w ⟨b,o,none⟩ cs (λj u hu=>by rw[Cu];exact hc j u hu);simp only[loadVar,IY,KT,Hm,ha,if_true,hz,hl]
theorem iM{P:Program}{fn:Func}{tmps:Array Value}{t:Tmp}{ty:TypeId}{q:Addr}{v:Value}{w:World}(hr:fn.results= #[.cell t ty])(ht:tmps.getD t undef= .pointer (some q))(hl:(loadVar ty q).run P w= .ok v w):(results fn tmps).run P w= .ok v w:=by
 unfold results;rw[hr,Array.mapM_eq_mapM_toList];simp only[List.mapM_cons,List.mapM_nil,map_eq_pure_bind,bind_assoc,pure_bind,IY,ht,asAddr,KT,Hm,hl];simp
theorem AB0(h:List Int)(hl:h.length=8):lay (lay (lay (lay (lay (lay (lay (lay (List.replicate 64 0) (Oe (h.getD 0 0)) 0) (Oe (h.getD 1 0)) 8) (Oe (h.getD 2 0)) 16) (Oe (h.getD 3 0)) 24) (Oe (h.getD 4 0)) 32) (Oe (h.getD 5 0)) 40) (Oe (h.getD 6 0)) 48) (Oe (h.getD 7 0)) 56=qF h:=by
 match h,hl with
 | [a,b,c,d,e,f,g,i],_=>rfl
theorem AC6{h:List Int}(hl:h.length=8):(qF h).length=64:=by
 match h,hl with
 | [a,b,c,d,e,f,g,i],_=>rfl
theorem J6(m:List Int):(MC m).length=64:=AC6 (Vh _)
theorem Ol{w0 w w':World}{B k:Nat}{S:Nat->Nat->Prop}(h:BM w0 w (λb _=>b=B))(hf:BM w w' S)(hS:∀b i,S b i->b=k)(hk:w0.heap.size<=k):BM w0 w' (λb _=>b=B):=h.trans' hf λb i hb hs=>absurd (hS b i hs) (by omega)
set_option maxRecDepth 100000 in
set_option maxHeartbeats 2000000 in
theorem ABc{GB:Nat}{GC:Nat->Nat->Option Value}{ad:Nat->Nat×Nat}(hG:Gw GB GC ad){w:World}{B o:Nat}{m:List Int}(ε:GW GC w)(δ:GB<=w.heap.size)(hB:GB<=B)(hd:HG w B o m)(hlen:m.length<1152921504606846000):
  Calls Tryz.prog 110 #[.pointer (some ⟨B,o,none⟩)] w (ARz GC B m w):=by
 obtain⟨x,D,hxm⟩:=hd.ex;have hBl:B<w.heap.size:=D.hs.lt;have hpt:=gW m.length;refine enter (args:=[.pointer (some ⟨B,o,none⟩)]) Tryz.func110 rfl (n:=104) rfl λa F=>?_
 refine AO (AZ F rfl pG λa F=>AJ ?_);have M1:=Ey w 64 .u8 137 ⟨by decide,by decide⟩;have f1:BM w (w.alloc (.cells (Array.replicate 64 (.int .u8 0)) 137)) (λb _=>b=B):=BI _ _ _;have D1:=D.an (BI w (.cells (Array.replicate 64 (.int .u8 0)) 137) (λ_ _=>False)) λ_ h=>h
 have z1':(w.alloc (.cells (Array.replicate 64 (.int .u8 0)) 137)).heap.size=w.heap.size+1:=Array.size_push _;generalize w.alloc (.cells (Array.replicate 64 (.int .u8 0)) 137)=w1 at M1 f1 D1 z1' ⊢;refine AO (AA F rfl λa F=>FI F rfl rfl λa F=>AZ F rfl (AJK F.e) λa F=>AZ F rfl (Qw F.e D1.hl.1) λa F=>AB F rfl λa F=>AJ ?_);refine AO (AZ F rfl AF1 λa F=>AJ ?_);have T2:=Ey w1 144 .u8 199 ⟨by decide,by decide⟩;have f2:BM w1 (w1.alloc (.cells (Array.replicate 144 (.int .u8 0)) 199)) (λ_ _=>False):=BI _ _ _;have z2':(w1.alloc (.cells (Array.replicate 144 (.int .u8 0)) 199)).heap.size=w1.heap.size+1:=Array.size_push _;generalize w1.alloc (.cells (Array.replicate 144 (.int .u8 0)) 199)=w2 at T2 f2 z2' ⊢;have g2:BM w w2 (λb _=>b=B):=f1.trans (f2.mono λ_ _ _ h=>h.elim);have D2:=D1.an f2 λ_ h=>h
 have M2:=M1.an f2 λ_ _ h=>h
 generalize hBt:w1.heap.size=Bt at T2 F z2';refine AO (AZ F rfl (AON F.e rfl) λa F=>K9 F rfl rfl (AP2 F.e rfl (T2.at8 (i:=0) (by omega)).1) λa F=>AJ ?_);have T3:=T2.zd (k:=0) (v:=128) (by omega) ⟨by omega,by omega⟩;have g3:=g2.setCell (b:=Bt) (o:=0) (v:=.int .u8 128) (.inl (by omega));have f3:BM w2 (w2.setCell ⟨Bt,0,none⟩ (.int .u8 128)) (λb _=>b=Bt):=(BM.refl _ _).setCell (.inr rfl);have z3':(w2.setCell ⟨Bt,0,none⟩ (.int .u8 128)).heap.size=w2.heap.size:=Rc _ _ _;generalize w2.setCell ⟨Bt,0,none⟩ (.int .u8 128)=w3 at T3 g3 f3 z3' ⊢;have D3:=D2.an f3 λ_ (h:B=Bt)=>by omega
 have M3:=M2.an f3 λ_ _ (h:w.heap.size=Bt)=>by omega
 refine AO (AX F rfl λa F=>AJ ?_);refine Jy (J:=λa w'=>w'=w3/\∃f,Fr a 104 f/\f 0= .pointer (some ⟨B,o,none⟩)/\f 2= .pointer (some ⟨w.heap.size,0,none⟩)/\f 3= .int .u64 (m.length:Nat)/\f 4= .pointer (some ⟨Bt,0,none⟩)/\f 5= .int .u64 (KY m.length:Nat)) ?_ ?_
 ·refine AO (AA F rfl λa F=>AZ F rfl (mY F.e (j:=128) rfl (by omega)) λa F=>AZ F rfl (AIr F.e rfl) λa F=>AJ (fw F rfl (λhb=>?_) λhb=>?_))
  ·have cf:m.length%128<112:=by have:=of_decide_eq_true hb;omega
   have e1:IntKind.u64.wrap (112-((m.length%128:Nat):Int))=((KY m.length:Nat):Int):=by
    rw[YE (by omega) (by omega)];unfold KY;rw[if_pos cf];omega
   refine cE (AA F rfl λa F=>AZ F rfl (mY F.e (j:=128) rfl (by omega)) λa F=>AZ F rfl (zR rfl F.e) λa F=>AB F rfl λa F=>EM ⟨rfl,rfl,_,F,rfl,rfl,rfl,rfl,?_⟩);exact EH (Value.int .u64) e1
  ·have oR:¬m.length%128<112:=by have:=of_decide_eq_false hb;omega
   have e1:IntKind.u64.wrap (240-((m.length%128:Nat):Int))=((KY m.length:Nat):Int):=by
    rw[YE (by omega) (by omega)];unfold KY;rw[if_neg oR];omega
   refine cE (AA F rfl λa F=>AZ F rfl (mY F.e (j:=128) rfl (by omega)) λa F=>AZ F rfl (zR rfl F.e) λa F=>AB F rfl λa F=>EM ⟨rfl,rfl,_,F,rfl,rfl,rfl,rfl,?_⟩);exact EH (Value.int .u64) e1
 clear F;rintro a w3' ⟨rfl,f,F,h0,h2,h3,h4,h5⟩;have F:=F.nB h0;have F:=F.nB (t:=2) (v:=.pointer (some ⟨w.heap.size,0,none⟩)) h2;have F:=F.nB (t:=3) (v:=.int .u64 (m.length:Nat)) h3;have F:=F.nB (t:=4) (v:=.pointer (some ⟨Bt,0,none⟩)) h4;have F:=F.nB (t:=5) (v:=.int .u64 (KY m.length:Nat)) h5;clear h0 h2 h3 h4 h5;have e8:IntKind.u64.wrap ((m.length:Int)*8)=((m.length*8:Nat):Int):=by
  rw[YE (by omega) (by omega)];omega
 have OK:IntKind.u64.wrap (((KY m.length:Nat):Int)+16)=((KY m.length+16:Nat):Int):=by
  rw[YE (by omega) (by omega)];omega
 have ep8:IntKind.u64.wrap (((KY m.length:Nat):Int)+8)=((KY m.length+8:Nat):Int):=by
  rw[YE (by omega) (by omega)];omega
 refine AO (AA F rfl λa F=>AZ F rfl (ALt F.e rfl) λa F=>AB F rfl λa F=>AJ ?_);rw[e8] at F;refine AO (AA F rfl λa F=>AZ F rfl (nN F.e rfl) λa F=>?_);rw[OK] at F;refine AZ F rfl (AQc F.e F.e (by omega)) λa F=>AB F rfl λa F=>AJ ?_
 refine AO (AA F rfl λa F=>AA F rfl λa F=>AZ F rfl (nN F.e rfl) λa F=>?_);rw[ep8] at F;have aja:AQ true w3' (Bt,KY m.length+8) (List.replicate 8 .u8) ((((lay (List.replicate 144 0) [128] 0)).drop (KY m.length+8)).take 8):=by
  have:=AED (k:=KY m.length+8) (m:=8) T3 (by omega);rwa [Km] at this
 have aeU:=Ig hG ε g3 hB;have aiD:GB<=Bt:=by omega
 have tE:(Value.slice (if(144:Nat)=KY m.length+8 then some ⟨Bt,0,none⟩ else(some (⟨Bt,0,none⟩:Addr)).map (·.add (KY m.length+8))) (KY m.length+16-(KY m.length+8)) (144-(KY m.length+8)))= .slice (some ⟨Bt,KY m.length+8,none⟩) 8 (144-(KY m.length+8)):=by
  rw[if_neg (by omega),UA,Cu,Km]
  congr 1;omega
 refine AZ F rfl (tq F.e F.e (by omega) (by omega)) λa F=>?_
 rw[tE] at F;refine AA F rfl λa F=>DI F rfl (Au rfl F.e F.e Tryz.call155) (APF hG aeU (z8 δ g3.1) aiD ⟨by show(0:Int)<=_;omega,by show _<=(18446744073709551615:Int);omega⟩ aja (by omega)) λe w4 h4=>⟨_,h4.ret,λa F=>AJ ?_⟩
 have g4:=Ol g3 h4.an (λb i h=>h.1) (by omega);have T4:=Ov (k:=KY m.length+8) T3 (by rw[Km];exact h4.an) (by rw[Km];exact h4.mem) (by omega);have D4:=D3.an h4.an λ_ h=>by omega
 have M4:=M3.an h4.an λ_ _ h=>by have:=h.1;omega
 have aiV:XY w4 B (.slice (some ⟨Bt,0,none⟩) (KY m.length+16) 144) (sP m.length):=by
  have h:=(T4.take (n:=KY m.length+16) (by omega));rw[AGL] at h;exact XY.cR (C8.cV h) (eT _) (by omega) (by omega)
 refine AO (AA F rfl λa F=>AA F rfl λa F=>DI F rfl (Au rfl F.e F.e Tryz.call93) (Eo hG h4.gw (z8 δ g4.1) hB ⟨x,D4,hxm⟩ aiV (by rw[eT];omega)) λe w5 h5=>⟨_,h5.ret,λa F=>AJ ?_⟩);have g5:=g4.trans h5.an;have M5:=M4.an h5.an λ_ _ (h:w.heap.size=B)=>by omega
 obtain⟨x5,D5,-⟩:=h5.ov.ex;have hz:=AFC m;refine wp_seq (AO (AA F rfl λa F=>FI F rfl rfl λa F=>AZ F rfl (ig F.e) λa F=>AZ F rfl (Yn F.e D5.hn.1) λa F=>AZ F rfl (OV F.e rfl) λa F=>?_));have xl:((((m++sP m.length).length%128:Nat):Int) != 0)=false:=by rw[hz];rfl
 rw[xl] at F;refine AJ (wp_cond_false F.e (wp_skip ?_));show Code.wp _ _ _ _ _;refine AO (AZ F rfl pG λa F=>AJ ?_);have N6:=Ey w5 64 .u8 137 ⟨by decide,by decide⟩;have f6:BM w5 (w5.alloc (.cells (Array.replicate 64 (.int .u8 0)) 137)) (λ_ _=>False):=BI _ _ _;generalize w5.alloc (.cells (Array.replicate 64 (.int .u8 0)) 137)=v0 at N6 f6 ⊢;have g6:BM w v0 (λb _=>b=B):=g5.trans (f6.mono λ_ _ _ h=>h.elim);have E0:=D5.an f6 λ_ h=>h
 have R0:=M5.an f6 λ_ _ h=>h
 have hs5:=g5.1;have hB5:B<w5.heap.size:=by omega
 have hr5:w.heap.size<w5.heap.size:=by have:=(M5.at8 (i:=0) (by omega)).1.lt;omega
 generalize w5.heap.size=Bo at N6 F hs5 hB5 hr5;have To:GB<=Bo:=by omega
 have U0:=Ig hG ε g6 hB;refine wp_seq (wp_region_still_tail 6 mixed (by kernel_rfl) ?_);have fd0:BM v0 { v0 with drawn:=v0.drawn+1 } (λ_ _=>False):=(BM.refl _ _).of_heap rfl rfl rfl rfl;have Ed0:=E0.an fd0 λ_ h=>h
 have Nd0:=N6.an fd0 λ_ _ h=>h
 have Rd0:=R0.an fd0 λ_ _ h=>h
 have gd0:BM w { v0 with drawn:=v0.drawn+1 } (λb _=>b=B):=g6.trans (fd0.mono λ_ _ _ h=>h.elim);generalize ({ v0 with drawn:=v0.drawn+1 }:World)=u0 at Ed0 Nd0 Rd0 gd0 ⊢;clear N6 g6;have hw0:=Ed0.hh.kq (i:=0) (by omega);refine CK F rfl rfl rfl (XO (k:=0) F.e rfl (by omega)) λa F=>Ee F rfl λa F=>JQ F rfl rfl λa F=>CK F rfl rfl rfl (jr F.e) λa F=>CK F rfl rfl rfl (Wy (k:=0) F.e rfl (by omega)) λa F=>CK F rfl rfl rfl (Qw F.e hw0.1.1) λa F=>?_
 have yp:=Nd0.drop (n:=0) (by omega);refine DI F rfl (Au rfl F.e F.e Tryz.call155) (AST hG (Ig hG ε gd0 hB) (z8 δ gd0.1) To hw0.2 yp (by omega)) λe v1 SU=>⟨_,SU.ret,λa F=>AJ ?_⟩
 have N6:=Ov (k:=0) Nd0 SU.an SU.mem (by omega);have E1:=Ed0.an SU.an λ_ h=>by omega
 have R1:=Rd0.an SU.an λ_ _ h=>by have:=h.1;omega
 have g6:=Ol gd0 SU.an (λb i h=>h.1) (by omega);refine wp_seq (wp_region_still_tail 6 mixed (by kernel_rfl) ?_);have fd1:BM v1 { v1 with drawn:=v1.drawn+1 } (λ_ _=>False):=(BM.refl _ _).of_heap rfl rfl rfl rfl;have Ed1:=E1.an fd1 λ_ h=>h
 have Nd1:=N6.an fd1 λ_ _ h=>h
 have Rd1:=R1.an fd1 λ_ _ h=>h
 have gd1:BM w { v1 with drawn:=v1.drawn+1 } (λb _=>b=B):=g6.trans (fd1.mono λ_ _ _ h=>h.elim);generalize ({ v1 with drawn:=v1.drawn+1 }:World)=u1 at Ed1 Nd1 Rd1 gd1 ⊢;clear N6 g6;have CC:=Ed1.hh.kq (i:=1) (by omega);refine CK F rfl rfl rfl (XO (k:=8) F.e rfl (by omega)) λa F=>Ee F rfl λa F=>JQ F rfl rfl λa F=>CK F rfl rfl rfl (jr F.e) λa F=>CK F rfl rfl rfl (Wy (k:=1) F.e rfl (by omega)) λa F=>CK F rfl rfl rfl (Qw F.e CC.1.1) λa F=>?_
 have hs1:=Nd1.drop (n:=8) (by omega);refine DI F rfl (Au rfl F.e F.e Tryz.call155) (ARZ hG (Ig hG ε gd1 hB) (z8 δ gd1.1) To CC.2 hs1 (by omega)) λe v2 oY=>⟨_,oY.ret,λa F=>AJ ?_⟩
 have N6:=Ov (k:=8) Nd1 oY.an oY.mem (by omega);have E2:=Ed1.an oY.an λ_ h=>by omega
 have R2:=Rd1.an oY.an λ_ _ h=>by have:=h.1;omega
 have g6:=Ol gd1 oY.an (λb i h=>h.1) (by omega);refine wp_seq (wp_region_still_tail 6 mixed (by kernel_rfl) ?_);have fd2:BM v2 { v2 with drawn:=v2.drawn+1 } (λ_ _=>False):=(BM.refl _ _).of_heap rfl rfl rfl rfl;have Ed2:=E2.an fd2 λ_ h=>h
 have Nd2:=N6.an fd2 λ_ _ h=>h
 have Rd2:=R2.an fd2 λ_ _ h=>h
 have gd2:BM w { v2 with drawn:=v2.drawn+1 } (λb _=>b=B):=g6.trans (fd2.mono λ_ _ _ h=>h.elim);generalize ({ v2 with drawn:=v2.drawn+1 }:World)=u2 at Ed2 Nd2 Rd2 gd2 ⊢;clear N6 g6;have hw2:=Ed2.hh.kq (i:=2) (by omega);refine CK F rfl rfl rfl (XO (k:=16) F.e rfl (by omega)) λa F=>Ee F rfl λa F=>JQ F rfl rfl λa F=>CK F rfl rfl rfl (jr F.e) λa F=>CK F rfl rfl rfl (Wy (k:=2) F.e rfl (by omega)) λa F=>CK F rfl rfl rfl (Qw F.e hw2.1.1) λa F=>?_
 have hs2:=Nd2.drop (n:=16) (by omega);refine DI F rfl (Au rfl F.e F.e Tryz.call155) (ASQ hG (Ig hG ε gd2 hB) (z8 δ gd2.1) To hw2.2 hs2 (by omega)) λe v3 CM=>⟨_,CM.ret,λa F=>AJ ?_⟩
 have N6:=Ov (k:=16) Nd2 CM.an CM.mem (by omega);have E3:=Ed2.an CM.an λ_ h=>by omega
 have R3:=Rd2.an CM.an λ_ _ h=>by have:=h.1;omega
 have g6:=Ol gd2 CM.an (λb i h=>h.1) (by omega);refine wp_seq (wp_region_still_tail 6 mixed (by kernel_rfl) ?_);have fd3:BM v3 { v3 with drawn:=v3.drawn+1 } (λ_ _=>False):=(BM.refl _ _).of_heap rfl rfl rfl rfl;have Ed3:=E3.an fd3 λ_ h=>h
 have Nd3:=N6.an fd3 λ_ _ h=>h
 have Rd3:=R3.an fd3 λ_ _ h=>h
 have gd3:BM w { v3 with drawn:=v3.drawn+1 } (λb _=>b=B):=g6.trans (fd3.mono λ_ _ _ h=>h.elim);generalize ({ v3 with drawn:=v3.drawn+1 }:World)=u3 at Ed3 Nd3 Rd3 gd3 ⊢;clear N6 g6;have hw3:=Ed3.hh.kq (i:=3) (by omega);refine CK F rfl rfl rfl (XO (k:=24) F.e rfl (by omega)) λa F=>Ee F rfl λa F=>JQ F rfl rfl λa F=>CK F rfl rfl rfl (jr F.e) λa F=>CK F rfl rfl rfl (Wy (k:=3) F.e rfl (by omega)) λa F=>CK F rfl rfl rfl (Qw F.e hw3.1.1) λa F=>?_
 have hs3:=Nd3.drop (n:=24) (by omega);refine DI F rfl (Au rfl F.e F.e Tryz.call155) (ASB hG (Ig hG ε gd3 hB) (z8 δ gd3.1) To hw3.2 hs3 (by omega)) λe v4 xo=>⟨_,xo.ret,λa F=>AJ ?_⟩
 have N6:=Ov (k:=24) Nd3 xo.an xo.mem (by omega);have E4:=Ed3.an xo.an λ_ h=>by omega
 have R4:=Rd3.an xo.an λ_ _ h=>by have:=h.1;omega
 have g6:=Ol gd3 xo.an (λb i h=>h.1) (by omega);refine wp_seq (wp_region_still_tail 6 mixed (by kernel_rfl) ?_);have fd4:BM v4 { v4 with drawn:=v4.drawn+1 } (λ_ _=>False):=(BM.refl _ _).of_heap rfl rfl rfl rfl;have Ed4:=E4.an fd4 λ_ h=>h
 have Nd4:=N6.an fd4 λ_ _ h=>h
 have Rd4:=R4.an fd4 λ_ _ h=>h
 have gd4:BM w { v4 with drawn:=v4.drawn+1 } (λb _=>b=B):=g6.trans (fd4.mono λ_ _ _ h=>h.elim);generalize ({ v4 with drawn:=v4.drawn+1 }:World)=u4 at Ed4 Nd4 Rd4 gd4 ⊢;clear N6 g6;have hw4:=Ed4.hh.kq (i:=4) (by omega);refine CK F rfl rfl rfl (XO (k:=32) F.e rfl (by omega)) λa F=>Ee F rfl λa F=>JQ F rfl rfl λa F=>CK F rfl rfl rfl (jr F.e) λa F=>CK F rfl rfl rfl (Wy (k:=4) F.e rfl (by omega)) λa F=>CK F rfl rfl rfl (Qw F.e hw4.1.1) λa F=>?_
 have hs4:=Nd4.drop (n:=32) (by omega);refine DI F rfl (Au rfl F.e F.e Tryz.call155) (ASu hG (Ig hG ε gd4 hB) (z8 δ gd4.1) To hw4.2 hs4 (by omega)) λe v5 DG=>⟨_,DG.ret,λa F=>AJ ?_⟩
 have N6:=Ov (k:=32) Nd4 DG.an DG.mem (by omega);have E5:=Ed4.an DG.an λ_ h=>by omega
 have R5:=Rd4.an DG.an λ_ _ h=>by have:=h.1;omega
 have g6:=Ol gd4 DG.an (λb i h=>h.1) (by omega);refine wp_seq (wp_region_still_tail 6 mixed (by kernel_rfl) ?_);have fd5:BM v5 { v5 with drawn:=v5.drawn+1 } (λ_ _=>False):=(BM.refl _ _).of_heap rfl rfl rfl rfl;have Ed5:=E5.an fd5 λ_ h=>h
 have Nd5:=N6.an fd5 λ_ _ h=>h
 have Rd5:=R5.an fd5 λ_ _ h=>h
 have gd5:BM w { v5 with drawn:=v5.drawn+1 } (λb _=>b=B):=g6.trans (fd5.mono λ_ _ _ h=>h.elim);generalize ({ v5 with drawn:=v5.drawn+1 }:World)=u5 at Ed5 Nd5 Rd5 gd5 ⊢;clear N6 g6;have hw5:=Ed5.hh.kq (i:=5) (by omega);refine CK F rfl rfl rfl (XO (k:=40) F.e rfl (by omega)) λa F=>Ee F rfl λa F=>JQ F rfl rfl λa F=>CK F rfl rfl rfl (jr F.e) λa F=>CK F rfl rfl rfl (Wy (k:=5) F.e rfl (by omega)) λa F=>CK F rfl rfl rfl (Qw F.e hw5.1.1) λa F=>?_
 have hs5:=Nd5.drop (n:=40) (by omega);refine DI F rfl (Au rfl F.e F.e Tryz.call155) (ASk hG (Ig hG ε gd5 hB) (z8 δ gd5.1) To hw5.2 hs5 (by omega)) λe v6 My=>⟨_,My.ret,λa F=>AJ ?_⟩
 have N6:=Ov (k:=40) Nd5 My.an My.mem (by omega);have E6:=Ed5.an My.an λ_ h=>by omega
 have R6:=Rd5.an My.an λ_ _ h=>by have:=h.1;omega
 have g6:=Ol gd5 My.an (λb i h=>h.1) (by omega);refine Jy (J:=λa w'=>∃f,Fr a 104 f/\f 2= .pointer (some ⟨w.heap.size,0,none⟩)/\f 7= .pointer (some ⟨Bo,0,none⟩)/\BM w w' (λb _=>b=B)/\GW GC w'/\AQ true w' (w.heap.size,0) (List.replicate 64 .u8) (List.replicate 64 0)/\AQ true w' (Bo,0) (List.replicate 64 .u8) (MC m)) (AO (AA F rfl λa F=>FI F rfl rfl λa F=>AZ F rfl (APe F.e) λa F=>AZ F rfl (Yn F.e E6.hs.1) λa F=>AZ F rfl (OV F.e rfl) λa F=>AJ (wp_cond_true F.e ?_))) ?_
 ·refine wp_seq (wp_region_still_tail 6 mixed (by kernel_rfl) ?_);have fd6:BM v6 { v6 with drawn:=v6.drawn+1 } (λ_ _=>False):=(BM.refl _ _).of_heap rfl rfl rfl rfl;have Ed6:=E6.an fd6 λ_ h=>h
  have Nd6:=N6.an fd6 λ_ _ h=>h
  have Rd6:=R6.an fd6 λ_ _ h=>h
  have gd6:BM w { v6 with drawn:=v6.drawn+1 } (λb _=>b=B):=g6.trans (fd6.mono λ_ _ _ h=>h.elim);generalize ({ v6 with drawn:=v6.drawn+1 }:World)=u6 at Ed6 Nd6 Rd6 gd6 ⊢;clear N6 g6;have hw6:=Ed6.hh.kq (i:=6) (by omega);refine CK F rfl rfl rfl (XO (k:=48) F.e rfl (by omega)) λa F=>Ee F rfl λa F=>JQ F rfl rfl λa F=>CK F rfl rfl rfl (jr F.e) λa F=>CK F rfl rfl rfl (Wy (k:=6) F.e rfl (by omega)) λa F=>CK F rfl rfl rfl (Qw F.e hw6.1.1) λa F=>?_
  have hs6:=Nd6.drop (n:=48) (by omega);refine DI F rfl (Au rfl F.e F.e Tryz.call155) (ASe hG (Ig hG ε gd6 hB) (z8 δ gd6.1) To hw6.2 hs6 (by omega)) λe v7 h6'=>⟨_,h6'.ret,λa F=>AJ ?_⟩
  have N6:=Ov (k:=48) Nd6 h6'.an h6'.mem (by omega);have E7:=Ed6.an h6'.an λ_ h=>by omega
  have R7:=Rd6.an h6'.an λ_ _ h=>by have:=h.1;omega
  have g6:=Ol gd6 h6'.an (λb i h=>h.1) (by omega);refine wp_region_still_tail 6 mixed (by kernel_rfl) ?_;have fd7:BM v7 { v7 with drawn:=v7.drawn+1 } (λ_ _=>False):=(BM.refl _ _).of_heap rfl rfl rfl rfl;have Ed7:=E7.an fd7 λ_ h=>h
  have Nd7:=N6.an fd7 λ_ _ h=>h
  have Rd7:=R7.an fd7 λ_ _ h=>h
  have gd7:BM w { v7 with drawn:=v7.drawn+1 } (λb _=>b=B):=g6.trans (fd7.mono λ_ _ _ h=>h.elim);generalize ({ v7 with drawn:=v7.drawn+1 }:World)=u7 at Ed7 Nd7 Rd7 gd7 ⊢;clear N6 g6;have hw7:=Ed7.hh.kq (i:=7) (by omega);refine CK F rfl rfl rfl (XO (k:=56) F.e rfl (by omega)) λa F=>Ee F rfl λa F=>JQ F rfl rfl λa F=>CK F rfl rfl rfl (jr F.e) λa F=>CK F rfl rfl rfl (Wy (k:=7) F.e rfl (by omega)) λa F=>CK F rfl rfl rfl (Qw F.e hw7.1.1) λa F=>?_
  have hs7:=Nd7.drop (n:=56) (by omega);refine DI F rfl (Au rfl F.e F.e Tryz.call155) (APF hG (Ig hG ε gd7 hB) (z8 δ gd7.1) To hw7.2 hs7 (by omega)) λe v8 P4=>⟨_,P4.ret,λa F=>EM ?_⟩
  have N6:=Ov (k:=56) Nd7 P4.an P4.mem (by omega);have E8:=Ed7.an P4.an λ_ h=>by omega
  have R8:=Rd7.an P4.an λ_ _ h=>by have:=h.1;omega
  have g6:=Ol gd7 P4.an (λb i h=>h.1) (by omega);rw[AB0 _ (Vh _)] at N6;exact⟨rfl,_,F,rfl,rfl,g6,P4.gw,R8,N6⟩
 ·rintro a w6 ⟨f,F6,q2,q7,gg,qgw,qr,qs⟩;have F:=F6.nB q2;have F:=F.nB (t:=7) (v:=.pointer (some ⟨Bo,0,none⟩)) q7;have C7:(v8 (MC m)).length=64:=by simp[v8,J6]
  have hr8:∀y∈MC m,0<=y/\y<=255:=qs.j9;refine AO (AZ F rfl (Zv (cs:=v8 (MC m)) (λw=>by simp[go_sem]) (λw=>by rw[C7];simp[go_sem]) F.e (λi v hi=>?_)) λa F=>K9 F rfl rfl (V4 (cs:=v8 (MC m)) (λw=>by rw[C7];simp[go_sem]) F.e F.e WV (λj hj=>⟨_,(qr.at8 (by omega)).1⟩)) λa F=>AJ ?_)
  ·exact(C8.cV qs).at i v hi |> λh=>by rw[Cu] at h;exact h
  ·have h9:=Vr (r:=0) (ys:=MC m) qr hr8 (by rw[J6];omega);have e9:lay (List.replicate 64 0) (MC m) 0=MC m:=by
    unfold lay;rw[zcx,yN,List.drop_of_length_le (by rw[Qs,J6];omega),Rw]
   rw[e9] at h9;have g9:BM w (w6.setCells w.heap.size (0+0) (v8 (MC m))) (λb _=>b=B):=EK _ _ gg λ_ _=>.inl (KA _)
   refine DC ⟨F.df,.agg (v8 (MC m)).toArray,?_,rfl,hr8,g9,Ig hG ε g9 hB⟩;exact iM rfl ((F.tm 2).trans rfl) (uW (cs:=v8 (MC m)) (λw=>by simp[go_sem]) (λw=>by rw[C7];simp[go_sem]) (λi v hi=>by have:=(C8.cV h9).at i v hi;rwa [Cu] at this))
end
section
open Go
theorem iy{ks:List IntKind}{xs:List Int}{i:Nat}{v:Value}(h:(Aj ks xs)[i]? = some v):∃k x,ks[i]? = some k/\xs[i]? = some x/\v= .int k x:=by
 unfold Aj at h;rw[List.getElem?_zipWith] at h;split at h
 ·rename_i k x h1 h2;exact⟨k,x,h1,h2,by simpa using h.symm⟩
 ·cases h
theorem AQ.eK{f:Bool}{w:World}{b o:Nat}{ks:List IntKind}{xs:List Int}(h:AQ f w (b,o) ks xs):∀i v,(Aj ks xs)[i]? = some v->w.cell? ⟨b,o+i,none⟩=some v:=λi v hv=>by
 obtain⟨k,x,h1,h2,rfl⟩:=iy hv;exact(h.2 i k x h1 h2).1
theorem KJ{ks:List IntKind}{xs:List Int}(h:xs.length=ks.length):(Aj ks xs).length=ks.length:=by simp[Aj,h]
theorem Nt{ks:List IntKind}{xs:List Int}:∀v∈Aj ks xs,v.oneCell'=true:=λv hv=>by
 obtain⟨i,hi,rfl⟩:=dX hv;obtain⟨k,x,-, -,e⟩:=iy (JC hi);rw[e];rfl
theorem TB{w:World}{b o:Nat}{ks:List IntKind}{xs:List Int}(hr:La ks xs)(hd:∀j,j<ks.length->∃u,CY true w b (o+j) u):AQ true (w.setCells b o (Aj ks xs)) (b,o) ks xs:=by
 have hl:=KJ hr.1;refine⟨hr,λi k x hk hx=>?_⟩;have hi:i<ks.length:=(OQ.1 hk).1;have:=Qo (vs:=Aj ks xs) (w:=w) (b:=b) (o:=o) (i:=i) (λj hj=>hd j (by omega)) (by omega);rwa [show(Aj ks xs).getD i undef= .int k x by simp[Aj,List.getD,List.getElem?_zipWith,hk,hx]] at this
theorem AQ.join{f:Bool}{w:World}{b o:Nat}{ks js:List IntKind}{xs ys:List Int}(h:AQ f w (b,o) ks xs)(g:AQ f w (b,o+ks.length) js ys):AQ f w (b,o) (ks++js) (xs++ys):=by
 have hl:=h.1.1;have hs:∀ {i:Nat} {k:IntKind} {x:Int},(ks++js)[i]? = some k->(xs++ys)[i]? = some x->(ks[i]? = some k/\xs[i]? = some x)\/(ks.length<=i/\js[i-ks.length]? = some k/\ys[i-ks.length]? = some x):=λ{i k x} hk hx=>by
  by_cases hi:i<ks.length
  ·rw[Zm hi] at hk;rw[Zm (by omega)] at hx;exact .inl ⟨hk,hx⟩
  ·rw[dh (by omega)] at hk;rw[dh (by omega),hl] at hx;exact .inr ⟨by omega,hk,hx⟩
 refine⟨⟨by rw[MN,MN,hl,g.1.1],λi k x hk hx=>?_⟩,λi k x hk hx=>?_⟩
 ·rcases hs hk hx with⟨a,b⟩|⟨_,a,b'⟩
  ·exact h.1.2 i k x a b
  ·exact g.1.2 _ k x a b'
 ·rcases hs hk hx with⟨a,b⟩|⟨c,a,b'⟩
  ·exact h.2 i k x a b
  ·have:=g.2 _ k x a b';rwa [show(b,o+ks.length).2+(i-ks.length)=o+i by show o+ks.length+(i-ks.length)=o+i;omega] at this
theorem fD{w:World}{b o:Nat}{k:IntKind}{x:Int}(h:CY true w b o (.int k x))(hr:IU k x):AQ true w (b,o) [k] [x]:=by
 have hs:∀ {i:Nat} {k':IntKind} {x':Int},[k][i]? = some k'-> [x][i]? = some x'->i=0/\k'=k/\x'=x:=λ{i k' x'} h1 h2=>by
  rcases i with _|i
  ·exact⟨rfl,by simpa using h1.symm,by simpa using h2.symm⟩
  ·simp at h1
 refine⟨⟨rfl,λi k' x' h1 h2=>?_⟩,λi k' x' h1 h2=>?_⟩
 ·obtain⟨-,rfl,rfl⟩:=hs h1 h2;exact hr
 ·obtain⟨rfl,rfl,rfl⟩:=hs h1 h2;exact h
theorem Dg.abe{w:World}{B o:Nat}{h x:List Int}{nx L:Nat}(d:Dg w B o h x nx L)(hn:nx<1000)(hL:L<1152921504606846976):AQ true w (B,o) dK (h++(x ++ [(nx:Int),(L:Int),64])):=by
 have e8:(List.replicate 8 IntKind.u64).length=8:=Qs;have ZD:(List.replicate 128 IntKind.u8).length=128:=Qs;refine d.hh.join ?_;rw[e8];refine d.hx.join ?_;rw[ZD];refine(fD d.hn ⟨by show(-9223372036854775808:Int)<=_;omega,by show _<=(9223372036854775807:Int);omega⟩).join (ks:=[.i64]) (js:=[.u64,.i64]) (ys:=[(L:Int),64]) ?_;refine(fD (o:=o+137) d.hl ⟨by show(0:Int)<=_;omega,by show _<=(18446744073709551615:Int);omega⟩).join (ks:=[.u64]) (js:=[.i64]) (ys:=[64]) ?_;exact fD (o:=o+138) d.hs ⟨by decide,by decide⟩
theorem Lu(w:World)(ks:List IntKind)(xs:List Int)(e:TypeId)(hr:La ks xs):AQ true (w.alloc (.cells (Aj ks xs).toArray e)) (w.heap.size,0) ks xs:=by
 refine⟨hr,λi k x hk hx=>?_⟩;refine CY.fh (c:=(Aj ks xs).toArray) (e:=e) (lo:=0) (hi:=0) ?_ ?_ (λ_=>by omega)
 ·show(w.heap.push _)[w.heap.size]? = _;exact Array.getElem?_push_size
 ·rw[Km,List.getElem?_toArray];simp[Aj,List.getElem?_zipWith,hk,hx]
theorem Ot{ks:List IntKind}{xs:List Int}(h:(Nat.beq xs.length ks.length&&(List.zipWith Yl ks xs).all id)=true):La ks xs:=by
 simp only[Bl] at h;refine⟨CR h.1,λi k x hk hx=>?_⟩;have h2:=Mx.1 h.2 (Yl k x) (Le (i:=i) (by rw[List.getElem?_zipWith,hk,hx]));simp only[id,Yl,Bl,decide_eq_true_eq] at h2;exact h2
section
variable{ρ:Operand->Value}{d:Option Tmp}{x y:Operand}{ty:TypeId}{pos:String}{af:Array Edge}{w:World}{b o:Nat}
theorem AOR(hx:ρ x= .pointer (some ⟨b,o,none⟩))(hy:ρ y= .int .i64 64):(execOp ρ ⟨d,.slice 137 x none (some y) none,ty,pos,af,none⟩).run Tryz.prog w= .ok (.value (.slice (some ⟨b,o,none⟩) 64 64)) w:=by
 have hu:=run_underlying (w:=w) Tryz.underlying137;have hb:∀code,(Instr.sliceBound (.int .i64 64) 64 code).run Tryz.prog w= .ok 64 w:=λcode=>CW (k:=.i64) _ w (n:=64) (KA 64) code
 simp only[execOp,hx,hy,UA,Option.map_none,Instr.sliceAt,Instr.slice,IY,hu,Hm];simp[Instr.sliceBounds,Instr.sureAddr,go_sem]
theorem AOS{n m c c':Nat}{q:Addr}{ys:List Int}(hx:ρ x= .slice (some ⟨b,o,none⟩) n c)(hy:ρ y= .slice (some q) m c')(hl:ys.length=m)(hr:n+m<=c)(hs:∀i,i<m->w.cell? (q.add i)=some (.int .u8 (ys.getD i 0)))(hd:∀i,i<m->∃u,CY true w b (o+n+i) u):
  (execOp ρ ⟨d,.call ⟨.builtin .append,#[x,y],#[22,22]⟩,ty,pos,af,none⟩).run Tryz.prog w= .ok (.value (.slice (some ⟨b,o,none⟩) (n+m) c)) (w.setCells b (o+n) (v8 ys)):=by
 have C7:(v8 ys).length=m:=by simp[v8,hl]
 have Wr:=run_loadCells_list (P:=Tryz.prog) w q (v8 ys) (λj u hu=>by
  have hj:j<ys.length:=by have:=(OQ.1 hu).1;omega
  rw[hs j (by omega)];have:(v8 ys)[j]? = some (.int .u8 (ys.getD j 0)):=by simp[v8,List.getD,hj]
  rw[<- this];exact hu)
 rw[C7] at Wr;have gf:=KE (P:=Tryz.prog) b (o+n) (v8 ys) 0 w WV (λj hj=>by
  rw[P5];exact hd j (by omega))
 rw[P5,QT] at gf;have hu:=run_underlying (w:=w) Tryz.underlying22;simp only[execOp,resolve,invoke,hx,hy,IY,KT,Hm,List.map_toArray,NE,Uf];simp[builtin,Builtin.append_,hu,Builtin.lenOf,Builtin.firstCells,hr,Wr,Cu,gf]
end
structure SmP (GC:Nat->Nat->Option Value) (Bi oi c:Nat) (m:List Int) (w:World) (e:Ending) (w':World):Prop where
 ret:e= .returned (.slice (some ⟨Bi,oi,none⟩) 64 c)
 mem:AQ true w' (Bi,oi) (List.replicate 64 .u8) (MC m)
 an:BM w w' (λb _=>b=Bi)
 gw:GW GC w'
theorem AH3:∀w:World,(sizeOf 135).run Tryz.prog w= .ok 139 w:=λw=>by simp[go_sem]
theorem AOQ:∀w:World,(isAgg 135).run Tryz.prog w= .ok true w:=λw=>by simp[go_sem]
theorem ARy:∀w:World,(sizeOf 137).run Tryz.prog w= .ok 64 w:=λw=>by simp[go_sem]
theorem AQ.ex{w:World}{b o:Nat}{ks:List IntKind}{xs:List Int}(h:AQ true w (b,o) ks xs):∀j,j<ks.length->∃u,CY true w b (o+j) u:=λj hj=>
 ⟨_,h.2 j ks[j] (xs[j]'(by rw[h.1.1];exact hj)) (JC hj) (JC _)⟩
set_option maxRecDepth 100000 in
set_option maxHeartbeats 1000000 in
theorem gU{GB:Nat}{GC:Nat->Nat->Option Value}{ad:Nat->Nat×Nat}(hG:Gw GB GC ad){w:World}{B o Bi oi c:Nat}{m zs:List Int}(ε:GW GC w)(δ:GB<=w.heap.size)(hd:HG w B o m)(hlen:m.length<1152921504606846000)(hBi:GB<=Bi)(hi:AQ true w (Bi,oi) (List.replicate 64 .u8) zs)(hc:64<=c):
  Calls Tryz.prog 94 #[.pointer (some ⟨B,o,none⟩),.slice (some ⟨Bi,oi,none⟩) 0 c] w (SmP GC Bi oi c m w):=by
 obtain⟨x,D,hxm⟩:=hd.ex;have hBl:B<w.heap.size:=D.hs.lt;have ars:Bi<w.heap.size:=(hi.at8 (i:=0) (by omega)).1.lt;have hM:=D.abe (by omega) (by omega);refine enter (args:=[.pointer (some ⟨B,o,none⟩),.slice (some ⟨Bi,oi,none⟩) 0 c]) Tryz.func94 rfl (n:=22) rfl λa F=>?_
 refine AO (AX F rfl λa F=>AJ ?_);refine AO (AZ F rfl AQp λa F=>AB F rfl λa F=>AJ ?_);have N1:=Lu w dK (List.replicate 139 0) 135 (Ot (by decide));have f1:BM w (w.alloc (.cells (Aj dK (List.replicate 139 0)).toArray 135)) (λ_ _=>False):=BI _ _ _;generalize w.alloc (.cells (Aj dK (List.replicate 139 0)).toArray 135)=w1 at N1 f1 ⊢;have hM1:=hM.an f1 λ_ _ h=>h
 have kj:(Aj dK (gf m++(x ++ [((m.length%128:Nat):Int),(m.length:Int),64]))).length=139:=KJ hM.1.1;refine AO (AA F rfl λa F=>AA F rfl λa F=>FI F rfl rfl λa F=>AZ F rfl (Zv (cs:=Aj dK (gf m++(x ++ [((m.length%128:Nat):Int),(m.length:Int),64]))) AOQ (λw=>by rw[kj];exact AH3 w) F.e hM1.eK) λa F=>
  FI F rfl rfl λa F=>K9 F rfl rfl (V4 (cs:=Aj dK (gf m++(x ++ [((m.length%128:Nat):Int),(m.length:Int),64]))) (λw=>by rw[kj];exact AH3 w) F.e F.e Nt (λj hj=>N1.ex j (by rw[kj] at hj;exact hj))) λa F=>AJ ?_)
 have S2:=TB hM.1 N1.ex;have g2:BM w (w1.setCells w.heap.size 0 (Aj dK (gf m++(x ++ [((m.length%128:Nat):Int),(m.length:Int),64])))) (λ_ _=>False):=EK _ _ f1 λ_ _=>.inl (KA _)
 generalize w1.setCells w.heap.size 0 (Aj dK (gf m++(x ++ [((m.length%128:Nat):Int),(m.length:Int),64])))=w2 at S2 g2 ⊢;have D2:=Dg.cV (Vh m) D.hx.len8 S2;have aal:GW GC w2:=Ig hG ε (g2.mono (S':=λb _=>b=w.heap.size) λ_ _ _ h=>h.elim) δ;have hs2:w.heap.size<w2.heap.size:=(D2.hs).lt;refine AO (AA F rfl λa F=>DI F rfl (Ar rfl F.e Tryz.call110) (ABc hG aal (z8 δ g2.1) δ ⟨x,D2,hxm⟩ hlen) λe w3 h3=>⟨_,h3.ret,λa F=>AZ F rfl pG λa F=>?_⟩);have g3:BM w w3 (λ_ _=>False):=g2.trans' h3.an λb _ hb (h:b=w.heap.size)=>by omega
 have N4:=Ey w3 64 .u8 137 ⟨by decide,by decide⟩;have f4:BM w3 (w3.alloc (.cells (Array.replicate 64 (.int .u8 0)) 137)) (λ_ _=>False):=BI _ _ _;generalize w3.alloc (.cells (Array.replicate 64 (.int .u8 0)) 137)=w4 at N4 f4 ⊢;have g4:=g3.trans f4;have hs3:w.heap.size<=w3.heap.size:=g3.1;have C7:(v8 (MC m)).length=64:=by simp[v8,J6]
 refine K9 F rfl rfl (V4 (cs:=v8 (MC m)) (λw=>by rw[C7];exact ARy w) F.e F.e WV (λj hj=>⟨_,(N4.at8 (by omega)).1⟩)) λa F=>AJ ?_
 have hr8:∀y∈MC m,0<=y/\y<=255:=h3.jn;have N5:=Vr (r:=0) (ys:=MC m) N4 hr8 (by rw[J6];omega);have e5:lay (List.replicate 64 0) (MC m) 0=MC m:=by
  unfold lay;rw[zcx,yN,List.drop_of_length_le (by rw[Qs,J6];omega),Rw]
 rw[e5] at N5;have g5:BM w (w4.setCells w3.heap.size (0+0) (v8 (MC m))) (λ_ _=>False):=EK _ _ g4 λ_ _=>.inl hs3
 generalize w4.setCells w3.heap.size (0+0) (v8 (MC m))=w5 at N5 g5 ⊢;have D5:=D.an g5 λ_ h=>h
 have I5:=hi.an g5 λ_ _ h=>h
 refine AO (AA F rfl λa F=>AA F rfl λa F=>FI F rfl rfl λa F=>AZ F rfl (APe F.e) λa F=>AZ F rfl (Yn F.e D5.hs.1) λa F=>AZ F rfl (AOR F.e F.e) λa F=>
  AZ F rfl (AOS (m:=64) (ys:=MC m) F.e F.e (J6 m) (by omega) (λi hi=>by rw[Cu];exact(N5.at8 hi).1.1) (λi hi=>⟨_,(I5.at8 hi).1⟩)) λa F=>AB F rfl λa F=>AJ ?_)
 have N6:=Vr (r:=0) (ys:=MC m) I5 hr8 (by rw[J6];omega);have e6:lay zs (MC m) 0=MC m:=by
  unfold lay;rw[zcx,yN,List.drop_of_length_le (by have:=hi.len8;rw[J6];omega),Rw]
 rw[e6] at N6;have g6:BM w (w5.setCells Bi (oi+0) (v8 (MC m))) (λb _=>b=Bi):=EK _ _ (g5.mono λ_ _ _ h=>h.elim) λ_ _=>.inr rfl
 refine DC ⟨F.df,.slice (some ⟨Bi,oi,none⟩) 64 c,?_,rfl,N6,g6,Ig hG ε g6 hBi⟩;have h4:=F.tm 4;rw[Ti] at h4;simp[results,Tryz.results94,go_sem];exact h4
end
end Go.Proofs.YtloibefkijfdlaaGreatDoor
