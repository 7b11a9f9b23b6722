/- The hash over any bytes: the padding and the words, written out: checkSum. -/
import Derived.Test.YtloibefkijfdlaaGreatDoorWb
namespace Go.Proofs.YtloibefkijfdlaaGreatDoor
section
open Go
section
variable{ρ:Operand→Value}{d:Option Tmp}{x y:Operand}{ty:TypeId}{pos:String}{af:Array Edge}{w:World}{b o:Nat}
theorem Yk{kk:IntKind}{k:Nat}(hx:ρ x= .pointer (some ⟨b,o,none⟩))(hy:ρ y= .int kk k)(h1:k<64):(execOp ρ ⟨d,.slice 137 x (some y) none none,ty,pos,af,none⟩).run Tryz.prog w= .ok (.value (.slice (some ⟨b,o+k,none⟩) (64-k) (64-k))) w:=by
 have hu:=run_underlying (w:=w) Tryz.underlying137;have hb:∀ code,(Instr.sliceBound (.int kk k) 64 code).run Tryz.prog w= .ok k w:=fun code=>CR _ w (by omega) code
 simp only[execOp,hx,hy,Xa,Option.map_none,Instr.sliceAt,Instr.slice,I1,hu,IB];have hne:¬ (64=k):=by omega
 simp[Instr.sliceBounds,Instr.sureAddr,DZ,hne,go_sem]
 intro h;omega
theorem ARB{kk:IntKind}{k:Nat}(hx:ρ x= .pointer (some ⟨b,o,none⟩))(hy:ρ y= .int kk k)(h1:k≤144):(execOp ρ ⟨d,.slice 199 x none (some y) none,ty,pos,af,none⟩).run Tryz.prog w= .ok (.value (.slice (some ⟨b,o,none⟩) k 144)) w:=by
 have hu:=run_underlying (w:=w) Tryz.underlying199;have hb:∀ code,(Instr.sliceBound (.int kk k) 144 code).run Tryz.prog w= .ok k w:=fun code=>CR _ w (by omega) code
 simp only[execOp,hx,hy,Xa,Option.map_none,Instr.sliceAt,Instr.slice,I1,hu,IB];simp[Instr.sliceBounds,Instr.sureAddr,DZ,go_sem]
 intro h;omega
theorem AQv{i j:Int}(h:ρ x= .pointer (some ⟨b,o,none⟩))(hy:ρ y= .int .u8 j)(hc:Ci true w b o (.int .u8 i)):(execOp ρ ⟨d,.store 5 x y,ty,pos,af,none⟩).run Tryz.prog w= .ok .skip (w.setCell ⟨b,o,none⟩ (.int .u8 j)):=by
 simp[execOp,go_sem,h,hy,hc.1,hc.2 rfl]
end
theorem Ar.at64{f:Bool}{w:World}{b o n:Nat}{xs:List Int}(h:Ar f w (b,o) (List.replicate n .u64) xs){i:Nat}(hi:i<n):Ci f w b (o+i) (.int .u64 (xs.getD i 0))∧JC .u64 (xs.getD i 0):=by
 obtain⟨⟨h1,h2⟩,h3⟩:=h;rw[SX] at h1;have hk:(List.replicate n IntKind.u64)[i]? = some .u64:=by simp[hi]
 have hx:xs[i]? = some (xs.getD i 0):=by simp[List.getD,show i<xs.length by omega]
 exact⟨h3 i .u64 _ hk hx,h2 i .u64 _ hk hx⟩
theorem Ar.set1{w:World}{b n:Nat}{x:List Int}{k:Nat}{v:Int}(h:Ar true w (b,0) (List.replicate n .u8) x)(hk:k<n)(hv:0≤v∧v≤255):Ar true (w.setCell ⟨b,k,none⟩ (.int .u8 v)) (b,0) (List.replicate n .u8) (lay x [v] k):=by
 have:=XF (r:=k) (ys:=[v]) h (fun y hy=>by rw[Nc] at hy;rw[hy];exact hv) (by simp;omega)
 rwa [NU] at this
structure AV2 (GC:Nat→Nat→Option Value) (B:Nat) (m:List Int) (w:World) (e:Ending) (w':World):Prop where
 ret:e= .returned (.agg (v8 (Kn m)).toArray)
 rng:∀ y∈Kn m,0≤y∧y≤255
 frm:CV w w' (fun b _=>b=B)
 gw:GW GC w'
theorem kz{P:Program}{t:TypeId}{cs:List Value}{b o:Nat}{w:World}(ha:∀ w,(isAgg t).run P w= .ok true w)(hz:∀ w,(sizeOf t).run P w= .ok cs.length w)(hc:∀ i v,cs[i]? = some v→w.cell? ⟨b,o+i,none⟩=some v):(loadVar t ⟨b,o,none⟩).run P w= .ok (.agg cs.toArray) w:=by
 have hl:=run_loadCells_list (P:=P) w ⟨b,o,none⟩ cs (fun j u hu=>by rw[DZ];exact hc j u hu);simp only[loadVar,I1,KD,IB,ha,if_true,hz,hl]
theorem Z8{P:Program}{fn:Func}{tmps:Array Value}{t:Tmp}{ty:TypeId}{q:Addr}{v:Value}{w:World}(hr:fn.results= #[.cell t ty])(ht:tmps.getD t undef= .pointer (some q))(hl:(loadVar ty q).run P w= .ok v w):(results fn tmps).run P w= .ok v w:=by
 unfold results;rw[hr,Array.mapM_eq_mapM_toList];simp only[List.mapM_cons,List.mapM_nil,map_eq_pure_bind,bind_assoc,pure_bind,I1,ht,asAddr,KD,IB,hl];simp
theorem ADV(h:List Int)(hl:h.length=8):lay (lay (lay (lay (lay (lay (lay (lay (List.replicate 64 0) (OL (h.getD 0 0)) 0) (OL (h.getD 1 0)) 8) (OL (h.getD 2 0)) 16) (OL (h.getD 3 0)) 24) (OL (h.getD 4 0)) 32) (OL (h.getD 5 0)) 40) (OL (h.getD 6 0)) 48) (OL (h.getD 7 0)) 56=qQ h:=by
 match h,hl with
 | [a,b,c,d,e,f,g,i],_=>rfl
theorem AFA{h:List Int}(hl:h.length=8):(qQ h).length=64:=by
 match h,hl with
 | [a,b,c,d,e,f,g,i],_=>rfl
theorem Du(m:List Int):(Kn m).length=64:=AFA (XD _)
theorem QG{w0 w w':World}{B k:Nat}{S:Nat→Nat→Prop}(h:CV w0 w (fun b _=>b=B))(hf:CV w w' S)(hS:∀ b i,S b i→b=k)(hk:w0.heap.size≤k):CV w0 w' (fun b _=>b=B):=h.trans' hf fun b i hb hs=>absurd (hS b i hs) (by omega)
set_option maxRecDepth 100000 in
set_option maxHeartbeats 2000000 in
theorem ACv{GB:Nat}{GC:Nat→Nat→Option Value}{ad:Nat→Nat×Nat}(hG:Jk GB GC ad){w:World}{B o:Nat}{m:List Int}(ε:GW GC w)(δ:GB≤w.heap.size)(hB:GB≤B)(hd:Dig w B o m)(hlen:m.length<1152921504606846000):
  Calls Tryz.prog 110 #[.pointer (some ⟨B,o,none⟩)] w (AV2 GC B m w):=by
 obtain⟨x,D,hxm⟩:=hd.ex;have hBl:B<w.heap.size:=D.hs.lt;have hpt:=Sq m.length;refine enter (args:=[.pointer (some ⟨B,o,none⟩)]) Tryz.func110 rfl (n:=104) rfl fun a F=>?_
 refine BQ (Cm F rfl wD fun a F=>Ae ?_);have M1:=Hq w 64 .u8 137 ⟨by decide,by decide⟩;have f1:CV w (w.alloc (.cells (Array.replicate 64 (.int .u8 0)) 137)) (fun b _=>b=B):=Cs _ _ _;have D1:=D.frm (Cs w (.cells (Array.replicate 64 (.int .u8 0)) 137) (fun _ _=>False)) fun _ h=>h
 have z1':(w.alloc (.cells (Array.replicate 64 (.int .u8 0)) 137)).heap.size=w.heap.size+1:=Array.size_push _;generalize w.alloc (.cells (Array.replicate 64 (.int .u8 0)) 137)=w1 at M1 f1 D1 z1' ⊢;refine BQ (AB F rfl fun a F=>Kr F rfl rfl fun a F=>Cm F rfl (AO2 F.e) fun a F=>Cm F rfl (UB F.e D1.hl.1) fun a F=>AR F rfl fun a F=>Ae ?_);refine BQ (Cm F rfl AIt fun a F=>Ae ?_);have T2:=Hq w1 144 .u8 199 ⟨by decide,by decide⟩;have f2:CV w1 (w1.alloc (.cells (Array.replicate 144 (.int .u8 0)) 199)) (fun _ _=>False):=Cs _ _ _;have z2':(w1.alloc (.cells (Array.replicate 144 (.int .u8 0)) 199)).heap.size=w1.heap.size+1:=Array.size_push _;generalize w1.alloc (.cells (Array.replicate 144 (.int .u8 0)) 199)=w2 at T2 f2 z2' ⊢;have g2:CV w w2 (fun b _=>b=B):=f1.trans (f2.mono fun _ _ _ h=>h.elim);have D2:=D1.frm f2 fun _ h=>h
 have M2:=M1.frm f2 fun _ _ h=>h
 generalize hBt:w1.heap.size=Bt at T2 F z2';refine BQ (Cm F rfl (ASW F.e rfl) fun a F=>LP F rfl rfl (AQv F.e rfl (T2.at8 (i:=0) (by omega)).1) fun a F=>Ae ?_);have T3:=T2.set1 (k:=0) (v:=128) (by omega) ⟨by omega,by omega⟩;have g3:=g2.setCell (b:=Bt) (o:=0) (v:=.int .u8 128) (.inl (by omega));have f3:CV w2 (w2.setCell ⟨Bt,0,none⟩ (.int .u8 128)) (fun b _=>b=Bt):=(CV.refl _ _).setCell (.inr rfl);have z3':(w2.setCell ⟨Bt,0,none⟩ (.int .u8 128)).heap.size=w2.heap.size:=XW _ _ _;generalize w2.setCell ⟨Bt,0,none⟩ (.int .u8 128)=w3 at T3 g3 f3 z3' ⊢;have D3:=D2.frm f3 fun _ (h:B=Bt)=>by omega
 have M3:=M2.frm f3 fun _ _ (h:w.heap.size=Bt)=>by omega
 refine BQ (Bv F rfl fun a F=>Ae ?_);refine KT (J:=fun a w'=>w'=w3∧∃ f,Fr a 104 f∧f 0= .pointer (some ⟨B,o,none⟩)∧f 2= .pointer (some ⟨w.heap.size,0,none⟩)∧f 3= .int .u64 (m.length:Nat)∧f 4= .pointer (some ⟨Bt,0,none⟩)∧f 5= .int .u64 (Gx m.length:Nat)) ?_ ?_
 ·refine BQ (AB F rfl fun a F=>Cm F rfl (sN F.e (j:=128) rfl (by omega)) fun a F=>Cm F rfl (AOB F.e rfl) fun a F=>Ae (tL F rfl (fun hb=>?_) fun hb=>?_))
  ·have hlt:m.length%128<112:=by have:=of_decide_eq_true hb;omega
   have e1:IntKind.u64.wrap (112-((m.length%128:Nat):Int))=((Gx m.length:Nat):Int):=by
    rw[dJ (by omega) (by omega)];unfold Gx;rw[if_pos hlt];omega
   refine reg (AB F rfl fun a F=>Cm F rfl (sN F.e (j:=128) rfl (by omega)) fun a F=>Cm F rfl (AEO rfl F.e) fun a F=>AR F rfl fun a F=>Gv ⟨rfl,rfl,_,F,rfl,rfl,rfl,rfl,?_⟩);exact QL (Value.int .u64) e1
  ·have hge:¬ m.length%128<112:=by have:=of_decide_eq_false hb;omega
   have e1:IntKind.u64.wrap (240-((m.length%128:Nat):Int))=((Gx m.length:Nat):Int):=by
    rw[dJ (by omega) (by omega)];unfold Gx;rw[if_neg hge];omega
   refine reg (AB F rfl fun a F=>Cm F rfl (sN F.e (j:=128) rfl (by omega)) fun a F=>Cm F rfl (AEO rfl F.e) fun a F=>AR F rfl fun a F=>Gv ⟨rfl,rfl,_,F,rfl,rfl,rfl,rfl,?_⟩);exact QL (Value.int .u64) e1
 clear F
 rintro a w3' ⟨rfl,f,F,h0,h2,h3,h4,h5⟩
 have F:=F.pin h0;have F:=F.pin (t:=2) (v:=.pointer (some ⟨w.heap.size,0,none⟩)) h2;have F:=F.pin (t:=3) (v:=.int .u64 (m.length:Nat)) h3;have F:=F.pin (t:=4) (v:=.pointer (some ⟨Bt,0,none⟩)) h4;have F:=F.pin (t:=5) (v:=.int .u64 (Gx m.length:Nat)) h5;clear h0 h2 h3 h4 h5;have e8:IntKind.u64.wrap ((m.length:Int)*8)=((m.length*8:Nat):Int):=by
  rw[dJ (by omega) (by omega)];omega
 have e16:IntKind.u64.wrap (((Gx m.length:Nat):Int)+16)=((Gx m.length+16:Nat):Int):=by
  rw[dJ (by omega) (by omega)];omega
 have ep8:IntKind.u64.wrap (((Gx m.length:Nat):Int)+8)=((Gx m.length+8:Nat):Int):=by
  rw[dJ (by omega) (by omega)];omega
 refine BQ (AB F rfl fun a F=>Cm F rfl (APd F.e rfl) fun a F=>AR F rfl fun a F=>Ae ?_);rw[e8] at F;refine BQ (AB F rfl fun a F=>Cm F rfl (vg F.e rfl) fun a F=>?_);rw[e16] at F;refine Cm F rfl (ARB F.e F.e (by omega)) fun a F=>AR F rfl fun a F=>Ae ?_
 refine BQ (AB F rfl fun a F=>AB F rfl fun a F=>Cm F rfl (vg F.e rfl) fun a F=>?_);rw[ep8] at F;have hput:Ar true w3' (Bt,Gx m.length+8) (List.replicate 8 .u8) ((((lay (List.replicate 144 0) [128] 0)).drop (Gx m.length+8)).take 8):=by
  have:=xA (k:=Gx m.length+8) (m:=8) T3 (by omega)
  rwa [NU] at this
 have aeu:=Ia hG ε g3 hB;have hGBt:GB≤Bt:=by omega
 have hsl:(Value.slice (if (144:Nat)=Gx m.length+8 then some ⟨Bt,0,none⟩ else (some (⟨Bt,0,none⟩:Addr)).map (·.add (Gx m.length+8))) (Gx m.length+16-(Gx m.length+8)) (144-(Gx m.length+8)))= .slice (some ⟨Bt,Gx m.length+8,none⟩) 8 (144-(Gx m.length+8)):=by
  rw[if_neg (by omega),Xa,DZ,NU]
  congr 1;omega
 refine Cm F rfl (AGK F.e F.e (by omega) (by omega)) fun a F=>?_
 rw[hsl] at F;refine AB F rfl fun a F=>Jr F rfl (Cz rfl F.e F.e Tryz.call155) (AQ5 hG aeu (G9 δ g3.1) hGBt ⟨by show (0:Int)≤_;omega,by show _≤(18446744073709551615:Int);omega⟩ hput (by omega)) fun e w4 h4=>⟨_,h4.ret,fun a F=>Ae ?_⟩
 have g4:=QG g3 h4.frm (fun b i h=>h.1) (by omega);have T4:=QR (k:=Gx m.length+8) T3 (by rw[NU];exact h4.frm) (by rw[NU];exact h4.mem) (by omega);have D4:=D3.frm h4.frm fun _ h=>by omega
 have M4:=M3.frm h4.frm fun _ _ h=>by have:=h.1;omega
 have hpad:aX w4 B (.slice (some ⟨Bt,0,none⟩) (Gx m.length+16) 144) (gD m.length):=by
  have h:=(T4.take (n:=Gx m.length+16) (by omega));rw[AJx] at h;exact aX.of_has (Fe.of_mem h) (Zq _) (by omega) (by omega)
 refine BQ (AB F rfl fun a F=>AB F rfl fun a F=>Jr F rfl (Cz rfl F.e F.e Tryz.call93) (JK hG h4.gw (G9 δ g4.1) hB ⟨x,D4,hxm⟩ hpad (by rw[Zq];omega)) fun e w5 h5=>⟨_,h5.ret,fun a F=>Ae ?_⟩);have g5:=g4.trans h5.frm;have M5:=M4.frm h5.frm fun _ _ (h:w.heap.size=B)=>by omega
 obtain⟨x5,D5,-⟩:=h5.dig.ex;have hz:=zP m;refine wp_seq (BQ (AB F rfl fun a F=>Kr F rfl rfl fun a F=>Cm F rfl (rR F.e) fun a F=>Cm F rfl (bL F.e D5.hn.1) fun a F=>Cm F rfl (l7 F.e rfl) fun a F=>?_));have hz2:((((m++gD m.length).length%128:Nat):Int) != 0)=false:=by rw[hz];rfl
 rw[hz2] at F;refine Ae (wp_cond_false F.e (wp_skip ?_));show Code.wp _ _ _ _ _;refine BQ (Cm F rfl wD fun a F=>Ae ?_);have N6:=Hq w5 64 .u8 137 ⟨by decide,by decide⟩;have f6:CV w5 (w5.alloc (.cells (Array.replicate 64 (.int .u8 0)) 137)) (fun _ _=>False):=Cs _ _ _;generalize w5.alloc (.cells (Array.replicate 64 (.int .u8 0)) 137)=v0 at N6 f6 ⊢;have g6:CV w v0 (fun b _=>b=B):=g5.trans (f6.mono fun _ _ _ h=>h.elim);have E0:=D5.frm f6 fun _ h=>h
 have R0:=M5.frm f6 fun _ _ h=>h
 have hs5:=g5.1;have hB5:B<w5.heap.size:=by omega
 have hr5:w.heap.size<w5.heap.size:=by have:=(M5.at8 (i:=0) (by omega)).1.lt;omega
 generalize w5.heap.size=Bo at N6 F hs5 hB5 hr5;have hGo:GB≤Bo:=by omega
 have U0:=Ia hG ε g6 hB;refine wp_seq (wp_region_still_tail 6 mixed (by kernel_rfl) ?_);have fd0:CV v0 { v0 with drawn:=v0.drawn+1 } (fun _ _=>False):=(CV.refl _ _).of_heap rfl rfl rfl rfl;have Ed0:=E0.frm fd0 fun _ h=>h
 have Nd0:=N6.frm fd0 fun _ _ h=>h
 have Rd0:=R0.frm fd0 fun _ _ h=>h
 have gd0:CV w { v0 with drawn:=v0.drawn+1 } (fun b _=>b=B):=g6.trans (fd0.mono fun _ _ _ h=>h.elim);generalize ({ v0 with drawn:=v0.drawn+1 }:World)=u0 at Ed0 Nd0 Rd0 gd0 ⊢;clear N6 g6;have hw0:=Ed0.hh.at64 (i:=0) (by omega);refine Dq F rfl rfl rfl (Yk (k:=0) F.e rfl (by omega)) fun a F=>Kv F rfl fun a F=>RX F rfl rfl fun a F=>Dq F rfl rfl rfl (oV F.e) fun a F=>Dq F rfl rfl rfl (Xo (k:=0) F.e rfl (by omega)) fun a F=>Dq F rfl rfl rfl (UB F.e hw0.1.1) fun a F=>?_
 have hs0:=Nd0.drop (n:=0) (by omega);refine Jr F rfl (Cz rfl F.e F.e Tryz.call155) (AVR hG (Ia hG ε gd0 hB) (G9 δ gd0.1) hGo hw0.2 hs0 (by omega)) fun e v1 h0'=>⟨_,h0'.ret,fun a F=>Ae ?_⟩
 have N6:=QR (k:=0) Nd0 h0'.frm h0'.mem (by omega);have E1:=Ed0.frm h0'.frm fun _ h=>by omega
 have R1:=Rd0.frm h0'.frm fun _ _ h=>by have:=h.1;omega
 have g6:=QG gd0 h0'.frm (fun b i h=>h.1) (by omega);refine wp_seq (wp_region_still_tail 6 mixed (by kernel_rfl) ?_);have fd1:CV v1 { v1 with drawn:=v1.drawn+1 } (fun _ _=>False):=(CV.refl _ _).of_heap rfl rfl rfl rfl;have Ed1:=E1.frm fd1 fun _ h=>h
 have Nd1:=N6.frm fd1 fun _ _ h=>h
 have Rd1:=R1.frm fd1 fun _ _ h=>h
 have gd1:CV w { v1 with drawn:=v1.drawn+1 } (fun b _=>b=B):=g6.trans (fd1.mono fun _ _ _ h=>h.elim);generalize ({ v1 with drawn:=v1.drawn+1 }:World)=u1 at Ed1 Nd1 Rd1 gd1 ⊢;clear N6 g6;have hw1:=Ed1.hh.at64 (i:=1) (by omega);refine Dq F rfl rfl rfl (Yk (k:=8) F.e rfl (by omega)) fun a F=>Kv F rfl fun a F=>RX F rfl rfl fun a F=>Dq F rfl rfl rfl (oV F.e) fun a F=>Dq F rfl rfl rfl (Xo (k:=1) F.e rfl (by omega)) fun a F=>Dq F rfl rfl rfl (UB F.e hw1.1.1) fun a F=>?_
 have hs1:=Nd1.drop (n:=8) (by omega);refine Jr F rfl (Cz rfl F.e F.e Tryz.call155) (AUh hG (Ia hG ε gd1 hB) (G9 δ gd1.1) hGo hw1.2 hs1 (by omega)) fun e v2 h1'=>⟨_,h1'.ret,fun a F=>Ae ?_⟩
 have N6:=QR (k:=8) Nd1 h1'.frm h1'.mem (by omega);have E2:=Ed1.frm h1'.frm fun _ h=>by omega
 have R2:=Rd1.frm h1'.frm fun _ _ h=>by have:=h.1;omega
 have g6:=QG gd1 h1'.frm (fun b i h=>h.1) (by omega);refine wp_seq (wp_region_still_tail 6 mixed (by kernel_rfl) ?_);have fd2:CV v2 { v2 with drawn:=v2.drawn+1 } (fun _ _=>False):=(CV.refl _ _).of_heap rfl rfl rfl rfl;have Ed2:=E2.frm fd2 fun _ h=>h
 have Nd2:=N6.frm fd2 fun _ _ h=>h
 have Rd2:=R2.frm fd2 fun _ _ h=>h
 have gd2:CV w { v2 with drawn:=v2.drawn+1 } (fun b _=>b=B):=g6.trans (fd2.mono fun _ _ _ h=>h.elim);generalize ({ v2 with drawn:=v2.drawn+1 }:World)=u2 at Ed2 Nd2 Rd2 gd2 ⊢;clear N6 g6;have hw2:=Ed2.hh.at64 (i:=2) (by omega);refine Dq F rfl rfl rfl (Yk (k:=16) F.e rfl (by omega)) fun a F=>Kv F rfl fun a F=>RX F rfl rfl fun a F=>Dq F rfl rfl rfl (oV F.e) fun a F=>Dq F rfl rfl rfl (Xo (k:=2) F.e rfl (by omega)) fun a F=>Dq F rfl rfl rfl (UB F.e hw2.1.1) fun a F=>?_
 have hs2:=Nd2.drop (n:=16) (by omega);refine Jr F rfl (Cz rfl F.e F.e Tryz.call155) (AVW hG (Ia hG ε gd2 hB) (G9 δ gd2.1) hGo hw2.2 hs2 (by omega)) fun e v3 h2'=>⟨_,h2'.ret,fun a F=>Ae ?_⟩
 have N6:=QR (k:=16) Nd2 h2'.frm h2'.mem (by omega);have E3:=Ed2.frm h2'.frm fun _ h=>by omega
 have R3:=Rd2.frm h2'.frm fun _ _ h=>by have:=h.1;omega
 have g6:=QG gd2 h2'.frm (fun b i h=>h.1) (by omega);refine wp_seq (wp_region_still_tail 6 mixed (by kernel_rfl) ?_);have fd3:CV v3 { v3 with drawn:=v3.drawn+1 } (fun _ _=>False):=(CV.refl _ _).of_heap rfl rfl rfl rfl;have Ed3:=E3.frm fd3 fun _ h=>h
 have Nd3:=N6.frm fd3 fun _ _ h=>h
 have Rd3:=R3.frm fd3 fun _ _ h=>h
 have gd3:CV w { v3 with drawn:=v3.drawn+1 } (fun b _=>b=B):=g6.trans (fd3.mono fun _ _ _ h=>h.elim);generalize ({ v3 with drawn:=v3.drawn+1 }:World)=u3 at Ed3 Nd3 Rd3 gd3 ⊢;clear N6 g6;have hw3:=Ed3.hh.at64 (i:=3) (by omega);refine Dq F rfl rfl rfl (Yk (k:=24) F.e rfl (by omega)) fun a F=>Kv F rfl fun a F=>RX F rfl rfl fun a F=>Dq F rfl rfl rfl (oV F.e) fun a F=>Dq F rfl rfl rfl (Xo (k:=3) F.e rfl (by omega)) fun a F=>Dq F rfl rfl rfl (UB F.e hw3.1.1) fun a F=>?_
 have hs3:=Nd3.drop (n:=24) (by omega);refine Jr F rfl (Cz rfl F.e F.e Tryz.call155) (AVH hG (Ia hG ε gd3 hB) (G9 δ gd3.1) hGo hw3.2 hs3 (by omega)) fun e v4 h3'=>⟨_,h3'.ret,fun a F=>Ae ?_⟩
 have N6:=QR (k:=24) Nd3 h3'.frm h3'.mem (by omega);have E4:=Ed3.frm h3'.frm fun _ h=>by omega
 have R4:=Rd3.frm h3'.frm fun _ _ h=>by have:=h.1;omega
 have g6:=QG gd3 h3'.frm (fun b i h=>h.1) (by omega);refine wp_seq (wp_region_still_tail 6 mixed (by kernel_rfl) ?_);have fd4:CV v4 { v4 with drawn:=v4.drawn+1 } (fun _ _=>False):=(CV.refl _ _).of_heap rfl rfl rfl rfl;have Ed4:=E4.frm fd4 fun _ h=>h
 have Nd4:=N6.frm fd4 fun _ _ h=>h
 have Rd4:=R4.frm fd4 fun _ _ h=>h
 have gd4:CV w { v4 with drawn:=v4.drawn+1 } (fun b _=>b=B):=g6.trans (fd4.mono fun _ _ _ h=>h.elim);generalize ({ v4 with drawn:=v4.drawn+1 }:World)=u4 at Ed4 Nd4 Rd4 gd4 ⊢;clear N6 g6;have hw4:=Ed4.hh.at64 (i:=4) (by omega);refine Dq F rfl rfl rfl (Yk (k:=32) F.e rfl (by omega)) fun a F=>Kv F rfl fun a F=>RX F rfl rfl fun a F=>Dq F rfl rfl rfl (oV F.e) fun a F=>Dq F rfl rfl rfl (Xo (k:=4) F.e rfl (by omega)) fun a F=>Dq F rfl rfl rfl (UB F.e hw4.1.1) fun a F=>?_
 have hs4:=Nd4.drop (n:=32) (by omega);refine Jr F rfl (Cz rfl F.e F.e Tryz.call155) (AWF hG (Ia hG ε gd4 hB) (G9 δ gd4.1) hGo hw4.2 hs4 (by omega)) fun e v5 h4'=>⟨_,h4'.ret,fun a F=>Ae ?_⟩
 have N6:=QR (k:=32) Nd4 h4'.frm h4'.mem (by omega);have E5:=Ed4.frm h4'.frm fun _ h=>by omega
 have R5:=Rd4.frm h4'.frm fun _ _ h=>by have:=h.1;omega
 have g6:=QG gd4 h4'.frm (fun b i h=>h.1) (by omega);refine wp_seq (wp_region_still_tail 6 mixed (by kernel_rfl) ?_);have fd5:CV v5 { v5 with drawn:=v5.drawn+1 } (fun _ _=>False):=(CV.refl _ _).of_heap rfl rfl rfl rfl;have Ed5:=E5.frm fd5 fun _ h=>h
 have Nd5:=N6.frm fd5 fun _ _ h=>h
 have Rd5:=R5.frm fd5 fun _ _ h=>h
 have gd5:CV w { v5 with drawn:=v5.drawn+1 } (fun b _=>b=B):=g6.trans (fd5.mono fun _ _ _ h=>h.elim);generalize ({ v5 with drawn:=v5.drawn+1 }:World)=u5 at Ed5 Nd5 Rd5 gd5 ⊢;clear N6 g6;have hw5:=Ed5.hh.at64 (i:=5) (by omega);refine Dq F rfl rfl rfl (Yk (k:=40) F.e rfl (by omega)) fun a F=>Kv F rfl fun a F=>RX F rfl rfl fun a F=>Dq F rfl rfl rfl (oV F.e) fun a F=>Dq F rfl rfl rfl (Xo (k:=5) F.e rfl (by omega)) fun a F=>Dq F rfl rfl rfl (UB F.e hw5.1.1) fun a F=>?_
 have hs5:=Nd5.drop (n:=40) (by omega);refine Jr F rfl (Cz rfl F.e F.e Tryz.call155) (AU0 hG (Ia hG ε gd5 hB) (G9 δ gd5.1) hGo hw5.2 hs5 (by omega)) fun e v6 h5'=>⟨_,h5'.ret,fun a F=>Ae ?_⟩
 have N6:=QR (k:=40) Nd5 h5'.frm h5'.mem (by omega);have E6:=Ed5.frm h5'.frm fun _ h=>by omega
 have R6:=Rd5.frm h5'.frm fun _ _ h=>by have:=h.1;omega
 have g6:=QG gd5 h5'.frm (fun b i h=>h.1) (by omega);refine KT (J:=fun a w'=>∃ f,Fr a 104 f∧f 2= .pointer (some ⟨w.heap.size,0,none⟩)∧f 7= .pointer (some ⟨Bo,0,none⟩)∧CV w w' (fun b _=>b=B)∧GW GC w'∧Ar true w' (w.heap.size,0) (List.replicate 64 .u8) (List.replicate 64 0)∧Ar true w' (Bo,0) (List.replicate 64 .u8) (Kn m)) (BQ (AB F rfl fun a F=>Kr F rfl rfl fun a F=>Cm F rfl (ARS F.e) fun a F=>Cm F rfl (bL F.e E6.hs.1) fun a F=>Cm F rfl (l7 F.e rfl) fun a F=>Ae (wp_cond_true F.e ?_))) ?_
 ·refine wp_seq (wp_region_still_tail 6 mixed (by kernel_rfl) ?_);have fd6:CV v6 { v6 with drawn:=v6.drawn+1 } (fun _ _=>False):=(CV.refl _ _).of_heap rfl rfl rfl rfl;have Ed6:=E6.frm fd6 fun _ h=>h
  have Nd6:=N6.frm fd6 fun _ _ h=>h
  have Rd6:=R6.frm fd6 fun _ _ h=>h
  have gd6:CV w { v6 with drawn:=v6.drawn+1 } (fun b _=>b=B):=g6.trans (fd6.mono fun _ _ _ h=>h.elim);generalize ({ v6 with drawn:=v6.drawn+1 }:World)=u6 at Ed6 Nd6 Rd6 gd6 ⊢;clear N6 g6;have hw6:=Ed6.hh.at64 (i:=6) (by omega);refine Dq F rfl rfl rfl (Yk (k:=48) F.e rfl (by omega)) fun a F=>Kv F rfl fun a F=>RX F rfl rfl fun a F=>Dq F rfl rfl rfl (oV F.e) fun a F=>Dq F rfl rfl rfl (Xo (k:=6) F.e rfl (by omega)) fun a F=>Dq F rfl rfl rfl (UB F.e hw6.1.1) fun a F=>?_
  have hs6:=Nd6.drop (n:=48) (by omega);refine Jr F rfl (Cz rfl F.e F.e Tryz.call155) (AUn hG (Ia hG ε gd6 hB) (G9 δ gd6.1) hGo hw6.2 hs6 (by omega)) fun e v7 h6'=>⟨_,h6'.ret,fun a F=>Ae ?_⟩
  have N6:=QR (k:=48) Nd6 h6'.frm h6'.mem (by omega);have E7:=Ed6.frm h6'.frm fun _ h=>by omega
  have R7:=Rd6.frm h6'.frm fun _ _ h=>by have:=h.1;omega
  have g6:=QG gd6 h6'.frm (fun b i h=>h.1) (by omega);refine wp_region_still_tail 6 mixed (by kernel_rfl) ?_;have fd7:CV v7 { v7 with drawn:=v7.drawn+1 } (fun _ _=>False):=(CV.refl _ _).of_heap rfl rfl rfl rfl;have Ed7:=E7.frm fd7 fun _ h=>h
  have Nd7:=N6.frm fd7 fun _ _ h=>h
  have Rd7:=R7.frm fd7 fun _ _ h=>h
  have gd7:CV w { v7 with drawn:=v7.drawn+1 } (fun b _=>b=B):=g6.trans (fd7.mono fun _ _ _ h=>h.elim);generalize ({ v7 with drawn:=v7.drawn+1 }:World)=u7 at Ed7 Nd7 Rd7 gd7 ⊢;clear N6 g6;have hw7:=Ed7.hh.at64 (i:=7) (by omega);refine Dq F rfl rfl rfl (Yk (k:=56) F.e rfl (by omega)) fun a F=>Kv F rfl fun a F=>RX F rfl rfl fun a F=>Dq F rfl rfl rfl (oV F.e) fun a F=>Dq F rfl rfl rfl (Xo (k:=7) F.e rfl (by omega)) fun a F=>Dq F rfl rfl rfl (UB F.e hw7.1.1) fun a F=>?_
  have hs7:=Nd7.drop (n:=56) (by omega);refine Jr F rfl (Cz rfl F.e F.e Tryz.call155) (AQ5 hG (Ia hG ε gd7 hB) (G9 δ gd7.1) hGo hw7.2 hs7 (by omega)) fun e v8 h7'=>⟨_,h7'.ret,fun a F=>Gv ?_⟩
  have N6:=QR (k:=56) Nd7 h7'.frm h7'.mem (by omega);have E8:=Ed7.frm h7'.frm fun _ h=>by omega
  have R8:=Rd7.frm h7'.frm fun _ _ h=>by have:=h.1;omega
  have g6:=QG gd7 h7'.frm (fun b i h=>h.1) (by omega);rw[ADV _ (XD _)] at N6;exact⟨rfl,_,F,rfl,rfl,g6,h7'.gw,R8,N6⟩
 ·rintro a w6 ⟨f,F6,q2,q7,gg,qgw,qr,qs⟩
  have F:=F6.pin q2;have F:=F.pin (t:=7) (v:=.pointer (some ⟨Bo,0,none⟩)) q7;have hl8:(v8 (Kn m)).length=64:=by simp[v8,Du]
  have hr8:∀ y∈Kn m,0≤y∧y≤255:=qs.rng8;refine BQ (Cm F rfl (VU (cs:=v8 (Kn m)) (fun w=>by simp[go_sem]) (fun w=>by rw[hl8];simp[go_sem]) F.e (fun i v hi=>?_)) fun a F=>LP F rfl rfl (QX (cs:=v8 (Kn m)) (fun w=>by rw[hl8];simp[go_sem]) F.e F.e Vq (fun j hj=>⟨_,(qr.at8 (by omega)).1⟩)) fun a F=>Ae ?_)
  ·exact (Fe.of_mem qs).at i v hi |> fun h=>by rw[DZ] at h;exact h
  ·have h9:=XF (r:=0) (ys:=Kn m) qr hr8 (by rw[Du];omega);have e9:lay (List.replicate 64 0) (Kn m) 0=Kn m:=by
    unfold lay;rw[zcv,zcn,List.drop_of_length_le (by rw[SX,Du];omega),TL]
   rw[e9] at h9;have g9:CV w (w6.setCells w.heap.size (0+0) (v8 (Kn m))) (fun b _=>b=B):=Ck _ _ gg fun _ _=>.inl (JP _)
   refine Kh ⟨F.df,.agg (v8 (Kn m)).toArray,?_,rfl,hr8,g9,Ia hG ε g9 hB⟩;exact Z8 rfl ((F.tm 2).trans rfl) (kz (cs:=v8 (Kn m)) (fun w=>by simp[go_sem]) (fun w=>by rw[hl8];simp[go_sem]) (fun i v hi=>by have:=(Fe.of_mem h9).at i v hi;rwa [DZ] at this))
end
section
open Go
theorem oH{ks:List IntKind}{xs:List Int}{i:Nat}{v:Value}(h:(AZ ks xs)[i]? = some v):∃ k x,ks[i]? = some k∧xs[i]? = some x∧v= .int k x:=by
 unfold AZ at h;rw[List.getElem?_zipWith] at h
 split at h
 ·rename_i k x h1 h2
  exact⟨k,x,h1,h2,by simpa using h.symm⟩
 ·cases h
theorem Ar.vals{f:Bool}{w:World}{b o:Nat}{ks:List IntKind}{xs:List Int}(h:Ar f w (b,o) ks xs):∀ i v,(AZ ks xs)[i]? = some v→w.cell? ⟨b,o+i,none⟩=some v:=fun i v hv=>by
 obtain⟨k,x,h1,h2,rfl⟩:=oH hv;exact (h.2 i k x h1 h2).1
theorem Ep{ks:List IntKind}{xs:List Int}(h:xs.length=ks.length):(AZ ks xs).length=ks.length:=by simp[AZ,h]
theorem Ip{ks:List IntKind}{xs:List Int}:∀ v∈AZ ks xs,v.oneCell'=true:=fun v hv=>by
 obtain⟨i,hi,rfl⟩:=lu hv;obtain⟨k,x,-, -,e⟩:=oH (Jo hi);rw[e];rfl
theorem Ov{w:World}{b o:Nat}{ks:List IntKind}{xs:List Int}(hr:Hf ks xs)(hd:∀ j,j<ks.length→∃ u,Ci true w b (o+j) u):Ar true (w.setCells b o (AZ ks xs)) (b,o) ks xs:=by
 have hl:=Ep hr.1;refine⟨hr,fun i k x hk hx=>?_⟩;have hi:i<ks.length:=(Pi.1 hk).1;have:=SK (vs:=AZ ks xs) (w:=w) (b:=b) (o:=o) (i:=i) (fun j hj=>hd j (by omega)) (by omega)
 rwa [show (AZ ks xs).getD i undef= .int k x by simp[AZ,List.getD,List.getElem?_zipWith,hk,hx]] at this
theorem Ar.join{f:Bool}{w:World}{b o:Nat}{ks js:List IntKind}{xs ys:List Int}(h:Ar f w (b,o) ks xs)(g:Ar f w (b,o+ks.length) js ys):Ar f w (b,o) (ks++js) (xs++ys):=by
 have hl:=h.1.1;have hs:∀ {i:Nat} {k:IntKind} {x:Int},(ks++js)[i]? = some k→(xs++ys)[i]? = some x→(ks[i]? = some k∧xs[i]? = some x)∨(ks.length≤i∧js[i-ks.length]? = some k∧ys[i-ks.length]? = some x):=fun {i k x} hk hx=>by
  by_cases hi:i<ks.length
  ·rw[gI hi] at hk;rw[gI (by omega)] at hx;exact .inl ⟨hk,hx⟩
  ·rw[mH (by omega)] at hk;rw[mH (by omega),hl] at hx;exact .inr ⟨by omega,hk,hx⟩
 refine⟨⟨by rw[K6,K6,hl,g.1.1],fun i k x hk hx=>?_⟩,fun i k x hk hx=>?_⟩
 ·rcases hs hk hx with ⟨a,b⟩|⟨_,a,b'⟩
  ·exact h.1.2 i k x a b
  ·exact g.1.2 _ k x a b'
 ·rcases hs hk hx with ⟨a,b⟩|⟨c,a,b'⟩
  ·exact h.2 i k x a b
  ·have:=g.2 _ k x a b'
   rwa [show (b,o+ks.length).2+(i-ks.length)=o+i by show o+ks.length+(i-ks.length)=o+i;omega] at this
theorem kW{w:World}{b o:Nat}{k:IntKind}{x:Int}(h:Ci true w b o (.int k x))(hr:JC k x):Ar true w (b,o) [k] [x]:=by
 have hs:∀ {i:Nat} {k':IntKind} {x':Int},[k][i]? = some k'→ [x][i]? = some x'→i=0∧k'=k∧x'=x:=fun {i k' x'} h1 h2=>by
  rcases i with _|i
  ·exact⟨rfl,by simpa using h1.symm,by simpa using h2.symm⟩
  ·simp at h1
 refine⟨⟨rfl,fun i k' x' h1 h2=>?_⟩,fun i k' x' h1 h2=>?_⟩
 ·obtain⟨-,rfl,rfl⟩:=hs h1 h2;exact hr
 ·obtain⟨rfl,rfl,rfl⟩:=hs h1 h2;exact h
theorem Dg.to_mem{w:World}{B o:Nat}{h x:List Int}{nx L:Nat}(d:Dg w B o h x nx L)(hn:nx<1000)(hL:L<1152921504606846976):Ar true w (B,o) dK (h++(x ++ [(nx:Int),(L:Int),64])):=by
 have e8:(List.replicate 8 IntKind.u64).length=8:=SX;have e128:(List.replicate 128 IntKind.u8).length=128:=SX;refine d.hh.join ?_;rw[e8];refine d.hx.join ?_;rw[e128];refine (kW d.hn ⟨by show (-9223372036854775808:Int)≤_;omega,by show _≤(9223372036854775807:Int);omega⟩).join (ks:=[.i64]) (js:=[.u64,.i64]) (ys:=[(L:Int),64]) ?_;refine (kW (o:=o+137) d.hl ⟨by show (0:Int)≤_;omega,by show _≤(18446744073709551615:Int);omega⟩).join (ks:=[.u64]) (js:=[.i64]) (ys:=[64]) ?_;exact kW (o:=o+138) d.hs ⟨by decide,by decide⟩
theorem SA(w:World)(ks:List IntKind)(xs:List Int)(e:TypeId)(hr:Hf ks xs):Ar true (w.alloc (.cells (AZ ks xs).toArray e)) (w.heap.size,0) ks xs:=by
 refine⟨hr,fun i k x hk hx=>?_⟩;refine Ci.of_obj (c:=(AZ ks xs).toArray) (e:=e) (lo:=0) (hi:=0) ?_ ?_ (fun _=>by omega)
 ·show (w.heap.push _)[w.heap.size]? = _;exact Array.getElem?_push_size
 ·rw[NU,List.getElem?_toArray];simp[AZ,List.getElem?_zipWith,hk,hx]
theorem Ws{ks:List IntKind}{xs:List Int}(h:(Nat.beq xs.length ks.length&&(List.zipWith bR ks xs).all id)=true):Hf ks xs:=by
 simp only[Bd] at h;refine⟨CL h.1,fun i k x hk hx=>?_⟩;have h2:=Ll.1 h.2 (bR k x) (OZ (i:=i) (by rw[List.getElem?_zipWith,hk,hx]));simp only[id,bR,Bd,decide_eq_true_eq] at h2;exact h2
section
variable{ρ:Operand→Value}{d:Option Tmp}{x y:Operand}{ty:TypeId}{pos:String}{af:Array Edge}{w:World}{b o:Nat}
theorem ATS(hx:ρ x= .pointer (some ⟨b,o,none⟩))(hy:ρ y= .int .i64 64):(execOp ρ ⟨d,.slice 137 x none (some y) none,ty,pos,af,none⟩).run Tryz.prog w= .ok (.value (.slice (some ⟨b,o,none⟩) 64 64)) w:=by
 have hu:=run_underlying (w:=w) Tryz.underlying137;have hb:∀ code,(Instr.sliceBound (.int .i64 64) 64 code).run Tryz.prog w= .ok 64 w:=fun code=>CR (k:=.i64) _ w (n:=64) (JP 64) code
 simp only[execOp,hx,hy,Xa,Option.map_none,Instr.sliceAt,Instr.slice,I1,hu,IB];simp[Instr.sliceBounds,Instr.sureAddr,go_sem]
theorem ASn{n m c c':Nat}{q:Addr}{ys:List Int}(hx:ρ x= .slice (some ⟨b,o,none⟩) n c)(hy:ρ y= .slice (some q) m c')(hl:ys.length=m)(hr:n+m≤c)(hs:∀ i,i<m→w.cell? (q.add i)=some (.int .u8 (ys.getD i 0)))(hd:∀ i,i<m→∃ u,Ci true w b (o+n+i) u):
  (execOp ρ ⟨d,.call ⟨.builtin .append,#[x,y],#[22,22]⟩,ty,pos,af,none⟩).run Tryz.prog w= .ok (.value (.slice (some ⟨b,o,none⟩) (n+m) c)) (w.setCells b (o+n) (v8 ys)):=by
 have hl8:(v8 ys).length=m:=by simp[v8,hl]
 have hld:=run_loadCells_list (P:=Tryz.prog) w q (v8 ys) (fun j u hu=>by
  have hj:j<ys.length:=by have:=(Pi.1 hu).1;omega
  rw[hs j (by omega)];have:(v8 ys)[j]? = some (.int .u8 (ys.getD j 0)):=by simp[v8,List.getD,hj]
  rw[← this];exact hu)
 rw[hl8] at hld;have hst:=Ke (P:=Tryz.prog) b (o+n) (v8 ys) 0 w Vq (fun j hj=>by
  rw[Q3];exact hd j (by omega))
 rw[Q3,Uf] at hst;have hu:=run_underlying (w:=w) Tryz.underlying22;simp only[execOp,resolve,invoke,hx,hy,I1,KD,IB,List.map_toArray,NT,Vi];simp[builtin,Builtin.append_,hu,Builtin.lenOf,Builtin.firstCells,hr,hld,DZ,hst]
end
structure SmP (GC:Nat→Nat→Option Value) (Bi oi c:Nat) (m:List Int) (w:World) (e:Ending) (w':World):Prop where
 ret:e= .returned (.slice (some ⟨Bi,oi,none⟩) 64 c)
 mem:Ar true w' (Bi,oi) (List.replicate 64 .u8) (Kn m)
 frm:CV w w' (fun b _=>b=Bi)
 gw:GW GC w'
theorem AKn:∀ w:World,(sizeOf 135).run Tryz.prog w= .ok 139 w:=fun w=>by simp[go_sem]
theorem AQp:∀ w:World,(isAgg 135).run Tryz.prog w= .ok true w:=fun w=>by simp[go_sem]
theorem AUs:∀ w:World,(sizeOf 137).run Tryz.prog w= .ok 64 w:=fun w=>by simp[go_sem]
theorem Ar.ex{w:World}{b o:Nat}{ks:List IntKind}{xs:List Int}(h:Ar true w (b,o) ks xs):∀ j,j<ks.length→∃ u,Ci true w b (o+j) u:=fun j hj=>
 ⟨_,h.2 j ks[j] (xs[j]'(by rw[h.1.1];exact hj)) (Jo hj) (Jo _)⟩
set_option maxRecDepth 100000 in
set_option maxHeartbeats 1000000 in
theorem AAP{GB:Nat}{GC:Nat→Nat→Option Value}{ad:Nat→Nat×Nat}(hG:Jk GB GC ad){w:World}{B o Bi oi c:Nat}{m zs:List Int}(ε:GW GC w)(δ:GB≤w.heap.size)(hd:Dig w B o m)(hlen:m.length<1152921504606846000)(hBi:GB≤Bi)(hi:Ar true w (Bi,oi) (List.replicate 64 .u8) zs)(hc:64≤c):
  Calls Tryz.prog 94 #[.pointer (some ⟨B,o,none⟩),.slice (some ⟨Bi,oi,none⟩) 0 c] w (SmP GC Bi oi c m w):=by
 obtain⟨x,D,hxm⟩:=hd.ex;have hBl:B<w.heap.size:=D.hs.lt;have hBil:Bi<w.heap.size:=(hi.at8 (i:=0) (by omega)).1.lt;have hM:=D.to_mem (by omega) (by omega);refine enter (args:=[.pointer (some ⟨B,o,none⟩),.slice (some ⟨Bi,oi,none⟩) 0 c]) Tryz.func94 rfl (n:=22) rfl fun a F=>?_
 refine BQ (Bv F rfl fun a F=>Ae ?_);refine BQ (Cm F rfl ASi fun a F=>AR F rfl fun a F=>Ae ?_);have N1:=SA w dK (List.replicate 139 0) 135 (Ws (by decide));have f1:CV w (w.alloc (.cells (AZ dK (List.replicate 139 0)).toArray 135)) (fun _ _=>False):=Cs _ _ _;generalize w.alloc (.cells (AZ dK (List.replicate 139 0)).toArray 135)=w1 at N1 f1 ⊢;have hM1:=hM.frm f1 fun _ _ h=>h
 have hcl:(AZ dK (hst m++(x ++ [((m.length%128:Nat):Int),(m.length:Int),64]))).length=139:=Ep hM.1.1;refine BQ (AB F rfl fun a F=>AB F rfl fun a F=>Kr F rfl rfl fun a F=>Cm F rfl (VU (cs:=AZ dK (hst m++(x ++ [((m.length%128:Nat):Int),(m.length:Int),64]))) AQp (fun w=>by rw[hcl];exact AKn w) F.e hM1.vals) fun a F=>
  Kr F rfl rfl fun a F=>LP F rfl rfl (QX (cs:=AZ dK (hst m++(x ++ [((m.length%128:Nat):Int),(m.length:Int),64]))) (fun w=>by rw[hcl];exact AKn w) F.e F.e Ip (fun j hj=>N1.ex j (by rw[hcl] at hj;exact hj))) fun a F=>Ae ?_)
 have S2:=Ov hM.1 N1.ex;have g2:CV w (w1.setCells w.heap.size 0 (AZ dK (hst m++(x ++ [((m.length%128:Nat):Int),(m.length:Int),64])))) (fun _ _=>False):=Ck _ _ f1 fun _ _=>.inl (JP _)
 generalize w1.setCells w.heap.size 0 (AZ dK (hst m++(x ++ [((m.length%128:Nat):Int),(m.length:Int),64])))=w2 at S2 g2 ⊢;have D2:=Dg.of_mem (XD m) D.hx.len8 S2;have hgw2:GW GC w2:=Ia hG ε (g2.mono (S':=fun b _=>b=w.heap.size) fun _ _ _ h=>h.elim) δ;have hs2:w.heap.size<w2.heap.size:=(D2.hs).lt;refine BQ (AB F rfl fun a F=>Jr F rfl (Dn rfl F.e Tryz.call110) (ACv hG hgw2 (G9 δ g2.1) δ ⟨x,D2,hxm⟩ hlen) fun e w3 h3=>⟨_,h3.ret,fun a F=>Cm F rfl wD fun a F=>?_⟩);have g3:CV w w3 (fun _ _=>False):=g2.trans' h3.frm fun b _ hb (h:b=w.heap.size)=>by omega
 have N4:=Hq w3 64 .u8 137 ⟨by decide,by decide⟩;have f4:CV w3 (w3.alloc (.cells (Array.replicate 64 (.int .u8 0)) 137)) (fun _ _=>False):=Cs _ _ _;generalize w3.alloc (.cells (Array.replicate 64 (.int .u8 0)) 137)=w4 at N4 f4 ⊢;have g4:=g3.trans f4;have hs3:w.heap.size≤w3.heap.size:=g3.1;have hl8:(v8 (Kn m)).length=64:=by simp[v8,Du]
 refine LP F rfl rfl (QX (cs:=v8 (Kn m)) (fun w=>by rw[hl8];exact AUs w) F.e F.e Vq (fun j hj=>⟨_,(N4.at8 (by omega)).1⟩)) fun a F=>Ae ?_
 have hr8:∀ y∈Kn m,0≤y∧y≤255:=h3.rng;have N5:=XF (r:=0) (ys:=Kn m) N4 hr8 (by rw[Du];omega);have e5:lay (List.replicate 64 0) (Kn m) 0=Kn m:=by
  unfold lay;rw[zcv,zcn,List.drop_of_length_le (by rw[SX,Du];omega),TL]
 rw[e5] at N5;have g5:CV w (w4.setCells w3.heap.size (0+0) (v8 (Kn m))) (fun _ _=>False):=Ck _ _ g4 fun _ _=>.inl hs3
 generalize w4.setCells w3.heap.size (0+0) (v8 (Kn m))=w5 at N5 g5 ⊢;have D5:=D.frm g5 fun _ h=>h
 have I5:=hi.frm g5 fun _ _ h=>h
 refine BQ (AB F rfl fun a F=>AB F rfl fun a F=>Kr F rfl rfl fun a F=>Cm F rfl (ARS F.e) fun a F=>Cm F rfl (bL F.e D5.hs.1) fun a F=>Cm F rfl (ATS F.e F.e) fun a F=>
  Cm F rfl (ASn (m:=64) (ys:=Kn m) F.e F.e (Du m) (by omega) (fun i hi=>by rw[DZ];exact (N5.at8 hi).1.1) (fun i hi=>⟨_,(I5.at8 hi).1⟩)) fun a F=>AR F rfl fun a F=>Ae ?_)
 have N6:=XF (r:=0) (ys:=Kn m) I5 hr8 (by rw[Du];omega);have e6:lay zs (Kn m) 0=Kn m:=by
  unfold lay;rw[zcv,zcn,List.drop_of_length_le (by have:=hi.len8;rw[Du];omega),TL]
 rw[e6] at N6;have g6:CV w (w5.setCells Bi (oi+0) (v8 (Kn m))) (fun b _=>b=Bi):=Ck _ _ (g5.mono fun _ _ _ h=>h.elim) fun _ _=>.inr rfl
 refine Kh ⟨F.df,.slice (some ⟨Bi,oi,none⟩) 64 c,?_,rfl,N6,g6,Ia hG ε g6 hBi⟩;have h4:=F.tm 4;rw[Ti] at h4;simp[results,Tryz.results94,go_sem];exact h4
end
end Go.Proofs.YtloibefkijfdlaaGreatDoor
