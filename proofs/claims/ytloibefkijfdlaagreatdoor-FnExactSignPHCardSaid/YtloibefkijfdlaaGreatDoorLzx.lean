/- The reference's public key of a seed, by hand. -/
import Derived.Test.YtloibefkijfdlaaGreatDoorKz
import Derived.WalkMore
import Derived.Lib.ItoaLen
namespace Go.Proofs.YtloibefkijfdlaaGreatDoor
section
open Go Go.RowKit Go.Lib Ma
def L6:List IntKind:=List.replicate 32 .u8
section
variable{GB:Nat}{GC:Nat→Nat→Option Value}{ad:Nat→Nat×Nat}(hG:Jk GB GC ad){w:World}(ε:GW GC w)(δ:GB≤w.heap.size)
include hG ε δ
omit hG ε δ in
theorem uO{x:List Int}:Ra.raw Rs 0 [x]=sb x 0 32:=by kernel_rfl
theorem bH{b o c:Nat}{x:List Int}(hm:Ar false w (b,o) L6 x)(hc:32≤c):Calls Tryz.prog 38 #[.slice (some ⟨b,o,none⟩) 32 c] w (AgP GC L6 x w):=by
 have:=Oz (F:=fun a=>Aw 32 (Ra.raw Rs 0 a)) (ks:=L6) (args:=[.slice (some ⟨b,o,none⟩) 32 c]) (ins:=[x]) (bs:=[(b,o)]) ε δ (cK hG) rfl rfl ⟨⟨c,rfl,hc,hm,fun h=>(by cases h)⟩,trivial⟩ nS (fun h=>absurd (show false=true from h) (by decide));have hl:x.length=32:=hm.1.1;rw[uO,Xd hl,Au hl] at this;exact this
theorem Yl{x:List Int}(hx:Hf L6 x):Calls Tryz.prog 37 #[.agg (AZ L6 x).toArray] w (AgP GC U8 (Iw.raw I4 0 [x]) w):=by
 have:=Oz (F:=fun a=>Aw 8 (Iw.raw I4 0 a)) (ks:=U8) (args:=[.agg (AZ L6 x).toArray]) (ins:=[x]) (bs:=[(0,0)]) ε δ (Y5 hG) rfl rfl ⟨⟨hx,rfl⟩,trivial⟩ nS (fun h=>absurd (show false=true from h) (by decide));obtain⟨h1,h2⟩:=hx.by8;rw[Au (Oi h1 h2).1.len] at this;exact this
theorem Vd:Calls Tryz.prog 40 #[] w (AgP GC Y7 (EN.raw CU 0 []) w):=by
 have:=Oz (F:=fun a=>Aw 24 (EN.raw CU 0 a)) (ks:=Y7) (args:=[]) (ins:=[]) (bs:=[]) ε δ (Wo hG) rfl rfl trivial trivial (fun h=>absurd (show false=true from h) (by decide));rw[Au OI.len] at this;exact this
theorem XZ{n p:List Int}{P:Pt}{E:Nat}(hn:Hf U8 n)(hp:Hf Y7 p)(h8:N8 n (E:Int))(hP:Pj p P):Calls Tryz.prog 36 #[.agg (AZ U8 n).toArray,.agg (AZ Y7 p).toArray] w (AgP GC Y7 (EG.raw BZ 0 [n,p]) w):=by
 have:=Oz (F:=fun a=>Aw 24 (EG.raw BZ 0 a)) (ks:=Y7) (args:=[.agg (AZ U8 n).toArray,.agg (AZ Y7 p).toArray]) (ins:=[n,p]) (bs:=[(0,0),(0,0)]) ε δ (YI hG) rfl rfl ⟨⟨hn,rfl⟩,⟨hp,rfl⟩,trivial⟩ (eF nS) (fun h=>absurd (show false=true from h) (by decide));rw[Au (UN h8 hP).len] at this;exact this
theorem Yc{p:List Int}{P:Pt}(hp:Hf Y7 p)(hP:Pj p P):Calls Tryz.prog 35 #[.agg (AZ Y7 p).toArray] w (AgP GC L6 (OT P) w):=by
 have:=Oz (F:=fun a=>Aw 32 (Nl.raw H5 0 a)) (ks:=L6) (args:=[.agg (AZ Y7 p).toArray]) (ins:=[p]) (bs:=[(0,0)]) ε δ (Y8 hG) rfl rfl ⟨⟨hp,rfl⟩,trivial⟩ nS (fun h=>absurd (show false=true from h) (by decide));rw[tK hP,Au (Jy P)] at this;exact this
end
section
variable{ρ:Operand→Value}{d:Option Tmp}{x y:Operand}{ty:TypeId}{pos:String}{af:Array Edge}{w:World}{b o:Nat}
theorem mh:(execOp ρ ⟨d,.alloc 48,ty,pos,af,none⟩).run Tryz.prog w= .ok (.value (.pointer (some ⟨w.heap.size,0,none⟩))) (w.alloc (.cells (Array.replicate 32 (.int .u8 0)) 48)):=by
 simp[execOp,go_sem];rfl
end
theorem Vv{GB:Nat}{GC:Nat→Nat→Option Value}{ad:Nat→Nat×Nat}(hG:Jk GB GC ad){w w':World}(ε:GW GC w)(hf:CV w w' (fun _ _=>False))(δ:GB≤w.heap.size):GW GC w':=Ia hG ε (hf.mono (S':=fun b _=>b=w.heap.size) fun _ _ _ h=>h.elim) δ
theorem Zx(x:List Int):((SI x).toNat:Int)=SI x:=by
 have h:=(Oi (Z5 x) (Ua x)).1.bd.1;exact Int.toNat_of_nonneg h
set_option maxRecDepth 100000 in
theorem uB{GB:Nat}{GC:Nat→Nat→Option Value}{ad:Nat→Nat×Nat}(hG:Jk GB GC ad){w:World}{D:Value}{m:List Int}(ε:GW GC w)(δ:GB≤w.heap.size)(hD:JI w D m)(h0:0<m.length)(hlen:m.length<1000000000000):
  Calls Tryz.prog 18 #[D] w (MsP GC (OT (Nf.zm (SI m))) w):=by
 refine enter (args:=[D]) Tryz.func18 rfl (n:=13) rfl fun a F=>?_
 refine BQ (Bv F rfl fun a F=>Ae ?_);refine BQ (AB F rfl fun a F=>Jr F rfl (Dn rfl F.e Tryz.call39) (Xn hG ε δ hD h0 hlen) fun e w1 h1=>?_);obtain⟨v1,he1,m1⟩:=h1.ret;obtain⟨b,o,c,hv1,hc,h8⟩:=m1.has (by rw[Du];omega);rw[Du] at hv1 hc;subst hv1;have g1:=h1.frm;have G1:=G9 δ g1.1;refine⟨_,he1,fun a F=>Cm F rfl (AGC (k:=32) F.e rfl (by omega)) fun a F=>?_⟩;have M1:Ar false w1 (b,o) L6 ((Kn m).take 32):=by
  have:=(h8.memI (Du m)).take (n:=32) (by omega);exact this
 refine Jr F rfl (Dn rfl F.e Tryz.call38) (bH hG h1.gw G1 M1 (by omega)) fun e w2 h2=>⟨_,h2.ret,fun a F=>?_⟩
 have g2:=g1.trans h2.frm;have G2:=G9 δ g2.1;refine Jr F rfl (Dn rfl F.e Tryz.call37) (Yl hG h2.gw G2 h2.rng) fun e w3 h3=>⟨_,h3.ret,fun a F=>?_⟩
 have g3:=g2.trans h3.frm;have G3:=G9 δ g3.1;have hN:N8 (Iw.raw I4 0 [(Kn m).take 32]) (((SI m).toNat:Nat):Int):=by
  rw[Zx];exact (Oi (Z5 m) (Ua m)).1
 refine Jr F rfl (O1 rfl Tryz.call40) (Vd hG h3.gw G3) fun e w4 h4=>⟨_,h4.ret,fun a F=>?_⟩
 have g4:=g3.trans h4.frm;have G4:=G9 δ g4.1;refine Jr F rfl (Cz rfl F.e F.e Tryz.call36) (XZ hG h4.gw G4 h3.rng h4.rng hN OI) fun e w5 h5=>⟨_,h5.ret,fun a F=>?_⟩
 have g5:=g4.trans h5.frm;have G5:=G9 δ g5.1;refine Jr F rfl (Dn rfl F.e Tryz.call35) (Yc hG h5.gw G5 h5.rng (UN hN OI)) fun e w6 h6=>⟨_,h6.ret,fun a F=>?_⟩
 have g6:=g5.trans h6.frm;have hP:Nf.nm (SI m).toNat=Nf.zm (SI m):=by rw[← ADA,Zx]
 have hr6:=h6.rng;have hcl:=Ep h6.rng.1;rw[hP] at hr6 hcl F;clear h1 h2 h3 h4 h5 h6;refine Cm F rfl mh fun a F=>?_
 have M7:=Hq w6 32 .u8 48 ⟨by decide,by decide⟩;have f7:=g6.trans (Cs w6 (.cells (Array.replicate 32 (.int .u8 0)) 48) (fun _ _=>False));generalize w6.alloc (.cells (Array.replicate 32 (.int .u8 0)) 48)=w7 at M7 f7 ⊢;refine LP F rfl rfl (QX (cs:=AZ L6 (OT (Nf.zm (SI m)))) (fun w=>by rw[hcl];simp[go_sem];rfl) F.e F.e Ip (fun j hj=>M7.ex j (by rw[hcl] at hj;exact hj))) fun a F=>Ae ?_
 have M8:=Ov hr6 M7.ex;have f8:=Ck (S:=fun _ _=>False) (b:=w6.heap.size) (AZ L6 (OT (Nf.zm (SI m)))) 0 f7 fun _ _=>.inl g6.1
 generalize w7.setCells w6.heap.size 0 (AZ L6 (OT (Nf.zm (SI m))))=w8 at M8 f8 ⊢;refine BQ (Cm F rfl (bf F.e) fun a F=>AR F rfl fun a F=>Ae ?_);have H8:Fe w8 w6.heap.size 0 (OT (Nf.zm (SI m))):=⟨M8.rng8,fun i hi=>(M8.at8 (by rw[Jy] at hi;exact hi)).1.1⟩;refine Kh ⟨F.df,.slice (some ⟨w6.heap.size,0,none⟩) 32 32,?_,⟨_,rfl,JI.of_has H8 (Jy _) (JP _)⟩,f8,Vv hG ε f8 δ⟩;have h2:=F.tm 2;rw[Ti] at h2;simp[results,Tryz.results18,go_sem];exact h2
end
section
open Go Ma Go.RowKit Go.Lib Go.ChangeShapes Go.WideShapes
def AV5(w:World)(e:Ending)(w':World):Prop:=(∃ t x,e= .returned (.tuple #[.pointer none,.iface t x]))∧Below w.heap.size w w'
set_option maxRecDepth 100000 in
set_option maxHeartbeats 2000000 in
theorem AGg (p:Addr) (a:Option Addr) (n c:Nat) (w:World) (hn:((n:Int) == 32)=false) (hb:(n:Int)≤2147483647) (χ:Lib.TabIs Tryz.prog w "internal/strconv.uint64pow10" .u64 Lib.pow10Tab):
  Calls Tryz.prog 64 #[.pointer (some p),.slice a n c] w (AV5 w):=by
 have mx:=mixed;have hlen:33+(Lib.itoa (n:Int)).length≤9223372036854775807:=by
  have:=Lib.itoa_length_le (n:Int) (by omega) (by omega);omega
 go_enter Tryz.func64,Tryz.ntmps64
 go_wp2_with (first
  |(go_at_call 82;refine (Tryz.strconv_Itoa _ (by omega) (by omega) _ χ).mono ?_;rintro e w' ⟨rfl,k,os,rfl⟩;have hb1:=Sr w k os)
  |go_in)
 go_ret2
 exact⟨⟨_,_,rfl⟩,hb1.alloc hb1.size _⟩
def AET(w:World)(n:Nat)(e:Ending)(w':World):Prop:=∃ a c,e= .returned (.slice a n c)∧Below w.heap.size w w'
theorem AHo{w:World}{v:Value}{xs:List Int}(h:JI w v xs)(hn:xs.length≤140737488355328)(hz:v= .slice none 0 0∨∃ a n c,v= .slice (some a) n c):Calls Tryz.prog 34 #[v] w (AET w xs.length):=by
 refine (JJ h hn hz).mono fun e w' h1=>?_
 obtain⟨v',he,m⟩:=h1.ret;obtain⟨ap,c,hv,-⟩:=m;exact⟨ap,c,by rw[he,hv],PG h1.frm fun _ _ h=>h⟩
section
variable{GB:Nat}{GC:Nat→Nat→Option Value}{ad:Nat→Nat×Nat}(hG:Jk GB GC ad)
include hG
end
end
end Go.Proofs.YtloibefkijfdlaaGreatDoor
