/- What stands ahead of a message that has a context. -/
import Derived.Test.YtloibefkijfdlaaGreatDoorVsa
import Derived.Lib.AppendStr
import Derived.Lib.SlBytesConst
namespace Go.Proofs.YtloibefkijfdlaaGreatDoor
section
open Go Go.RowKit Go.Lib Ma
def pfL:List UInt8:=[83,105,103,69,100,50,53,53,49,57,32,110,111,32,69,100,50,53,53,49,57,32,99,111,108,108,105,115,105,111,110,115]
def L7(k:UInt8):ByteArray:=⟨#[83,105,103,69,100,50,53,53,49,57,32,110,111,32,69,100,50,53,53,49,57,32,99,111,108,108,105,115,105,111,110,115,k]⟩
def pfI:List Int:=pfL.map λb=>(b.toNat:Int)
def RF(k:UInt8)(c:ByteArray):List Int:=pfI ++ [(k.toNat:Int),IntKind.u8.wrap (c.size:Int)]++Ue c
theorem vF(k:UInt8)(c:ByteArray)(h:((L7 k).toList == ([]:List UInt8))=false):Jg (L7 k) c=RF k c:=by
 unfold Jg RF;rw[if_neg (by rw[h];decide)];have e:Ue (L7 k)=pfI ++ [(k.toNat:Int)]:=rfl;rw[e,yN];simp only[bU,zct,yN]
theorem AC2(c:ByteArray):Jg (L7 0) c=RF 0 c:=vF 0 c (by decide +kernel)
end
section
open Go Ma Go.RowKit Go.Lib
structure SnE (GC:Nat->Nat->Option Value) (l:List Int) (w:World) (e:Ending) (w':World):Prop where
 ret:∃B,e= .returned (.tuple #[.slice (some ⟨B,0,none⟩) 64 64,.nilIface])/\AQ true w' (B,0) (List.replicate 64 .u8) l
 an:BM w w' (λ_ _=>False)
 gw:GW GC w'
structure SgE (GC:Nat->Nat->Option Value) (bs os c:Nat) (l:List Int) (w:World) (e:Ending) (w':World):Prop where
 ret:e= .returned (.tuple #[.slice (some ⟨bs,os,none⟩) 64 c,.nilIface])
 mem:AQ true w' (bs,os) (List.replicate 64 .u8) l
 an:BM w w' (λb _=>b=bs)
 gw:GW GC w'
section
variable{GB:Nat}{GC:Nat->Nat->Option Value}{ad:Nat->Nat×Nat}(hG:Gw GB GC ad){w:World}(ε:GW GC w)(δ:GB<=w.heap.size)
include hG ε δ
set_option maxRecDepth 100000 in
theorem AGP{bs os cs bp op:Nat}{sg pk msg:List Int}{vm:Value}{c:ByteArray}(HC:AQ true w (bs,os) (List.replicate 64 .u8) sg)(ij:GB<=bs)(cS:64<=cs)(tj:AQ false w (bp,op) We pk)(cq:bs≠bp)(hm:IX w vm msg)(gr:msg.length<1099511627776)(hc:c.size<=255):
  Calls Tryz.prog 72 #[.slice (some ⟨bs,os,none⟩) 64 cs,.pointer (some ⟨bp,op,none⟩),vm,.string c] w (SgE GC bs os cs (XZ (RF 0 c) pk msg) w):=by
 have hb:decide ((255:Int)<(c.size:Int))=false:=decide_eq_false (by omega);refine enter (args:=[.slice (some ⟨bs,os,none⟩) 64 cs,.pointer (some ⟨bp,op,none⟩),vm,.string c]) Tryz.func72 rfl (n:=24) rfl λa F=>?_
 refine AO (AX F rfl λa F=>AX F rfl λa F=>AJ ?_);refine wp_seq (AO (AA F rfl λa F=>AZ F rfl (UC F.e) λa F=>AB F rfl λa F=>AJ ?_));refine AO (AA F rfl λa F=>AZ F rfl (V3 F.e rfl) λa F=>AJ ?_);refine wp_cond (t:=false) (F.ev (EH Value.bool hb)) (wp_skip ?_);have h0:=bf (p:=L7 0) (c:=c) hG ε δ HC ij cS tj cq hm gr (by decide) (by omega);rw[AC2] at h0;refine AO (AA F rfl λa F=>AA F rfl λa F=>AA F rfl λa F=>AA F rfl λa F=>DI F rfl (TL rfl F.e F.e F.e rfl F.e Tryz.call91) h0 λe w2 h2=>⟨_,h2.ret,λa F=>AB F rfl λa F=>AX F rfl λa F=>AJ ?_⟩);refine DC ⟨F.df,.tuple #[.slice (some ⟨bs,os,none⟩) 64 cs,.nilIface],?_,rfl,h2.mem,h2.an,h2.gw⟩;have q4:=F.tm 8;have q5:=F.tm 9;rw[Ti] at q4 q5;simp[results,Tryz.results72,go_sem];exact⟨q4,q5⟩
set_option maxRecDepth 100000 in
theorem ABr{bp op:Nat}{pk msg:List Int}{vm:Value}{c:ByteArray}(tj:AQ false w (bp,op) We pk)(hm:IX w vm msg)(gr:msg.length<1099511627776)(hc:c.size<=255):Calls Tryz.prog 47 #[.pointer (some ⟨bp,op,none⟩),vm,.string c] w (SnE GC (XZ (RF 0 c) pk msg) w):=by
 have aai:bp<w.heap.size:=(tj.2 0 .u8 _ (by decide) (JC (by rw[tj.1.1];decide))).lt;refine enter (args:=[.pointer (some ⟨bp,op,none⟩),vm,.string c]) Tryz.func47 rfl (n:=17) rfl λa F=>?_
 refine AO (AX F rfl λa F=>AX F rfl λa F=>AJ ?_);refine AO (AZ F rfl (mh rfl rfl) λa F=>AB F rfl λa F=>AJ ?_);have N1:=Ey w 64 .u8 5 ⟨by decide,by decide⟩;have f1:BM w (w.alloc (.cells (Array.replicate 64 (.int .u8 0)) 5)) (λ_ _=>False):=BI _ _ _;generalize w.alloc (.cells (Array.replicate 64 (.int .u8 0)) 5)=w1 at N1 f1 ⊢;have mL:=AGP (c:=c) hG (LF hG ε f1) (z8 δ f1.1) N1 δ (KA 64) (tj.an f1 λ_ _ h=>h) (by omega) (hm.bc f1) gr hc;refine AO (AA F rfl λa F=>AA F rfl λa F=>AA F rfl λa F=>AA F rfl λa F=>DI F rfl (QF rfl F.e F.e F.e F.e Tryz.call72) mL λe w2 h2=>⟨_,h2.ret,λa F=>AZ F rfl (EZ F.e) λa F=>AZ F rfl (DW F.e) λa F=>AB F rfl λa F=>AB F rfl λa F=>AJ ?_⟩);refine DC ⟨F.df,.tuple #[.slice (some ⟨w.heap.size,0,none⟩) 64 64,.nilIface],?_,⟨_,rfl,h2.mem⟩,f1.trans' h2.an λb i hb (h:b=w.heap.size)=>by omega,h2.gw⟩;have q4:=F.tm 6;have q5:=F.tm 7;rw[Ti] at q4 q5;simp[results,Tryz.results47,go_sem];exact⟨q4,q5⟩
set_option maxRecDepth 100000 in
theorem AFW{v vm:Value}{x msg:List Int}{c:ByteArray}(hx:IX w v x)(hl:x.length=32)(hm:IX w vm msg)(gr:msg.length<1099511627776)(hz:vm= .slice none 0 0\/∃a n c,vm= .slice (some a) n c)(hc:c.size<=255):Calls Tryz.prog 23 #[v,vm,.string c] w (SoP GC (XZ (RF 0 c) (WO x) msg) w):=by
 obtain⟨b,o,c',rfl,i6,h8⟩:=hx.has (by omega);refine enter (args:=[.slice (some ⟨b,o,none⟩) x.length c',vm,.string c]) Tryz.func23 rfl (n:=31) rfl λa F=>?_
 refine AO (AX F rfl λa F=>AX F rfl λa F=>AJ ?_);refine AO (AA F rfl λa F=>DI F rfl (Ar rfl F.e Tryz.call34) (Fu hx (by omega) (.inr ⟨_,_,_,rfl⟩)) λe w1 h1=>?_);obtain⟨v1,Nx,m1⟩:=h1.ret;have g1:=h1.an;obtain⟨b1,o1,c1,rfl,tS,h81⟩:=m1.has (by omega);refine⟨_,Nx,λa F=>DI F rfl (Ar rfl F.e Tryz.call33) (by rw[hl];exact fF hG (LF hG ε g1) (z8 δ g1.1) h81 hl (by omega)) λe w2 h2=>?_⟩;obtain⟨B,o2,Fo,hB,M2⟩:=h2.ret;have g2:=g1.trans h2.an;refine⟨_,Fo,λa F=>AA F rfl λa F=>AZ F rfl (EZ F.e) λa F=>AZ F rfl (DW F.e) λa F=>AB F rfl λa F=>AB F rfl λa F=>AJ ?_⟩;refine wp_seq (AO (AA F rfl λa F=>AZ F rfl (Pm F.e rfl) λa F=>AJ (wp_cond_false F.e (wp_skip ?_))));show Code.wp _ _ _ _ _;refine AO (AA F rfl λa F=>AA F rfl λa F=>DI F rfl (Ar rfl F.e Tryz.call34) (Fu (hm.bc g2) (by omega) hz) λe w3 h3=>?_);obtain⟨v3,ON,m3⟩:=h3.ret;have g3:=g2.trans h3.an;refine⟨_,ON,λa F=>AA F rfl λa F=>DI F rfl (Ea rfl F.e F.e F.e Tryz.call47) (ABr hG (LF hG ε g3) (z8 δ g3.1) ((show AQ false w2 (B,o2) We _ from⟨M2.1,λi k x a b=>(M2.2 i k x a b).gO⟩).an h3.an λ_ _ h=>h) m3 gr hc) λe w4 h4=>?_⟩;obtain⟨B4,he4,m4⟩:=h4.ret;have g4:=g3.trans h4.an;refine⟨_,he4,λa F=>AA F rfl λa F=>AZ F rfl (EZ F.e) λa F=>AZ F rfl (DW F.e) λa F=>AB F rfl λa F=>AB F rfl λa F=>AJ ?_⟩;refine wp_seq (AO (AA F rfl λa F=>AZ F rfl (Pm F.e rfl) λa F=>AJ (wp_cond_false F.e (wp_skip ?_))));show Code.wp _ _ _ _ _;refine AO (AA F rfl λa F=>DI F rfl (Ar rfl F.e Tryz.call34) (Q9 (C8.cV m4) m4.len8 (by omega)) λe w5 h5=>?_);obtain⟨v5,he5,m5⟩:=h5.ret;have g5:=g4.trans h5.an;refine⟨_,he5,λa F=>AB F rfl λa F=>AX F rfl λa F=>AJ ?_⟩;refine DC ⟨F.df,.tuple #[v5,.bool true],?_,⟨v5,rfl,m5⟩,m4.len8,g5,LF hG ε g5⟩;have q4:=F.tm 6;have q5:=F.tm 7;rw[Ti] at q4 q5;simp[results,Tryz.results23,go_sem];exact⟨q4,q5⟩
end
end
section
open Go Ma Go.RowKit Go.Lib
def YW(l:List Int):Prop:=l.length=32/\∃x,LB dE x (yB l)
structure NaP (GC:Nat->Nat->Option Value) (l:List Int) (w:World) (e:Ending) (w':World):Prop where
 ex:(∃h:YW l,∃B m,e= .returned (.tuple #[pp B,.nilIface])/\w.heap.size<=B/\AQ true w' (B,0) (KU 20) m/\R3 (lX l h.2) m/\AQ true w' (B,20) (List.replicate 32 .u8) l)\/(¬YW l/\∃t v,e= .returned (.tuple #[.pointer none,.iface t v]))
 an:BM w w' (λ_ _=>False)
 gw:GW GC w'
section
variable{ρ:Operand->Value}{d:Option Tmp}{x y z:Operand}{ty t t':TypeId}{pos:String}{af:Array Edge}{w:World}
theorem AAS(h:ρ x= .nilIface)(hy:ρ (.const .nilIface)= .nilIface):(execOp ρ ⟨d,.binOp .eql 45 x (.const .nilIface) 45,ty,pos,af,none⟩).run Tryz.prog w= .ok (.value (.bool true)) w:=by
 simp[execOp,go_sem,h,hy]
theorem qU{t:TypeId}{v:Value}(h:ρ x= .iface t v)(hy:ρ (.const .nilIface)= .nilIface):(execOp ρ ⟨d,.binOp .eql 45 x (.const .nilIface) 45,ty,pos,af,none⟩).run Tryz.prog w= .ok (.value (.bool false)) w:=by
 simp[execOp,go_sem,h,hy]
end
theorem JX{P:Program}{w w':World}{name:String}{k:IntKind}{zs:List Int}(h:Lib.TabIs P w name k zs)(hf:BM w w' (λ_ _=>False)):Lib.TabIs P w' name k zs:=aH h (Pf hf λ_ _ h=>h.elim)
section
variable {GB:Nat} {GC:Nat->Nat->Option Value} {ad:Nat->Nat×Nat} (hG:Gw GB GC ad) {w:World} (ε:GW GC w) (δ:GB<=w.heap.size) (η:Lib.TabIs Tryz.prog w "internal/strconv.uint64pow10" .u64 Lib.pow10Tab)
include hG ε δ η
theorem nX{v:Value}{l:List Int}(hm:IX w v l)(hl:l.length<=4294967295):Calls Tryz.prog 50 #[v] w (NaP GC l w):=by
 by_cases h:l.length=32
 ·obtain⟨b,o,c,rfl,hc,hx⟩:=hm.has (by omega);rw[h] at hc ⊢;refine(ALe hG ε δ hx h hc).mono λe w' hp=>⟨?_,hp.an,hp.gw⟩
  rcases hp.ex with⟨hy,B,m,h1⟩|⟨hn,h1⟩
  ·exact .inl ⟨⟨h,hy⟩,B,m,h1⟩
  ·exact .inr ⟨λq=>hn q.2,h1⟩
 ·obtain⟨ap,c,rfl,-, -, -⟩:=hm;have hn:((l.length:Int) != 32)=true:=by simpa using λe:(l.length:Int)=32=>h (by omega)
  exact(AJn hG ε δ hn (by omega) η).mono λe w' hp=>⟨.inr ⟨λq=>h q.1,hp.ret⟩,hp.an,hp.gw⟩
variable(hS:C8 w 5 0 R9){B:Nat}{xA lP sg msg:List Int}{A:Pt}{vm vs:Value}{c:ByteArray}(mA:AQ true w (B,0) (KU 20) xA)(hA:R3 A xA)(mP:AQ true w (B,20) (List.replicate 32 .u8) lP)(hm:IX w vm msg)(gr:msg.length<1099511627776)(hs:IX w vs sg)(tE:sg.length<=4294967295)
include hS mA hA mP hm gr hs tE
theorem mD{p:ByteArray}(C2:p.size<1099511627776)(kj:c.size<1099511627776):Calls Tryz.prog 83 #[pp B,vm,vs,.string p,.string c] w (VfP GC (kz (Jg p c) lP A msg sg) w):=by
 by_cases h:sg.length=64
 ·obtain⟨b,o,cs,rfl,hc,hx⟩:=hs.has (by omega);rw[h] at hc ⊢;exact AKX hG ε δ hS mA hA mP hm gr C2 kj hx h hc
 ·obtain⟨ap,cs,rfl,-, -, -⟩:=hs;have hn:((sg.length:Int) != 64)=true:=by simpa using λe:(sg.length:Int)=64=>h (by omega)
  exact(AMW hG ε δ hn (by omega) η).mono λe w' hp=>⟨.inr ⟨λq=>h q.1,hp.ret⟩,hp.an,hp.gw⟩
set_option maxRecDepth 100000 in
theorem AEq(kj:c.size<=4294967295):Calls Tryz.prog 58 #[pp B,vm,vs,.string c] w (VfP GC (c.size<=255/\kz (RF 0 c) lP A msg sg) w):=by
 refine enter (args:=[pp B,vm,vs,.string c]) Tryz.func58 rfl (n:=23) rfl λa F=>?_
 refine AO (AX F rfl λa F=>AJ ?_);refine wp_seq (AO (AA F rfl λa F=>AZ F rfl (UC F.e) λa F=>AB F rfl λa F=>AJ ?_));refine AO (AA F rfl λa F=>AZ F rfl (V3 F.e rfl) λa F=>AJ ?_);by_cases hc:c.size<=255
 ·have hb:decide ((255:Int)<(c.size:Int))=false:=decide_eq_false (by omega);refine wp_cond (t:=false) (F.ev (EH Value.bool hb)) (wp_skip ?_);have h0:=mD hG ε δ η hS mA hA mP hm gr hs tE (p:=L7 0) (c:=c) (by decide) (by omega);rw[AC2] at h0;refine AO (AA F rfl λa F=>AA F rfl λa F=>AA F rfl λa F=>AA F rfl λa F=>DI F rfl (TL rfl F.e F.e F.e rfl F.e Tryz.call83) h0 λe w2 h2=>?_);rcases h2.ex with⟨hV,he⟩|⟨hV,t,x,he⟩
  ·refine⟨_,he,λa F=>AB F rfl λa F=>AJ ?_⟩;refine DC ⟨F.df,.nilIface,?_,.inl ⟨⟨hc,hV⟩,rfl⟩,h2.an,h2.gw⟩;simp[results,Tryz.results58,go_sem];exact F.gd rfl
  ·refine⟨_,he,λa F=>AB F rfl λa F=>AJ ?_⟩;refine DC ⟨F.df,.iface t x,?_,.inr ⟨λq=>hV q.2,t,x,rfl⟩,h2.an,h2.gw⟩;simp[results,Tryz.results58,go_sem];exact F.gd rfl
 ·have hb:decide ((255:Int)<(c.size:Int))=true:=decide_eq_true (by omega);refine wp_cond (t:=true) (F.ev (EH Value.bool hb)) ?_;refine AO (AA F rfl λa F=>DI F rfl (Ar rfl F.e Tryz.call82) (SY hG ε δ (by omega) (by omega) η) λe w1 h1=>?_);obtain⟨s,he,eA⟩:=h1.ret;refine⟨_,he,λa F=>AZ F rfl (Yf rfl F.e (jw (MQ rfl) eA)) λa F=>?_⟩;refine DI F rfl (Ar rfl F.e Tryz.call81) (NU hG h1.gw (z8 δ h1.an.1) _) λe w2 h2=>?_
  obtain⟨t,v,he⟩:=h2.ret;refine⟨_,he,λa F=>AB F rfl λa F=>AJ ?_⟩;refine DC ⟨F.df,.iface t v,?_,.inr ⟨λq=>hc q.1,t,v,rfl⟩,h1.an.trans h2.an,h2.gw⟩;simp[results,Tryz.results58,go_sem];exact F.gd rfl
end
end
section
open Go Ma Go.RowKit Go.Lib
structure IvP (GC:Nat->Nat->Option Value) (l:List Int) (V:YW l->Prop) (w:World) (e:Ending) (w':World):Prop where
 ex:(∃h:YW l,∃b:Bool,e= .returned (.tuple #[.bool b,.bool true])/\(b=true↔V h))\/(¬YW l/\e= .returned (.tuple #[.bool false,.bool false]))
 an:BM w w' (λ_ _=>False)
 gw:GW GC w'
def Zp(v:Value):Prop:=v= .slice none 0 0\/∃a n c,v= .slice (some a) n c
section
variable {GB:Nat} {GC:Nat->Nat->Option Value} {ad:Nat->Nat×Nat} (hG:Gw GB GC ad) {w:World} (ε:GW GC w) (δ:GB<=w.heap.size) (η:Lib.TabIs Tryz.prog w "internal/strconv.uint64pow10" .u64 Lib.pow10Tab)
variable(hS:C8 w 5 0 R9){lP sg msg:List Int}{vp vm vs:Value}{c:ByteArray}(hp:IX w vp lP)(C2:lP.length<=4294967295)(zp:Zp vp)(hm:IX w vm msg)(gr:msg.length<=4294967295)(zm:Zp vm)(hs:IX w vs sg)(tE:sg.length<=4294967295)(zs:Zp vs)
include hG ε δ η hS hp C2 zp hm gr zm hs tE zs
set_option maxRecDepth 100000 in
theorem AHN(kj:c.size<=4294967295):Calls Tryz.prog 29 #[vp,vm,vs,.string c] w (IvP GC lP (λh=>c.size<=255/\kz (RF 0 c) lP (lX lP h.2) msg sg) w):=by
 refine enter (args:=[vp,vm,vs,.string c]) Tryz.func29 rfl (n:=28) rfl λa F=>?_
 refine AO (AX F rfl λa F=>AX F rfl λa F=>AJ ?_);refine AO (AA F rfl λa F=>DI F rfl (Ar rfl F.e Tryz.call34) (Fu hp (by omega) zp) λe w1 h1=>?_);obtain⟨v1,he,ta⟩:=h1.ret;refine⟨_,he,λa F=>?_⟩;have f1:=h1.an;refine DI F rfl (Ar rfl F.e Tryz.call50) (nX hG (Jk hG ε f1 δ) (z8 δ f1.1) (JX η f1) ta C2) λe w2 h2=>?_
 have f2:=f1.trans h2.an;rcases h2.ex with⟨hy,B,m,he,hB,mB,hR,mP⟩|⟨hn,t,x,he⟩
 ·refine⟨_,he,λa F=>AA F rfl λa F=>AZ F rfl (EZ F.e) λa F=>AZ F rfl (DW F.e) λa F=>AB F rfl λa F=>AB F rfl λa F=>AJ ?_⟩;refine wp_seq (AO (AA F rfl λa F=>AZ F rfl (Pm F.e rfl) λa F=>AJ (wp_cond_false F.e (wp_skip ?_))));show Code.wp _ _ _ _ _;obtain⟨f,F,e1,e2,e3,e8⟩:∃f,Fr a 28 f/\f 1=vm/\f 2=vs/\f 3= .string c/\f 10=pp B:=⟨_,F,rfl,rfl,rfl,rfl⟩;refine AO (AA F rfl λa F=>AA F rfl λa F=>DI F rfl (Ar rfl (F.ev (t:=21) e1) Tryz.call34) (Fu (hm.bc f2) (by omega) zm) λe w3 h3=>?_);obtain⟨v3,he,hm3⟩:=h3.ret;refine⟨_,he,λa F=>?_⟩;have f3:=f2.trans h3.an;refine AA F rfl λa F=>DI F rfl (Ar rfl (F.ev (t:=23) e2) Tryz.call34) (Fu (hs.bc f3) (by omega) zs) λe w4 h4=>?_
  obtain⟨v4,he,hm4⟩:=h4.ret;refine⟨_,he,λa F=>?_⟩;have f4:=f3.trans h4.an;have f24:=h3.an.trans h4.an;refine AA F rfl λa F=>?_
  refine DI F rfl (QF rfl (F.ev (t:=20) e8) (F.ev (t:=22) rfl) (F.ev (t:=24) rfl) (F.ev (t:=25) e3) Tryz.call58) (AEq hG (Jk hG ε f4 δ) (z8 δ f4.1) (JX η f4) (hS.bc f4) (mB.fn f24) hR (mP.fn f24) (hm3.bc h4.an) (by omega) hm4 tE kj) λe w5 h5=>?_
  have f5:=f4.trans h5.an;rcases h5.ex with⟨hV,he⟩|⟨hV,t,x,he⟩
  ·refine⟨_,he,λa F=>AZ F rfl (AAS F.e rfl) λa F=>AB F rfl λa F=>AX F rfl λa F=>AJ ?_⟩;refine DC ⟨F.df,.tuple #[.bool true,.bool true],?_,.inl ⟨hy,true,rfl,λ_=>hV,λ_=>rfl⟩,f5,h5.gw⟩;simp[results,Tryz.results29,go_sem];exact⟨F.gd rfl,F.gd rfl⟩
  ·refine⟨_,he,λa F=>AZ F rfl (qU F.e rfl) λa F=>AB F rfl λa F=>AX F rfl λa F=>AJ ?_⟩;refine DC ⟨F.df,.tuple #[.bool false,.bool true],?_,.inl ⟨hy,false,rfl,λh=>(by cases h),λh=>absurd h hV⟩,f5,h5.gw⟩;simp[results,Tryz.results29,go_sem];exact⟨F.gd rfl,F.gd rfl⟩
 ·refine⟨_,he,λa F=>AA F rfl λa F=>AZ F rfl (EZ F.e) λa F=>AZ F rfl (DW F.e) λa F=>AB F rfl λa F=>AB F rfl λa F=>AJ ?_⟩;refine wp_seq (AO (AA F rfl λa F=>AZ F rfl (YA F.e rfl) λa F=>AJ ?_));refine wp_cond (t:=true) F.e ?_;refine AO (AX F rfl λa F=>AX F rfl λa F=>AJ ?_);refine DC ⟨F.df,.tuple #[.bool false,.bool false],?_,.inr ⟨hn,rfl⟩,f2,h2.gw⟩;simp[results,Tryz.results29,go_sem];exact⟨F.gd rfl,F.gd rfl⟩
end
end
section
open Go Ma Go.RowKit Go.Lib
theorem AEX{x:Fp}(h:x.val%2=1):(-x).val%2=0:=by
 have h1:=x.isLt;have e:(-x).val=(PP-x.val)%PP:=rfl;rw[e,Nat.mod_eq_of_lt (a:=PP-x.val) (b:=PP) (by omega)];have hp:PP%2=1:=by decide +kernel
 omega
theorem AMm{x y:Fp}{P:Pt}(h:LB dE x y)(hx:x=P.x)(hy:y=P.y):(⟨x,y,h⟩:Pt)=P:=Pt.ext' hx hy
theorem AKn{x y:Fp}{P:Pt}(h:LB dE x y)(hx: -x=P.x)(hy:y=P.y):Pt.neg ⟨x,y,h⟩=P:=Pt.ext' hx hy
theorem ARK{o:List Int}(h:o.length=32):sb o 0 31 ++ [o.getD 31 0]=o:=by
 match o,h with
 | [b0,b1,b2,b3,b4,b5,b6,b7,b8,b9,Ξ,Ψ,υ,τ,b14,b15,b16,b17,Ω,ψ,b20,b21,b22,b23,Δ,Γ,Θ,b27,b28,b29,b30,χ],_=>rfl
theorem AQu{o:List Int}{z:Int}:(sb o 0 31 ++ [z]).take 31=sb o 0 31/\(sb o 0 31 ++ [z]).getD 31 0=z:=by
 have hs:(sb o 0 31).length=31:=PD _ _ _;constructor
 ·rw[List.take_append_of_le_length (by omega),N3 (by omega)]
 ·simp[List.getD,hs]
theorem wK(P:Pt):yB (JD P)=P.y/\(128<=(JD P).getD 31 0↔P.x.val%2=1):=by
 have hl:=EN P;have h8:=AAe P;obtain⟨hi,lo⟩:=AHT P.y;have ho:(ck 32 P.y.val).length=32:=Je _ _;have hv:Ct (ck 32 P.y.val)=(P.y.val:Int):=by
  rw[Qv,Nat.mod_eq_of_lt];exact iH P.y.isLt (by decide +kernel)
 by_cases h:P.x.val%2=1
 ·have e:JD P=sb (ck 32 P.y.val) 0 31 ++ [(ck 32 P.y.val).getD 31 0+128]:=by
   unfold JD;rw[if_pos h]
  obtain⟨c1,c2⟩:=AQu (o:=ck 32 P.y.val) (z:=(ck 32 P.y.val).getD 31 0+128);have el:elB (JD P)=ck 32 P.y.val:=by
   rw[qL hl h8,e,c1,c2];have em:((ck 32 P.y.val).getD 31 0+128)%128=(ck 32 P.y.val).getD 31 0:=by omega
   rw[em,ARK ho]
  refine⟨?_,?_⟩
  ·unfold yB;rw[el,hv,AIO]
  ·rw[e,c2];exact⟨λ_=>h,λ_=>by omega⟩
 ·have e:JD P=ck 32 P.y.val:=by
   unfold JD;rw[if_neg h]
  refine⟨?_,?_⟩
  ·unfold yB;rw[ALz hl h8 (by rw[e];exact hi),e,hv,AIO]
  ·rw[e];exact⟨λh2=>by omega,λh2=>absurd h2 h⟩
theorem ACA(P:Pt):∃x,LB dE x (yB (JD P)):=⟨P.x,by rw[(wK P).1];exact P.h⟩
theorem Yx(P:Pt):YW (JD P):=⟨EN P,ACA P⟩
theorem Vx(P:Pt)(h:∃x,LB dE x (yB (JD P))):lX (JD P) h=P:=by
 obtain⟨hy,hb⟩:=wK P;unfold lX;split
 ·rename_i h1;refine AKn _ ?_ hy;have hn:LB dE (-P.x) P.y:=P.neg.h;rw[hy,oh hn (AEX (hb.1 h1))];grind
 ·rename_i h1;refine AMm _ ?_ hy;rw[hy];exact oh P.h (by
   have:¬P.x.val%2=1:=λh=>h1 (hb.2 h)
   omega)
theorem Z7(d x m:List Int):(Pd d x m).take 32=xQ d x m:=by
 unfold Pd;have h:(xQ d x m).length=32:=EN _;rw[List.take_append_of_le_length (by omega),N3 (by omega)]
theorem Wo(d x m:List Int):(Pd d x m).drop 32=ck 32 (LS d x m):=by
 unfold Pd;have h:(xQ d x m).length=32:=EN _;rw[List.drop_append_of_le_length (by omega),List.drop_of_length_le (by omega),yN]
theorem fK(d x m:List Int):((LS d x m:Nat):Int)<Qm:=by
 rw[ou];exact Int.emod_lt_of_pos _ (by decide +kernel)
theorem gN(d x m:List Int):Ct (ck 32 (LS d x m))=((LS d x m:Nat):Int):=by
 rw[Qv,Nat.mod_eq_of_lt];have h:=fK d x m;have h2:Qm<((256^32:Nat):Int):=by decide +kernel
 exact xN.1 (Int.lt_trans h h2)
theorem AG7{a:Int}{k S R:Nat}(h:((S:Nat):Int)=((k:Int)*a+(R:Int))%Qm):((JS.zm a).neg.zm (k:Nat)).add (JS.zm (S:Nat))=JS.zm (R:Nat):=by
 rw[<- Pt.lj, <- Pt.ph, <- Pt.fW];refine ug ?_;rw[<- gI];have e:=Int.emod_add_mul_ediv ((k:Int)*a+(R:Int)) Qm;rw[<- h] at e;refine⟨-(((k:Int)*a+(R:Int))/Qm),?_⟩;rw[Int.mul_neg,Int.neg_mul,Xg a];generalize (k:Int)*a=u at *
 generalize Qm*((u+(R:Int))/Qm)=t at *
 omega
theorem Uu(d x m:List Int)(h:YW (JD (JS.zm (WN x)))):kz d (JD (JS.zm (WN x))) (lX (JD (JS.zm (WN x))) h.2) m (Pd d x m):=by
 rw[Vx];refine⟨Pv d x m,?_,?_⟩
 ·rw[Wo,gN];exact fK d x m
 ·rw[Z7,Wo,gN];have hk:vK d (xQ d x m) (JD (JS.zm (WN x))) m=rfK d x m:=rfl;rw[hk,SN,AG7 (ou d x m),AAm];rfl
end
section
open Go Ma Go.RowKit Go.Lib
section
variable {GB:Nat} {GC:Nat->Nat->Option Value} {ad:Nat->Nat×Nat} (hG:Gw GB GC ad) {w:World} (ε:GW GC w) (δ:GB<=w.heap.size) (η:Lib.TabIs Tryz.prog w "internal/strconv.uint64pow10" .u64 Lib.pow10Tab)
variable(hS:C8 w 5 0 R9){P:Pt}{sg msg:List Int}{vp vm vs:Value}(hp:IX w vp (JD P))(zp:Zp vp)(hm:IX w vm msg)(gr:msg.length<=4294967295)(zm:Zp vm)(hs:IX w vs sg)(tE:sg.length<=4294967295)(zs:Zp vs)
include hG ε δ η hS hp zp hm gr zm hs tE zs
end
theorem Qf{w:World}{v:Value}{xs:List Int}(h:IX w v xs)(h0:0<xs.length):Zp v:=by
 obtain⟨b,o,c,hv,-, -⟩:=h.has h0;exact .inr ⟨_,_,_,hv⟩
section
variable{ρ:Operand->Value}{d:Option Tmp}{x y z:Operand}{ty t t':TypeId}{pos:String}{af:Array Edge}{w:World}{gd:Option (Nat×Bool)}
theorem Jb{p:Option Addr}{m c:Nat}(h:ρ x= .slice p m c):(execOp ρ ⟨d,.call ⟨.builtin .len,#[x],#[22]⟩,ty,pos,af,gd⟩).run Tryz.prog w= .ok (.value (.int .i64 m)) w:=by
 simp[go_sem,h]
theorem KQ{i j:Int}(h:ρ x= .int .i64 i)(hy:ρ y= .int .i64 j):(execOp ρ ⟨d,.binOp .gtr 3 x y 3,ty,pos,af,gd⟩).run Tryz.prog w= .ok (.value (.bool (decide (j<i)))) w:=by
 simp[execOp,go_sem,h,hy]
theorem WS{i j:Int}(h:ρ x= .int .i64 i)(hy:ρ y= .int .i64 j):(execOp ρ ⟨d,.binOp .neq 3 x y 3,ty,pos,af,gd⟩).run Tryz.prog w= .ok (.value (.bool (i != j))) w:=by
 simp[execOp,go_sem,h,hy]
theorem ADO{i j:Int}(h:ρ x= .int .i64 i)(hy:ρ y= .int .i64 j):(execOp ρ ⟨d,.binOp .eql 3 x y 3,ty,pos,af,gd⟩).run Tryz.prog w= .ok (.value (.bool (i == j))) w:=by
 simp[execOp,go_sem,h,hy]
theorem Uq{s:ByteArray}(h:ρ x= .string s):(execOp ρ ⟨d,.call ⟨.builtin .len,#[x],#[9]⟩,ty,pos,af,gd⟩).run Tryz.prog w= .ok (.value (.int .i64 s.size)) w:=by
 simp[go_sem,h]
end
end
section
open Go Ma Go.RowKit Go.Lib Go.ChangeShapes Go.WideShapes
set_option maxRecDepth 100000 in
theorem ACE{a a':Option Addr}{n c n' c':Nat}{s:ByteArray}{w:World}(h:(n:Int)≠32\/1048576<(n':Int)\/(s.size:Int)=0\/255<(s.size:Int)):Calls Tryz.prog 15 #[.slice a n c,.slice a' n' c',.string s] w (Q3 w):=by
 rcases h with _h|_h|_h|_h
 all_goals
  go_enter Tryz.func15,Tryz.ntmps15
  go_wp2
  all_goals go_ret
  all_goals exact⟨rfl,Below.refl _ _⟩
section
variable{GB:Nat}{GC:Nat->Nat->Option Value}{ad:Nat->Nat×Nat}(hG:Gw GB GC ad)
include hG
set_option maxRecDepth 100000 in
theorem APM {w:World} {b0 o0 c0:Nat} {a':Option Addr} {n' c':Nat} {x m:List Int} {s:ByteArray} (ε:GW GC w) (δ:GB<=w.heap.size) (η:Lib.TabIs Tryz.prog w "internal/strconv.uint64pow10" .u64 Lib.pow10Tab) (hS:C8 w 5 0 R9) (kB:C8 w b0 o0 x) (hl:x.length=32) (CA:32<=c0) (hm:IX w (.slice a' n' c') m) (gr:m.length=n') (hz:Zp (.slice a' n' c')) (hn:(n':Int)<=1048576) (h1:((s.size:Int) == 0)=false) (h2:s.size<=255):
  Calls Tryz.prog 15 #[.slice (some ⟨b0,o0,none⟩) 32 c0,.slice a' n' c',.string s] w (Q3 w):=by
 have hx:IX w (.slice (some ⟨b0,o0,none⟩) 32 c0) x:=IX.cR kB hl CA;have k1:decide ((2147483647:Int)<((n':Nat):Int))=false:=decide_eq_false (by omega);have k2:decide ((2147483647:Int)<((s.size:Nat):Int))=false:=decide_eq_false (by omega);have k3:decide ((1048576:Int)<((n':Nat):Int))=false:=decide_eq_false (by omega);have k4:decide ((255:Int)<((s.size:Nat):Int))=false:=decide_eq_false (by omega);refine enter (args:=[.slice (some ⟨b0,o0,none⟩) 32 c0,.slice a' n' c',.string s]) Tryz.func15 rfl (n:=78) rfl λa F=>?_
 refine AO (AX F rfl λa F=>AJ ?_);refine wp_seq (AO (AA F rfl λa F=>AZ F rfl (Jb (m:=32) F.e) λa F=>AZ F rfl (KQ F.e rfl) λa F=>AA F rfl λa F=>Al (s:=18) F rfl rfl rfl rfl (rfl) rfl (Ej F.e) λa F=>Al (s:=18) F rfl rfl rfl rfl (rfl) rfl (Jb (m:=n') F.e) λa F=>Al (s:=18) F rfl rfl rfl rfl (rfl) rfl (KQ F.e rfl) λa F=>AZ F rfl (Ik F.e (F.ev (EH Value.bool k1))) λa F=>AA F rfl λa F=>Al (s:=23) F rfl rfl rfl rfl (rfl) rfl (Ej F.e) λa F=>Al (s:=23) F rfl rfl rfl rfl (rfl) rfl (Uq (s:=s) F.e) λa F=>Al (s:=23) F rfl rfl rfl rfl (rfl) rfl (KQ F.e rfl) λa F=>AZ F rfl (Ik F.e (F.ev (EH Value.bool k2))) λa F=>AJ (wp_cond (t:=false) F.e (wp_skip ?_))));refine wp_seq (AO (AA F rfl λa F=>AZ F rfl (Jb (m:=32) F.e) λa F=>AZ F rfl (WS (i:=32) (j:=32) F.e rfl) λa F=>AA F rfl λa F=>Al (s:=31) F rfl rfl rfl rfl (rfl) rfl (Ej F.e) λa F=>Al (s:=31) F rfl rfl rfl rfl (rfl) rfl (Jb (m:=n') F.e) λa F=>Al (s:=31) F rfl rfl rfl rfl (rfl) rfl (KQ F.e rfl) λa F=>AZ F rfl (Ik F.e (F.ev (EH Value.bool k3))) λa F=>AA F rfl λa F=>Al (s:=36) F rfl rfl rfl rfl (rfl) rfl (Ej F.e) λa F=>Al (s:=36) F rfl rfl rfl rfl (rfl) rfl (Uq (s:=s) F.e) λa F=>Al (s:=36) F rfl rfl rfl rfl (rfl) rfl (ADO F.e rfl) λa F=>AZ F rfl (Ik F.e (F.ev (EH Value.bool h1))) λa F=>AA F rfl λa F=>Al (s:=41) F rfl rfl rfl rfl (rfl) rfl (Ej F.e) λa F=>Al (s:=41) F rfl rfl rfl rfl (rfl) rfl (Uq (s:=s) F.e) λa F=>Al (s:=41) F rfl rfl rfl rfl (rfl) rfl (KQ F.e rfl) λa F=>AZ F rfl (Ik F.e (F.ev (EH Value.bool k4))) λa F=>AJ (wp_cond (t:=false) F.e (wp_skip ?_))));show Code.wp _ _ _ _ _;obtain⟨f,F,e0,e1,e2⟩:∃f,Fr a 78 f/\f 0= .slice (some ⟨b0,o0,none⟩) 32 c0/\f 1= .slice a' n' c'/\f 2= .string s:=⟨_,F,rfl,rfl,rfl⟩;refine AO (AA F rfl λa F=>DI F rfl (Ar rfl (F.ev (t:=47) e0) Tryz.call17) (WT hG ε δ hx hl) λe w1 h1=>?_);obtain⟨v0,v1,v2,he,-, -,m2⟩:=h1.ret;refine⟨_,he,λa F=>AA F rfl λa F=>AZ F rfl (Ka F.e (by decide)) λa F=>AZ F rfl (Ka F.e (by decide)) λa F=>AZ F rfl (Ka F.e (by decide)) λa F=>AZ F rfl (Ka F.e (by decide)) λa F=>AB F rfl λa F=>AB F rfl λa F=>AB F rfl λa F=>AB F rfl λa F=>AJ ?_⟩;have g1:=h1.an;rw[(RG hl).2.2] at m2;have pB:=AFW (c:=s) hG h1.gw (z8 δ g1.1) (hx.bc g1) hl (hm.bc g1) (by omega) hz h2;rw[TM (d:=RF 0 s) hl] at pB;obtain⟨f,F,e0,e1,e2,e9,jz⟩:∃f,Fr a 78 f/\f 0= .slice (some ⟨b0,o0,none⟩) 32 c0/\f 1= .slice a' n' c'/\f 2= .string s/\f 9=v2/\f 10= .bool true:=⟨_,F,e0,e1,e2,rfl,rfl⟩;refine AO (AA F rfl λa F=>AA F rfl λa F=>AA F rfl λa F=>DI F rfl (Ea rfl (F.ev (t:=54) e0) (F.ev (t:=55) e1) (F.ev (t:=56) e2) Tryz.call23) pB λe w2 h3=>?_);obtain⟨s1,he,n1⟩:=h3.ret;have sB:=Pv (RF 0 s) x m;have z1:Zp s1:=Qf n1 (by rw[sB];omega);refine⟨_,he,λa F=>AA F rfl λa F=>AZ F rfl (EZ F.e) λa F=>AZ F rfl (DW F.e) λa F=>AB F rfl λa F=>AB F rfl λa F=>AJ ?_⟩;have g2:=g1.trans h3.an;have zp:Zp v2:=Qf m2 (by rw[EN];omega);obtain⟨f,F,e1,e2,e9,jz,gj,hU⟩:∃f,Fr a 78 f/\f 1= .slice a' n' c'/\f 2= .string s/\f 9=v2/\f 10= .bool true/\f 11=s1/\f 12= .bool true:=⟨_,F,e1,e2,e9,jz,rfl,rfl⟩;refine AO (AA F rfl λa F=>AA F rfl λa F=>AA F rfl λa F=>AA F rfl λa F=>DI F rfl (QF rfl (F.ev (t:=61) e9) (F.ev (t:=62) e1) (F.ev (t:=63) gj) (F.ev (t:=64) e2) Tryz.call29) (AHN (c:=s) hG h3.gw (z8 δ g2.1) (JX η g2) (hS.bc g2) (m2.bc h3.an) (by rw[EN];omega) zp (hm.bc g2) (by omega) hz n1 (by rw[sB];omega) z1 (by omega)) λe w3 h4=>?_);rcases h4.ex with⟨fS,bb,he,hb⟩|⟨iz,-⟩;rotate_left
 ·exact absurd (Yx _) iz
 obtain rfl:=hb.2 ⟨h2,Uu (RF 0 s) x m fS⟩;refine⟨_,he,λa F=>AA F rfl λa F=>AZ F rfl (EZ F.e) λa F=>AZ F rfl (DW F.e) λa F=>AB F rfl λa F=>AB F rfl λa F=>AJ ?_⟩;have g3:=g2.trans h4.an;obtain⟨f,F,jz,hU,μ,BT⟩:∃f,Fr a 78 f/\f 10= .bool true/\f 12= .bool true/\f 13= .bool true/\f 14= .bool true:=⟨_,F,jz,hU,rfl,rfl⟩;refine AO (AA F rfl λa F=>AA F rfl λa F=>Al (s:=69) F rfl rfl rfl rfl (jz) rfl (Ej (F.ev hU)) λa F=>AZ F rfl (Qq (F.ev jz) F.e) λa F=>AA F rfl λa F=>Al (s:=72) F rfl rfl rfl rfl (rfl) rfl (Ej (F.ev μ)) λa F=>AZ F rfl (Qq F.e F.e) λa F=>AA F rfl λa F=>Al (s:=75) F rfl rfl rfl rfl (rfl) rfl (Ej (F.ev BT)) λa F=>AZ F rfl (Qq F.e F.e) λa F=>AB F rfl λa F=>AJ ?_);refine DC ⟨F.df,.bool true,?_,rfl,Pf g3 λ_ _ h=>h⟩;simp[results,Tryz.results15,go_sem];exact F.gd rfl
end
set_option maxRecDepth 100000 in
theorem Tk {GB:Nat} {GC:Nat->Nat->Option Value} {ad:Nat->Nat×Nat} (hG:Gw GB GC ad) {H:Type} {enc:TypeId×Value->H} {W:World} {EC:Nat} {v0 v1 v2:Value} {d0 d1 d2:DataW H} {p0 p1 p2:List MemPlace} (η:Lib.TabIs Tryz.prog W "internal/strconv.uint64pow10" .u64 Lib.pow10Tab) (hS:C8 W 5 0 R9) (ε:GW GC W) (δ:GB<=W.heap.size)
  (Ft:Value.okWide Tryz.prog W .any EC 22 v0) (h0:DataW.Trod enc Tryz.prog W 0 (λ_=>true) true 22 v0 d0 p0) (rp:Value.okWide Tryz.prog W .any EC 22 v1) (h1:DataW.Trod enc Tryz.prog W 0 (λ_=>true) true 22 v1 d1 p1) (Ds:Value.okWide Tryz.prog W .any EC 9 v2) (h2:DataW.Trod enc Tryz.prog W 0 (λ_=>true) true 9 v2 d2 p2):
  Calls Tryz.prog 15 #[v0,v1,v2] W λe W'=>e= .returned (.bool true)/\Below W.heap.size W W':=by
 obtain⟨s,hs,-⟩:=ChangeMaps.open_string Tryz.underlying9 Ds h2;subst hs;obtain⟨a1,n1,c1,m,rfl,hm,gr,hz⟩:=OJ rp h1;rcases Wp 32 (by omega) Tryz.underlying22 Tryz.underlying5 (by kernel_rfl) Ft h0 with⟨a,n,c,rfl,hn⟩|⟨b,o,c,xs,rfl,hc,hl,hx⟩
 ·exact ACE (.inl (by omega))
 ·by_cases ξ:1048576<(n1:Int)\/(s.size:Int)=0\/255<(s.size:Int)
  ·exact ACE (.inr ξ)
  ·exact APM hG ε δ η hS hx hl hc hm gr hz (by omega) (by simpa using λh=>ξ (.inr (.inl h))) (by omega)
end
end Go.Proofs.YtloibefkijfdlaaGreatDoor
