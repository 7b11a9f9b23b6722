/- Verifying: the program, for any key, message, signature and context. -/
import Derived.Test.YtloibefkijfdlaaGreatDoorVsa
namespace Go.Proofs.YtloibefkijfdlaaGreatDoor
section
open Go Ma Go.RowKit Go.Lib
theorem AL6:Jg ⟨#[]⟩ ⟨#[]⟩= []:=by
 unfold Jg;rw[if_pos];rw[QO];rfl
def YW(l:List Int):Prop:=l.length=32/\∃x,LB dE x (yB l)
structure NaP (GC:Nat->Nat->Option Value) (l:List Int) (w:World) (e:Ending) (w':World):Prop where
 ex:(∃h:YW l,∃B m,e= .returned (.tuple #[pp B,.nilIface])/\w.heap.size<=B/\AQ true w' (B,0) (KU 20) m/\R3 (lX l h.2) m/\AQ true w' (B,20) (List.replicate 32 .u8) l)\/(¬YW l/\∃t v,e= .returned (.tuple #[.pointer none,.iface t v]))
 an:BM w w' (λ_ _=>False)
 gw:GW GC w'
section
variable{ρ:Operand->Value}{d:Option Tmp}{x y z:Operand}{ty t t':TypeId}{pos:String}{af:Array Edge}{w:World}
theorem AAS(h:ρ x= .nilIface)(hy:ρ (.const .nilIface)= .nilIface):(execOp ρ ⟨d,.binOp .eql 45 x (.const .nilIface) 45,ty,pos,af,none⟩).run Tryz.prog w= .ok (.value (.bool true)) w:=by
 simp[execOp,go_sem,h,hy]
theorem qU{t:TypeId}{v:Value}(h:ρ x= .iface t v)(hy:ρ (.const .nilIface)= .nilIface):(execOp ρ ⟨d,.binOp .eql 45 x (.const .nilIface) 45,ty,pos,af,none⟩).run Tryz.prog w= .ok (.value (.bool false)) w:=by
 simp[execOp,go_sem,h,hy]
end
theorem JX{P:Program}{w w':World}{name:String}{k:IntKind}{zs:List Int}(h:Lib.TabIs P w name k zs)(hf:BM w w' (λ_ _=>False)):Lib.TabIs P w' name k zs:=aH h (Pf hf λ_ _ h=>h.elim)
section
variable {GB:Nat} {GC:Nat->Nat->Option Value} {ad:Nat->Nat×Nat} (hG:Gw GB GC ad) {w:World} (ε:GW GC w) (δ:GB<=w.heap.size) (η:Lib.TabIs Tryz.prog w "internal/strconv.uint64pow10" .u64 Lib.pow10Tab)
include hG ε δ η
theorem nX{v:Value}{l:List Int}(hm:IX w v l)(hl:l.length<=4294967295):Calls Tryz.prog 50 #[v] w (NaP GC l w):=by
 by_cases h:l.length=32
 ·obtain⟨b,o,c,rfl,hc,hx⟩:=hm.has (by omega);rw[h] at hc ⊢;refine(ALe hG ε δ hx h hc).mono λe w' hp=>⟨?_,hp.an,hp.gw⟩
  rcases hp.ex with⟨hy,B,m,h1⟩|⟨hn,h1⟩
  ·exact .inl ⟨⟨h,hy⟩,B,m,h1⟩
  ·exact .inr ⟨λq=>hn q.2,h1⟩
 ·obtain⟨ap,c,rfl,-, -, -⟩:=hm;have hn:((l.length:Int) != 32)=true:=by simpa using λe:(l.length:Int)=32=>h (by omega)
  exact(AJn hG ε δ hn (by omega) η).mono λe w' hp=>⟨.inr ⟨λq=>h q.1,hp.ret⟩,hp.an,hp.gw⟩
variable(hS:C8 w 5 0 R9){B:Nat}{xA lP sg msg:List Int}{A:Pt}{vm vs:Value}{c:ByteArray}(mA:AQ true w (B,0) (KU 20) xA)(hA:R3 A xA)(mP:AQ true w (B,20) (List.replicate 32 .u8) lP)(hm:IX w vm msg)(gr:msg.length<1099511627776)(hs:IX w vs sg)(tE:sg.length<=4294967295)
include hS mA hA mP hm gr hs tE
theorem mD{p:ByteArray}(C2:p.size<1099511627776)(kj:c.size<1099511627776):Calls Tryz.prog 83 #[pp B,vm,vs,.string p,.string c] w (VfP GC (kz (Jg p c) lP A msg sg) w):=by
 by_cases h:sg.length=64
 ·obtain⟨b,o,cs,rfl,hc,hx⟩:=hs.has (by omega);rw[h] at hc ⊢;exact AKX hG ε δ hS mA hA mP hm gr C2 kj hx h hc
 ·obtain⟨ap,cs,rfl,-, -, -⟩:=hs;have hn:((sg.length:Int) != 64)=true:=by simpa using λe:(sg.length:Int)=64=>h (by omega)
  exact(AMW hG ε δ hn (by omega) η).mono λe w' hp=>⟨.inr ⟨λq=>h q.1,hp.ret⟩,hp.an,hp.gw⟩
set_option maxRecDepth 100000 in
theorem AJW:Calls Tryz.prog 51 #[pp B,vm,vs] w (VfP GC (kz [] lP A msg sg) w):=by
 have h0:=mD hG ε δ η hS mA hA mP hm gr hs tE (p:=⟨#[]⟩) (c:=⟨#[]⟩) (by decide) (by decide);rw[AL6] at h0;have h1:Calls Tryz.prog 76 #[pp B,vm,vs] w (VfP GC (kz [] lP A msg sg) w):=by
  refine enter (args:=[pp B,vm,vs]) Tryz.func76 rfl (n:=11) rfl λa F=>?_
  refine AO (AX F rfl λa F=>AJ ?_);refine AO (AA F rfl λa F=>AA F rfl λa F=>AA F rfl λa F=>DI F rfl (TL rfl F.e F.e F.e rfl rfl Tryz.call83) h0 λe w2 h2=>?_);rcases h2.ex with⟨hV,he⟩|⟨hV,t,x,he⟩
  ·refine⟨_,he,λa F=>AB F rfl λa F=>AJ ?_⟩;refine DC ⟨F.df,.nilIface,?_,.inl ⟨hV,rfl⟩,h2.an,h2.gw⟩;simp[results,Tryz.results76,go_sem];exact F.gd rfl
  ·refine⟨_,he,λa F=>AB F rfl λa F=>AJ ?_⟩;refine DC ⟨F.df,.iface t x,?_,.inr ⟨hV,t,x,rfl⟩,h2.an,h2.gw⟩;simp[results,Tryz.results76,go_sem];exact F.gd rfl
 refine enter (args:=[pp B,vm,vs]) Tryz.func51 rfl (n:=11) rfl λa F=>?_
 refine AO (AX F rfl λa F=>AJ ?_);refine AO (AA F rfl λa F=>AA F rfl λa F=>AA F rfl λa F=>DI F rfl (Ea rfl F.e F.e F.e Tryz.call76) h1 λe w2 h2=>?_);rcases h2.ex with⟨hV,he⟩|⟨hV,t,x,he⟩
 ·refine⟨_,he,λa F=>AB F rfl λa F=>AJ ?_⟩;refine DC ⟨F.df,.nilIface,?_,.inl ⟨hV,rfl⟩,h2.an,h2.gw⟩;simp[results,Tryz.results51,go_sem];exact F.gd rfl
 ·refine⟨_,he,λa F=>AB F rfl λa F=>AJ ?_⟩;refine DC ⟨F.df,.iface t x,?_,.inr ⟨hV,t,x,rfl⟩,h2.an,h2.gw⟩;simp[results,Tryz.results51,go_sem];exact F.gd rfl
end
end
section
open Go Ma Go.RowKit Go.Lib
structure IvP (GC:Nat->Nat->Option Value) (l:List Int) (V:YW l->Prop) (w:World) (e:Ending) (w':World):Prop where
 ex:(∃h:YW l,∃b:Bool,e= .returned (.tuple #[.bool b,.bool true])/\(b=true↔V h))\/(¬YW l/\e= .returned (.tuple #[.bool false,.bool false]))
 an:BM w w' (λ_ _=>False)
 gw:GW GC w'
def Zp(v:Value):Prop:=v= .slice none 0 0\/∃a n c,v= .slice (some a) n c
section
variable {GB:Nat} {GC:Nat->Nat->Option Value} {ad:Nat->Nat×Nat} (hG:Gw GB GC ad) {w:World} (ε:GW GC w) (δ:GB<=w.heap.size) (η:Lib.TabIs Tryz.prog w "internal/strconv.uint64pow10" .u64 Lib.pow10Tab)
variable(hS:C8 w 5 0 R9){lP sg msg:List Int}{vp vm vs:Value}{c:ByteArray}(hp:IX w vp lP)(C2:lP.length<=4294967295)(zp:Zp vp)(hm:IX w vm msg)(gr:msg.length<=4294967295)(zm:Zp vm)(hs:IX w vs sg)(tE:sg.length<=4294967295)(zs:Zp vs)
include hG ε δ η hS hp C2 zp hm gr zm hs tE zs
set_option maxRecDepth 100000 in
theorem ABd:Calls Tryz.prog 26 #[vp,vm,vs] w (IvP GC lP (λh=>kz [] lP (lX lP h.2) msg sg) w):=by
 refine enter (args:=[vp,vm,vs]) Tryz.func26 rfl (n:=25) rfl λa F=>?_
 refine AO (AX F rfl λa F=>AX F rfl λa F=>AJ ?_);refine AO (AA F rfl λa F=>DI F rfl (Ar rfl F.e Tryz.call34) (Fu hp (by omega) zp) λe w1 h1=>?_);obtain⟨v1,he,ta⟩:=h1.ret;refine⟨_,he,λa F=>?_⟩;have f1:=h1.an;refine DI F rfl (Ar rfl F.e Tryz.call50) (nX hG (Jk hG ε f1 δ) (z8 δ f1.1) (JX η f1) ta C2) λe w2 h2=>?_
 have f2:=f1.trans h2.an;rcases h2.ex with⟨hy,B,m,he,hB,mB,hR,mP⟩|⟨hn,t,x,he⟩
 ·refine⟨_,he,λa F=>AA F rfl λa F=>AZ F rfl (EZ F.e) λa F=>AZ F rfl (DW F.e) λa F=>AB F rfl λa F=>AB F rfl λa F=>AJ ?_⟩;refine wp_seq (AO (AA F rfl λa F=>AZ F rfl (Pm F.e rfl) λa F=>AJ (wp_cond_false F.e (wp_skip ?_))));show Code.wp _ _ _ _ _;obtain⟨f,F,e1,e2,e8⟩:∃f,Fr a 25 f/\f 1=vm/\f 2=vs/\f 8=pp B:=⟨_,F,rfl,rfl,rfl⟩;refine AO (AA F rfl λa F=>AA F rfl λa F=>DI F rfl (Ar rfl (F.ev (t:=19) e1) Tryz.call34) (Fu (hm.bc f2) (by omega) zm) λe w3 h3=>?_);obtain⟨v3,he,hm3⟩:=h3.ret;refine⟨_,he,λa F=>?_⟩;have f3:=f2.trans h3.an;refine AA F rfl λa F=>DI F rfl (Ar rfl (F.ev (t:=21) e2) Tryz.call34) (Fu (hs.bc f3) (by omega) zs) λe w4 h4=>?_
  obtain⟨v4,he,hm4⟩:=h4.ret;refine⟨_,he,λa F=>?_⟩;have f4:=f3.trans h4.an;have f24:=h3.an.trans h4.an;refine DI F rfl (Ea rfl (F.ev (t:=18) e8) (F.ev (t:=20) rfl) (F.ev (t:=22) rfl) Tryz.call51) (AJW hG (Jk hG ε f4 δ) (z8 δ f4.1) (JX η f4) (hS.bc f4) (mB.fn f24) hR (mP.fn f24) (hm3.bc h4.an) (by omega) hm4 tE) λe w5 h5=>?_
  have f5:=f4.trans h5.an;rcases h5.ex with⟨hV,he⟩|⟨hV,t,x,he⟩
  ·refine⟨_,he,λa F=>AZ F rfl (AAS F.e rfl) λa F=>AB F rfl λa F=>AX F rfl λa F=>AJ ?_⟩;refine DC ⟨F.df,.tuple #[.bool true,.bool true],?_,.inl ⟨hy,true,rfl,λ_=>hV,λ_=>rfl⟩,f5,h5.gw⟩;simp[results,Tryz.results26,go_sem];exact⟨F.gd rfl,F.gd rfl⟩
  ·refine⟨_,he,λa F=>AZ F rfl (qU F.e rfl) λa F=>AB F rfl λa F=>AX F rfl λa F=>AJ ?_⟩;refine DC ⟨F.df,.tuple #[.bool false,.bool true],?_,.inl ⟨hy,false,rfl,λh=>(by cases h),λh=>absurd h hV⟩,f5,h5.gw⟩;simp[results,Tryz.results26,go_sem];exact⟨F.gd rfl,F.gd rfl⟩
 ·refine⟨_,he,λa F=>AA F rfl λa F=>AZ F rfl (EZ F.e) λa F=>AZ F rfl (DW F.e) λa F=>AB F rfl λa F=>AB F rfl λa F=>AJ ?_⟩;refine wp_seq (AO (AA F rfl λa F=>AZ F rfl (YA F.e rfl) λa F=>AJ ?_));refine wp_cond (t:=true) F.e ?_;refine AO (AX F rfl λa F=>AX F rfl λa F=>AJ ?_);refine DC ⟨F.df,.tuple #[.bool false,.bool false],?_,.inr ⟨hn,rfl⟩,f2,h2.gw⟩;simp[results,Tryz.results26,go_sem];exact⟨F.gd rfl,F.gd rfl⟩
end
end
section
open Go Ma Go.RowKit Go.Lib
theorem AEX{x:Fp}(h:x.val%2=1):(-x).val%2=0:=by
 have h1:=x.isLt;have e:(-x).val=(PP-x.val)%PP:=rfl;rw[e,Nat.mod_eq_of_lt (a:=PP-x.val) (b:=PP) (by omega)];have hp:PP%2=1:=by decide +kernel
 omega
theorem AMm{x y:Fp}{P:Pt}(h:LB dE x y)(hx:x=P.x)(hy:y=P.y):(⟨x,y,h⟩:Pt)=P:=Pt.ext' hx hy
theorem AKn{x y:Fp}{P:Pt}(h:LB dE x y)(hx: -x=P.x)(hy:y=P.y):Pt.neg ⟨x,y,h⟩=P:=Pt.ext' hx hy
theorem ARK{o:List Int}(h:o.length=32):sb o 0 31 ++ [o.getD 31 0]=o:=by
 match o,h with
 | [b0,b1,b2,b3,b4,b5,b6,b7,b8,b9,Ξ,Ψ,υ,τ,b14,b15,b16,b17,Ω,ψ,b20,b21,b22,b23,Δ,Γ,Θ,b27,b28,b29,b30,χ],_=>rfl
theorem AQu{o:List Int}{z:Int}:(sb o 0 31 ++ [z]).take 31=sb o 0 31/\(sb o 0 31 ++ [z]).getD 31 0=z:=by
 have hs:(sb o 0 31).length=31:=PD _ _ _;constructor
 ·rw[List.take_append_of_le_length (by omega),N3 (by omega)]
 ·simp[List.getD,hs]
theorem wK(P:Pt):yB (JD P)=P.y/\(128<=(JD P).getD 31 0↔P.x.val%2=1):=by
 have hl:=EN P;have h8:=AAe P;obtain⟨hi,lo⟩:=AHT P.y;have ho:(ck 32 P.y.val).length=32:=Je _ _;have hv:Ct (ck 32 P.y.val)=(P.y.val:Int):=by
  rw[Qv,Nat.mod_eq_of_lt];exact iH P.y.isLt (by decide +kernel)
 by_cases h:P.x.val%2=1
 ·have e:JD P=sb (ck 32 P.y.val) 0 31 ++ [(ck 32 P.y.val).getD 31 0+128]:=by
   unfold JD;rw[if_pos h]
  obtain⟨c1,c2⟩:=AQu (o:=ck 32 P.y.val) (z:=(ck 32 P.y.val).getD 31 0+128);have el:elB (JD P)=ck 32 P.y.val:=by
   rw[qL hl h8,e,c1,c2];have em:((ck 32 P.y.val).getD 31 0+128)%128=(ck 32 P.y.val).getD 31 0:=by omega
   rw[em,ARK ho]
  refine⟨?_,?_⟩
  ·unfold yB;rw[el,hv,AIO]
  ·rw[e,c2];exact⟨λ_=>h,λ_=>by omega⟩
 ·have e:JD P=ck 32 P.y.val:=by
   unfold JD;rw[if_neg h]
  refine⟨?_,?_⟩
  ·unfold yB;rw[ALz hl h8 (by rw[e];exact hi),e,hv,AIO]
  ·rw[e];exact⟨λh2=>by omega,λh2=>absurd h2 h⟩
theorem ACA(P:Pt):∃x,LB dE x (yB (JD P)):=⟨P.x,by rw[(wK P).1];exact P.h⟩
theorem Yx(P:Pt):YW (JD P):=⟨EN P,ACA P⟩
theorem Vx(P:Pt)(h:∃x,LB dE x (yB (JD P))):lX (JD P) h=P:=by
 obtain⟨hy,hb⟩:=wK P;unfold lX;split
 ·rename_i h1;refine AKn _ ?_ hy;have hn:LB dE (-P.x) P.y:=P.neg.h;rw[hy,oh hn (AEX (hb.1 h1))];grind
 ·rename_i h1;refine AMm _ ?_ hy;rw[hy];exact oh P.h (by
   have:¬P.x.val%2=1:=λh=>h1 (hb.2 h)
   omega)
theorem Z7(d x m:List Int):(Pd d x m).take 32=xQ d x m:=by
 unfold Pd;have h:(xQ d x m).length=32:=EN _;rw[List.take_append_of_le_length (by omega),N3 (by omega)]
theorem Wo(d x m:List Int):(Pd d x m).drop 32=ck 32 (LS d x m):=by
 unfold Pd;have h:(xQ d x m).length=32:=EN _;rw[List.drop_append_of_le_length (by omega),List.drop_of_length_le (by omega),yN]
theorem fK(d x m:List Int):((LS d x m:Nat):Int)<Qm:=by
 rw[ou];exact Int.emod_lt_of_pos _ (by decide +kernel)
theorem gN(d x m:List Int):Ct (ck 32 (LS d x m))=((LS d x m:Nat):Int):=by
 rw[Qv,Nat.mod_eq_of_lt];have h:=fK d x m;have h2:Qm<((256^32:Nat):Int):=by decide +kernel
 exact xN.1 (Int.lt_trans h h2)
theorem AG7{a:Int}{k S R:Nat}(h:((S:Nat):Int)=((k:Int)*a+(R:Int))%Qm):((JS.zm a).neg.zm (k:Nat)).add (JS.zm (S:Nat))=JS.zm (R:Nat):=by
 rw[<- Pt.lj, <- Pt.ph, <- Pt.fW];refine ug ?_;rw[<- gI];have e:=Int.emod_add_mul_ediv ((k:Int)*a+(R:Int)) Qm;rw[<- h] at e;refine⟨-(((k:Int)*a+(R:Int))/Qm),?_⟩;rw[Int.mul_neg,Int.neg_mul,Xg a];generalize (k:Int)*a=u at *
 generalize Qm*((u+(R:Int))/Qm)=t at *
 omega
theorem Uu(d x m:List Int)(h:YW (JD (JS.zm (WN x)))):kz d (JD (JS.zm (WN x))) (lX (JD (JS.zm (WN x))) h.2) m (Pd d x m):=by
 rw[Vx];refine⟨Pv d x m,?_,?_⟩
 ·rw[Wo,gN];exact fK d x m
 ·rw[Z7,Wo,gN];have hk:vK d (xQ d x m) (JD (JS.zm (WN x))) m=rfK d x m:=rfl;rw[hk,SN,AG7 (ou d x m),AAm];rfl
end
section
open Go Ma Go.RowKit Go.Lib Go.ChangeShapes Go.WideShapes
theorem TC{b o n c:Nat}:Zp (.slice (some ⟨b,o,none⟩) n c):=.inr ⟨_,_,_,rfl⟩
end
section
open Go Ma Go.RowKit Go.Lib
theorem qP{d d' lP:List Int}{A:Pt}{m m' x:List Int}:¬kz d lP A m (xQ d' x m'++ck 32 (LS d' x m'+qm)):=by
 rintro⟨-,h,-⟩;have hl:(xQ d' x m').length=32:=EN _;rw[List.drop_append_of_le_length (by omega),List.drop_of_length_le (by omega),yN,Qv] at h;have h1:=fK d' x m';rw[<- AN3] at h h1;have e:(256^32:Nat)=115792089237316195423570985008687907853269984665640564039457584007913129639936:=by decide +kernel
 have e2:qm=7237005577332262213973186563042994240857116359379907606001950938285454250989:=rfl;rw[e2] at h h1;rw[Nat.mod_eq_of_lt (by rw[e];omega)] at h;omega
end
section
open Go Ma Go.RowKit Go.Lib
structure VbP (GC:Nat->Nat->Option Value) (V:Prop) (w:World) (e:Ending) (w':World):Prop where
 ex:∃b:Bool,e= .returned (.tuple #[.bool b,.bool true])/\(b=true↔V)
 an:BM w w' (λ_ _=>False)
 gw:GW GC w'
section
variable {GB:Nat} {GC:Nat->Nat->Option Value} {ad:Nat->Nat×Nat} (hG:Gw GB GC ad) {w:World} (ε:GW GC w) (δ:GB<=w.heap.size) (η:Lib.TabIs Tryz.prog w "internal/strconv.uint64pow10" .u64 Lib.pow10Tab)
variable(hS:C8 w 5 0 R9){P:Pt}{sg msg:List Int}{vp vm vs:Value}(hp:IX w vp (JD P))(zp:Zp vp)(hm:IX w vm msg)(gr:msg.length<=4294967295)(zm:Zp vm)(hs:IX w vs sg)(tE:sg.length<=4294967295)(zs:Zp vs)
include hG ε δ η hS hp zp hm gr zm hs tE zs
theorem UY:Calls Tryz.prog 26 #[vp,vm,vs] w (VbP GC (kz [] (JD P) P msg sg) w):=
 (ABd hG ε δ η hS hp (by rw[EN];omega) zp hm gr zm hs tE zs).mono λe w' h=>by
  rcases h.ex with⟨fS,b,he,hb⟩|⟨iz,-⟩
  ·exact⟨⟨b,he,by rw[Vx] at hb;exact hb⟩,h.an,h.gw⟩
  ·exact absurd (Yx P) iz
end
theorem VR(d x m:List Int):kz d (JD (JS.zm (WN x))) (JS.zm (WN x)) m (Pd d x m):=by
 have h:=Uu d x m (Yx (JS.zm (WN x)));rw[Vx] at h;exact h
theorem Qf{w:World}{v:Value}{xs:List Int}(h:IX w v xs)(h0:0<xs.length):Zp v:=by
 obtain⟨b,o,c,hv,-, -⟩:=h.has h0;exact .inr ⟨_,_,_,hv⟩
section
variable{ρ:Operand->Value}{d:Option Tmp}{x y z:Operand}{ty t t':TypeId}{pos:String}{af:Array Edge}{w:World}{gd:Option (Nat×Bool)}
theorem Jb{p:Option Addr}{m c:Nat}(h:ρ x= .slice p m c):(execOp ρ ⟨d,.call ⟨.builtin .len,#[x],#[22]⟩,ty,pos,af,gd⟩).run Tryz.prog w= .ok (.value (.int .i64 m)) w:=by
 simp[go_sem,h]
theorem KQ{i j:Int}(h:ρ x= .int .i64 i)(hy:ρ y= .int .i64 j):(execOp ρ ⟨d,.binOp .gtr 3 x y 3,ty,pos,af,gd⟩).run Tryz.prog w= .ok (.value (.bool (decide (j<i)))) w:=by
 simp[execOp,go_sem,h,hy]
theorem Ra{c:Bool}(h:ρ x= .bool c):(execOp ρ ⟨d,.unOp .not t x,ty,pos,af,gd⟩).run Tryz.prog w= .ok (.value (.bool (!c))) w:=by
 simp[execOp,go_sem,h]
end
end
section
open Go Ma Go.RowKit Go.Lib
section
variable{GB:Nat}{GC:Nat->Nat->Option Value}{ad:Nat->Nat×Nat}(hG:Gw GB GC ad){w:World}(ε:GW GC w)(δ:GB<=w.heap.size)
include hG ε δ
theorem wY{x:List Int}(hx:La XT x):Calls Tryz.prog 53 #[.agg (Aj XT x).toArray] w (AgP GC U8 (IQ.raw IJ 0 [x]) w):=by
 have:=Vn (F:=λa=>BK 8 (IQ.raw IJ 0 a)) (ks:=U8) (args:=[.agg (Aj XT x).toArray]) (ins:=[x]) (bs:=[(0,0)]) ε δ (Zr hG) rfl rfl ⟨⟨hx,rfl⟩,trivial⟩ pM (λh=>absurd (show false=true from h) (by decide));obtain⟨h1,h2⟩:=hx.cM;rw[Bn (YS h1 h2).len] at this;exact this
theorem zJ{a b:List Int}{m n:Int}(ra:La U8 a)(rb:La U8 b)(ha:N8 a m)(hb:N8 b n)(h:m+n<pw 8):Calls Tryz.prog 60 #[.agg (Aj U8 a).toArray,.agg (Aj U8 b).toArray] w (AgP GC U8 (MZ.raw Md 0 [a,b]) w):=by
 have:=Vn (F:=λa=>BK 8 (MZ.raw Md 0 a)) (ks:=U8) (args:=[.agg (Aj U8 a).toArray,.agg (Aj U8 b).toArray]) (ins:=[a,b]) (bs:=[(0,0),(0,0)]) ε δ (jk hG) rfl rfl ⟨⟨ra,rfl⟩,⟨rb,rfl⟩,trivial⟩ (ANl pM) (λh=>absurd (show false=true from h) (by decide));rw[Bn (ADC ha hb h).len] at this;exact this
end
set_option maxRecDepth 100000 in
theorem ALs{a:Act}{w:World}{f:Nat->Value}{b o c B4:Nat}{sg q:List Int}(F:Fr a 21 f)(h0:f 0= .slice (some ⟨b,o,none⟩) 64 c)(hx:C8 w b o sg)(hl:sg.length=64)(hc:64<=c)(h4:f 4= .pointer (some ⟨B4,0,none⟩))(m4:AQ true w (B4,0) XT q):
  (YG 4 (Ak Tryz.f31)).wp Tryz.prog (λe a' w'=>e= .normal/\∃f',Fr a' 21 f'/\IX w' (f' 2) (sg.take 32++q)/\f' 3= .bool true/\BM w w' (λ_ _=>False)) a w:=by
 refine PY (N:=8) mixed (by kernel_rfl) ?_;have fd:=aT w;generalize ({ w with drawn:=w.drawn+1 }:World)=w1 at fd ⊢;refine Kq (i:=1) rfl F rfl rfl rfl (by kernel_rfl) (λc a w h=>by cases h.1) (λw=>Ej (F.ev h0)) λa F=>?_
 refine Kq (i:=2) rfl F rfl rfl rfl (by kernel_rfl) (λc a w h=>by cases h.1) (λw=>Yh (k:=32) F.e rfl (by omega)) λa F=>?_
 refine Kq (i:=4) rfl F rfl rfl rfl (by kernel_rfl) (λc a w h=>by cases h.1) (λw=>jv (F.ev h4)) λa F=>?_
 have ht:(sg.take 32).length=32:=by rw[Rk,hl];rfl
 have hp:C8 w1 b o (sg.take 32):=(hx.sub (i:=0) (k:=32) (by omega)).bc fd;have hq:=(m4.an fd λ_ _ h=>h);have lq:q.length=32:=m4.1.1;have H10:IX w1 (.slice (some ⟨b,o,none⟩) 32 c) (sg.take 32):=IX.cR hp ht (by omega);have H13:IX w1 (.slice (some ⟨B4,0,none⟩) 32 32) q:=IX.cV hq;refine F7 (i:=0) (by kernel_rfl) (I6 (by kernel_rfl) rfl (Rj F rfl rfl ADP λa F=>?_));have O2:=dR w1 #[] 0 (by omega) rfl;have b2:=OA w1 (.cells #[] 5);generalize w1.alloc (.cells #[] 5)=w2 at O2 b2 ⊢;refine F7 (i:=3) (by kernel_rfl) (I6 (by kernel_rfl) rfl (pW (x:=15) (y:=17) F rfl O2 (H10.bc (Jd b2)) (by rw[SM];omega) b2.size λv3 w3 a O3 g3 F=>?_));rw[yN] at O3;have b3:=b2.trans (WY O2 g3 b2.size);refine F7 (i:=5) (by kernel_rfl) (I6 (by kernel_rfl) rfl (pW (x:=18) (y:=19) F rfl O3 (H13.bc (Jd b3)) (by rw[ht,lq];omega) b3.size λv4 w4 a O4 g4 F=>?_));have b4:=b3.trans (WY O3 g4 b3.size);refine F7 (i:=6) (by kernel_rfl) (I6 (by kernel_rfl) rfl (Rj F rfl rfl (by simp only[execOp,F.ev (t:=20) rfl];rfl) λa F=>?_));refine F7 (i:=7) (by kernel_rfl) (I6 (by kernel_rfl) rfl (Rj F rfl rfl (by simp only[execOp];rfl) λa F=>?_));refine wpAny_done (by kernel_rfl) ⟨rfl,_,F,O4.msg (X0 hp.1 hq.j9),rfl,fd.trans (Jd b4)⟩ 0
structure RaP (GC:Nat->Nat->Option Value) (l:List Int) (w:World) (e:Ending) (w':World):Prop where
 ret:∃v,e= .returned (.tuple #[v,.bool true])/\IX w' v l
 an:BM w w' (λ_ _=>False)
 gw:GW GC w'
section
variable{GB:Nat}{GC:Nat->Nat->Option Value}{ad:Nat->Nat×Nat}(hG:Gw GB GC ad)
include hG
set_option maxRecDepth 100000 in
theorem qA{w:World}{b o c:Nat}{sg:List Int}{S:Nat}(ε:GW GC w)(δ:GB<=w.heap.size)(hx:C8 w b o sg)(hl:sg.length=64)(hc:64<=c)(hS:Ct (sg.drop 32)=(S:Int))(cf:((S:Nat):Int)<Qm):
  Calls Tryz.prog 31 #[.slice (some ⟨b,o,none⟩) 64 c] w (RaP GC (sg.take 32++ck 32 (S+qm)) w):=by
 refine enter (args:=[.slice (some ⟨b,o,none⟩) 64 c]) Tryz.func31 rfl (n:=21) rfl λa F=>?_
 refine AO (AX F rfl λa F=>AX F rfl λa F=>AJ ?_);refine wp_seq (AO (AA F rfl λa F=>AZ F rfl (NL (p:=some ⟨b,o,none⟩) (m:=64) (c:=c) F.e) λa F=>AZ F rfl (OV (i:=64) (j:=64) F.e rfl) λa F=>AJ (wp_cond (t:=false) F.e (wp_skip ?_))));show Code.wp _ _ _ _ _;have hd:(sg.drop 32).length=32:=by rw[Uj,hl]
 have Rr:C8 w b (o+32) (sg.drop 32):=by
  have:=hx.sub (i:=32) (k:=32) (by omega);rwa [N3 (by omega)] at this
 refine AO (AA F rfl λa F=>AZ F rfl (pI (k:=32) F.e rfl (by omega) hc) λa F=>?_);refine DI F rfl (Ar rfl F.e Tryz.call38) (oW hG ε δ (Rr.L4 hd) (by omega)) λe w1 h1=>⟨_,h1.ret,λa F=>?_⟩
 have OS:N8 (IQ.raw IJ 0 [sg.drop 32]) ((S:Nat):Int):=by
  rw[<- hS];exact YS hd h1.jn.cM.2
 refine DI F rfl (Ar rfl F.e Tryz.call53) (wY hG h1.gw (z8 δ h1.an.1) h1.jn) λe w2 h2=>⟨_,h2.ret,λa F=>?_⟩
 have g2:=h1.an.trans h2.an;refine DI F rfl (LJ rfl Tryz.call43) (xE hG h2.gw (z8 δ g2.1)) λe w3 h3=>⟨_,h3.ret,λa F=>?_⟩
 have g3:=g2.trans h3.an;have acG:((S:Nat):Int)+Qm<pw 8:=by
  have:=AOO;omega
 refine DI F rfl (Au rfl F.e F.e Tryz.call60) (zJ hG h3.gw (z8 δ g3.1) h2.jn h3.jn OS Yp acG) λe w4 h4=>⟨_,h4.ret,λa F=>?_⟩
 have g4:=g3.trans h4.an;have hn4:N8 (MZ.raw Md 0 [IQ.raw IJ 0 [sg.drop 32],J7.raw Jq 0 []]) (((S+qm:Nat)):Int):=ADC OS Yp acG;refine DI F rfl (Ar rfl F.e Tryz.call45) (mJ hG h4.gw (z8 δ g4.1) h4.jn hn4) λe w5 h5=>⟨_,h5.ret,λa F=>AZ F rfl ALg λa F=>?_⟩
 have g5:=g4.trans h5.an;have M6:=Ey w5 32 .u8 48 ⟨by decide,by decide⟩;have f6:BM w5 (w5.alloc (.cells (Array.replicate 32 (.int .u8 0)) 48)) (λ_ _=>False):=BI _ _ _;generalize w5.alloc (.cells (Array.replicate 32 (.int .u8 0)) 48)=w6 at M6 f6 ⊢;have kj:=KJ h5.jn.1;refine K9 F rfl rfl (V4 (cs:=Aj XT (ck 32 (S+qm))) (λw=>by rw[kj];simp[go_sem]<;>rfl) F.e F.e Nt (λj hj=>M6.ex j (by rw[kj] at hj;exact hj))) λa F=>AJ ?_
 have M7:=TB h5.jn M6.ex;have f57:BM w5 (w6.setCells w5.heap.size 0 (Aj XT (ck 32 (S+qm)))) (λ_ _=>False):=EK _ _ f6 λ_ _=>.inl (KA _)
 generalize w6.setCells w5.heap.size 0 (Aj XT (ck 32 (S+qm)))=w7 at M7 f57 ⊢;have g7:=g5.trans f57;refine Jy (ALs F rfl (hx.bc g7) hl hc rfl M7) ?_;rintro a w8 ⟨f8,F,M8,e3,g78⟩;have g8:=g7.trans g78;refine DC ⟨F.df,.tuple #[f8 2,.bool true],?_,⟨_,rfl,M8⟩,g8,Jk hG ε g8 δ⟩;simp[results,Tryz.results31,go_sem];exact⟨F.gd rfl,F.gd e3⟩
end
end
section
open Go Ma Go.RowKit Go.Lib Go.ChangeShapes Go.WideShapes
set_option maxRecDepth 100000 in
theorem AM1(a a':Option Addr)(n c n' c':Nat)(w:World)(_h1:¬(n:Int)=32):Calls Tryz.prog 13 #[.slice a n c,.slice a' n' c'] w (Q3 w):=by
 go_enter Tryz.func13,Tryz.ntmps13
 go_wp2
 all_goals go_ret
 all_goals exact⟨rfl,Below.refl _ _⟩
set_option maxRecDepth 100000 in
theorem ALS(a a':Option Addr)(c n' c':Nat)(w:World)(h1:1048576<(n':Int)):Calls Tryz.prog 13 #[.slice a 32 c,.slice a' n' c'] w (Q3 w):=by
 go_enter Tryz.func13,Tryz.ntmps13
 go_wp2
 all_goals go_ret
 all_goals exact⟨rfl,Below.refl _ _⟩
section
variable{GB:Nat}{GC:Nat->Nat->Option Value}{ad:Nat->Nat×Nat}(hG:Gw GB GC ad)
include hG
set_option maxRecDepth 100000 in
theorem APi {w:World} {b0 o0 c0:Nat} {a':Option Addr} {n' c':Nat} {x m:List Int} (ε:GW GC w) (δ:GB<=w.heap.size) (η:Lib.TabIs Tryz.prog w "internal/strconv.uint64pow10" .u64 Lib.pow10Tab) (hS:C8 w 5 0 R9) (kB:C8 w b0 o0 x) (hl:x.length=32) (CA:32<=c0) (hm:IX w (.slice a' n' c') m) (gr:m.length=n') (hn:(n':Int)<=1048576) (hz:Zp (.slice a' n' c')):
  Calls Tryz.prog 13 #[.slice (some ⟨b0,o0,none⟩) 32 c0,.slice a' n' c'] w (Q3 w):=by
 have hx:IX w (.slice (some ⟨b0,o0,none⟩) 32 c0) x:=IX.cR kB hl CA;have k1:decide ((2147483647:Int)<((n':Nat):Int))=false:=decide_eq_false (by omega);have k2:decide ((1048576:Int)<((n':Nat):Int))=false:=decide_eq_false (by omega);refine enter (args:=[.slice (some ⟨b0,o0,none⟩) 32 c0,.slice a' n' c']) Tryz.func13 rfl (n:=79) rfl λa F=>?_
 refine AO (AX F rfl λa F=>AJ ?_);refine wp_seq (AO (AA F rfl λa F=>AZ F rfl (NL (m:=32) F.e) λa F=>AZ F rfl (V3 F.e rfl) λa F=>AA F rfl λa F=>Al (s:=20) F rfl rfl rfl rfl rfl rfl (Ej F.e) λa F=>Al (s:=20) F rfl rfl rfl rfl rfl rfl (Jb (m:=n') F.e) λa F=>Al (s:=20) F rfl rfl rfl rfl rfl rfl (KQ F.e rfl) λa F=>AZ F rfl (Ik F.e (F.ev (EH Value.bool k1))) λa F=>AJ (wp_cond (t:=false) F.e (wp_skip ?_))));refine wp_seq (AO (AA F rfl λa F=>AZ F rfl (NL (m:=32) F.e) λa F=>AZ F rfl (OV (i:=32) (j:=32) F.e rfl) λa F=>AA F rfl λa F=>Al (s:=28) F rfl rfl rfl rfl rfl rfl (Ej F.e) λa F=>Al (s:=28) F rfl rfl rfl rfl rfl rfl (Jb (m:=n') F.e) λa F=>Al (s:=28) F rfl rfl rfl rfl rfl rfl (KQ F.e rfl) λa F=>AZ F rfl (Ik F.e (F.ev (EH Value.bool k2))) λa F=>AJ (wp_cond (t:=false) F.e (wp_skip ?_))));show Code.wp _ _ _ _ _;obtain⟨f,F,e0,e1⟩:∃f,Fr a 79 f/\f 0= .slice (some ⟨b0,o0,none⟩) 32 c0/\f 1= .slice a' n' c':=⟨_,F,rfl,rfl⟩;refine AO (AA F rfl λa F=>DI F rfl (Ar rfl (F.ev (t:=34) e0) Tryz.call17) (WT hG ε δ hx hl) λe w1 h1=>?_);obtain⟨v0,v1,v2,he,-, -,m2⟩:=h1.ret;refine⟨_,he,λa F=>AA F rfl λa F=>AZ F rfl (Ka F.e (by decide)) λa F=>AZ F rfl (Ka F.e (by decide)) λa F=>AZ F rfl (Ka F.e (by decide)) λa F=>AZ F rfl (Ka F.e (by decide)) λa F=>AB F rfl λa F=>AB F rfl λa F=>AB F rfl λa F=>AB F rfl λa F=>AJ ?_⟩;have g1:=h1.an;rw[(RG hl).2.2] at m2;have pB:=X4 hG h1.gw (z8 δ g1.1) (hx.bc g1) hl (hm.bc g1) (by omega) hz;rw[TM (d:=[]) hl] at pB;obtain⟨f,F,e0,e1,e7,e8⟩:∃f,Fr a 79 f/\f 0= .slice (some ⟨b0,o0,none⟩) 32 c0/\f 1= .slice a' n' c'/\f 7=v2/\f 8= .bool true:=⟨_,F,e0,e1,rfl,rfl⟩;refine AO (AA F rfl λa F=>AA F rfl λa F=>DI F rfl (Au rfl (F.ev (t:=41) e0) (F.ev (t:=42) e1) Tryz.call20) pB λe w2 h2=>?_);obtain⟨s1,he,n1⟩:=h2.ret;have sB:=Pv [] x m;obtain⟨b1,o1,c1,rp,tS,k1⟩:=n1.has (by rw[sB];omega);rw[sB] at rp tS;subst rp;refine⟨_,he,λa F=>AA F rfl λa F=>AZ F rfl (EZ F.e) λa F=>AZ F rfl (DW F.e) λa F=>AB F rfl λa F=>AB F rfl λa F=>AJ ?_⟩;have g2:=g1.trans h2.an;have MA:Ct ((Pd [] x m).drop 32)=((LS [] x m:Nat):Int):=by rw[Wo,gN]
 refine AO (AA F rfl λa F=>DI F rfl (Ar rfl F.e Tryz.call31) (qA hG h2.gw (z8 δ g2.1) k1 sB tS MA (fK [] x m)) λe w3 h3=>?_);obtain⟨v3,he,m3⟩:=h3.ret;rw[Z7] at m3;have g3:=g2.trans h3.an;refine⟨_,he,λa F=>AA F rfl λa F=>AZ F rfl (EZ F.e) λa F=>AZ F rfl (DW F.e) λa F=>AB F rfl λa F=>AB F rfl λa F=>AJ ?_⟩;have p3:=(m2.bc h2.an).bc h3.an;have zp:Zp v2:=Qf m2 (by rw[EN];omega);have hl3:(xQ [] x m++ck 32 (LS [] x m+qm)).length=64:=by rw[MN,Je,show(xQ [] x m).length=32 from EN _]
 have z3:Zp v3:=Qf m3 (by rw[hl3];omega);obtain⟨f,F,e1,e7,e8,e9,gj,hU⟩:∃f,Fr a 79 f/\f 1= .slice a' n' c'/\f 7=v2/\f 8= .bool true/\f 9= .slice (some ⟨b1,o1,none⟩) 64 c1/\f 11=v3/\f 12= .bool true:=⟨_,F,e1,e7,e8,rfl,rfl,rfl⟩;refine AO (AA F rfl λa F=>AA F rfl λa F=>AA F rfl λa F=>DI F rfl (Ea rfl (F.ev (t:=52) e7) (F.ev (t:=53) e1) (F.ev (t:=54) e9) Tryz.call26) (UY hG h3.gw (z8 δ g3.1) (JX η g3) (hS.bc g3) p3 zp (hm.bc g3) (by omega) hz (n1.bc h3.an) (by omega) TC) λe w4 h4=>?_);obtain⟨bb,he,hb⟩:=h4.ex;obtain rfl:=hb.2 (VR [] x m);refine⟨_,he,λa F=>AA F rfl λa F=>AZ F rfl (EZ F.e) λa F=>AZ F rfl (DW F.e) λa F=>AB F rfl λa F=>AB F rfl λa F=>AJ ?_⟩;have g4:=g3.trans h4.an;refine AO (AA F rfl λa F=>AA F rfl λa F=>AA F rfl λa F=>DI F rfl (Ea rfl (F.ev (t:=59) e7) (F.ev (t:=60) e1) (F.ev (t:=61) gj) Tryz.call26) (UY hG h4.gw (z8 δ g4.1) (JX η g4) (hS.bc g4) (p3.bc h4.an) zp (hm.bc g4) (by omega) hz (m3.bc h4.an) (by omega) z3) λe w5 h5=>?_);obtain⟨bb,he,hb⟩:=h5.ex;have hbf:bb=false:=by
  cases bb with
  |false=>rfl
  |true=>exact absurd (hb.1 rfl) qP
 subst hbf;refine⟨_,he,λa F=>AA F rfl λa F=>AZ F rfl (EZ F.e) λa F=>AZ F rfl (DW F.e) λa F=>AB F rfl λa F=>AB F rfl λa F=>AJ ?_⟩;have g5:=g4.trans h5.an;obtain⟨f,F,e8,hU,μ,CH,OK⟩:∃f,Fr a 79 f/\f 8= .bool true/\f 12= .bool true/\f 13= .bool true/\f 15= .bool false/\f 16= .bool true:=⟨_,F,e8,hU,rfl,rfl,rfl⟩;refine AO (AA F rfl λa F=>AA F rfl λa F=>Al (s:=66) F rfl rfl rfl rfl e8 rfl (Ej (F.ev hU)) λa F=>AZ F rfl (Qq (F.ev e8) F.e) λa F=>AA F rfl λa F=>Al (s:=69) F rfl rfl rfl rfl rfl rfl (Ej (F.ev μ)) λa F=>AZ F rfl (Qq F.e F.e) λa F=>AA F rfl λa F=>Al (s:=72) F rfl rfl rfl rfl rfl rfl (Ej (F.ev OK)) λa F=>AZ F rfl (Qq F.e F.e) λa F=>AA F rfl λa F=>Al (s:=75) F rfl rfl rfl rfl rfl rfl (Ej (F.ev CH)) λa F=>Al (s:=75) F rfl rfl rfl rfl rfl rfl (Ra F.e) λa F=>AZ F rfl (Qq F.e F.e) λa F=>AB F rfl λa F=>AJ ?_);refine DC ⟨F.df,.bool true,?_,rfl,Pf g5 λ_ _ h=>h⟩;simp[results,Tryz.results13,go_sem];exact F.gd rfl
end
set_option maxRecDepth 100000 in
theorem fq {GB:Nat} {GC:Nat->Nat->Option Value} {ad:Nat->Nat×Nat} (hG:Gw GB GC ad) {H:Type} {enc:TypeId×Value->H} {W:World} {EC:Nat} {v0 v1:Value} {d0 d1:DataW H} {p0 p1:List MemPlace} (η:Lib.TabIs Tryz.prog W "internal/strconv.uint64pow10" .u64 Lib.pow10Tab) (hS:C8 W 5 0 R9) (ε:GW GC W) (δ:GB<=W.heap.size)
  (Ft:Value.okWide Tryz.prog W .any EC 22 v0) (h0:DataW.Trod enc Tryz.prog W 0 (λ_=>true) true 22 v0 d0 p0) (rp:Value.okWide Tryz.prog W .any EC 22 v1) (h1:DataW.Trod enc Tryz.prog W 0 (λ_=>true) true 22 v1 d1 p1):
  Calls Tryz.prog 13 #[v0,v1] W λe W'=>e= .returned (.bool true)/\Below W.heap.size W W':=by
 obtain⟨a',n',c',xs',rfl,hm,pT,hz⟩:=OJ rp h1;rcases Wp 32 (by omega) Tryz.underlying22 Tryz.underlying5 (by kernel_rfl) Ft h0 with⟨a,n,c,rfl,hn⟩|⟨b,o,c,xs,rfl,hc,hl,hx⟩
 ·exact AM1 a a' n c n' c' W (by omega)
 ·by_cases hbig:1048576<(n':Int)
  ·exact ALS _ a' c n' c' W hbig
  ·exact APi hG ε δ η hS hx hl hc hm pT (by omega) hz
end
end Go.Proofs.YtloibefkijfdlaaGreatDoor
