/- Verifying: the program, for any key, message, signature and context. -/
import Derived.Test.YtloibefkijfdlaaGreatDoorVsa
namespace Go.Proofs.YtloibefkijfdlaaGreatDoor
section
open Go Ma Go.RowKit Go.Lib
theorem AL6:Jg ⟨#[]⟩ ⟨#[]⟩= []:=by
 unfold Jg;rw[if_pos];rw[QO];rfl
def YW(l:List Int):Prop:=l.length=32/\∃x,LB dE x (yB l)
structure NaP (GC:Nat->Nat->Option Value) (l:List Int) (w:World) (e:Ending) (w':World):Prop where
 ex:(∃h:YW l,∃B m,e= .returned (.tuple #[pp B,.nilIface])/\w.heap.size<=B/\AQ true w' (B,0) (KU 20) m/\R3 (lX l h.2) m/\AQ true w' (B,20) (List.replicate 32 .u8) l)\/(¬YW l/\∃t v,e= .returned (.tuple #[.pointer none,.iface t v]))
 an:BM w w' (λ_ _=>False)
 gw:GW GC w'
section
variable{ρ:Operand->Value}{d:Option Tmp}{x y z:Operand}{ty t t':TypeId}{pos:String}{af:Array Edge}{w:World}
theorem AAS(h:ρ x= .nilIface)(hy:ρ (.const .nilIface)= .nilIface):(execOp ρ ⟨d,.binOp .eql 45 x (.const .nilIface) 45,ty,pos,af,none⟩).run Tryz.prog w= .ok (.value (.bool true)) w:=by
 simp[execOp,go_sem,h,hy]
theorem qU{t:TypeId}{v:Value}(h:ρ x= .iface t v)(hy:ρ (.const .nilIface)= .nilIface):(execOp ρ ⟨d,.binOp .eql 45 x (.const .nilIface) 45,ty,pos,af,none⟩).run Tryz.prog w= .ok (.value (.bool false)) w:=by
 simp[execOp,go_sem,h,hy]
end
theorem JX{P:Program}{w w':World}{name:String}{k:IntKind}{zs:List Int}(h:Lib.TabIs P w name k zs)(hf:BM w w' (λ_ _=>False)):Lib.TabIs P w' name k zs:=aH h (Pf hf λ_ _ h=>h.elim)
section
variable {GB:Nat} {GC:Nat->Nat->Option Value} {ad:Nat->Nat×Nat} (hG:Gw GB GC ad) {w:World} (ε:GW GC w) (δ:GB<=w.heap.size) (η:Lib.TabIs Tryz.prog w "internal/strconv.uint64pow10" .u64 Lib.pow10Tab)
include hG ε δ η
theorem nX{v:Value}{l:List Int}(hm:IX w v l)(hl:l.length<=4294967295):Calls Tryz.prog 50 #[v] w (NaP GC l w):=by
 by_cases h:l.length=32
 ·obtain⟨b,o,c,rfl,hc,hx⟩:=hm.has (by omega);rw[h] at hc ⊢;refine(ALe hG ε δ hx h hc).mono λe w' hp=>⟨?_,hp.an,hp.gw⟩
  rcases hp.ex with⟨hy,B,m,h1⟩|⟨hn,h1⟩
  ·exact .inl ⟨⟨h,hy⟩,B,m,h1⟩
  ·exact .inr ⟨λq=>hn q.2,h1⟩
 ·obtain⟨ap,c,rfl,-, -, -⟩:=hm;have hn:((l.length:Int) != 32)=true:=by simpa using λe:(l.length:Int)=32=>h (by omega)
  exact(AJn hG ε δ hn (by omega) η).mono λe w' hp=>⟨.inr ⟨λq=>h q.1,hp.ret⟩,hp.an,hp.gw⟩
variable(hS:C8 w 5 0 R9){B:Nat}{xA lP sg msg:List Int}{A:Pt}{vm vs:Value}{c:ByteArray}(mA:AQ true w (B,0) (KU 20) xA)(hA:R3 A xA)(mP:AQ true w (B,20) (List.replicate 32 .u8) lP)(hm:IX w vm msg)(gr:msg.length<1099511627776)(hs:IX w vs sg)(tE:sg.length<=4294967295)
include hS mA hA mP hm gr hs tE
theorem mD{p:ByteArray}(C2:p.size<1099511627776)(kj:c.size<1099511627776):Calls Tryz.prog 83 #[pp B,vm,vs,.string p,.string c] w (VfP GC (kz (Jg p c) lP A msg sg) w):=by
 by_cases h:sg.length=64
 ·obtain⟨b,o,cs,rfl,hc,hx⟩:=hs.has (by omega);rw[h] at hc ⊢;exact AKX hG ε δ hS mA hA mP hm gr C2 kj hx h hc
 ·obtain⟨ap,cs,rfl,-, -, -⟩:=hs;have hn:((sg.length:Int) != 64)=true:=by simpa using λe:(sg.length:Int)=64=>h (by omega)
  exact(AMW hG ε δ hn (by omega) η).mono λe w' hp=>⟨.inr ⟨λq=>h q.1,hp.ret⟩,hp.an,hp.gw⟩
set_option maxRecDepth 100000 in
theorem AJW:Calls Tryz.prog 51 #[pp B,vm,vs] w (VfP GC (kz [] lP A msg sg) w):=by
 have h0:=mD hG ε δ η hS mA hA mP hm gr hs tE (p:=⟨#[]⟩) (c:=⟨#[]⟩) (by decide) (by decide);rw[AL6] at h0;have h1:Calls Tryz.prog 76 #[pp B,vm,vs] w (VfP GC (kz [] lP A msg sg) w):=by
  refine enter (args:=[pp B,vm,vs]) Tryz.func76 rfl (n:=11) rfl λa F=>?_
  refine AO (AX F rfl λa F=>AJ ?_);refine AO (AA F rfl λa F=>AA F rfl λa F=>AA F rfl λa F=>DI F rfl (TL rfl F.e F.e F.e rfl rfl Tryz.call83) h0 λe w2 h2=>?_);rcases h2.ex with⟨hV,he⟩|⟨hV,t,x,he⟩
  ·refine⟨_,he,λa F=>AB F rfl λa F=>AJ ?_⟩;refine DC ⟨F.df,.nilIface,?_,.inl ⟨hV,rfl⟩,h2.an,h2.gw⟩;simp[results,Tryz.results76,go_sem];exact F.gd rfl
  ·refine⟨_,he,λa F=>AB F rfl λa F=>AJ ?_⟩;refine DC ⟨F.df,.iface t x,?_,.inr ⟨hV,t,x,rfl⟩,h2.an,h2.gw⟩;simp[results,Tryz.results76,go_sem];exact F.gd rfl
 refine enter (args:=[pp B,vm,vs]) Tryz.func51 rfl (n:=11) rfl λa F=>?_
 refine AO (AX F rfl λa F=>AJ ?_);refine AO (AA F rfl λa F=>AA F rfl λa F=>AA F rfl λa F=>DI F rfl (Ea rfl F.e F.e F.e Tryz.call76) h1 λe w2 h2=>?_);rcases h2.ex with⟨hV,he⟩|⟨hV,t,x,he⟩
 ·refine⟨_,he,λa F=>AB F rfl λa F=>AJ ?_⟩;refine DC ⟨F.df,.nilIface,?_,.inl ⟨hV,rfl⟩,h2.an,h2.gw⟩;simp[results,Tryz.results51,go_sem];exact F.gd rfl
 ·refine⟨_,he,λa F=>AB F rfl λa F=>AJ ?_⟩;refine DC ⟨F.df,.iface t x,?_,.inr ⟨hV,t,x,rfl⟩,h2.an,h2.gw⟩;simp[results,Tryz.results51,go_sem];exact F.gd rfl
end
end
section
open Go Ma Go.RowKit Go.Lib
structure IvP (GC:Nat->Nat->Option Value) (l:List Int) (V:YW l->Prop) (w:World) (e:Ending) (w':World):Prop where
 ex:(∃h:YW l,∃b:Bool,e= .returned (.tuple #[.bool b,.bool true])/\(b=true↔V h))\/(¬YW l/\e= .returned (.tuple #[.bool false,.bool false]))
 an:BM w w' (λ_ _=>False)
 gw:GW GC w'
def Zp(v:Value):Prop:=v= .slice none 0 0\/∃a n c,v= .slice (some a) n c
section
variable {GB:Nat} {GC:Nat->Nat->Option Value} {ad:Nat->Nat×Nat} (hG:Gw GB GC ad) {w:World} (ε:GW GC w) (δ:GB<=w.heap.size) (η:Lib.TabIs Tryz.prog w "internal/strconv.uint64pow10" .u64 Lib.pow10Tab)
variable(hS:C8 w 5 0 R9){lP sg msg:List Int}{vp vm vs:Value}{c:ByteArray}(hp:IX w vp lP)(C2:lP.length<=4294967295)(zp:Zp vp)(hm:IX w vm msg)(gr:msg.length<=4294967295)(zm:Zp vm)(hs:IX w vs sg)(tE:sg.length<=4294967295)(zs:Zp vs)
include hG ε δ η hS hp C2 zp hm gr zm hs tE zs
set_option maxRecDepth 100000 in
theorem ABd:Calls Tryz.prog 26 #[vp,vm,vs] w (IvP GC lP (λh=>kz [] lP (lX lP h.2) msg sg) w):=by
 refine enter (args:=[vp,vm,vs]) Tryz.func26 rfl (n:=25) rfl λa F=>?_
 refine AO (AX F rfl λa F=>AX F rfl λa F=>AJ ?_);refine AO (AA F rfl λa F=>DI F rfl (Ar rfl F.e Tryz.call34) (Fu hp (by omega) zp) λe w1 h1=>?_);obtain⟨v1,he,ta⟩:=h1.ret;refine⟨_,he,λa F=>?_⟩;have f1:=h1.an;refine DI F rfl (Ar rfl F.e Tryz.call50) (nX hG (Jk hG ε f1 δ) (z8 δ f1.1) (JX η f1) ta C2) λe w2 h2=>?_
 have f2:=f1.trans h2.an;rcases h2.ex with⟨hy,B,m,he,hB,mB,hR,mP⟩|⟨hn,t,x,he⟩
 ·refine⟨_,he,λa F=>AA F rfl λa F=>AZ F rfl (EZ F.e) λa F=>AZ F rfl (DW F.e) λa F=>AB F rfl λa F=>AB F rfl λa F=>AJ ?_⟩;refine wp_seq (AO (AA F rfl λa F=>AZ F rfl (Pm F.e rfl) λa F=>AJ (wp_cond_false F.e (wp_skip ?_))));show Code.wp _ _ _ _ _;obtain⟨f,F,e1,e2,e8⟩:∃f,Fr a 25 f/\f 1=vm/\f 2=vs/\f 8=pp B:=⟨_,F,rfl,rfl,rfl⟩;refine AO (AA F rfl λa F=>AA F rfl λa F=>DI F rfl (Ar rfl (F.ev (t:=19) e1) Tryz.call34) (Fu (hm.bc f2) (by omega) zm) λe w3 h3=>?_);obtain⟨v3,he,hm3⟩:=h3.ret;refine⟨_,he,λa F=>?_⟩;have f3:=f2.trans h3.an;refine AA F rfl λa F=>DI F rfl (Ar rfl (F.ev (t:=21) e2) Tryz.call34) (Fu (hs.bc f3) (by omega) zs) λe w4 h4=>?_
  obtain⟨v4,he,hm4⟩:=h4.ret;refine⟨_,he,λa F=>?_⟩;have f4:=f3.trans h4.an;have f24:=h3.an.trans h4.an;refine DI F rfl (Ea rfl (F.ev (t:=18) e8) (F.ev (t:=20) rfl) (F.ev (t:=22) rfl) Tryz.call51) (AJW hG (Jk hG ε f4 δ) (z8 δ f4.1) (JX η f4) (hS.bc f4) (mB.fn f24) hR (mP.fn f24) (hm3.bc h4.an) (by omega) hm4 tE) λe w5 h5=>?_
  have f5:=f4.trans h5.an;rcases h5.ex with⟨hV,he⟩|⟨hV,t,x,he⟩
  ·refine⟨_,he,λa F=>AZ F rfl (AAS F.e rfl) λa F=>AB F rfl λa F=>AX F rfl λa F=>AJ ?_⟩;refine DC ⟨F.df,.tuple #[.bool true,.bool true],?_,.inl ⟨hy,true,rfl,λ_=>hV,λ_=>rfl⟩,f5,h5.gw⟩;simp[results,Tryz.results26,go_sem];exact⟨F.gd rfl,F.gd rfl⟩
  ·refine⟨_,he,λa F=>AZ F rfl (qU F.e rfl) λa F=>AB F rfl λa F=>AX F rfl λa F=>AJ ?_⟩;refine DC ⟨F.df,.tuple #[.bool false,.bool true],?_,.inl ⟨hy,false,rfl,λh=>(by cases h),λh=>absurd h hV⟩,f5,h5.gw⟩;simp[results,Tryz.results26,go_sem];exact⟨F.gd rfl,F.gd rfl⟩
 ·refine⟨_,he,λa F=>AA F rfl λa F=>AZ F rfl (EZ F.e) λa F=>AZ F rfl (DW F.e) λa F=>AB F rfl λa F=>AB F rfl λa F=>AJ ?_⟩;refine wp_seq (AO (AA F rfl λa F=>AZ F rfl (YA F.e rfl) λa F=>AJ ?_));refine wp_cond (t:=true) F.e ?_;refine AO (AX F rfl λa F=>AX F rfl λa F=>AJ ?_);refine DC ⟨F.df,.tuple #[.bool false,.bool false],?_,.inr ⟨hn,rfl⟩,f2,h2.gw⟩;simp[results,Tryz.results26,go_sem];exact⟨F.gd rfl,F.gd rfl⟩
end
end
section
open Go Ma Go.RowKit Go.Lib
theorem AEX{x:Fp}(h:x.val%2=1):(-x).val%2=0:=by
 have h1:=x.isLt;have e:(-x).val=(PP-x.val)%PP:=rfl;rw[e,Nat.mod_eq_of_lt (a:=PP-x.val) (b:=PP) (by omega)];have hp:PP%2=1:=by decide +kernel
 omega
theorem AMm{x y:Fp}{P:Pt}(h:LB dE x y)(hx:x=P.x)(hy:y=P.y):(⟨x,y,h⟩:Pt)=P:=Pt.ext' hx hy
theorem AKn{x y:Fp}{P:Pt}(h:LB dE x y)(hx: -x=P.x)(hy:y=P.y):Pt.neg ⟨x,y,h⟩=P:=Pt.ext' hx hy
theorem ARK{o:List Int}(h:o.length=32):sb o 0 31 ++ [o.getD 31 0]=o:=by
 match o,h with
 | [b0,b1,b2,b3,b4,b5,b6,b7,b8,b9,Ξ,Ψ,υ,τ,b14,b15,b16,b17,Ω,ψ,b20,b21,b22,b23,Δ,Γ,Θ,b27,b28,b29,b30,χ],_=>rfl
theorem AQu{o:List Int}{z:Int}:(sb o 0 31 ++ [z]).take 31=sb o 0 31/\(sb o 0 31 ++ [z]).getD 31 0=z:=by
 have hs:(sb o 0 31).length=31:=PD _ _ _;constructor
 ·rw[List.take_append_of_le_length (by omega),N3 (by omega)]
 ·simp[List.getD,hs]
theorem wK(P:Pt):yB (JD P)=P.y/\(128<=(JD P).getD 31 0↔P.x.val%2=1):=by
 have hl:=EN P;have h8:=AAe P;obtain⟨hi,lo⟩:=AHT P.y;have ho:(ck 32 P.y.val).length=32:=Je _ _;have hv:Ct (ck 32 P.y.val)=(P.y.val:Int):=by
  rw[Qv,Nat.mod_eq_of_lt];exact iH P.y.isLt (by decide +kernel)
 by_cases h:P.x.val%2=1
 ·have e:JD P=sb (ck 32 P.y.val) 0 31 ++ [(ck 32 P.y.val).getD 31 0+128]:=by
   unfold JD;rw[if_pos h]
  obtain⟨c1,c2⟩:=AQu (o:=ck 32 P.y.val) (z:=(ck 32 P.y.val).getD 31 0+128);have el:elB (JD P)=ck 32 P.y.val:=by
   rw[qL hl h8,e,c1,c2];have em:((ck 32 P.y.val).getD 31 0+128)%128=(ck 32 P.y.val).getD 31 0:=by omega
   rw[em,ARK ho]
  refine⟨?_,?_⟩
  ·unfold yB;rw[el,hv,AIO]
  ·rw[e,c2];exact⟨λ_=>h,λ_=>by omega⟩
 ·have e:JD P=ck 32 P.y.val:=by
   unfold JD;rw[if_neg h]
  refine⟨?_,?_⟩
  ·unfold yB;rw[ALz hl h8 (by rw[e];exact hi),e,hv,AIO]
  ·rw[e];exact⟨λh2=>by omega,λh2=>absurd h2 h⟩
theorem ACA(P:Pt):∃x,LB dE x (yB (JD P)):=⟨P.x,by rw[(wK P).1];exact P.h⟩
theorem Yx(P:Pt):YW (JD P):=⟨EN P,ACA P⟩
theorem Vx(P:Pt)(h:∃x,LB dE x (yB (JD P))):lX (JD P) h=P:=by
 obtain⟨hy,hb⟩:=wK P;unfold lX;split
 ·rename_i h1;refine AKn _ ?_ hy;have hn:LB dE (-P.x) P.y:=P.neg.h;rw[hy,oh hn (AEX (hb.1 h1))];grind
 ·rename_i h1;refine AMm _ ?_ hy;rw[hy];exact oh P.h (by
   have:¬P.x.val%2=1:=λh=>h1 (hb.2 h)
   omega)
theorem Z7(d x m:List Int):(Pd d x m).take 32=xQ d x m:=by
 unfold Pd;have h:(xQ d x m).length=32:=EN _;rw[List.take_append_of_le_length (by omega),N3 (by omega)]
theorem Wo(d x m:List Int):(Pd d x m).drop 32=ck 32 (LS d x m):=by
 unfold Pd;have h:(xQ d x m).length=32:=EN _;rw[List.drop_append_of_le_length (by omega),List.drop_of_length_le (by omega),yN]
theorem fK(d x m:List Int):((LS d x m:Nat):Int)<Qm:=by
 rw[ou];exact Int.emod_lt_of_pos _ (by decide +kernel)
theorem gN(d x m:List Int):Ct (ck 32 (LS d x m))=((LS d x m:Nat):Int):=by
 rw[Qv,Nat.mod_eq_of_lt];have h:=fK d x m;have h2:Qm<((256^32:Nat):Int):=by decide +kernel
 exact xN.1 (Int.lt_trans h h2)
theorem AG7{a:Int}{k S R:Nat}(h:((S:Nat):Int)=((k:Int)*a+(R:Int))%Qm):((JS.zm a).neg.zm (k:Nat)).add (JS.zm (S:Nat))=JS.zm (R:Nat):=by
 rw[<- Pt.lj, <- Pt.ph, <- Pt.fW];refine ug ?_;rw[<- gI];have e:=Int.emod_add_mul_ediv ((k:Int)*a+(R:Int)) Qm;rw[<- h] at e;refine⟨-(((k:Int)*a+(R:Int))/Qm),?_⟩;rw[Int.mul_neg,Int.neg_mul,Xg a];generalize (k:Int)*a=u at *
 generalize Qm*((u+(R:Int))/Qm)=t at *
 omega
theorem Uu(d x m:List Int)(h:YW (JD (JS.zm (WN x)))):kz d (JD (JS.zm (WN x))) (lX (JD (JS.zm (WN x))) h.2) m (Pd d x m):=by
 rw[Vx];refine⟨Pv d x m,?_,?_⟩
 ·rw[Wo,gN];exact fK d x m
 ·rw[Z7,Wo,gN];have hk:vK d (xQ d x m) (JD (JS.zm (WN x))) m=rfK d x m:=rfl;rw[hk,SN,AG7 (ou d x m),AAm];rfl
end
section
open Go Ma Go.RowKit Go.Lib Go.ChangeShapes Go.WideShapes
theorem TC{b o n c:Nat}:Zp (.slice (some ⟨b,o,none⟩) n c):=.inr ⟨_,_,_,rfl⟩
set_option maxRecDepth 100000 in
theorem ALV(a a':Option Addr)(n c n' c':Nat)(w:World)(_h1:¬(n:Int)=32):Calls Tryz.prog 14 #[.slice a n c,.slice a' n' c'] w (Q3 w):=by
 go_enter Tryz.func14,Tryz.ntmps14
 go_wp2
 all_goals go_ret
 all_goals exact⟨rfl,Below.refl _ _⟩
set_option maxRecDepth 100000 in
theorem AMq(a a':Option Addr)(c n' c':Nat)(w:World)(h1:1048576<(n':Int)):Calls Tryz.prog 14 #[.slice a 32 c,.slice a' n' c'] w (Q3 w):=by
 go_enter Tryz.func14,Tryz.ntmps14
 go_wp2
 all_goals go_ret
 all_goals exact⟨rfl,Below.refl _ _⟩
section
variable{GB:Nat}{GC:Nat->Nat->Option Value}{ad:Nat->Nat×Nat}(hG:Gw GB GC ad)
include hG
set_option maxRecDepth 100000 in
set_option maxHeartbeats 2000000 in
theorem APd {w:World} {b0 o0 c0:Nat} {a':Option Addr} {n' c':Nat} {x m:List Int} (ε:GW GC w) (δ:GB<=w.heap.size) (η:Lib.TabIs Tryz.prog w "internal/strconv.uint64pow10" .u64 Lib.pow10Tab) (hS:C8 w 5 0 R9) (kB:C8 w b0 o0 x) (hl:x.length=32) (CA:32<=c0) (hm:IX w (.slice a' n' c') m) (gr:m.length=n') (hn:(n':Int)<=1048576) (hz:(.slice a' n' c':Value)= .slice none 0 0\/∃a n c,(.slice a' n' c':Value)= .slice (some a) n c):
  Calls Tryz.prog 14 #[.slice (some ⟨b0,o0,none⟩) 32 c0,.slice a' n' c'] w (Q3 w):=by
 have hx:IX w (.slice (some ⟨b0,o0,none⟩) 32 c0) x:=IX.cR kB hl CA;have KK:=WT hG ε δ hx hl;have mx:=mixed;have ai9:m.length<1099511627776/2:=by omega
 have ajI:m.length<=4294967295:=by omega
 have HZ:=Lib.hid hz;have HL:=Lib.hid hl;have HM:=Lib.hid gr;clear hz hl gr
 go_enter Tryz.func14,Tryz.ntmps14
 go_wp2_with (go_at_call 17;refine KK.mono ?_;clear KK;rintro e w1 h1;obtain⟨v0,v1,v2,he,m0,m1,m2⟩:=h1.ret;subst he)
 have g1:=h1.an;have pB:=X4 hG h1.gw (z8 δ g1.1) (hx.bc g1) HL.out (hm.bc g1) (by omega) HZ.out;rw[TM (d:=[]) HL.out] at pB;refine pB.mono ?_;clear pB;rintro e w2 h2;obtain⟨s1,he,n1⟩:=h2.ret;subst he;have g2:=g1.trans h2.an;have sB:=Pv [] x m;obtain⟨b1,o1,c1,rp,tS,k1⟩:=n1.has (by rw[sB];omega);rw[sB] at rp tS;subst rp;rw[(RG HL.out).2.2] at m2;have m22:=m2.bc h2.an;obtain⟨b2,o2,c2,Ds,Dd,k2⟩:=m22.has (by rw[EN];omega);rw[EN] at Ds Dd;subst Ds;have hiv:=ABd hG h2.gw (z8 δ g2.1) (JX η g2) (hS.bc g2) m22 (by rw[EN];omega) TC (hm.bc g2) ajI HZ.out n1 (by rw[sB];omega) TC;have fS:=Yx (JS.zm (WN x));have hvf:=Uu [] x m fS
 go_wp2_with (go_at_call 26;refine hiv.mono ?_;clear hiv;rintro e w3 h3;rcases h3.ex with⟨Z1,bb,he,hb⟩|⟨iz,he⟩;rotate_left;exact absurd fS iz;have hbt:=hb.2 hvf;subst hbt;subst he)
 have g3:=g2.trans h3.an;have P1:Below w.heap.size w w3:=Pf g3 λ_ _ h=>h
 clear h3 g3 h2 h1 g1 g2 m0 m1 m2 m22 k1 k2 n1 hx kB hm HZ HL HM hS η ε fS Z1 hvf hb
 go_wp2
 all_goals go_ret
 all_goals exact⟨rfl,P1⟩
end
set_option maxRecDepth 100000 in
theorem WE {GB:Nat} {GC:Nat->Nat->Option Value} {ad:Nat->Nat×Nat} (hG:Gw GB GC ad) {H:Type} {enc:TypeId×Value->H} {W:World} {EC:Nat} {v0 v1:Value} {d0 d1:DataW H} {p0 p1:List MemPlace} (η:Lib.TabIs Tryz.prog W "internal/strconv.uint64pow10" .u64 Lib.pow10Tab) (hS:C8 W 5 0 R9) (ε:GW GC W) (δ:GB<=W.heap.size)
  (Ft:Value.okWide Tryz.prog W .any EC 22 v0) (h0:DataW.Trod enc Tryz.prog W 0 (λ_=>true) true 22 v0 d0 p0) (rp:Value.okWide Tryz.prog W .any EC 22 v1) (h1:DataW.Trod enc Tryz.prog W 0 (λ_=>true) true 22 v1 d1 p1):
  Calls Tryz.prog 14 #[v0,v1] W λe W'=>e= .returned (.bool true)/\Below W.heap.size W W':=by
 obtain⟨a',n',c',xs',rfl,hm,pT,hz⟩:=OJ rp h1;rcases Wp 32 (by omega) Tryz.underlying22 Tryz.underlying5 (by kernel_rfl) Ft h0 with⟨a,n,c,rfl,hn⟩|⟨b,o,c,xs,rfl,hc,hl,hx⟩
 ·exact ALV a a' n c n' c' W (by omega)
 ·by_cases hbig:1048576<(n':Int)
  ·exact AMq _ a' c n' c' W hbig
  ·exact APd hG ε δ η hS hx hl hc hm pT (by omega) hz
end
end Go.Proofs.YtloibefkijfdlaaGreatDoor
