/- Verifying: the program, for any key, message, signature and context. -/
import Derived.Test.YtloibefkijfdlaaGreatDoorVsa
namespace Go.Proofs.YtloibefkijfdlaaGreatDoor
section
open Go Ma Go.RowKit Go.Lib
theorem AL6:Jg ⟨#[]⟩ ⟨#[]⟩= []:=by
 unfold Jg;rw[if_pos];rw[QO];rfl
def YW(l:List Int):Prop:=l.length=32/\∃x,LB dE x (yB l)
structure NaP (GC:Nat->Nat->Option Value) (l:List Int) (w:World) (e:Ending) (w':World):Prop where
 ex:(∃h:YW l,∃B m,e= .returned (.tuple #[pp B,.nilIface])/\w.heap.size<=B/\AQ true w' (B,0) (KU 20) m/\R3 (lX l h.2) m/\AQ true w' (B,20) (List.replicate 32 .u8) l)\/(¬YW l/\∃t v,e= .returned (.tuple #[.pointer none,.iface t v]))
 an:BM w w' (λ_ _=>False)
 gw:GW GC w'
section
variable{ρ:Operand->Value}{d:Option Tmp}{x y z:Operand}{ty t t':TypeId}{pos:String}{af:Array Edge}{w:World}
theorem AAS(h:ρ x= .nilIface)(hy:ρ (.const .nilIface)= .nilIface):(execOp ρ ⟨d,.binOp .eql 45 x (.const .nilIface) 45,ty,pos,af,none⟩).run Tryz.prog w= .ok (.value (.bool true)) w:=by
 simp[execOp,go_sem,h,hy]
theorem qU{t:TypeId}{v:Value}(h:ρ x= .iface t v)(hy:ρ (.const .nilIface)= .nilIface):(execOp ρ ⟨d,.binOp .eql 45 x (.const .nilIface) 45,ty,pos,af,none⟩).run Tryz.prog w= .ok (.value (.bool false)) w:=by
 simp[execOp,go_sem,h,hy]
end
theorem JX{P:Program}{w w':World}{name:String}{k:IntKind}{zs:List Int}(h:Lib.TabIs P w name k zs)(hf:BM w w' (λ_ _=>False)):Lib.TabIs P w' name k zs:=aH h (Pf hf λ_ _ h=>h.elim)
section
variable {GB:Nat} {GC:Nat->Nat->Option Value} {ad:Nat->Nat×Nat} (hG:Gw GB GC ad) {w:World} (ε:GW GC w) (δ:GB<=w.heap.size) (η:Lib.TabIs Tryz.prog w "internal/strconv.uint64pow10" .u64 Lib.pow10Tab)
include hG ε δ η
theorem nX{v:Value}{l:List Int}(hm:IX w v l)(hl:l.length<=4294967295):Calls Tryz.prog 50 #[v] w (NaP GC l w):=by
 by_cases h:l.length=32
 ·obtain⟨b,o,c,rfl,hc,hx⟩:=hm.has (by omega);rw[h] at hc ⊢;refine(ALe hG ε δ hx h hc).mono λe w' hp=>⟨?_,hp.an,hp.gw⟩
  rcases hp.ex with⟨hy,B,m,h1⟩|⟨hn,h1⟩
  ·exact .inl ⟨⟨h,hy⟩,B,m,h1⟩
  ·exact .inr ⟨λq=>hn q.2,h1⟩
 ·obtain⟨ap,c,rfl,-, -, -⟩:=hm;have hn:((l.length:Int) != 32)=true:=by simpa using λe:(l.length:Int)=32=>h (by omega)
  exact(AJn hG ε δ hn (by omega) η).mono λe w' hp=>⟨.inr ⟨λq=>h q.1,hp.ret⟩,hp.an,hp.gw⟩
variable(hS:C8 w 5 0 R9){B:Nat}{xA lP sg msg:List Int}{A:Pt}{vm vs:Value}{c:ByteArray}(mA:AQ true w (B,0) (KU 20) xA)(hA:R3 A xA)(mP:AQ true w (B,20) (List.replicate 32 .u8) lP)(hm:IX w vm msg)(gr:msg.length<1099511627776)(hs:IX w vs sg)(tE:sg.length<=4294967295)
include hS mA hA mP hm gr hs tE
theorem mD{p:ByteArray}(C2:p.size<1099511627776)(kj:c.size<1099511627776):Calls Tryz.prog 83 #[pp B,vm,vs,.string p,.string c] w (VfP GC (kz (Jg p c) lP A msg sg) w):=by
 by_cases h:sg.length=64
 ·obtain⟨b,o,cs,rfl,hc,hx⟩:=hs.has (by omega);rw[h] at hc ⊢;exact AKX hG ε δ hS mA hA mP hm gr C2 kj hx h hc
 ·obtain⟨ap,cs,rfl,-, -, -⟩:=hs;have hn:((sg.length:Int) != 64)=true:=by simpa using λe:(sg.length:Int)=64=>h (by omega)
  exact(AMW hG ε δ hn (by omega) η).mono λe w' hp=>⟨.inr ⟨λq=>h q.1,hp.ret⟩,hp.an,hp.gw⟩
set_option maxRecDepth 100000 in
theorem AJW:Calls Tryz.prog 51 #[pp B,vm,vs] w (VfP GC (kz [] lP A msg sg) w):=by
 have h0:=mD hG ε δ η hS mA hA mP hm gr hs tE (p:=⟨#[]⟩) (c:=⟨#[]⟩) (by decide) (by decide);rw[AL6] at h0;have h1:Calls Tryz.prog 76 #[pp B,vm,vs] w (VfP GC (kz [] lP A msg sg) w):=by
  refine enter (args:=[pp B,vm,vs]) Tryz.func76 rfl (n:=11) rfl λa F=>?_
  refine AO (AX F rfl λa F=>AJ ?_);refine AO (AA F rfl λa F=>AA F rfl λa F=>AA F rfl λa F=>DI F rfl (TL rfl F.e F.e F.e rfl rfl Tryz.call83) h0 λe w2 h2=>?_);rcases h2.ex with⟨hV,he⟩|⟨hV,t,x,he⟩
  ·refine⟨_,he,λa F=>AB F rfl λa F=>AJ ?_⟩;refine DC ⟨F.df,.nilIface,?_,.inl ⟨hV,rfl⟩,h2.an,h2.gw⟩;simp[results,Tryz.results76,go_sem];exact F.gd rfl
  ·refine⟨_,he,λa F=>AB F rfl λa F=>AJ ?_⟩;refine DC ⟨F.df,.iface t x,?_,.inr ⟨hV,t,x,rfl⟩,h2.an,h2.gw⟩;simp[results,Tryz.results76,go_sem];exact F.gd rfl
 refine enter (args:=[pp B,vm,vs]) Tryz.func51 rfl (n:=11) rfl λa F=>?_
 refine AO (AX F rfl λa F=>AJ ?_);refine AO (AA F rfl λa F=>AA F rfl λa F=>AA F rfl λa F=>DI F rfl (Ea rfl F.e F.e F.e Tryz.call76) h1 λe w2 h2=>?_);rcases h2.ex with⟨hV,he⟩|⟨hV,t,x,he⟩
 ·refine⟨_,he,λa F=>AB F rfl λa F=>AJ ?_⟩;refine DC ⟨F.df,.nilIface,?_,.inl ⟨hV,rfl⟩,h2.an,h2.gw⟩;simp[results,Tryz.results51,go_sem];exact F.gd rfl
 ·refine⟨_,he,λa F=>AB F rfl λa F=>AJ ?_⟩;refine DC ⟨F.df,.iface t x,?_,.inr ⟨hV,t,x,rfl⟩,h2.an,h2.gw⟩;simp[results,Tryz.results51,go_sem];exact F.gd rfl
end
end
section
open Go Ma Go.RowKit Go.Lib
structure IvP (GC:Nat->Nat->Option Value) (l:List Int) (V:YW l->Prop) (w:World) (e:Ending) (w':World):Prop where
 ex:(∃h:YW l,∃b:Bool,e= .returned (.tuple #[.bool b,.bool true])/\(b=true↔V h))\/(¬YW l/\e= .returned (.tuple #[.bool false,.bool false]))
 an:BM w w' (λ_ _=>False)
 gw:GW GC w'
def Zp(v:Value):Prop:=v= .slice none 0 0\/∃a n c,v= .slice (some a) n c
section
variable {GB:Nat} {GC:Nat->Nat->Option Value} {ad:Nat->Nat×Nat} (hG:Gw GB GC ad) {w:World} (ε:GW GC w) (δ:GB<=w.heap.size) (η:Lib.TabIs Tryz.prog w "internal/strconv.uint64pow10" .u64 Lib.pow10Tab)
variable(hS:C8 w 5 0 R9){lP sg msg:List Int}{vp vm vs:Value}{c:ByteArray}(hp:IX w vp lP)(C2:lP.length<=4294967295)(zp:Zp vp)(hm:IX w vm msg)(gr:msg.length<=4294967295)(zm:Zp vm)(hs:IX w vs sg)(tE:sg.length<=4294967295)(zs:Zp vs)
include hG ε δ η hS hp C2 zp hm gr zm hs tE zs
set_option maxRecDepth 100000 in
theorem ABd:Calls Tryz.prog 26 #[vp,vm,vs] w (IvP GC lP (λh=>kz [] lP (lX lP h.2) msg sg) w):=by
 refine enter (args:=[vp,vm,vs]) Tryz.func26 rfl (n:=25) rfl λa F=>?_
 refine AO (AX F rfl λa F=>AX F rfl λa F=>AJ ?_);refine AO (AA F rfl λa F=>DI F rfl (Ar rfl F.e Tryz.call34) (Fu hp (by omega) zp) λe w1 h1=>?_);obtain⟨v1,he,ta⟩:=h1.ret;refine⟨_,he,λa F=>?_⟩;have f1:=h1.an;refine DI F rfl (Ar rfl F.e Tryz.call50) (nX hG (Jk hG ε f1 δ) (z8 δ f1.1) (JX η f1) ta C2) λe w2 h2=>?_
 have f2:=f1.trans h2.an;rcases h2.ex with⟨hy,B,m,he,hB,mB,hR,mP⟩|⟨hn,t,x,he⟩
 ·refine⟨_,he,λa F=>AA F rfl λa F=>AZ F rfl (EZ F.e) λa F=>AZ F rfl (DW F.e) λa F=>AB F rfl λa F=>AB F rfl λa F=>AJ ?_⟩;refine wp_seq (AO (AA F rfl λa F=>AZ F rfl (Pm F.e rfl) λa F=>AJ (wp_cond_false F.e (wp_skip ?_))));show Code.wp _ _ _ _ _;obtain⟨f,F,e1,e2,e8⟩:∃f,Fr a 25 f/\f 1=vm/\f 2=vs/\f 8=pp B:=⟨_,F,rfl,rfl,rfl⟩;refine AO (AA F rfl λa F=>AA F rfl λa F=>DI F rfl (Ar rfl (F.ev (t:=19) e1) Tryz.call34) (Fu (hm.bc f2) (by omega) zm) λe w3 h3=>?_);obtain⟨v3,he,hm3⟩:=h3.ret;refine⟨_,he,λa F=>?_⟩;have f3:=f2.trans h3.an;refine AA F rfl λa F=>DI F rfl (Ar rfl (F.ev (t:=21) e2) Tryz.call34) (Fu (hs.bc f3) (by omega) zs) λe w4 h4=>?_
  obtain⟨v4,he,hm4⟩:=h4.ret;refine⟨_,he,λa F=>?_⟩;have f4:=f3.trans h4.an;have f24:=h3.an.trans h4.an;refine DI F rfl (Ea rfl (F.ev (t:=18) e8) (F.ev (t:=20) rfl) (F.ev (t:=22) rfl) Tryz.call51) (AJW hG (Jk hG ε f4 δ) (z8 δ f4.1) (JX η f4) (hS.bc f4) (mB.fn f24) hR (mP.fn f24) (hm3.bc h4.an) (by omega) hm4 tE) λe w5 h5=>?_
  have f5:=f4.trans h5.an;rcases h5.ex with⟨hV,he⟩|⟨hV,t,x,he⟩
  ·refine⟨_,he,λa F=>AZ F rfl (AAS F.e rfl) λa F=>AB F rfl λa F=>AX F rfl λa F=>AJ ?_⟩;refine DC ⟨F.df,.tuple #[.bool true,.bool true],?_,.inl ⟨hy,true,rfl,λ_=>hV,λ_=>rfl⟩,f5,h5.gw⟩;simp[results,Tryz.results26,go_sem];exact⟨F.gd rfl,F.gd rfl⟩
  ·refine⟨_,he,λa F=>AZ F rfl (qU F.e rfl) λa F=>AB F rfl λa F=>AX F rfl λa F=>AJ ?_⟩;refine DC ⟨F.df,.tuple #[.bool false,.bool true],?_,.inl ⟨hy,false,rfl,λh=>(by cases h),λh=>absurd h hV⟩,f5,h5.gw⟩;simp[results,Tryz.results26,go_sem];exact⟨F.gd rfl,F.gd rfl⟩
 ·refine⟨_,he,λa F=>AA F rfl λa F=>AZ F rfl (EZ F.e) λa F=>AZ F rfl (DW F.e) λa F=>AB F rfl λa F=>AB F rfl λa F=>AJ ?_⟩;refine wp_seq (AO (AA F rfl λa F=>AZ F rfl (YA F.e rfl) λa F=>AJ ?_));refine wp_cond (t:=true) F.e ?_;refine AO (AX F rfl λa F=>AX F rfl λa F=>AJ ?_);refine DC ⟨F.df,.tuple #[.bool false,.bool false],?_,.inr ⟨hn,rfl⟩,f2,h2.gw⟩;simp[results,Tryz.results26,go_sem];exact⟨F.gd rfl,F.gd rfl⟩
end
end
section
open Go Ma Go.RowKit Go.Lib
theorem AEX{x:Fp}(h:x.val%2=1):(-x).val%2=0:=by
 have h1:=x.isLt;have e:(-x).val=(PP-x.val)%PP:=rfl;rw[e,Nat.mod_eq_of_lt (a:=PP-x.val) (b:=PP) (by omega)];have hp:PP%2=1:=by decide +kernel
 omega
theorem AMm{x y:Fp}{P:Pt}(h:LB dE x y)(hx:x=P.x)(hy:y=P.y):(⟨x,y,h⟩:Pt)=P:=Pt.ext' hx hy
theorem AKn{x y:Fp}{P:Pt}(h:LB dE x y)(hx: -x=P.x)(hy:y=P.y):Pt.neg ⟨x,y,h⟩=P:=Pt.ext' hx hy
theorem ARK{o:List Int}(h:o.length=32):sb o 0 31 ++ [o.getD 31 0]=o:=by
 match o,h with
 | [b0,b1,b2,b3,b4,b5,b6,b7,b8,b9,Ξ,Ψ,υ,τ,b14,b15,b16,b17,Ω,ψ,b20,b21,b22,b23,Δ,Γ,Θ,b27,b28,b29,b30,χ],_=>rfl
theorem AQu{o:List Int}{z:Int}:(sb o 0 31 ++ [z]).take 31=sb o 0 31/\(sb o 0 31 ++ [z]).getD 31 0=z:=by
 have hs:(sb o 0 31).length=31:=PD _ _ _;constructor
 ·rw[List.take_append_of_le_length (by omega),N3 (by omega)]
 ·simp[List.getD,hs]
theorem wK(P:Pt):yB (JD P)=P.y/\(128<=(JD P).getD 31 0↔P.x.val%2=1):=by
 have hl:=EN P;have h8:=AAe P;obtain⟨hi,lo⟩:=AHT P.y;have ho:(ck 32 P.y.val).length=32:=Je _ _;have hv:Ct (ck 32 P.y.val)=(P.y.val:Int):=by
  rw[Qv,Nat.mod_eq_of_lt];exact iH P.y.isLt (by decide +kernel)
 by_cases h:P.x.val%2=1
 ·have e:JD P=sb (ck 32 P.y.val) 0 31 ++ [(ck 32 P.y.val).getD 31 0+128]:=by
   unfold JD;rw[if_pos h]
  obtain⟨c1,c2⟩:=AQu (o:=ck 32 P.y.val) (z:=(ck 32 P.y.val).getD 31 0+128);have el:elB (JD P)=ck 32 P.y.val:=by
   rw[qL hl h8,e,c1,c2];have em:((ck 32 P.y.val).getD 31 0+128)%128=(ck 32 P.y.val).getD 31 0:=by omega
   rw[em,ARK ho]
  refine⟨?_,?_⟩
  ·unfold yB;rw[el,hv,AIO]
  ·rw[e,c2];exact⟨λ_=>h,λ_=>by omega⟩
 ·have e:JD P=ck 32 P.y.val:=by
   unfold JD;rw[if_neg h]
  refine⟨?_,?_⟩
  ·unfold yB;rw[ALz hl h8 (by rw[e];exact hi),e,hv,AIO]
  ·rw[e];exact⟨λh2=>by omega,λh2=>absurd h2 h⟩
theorem ACA(P:Pt):∃x,LB dE x (yB (JD P)):=⟨P.x,by rw[(wK P).1];exact P.h⟩
theorem Yx(P:Pt):YW (JD P):=⟨EN P,ACA P⟩
theorem Vx(P:Pt)(h:∃x,LB dE x (yB (JD P))):lX (JD P) h=P:=by
 obtain⟨hy,hb⟩:=wK P;unfold lX;split
 ·rename_i h1;refine AKn _ ?_ hy;have hn:LB dE (-P.x) P.y:=P.neg.h;rw[hy,oh hn (AEX (hb.1 h1))];grind
 ·rename_i h1;refine AMm _ ?_ hy;rw[hy];exact oh P.h (by
   have:¬P.x.val%2=1:=λh=>h1 (hb.2 h)
   omega)
theorem Z7(d x m:List Int):(Pd d x m).take 32=xQ d x m:=by
 unfold Pd;have h:(xQ d x m).length=32:=EN _;rw[List.take_append_of_le_length (by omega),N3 (by omega)]
theorem Wo(d x m:List Int):(Pd d x m).drop 32=ck 32 (LS d x m):=by
 unfold Pd;have h:(xQ d x m).length=32:=EN _;rw[List.drop_append_of_le_length (by omega),List.drop_of_length_le (by omega),yN]
theorem fK(d x m:List Int):((LS d x m:Nat):Int)<Qm:=by
 rw[ou];exact Int.emod_lt_of_pos _ (by decide +kernel)
theorem gN(d x m:List Int):Ct (ck 32 (LS d x m))=((LS d x m:Nat):Int):=by
 rw[Qv,Nat.mod_eq_of_lt];have h:=fK d x m;have h2:Qm<((256^32:Nat):Int):=by decide +kernel
 exact xN.1 (Int.lt_trans h h2)
theorem AG7{a:Int}{k S R:Nat}(h:((S:Nat):Int)=((k:Int)*a+(R:Int))%Qm):((JS.zm a).neg.zm (k:Nat)).add (JS.zm (S:Nat))=JS.zm (R:Nat):=by
 rw[<- Pt.lj, <- Pt.ph, <- Pt.fW];refine ug ?_;rw[<- gI];have e:=Int.emod_add_mul_ediv ((k:Int)*a+(R:Int)) Qm;rw[<- h] at e;refine⟨-(((k:Int)*a+(R:Int))/Qm),?_⟩;rw[Int.mul_neg,Int.neg_mul,Xg a];generalize (k:Int)*a=u at *
 generalize Qm*((u+(R:Int))/Qm)=t at *
 omega
theorem Uu(d x m:List Int)(h:YW (JD (JS.zm (WN x)))):kz d (JD (JS.zm (WN x))) (lX (JD (JS.zm (WN x))) h.2) m (Pd d x m):=by
 rw[Vx];refine⟨Pv d x m,?_,?_⟩
 ·rw[Wo,gN];exact fK d x m
 ·rw[Z7,Wo,gN];have hk:vK d (xQ d x m) (JD (JS.zm (WN x))) m=rfK d x m:=rfl;rw[hk,SN,AG7 (ou d x m),AAm];rfl
end
section
open Go Ma Go.RowKit Go.Lib Go.ChangeShapes Go.WideShapes
theorem TC{b o n c:Nat}:Zp (.slice (some ⟨b,o,none⟩) n c):=.inr ⟨_,_,_,rfl⟩
end
section
open Go Ma Go.RowKit Go.Lib
theorem rP{d lP:List Int}{A:Pt}{m sg:List Int}(h:sg.length≠64):¬kz d lP A m sg:=λg=>h g.1
end
section
open Go Ma Go.RowKit Go.Lib
structure VbP (GC:Nat->Nat->Option Value) (V:Prop) (w:World) (e:Ending) (w':World):Prop where
 ex:∃b:Bool,e= .returned (.tuple #[.bool b,.bool true])/\(b=true↔V)
 an:BM w w' (λ_ _=>False)
 gw:GW GC w'
section
variable {GB:Nat} {GC:Nat->Nat->Option Value} {ad:Nat->Nat×Nat} (hG:Gw GB GC ad) {w:World} (ε:GW GC w) (δ:GB<=w.heap.size) (η:Lib.TabIs Tryz.prog w "internal/strconv.uint64pow10" .u64 Lib.pow10Tab)
variable(hS:C8 w 5 0 R9){P:Pt}{sg msg:List Int}{vp vm vs:Value}(hp:IX w vp (JD P))(zp:Zp vp)(hm:IX w vm msg)(gr:msg.length<=4294967295)(zm:Zp vm)(hs:IX w vs sg)(tE:sg.length<=4294967295)(zs:Zp vs)
include hG ε δ η hS hp zp hm gr zm hs tE zs
theorem UY:Calls Tryz.prog 26 #[vp,vm,vs] w (VbP GC (kz [] (JD P) P msg sg) w):=
 (ABd hG ε δ η hS hp (by rw[EN];omega) zp hm gr zm hs tE zs).mono λe w' h=>by
  rcases h.ex with⟨fS,b,he,hb⟩|⟨iz,-⟩
  ·exact⟨⟨b,he,by rw[Vx] at hb;exact hb⟩,h.an,h.gw⟩
  ·exact absurd (Yx P) iz
end
theorem VR(d x m:List Int):kz d (JD (JS.zm (WN x))) (JS.zm (WN x)) m (Pd d x m):=by
 have h:=Uu d x m (Yx (JS.zm (WN x)));rw[Vx] at h;exact h
theorem Qf{w:World}{v:Value}{xs:List Int}(h:IX w v xs)(h0:0<xs.length):Zp v:=by
 obtain⟨b,o,c,hv,-, -⟩:=h.has h0;exact .inr ⟨_,_,_,hv⟩
section
variable{ρ:Operand->Value}{d:Option Tmp}{x y z:Operand}{ty t t':TypeId}{pos:String}{af:Array Edge}{w:World}{gd:Option (Nat×Bool)}
theorem Jb{p:Option Addr}{m c:Nat}(h:ρ x= .slice p m c):(execOp ρ ⟨d,.call ⟨.builtin .len,#[x],#[22]⟩,ty,pos,af,gd⟩).run Tryz.prog w= .ok (.value (.int .i64 m)) w:=by
 simp[go_sem,h]
theorem KQ{i j:Int}(h:ρ x= .int .i64 i)(hy:ρ y= .int .i64 j):(execOp ρ ⟨d,.binOp .gtr 3 x y 3,ty,pos,af,gd⟩).run Tryz.prog w= .ok (.value (.bool (decide (j<i)))) w:=by
 simp[execOp,go_sem,h,hy]
theorem AMF{i j:Int}(h:ρ x= .int .i64 i)(hy:ρ y= .int .i64 j):(execOp ρ ⟨d,.binOp .lss 3 x y 3,ty,pos,af,gd⟩).run Tryz.prog w= .ok (.value (.bool (decide (i<j)))) w:=by
 simp[execOp,go_sem,h,hy]
theorem WS{i j:Int}(h:ρ x= .int .i64 i)(hy:ρ y= .int .i64 j):(execOp ρ ⟨d,.binOp .neq 3 x y 3,ty,pos,af,gd⟩).run Tryz.prog w= .ok (.value (.bool (i != j))) w:=by
 simp[execOp,go_sem,h,hy]
theorem ADO{i j:Int}(h:ρ x= .int .i64 i)(hy:ρ y= .int .i64 j):(execOp ρ ⟨d,.binOp .eql 3 x y 3,ty,pos,af,gd⟩).run Tryz.prog w= .ok (.value (.bool (i == j))) w:=by
 simp[execOp,go_sem,h,hy]
theorem Ra{c:Bool}(h:ρ x= .bool c):(execOp ρ ⟨d,.unOp .not t x,ty,pos,af,gd⟩).run Tryz.prog w= .ok (.value (.bool (!c))) w:=by
 simp[execOp,go_sem,h]
end
end
section
open Go Ma Go.RowKit Go.Lib Go.ChangeShapes Go.WideShapes
set_option maxRecDepth 100000 in
theorem AJY(a a' a2:Option Addr)(n c n' c' n2 c2:Nat)(z:Int)(w:World)(_h1:¬(n:Int)=32):Calls Tryz.prog 11 #[.slice a n c,.slice a' n' c',.int .i64 z,.slice a2 n2 c2] w (Q3 w):=by
 go_enter Tryz.func11,Tryz.ntmps11
 go_wp2
 all_goals go_ret
 all_goals exact⟨rfl,Below.refl _ _⟩
set_option maxRecDepth 100000 in
theorem ALR(a a' a2:Option Addr)(c n' c' n2 c2:Nat)(z:Int)(w:World)(_h1:1048576<(n':Int)):Calls Tryz.prog 11 #[.slice a 32 c,.slice a' n' c',.int .i64 z,.slice a2 n2 c2] w (Q3 w):=by
 go_enter Tryz.func11,Tryz.ntmps11
 go_wp2
 all_goals go_ret
 all_goals exact⟨rfl,Below.refl _ _⟩
set_option maxRecDepth 100000 in
theorem AJa(a a' a2:Option Addr)(c n' c' n2 c2:Nat)(z:Int)(w:World)(_h0:(n':Int)<=1048576)(_h1:z<0\/63<z):Calls Tryz.prog 11 #[.slice a 32 c,.slice a' n' c',.int .i64 z,.slice a2 n2 c2] w (Q3 w):=by
 rcases _h1 with _h1|_h1
 all_goals
  go_enter Tryz.func11,Tryz.ntmps11
  go_wp2
  all_goals go_ret
  all_goals exact⟨rfl,Below.refl _ _⟩
set_option maxRecDepth 100000 in
theorem AGs(a a' a2:Option Addr)(c n' c' c2:Nat)(z:Int)(w:World)(_h0:(n':Int)<=1048576)(_h1:0<=z)(_h2:z<=63):Calls Tryz.prog 11 #[.slice a 32 c,.slice a' n' c',.int .i64 z,.slice a2 0 c2] w (Q3 w):=by
 go_enter Tryz.func11,Tryz.ntmps11
 go_wp2
 all_goals go_ret
 all_goals exact⟨rfl,Below.refl _ _⟩
set_option maxRecDepth 100000 in
theorem AHJ(a a' a2:Option Addr)(c n' c' n2 c2:Nat)(z:Int)(w:World)(_h0:(n':Int)<=1048576)(_h1:2147483647<(n2:Int)):Calls Tryz.prog 11 #[.slice a 32 c,.slice a' n' c',.int .i64 z,.slice a2 n2 c2] w (Q3 w):=by
 go_enter Tryz.func11,Tryz.ntmps11
 go_wp2
 all_goals go_ret
 all_goals exact⟨rfl,Below.refl _ _⟩
section
variable{GB:Nat}{GC:Nat->Nat->Option Value}{ad:Nat->Nat×Nat}(hG:Gw GB GC ad)
include hG
set_option maxRecDepth 100000 in
theorem AO5 {w:World} {b0 o0 c0:Nat} {a' a2:Option Addr} {n' c' n2 c2 q:Nat} {x m r:List Int} (ε:GW GC w) (δ:GB<=w.heap.size) (η:Lib.TabIs Tryz.prog w "internal/strconv.uint64pow10" .u64 Lib.pow10Tab) (hS:C8 w 5 0 R9) (kB:C8 w b0 o0 x) (hl:x.length=32) (CA:32<=c0) (hm:IX w (.slice a' n' c') m) (gr:m.length=n') (hn:(n':Int)<=1048576) (hz:Zp (.slice a' n' c'))
  (hq:q<=63) (hr:IX w (.slice a2 n2 c2) r) (ID:r.length=n2) (So:0<n2) (hn3:(n2:Int)<=2147483647):
  Calls Tryz.prog 11 #[.slice (some ⟨b0,o0,none⟩) 32 c0,.slice a' n' c',.int .i64 ((q:Nat):Int),.slice a2 n2 c2] w (Q3 w):=by
 have hx:IX w (.slice (some ⟨b0,o0,none⟩) 32 c0) x:=IX.cR kB hl CA;have k1:decide ((2147483647:Int)<((n':Nat):Int))=false:=decide_eq_false (by omega);have k2:decide ((1048576:Int)<((n':Nat):Int))=false:=decide_eq_false (by omega);have k3:decide ((2147483647:Int)<((n2:Nat):Int))=false:=decide_eq_false (by omega);have k4:decide (((q:Nat):Int)<0)=false:=decide_eq_false (by omega);have k5:decide ((63:Int)<((q:Nat):Int))=false:=decide_eq_false (by omega);have k6:((((n2:Nat):Int)) == 0)=false:=by simpa using(by omega:¬((n2:Nat):Int)=0)
 refine enter (args:=[.slice (some ⟨b0,o0,none⟩) 32 c0,.slice a' n' c',.int .i64 ((q:Nat):Int),.slice a2 n2 c2]) Tryz.func11 rfl (n:=116) rfl λa F=>?_
 refine AO (AX F rfl λa F=>AJ ?_);refine wp_seq (AO (AA F rfl λa F=>AZ F rfl (NL (m:=32) F.e) λa F=>AZ F rfl (V3 F.e rfl) λa F=>AA F rfl λa F=>Al (s:=24) F rfl rfl rfl rfl rfl rfl (Ej F.e) λa F=>Al (s:=24) F rfl rfl rfl rfl rfl rfl (Jb (m:=n') F.e) λa F=>Al (s:=24) F rfl rfl rfl rfl rfl rfl (KQ F.e rfl) λa F=>AZ F rfl (Ik F.e (F.ev (EH Value.bool k1))) λa F=>AA F rfl λa F=>Al (s:=29) F rfl rfl rfl rfl rfl rfl (Ej F.e) λa F=>Al (s:=29) F rfl rfl rfl rfl rfl rfl (Jb (m:=n2) F.e) λa F=>Al (s:=29) F rfl rfl rfl rfl rfl rfl (KQ F.e rfl) λa F=>AZ F rfl (Ik F.e (F.ev (EH Value.bool k3))) λa F=>AJ (wp_cond (t:=false) F.e (wp_skip ?_))));refine wp_seq (AO (AA F rfl λa F=>AZ F rfl (NL (m:=32) F.e) λa F=>AZ F rfl (OV (i:=32) (j:=32) F.e rfl) λa F=>AA F rfl λa F=>Al (s:=37) F rfl rfl rfl rfl rfl rfl (Ej F.e) λa F=>Al (s:=37) F rfl rfl rfl rfl rfl rfl (Jb (m:=n') F.e) λa F=>Al (s:=37) F rfl rfl rfl rfl rfl rfl (KQ F.e rfl) λa F=>AZ F rfl (Ik F.e (F.ev (EH Value.bool k2))) λa F=>AA F rfl λa F=>Al (s:=42) F rfl rfl rfl rfl rfl rfl (Ej F.e) λa F=>Al (s:=42) F rfl rfl rfl rfl rfl rfl (AMF F.e rfl) λa F=>AZ F rfl (Ik F.e (F.ev (EH Value.bool k4))) λa F=>AA F rfl λa F=>Al (s:=46) F rfl rfl rfl rfl rfl rfl (Ej F.e) λa F=>Al (s:=46) F rfl rfl rfl rfl rfl rfl (KQ F.e rfl) λa F=>AZ F rfl (Ik F.e (F.ev (EH Value.bool k5))) λa F=>AA F rfl λa F=>Al (s:=50) F rfl rfl rfl rfl rfl rfl (Ej F.e) λa F=>Al (s:=50) F rfl rfl rfl rfl rfl rfl (Jb (m:=n2) F.e) λa F=>Al (s:=50) F rfl rfl rfl rfl rfl rfl (ADO F.e rfl) λa F=>AZ F rfl (Ik F.e (F.ev (EH Value.bool k6))) λa F=>AJ (wp_cond (t:=false) F.e (wp_skip ?_))));show Code.wp _ _ _ _ _;obtain⟨f,F,e0,e1,e2,e3⟩:∃f,Fr a 116 f/\f 0= .slice (some ⟨b0,o0,none⟩) 32 c0/\f 1= .slice a' n' c'/\f 2= .int .i64 ((q:Nat):Int)/\f 3= .slice a2 n2 c2:=⟨_,F,rfl,rfl,rfl,rfl⟩;refine AO (AA F rfl λa F=>DI F rfl (Ar rfl (F.ev (t:=56) e0) Tryz.call17) (WT hG ε δ hx hl) λe w1 h1=>?_);obtain⟨v0,v1,v2,he,-, -,m2⟩:=h1.ret;refine⟨_,he,λa F=>AA F rfl λa F=>AZ F rfl (Ka F.e (by decide)) λa F=>AZ F rfl (Ka F.e (by decide)) λa F=>AZ F rfl (Ka F.e (by decide)) λa F=>AZ F rfl (Ka F.e (by decide)) λa F=>AB F rfl λa F=>AB F rfl λa F=>AB F rfl λa F=>AB F rfl λa F=>AJ ?_⟩;have g1:=h1.an;rw[(RG hl).2.2] at m2;have pB:=X4 hG h1.gw (z8 δ g1.1) (hx.bc g1) hl (hm.bc g1) (by omega) hz;rw[TM (d:=[]) hl] at pB;obtain⟨f,F,e0,e1,e2,e3,gj,hU⟩:∃f,Fr a 116 f/\f 0= .slice (some ⟨b0,o0,none⟩) 32 c0/\f 1= .slice a' n' c'/\f 2= .int .i64 ((q:Nat):Int)/\f 3= .slice a2 n2 c2/\f 11=v2/\f 12= .bool true:=⟨_,F,e0,e1,e2,e3,rfl,rfl⟩;refine AO (AA F rfl λa F=>AA F rfl λa F=>DI F rfl (Au rfl (F.ev (t:=63) e0) (F.ev (t:=64) e1) Tryz.call20) pB λe w2 h2=>?_);obtain⟨s1,he,n1⟩:=h2.ret;have sB:=Pv [] x m;obtain⟨b1,o1,c1,rp,tS,k8⟩:=n1.has (by rw[sB];omega);rw[sB] at rp tS;subst rp;refine⟨_,he,λa F=>AA F rfl λa F=>AZ F rfl (EZ F.e) λa F=>AZ F rfl (DW F.e) λa F=>AB F rfl λa F=>AB F rfl λa F=>AJ ?_⟩;have g2:=g1.trans h2.an;have p2:=m2.bc h2.an;have zp:Zp v2:=Qf m2 (by rw[EN];omega);obtain⟨f,F,e1,e2,e3,gj,hU,μ,BT⟩:∃f,Fr a 116 f/\f 1= .slice a' n' c'/\f 2= .int .i64 ((q:Nat):Int)/\f 3= .slice a2 n2 c2/\f 11=v2/\f 12= .bool true/\f 13= .slice (some ⟨b1,o1,none⟩) 64 c1/\f 14= .bool true:=⟨_,F,e1,e2,e3,gj,hU,rfl,rfl⟩;refine AO (AA F rfl λa F=>AA F rfl λa F=>AA F rfl λa F=>DI F rfl (Ea rfl (F.ev (t:=69) gj) (F.ev (t:=70) e1) (F.ev (t:=71) μ) Tryz.call26) (UY hG h2.gw (z8 δ g2.1) (JX η g2) (hS.bc g2) p2 zp (hm.bc g2) (by omega) hz n1 (by omega) TC) λe w3 h3=>?_);obtain⟨bb,he,hb⟩:=h3.ex;obtain rfl:=hb.2 (VR [] x m);refine⟨_,he,λa F=>AA F rfl λa F=>AZ F rfl (EZ F.e) λa F=>AZ F rfl (DW F.e) λa F=>AB F rfl λa F=>AB F rfl λa F=>AJ ?_⟩;have g3:=g2.trans h3.an;obtain⟨f,F,e1,e2,e3,gj,hU,μ,BT,CH⟩:∃f,Fr a 116 f/\f 1= .slice a' n' c'/\f 2= .int .i64 ((q:Nat):Int)/\f 3= .slice a2 n2 c2/\f 11=v2/\f 12= .bool true/\f 13= .slice (some ⟨b1,o1,none⟩) 64 c1/\f 14= .bool true/\f 15= .bool true:=⟨_,F,e1,e2,e3,gj,hU,μ,BT,rfl⟩;refine wp_seq (AO (AA F rfl λa F=>AZ F rfl (Ra (F.ev (t:=75) hU)) λa F=>AA F rfl λa F=>Al (s:=77) F rfl rfl rfl rfl rfl rfl (Ej (F.ev BT)) λa F=>Al (s:=77) F rfl rfl rfl rfl rfl rfl (Ra F.e) λa F=>AZ F rfl (Ik F.e F.e) λa F=>AA F rfl λa F=>Al (s:=81) F rfl rfl rfl rfl rfl rfl (Ej (F.ev CH)) λa F=>Al (s:=81) F rfl rfl rfl rfl rfl rfl (Ra F.e) λa F=>AZ F rfl (Ik F.e F.e) λa F=>AA F rfl λa F=>Al (s:=85) F rfl rfl rfl rfl rfl rfl (Ej (F.ev μ)) λa F=>Al (s:=85) F rfl rfl rfl rfl rfl rfl (Jb (m:=64) F.e) λa F=>Al (s:=85) F rfl rfl rfl rfl rfl rfl (WS (i:=64) (j:=64) F.e rfl) λa F=>AZ F rfl (Ik F.e F.e) λa F=>AJ (wp_cond (t:=false) F.e (wp_skip ?_))));show Code.wp _ _ _ _ _;obtain⟨f,F,e1,e2,e3,gj,μ⟩:∃f,Fr a 116 f/\f 1= .slice a' n' c'/\f 2= .int .i64 ((q:Nat):Int)/\f 3= .slice a2 n2 c2/\f 11=v2/\f 13= .slice (some ⟨b1,o1,none⟩) 64 c1:=⟨_,F,e1,e2,e3,gj,μ⟩;have lq:((Pd [] x m).take q).length=q:=by rw[Rk,sB];omega
 have nq:IX w3 (.slice (some ⟨b1,o1,none⟩) q c1) ((Pd [] x m).take q):=IX.cR (((k8.sub (i:=0) (k:=q) (by omega))).bc h3.an) lq (by omega);refine AO (AA F rfl λa F=>AA F rfl λa F=>AA F rfl λa F=>AA F rfl λa F=>AZ F rfl (Yh (k:=q) (F.ev (t:=93) μ) (F.ev (t:=94) e2) (by omega)) λa F=>DI F rfl (Ea rfl (F.ev (t:=91) gj) (F.ev (t:=92) e1) (F.ev (t:=95) rfl) Tryz.call26) (UY hG h3.gw (z8 δ g3.1) (JX η g3) (hS.bc g3) (p2.bc h3.an) zp (hm.bc g3) (by omega) hz nq (by omega) TC) λe w4 h4=>?_);obtain⟨bb,he,hb⟩:=h4.ex;have hbf:bb=false:=by
  cases bb with
  |false=>rfl
  |true=>exact absurd (hb.1 rfl) (rP (by omega))
 subst hbf;refine⟨_,he,λa F=>AA F rfl λa F=>AZ F rfl (EZ F.e) λa F=>AZ F rfl (DW F.e) λa F=>AB F rfl λa F=>AB F rfl λa F=>AJ ?_⟩;have g4:=g3.trans h4.an;have f24:=h3.an.trans h4.an;obtain⟨f,F,e1,e3,gj,μ,e17⟩:∃f,Fr a 116 f/\f 1= .slice a' n' c'/\f 3= .slice a2 n2 c2/\f 11=v2/\f 13= .slice (some ⟨b1,o1,none⟩) 64 c1/\f 17= .bool false:=⟨_,F,e1,e3,gj,μ,rfl⟩;refine AO (AA F rfl λa F=>AA F rfl λa F=>AZ F rfl ADP λa F=>AA F rfl λa F=>?_);have O2:=dR w4 #[] 0 (by omega) rfl;have b2:=OA w4 (.cells #[] 5);generalize hw5:w4.alloc (.cells #[] 5)=w5 at O2 b2 ⊢;clear hw5;refine fE (ys:=Pd [] x m) F rfl O2 (by show IX _ (f 13) _;rw[μ];exact(n1.bc f24).bc (Jd b2)) (by rw[SM];omega) b2.size λv6 w6 a O6 b6 F=>AA F rfl λa F=>?_
 rw[yN] at O6;have b6':=b2.trans b6;refine fE (ys:=r) F rfl O6 (by show IX _ (f 3) _;rw[e3];exact hr.bc (g4.trans (Jd b6'))) (by omega) b6'.size λv7 w7 a O7 b7 F=>?_
 have b7':=b6'.trans b7;have f7:BM w4 w7 (λ_ _=>False):=Jd b7';have g7:=g4.trans f7;have n7:=O7.msg (X0 n1.jn hr.jn);have l7:(Pd [] x m++r).length=64+n2:=by rw[MN,sB,ID]
 refine DI F rfl (Ea rfl (F.ev (t:=100) gj) (F.ev (t:=101) e1) (F.ev (t:=106) rfl) Tryz.call26) (UY hG (Jk hG ε g7 δ) (z8 δ g7.1) (JX η g7) (hS.bc g7) ((p2.bc f24).bc f7) zp (hm.bc g7) (by omega) hz n7 (by omega) (Qf n7 (by omega))) λe w8 h8=>?_
 obtain⟨bb,he,hb⟩:=h8.ex;have hbf:bb=false:=by
  cases bb with
  |false=>rfl
  |true=>exact absurd (hb.1 rfl) (rP (by omega))
 subst hbf;refine⟨_,he,λa F=>AA F rfl λa F=>AZ F rfl (EZ F.e) λa F=>AZ F rfl (DW F.e) λa F=>AB F rfl λa F=>AB F rfl λa F=>AJ ?_⟩;have g8:=g7.trans h8.an;obtain⟨f,F,e17,e19⟩:∃f,Fr a 116 f/\f 17= .bool false/\f 19= .bool false:=⟨_,F,e17,rfl⟩;refine AO (AA F rfl λa F=>AZ F rfl (Ra (F.ev (t:=110) e17)) λa F=>AA F rfl λa F=>Al (s:=112) F rfl rfl rfl rfl rfl rfl (Ej (F.ev e19)) λa F=>Al (s:=112) F rfl rfl rfl rfl rfl rfl (Ra F.e) λa F=>AZ F rfl (Qq F.e F.e) λa F=>AB F rfl λa F=>AJ ?_);refine DC ⟨F.df,.bool true,?_,rfl,Pf g8 λ_ _ h=>h⟩;simp[results,Tryz.results11,go_sem];exact F.gd rfl
end
set_option maxRecDepth 100000 in
theorem UN {GB:Nat} {GC:Nat->Nat->Option Value} {ad:Nat->Nat×Nat} (hG:Gw GB GC ad) {H:Type} {enc:TypeId×Value->H} {W:World} {EC:Nat} {v0 v1 v2 v3:Value} {d0 d1 d2 d3:DataW H} {p0 p1 p2 p3:List MemPlace} (η:Lib.TabIs Tryz.prog W "internal/strconv.uint64pow10" .u64 Lib.pow10Tab) (hS:C8 W 5 0 R9) (ε:GW GC W) (δ:GB<=W.heap.size)
  (Ft:Value.okWide Tryz.prog W .any EC 22 v0) (h0:DataW.Trod enc Tryz.prog W 0 (λ_=>true) true 22 v0 d0 p0) (rp:Value.okWide Tryz.prog W .any EC 22 v1) (h1:DataW.Trod enc Tryz.prog W 0 (λ_=>true) true 22 v1 d1 p1) (Ds:Value.okWide Tryz.prog W .any EC 3 v2) (h2:DataW.Trod enc Tryz.prog W 0 (λ_=>true) true 3 v2 d2 p2) (hv3:Value.okWide Tryz.prog W .any EC 22 v3) (h3:DataW.Trod enc Tryz.prog W 0 (λ_=>true) true 22 v3 d3 p3):
  Calls Tryz.prog 11 #[v0,v1,v2,v3] W λe W'=>e= .returned (.bool true)/\Below W.heap.size W W':=by
 obtain⟨z,rfl,-⟩:=ChangeShapes.open_int Tryz.underlying3 Ds h2;obtain⟨a',n',c',m,rfl,hm,pT,hz⟩:=OJ rp h1;obtain⟨a2,n2,c2,r,rfl,hr,cL,-⟩:=OJ hv3 h3;rcases Wp 32 (by omega) Tryz.underlying22 Tryz.underlying5 (by kernel_rfl) Ft h0 with⟨a,n,c,rfl,hn⟩|⟨b,o,c,xs,rfl,hc,hl,hx⟩
 ·exact AJY _ _ _ _ _ _ _ _ _ _ W (by omega)
 ·by_cases hbig:1048576<(n':Int)
  ·exact ALR _ _ _ _ _ _ _ _ _ W hbig
  ·by_cases hz0:z<0\/63<z
   ·exact AJa _ _ _ _ _ _ _ _ _ W (by omega) hz0
   ·by_cases h0:n2=0
    ·subst h0;exact AGs _ _ _ _ _ _ _ _ W (by omega) (by omega) (by omega)
    ·by_cases hh:2147483647<(n2:Int)
     ·exact AHJ _ _ _ _ _ _ _ _ _ W (by omega) hh
     ·obtain⟨q,rfl⟩:∃q:Nat,z=q:=⟨z.toNat,by omega⟩;exact AO5 hG ε δ η hS hx hl hc hm pT (by omega) hz (by omega) hr cL (by omega) (by omega)
end
end Go.Proofs.YtloibefkijfdlaaGreatDoor
