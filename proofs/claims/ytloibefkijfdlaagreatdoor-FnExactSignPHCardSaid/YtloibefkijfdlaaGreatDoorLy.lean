/- Bytes as a number, reduced: by hand. -/
import Derived.Test.YtloibefkijfdlaaGreatDoorLzx
import Derived.Laws.OwnMore
namespace Go.Proofs.YtloibefkijfdlaaGreatDoor
noncomputable section
open Go Go.RowKit Go.Lib Ma
section
variable{ρ:Operand→Value}{d:Option Tmp}{x y:Operand}{ty:TypeId}{pos:String}{af:Array Edge}{w:World}{b o:Nat}
theorem AP8{cs:Array Value}(h:ρ x= .agg cs):(execOp ρ ⟨d,.box 52 x,ty,pos,af,none⟩).run Tryz.prog w= .ok (.value (.pointer (some ⟨w.heap.size,0,none⟩))) (w.alloc (.cells cs 52)):=by
 simp[execOp,go_sem,h]
theorem ARp{a:Act}:(execOp a.eval ⟨d,.build 52 #[],ty,pos,af,none⟩).run Tryz.prog w= .ok (.value (.agg (AZ U8 [0,0,0,0,0,0,0,0]).toArray)) w:=by
 simp[execOp,go_sem];rfl
theorem oO:(execOp ρ ⟨d,.alloc 52,ty,pos,af,none⟩).run Tryz.prog w= .ok (.value (.pointer (some ⟨w.heap.size,0,none⟩))) (w.alloc (.cells (Array.replicate 8 (.int .u64 0)) 52)):=by
 simp[execOp,go_sem];rfl
theorem ARI{n c k:Nat}(h:ρ x= .slice (some ⟨b,o,none⟩) n c)(hy:ρ y= .int .i64 k)(hk:k<n):(execOp ρ ⟨d,.indexAddr 22 x y,ty,pos,af,none⟩).run Tryz.prog w= .ok (.value (.pointer (some ⟨b,o+k,none⟩))) w:=by
 simp[execOp,go_sem,h,hy,hk]
theorem AR5{i:Int}(h:ρ x= .pointer (some ⟨b,o,none⟩))(hc:w.cell? ⟨b,o,none⟩=some (.int .u8 i)):(execOp ρ ⟨d,.load 5 x,ty,pos,af,none⟩).run Tryz.prog w= .ok (.value (.int .u8 i)) w:=by
 simp[execOp,go_sem,h,hc]
theorem AMO{v:Int}{k:Nat}(hx:ρ x= .int .u8 v)(hy:ρ y= .int .i64 (k:Int)):(execOp ρ ⟨d,.binOp .shr 5 x y 3,ty,pos,af,none⟩).run Tryz.prog w= .ok (.value (.int .u8 (Ao .shr .u8 v k))) w:=by
 simp[execOp,go_sem,hx,hy,Ao];rw[Int.fdiv_eq_ediv_of_nonneg _ (Int.le_of_lt (Int.pow_pos (by decide)))]
theorem ANp{v:Int}(hx:ρ x= .int .u8 v)(hy:ρ y= .int .u8 2):(execOp ρ ⟨d,.binOp .rem 5 x y 5,ty,pos,af,none⟩).run Tryz.prog w= .ok (.value (.int .u8 (Ao .rem .u8 v 2))) w:=by
 simp[execOp,go_sem,hx,hy,Ao]
theorem ATT{v j:Int}(hx:ρ x= .int .u8 v)(hy:ρ y= .int .u8 j):(execOp ρ ⟨d,.binOp .eql 5 x y 5,ty,pos,af,none⟩).run Tryz.prog w= .ok (.value (.bool (v == j))) w:=by
 simp[execOp,go_sem,hx,hy]
end
theorem AHJ{GB:Nat}{w:World}{ks:List IntKind}{g:Nat}{v:Value}{vs:List Value}{ps:List GG}{b:Nat×Nat}{bs:List (Nat×Nat)}:∀ {q:List (List Int)},Kt GB w (.mem ks g true::ps) (v::vs) q (b::bs)→Ar true w b ks (q.getD 0 [])
 |_::_,h=>h.1.2.1
 | [],h=>h.elim
def r10:Code:=Yi 10 (Ab Tryz.f42)
def zo:XG:=⟨⟨6000,r10,Tryz.f42.ntmps,99,[],⟨[.mem U8 1 true,.mem U8 0 false],true,fun _=>True,[(0,U8,z1)],[],[]⟩,[5,3],(Sv r10).filter (fun t=>Tu t [5,3]),fun _=>1⟩,[],[]⟩
def C10:Cx:=GJ [(71,.one Eb),(68,.one DU)] []
theorem AG3:(zo.chk C10&&Sw (zo.i.tree C10))=true:=by kernel_rfl
theorem AVe{T:Tb}{o m:List Int}:(zo.stepT T C10 [o,m]).map (fun x=>x.1.getD 0 [])=some (gv T 71 0 [o,gv T 68 0 [[1]],m]):=by kernel_rfl
theorem AR9:Tryz.f42.ntmps=37:=by kernel_rfl
section
variable{GB:Nat}{GC:Nat→Nat→Option Value}{ad:Nat→Nat×Nat}(hG:Jk GB GC ad)
include hG
theorem APy:Sb Tryz.prog C10 GB GC:=OJ hG (.cons (k:=71) rfl (Lh hG) Tryz.call71 (AQ.len _ _) (.cons (k:=68) rfl (Ik hG) Tryz.call68 (AQ.len _ _) .nil)) Su.nil
theorem ANO{a:Act}{w:World}{f:Nat→Value}{bo bm:Nat}{o m:List Int}(F:Fr a 37 f)(ε:GW GC w)(δ:GB≤w.heap.size)(h5:f 5= .pointer (some ⟨bo,0,none⟩))(h3:f 3= .pointer (some ⟨bm,0,none⟩))(mo:Ar true w (bo,0) U8 o)(hbo:GB≤bo)(mm:Ar false w (bm,0) U8 m)(hne:bo≠bm):
  r10.wp Tryz.prog (fun e a' w'=>e= .normal∧∃ f',Fr a' 37 f'∧Ar true w' (bo,0) U8 (gv C10.T 71 0 [o,gv C10.T 68 0 [[1]],m])∧CV w w' (fun b _=>b=bo)∧GW GC w'∧f' 0=f 0∧f' 3=f 3∧f' 4=f 4∧f' 5=f 5∧f' 6=f 6∧f' 7=f 7) a w:=by
 have c:=AG3;simp only[Bd] at c;have hP:Kt GB w zo.i.s0.params (zo.i.ps.map fun t=>a.tmps.getD t undef) [o,m] [(bo,0),(bm,0)]:=⟨⟨(F.tm 5).trans h5,mo,fun _=>hbo⟩,⟨(F.tm 3).trans h3,mm,fun h=>(by cases h)⟩,trivial⟩;have hS:G8 zo.i.s0.params [(bo,0),(bm,0)]:=⟨fun x hx=>by
   have hx':x=(GG.mem U8 0 false,(bm,0)):=Nc.1 hx;subst hx';exact fun _=>.inr (.inl hne),fun x hx=>(by cases hx),trivial⟩
 have hr:=Nj (g:=zo) (APy hG) c.1 (EE hG (.inl rfl)).1 (EE hG (.inl rfl)).2 (AIm (GB:=GB) (GC:=GC) rfl rfl _) ε δ hP hS (F.sz.trans AR9.symm) F.df (Og c.2);refine wp_mono hr ?_
 rintro e a' w' ⟨q,q2,bs2,hs,rfl,-,hm,hf,n1,n2,n3,n4,n5⟩
 have hv:=@AVe C10.T o m;rw[Tz zo C10 [o,m]] at hs;rw[hs] at hv;have hv:=SY hv;refine⟨rfl,_,Zd F (n1.trans AR9) n2,?_,hf.mono fun b o _ hS=>?_,n5,?_,?_,?_,?_,?_,?_⟩
 ·have hm1:=AHJ (ps:=zo.i.s0.params.tail) hm;rw[show q.getD 0 []=_ from hv] at hm1;exact hm1
 ·obtain⟨p',hp',h1,h2,h3⟩:=hS;have hp2:p' ∈ [((0:Nat),U8,(Go.Proofs.YtloibefkijfdlaaGreatDoor.z1:PF))]:=hp';rw[Nc] at hp2;subst hp2;exact h1
 ·rw[← F.tm 0];exact n3 0 (Eh.1 (by kernel_rfl))
 ·rw[← F.tm 3];exact n4 1 3 _ rfl (by simp[GG.reg]) rfl
 ·rw[← F.tm 4];exact n3 4 (Eh.1 (by kernel_rfl))
 ·rw[← F.tm 5];exact n4 0 5 _ rfl (by simp[GG.reg]) rfl
 ·rw[← F.tm 6];exact n3 6 (Eh.1 (by kernel_rfl))
 ·rw[← F.tm 7];exact n3 7 (Eh.1 (by kernel_rfl))
theorem AEe{w:World}(ε:GW GC w)(δ:GB≤w.heap.size){a b m:List Int}{x y q:Int}(h1:Hf U8 a)(h2:Hf U8 b)(h3:Hf U8 m)(ha:N8 a x)(hb:N8 b y)(hm:N8 m q)(hx:x<q)(hy:y<q)(hq:2*q≤pw 8):
  Calls Tryz.prog 71 #[.agg (AZ U8 a).toArray,.agg (AZ U8 b).toArray,.agg (AZ U8 m).toArray] w (AgP GC U8 (LH.raw LY 0 [a,b,m]) w):=by
 have:=Oz (F:=fun a=>Aw 8 (LH.raw LY 0 a)) (ks:=U8) (args:=[.agg (AZ U8 a).toArray,.agg (AZ U8 b).toArray,.agg (AZ U8 m).toArray]) (ins:=[a,b,m]) (bs:=[(0,0),(0,0),(0,0)]) ε δ (Lh hG) rfl rfl ⟨⟨h1,rfl⟩,⟨h2,rfl⟩,⟨h3,rfl⟩,trivial⟩ (eF (eF nS)) (fun h=>absurd (show false=true from h) (by decide));rw[Au (ZQ ha hb hm hx hy hq).len] at this;exact this
end
theorem AIa{o m:List Int}{v q:Int}(ho:N8 o v)(hm:N8 m q)(hv:v<q)(h1:1<q)(hq:2*q≤pw 8):N8 (gv C10.T 71 0 [o,gv C10.T 68 0 [[1]],m]) ((v+1)%q):=by
 have T1:lk 71 C10.T=some (.one Eb):=rfl;have T2:lk 68 C10.T=some (.one DU):=rfl;generalize C10.T=T at *
 exact Zm T1 ho (wC T2 (n:=1) (by decide)) hm hv h1 hq
theorem AKH{A c q:Int}:(A%q+A%q+c)%q=(2*A+c)%q:=by
 have h:=Int.emod_add_mul_ediv A q;have e:2*A+c=(A%q+A%q+c)+q*(2*(A/q)):=by
  have:2*A=2*(A%q+q*(A/q)):=by rw[h]
  rw[this]
  grind
 rw[e,Int.add_mul_emod_self_left]
theorem ANG{V X q:Int}{k:Nat}(hk:k<8):((V*2^(7-k)+X/2^(k+1))%q+(V*2^(7-k)+X/2^(k+1))%q+X/2^k%2)%q=(V*2^(8-k)+X/2^k)%q:=by
 rw[AKH];have e1:X/2^(k+1)=X/2^k/2:=by rw[zcq,Int.ediv_ediv_of_nonneg (Int.le_of_lt (Int.pow_pos (by decide)))]
 have e2:(2:Int)^(8-k)=2^(7-k)*2:=by rw[← zcq,show (7-k).succ=8-k by omega]
 rw[e1,e2];generalize X/2^k=Y;generalize (2:Int)^(7-k)=t;have e3:2*(V*t+Y/2)+Y%2=V*(t*2)+Y:=by
  have:=Int.emod_add_mul_ediv Y 2
  grind
 rw[e3]
theorem AST{v:Int}{k:Nat}(h:0≤v∧v≤255)(hk:k<8):(Ao .rem .u8 (Ao .shr .u8 v k) 2 == 1)=decide (v/2^k%2=1):=by
 have h2:(2:Int)^k=((2^k:Nat):Int):=by push_cast;rfl
 have hp:(1:Int)≤2^k:=Int.pow_pos (by decide);have h0:0≤v/2^k:=Int.ediv_nonneg h.1 (by omega);have e1:Ao .shr .u8 v k=v/2^k:=by
  show v.fdiv (2^(min ((k:Int)).toNat 8))=_;rw[TJ,Nat.min_eq_left (by omega),Int.fdiv_eq_ediv_of_nonneg _ (by omega)]
 rw[e1];have e2:Ao .rem .u8 (v/2^k) 2=v/2^k%2:=by
  show Int.tmod _ 2=_;rw[Int.tmod_eq_emod_of_nonneg h0]
 rw[e2]
 rcases Int.emod_two_eq (v/2^k) with h|h<;>rw[h]<;>rfl
theorem AF5{x:List Int}{i:Nat}(h:i<x.length):IG (x.drop i)=x.getD i 0+256*IG (x.drop (i+1)):=by
 rw[List.drop_eq_getElem_cons h];have:x.getD i 0=x[i]:=by simp[List.getD,h]
 rw[this];rfl
structure RJ (GC:Nat→Nat→Option Value) (w:World) (B3 B4 B5 b o n c:Nat) (m x:List Int) (v:Int) (f:Nat→Value) (w':World):Prop where
 f0:f 0= .slice (some ⟨b,o,none⟩) n c
 f3:f 3= .pointer (some ⟨B3,0,none⟩)
 f4:f 4= .pointer (some ⟨B4,0,none⟩)
 f5:f 5= .pointer (some ⟨B5,0,none⟩)
 mo:∃ out,Ar true w' (B5,0) U8 out∧N8 out v
 mr:Ar true w' (B4,0) U8 (List.replicate 8 0)
 mm:Ar true w' (B3,0) U8 m
 h8:Fe w' b o x
 fr:CV w w' (fun _ _=>False)
 gw:GW GC w'
theorem Fe.frmS{w w':World}{b o B:Nat}{xs:List Int}(h:Fe w b o xs)(hf:CV w w' (fun b _=>b=B))(hn:b≠B):Fe w' b o xs:=⟨h.1,fun i hi=>(hf.hasC (f:=false) ⟨h.2 i hi,fun h=>(by cases h)⟩ hn).1⟩
theorem Ar.ro{w:World}{b:Nat×Nat}{ks:List IntKind}{xs:List Int}(h:Ar true w b ks xs):Ar false w b ks xs:=⟨h.1,fun i k x hk hx=>⟨(h.2 i k x hk hx).1,fun h=>by cases h⟩⟩
set_option maxRecDepth 100000 in
theorem ACi{GB:Nat}{GC:Nat→Nat→Option Value}{ad:Nat→Nat×Nat}(hG:Jk GB GC ad){w:World}{B3 B4 B5 b o n c i:Nat}{m x:List Int}{q V:Int}(ε:GW GC w)(δ:GB≤w.heap.size)(h5:w.heap.size≤B5)(h35:B5≠B3)(h45:B5≠B4)(hb5:b<B5)(hx:x.length=n)(hi:i<n)(hm:N8 m q)(hq:2*q≤pw 8)(h1:1<q){X:Code}(hX:X=Sj 2 (Ab Tryz.f42)):
  ∀ k a w',(∃ f,Fr a 37 f∧RJ GC w B3 B4 B5 b o n c m x ((V*2^(8-(k+1))+x.getD i 0/2^(k+1))%q) f w'∧f 6= .int .i64 (i:Int)∧f 7= .int .i64 (Ls (k+1))∧k+1≤8)→
   X.wp Tryz.prog (fun e a' w'=>e= .normal∧∃ f,Fr a' 37 f∧RJ GC w B3 B4 B5 b o n c m x ((V*2^(8-k)+x.getD i 0/2^k)%q) f w'∧f 6= .int .i64 (i:Int)∧f 7= .int .i64 (Ls k)∧k≤8) a w':=by
 intro k a w' ⟨f,F,J,e6,e7,hk⟩
 subst hX;have hb:decide ((0:Int)≤Ls (k+1))=true:=decide_eq_true (yP k);have hbyte:0≤x.getD i 0∧x.getD i 0≤255:=J.h8.1 _ (by rw[List.getD,Jo (by omega)];exact qj _);obtain⟨out,mo,ho⟩:=J.mo;have hq0:0<q:=by omega
 have hlt:(V*2^(8-(k+1))+x.getD i 0/2^(k+1))%q<q:=Int.emod_lt_of_pos _ hq0;refine wp_seq (wp_seq (reg (AB F rfl fun a F=>Cm F rfl (Wj (F.ev e7) rfl) fun a F=>Gv ?_)));refine wp_cond (t:=true) (F.ev (QL Value.bool hb)) (wp_skip ?_);refine wp_seq (wp_block (BQ ?_));have hol:(AZ U8 out).length=8:=Ep mo.1.1;have hml:(AZ U8 m).length=8:=Ep J.mm.1.1;refine Cm F rfl (VU (cs:=AZ U8 out) (fun w=>by simp[go_sem]) (fun w=>by rw[hol];simp[go_sem]) (F.ev J.f5) mo.vals) fun a F=>Cm F rfl (VU (cs:=AZ U8 out) (fun w=>by simp[go_sem]) (fun w=>by rw[hol];simp[go_sem]) (F.ev J.f5) mo.vals) fun a F=>Cm F rfl (VU (cs:=AZ U8 m) (fun w=>by simp[go_sem]) (fun w=>by rw[hml];simp[go_sem]) (F.ev J.f3) J.mm.vals) fun a F=>?_
 refine Jr F rfl (Uz rfl F.e F.e F.e Tryz.call71) (AEe hG J.gw (G9 δ J.fr.1) mo.1 mo.1 J.mm.1 ho ho hm hlt hlt hq) fun e w6 h6=>⟨_,h6.ret,fun a F=>?_⟩
 have M6:=mo.frm h6.frm fun _ _ h=>h
 have ho2:=ZQ ho ho hm hlt hlt hq;have hr2:=h6.rng;generalize LH.raw LY 0 [out,out,m]=out2 at *
 have hl2:(AZ U8 out2).length=8:=Ep hr2.1;have hv2:((V*2^(8-(k+1))+x.getD i 0/2^(k+1))%q+(V*2^(8-(k+1))+x.getD i 0/2^(k+1))%q)%q<q:=Int.emod_lt_of_pos _ hq0;have aba:=ANG (V:=V) (X:=x.getD i 0) (q:=q) (k:=k) (by omega);rw[show 7-k=8-(k+1) by omega] at aba;refine LP F rfl rfl (QX (cs:=AZ U8 out2) (fun w=>by rw[hl2];simp[go_sem]) (F.ev J.f5) F.e Ip (fun j hj=>M6.ex j (by rw[hl2] at hj;exact hj))) fun a F=>Ae ?_
 have g7:CV w6 (w6.setCells B5 0 (AZ U8 out2)) (fun b _=>b=B5):=Ck _ _ (CV.refl _ _) fun _ _=>.inr rfl
 have f7:CV w (w6.setCells B5 0 (AZ U8 out2)) (fun _ _=>False):=Ck _ _ (J.fr.trans h6.frm) fun _ _=>.inl h5
 have M7:=Ov hr2 M6.ex;have r7:=(J.mr.frm h6.frm fun _ _ h=>h).frm g7 fun _ _ h=>h45 h.symm
 have m7:=(J.mm.frm h6.frm fun _ _ h=>h).frm g7 fun _ _ h=>h35 h.symm
 have x7:=(J.h8.frm0 h6.frm).frmS g7 (Nat.ne_of_lt hb5);generalize w6.setCells B5 0 (AZ U8 out2)=w7 at g7 f7 M7 r7 m7 x7 ⊢;have gw7:=Vv hG ε f7 δ;have hcell:w7.cell? ⟨b,o+i,none⟩=some (.int .u8 (x.getD i 0)):=x7.2 i (by omega);refine BQ (AB F rfl fun a F=>AB F rfl fun a F=>Cm F rfl (ARI (F.ev J.f0) (F.ev e6) hi) fun a F=>Cm F rfl (AR5 F.e hcell) fun a F=>AB F rfl fun a F=>Cm F rfl (AMO (k:=k) F.e (F.ev e7)) fun a F=>Cm F rfl (ANp F.e rfl) fun a F=>Cm F rfl (ATT F.e rfl) fun a F=>Ae ?_);have hdec:∀ {a:Act} {w8:World} {f':Nat→Value} {v:Int},Fr a 37 f'→RJ GC w B3 B4 B5 b o n c m x v f' w8→f' 6= .int .i64 (i:Int)→f' 7= .int .i64 (Ls (k+1))→v=(V*2^(8-k)+x.getD i 0/2^k)%q→
   (Yi 7 (Ab Tryz.f42)).wp Tryz.prog (fun e a' w'=>e= .normal∧∃ f,Fr a' 37 f∧RJ GC w B3 B4 B5 b o n c m x ((V*2^(8-k)+x.getD i 0/2^k)%q) f w'∧f 6= .int .i64 (i:Int)∧f 7= .int .i64 (Ls k)∧k≤8) a w8:=by
  intro a w8 f' v F J6 e6 e7 hv
  refine reg (AB F rfl fun a F=>Cm F rfl (bQ (F.ev e7) rfl) fun a F=>AR F rfl fun a F=>Gv ?_);subst hv;exact⟨rfl,_,F,⟨J6.f0,J6.f3,J6.f4,J6.f5,J6.mo,J6.mr,J6.mm,J6.h8,J6.fr,J6.gw⟩,e6,QL (Value.int .i64) (PD (by omega)),by omega⟩
 by_cases hB:x.getD i 0/2^k%2=1
 ·have hb2:(Ao .rem .u8 (Ao .shr .u8 (x.getD i 0) k) 2 == 1)=true:=by rw[AST hbyte (by omega)];exact decide_eq_true hB
  refine wp_cond (t:=true) (F.ev (QL Value.bool hb2)) ?_;refine wp_mono (ANO hG F gw7 (G9 δ f7.1) J.f5 J.f3 M7 (G9 δ h5) m7.ro h35) ?_
  rintro e a' w8 ⟨rfl,f',F,M8,g8,gw8,k0,k3,k4,k5,k6,k7⟩
  have f8:=f7.trans' g8 fun b' i hb' (h:b'=B5)=>by omega
  refine hdec F ⟨k0.trans J.f0,k3.trans J.f3,k4.trans J.f4,k5.trans J.f5,⟨_,M8,AIa ho2 hm hv2 h1 hq⟩,r7.frm g8 fun _ _ h=>h45 h.symm,m7.frm g8 fun _ _ h=>h35 h.symm,x7.frmS g8 (Nat.ne_of_lt hb5),f8,gw8⟩ (k6.trans e6) (k7.trans e7) ?_;rw[hB] at aba;rw[Int.emod_add_emod];exact aba
 ·have hb2:(Ao .rem .u8 (Ao .shr .u8 (x.getD i 0) k) 2 == 1)=false:=by rw[AST hbyte (by omega)];exact decide_eq_false hB
  refine wp_cond (t:=false) (F.ev (QL Value.bool hb2)) (wp_skip ?_);refine hdec F ⟨J.f0,J.f3,J.f4,J.f5,⟨_,M7,ho2⟩,r7,m7,x7,f7,gw7⟩ e6 e7 ?_;have hB0:x.getD i 0/2^k%2=0:=by omega
  rw[hB0,wP] at aba;exact aba
end
section
open Go Go.RowKit Go.Lib Ma
theorem XQ(w:World)(o:Obj):(w.alloc o).heap.size=w.heap.size+1:=by unfold World.alloc;exact Array.size_push _
theorem AJH{x:List Int}{n:Nat}(h:x.length≤n):IG (x.drop n)=0:=by rw[List.drop_of_length_le h];rfl
theorem RJ.keep{GC:Nat→Nat→Option Value}{w:World}{B3 B4 B5 b o n c:Nat}{m x:List Int}{v:Int}{f f':Nat→Value}{w':World}(J:RJ GC w B3 B4 B5 b o n c m x v f w')(h0:f' 0=f 0)(h3:f' 3=f 3)(h4:f' 4=f 4)(h5:f' 5=f 5):RJ GC w B3 B4 B5 b o n c m x v f' w':=⟨h0.trans J.f0,h3.trans J.f3,h4.trans J.f4,h5.trans J.f5,J.mo,J.mr,J.mm,J.h8,J.fr,J.gw⟩
set_option maxRecDepth 100000 in
theorem UR{GB:Nat}{GC:Nat→Nat→Option Value}{ad:Nat→Nat×Nat}(hG:Jk GB GC ad){w:World}{b o n c:Nat}{m x:List Int}{q:Int}(ε:GW GC w)(δ:GB≤w.heap.size)(hb:b<w.heap.size)(h8:Fe w b o x)(hx:x.length=n)(hn:n<1000)(hM:Hf U8 m)(hm:N8 m q)(hq:2*q≤pw 8)(h1:1<q):
  Calls Tryz.prog 42 #[.slice (some ⟨b,o,none⟩) n c,.agg (AZ U8 m).toArray] w (fun e w'=>∃ l,N8 l (IG x%q)∧AgP GC U8 l w e w'):=by
 refine enter (args:=[.slice (some ⟨b,o,none⟩) n c,.agg (AZ U8 m).toArray]) Tryz.func42 rfl (n:=37) rfl fun a F=>?_
 refine BQ (Cm F rfl (AP8 F.e) fun a F=>?_);have M1:=SA w U8 m 52 hM;have f1:CV w (w.alloc (.cells (AZ U8 m).toArray 52)) (fun _ _=>False):=Cs _ _ _;have s1:(w.alloc (.cells (AZ U8 m).toArray 52)).heap.size=w.heap.size+1:=XQ _ _;generalize w.alloc (.cells (AZ U8 m).toArray 52)=w1 at M1 f1 s1 ⊢;refine Cm F rfl oO fun a F=>Ae ?_
 have M2:=Hq w1 8 .u64 52 ⟨by decide,by decide⟩;have f2:CV w1 (w1.alloc (.cells (Array.replicate 8 (.int .u64 0)) 52)) (fun _ _=>False):=Cs _ _ _;have s2:(w1.alloc (.cells (Array.replicate 8 (.int .u64 0)) 52)).heap.size=w1.heap.size+1:=XQ _ _;generalize w1.alloc (.cells (Array.replicate 8 (.int .u64 0)) 52)=w2 at M2 f2 s2 ⊢;refine BQ (Cm F rfl ARp fun a F=>Cm F rfl oO fun a F=>?_);have M3:=Hq w2 8 .u64 52 ⟨by decide,by decide⟩;have f3:CV w2 (w2.alloc (.cells (Array.replicate 8 (.int .u64 0)) 52)) (fun _ _=>False):=Cs _ _ _;generalize w2.alloc (.cells (Array.replicate 8 (.int .u64 0)) 52)=w3 at M3 f3 ⊢;have f13:=(f1.trans f2).trans f3;have hz8:Hf U8 [0,0,0,0,0,0,0,0]:=Ws (by decide);refine LP F rfl rfl (QX (cs:=AZ U8 [0,0,0,0,0,0,0,0]) (fun w=>by simp[go_sem];rfl) F.e F.e Ip (fun j hj=>M3.ex j hj)) fun a F=>Ae ?_
 have g4:CV w3 (w3.setCells w2.heap.size 0 (AZ U8 [0,0,0,0,0,0,0,0])) (fun b _=>b=w2.heap.size):=Ck _ _ (CV.refl _ _) fun _ _=>.inr rfl
 have f4:CV w (w3.setCells w2.heap.size 0 (AZ U8 [0,0,0,0,0,0,0,0])) (fun _ _=>False):=Ck _ _ f13 fun _ _=>.inl (by omega)
 have M4:=Ov hz8 M3.ex;have r4:=(M2.frm f3 fun _ _ h=>h).frm g4 fun _ _ h=>(by have:w1.heap.size=w2.heap.size:=h;omega)
 have m4:=(M1.frm (f2.trans f3) fun _ _ h=>h).frm g4 fun _ _ h=>(by have:w.heap.size=w2.heap.size:=h;omega)
 have x4:=h8.frm0 f4;generalize w3.setCells w2.heap.size 0 (AZ U8 [0,0,0,0,0,0,0,0])=w4 at g4 f4 M4 r4 m4 x4 ⊢;obtain⟨f',F',e0,e3,e4,e5⟩:∃ f',Fr a 37 f'∧f' 0= .slice (some ⟨b,o,none⟩) n c∧f' 3= .pointer (some ⟨w.heap.size,0,none⟩)∧f' 4= .pointer (some ⟨w1.heap.size,0,none⟩)∧f' 5= .pointer (some ⟨w2.heap.size,0,none⟩):=⟨_,F,rfl,rfl,rfl,rfl⟩;clear F;have J0:RJ GC w w.heap.size w1.heap.size w2.heap.size b o n c m x (IG (x.drop n)%q) f' w4:=⟨e0,e3,e4,e5,⟨_,M4,by rw[AJH (Nat.le_of_eq hx),Int.zero_emod];exact zH⟩,r4,m4,x4,f4,Vv hG ε f4 δ⟩;clear e0 e3 e4 e5 M4 r4 m4 x4 f4 g4;refine KT (J:=fun a w'=>∃ f,Fr a 37 f∧RJ GC w w.heap.size w1.heap.size w2.heap.size b o n c m x (IG x%q) f w') (BQ (AB F' rfl fun a F=>Cm F rfl (Ug (m:=n) (F.ev J0.f0)) fun a F=>Cm F rfl (bQ (i:=(n:Int)) (j:=1) F.e rfl) fun a F=>AR F rfl fun a F=>Ae ?_)) ?_
 ·have hi0:IntKind.i64.wrap ((n:Int)-1)=Ls n:=by
   rcases n with _|n
   ·rfl
   ·rw[gL (by omega) (by omega),zb];omega
  have J1:RJ GC w w.heap.size w1.heap.size w2.heap.size b o n c m x (IG (x.drop n)%q) _ w4:=J0.keep (f':=SN (SN (SN (SN f' 9 (f' 0)) 10 (.int .i64 n)) 11 (.int .i64 (IntKind.i64.wrap ((n:Int)-1)))) 6 (.int .i64 (IntKind.i64.wrap ((n:Int)-1)))) rfl rfl rfl rfl;refine (wp_block (wp_loop_rounds _ (Lc (J:=fun i a w'=>∃ f,Fr a 37 f∧RJ GC w w.heap.size w1.heap.size w2.heap.size b o n c m x (IG (x.drop i)%q) f w'∧f 6= .int .i64 (Ls i)∧i≤n) ?_ ?_ n _ _ ⟨_,F,J1,QL (Value.int .i64) hi0,JP _⟩)))
  ·intro a w' ⟨f,F,J,e6,_⟩
   refine wp_seq (wp_seq (reg (AB F rfl fun a F=>Cm F rfl (Wj (F.ev e6) rfl) fun a F=>Gv ?_)));refine wp_cond (t:=false) F.e (wp_exit ?_);exact⟨rfl,_,F,J.keep rfl rfl rfl rfl⟩
  ·intro i a w' ⟨f,F,J,e6,hi⟩
   have hb:decide ((0:Int)≤Ls (i+1))=true:=decide_eq_true (yP i);have hxi:0≤x.getD i 0∧x.getD i 0≤255:=J.h8.1 _ (by rw[List.getD,Jo (by omega)];exact qj _);refine wp_seq (wp_seq (reg (AB F rfl fun a F=>Cm F rfl (Wj (F.ev e6) rfl) fun a F=>Gv ?_)));refine wp_cond (t:=true) (F.ev (QL Value.bool hb)) (wp_skip ?_);have hV:IG (x.drop (i+1))%q=(IG (x.drop (i+1))*2^(8-8)+x.getD i 0/2^8)%q:=by
    have h0:x.getD i 0/2^8=0:=Int.ediv_eq_zero_of_lt hxi.1 (by omega);rw[h0,zcu,Int.pow_zero,zcz,wP]
   have hE:(IG (x.drop (i+1))*2^(8-0)+x.getD i 0/2^0)%q=IG (x.drop i)%q:=by
    have h256:(2:Int)^(8-0)=256:=by decide
    rw[AF5 (i:=i) (by omega),Int.pow_zero,Int.ediv_one,h256]
    congr 1
    omega
   rw[hV] at J;refine KT (J:=fun a w'=>∃ f,Fr a 37 f∧RJ GC w w.heap.size w1.heap.size w2.heap.size b o n c m x (IG (x.drop i)%q) f w'∧f 6= .int .i64 (i:Int)) (wp_block (BQ (Bv F rfl fun a F=>Ae ?_))) ?_
   ·refine wp_block (wp_loop_rounds _ (Lc (J:=fun k a w'=>∃ f,Fr a 37 f∧RJ GC w w.heap.size w1.heap.size w2.heap.size b o n c m x ((IG (x.drop (i+1))*2^(8-k)+x.getD i 0/2^k)%q) f w'∧f 6= .int .i64 (i:Int)∧f 7= .int .i64 (Ls k)∧k≤8) ?_ (ACi hG ε δ (by omega) (by omega) (by omega) (by omega) hx (by omega) hm hq h1 rfl) 8 _ _ ⟨_,F,J.keep rfl rfl rfl rfl,e6,rfl,JP _⟩))
    intro a w' ⟨f,F,J,e6,e7,_⟩
    refine wp_seq (wp_seq (reg (AB F rfl fun a F=>Cm F rfl (Wj (F.ev e7) rfl) fun a F=>Gv ?_)));refine wp_cond (t:=false) F.e (wp_exit ?_);rw[hE] at J;exact⟨rfl,_,F,J.keep rfl rfl rfl rfl,e6⟩
   ·intro a w' ⟨f,F,J,e6⟩
    refine reg (AB F rfl fun a F=>Cm F rfl (bQ (i:=(i:Int)) (j:=1) (F.ev e6) rfl) fun a F=>AR F rfl fun a F=>Gv ?_);exact⟨rfl,_,F,J.keep rfl rfl rfl rfl,QL (Value.int .i64) (PD (n:=i) (by omega)),by omega⟩
 intro a w' ⟨f,F,J⟩
 obtain⟨out,mo,ho⟩:=J.mo;have hol:(AZ U8 out).length=8:=Ep mo.1.1;refine BQ (Cm F rfl (VU (cs:=AZ U8 out) (fun w=>by simp[go_sem]) (fun w=>by rw[hol];simp[go_sem]) (F.ev J.f5) mo.vals) fun a F=>LP F rfl rfl (QX (cs:=AZ U8 out) (fun w=>by rw[hol];simp[go_sem]) (F.ev J.f4) F.e Ip (fun j hj=>J.mr.ex j (by rw[hol] at hj;exact hj))) fun a F=>Ae ?_);have M9:=Ov mo.1 J.mr.ex;have f9:CV w (w'.setCells w1.heap.size 0 (AZ U8 out)) (fun _ _=>False):=Ck _ _ J.fr fun _ _=>.inl (by omega)
 refine Kh ⟨F.df,.agg (AZ U8 out).toArray,?_,out,ho,rfl,mo.1,f9,Vv hG ε f9 δ⟩;exact Z8 rfl ((F.tm 4).trans J.f4) (kz (cs:=AZ U8 out) (fun w=>by simp[go_sem]) (fun w=>by rw[hol];simp[go_sem]) M9.vals)
end
section
open Go Go.RowKit Go.Lib Ma
theorem Ql.msg{w:World}{B:Nat}{v:Value}{xs:List Int}(h:Ql w B v xs)(hx:∀ x∈xs,0≤x∧x≤255):JI w v xs:=by
 rcases Nat.eq_zero_or_pos xs.length with h0|h0
 ·obtain⟨ap,c,hv⟩:=h.sl;rw[h0] at hv;exact JI.nil (zbx h0) hv
 ·obtain⟨b,c,hv,hc,-, -,h8⟩:=ZT h h0 hx;rw[hv];exact JI.of_has h8 rfl hc
theorem mX{P:Program}{w:World}{Gw:Nat}{t ty e:TypeId}{i:TypeInfo}{size:Nat}(ht:P.underlying t=some (.slice e))(hi:P.info? e=some i){v:Value}{n c:Nat}{xs:List Value}(ξ:w.ownsRow Gw e size v n xs):
  (Builtin.append_ #[t,t] ty #[v,.slice none 0 c]).run P w= .ok v w:=by
 rcases ξ.2 with ⟨rfl,rfl⟩|⟨g,cap,cur,rfl,_,_,hnc,_⟩
 ·simp[Builtin.append_,run_underlying ht,sizeOf,typeInfo,hi,Builtin.lenOf,Builtin.firstCells]
 ·simp[Builtin.append_,run_underlying ht,sizeOf,typeInfo,hi,Builtin.lenOf,Builtin.firstCells,hnc,storeCells]
theorem wL(w:World)(r:Option Nat):w.grownBy w r:=⟨rfl,rfl,rfl,JP _,fun _ _ _=>rfl⟩
theorem AJc{w:World}{B:Nat}{v u:Value}{ty:TypeId}{xs ys:List Int}(ξ:Ql w B v xs)(hy:JI w u ys)(hb:xs.length+ys.length≤140737488355328)(hB:B≤w.heap.size):
  ∃ v' w',(Builtin.append_ #[22,22] ty #[v,u]).run Tryz.prog w= .ok v' w'∧Ql w' B v' (xs++ys)∧w.grownBy w' v.ownBlock:=by
 obtain⟨i0,hi,hz0,hz1,hz2⟩:=info_parts i8;obtain⟨ap,c,hv,-,hr,hc⟩:=hy;have hv8:v8 (xs++ys)=v8 xs++v8 ys:=by simp[v8]
 cases ap with
 | none=>
  have h0:ys.length=0:=Nat.eq_zero_of_not_pos fun h=>by
   obtain⟨b,o,e,-⟩:=hc h
   cases e
  have hy0:ys= []:=zbx h0;subst hy0;rw[hv,TL];exact⟨v,w,mX Tryz.underlying22 hi ξ,ξ,wL w _⟩
 | some ad=>
  have hcells:∀ j x,(v8 ys)[j]? = some x→w.cell? (ad.add j)=some x:=fun j x hj=>by
   have hj':j<ys.length:=by have:=(Pi.1 hj).1;simpa[v8] using this
   obtain⟨b,o,e,-,h8⟩:=hc (by omega)
   cases e
   rw[Addr.add_lit,h8 j hj'];have:(v8 ys)[j]? = some (.int .u8 (ys.getD j 0)):=by simp[v8,List.getD,hj']
   rw[this] at hj;exact hj
  obtain⟨v',w',h1,h2,h3,-⟩:=run_append_own (P:=Tryz.prog) w B 22 ty 5 i0 (.int .u8 0) 1 1 Tryz.underlying22 hi hz0 hz1 hz2 rfl (by decide) v xs.length (v8 xs) ξ ad ys.length c (v8 ys) (by simp[v8]) hcells Vq (by unfold maxLen;omega) (by omega) hB;rw[hv];refine⟨v',w',h1,?_,h3⟩;show w'.ownsRow B 5 1 v' (xs++ys).length (v8 (xs++ys));rw[K6,hv8];exact h2
section
variable{P:Program}{Q:Exit→Act→World→Prop}{K:Act→World→Prop}{a:Act}{w:World}{n:Nat}{f:Nat→Value}
theorem Ro{o:Oper}{t:Nat}{v:Value}{w':World}(F:Fr a n f)(hd:o.dst=some t)(ht:Nat.blt t n=true)(h:(execOp a.eval o).run P w= .ok (.value v) w')(hn:∀ a',Fr a' n (SN f t v)→K a' w'):o.wp P a w K Q:=by
 unfold Oper.wp;rw[h];show K (a.put o.dst v) w';refine hn _ ?_;rw[hd];exact F.put ht v
theorem mI{o:Oper}{w':World}(F:Fr a n f)(hd:o.dst=none)(h:(execOp a.eval o).run P w= .ok .skip w')(hn:∀ a',Fr a' n f→K a' w'):o.wp P a w K Q:=by
 unfold Oper.wp;rw[h];show K (a.put o.dst undef) w';refine hn _ ?_;rw[hd];exact F.putN undef
theorem Ny{o:Oper}{t g:Nat}{vs:Array Value}{w0:World}{R:Ending→World→Prop}(F:Fr a n f)(hd:o.dst=some t)(ht:Nat.blt t n=true)(h:(execOp a.eval o).run P w= .ok (.enter g vs) w0)(hc:Calls P g vs w0 R)
  (hn:∀ e w',R e w'→∃ v,e= .returned v∧∀ a',Fr a' n (SN f t v)→K a' w'):o.wp P a w K Q:=by
 unfold Oper.wp;rw[h];show Calls P g vs w0 _;refine hc.mono fun e w' hR=>?_
 obtain⟨v,rfl,hv⟩:=hn e w' hR;show K (a.put o.dst v) w';refine hv _ ?_;rw[hd];exact F.put ht v
theorem YK{t x y B:Nat}{ty:TypeId}{pos:String}{af:Array Edge}{xs ys:List Int}(F:Fr a n f)(ht:Nat.blt t n=true)(ξ:Ql w B (f x) xs)(hy:JI w (f y) ys)(hb:xs.length+ys.length≤140737488355328)(hB:B≤w.heap.size)
  (hn:∀ v' w' a',Ql w' B v' (xs++ys)→w.grownBy w' (f x).ownBlock→Fr a' n (SN f t v')→K a' w'):(⟨some t,.call ⟨.builtin .append,#[.tmp x,.tmp y],#[22,22]⟩,ty,pos,af,none⟩:Oper).wp Tryz.prog a w K Q:=by
 obtain⟨v',w',h1,h2,h3⟩:=AJc (ty:=ty) ξ hy hb hB;unfold Oper.wp execOp;simp only[resolve,invoke,builtin,I1,KD,IB,List.map_toArray,NT,Vi,F.ev (t:=x) rfl,F.ev (t:=y) rfl,h1];exact hn v' w' _ h2 h3 (F.put ht v')
theorem kV{ops:Array Oper}{rest:List Oper}{t x y B:Nat}{ty:TypeId}{pos:String}{af:Array Edge}{xs ys:List Int}(F:Fr a n f)(ht:Nat.blt t n=true)(ξ:Ql w B (f x) xs)(hy:JI w (f y) ys)(hb:xs.length+ys.length≤140737488355328)(hB:B≤w.heap.size)
  (hn:∀ v' w' a',Ql w' B v' (xs++ys)→Below B w w'→Fr a' n (SN f t v')→wpList Tryz.prog ops Q rest a' w'):wpList Tryz.prog ops Q (⟨some t,.call ⟨.builtin .append,#[.tmp x,.tmp y],#[22,22]⟩,ty,pos,af,none⟩::rest) a w:=
 wpList_plain rfl fun _ hK=>YK F ht ξ hy hb hB fun v' w' a' h1 h2 h3=>hK _ _ (hn v' w' a' h1 (NN ξ h2 hB) h3)
end
section
variable{P:Program}{Q:Exit→Act→World→Prop}
def gG(l:List Oper)(i j:Nat):Bool:=match l[i]? with
 |some o=>o.after.any fun e=>Region.binds .any e&&e.on == j
 |none=>false
def ut(l:List Oper):Bool:=l.all fun o=>o.guard.isNone
def uk(l:List Oper)(m:Nat):Bool:=(l.length == m+1)&&ut l&&(List.range l.length).all fun i=>(match l[i]? with
 |some o=>o.after.all fun e=>decide (e.on<i)
 |none=>true)&&(if i<m then gG l m i else true)
theorem wo{l:List Oper}{i j:Nat}(h:gG l i j=true):∃ o,l[i]? = some o∧∃ e∈o.after,Region.binds .any e=true∧e.on=j:=by
 unfold gG at h
 split at h
 ·rename_i o ho
  obtain⟨e,he,hb⟩:=Array.any_eq_true'.1 h;simp only[Bd,beq_iff_eq] at hb;exact⟨o,ho,e,he,hb.1,hb.2⟩
 ·cases h
theorem jw{l:List Oper}(h:ut l=true){i:Nat}{o:Oper}(ho:l[i]? = some o)(y:Nat→Option Bool):Region.wanted o y=true:=by
 have:=Ll.1 h o (OZ ho);have hg:o.guard=none:=by simpa using this
 simp[Region.wanted,hg]
theorem KL{l:List Oper}(hp:ut l=true){i:Nat}{o:Oper}(ho:l[i]? = some o){K:Act→World→Prop}{a:Act}{w:World}(h:o.wp P a w K Q):wpOp P l.toArray Q i K a w:=by
 unfold wpOp;have:l.toArray[i]? = some o:=by simpa using ho
 simp only[this];rw[if_pos (jw hp ho _)];exact .inl h
theorem ABW {l:List Oper} {m:Nat} (hB:uk l m=true) {I:Array Bool→Act→World→Prop}
  (hstep:∀ i o L a w,l[i]? = some o→i<m→L.size=m+1→L.getD i true=false→(∀ j,gG l i j=true→L.getD j false=true)→I L a w→o.wp P a w (fun a' w'=>I (L.setIfInBounds i true) a' w') Q)
  (aaw:∀ o L a w,l[m]? = some o→(∀ j,j<m→L.getD j false=true)→I L a w→o.wp P a w (fun a' w'=>Q .normal a' w') Q):
  ∀ (fuel:Nat) (L:Array Bool) (a:Act) (w:World),L.toList.count false=fuel→L.size=m+1→L.getD m true=false→I L a w→wpAny P .any l.toArray Q fuel L a w:=by
 simp only[uk,Bd,beq_iff_eq] at hB;obtain⟨⟨hl,hp⟩,hall⟩:=hB;have hdag:∀ (i:Nat) (o:Oper),l[i]? = some o→∀ e∈o.after,e.on<i:=fun i o ho e he=>by
  have h1:=Ll.1 hall i (fD.2 (Pi.1 ho).1);simp only[Bd] at h1;have h2:=h1.1;simp only[ho] at h2;have:=Array.all_eq_true_iff_forall_mem.1 h2 e he
  simpa using this
 have hm:∀ i,i<m→gG l m i=true:=fun i hi=>by
  have h1:=Ll.1 hall i (fD.2 (by omega));simp only[Bd] at h1;have h2:=h1.2;rw[if_pos hi] at h2;exact h2
 have hdep:∀ {L:Array Bool} {i:Nat},i∈Region.ready .any l.toArray L→L.getD i true=false∧∃ o,l[i]? = some o∧∀ j,gG l i j=true→L.getD j false=true:=fun {L i} hi=>by
  obtain⟨h0,o,ho,h1⟩:=mem_ready.1 hi;have ho':l[i]? = some o:=by simpa using ho
  refine⟨h0,o,ho',fun j hj=>?_⟩;obtain⟨o',ho2,e,he,hb,hon⟩:=wo hj;have:o'=o:=SY (ho2.symm.trans ho');subst this;rw[← hon];exact h1 e he hb
 have hready:∀ (L:Array Bool),L.size=m+1→L.getD m true=false→Region.ready .any l.toArray L ≠ []:=fun L hs hun=>by
  have hex:∃ i,i≤m∧L.getD i true=false∧∀ j,j<i→L.getD j true=true:=by
   have : ∀ k,k≤m→(∀ j,j<k→L.getD j true=true)∨∃ i,i<k∧L.getD i true=false∧∀ j,j<i→L.getD j true=true:=by
    intro k
    induction k with
    |zero=>intro _;exact .inl fun j hj=>by omega
    | succ k ih=>
     intro hk
     rcases ih (by omega) with h|⟨i,hi,h1,h2⟩
     ·cases hv:L.getD k true with
      | true=>
       refine .inl fun j hj=>?_
       rcases nG j k with h'|h'
       ·exact h j h'
       ·have:j=k:=by omega
        subst this;exact hv
      |false=>exact .inr ⟨k,by omega,hv,h⟩
     ·exact .inr ⟨i,by omega,h1,h2⟩
   rcases this m (JP _) with h|⟨i,hi,h1,h2⟩
   ·exact⟨m,JP _,hun,h⟩
   ·exact⟨i,by omega,h1,h2⟩
  obtain⟨i,him,hi,hlt⟩:=hex;have hil:i<l.length:=by omega
  have:i∈Region.ready .any l.toArray L:=mem_ready.2 ⟨hi,l[i],by simp[hil],fun e he _=>by
   have h1:=hlt e.on (hdag i l[i] (by simp[hil]) e he);have h2:=hdag i l[i] (by simp[hil]) e he;rw[Ti] at h1 ⊢;have hs2:e.on<L.size:=by omega
   simp[hs2] at h1 ⊢;exact h1⟩
  exact List.ne_nil_of_mem this
 have hin:∀ {L:Array Bool} {i:Nat},L.getD i true=false→∃ h:i<L.size,L[i]=false:=fun {L i} h=>by
  rcases nG i L.size with h'|h'
  ·refine⟨h',?_⟩
   simpa[Ti,h'] using h
  ·simp[vR h'] at h
 have hcnt:∀ {L:Array Bool} {i:Nat},L.getD i true=false→L.toList.count false=(L.setIfInBounds i true).toList.count false+1:=fun {L i} h=>by
  obtain⟨h1,h2⟩:=hin h;have h3:false∈L.toList:=by
   have:=Array.getElem_mem h1;rw[h2] at this
   simpa using this
  have h4:=List.count_pos_iff.2 h3;rw[Array.toList_setIfInBounds,List.count_set (by simpa using h1)];have h5:L.toList[i]'(by simpa using h1)=false:=by simpa using h2
  rw[h5];show _=((L.toList.count false-1)+0)+1;omega
 intro fuel
 induction fuel with
 |zero=>
  intro L a w hc hs hun hI
  have:=hcnt hun;omega
 | succ fuel ih=>
  intro L a w hc hs hun hI
  refine⟨fun h=>absurd h (hready L hs hun),fun i hi=>?_⟩;obtain⟨h0,o,ho,hd⟩:=hdep hi;have ω:=hcnt h0;have him:i<m+1:=by
   obtain⟨h1,-⟩:=hin h0;omega
  by_cases hlt:i=m
  ·subst hlt;have hall:∀ j,j<i→L.getD j false=true:=fun j hj=>hd j (hm j hj)
   refine KL hp ho (Oper.wp_mono (fun a' w' hQ=>wpAny_done ?_ hQ fuel) (aaw o L a w ho hall hI));rw[List.eq_nil_iff_forall_not_mem]
   intro j hj
   obtain⟨h1,o',ho',-⟩:=hdep hj
   by_cases hji:i=j
   ·subst hji;have hsz:i<L.size:=by omega
    simp[hsz] at h1
   ·rw[getD_set_ne true hji] at h1;obtain⟨h2,-⟩:=hin h1;have h3:=hall j (by omega);rw[getD_both h1] at h3
    cases h3
  ·refine KL hp ho (Oper.wp_mono (fun a' w' hI'=>ih _ a' w' (by omega) (by simpa using hs) (by rw[getD_set_ne true hlt];exact hun) hI') (hstep i o L a w ho (by omega) hs h0 hd hI))
theorem fZ{l:List Oper}{m id:Nat}(hM:P.follows .mixedOrders=true)(hB:uk l m=true){I:Array Bool→Act→World→Prop}{a:Act}{w:World}
  (hstep:∀ i o L a w,l[i]? = some o→i<m→L.size=m+1→L.getD i true=false→(∀ j,gG l i j=true→L.getD j false=true)→I L a w→o.wp P a w (fun a' w'=>I (L.setIfInBounds i true) a' w') Q)
  (aaw:∀ o L a w,l[m]? = some o→(∀ j,j<m→L.getD j false=true)→I L a w→o.wp P a w (fun a' w'=>Q .normal a' w') Q)
  (h0:I (Array.replicate (m+1) false) a { w with drawn:=w.drawn+1 }):(Code.region id l.toArray true).wp P Q a w:=by
 have hl:l.length=m+1:=by
  simp only[uk,Bd,beq_iff_eq] at hB;exact hB.1.1
 refine wp_region_any hM ?_;have e:l.toArray.size=m+1:=by simpa using hl
 rw[e];exact ABW hB hstep aaw (m+1) _ _ _ (by simp) (by simp) (by simp) h0
def MB(l:List Oper)(i:Nat):Nat:=((l[i]?).bind (·.dst)).getD 0
def AMx(l:List Oper)(m:Nat):Bool:=(List.range m).all fun i=>(List.range m).all fun j=>i == j||MB l i != MB l j
theorem ALm{l:List Oper}{m i j:Nat}(h:AMx l m=true)(hi:i<m)(hj:j<m)(hne:i≠j):MB l i≠MB l j:=by
 have h1:=Ll.1 (Ll.1 h i (fD.2 hi)) j (fD.2 hj);simp only[Bool.or_eq_true,beq_iff_eq,hne,false_or,bne_iff_ne] at h1;exact h1
theorem ZK{l:List Oper}{N m id:Nat}(hM:P.follows .mixedOrders=true)(hB:(uk l m&&AMx l m)=true){a:Act}{w:World}{f0:Nat→Value}(F0:Fr a N f0)
  (FV:Nat→Value→World→Prop) (hst:∀ j v w1 w2,FV j v w1→CV w1 w2 (fun _ _=>False)→FV j v w2)
  (hstep:∀ i o f a w1 K,l[i]? = some o→i<m→Fr a N f→(∀ t,(∀ j,j<m→t≠MB l j)→f t=f0 t)→CV w w1 (fun _ _=>False)→(∀ j,gG l i j=true→FV j (f (MB l j)) w1)→(∀ v a' w2,Fr a' N (SN f (MB l i) v)→CV w1 w2 (fun _ _=>False)→FV i v w2→K a' w2)→o.wp P a w1 K Q)
  (aaw:∀ o f a w1,l[m]? = some o→Fr a N f→(∀ t,(∀ j,j<m→t≠MB l j)→f t=f0 t)→CV w w1 (fun _ _=>False)→(∀ j,j<m→FV j (f (MB l j)) w1)→o.wp P a w1 (fun a' w'=>Q .normal a' w') Q):(Code.region id l.toArray true).wp P Q a w:=by
 rw[Bd] at hB;refine fZ hM hB.1 (I:=fun L a w1=>∃ f,Fr a N f∧(∀ t,(∀ j,j<m→t≠MB l j)→f t=f0 t)∧CV w w1 (fun _ _=>False)∧∀ j,j<m→L.getD j false=true→FV j (f (MB l j)) w1) ?_ ?_ ⟨f0,F0,fun _ _=>rfl,(CV.refl _ _).of_heap rfl rfl rfl rfl,fun j _ h=>by rw[getD_replicate_false] at h;cases h⟩
 ·intro i o L a w1 ho him hs hun hd ⟨f,F,hu,hf,hv⟩
  have hdm:∀ j,gG l i j=true→j<m:=fun j hj=>by
   have hB1:=hB.1;simp only[uk,Bd,beq_iff_eq] at hB1;obtain⟨o',ho',e,he,-,hon⟩:=wo hj;have h1:=Ll.1 hB1.2 i (fD.2 (Pi.1 ho').1);simp only[Bd,ho'] at h1;have h2:=Array.all_eq_true_iff_forall_mem.1 h1.1 e he;have h3:e.on<i:=by simpa using h2
   omega
  refine hstep i o f a w1 _ ho him F hu hf (fun j hj=>hv j (hdm j hj) (hd j hj)) fun v a' w2 F' hf2 hFV=>⟨_,F',fun t ht=>?_,hf.trans hf2,fun j hj hL=>?_⟩
  ·rw[← hu t ht];exact NA (Ne.symm (ht i him))
  ·by_cases hji:j=i
   ·subst hji;rw[dY];exact hFV
   ·rw[NA (ALm hB.2 him hj (Ne.symm hji))];rw[getD_set_ne false (Ne.symm hji)] at hL;exact hst _ _ _ _ (hv j hj hL) hf2
 ·intro o L a w1 ho hall ⟨f,F,hu,hf,hv⟩
  exact aaw o f a w1 ho F hu hf fun j hj=>hv j hj (hall j hj)
def AEr(l:List Oper)(m t:Nat):Bool:=(List.range m).all fun j=>MB l j != t
theorem yl{l:List Oper}{m t:Nat}(h:AEr l m t=true):∀ j,j<m→t≠MB l j:=fun j hj=>by
 have:=Ll.1 h j (fD.2 hj);simp only[bne_iff_ne] at this;exact Ne.symm this
theorem Rt{l:List Oper}{N m id:Nat}(hM:P.follows .mixedOrders=true)(hB:(uk l m&&AMx l m)=true){a:Act}{w:World}{f0:Nat→Value}(F0:Fr a N f0)
  (FV:Nat→Value→World→Prop) (hst:∀ j v w1 w2,FV j v w1→CV w1 w2 (fun _ _=>False)→FV j v w2)
  (hstep:∀ i o f a w1 K,l[i]? = some o→i<m→Fr a N f→(∀ t,AEr l m t=true→f t=f0 t)→CV w w1 (fun _ _=>False)→(∀ j,gG l i j=true→FV j (f (MB l j)) w1)→(∀ v a' w2,Fr a' N (SN f (MB l i) v)→CV w1 w2 (fun _ _=>False)→FV i v w2→K a' w2)→o.wp P a w1 K Q)
  (aaw:∀ o f a w1,l[m]? = some o→Fr a N f→(∀ t,AEr l m t=true→f t=f0 t)→CV w w1 (fun _ _=>False)→(∀ j,j<m→FV j (f (MB l j)) w1)→o.wp P a w1 (fun a' w'=>Q .normal a' w') Q):(Code.region id l.toArray true).wp P Q a w:=
 ZK hM hB F0 FV hst (fun i o f a w1 K ho hi F hu=>hstep i o f a w1 K ho hi F fun t ht=>hu t (yl ht)) fun o f a w1 ho F hu=>aaw o f a w1 ho F fun t ht=>hu t (yl ht)
theorem zI{l:List Oper}{m t:Nat}{ks:List Nat}(h:ks.all (AEr l m)=true)(ht:t∈ks):AEr l m t=true:=Ll.1 h t ht
theorem UJ{l:List Oper}{N id:Nat}{a:Act}{w:World}(hM:P.follows .mixedOrders=true)(hN:l.length=N)(h:wpAny P .any l.toArray Q N (Array.replicate N false) a { w with drawn:=w.drawn+1 }):(Code.region id l.toArray true).wp P Q a w:=by
 refine wp_region_any hM ?_;have e:l.toArray.size=N:=by simpa using hN
 rw[e];exact h
theorem iq(w:World):CV w { w with drawn:=w.drawn+1 } (fun _ _=>False):=(CV.refl _ _).of_heap rfl rfl rfl rfl
def jF(ops:Array Oper)(al:Nat):List Nat→Array Bool→Bool
 | [],L=>Region.ready .any ops L == [al]
 |c::cs,L=>((Region.ready .any ops L).all fun i=>i == c||i == al) && !(Region.ready .any ops L).isEmpty&&(Region.ready .any ops (L.setIfInBounds al true) == [c])&&al != c&&jF ops al cs (L.setIfInBounds c true)
def AFp:List Nat→Array Bool→Array Bool
 | [],L=>L
 |c::cs,L=>AFp cs (L.setIfInBounds c true)
theorem Ob{ops:Array Oper}{L:Array Bool}{i F:Nat}{a:Act}{w:World}(hr:Region.ready .any ops L= [i])(h:wpOp P ops Q i (wpAny P .any ops Q F (L.setIfInBounds i true)) a w):wpAny P .any ops Q (F+1) L a w:=
 wpAny_all hr (by simp) fun j hj=>by
  rw[Nc] at hj;subst hj;exact h
theorem gq{P:Program}{Q:Exit→Act→World→Prop}{ops:Array Oper}{Pk:Nat→Bool→Act→World→Prop}{c:Nat}{cs:List Nat}{k:Nat}(hs:∀ j x,(c::cs)[j]? = some x→∀ fl a w,Pk (k+j) fl a w→wpOp P ops Q x (Pk (k+j+1) fl) a w):∀ j x,cs[j]? = some x→∀ fl a w,Pk (k+1+j) fl a w→wpOp P ops Q x (Pk (k+1+j+1) fl) a w:=fun j x hj fl a w hp=>by
 have:=hs (j+1) x (by simpa using hj) fl a w (by rw[show k+(j+1)=k+1+j by omega];exact hp)
 rwa [show k+(j+1)=k+1+j by omega] at this
theorem iP{ops:Array Oper}{al F:Nat}{Pk:Nat→Bool→Act→World→Prop}:∀ (cs:List Nat) (k:Nat) (L:Array Bool) (a:Act) (w:World),jF ops al cs L=true→(∀ j x,cs[j]? = some x→∀ fl a w,Pk (k+j) fl a w→wpOp P ops Q x (Pk (k+j+1) fl) a w)→
  (∀ a w,Pk (k+cs.length) true a w→wpAny P .any ops Q F ((AFp cs L).setIfInBounds al true) a w)→Pk k true a w→wpAny P .any ops Q (F+cs.length) (L.setIfInBounds al true) a w
 | [],k,L,a,w,_,_,he,h=>he a w h
 |c::cs,k,L,a,w,hB,hs,he,h=>by
  simp only[jF,Bd,beq_iff_eq,bne_iff_ne] at hB;rw[Oq, ← XN];refine Ob hB.1.1.2 (wpOp_mono (fun a' w' h'=>?_) (hs 0 c rfl true a w h));rw[Array.setIfInBounds_comm _ _ hB.1.2];exact iP cs (k+1) _ a' w' hB.2 (gq hs) (fun a w h=>he a w (by rw[Oq,show k+(cs.length+1)=k+1+cs.length by omega];exact h)) h'
theorem aj{ops:Array Oper}{al F:Nat}{Pk:Nat→Bool→Act→World→Prop}(hal:∀ k a w,Pk k false a w→wpOp P ops Q al (Pk k true) a w):∀ (cs:List Nat) (k:Nat) (L:Array Bool) (a:Act) (w:World),jF ops al cs L=true→(∀ j x,cs[j]? = some x→∀ fl a w,Pk (k+j) fl a w→wpOp P ops Q x (Pk (k+j+1) fl) a w)→
  (∀ a w,Pk (k+cs.length) true a w→wpAny P .any ops Q F ((AFp cs L).setIfInBounds al true) a w)→Pk k false a w→wpAny P .any ops Q (F+cs.length+1) L a w
 | [],k,L,a,w,hB,_,he,h=>by
  simp only[jF,beq_iff_eq] at hB;exact Ob hB (wpOp_mono (fun a' w' h'=>he a' w' h') (hal k a w h))
 | c::cs,k,L,a,w,hB0,hs,he,h=>by
  have hB:=hB0;simp only[jF,Bd,beq_iff_eq,bne_iff_ne,Bool.not_eq_true',Ll,Bool.or_eq_true] at hB;refine⟨fun h0=>(by rw[h0] at hB;exact absurd hB.1.1.1.2 (by simp)),fun i hi=>?_⟩
  rcases hB.1.1.1.1 i hi with rfl|rfl
  ·rw[Oq];refine wpOp_mono (fun a' w' h'=>?_) (hs 0 i rfl false a w h);exact aj hal cs (k+1) _ a' w' hB.2 (gq hs) (fun a w h=>he a w (by rw[Oq,show k+(cs.length+1)=k+1+cs.length by omega];exact h)) h'
  ·exact wpOp_mono (fun a' w' h'=>iP (c::cs) k L a' w' hB0 hs he h') (hal k a w h)
theorem yld{l:List Oper}{o:Oper}{v:Value}{a:Act}(hg:o.guard=none)(h:∀ w,(execOp a.eval o).run P w= .ok (.value v) w):Yields P l.toArray o v a:=.inl ⟨by simp[Region.wanted,hg],h⟩
theorem Ru{l:List Oper}{i t n fuel:Nat}{oi:Oper}{v:Value}{L:Array Bool}{a:Act}{w:World}{f:Nat→Value}(hi:l[i]? = some oi)(F:Fr a n f)(hg:oi.guard=none)(hd:oi.dst=some t)(ht:Nat.blt t n=true)
  (hB:(Region.noSelect l.toArray&&Region.free .any l.toArray L i&&(Region.ready .any l.toArray L).contains i)=true) (hQ:∀ c a w,¬ Q (.panic c) a w) (h:∀ w,(execOp a.eval oi).run P w= .ok (.value v) w)
  (hn:∀ a',Fr a' n (SN f t v)→wpAny P .any l.toArray Q fuel (L.setIfInBounds i true) a' w):wpAny P .any l.toArray Q (fuel+1) L a w:=by
 simp only[Bd] at hB;refine wpAny_take (by simpa using hi) hB.1.1 hB.1.2 hB.2 (fun c a w h=>absurd h (hQ c _ w)) (yld hg h) (hn _ ?_);rw[hd];exact F.put ht v
end
end
section
open Go Go.RowKit Go.Lib Ma
theorem zg:2*nT≤pw 8:=by decide +kernel
theorem AFK:1<nT:=by decide +kernel
section
variable{GB:Nat}{GC:Nat→Nat→Option Value}{ad:Nat→Nat×Nat}(hG:Jk GB GC ad){w:World}(ε:GW GC w)(δ:GB≤w.heap.size)
include hG ε δ
theorem Uw:Calls Tryz.prog 43 #[] w (AgP GC U8 (Hg.raw Hl 0 []) w):=by
 have:=Oz (F:=fun a=>Aw 8 (Hg.raw Hl 0 a)) (ks:=U8) (args:=[]) (ins:=[]) (bs:=[]) ε δ (fO hG) rfl rfl trivial trivial (fun h=>absurd (show false=true from h) (by decide));rw[Au Ui.len] at this;exact this
theorem eZ{a:List Int}{n:Nat}(ha:Hf U8 a)(hn:N8 a (n:Int)):Calls Tryz.prog 45 #[.agg (AZ U8 a).toArray] w (AgP GC L6 (octV 32 n) w):=by
 have:=Oz (F:=fun a=>Aw 32 (Jg.raw JW 0 a)) (ks:=L6) (args:=[.agg (AZ U8 a).toArray]) (ins:=[a]) (bs:=[(0,0)]) ε δ (Qi hG) rfl rfl ⟨⟨ha,rfl⟩,trivial⟩ nS (fun h=>absurd (show false=true from h) (by decide));rw[(iN hn).octV,Au (Ml _ _)] at this;exact this
theorem tV{a b c m:List Int}{x y q:Int}{E:Nat}(h2:2*q≤pw 8)(ha:N8 a x)(hx:x<q)(hb:N8 b (E:Int))(hc:N8 c y)(hy:y<q)(hm:N8 m q)(ra:Hf U8 a)(rb:Hf U8 b)(rc:Hf U8 c)(rm:Hf U8 m):
  Calls Tryz.prog 46 #[.agg (AZ U8 a).toArray,.agg (AZ U8 b).toArray,.agg (AZ U8 c).toArray,.agg (AZ U8 m).toArray] w (fun e w'=>∃ l,N8 l ((x*E+y)%q)∧AgP GC U8 l w e w'):=by
 have:=Oz (F:=fun a=>Aw 8 (Hm.raw Ec 0 a)) (ks:=U8) (args:=[.agg (AZ U8 a).toArray,.agg (AZ U8 b).toArray,.agg (AZ U8 c).toArray,.agg (AZ U8 m).toArray]) (ins:=[a,b,c,m]) (bs:=[(0,0),(0,0),(0,0),(0,0)]) ε δ (bK hG) rfl rfl ⟨⟨ra,rfl⟩,⟨rb,rfl⟩,⟨rc,rfl⟩,⟨rm,rfl⟩,trivial⟩ (eF (eF (eF nS))) (fun h=>absurd (show false=true from h) (by decide));have hn:=ABj h2 ha hx hb hc hy hm;rw[Au hn.len] at this;exact this.mono fun e w' h=>⟨_,hn,h⟩
end
def hsN(m:List Int):Nat:=((IG (Kn m))%nT).toNat
theorem jZ(m:List Int):((hsN m:Nat):Int)=IG (Kn m)%nT:=Int.toNat_of_nonneg (Int.emod_nonneg _ (by decide +kernel))
theorem ADw(m:List Int):((hsN m:Nat):Int)<nT:=by
 rw[jZ];exact Int.emod_lt_of_pos _ (by decide +kernel)
theorem JI.rng{w:World}{v:Value}{xs:List Int}(h:JI w v xs):∀ x∈xs,0≤x∧x≤255:=by
 obtain⟨_,_,_,_,h,_⟩:=h;exact h
structure NnP (GC:Nat→Nat→Option Value) (n:Nat) (w:World) (e:Ending) (w':World):Prop where
 ex:∃ l,N8 l (n:Int)∧AgP GC U8 l w e w'
theorem RL{x y:List Int}(hx:∀ z∈x,0≤z∧z≤255)(hy:∀ z∈y,0≤z∧z≤255):∀ z∈x++y,0≤z∧z≤255:=fun z h=>by
 rcases iQ.1 h with h|h
 ·exact hx z h
 ·exact hy z h
set_option maxRecDepth 100000 in
theorem gW{GB:Nat}{GC:Nat→Nat→Option Value}{ad:Nat→Nat×Nat}(hG:Jk GB GC ad){w:World}(ε:GW GC w)(δ:GB≤w.heap.size){dv rv pv mv:Value}{d r p m:List Int}(hd:JI w dv d)(hr:JI w rv r)(hp:JI w pv p)(hm:JI w mv m)(h0:0<r.length)(ld:d.length≤1000)(lr:r.length≤1000)(lp:p.length≤1000)(lm:m.length<1099511627776/2):
  Calls Tryz.prog 44 #[dv,rv,pv,mv] w (NnP GC (hsN (d++r++p++m)) w):=by
 refine enter (args:=[dv,rv,pv,mv]) Tryz.func44 rfl (n:=23) rfl fun a F=>?_
 refine BQ (Cm F rfl oO fun a F=>Ae ?_);have M1:=Hq w 8 .u64 52 ⟨by decide,by decide⟩;have f1:CV w (w.alloc (.cells (Array.replicate 8 (.int .u64 0)) 52)) (fun _ _=>False):=Cs _ _ _;have s1:(w.alloc (.cells (Array.replicate 8 (.int .u64 0)) 52)).heap.size=w.heap.size+1:=XQ _ _;generalize w.alloc (.cells (Array.replicate 8 (.int .u64 0)) 52)=w1 at M1 f1 s1 ⊢;refine BQ (Cm F rfl qP fun a F=>AB F rfl fun a F=>?_);have O2:=XJ w1 #[] 0 (by omega) rfl;have b2:=DD w1 (.cells #[] 5);generalize w1.alloc (.cells #[] 5)=w2 at O2 b2 ⊢;have q2:CV w w2 (fun _ _=>False):=f1.trans (F9 b2);refine kV F rfl O2 (hd.frm0 q2) (by rw[zcj];omega) b2.size fun v3 w3 a O3 b3 F=>AB F rfl fun a F=>?_
 rw[zcn] at O3;have b3':=b2.trans b3;refine kV F rfl O3 (hr.frm0 (f1.trans (F9 b3'))) (by omega) b3'.size fun v4 w4 a O4 b4 F=>AB F rfl fun a F=>?_
 have b4':=b3'.trans b4;refine kV F rfl O4 (hp.frm0 (f1.trans (F9 b4'))) (by rw[K6];omega) b4'.size fun v5 w5 a O5 b5 F=>AB F rfl fun a F=>?_
 have b5':=b4'.trans b5;refine kV F rfl O5 (hm.frm0 (f1.trans (F9 b5'))) (by simp only[K6];omega) b5'.size fun v6 w6 a O6 b6 F=>AR F rfl fun a F=>Ae ?_
 have b6':=b5'.trans b6;have f6:CV w w6 (fun _ _=>False):=f1.trans (F9 b6');have M6:Ar true w6 (w.heap.size,0) U8 (List.replicate 8 0):=M1.frm (F9 (S:=fun _ _=>False) b6') fun _ _ h=>h
 have hA:=O6.msg (RL (RL (RL hd.rng hr.rng) hp.rng) hm.rng);have hlen:(d++r++p++m).length=d.length+r.length+p.length+m.length:=by simp only[K6]
 have hN:=jZ (d++r++p++m);generalize d++r++p++m=A at *
 refine BQ (AB F rfl fun a F=>Jr F rfl (Dn rfl F.e Tryz.call39) (Xn hG (Vv hG ε f6 δ) (G9 δ f6.1) hA (by omega) (by omega)) fun e w7 h7=>?_);obtain⟨v7,he7,m7⟩:=h7.ret;obtain⟨b,o,c,hv7,hc,h8⟩:=m7.has (by rw[Du];omega);rw[Du] at hv7 hc;subst hv7;have f7:=f6.trans h7.frm;refine⟨_,he7,fun a F=>Jr F rfl (O1 rfl Tryz.call43) (Uw hG h7.gw (G9 δ f7.1)) fun e w8 h9=>⟨_,h9.ret,fun a F=>?_⟩⟩;have f8:=f7.trans h9.frm;have h88:=h8.frm0 h9.frm;refine Jr F rfl (Cz rfl F.e F.e Tryz.call42) (UR hG h9.gw (G9 δ f8.1) (h88.lt (by rw[Du];omega)) h88 (Du _) (by omega) h9.rng Ui zg AFK) fun e w9 h10=>?_
 obtain⟨l,hl,h10⟩:=h10;refine⟨_,h10.ret,fun a F=>?_⟩;have f9:=f8.trans h10.frm;have M9:Ar true w9 (w.heap.size,0) U8 (List.replicate 8 0):=((M6.frm h7.frm fun _ _ h=>h).frm h9.frm fun _ _ h=>h).frm h10.frm fun _ _ h=>h
 have hll:(AZ U8 l).length=8:=Ep h10.rng.1;refine LP F rfl rfl (QX (cs:=AZ U8 l) (fun w=>by rw[hll];simp[go_sem]) F.e F.e Ip (fun j hj=>M9.ex j (by rw[hll] at hj;exact hj))) fun a F=>Ae ?_
 have M10:=Ov h10.rng M9.ex;have f10:CV w (w9.setCells w.heap.size 0 (AZ U8 l)) (fun _ _=>False):=Ck _ _ f9 fun _ _=>.inl (JP _)
 rw[← hN] at hl;refine Kh ⟨F.df,.agg (AZ U8 l).toArray,?_,⟨l,hl,rfl,h10.rng,f10,Vv hG ε f10 δ⟩⟩;exact Z8 rfl ((F.tm 8).trans rfl) (kz (cs:=AZ U8 l) (fun w=>by simp[go_sem]) (fun w=>by rw[hll];simp[go_sem]) M10.vals)
theorem AI7{w:World}{s:ByteArray}:Calls Tryz.prog 22 #[.int .i64 (-1),.string s] w (fun e w'=>e= .returned (.slice none 0 0)∧w=w'):=by
 refine enter (args:=[.int .i64 (-1),.string s]) Tryz.func22 rfl (n:=18) rfl fun a F=>?_
 refine BQ (Bv F rfl fun a F=>Ae ?_);refine wp_seq (wp_seq (reg (AB F rfl fun a F=>Cm F rfl (YX (i:= -1) (j:=0) F.e rfl) fun a F=>Gv ?_)));refine wp_cond (t:=true) F.e ?_;refine BQ (Bv F rfl fun a F=>Ae ?_);refine Kh ⟨F.df,.slice none 0 0,?_,rfl,rfl⟩;have q:=F.tm 4;rw[Ti] at q;simp[results,Tryz.results22,go_sem];exact q
end
noncomputable section
open Go Ma
def rfR(d x m:List Int):Nat:=hsN (d++(Kn x).drop 32++m)
def rfP(d x m:List Int):List Int:=OT (Nf.nm (rfR d x m))
def rfK(d x m:List Int):Nat:=hsN (d++rfP d x m++OT (Nf.zm (SI x))++m)
def rfS(d x m:List Int):Nat:=(((rfK d x m:Int)*SI x+(rfR d x m:Int))%nT).toNat
def AF0(d x m:List Int):List Int:=rfP d x m++octV 32 (rfS d x m)
theorem AFR(d x m:List Int):((rfS d x m:Nat):Int)=((rfK d x m:Int)*SI x+(rfR d x m:Int))%nT:=Int.toNat_of_nonneg (Int.emod_nonneg _ (by decide +kernel))
theorem dS(d x m:List Int):(AF0 d x m).length=64:=by
 unfold AF0 rfP;rw[K6,Jy,Ml]
theorem wS:nT=OM:=rfl
theorem ANq(y:List Int):OM ∣ ((hsN y:Nat):Int)-IG (Kn y):=by
 rw[jZ,wS];exact⟨-(IG (Kn y)/OM),by have:=Int.emod_add_mul_ediv (IG (Kn y)) OM;rw[Int.mul_neg];omega⟩
theorem AEm(y:List Int):OW (suF (Kn y)) ((hsN y:Nat):Int):=by
 have h:OW (suF (Kn y)) (IG (Kn y)):=ALZ UX (yE y) (Du y);exact h.cong (ANq y)
theorem xy{x:List Int}(hl:x.length=32):cp (Yw x) 68 32=(Kn x).drop 32∧OW (cp (Yw x) 64 4) (SI x):=by
 obtain⟨s,h,hs⟩:=xH hl;have e1:Yw x=(x++OT (Nf.zm (SI x))++s)++(Kn x).drop 32:=by rw[h];simp only[YY]
 have e2:Yw x=(x++OT (Nf.zm (SI x)))++(s++(Kn x).drop 32):=by rw[h];simp only[YY]
 constructor
 ·rw[e1];have:=aO (x:=x++OT (Nf.zm (SI x))++s) (y:=(Kn x).drop 32) (z:=[]) (o:=68) (n:=32) (by simp only[K6,hl,Jy,hs.len]) (by rw[nO,Du]);rw[TL] at this;exact this
 ·rw[e2];have:=aO (x:=x++OT (Nf.zm (SI x))) (y:=s) (z:=(Kn x).drop 32) (o:=64) (n:=4) (by simp only[K6,hl,Jy]) hs.len;rw[show cp ((x++OT (Nf.zm (SI x)))++(s++(Kn x).drop 32)) 64 4=s from this];exact hs
theorem AHK{d x m:List Int}(hl:x.length=32):OW (lU d (Yw x) m) ((rfR d x m:Nat):Int)∧AD1 d (Yw x) m=rfP d x m:=by
 have h1:OW (lU d (Yw x) m) ((rfR d x m:Nat):Int):=by
  unfold lU rfR;rw[(xy hl).1];exact AEm _
 refine⟨h1,?_⟩;unfold AD1 pbF rfP;rw[← ADA];exact za ALM (ADg (T:=[(105,.one AY)]) UX h1)
theorem API:lk 106 C27.T=some (.one DI):=by kernel_rfl
theorem AG9{y:List Int}{v:Int}{n:Nat}(h:OW y v)(hn:((n:Nat):Int)=v%nT):sbF y=octV 32 n:=by
 have h5:=AMX ATY h;rw[← wS, ← hn] at h5;exact h5.octV
theorem lh{d x m:List Int}(hl:x.length=32):ZG d (Yw x) m=AF0 d x m:=by
 obtain⟨h1,h2⟩:=AHK (d:=d) (m:=m) hl;have h3:OW (AAo d (Yw x) m) ((rfK d x m:Nat):Int):=by
  unfold AAo rfK;rw[h2,(AHO hl).2.2];exact AEm _
 have h4:OW (maF (AAo d (Yw x) m) (cp (Yw x) 64 4) (lU d (Yw x) m)) ((rfK d x m:Int)*SI x+(rfR d x m:Int)):=by
  unfold maF;exact APa API h3 (xy hl).2 h1
 unfold ZG AF0;rw[h2];generalize maF (AAo d (Yw x) m) (cp (Yw x) 64 4) (lU d (Yw x) m)=y at h4;rw[Au h4.len,AG9 h4 (AFR d x m),AFm (Ml _ _)]
end
section
open Go Go.RowKit Go.Lib Ma
section
variable{ρ:Operand→Value}{d:Option Tmp}{x y z:Operand}{ty:TypeId}{pos:String}{af:Array Edge}{w:World}
theorem Uy{g:Nat}{p:Operand}{u v k m:Value}(hF:ρ (.func g)= .func (.func g) #[] #[])(h:ρ x=u)(hy:ρ y=v)(hz:ρ z=k)(hp:ρ p=m){at_:Array TypeId}(hc:∀ (vs:Array Value) (w:World),(callFunc g vs).run Tryz.prog w= .ok (.enter g vs) w):(execOp ρ ⟨d,.call ⟨.value (.func g),#[x,y,z,p],at_⟩,ty,pos,af,none⟩).run Tryz.prog w= .ok (.enter g #[u,v,k,m]) w:=by
 simp[go_sem,hF,h,hy,hz,hp,hc]
end
noncomputable def gmL(l:List Int):List Int:=EG.raw BZ 0 [l,EN.raw CU 0 []]
theorem AP4{l:List Int}{n:Nat}(h:N8 l (n:Int)):Pj (gmL l) (Nf.nm n):=UN h OI
section
variable{GB:Nat}{GC:Nat→Nat→Option Value}{ad:Nat→Nat×Nat}(hG:Jk GB GC ad)
include hG
set_option maxRecDepth 100000 in
theorem AMY{a:Act}{w:World}{f:Nat→Value}{B9 n:Nat}{l:List Int}(F:Fr a 56 f)(ε:GW GC w)(δ:GB≤w.heap.size)(h9:f 9= .pointer (some ⟨B9,0,none⟩))(hm:Ar true w (B9,0) U8 l)(hn:N8 l (n:Int)):
  (Yi 4 (Ab Tryz.f21)).wp Tryz.prog (fun e a' w'=>e= .normal∧∃ f',Fr a' 56 f'∧(∀ t,t ∈ [0,1,2,6,7,8,9]→f' t=f t)∧(∃ B,f' 10= .pointer (some ⟨B,0,none⟩)∧w.heap.size≤B∧Ar true w' (B,0) L6 (OT (Nf.nm n)))∧CV w w' (fun _ _=>False)) a w:=by
 have hP:=AP4 hn;refine Rt (m:=5) mixed (by kernel_rfl) F (fun j v w1=>match j with
  |0=>v= .agg (AZ U8 l).toArray
  |1=>v= .agg (AZ Y7 (EN.raw CU 0 [])).toArray∧Hf Y7 (EN.raw CU 0 [])
  |2=>v= .agg (AZ Y7 (gmL l)).toArray∧Hf Y7 (gmL l)
  |3=>v= .agg (AZ L6 (OT (Nf.nm n))).toArray∧Hf L6 (OT (Nf.nm n))
  |_=>∃ B,v= .pointer (some ⟨B,0,none⟩)∧w.heap.size≤B∧Ar true w1 (B,0) L6 (List.replicate 32 0)) ?_ ?_ ?_
 ·intro j v w1 w2 h hf
  match j,h with
  |0,h=>exact h
  |1,h=>exact h
  |2,h=>exact h
  |3,h=>exact h
  |j+4,⟨B,h1,h2,h3⟩=>exact⟨B,h1,h2,h3.frm hf fun _ _ h=>h⟩
 ·intro i o f1 a w1 K ho hi F hu hf hd hK
  have hgw1:=Vv hG ε hf δ;have hGB1:=G9 δ hf.1
  match i,hi with
  |0,_=>
   have ho':=SY ho;subst ho';have m1:=hm.frm hf fun _ _ h=>h
   have hl8:(AZ U8 l).length=8:=Ep hm.1.1;refine Ro F rfl rfl (VU (cs:=AZ U8 l) (fun w=>by simp[go_sem]) (fun w=>by rw[hl8];simp[go_sem]) (F.ev ((hu 9 (by kernel_rfl)).trans h9)) m1.vals) fun a F=>hK _ a _ F (CV.refl _ _) rfl
  |1,_=>
   have ho':=SY ho;subst ho';exact Ny F rfl rfl (O1 rfl Tryz.call40) (Vd hG hgw1 hGB1) fun e w2 h2=>⟨_,h2.ret,fun a F=>hK _ a _ F h2.frm ⟨rfl,h2.rng⟩⟩
  |2,_=>
   have ho':=SY ho;subst ho';have d0:f1 29=_:=hd 0 (by kernel_rfl);have d1:f1 30=_∧_:=hd 1 (by kernel_rfl);exact Ny F rfl rfl (Cz rfl (F.ev d0) (F.ev d1.1) Tryz.call36) (XZ hG hgw1 hGB1 hm.1 d1.2 hn OI) fun e w2 h2=>⟨_,h2.ret,fun a F=>hK _ a _ F h2.frm ⟨rfl,h2.rng⟩⟩
  |3,_=>
   have ho':=SY ho;subst ho';have d2:f1 31=_∧_:=hd 2 (by kernel_rfl);exact Ny F rfl rfl (Dn rfl (F.ev d2.1) Tryz.call35) (Yc hG hgw1 hGB1 d2.2 hP) fun e w2 h2=>⟨_,h2.ret,fun a F=>hK _ a _ F h2.frm ⟨rfl,h2.rng⟩⟩
  |4,_=>
   have ho':=SY ho;subst ho';exact Ro F rfl rfl mh fun a F=>hK _ a _ F (Cs _ _ _) ⟨_,rfl,hf.1,Hq w1 32 .u8 48 ⟨by decide,by decide⟩⟩
 ·intro o f1 a w1 ho F hu hf hd
  have ho':=SY ho;subst ho';have d3:f1 32=_∧_:=hd 3 (by decide);obtain⟨B,e10,hB,mB⟩:∃ B,f1 10= .pointer (some ⟨B,0,none⟩)∧w.heap.size≤B∧Ar true w1 (B,0) L6 (List.replicate 32 0):=hd 4 (by decide);have hcl:=Ep d3.2.1;refine mI F rfl (QX (cs:=AZ L6 (OT (Nf.nm n))) (fun w=>by rw[hcl];simp[go_sem];rfl) (F.ev e10) (F.ev d3.1) Ip (fun j hj=>mB.ex j (by rw[hcl] at hj;exact hj))) fun a F=>⟨rfl,f1,F,?_,⟨B,e10,hB,Ov d3.2 mB.ex⟩,Ck _ _ hf fun _ _=>.inl hB⟩
  exact fun t ht=>hu t (zI (by kernel_rfl) ht)
end
theorem APi(x:List Int):SI x<pw 8:=(Oi (Z5 x) (Ua x)).1.bd.2
theorem APl(x:List Int):IG (octV 32 (SI x).toNat)=SI x:=by
 have h:=APi x;have h2:=Zx x;rw[dQ,Nat.mod_eq_of_lt,h2];have e:pw 8=((256^32:Nat):Int):=by decide +kernel
 rw[e] at h;omega
def sdM(x:List Int):Nat:=(SI x%nT).toNat
theorem AEy(x:List Int):((sdM x:Nat):Int)=SI x%nT:=Int.toNat_of_nonneg (Int.emod_nonneg _ (by decide +kernel))
theorem AJ4(d x m:List Int):((rfS d x m:Nat):Int)=((rfK d x m:Int)*(sdM x:Nat)+(rfR d x m:Int))%nT:=by
 rw[AFR,AEy,Int.add_emod,Int.mul_emod, ← zct (SI x) (Int.dvd_refl nT), ← Int.mul_emod, ← Int.add_emod,zct _ (Int.dvd_refl nT)]
section
variable{GB:Nat}{GC:Nat→Nat→Option Value}{ad:Nat→Nat×Nat}(hG:Jk GB GC ad)
include hG
set_option maxRecDepth 100000 in
theorem AMB{a:Act}{w:World}{f:Nat→Value}{B9 B11 B12:Nat}{d x m lr lk:List Int}(F:Fr a 56 f)(ε:GW GC w)(δ:GB≤w.heap.size)(h9:f 9= .pointer (some ⟨B9,0,none⟩))(m9:Ar true w (B9,0) U8 lr)(n9:N8 lr (rfR d x m:Nat))(h11:f 11= .pointer (some ⟨B11,0,none⟩))(m11:Ar true w (B11,0) U8 lk)(n11:N8 lk (rfK d x m:Nat))(h12:f 12= .pointer (some ⟨B12,0,none⟩))(m12:Ar true w (B12,0) L6 (octV 32 (SI x).toNat)):
  (Yi 7 (Ab Tryz.f21)).wp Tryz.prog (fun e a' w'=>e= .normal∧∃ f',Fr a' 56 f'∧(∀ t,t ∈ [0,1,2,6,7,8,9,10]→f' t=f t)∧(∃ B,f' 13= .pointer (some ⟨B,0,none⟩)∧w.heap.size≤B∧Ar true w' (B,0) L6 (octV 32 (rfS d x m)))∧CV w w' (fun _ _=>False)) a w:=by
 have hS:=AJ4 d x m;have hKl:((rfK d x m:Nat):Int)<nT:=ADw _;have hR:((rfR d x m:Nat):Int)<nT:=ADw _;have hE:=APl x;have hM:=AEy x;generalize rfS d x m=S at *
 generalize rfK d x m=K0 at *
 generalize rfR d x m=R at *
 refine Rt (m:=9) mixed (by kernel_rfl) F (fun j v w1=>match j with
  |0=>v= .agg (AZ U8 lk).toArray
  |1=>v= .slice (some ⟨B12,0,none⟩) 32 32
  |2=>v= .agg (AZ U8 (Hg.raw Hl 0 [])).toArray∧Hf U8 (Hg.raw Hl 0 [])
  |3=>∃ le,v= .agg (AZ U8 le).toArray∧Hf U8 le∧N8 le (sdM x:Nat)
  |4=>v= .agg (AZ U8 lr).toArray
  |5=>v= .agg (AZ U8 (Hg.raw Hl 0 [])).toArray∧Hf U8 (Hg.raw Hl 0 [])
  |6=>∃ ls,v= .agg (AZ U8 ls).toArray∧Hf U8 ls∧N8 ls (S:Nat)
  |7=>v= .agg (AZ L6 (octV 32 S)).toArray∧Hf L6 (octV 32 S)
  |_=>∃ B,v= .pointer (some ⟨B,0,none⟩)∧w.heap.size≤B∧Ar true w1 (B,0) L6 (List.replicate 32 0)) ?_ ?_ ?_
 ·intro j v w1 w2 h hf
  match j,h with
  |0,h=>exact h
  |1,h=>exact h
  |2,h=>exact h
  |3,h=>exact h
  |4,h=>exact h
  |5,h=>exact h
  |6,h=>exact h
  |7,h=>exact h
  |j+8,⟨B,h1,h2,h3⟩=>exact⟨B,h1,h2,h3.frm hf fun _ _ h=>h⟩
 ·intro i o f1 a w1 K ho hi F hu hf hd hK
  have hgw1:=Vv hG ε hf δ;have hGB1:=G9 δ hf.1
  match i,hi with
  |0,_=>
   have ho':=SY ho;subst ho';have m1:=m11.frm hf fun _ _ h=>h
   have hl8:(AZ U8 lk).length=8:=Ep m11.1.1;refine Ro F rfl rfl (VU (cs:=AZ U8 lk) (fun w=>by simp[go_sem]) (fun w=>by rw[hl8];simp[go_sem]) (F.ev ((hu 11 (by kernel_rfl)).trans h11)) m1.vals) fun a F=>hK _ a _ F (CV.refl _ _) rfl
  |1,_=>
   have ho':=SY ho;subst ho';exact Ro F rfl rfl (bf (F.ev ((hu 12 (by kernel_rfl)).trans h12))) fun a F=>hK _ a _ F (CV.refl _ _) rfl
  |2,_=>
   have ho':=SY ho;subst ho';exact Ny F rfl rfl (O1 rfl Tryz.call43) (Uw hG hgw1 hGB1) fun e w2 h2=>⟨_,h2.ret,fun a F=>hK _ a _ F h2.frm ⟨rfl,h2.rng⟩⟩
  |3,_=>
   have ho':=SY ho;subst ho';have d1:f1 44=_:=hd 1 (by kernel_rfl);have d2:f1 45=_∧_:=hd 2 (by kernel_rfl);have m1:=m12.frm hf fun _ _ h=>h
   have h8:Fe w1 B12 0 (octV 32 (SI x).toNat):=⟨m1.rng8,fun i hi=>(m1.at8 (by rw[Ml] at hi;exact hi)).1.1⟩;refine Ny F rfl rfl (Cz rfl (F.ev d1) (F.ev d2.1) Tryz.call42) (UR hG hgw1 hGB1 (h8.lt (by rw[Ml];omega)) h8 (Ml _ _) (by omega) d2.2 Ui zg AFK) fun e w2 h2=>?_
   obtain⟨le,hle,h2⟩:=h2;rw[hE, ← hM] at hle;exact⟨_,h2.ret,fun a F=>hK _ a _ F h2.frm ⟨le,rfl,h2.rng,hle⟩⟩
  |4,_=>
   have ho':=SY ho;subst ho';have m1:=m9.frm hf fun _ _ h=>h
   have hl8:(AZ U8 lr).length=8:=Ep m9.1.1;refine Ro F rfl rfl (VU (cs:=AZ U8 lr) (fun w=>by simp[go_sem]) (fun w=>by rw[hl8];simp[go_sem]) (F.ev ((hu 9 (by kernel_rfl)).trans h9)) m1.vals) fun a F=>hK _ a _ F (CV.refl _ _) rfl
  |5,_=>
   have ho':=SY ho;subst ho';exact Ny F rfl rfl (O1 rfl Tryz.call43) (Uw hG hgw1 hGB1) fun e w2 h2=>⟨_,h2.ret,fun a F=>hK _ a _ F h2.frm ⟨rfl,h2.rng⟩⟩
  |6,_=>
   have ho':=SY ho;subst ho';have d0:f1 43=_:=hd 0 (by kernel_rfl);obtain⟨le,e3,r3,n3⟩:∃ le,f1 46= .agg (AZ U8 le).toArray∧Hf U8 le∧N8 le (sdM x:Nat):=hd 3 (by kernel_rfl);have d4:f1 47=_:=hd 4 (by kernel_rfl);have d5:f1 48=_∧_:=hd 5 (by kernel_rfl);refine Ny F rfl rfl (Uy rfl (F.ev d0) (F.ev e3) (F.ev d4) (F.ev d5.1) Tryz.call46) (tV hG hgw1 hGB1 zg n11 hKl n3 n9 hR Ui m11.1 r3 m9.1 d5.2) fun e w2 h2=>?_
   obtain⟨ls,hls,h2⟩:=h2;rw[← hS] at hls;exact⟨_,h2.ret,fun a F=>hK _ a _ F h2.frm ⟨ls,rfl,h2.rng,hls⟩⟩
  |7,_=>
   have ho':=SY ho;subst ho';obtain⟨ls,e6,r6,n6⟩:∃ ls,f1 49= .agg (AZ U8 ls).toArray∧Hf U8 ls∧N8 ls (S:Nat):=hd 6 (by kernel_rfl);exact Ny F rfl rfl (Dn rfl (F.ev e6) Tryz.call45) (eZ hG hgw1 hGB1 r6 n6) fun e w2 h2=>⟨_,h2.ret,fun a F=>hK _ a _ F h2.frm ⟨rfl,h2.rng⟩⟩
  |8,_=>
   have ho':=SY ho;subst ho';exact Ro F rfl rfl mh fun a F=>hK _ a _ F (Cs _ _ _) ⟨_,rfl,hf.1,Hq w1 32 .u8 48 ⟨by decide,by decide⟩⟩
 ·intro o f1 a w1 ho F hu hf hd
  have ho':=SY ho;subst ho';have d3:f1 50=_∧_:=hd 7 (by decide);obtain⟨B,e10,hB,mB⟩:∃ B,f1 13= .pointer (some ⟨B,0,none⟩)∧w.heap.size≤B∧Ar true w1 (B,0) L6 (List.replicate 32 0):=hd 8 (by decide);have hcl:=Ep d3.2.1;refine mI F rfl (QX (cs:=AZ L6 (octV 32 S)) (fun w=>by rw[hcl];simp[go_sem];rfl) (F.ev e10) (F.ev d3.1) Ip (fun j hj=>mB.ex j (by rw[hcl] at hj;exact hj))) fun a F=>⟨rfl,f1,F,?_,⟨B,e10,hB,Ov d3.2 mB.ex⟩,Ck _ _ hf fun _ _=>.inl hB⟩
  exact fun t ht=>hu t (zI (by kernel_rfl) ht)
end
end
section
open Go Go.RowKit Go.Lib Ma
theorem ANU{ρ:Operand→Value}{d:Option Tmp}{x y:Operand}{ty:TypeId}{pos:String}{af:Array Edge}{w:World}{b o m c k:Nat}(hx:ρ x= .slice (some ⟨b,o,none⟩) m c)(hy:ρ y= .int .i64 (k:Int))(h1:k<m)(h2:m≤c):(execOp ρ ⟨d,.slice 22 x (some y) none none,ty,pos,af,none⟩).run Tryz.prog w= .ok (.value (.slice (some ⟨b,o+k,none⟩) (m-k) (c-k))) w:=by
 have hu:=run_underlying (w:=w) Tryz.underlying22;have hb1:∀ code,(Instr.sliceBound (.int .i64 (k:Int)) m code).run Tryz.prog w= .ok k w:=fun code=>CR _ w (by omega) code
 simp only[execOp,hx,hy,Xa,Option.map_none,Instr.sliceAt,Instr.slice,I1,hu,IB];simp only[Instr.sliceBounds,hb1,sz8,I1,KD,IB];have hne:¬ (c=k):=by omega
 simp[hne,DZ]
section
set_option maxRecDepth 100000 in
theorem APw{a:Act}{w:World}{f:Nat→Value}{B10 B13:Nat}{p q:List Int}(F:Fr a 56 f)(h10:f 10= .pointer (some ⟨B10,0,none⟩))(m10:Ar true w (B10,0) L6 p)(h13:f 13= .pointer (some ⟨B13,0,none⟩))(m13:Ar true w (B13,0) L6 q):
  (Yi 8 (Ab Tryz.f21)).wp Tryz.prog (fun e a' w'=>e= .normal∧∃ f',Fr a' 56 f'∧JI w' (f' 6) (p++q)∧CV w w' (fun _ _=>False)) a w:=by
 refine UJ (N:=6) mixed (by kernel_rfl) ?_;have fd:=iq w;generalize ({ w with drawn:=w.drawn+1 }:World)=w1 at fd ⊢;refine Ru (i:=1) rfl F rfl rfl rfl (by kernel_rfl) (fun c a w h=>by cases h.1) (fun w=>bf (F.ev h10)) fun a F=>?_
 refine Ru (i:=3) rfl F rfl rfl rfl (by kernel_rfl) (fun c a w h=>by cases h.1) (fun w=>bf (F.ev h13)) fun a F=>?_
 have hp:=(m10.frm fd fun _ _ h=>h);have hq:=(m13.frm fd fun _ _ h=>h);have lp:p.length=32:=m10.1.1;have lq:q.length=32:=m13.1.1;have H10:JI w1 (.slice (some ⟨B10,0,none⟩) 32 32) p:=JI.of_has ⟨hp.rng8,fun i hi=>(hp.at8 (by rw[lp] at hi;exact hi)).1.1⟩ lp (JP _);have H13:JI w1 (.slice (some ⟨B13,0,none⟩) 32 32) q:=JI.of_has ⟨hq.rng8,fun i hi=>(hq.at8 (by rw[lq] at hi;exact hi)).1.1⟩ lq (JP _);refine Ob (i:=0) (by kernel_rfl) (KL (by kernel_rfl) rfl (Ro F rfl rfl qP fun a F=>?_));have O2:=XJ w1 #[] 0 (by omega) rfl;have b2:=DD w1 (.cells #[] 5);generalize w1.alloc (.cells #[] 5)=w2 at O2 b2 ⊢;refine Ob (i:=2) (by kernel_rfl) (KL (by kernel_rfl) rfl (YK (x:=51) (y:=52) F rfl O2 (H10.frm0 (F9 b2)) (by rw[zcj];omega) b2.size fun v3 w3 a O3 g3 F=>?_));rw[zcn] at O3;have b3:=b2.trans (NN O2 g3 b2.size);refine Ob (i:=4) (by kernel_rfl) (KL (by kernel_rfl) rfl (YK (x:=53) (y:=54) F rfl O3 (H13.frm0 (F9 b3)) (by rw[lp,lq];omega) b3.size fun v4 w4 a O4 g4 F=>?_));have b4:=b3.trans (NN O3 g4 b3.size);refine Ob (i:=5) (by kernel_rfl) (KL (by kernel_rfl) rfl (Ro F rfl rfl (by simp only[execOp,F.ev (t:=55) rfl];rfl) fun a F=>?_));refine wpAny_done (by kernel_rfl) ⟨rfl,_,F,O4.msg (RL hp.rng8 hq.rng8),fd.trans (F9 b4)⟩ 0
end
structure S3 (w:World) (dv sv mv pv hv:Value) (b7 o7 c7:Nat) (f:Nat→Value) (w1:World):Prop where
 f0:f 0=dv
 f1:f 1=sv
 f2:f 2=mv
 f7:f 7=hv
 f8:f 8=pv
 f19:f 19=dv
 f22:f 22= .slice (some ⟨b7,o7+32,none⟩) 32 (c7-32)
 f24:f 24=mv
 fr:CV w w1 (fun _ _=>False)
def C3(B:Nat)(d h m:List Int):Nat→(Nat→Value)→World→Prop
 |0,_,_=>True
 |1,f,w1=>Ql w1 B (f 18) []
 |2,f,w1=>Ql w1 B (f 20) d
 |3,f,w1=>Ql w1 B (f 23) (d++h)
 |4,f,w1=>Ql w1 B (f 25) (d++h++m)
 |5,f,w1=>∃ b o c,f 26= .slice (some ⟨b,o,none⟩) 64 c∧Fe w1 b o (Kn (d++h++m))
 |6,f,w1=>(∃ b o c,f 26= .slice (some ⟨b,o,none⟩) 64 c∧Fe w1 b o (Kn (d++h++m)))∧f 27= .agg (AZ U8 (Hg.raw Hl 0 [])).toArray∧Hf U8 (Hg.raw Hl 0 [])
 |_,f,_=>∃ l,f 28= .agg (AZ U8 l).toArray∧Hf U8 l∧N8 l (hsN (d++h++m):Nat)
def A3(B k:Nat)(f:Nat→Value)(w1:World):Prop:=∃ g,f 9= .pointer (some ⟨g,0,none⟩)∧B≤g∧Ar true w1 (g,0) U8 (List.replicate 8 0)∧(k≤4→∃ cur,w1.heap[g]? = some (.cells cur 52 (0,0)))
theorem A3.frm{B k k':Nat}{f f':Nat→Value}{w1 w2:World}(h:A3 B k f w1)(hf:CV w1 w2 (fun _ _=>False))(h9:f' 9=f 9)(hk:k'≤4→k≤4∧∀ g,g<w1.heap.size→w2.heap[g]? = w1.heap[g]?):A3 B k' f' w2:=by
 obtain⟨g,e,hB,m,hc⟩:=h;refine⟨g,h9.trans e,hB,m.frm hf fun _ _ h=>h,fun hk'=>?_⟩;obtain⟨h1,h2⟩:=hk hk';obtain⟨cur,abC⟩:=hc h1;refine⟨cur,?_⟩;rw[h2 g ((m.2 0 .u64 0 rfl rfl).lt)];exact abC
theorem APg{B g:Nat}{v:Value}{xs:List Int}{w1:World}{cur:Array Value}(ho:Ql w1 B v xs)(hg:w1.heap[g]? = some (.cells cur 52 (0,0))):some g≠v.ownBlock:=by
 rcases ho.2 with ⟨h1,-⟩|⟨g',cap,cur',h1,-,h3,-⟩
 ·rw[h1];simp[Value.ownBlock]
 ·rw[h1];simp only[Value.ownBlock,ne_eq,Am]
  intro e
  subst e;rw[hg] at h3;simp at h3
theorem A3.app{B k:Nat}{f f':Nat→Value}{w1 w2:World}{v:Value}{xs:List Int}(h:A3 B k f w1)(ho:Ql w1 B v xs)(hg:w1.grownBy w2 v.ownBlock)(h9:f' 9=f 9)(hk:k≤4):A3 B (k+1) f' w2:=by
 obtain⟨g,e,hB,m,hc⟩:=h;obtain⟨cur,abC⟩:=hc hk;have hlt:=(m.2 0 .u64 0 rfl rfl).lt;have hsame:w2.heap[g]? = w1.heap[g]? := hg.block g hlt (APg ho abC);refine⟨g,h9.trans e,hB,⟨m.1,fun i k x hk hx=>?_⟩,fun _=>⟨cur,hsame.trans abC⟩⟩;have h1:=m.2 i k x hk hx;exact⟨(World.cell?_of_block (a:=⟨g,0+i,none⟩) hsame).trans h1.1,fun hh=>(World.frozen?_of_block (a:=⟨g,0+i,none⟩) hsame).trans (h1.2 hh)⟩
theorem AFC{B C:Nat}{w:World}{v:Value}{xs:List Int}(h:Ql w B v xs)(hc:C≤B):Ql w C v xs:=by
 refine⟨h.1,?_⟩
 rcases h.2 with h2|⟨g,cap,cur,h1,h2,h3⟩
 ·exact .inl h2
 ·exact .inr ⟨g,cap,cur,h1,by omega,h3⟩
theorem C3.alloc{B k:Nat}{d h m:List Int}{f f':Nat→Value}{w1:World}{o:Obj}(hc:C3 B d h m k f w1)(hf:∀ t,t ∈ [18,20,23,25,26,27,28]→f' t=f t):C3 B d h m k f' (w1.alloc o):=by
 have hb:=DD w1 o;have hfr:CV w1 (w1.alloc o) (fun _ _=>False):=Cs _ _ _
 match k,hc with
 |0,_=>trivial
 |1,hc=>exact (show Ql _ _ _ _ by rw[hf 18 (by decide)];exact Ql.below hc hb)
 |2,hc=>exact (show Ql _ _ _ _ by rw[hf 20 (by decide)];exact Ql.below hc hb)
 |3,hc=>exact (show Ql _ _ _ _ by rw[hf 23 (by decide)];exact Ql.below hc hb)
 |4,hc=>exact (show Ql _ _ _ _ by rw[hf 25 (by decide)];exact Ql.below hc hb)
 |5,⟨b,o,c,h1,h2⟩=>exact⟨b,o,c,(hf 26 (by decide)).trans h1,h2.frm0 hfr⟩
 |6,⟨⟨b,o,c,h1,h2⟩,h3,h4⟩=>exact⟨⟨b,o,c,(hf 26 (by decide)).trans h1,h2.frm0 hfr⟩,(hf 27 (by decide)).trans h3,h4⟩
 |k+7,⟨l,h1,h2,h3⟩=>exact⟨l,(hf 28 (by decide)).trans h1,h2,h3⟩
def P3(w:World)(dv sv mv pv hv:Value)(b7 o7 c7:Nat)(d h m:List Int)(k:Nat)(fl:Bool)(a:Act)(w1:World):Prop:=
 ∃ f,Fr a 56 f∧S3 w dv sv mv pv hv b7 o7 c7 f w1∧C3 w.heap.size d h m k f w1∧(fl=true→A3 w.heap.size k f w1)
theorem S3.keep{w:World}{dv sv mv pv hv:Value}{b7 o7 c7:Nat}{f f':Nat→Value}{w1 w2:World}(s:S3 w dv sv mv pv hv b7 o7 c7 f w1)(hf:∀ t,t ∈ [0,1,2,7,8,19,22,24]→f' t=f t)(hr:CV w w2 (fun _ _=>False)):S3 w dv sv mv pv hv b7 o7 c7 f' w2:=
 ⟨(hf 0 (by decide)).trans s.f0,(hf 1 (by decide)).trans s.f1,(hf 2 (by decide)).trans s.f2,(hf 7 (by decide)).trans s.f7,(hf 8 (by decide)).trans s.f8,(hf 19 (by decide)).trans s.f19,(hf 22 (by decide)).trans s.f22,(hf 24 (by decide)).trans s.f24,hr⟩
theorem OD{f:Nat→Value}{t:Nat}{v:Value}{ks:List Nat}(h:ks.all (fun k=>k != t)=true):∀ k,k∈ks→SN f t v k=f k:=fun k hk=>by
 have:=Ll.1 h k hk;simp only[bne_iff_ne] at this;exact NA (Ne.symm this)
theorem WG{w w1 w2:World}(h:CV w w1 (fun _ _=>False))(hb:Below w.heap.size w1 w2):CV w w2 (fun _ _=>False):=F9 ((PG h fun _ _ h=>h).trans hb)
section
variable{GB:Nat}{GC:Nat→Nat→Option Value}{ad:Nat→Nat×Nat}(hG:Jk GB GC ad)
include hG
set_option maxRecDepth 100000 in
theorem APU{a:Act}{w:World}{f:Nat→Value}{b7 o7 c7:Nat}{d x m:List Int}(F:Fr a 56 f)(ε:GW GC w)(δ:GB≤w.heap.size)(hd:JI w (f 0) d)(hm:JI w (f 2) m)(h7:f 7= .slice (some ⟨b7,o7,none⟩) 64 c7)(hc7:64≤c7)(m7:Fe w b7 o7 (Kn x))(ld:d.length≤1000)(lm:m.length<1099511627776/2):
  (Yi 3 (Ab Tryz.f21)).wp Tryz.prog (fun e a' w'=>e= .normal∧∃ f',Fr a' 56 f'∧(∀ t,t ∈ [0,1,2,7,8]→f' t=f t)∧(∃ B l,f' 9= .pointer (some ⟨B,0,none⟩)∧w.heap.size≤B∧Ar true w' (B,0) U8 l∧N8 l (rfR d x m:Nat))∧CV w w' (fun _ _=>False)) a w:=by
 refine UJ (N:=13) mixed (by kernel_rfl) ?_;have fd:=iq w;generalize ({ w with drawn:=w.drawn+1 }:World)=w1 at fd ⊢;refine Ru (i:=1) (t:=19) (v:=f 0) rfl F rfl rfl rfl (by kernel_rfl) (fun c a w h=>by cases h.1) (fun w=>by simp only[execOp,F.ev (t:=0) rfl];rfl) fun a F=>?_
 refine Ru (i:=3) (t:=21) (v:=f 7) rfl F rfl rfl rfl (by kernel_rfl) (fun c a w h=>by cases h.1) (fun w=>by simp only[execOp,F.ev (t:=7) rfl];rfl) fun a F=>?_
 refine Ru (i:=4) (t:=22) rfl F rfl rfl rfl (by kernel_rfl) (fun c a w h=>by cases h.1) (fun w=>ANU (k:=32) (F.ev h7) rfl (by omega) hc7) fun a F=>?_
 refine Ru (i:=6) (t:=24) (v:=f 2) rfl F rfl rfl rfl (by kernel_rfl) (fun c a w h=>by cases h.1) (fun w=>by simp only[execOp,F.ev (t:=2) rfl];rfl) fun a F=>?_
 have hP:P3 w (f 0) (f 1) (f 2) (f 8) (f 7) b7 o7 c7 d ((Kn x).drop 32) m 0 false a w1:=⟨_,F,⟨rfl,rfl,rfl,rfl,rfl,rfl,rfl,rfl,fd⟩,trivial,fun h=>by cases h⟩;have m8:Fe w b7 (o7+32) ((Kn x).drop 32):=⟨fun z hz=>m7.1 z (zcs hz),fun i hi=>by
  rw[nO,Du] at hi;have:=m7.2 (32+i) (by rw[Du];omega);rw[show o7+32+i=o7+(32+i) by omega,this];simp[List.getD]⟩
 have l8:((Kn x).drop 32).length=32:=by rw[nO,Du]
 have hh:JI w (.slice (some ⟨b7,o7+32,none⟩) 32 (c7-32)) ((Kn x).drop 32):=JI.of_has m8 l8 (by omega);have hA:rfR d x m=hsN (d++(Kn x).drop 32++m):=rfl;clear F;generalize (Kn x).drop 32=h at *
 refine (show wpAny _ _ _ _ (1 + [0,2,5,7,8,9,10].length+1) _ _ _ from aj (al:=11) (Pk:=P3 w (f 0) (f 1) (f 2) (f 8) (f 7) b7 o7 c7 d h m) ?_ [0,2,5,7,8,9,10] 0 _ _ _ (by kernel_rfl) ?_ ?_ hP)
 ·intro k a w1 ⟨f1,F,s,c,_⟩
  refine KL (by kernel_rfl) rfl (Ro F rfl rfl oO fun a F=>⟨_,F,s.keep (OD (by decide)) (s.fr.trans (Cs _ _ _)),c.alloc (OD (by decide)),fun _=>⟨w1.heap.size,rfl,s.fr.1,Hq w1 8 .u64 52 ⟨by decide,by decide⟩,fun _=>⟨_,heap_alloc_new _ _⟩⟩⟩)
 ·intro j y hj fl a w1 ⟨f1,F,s,c,hfl⟩
  have hgw1:=Vv hG ε s.fr δ;have hGB1:=G9 δ s.fr.1
  match j,hj,c,hfl with
  |0,hj,_,hfl=>
   have hj':=SY hj;subst hj';have hfr:CV w1 (w1.alloc (.cells #[] 5)) (fun _ _=>False):=Cs _ _ _;exact KL (by kernel_rfl) rfl (Ro F rfl rfl qP fun a F=>⟨_,F,s.keep (OD (by decide)) (s.fr.trans hfr),(show Ql _ _ _ _ from AFC (XJ w1 #[] 0 (by omega) rfl) s.fr.1),fun h=>(hfl h).frm hfr rfl fun _=>⟨by omega,fun g hg=>heap_alloc_old _ _ hg⟩⟩)
  |1,hj,c,hfl=>
   have hj':=SY hj;subst hj';have c:Ql w1 w.heap.size (f1 18) []:=c;refine KL (by kernel_rfl) rfl (YK (t:=20) (x:=18) (y:=19) (ys:=d) F rfl c (by rw[s.f19];exact hd.frm0 s.fr) (by rw[zcj];omega) s.fr.1 fun v2 w2 a O2 g2 F=>⟨_,F,s.keep (OD (by decide)) (WG s.fr (NN c g2 s.fr.1)),O2,fun h=>(hfl h).app c g2 rfl (by omega)⟩)
  |2,hj,c,hfl=>
   have hj':=SY hj;subst hj';have c:Ql w1 w.heap.size (f1 20) d:=c;refine KL (by kernel_rfl) rfl (YK (t:=23) (x:=20) (y:=22) (ys:=h) F rfl c (by rw[s.f22];exact hh.frm0 s.fr) (by rw[l8];omega) s.fr.1 fun v2 w2 a O2 g2 F=>⟨_,F,s.keep (OD (by decide)) (WG s.fr (NN c g2 s.fr.1)),O2,fun h=>(hfl h).app c g2 rfl (by omega)⟩)
  |3,hj,c,hfl=>
   have hj':=SY hj;subst hj';have c:Ql w1 w.heap.size (f1 23) (d++h):=c;refine KL (by kernel_rfl) rfl (YK (t:=25) (x:=23) (y:=24) (ys:=m) F rfl c (by rw[s.f24];exact hm.frm0 s.fr) (by rw[K6,l8];omega) s.fr.1 fun v2 w2 a O2 g2 F=>⟨_,F,s.keep (OD (by decide)) (WG s.fr (NN c g2 s.fr.1)),O2,fun h=>(hfl h).app c g2 rfl (by omega)⟩)
  |4,hj,c,hfl=>
   have hj':=SY hj;subst hj';have c:Ql w1 w.heap.size (f1 25) (d++h++m):=c;refine KL (by kernel_rfl) rfl (Ny F rfl rfl (Dn rfl F.e Tryz.call39) (Xn hG hgw1 hGB1 (c.msg (RL (RL hd.rng hh.rng) hm.rng)) (by simp only[K6];omega) (by simp only[K6];omega)) fun e w2 h2=>?_);obtain⟨v2,he2,M2⟩:=h2.ret;obtain⟨b,o,c',hv,hc,h8⟩:=M2.has (by rw[Du];omega);rw[Du] at hv;exact⟨v2,he2,fun a F=>⟨_,F,s.keep (OD (by decide)) (s.fr.trans h2.frm),⟨b,o,c',hv,h8⟩,fun h=>(hfl h).frm h2.frm rfl fun h=>absurd h (by omega)⟩⟩
  |5,hj,⟨b,o,c',hv,h8⟩,hfl=>
   have hj':=SY hj;subst hj';exact KL (by kernel_rfl) rfl (Ny (t:=27) F rfl rfl (O1 rfl Tryz.call43) (Uw hG hgw1 hGB1) fun e w2 h2=>⟨_,h2.ret,fun a F=>⟨_,F,s.keep (OD (by decide)) (s.fr.trans h2.frm),⟨⟨b,o,c',hv,h8.frm0 h2.frm⟩,rfl,h2.rng⟩,fun h=>(hfl h).frm h2.frm rfl fun h=>absurd h (by omega)⟩⟩)
  |6,hj,⟨⟨b,o,c',hv,h8⟩,e27,r27⟩,hfl=>
   have hj':=SY hj;subst hj';refine KL (by kernel_rfl) rfl (Ny F rfl rfl (Cz rfl (F.ev hv) (F.ev e27) Tryz.call42) (UR hG hgw1 hGB1 (h8.lt (by rw[Du];omega)) h8 (Du _) (by omega) r27 Ui zg AFK) fun e w2 h2=>?_);obtain⟨l,hl,h2⟩:=h2;rw[← jZ] at hl;exact⟨_,h2.ret,fun a F=>⟨_,F,s.keep (OD (by decide)) (s.fr.trans h2.frm),⟨l,rfl,h2.rng,hl⟩,fun h=>(hfl h).frm h2.frm rfl fun h=>absurd h (by omega)⟩⟩
  |j+7,hj,_,_=>simp at hj
 ·intro a w1 ⟨f1,F,s,⟨l,e28,r28,n28⟩,hfl⟩
  obtain⟨B,e9,hB,mB,_⟩:=hfl rfl;have hl8:(AZ U8 l).length=8:=Ep r28.1;refine Ob (i:=12) (by kernel_rfl) (KL (by kernel_rfl) rfl (mI F rfl (QX (cs:=AZ U8 l) (fun w=>by rw[hl8];simp[go_sem]) (F.ev e9) (F.ev e28) Ip (fun j hj=>mB.ex j (by rw[hl8] at hj;exact hj))) fun a F=>?_));refine wpAny_done (by kernel_rfl) ⟨rfl,_,F,?_,⟨B,l,e9,hB,Ov r28 mB.ex,(by rw[hA];exact n28)⟩,Ck _ _ s.fr fun _ _=>.inl hB⟩ 0
  intro t ht
  simp only[J4,List.not_mem_nil,or_false] at ht
  rcases ht with rfl|rfl|rfl|rfl|rfl
  ·exact s.f0
  ·exact s.f1
  ·exact s.f2
  ·exact s.f7
  ·exact s.f8
end
end
section
open Go Go.RowKit Go.Lib Ma
theorem JI.of_mem{w:World}{B n:Nat}{xs:List Int}(h:Ar true w (B,0) (List.replicate n .u8) xs):JI w (.slice (some ⟨B,0,none⟩) n n) xs:=by
 have hl:xs.length=n:=by have:=h.1.1;rwa [SX] at this
 exact JI.of_has ⟨h.rng8,fun i hi=>(h.at8 (by rw[hl] at hi;exact hi)).1.1⟩ hl (JP _)
section
variable{GB:Nat}{GC:Nat→Nat→Option Value}{ad:Nat→Nat×Nat}(hG:Jk GB GC ad)
include hG
set_option maxRecDepth 100000 in
theorem Xv{w:World}{dv sv mv:Value}{d x m:List Int}(ε:GW GC w)(δ:GB≤w.heap.size)(hd:JI w dv d)(hx:JI w sv x)(hl:x.length=32)(hm:JI w mv m)(ld:d.length≤1000)(lm:m.length<1099511627776/2):
  Calls Tryz.prog 21 #[dv,sv,mv] w (MsP GC (AF0 d x m) w):=by
 refine enter (args:=[dv,sv,mv]) Tryz.func21 rfl (n:=56) rfl fun a F=>?_
 refine BQ (Bv F rfl fun a F=>Ae ?_);refine BQ (AB F rfl fun a F=>Jr F rfl (Dn rfl F.e Tryz.call39) (Xn hG ε δ hx (by omega) (by omega)) fun e w1 h1=>?_);obtain⟨v1,he1,m1⟩:=h1.ret;obtain⟨b7,o7,c7,hv1,hc7,h87⟩:=m1.has (by rw[Du];omega);rw[Du] at hv1 hc7;subst hv1;have g1:=h1.frm;refine⟨_,he1,fun a F=>AR F rfl fun a F=>Ae ?_⟩;refine BQ (AB F rfl fun a F=>Jr F rfl (Dn rfl F.e Tryz.call18) (uB hG h1.gw (G9 δ g1.1) (hx.frm0 g1) (by omega) (by omega)) fun e w2 h2=>?_);obtain⟨v2,he2,m2⟩:=h2.ret;have g2:=g1.trans h2.frm;refine⟨_,he2,fun a F=>AR F rfl fun a F=>Ae ?_⟩;refine KT (APU hG F h2.gw (G9 δ g2.1) (hd.frm0 g2) (hm.frm0 g2) rfl hc7 (h87.frm0 h2.frm) ld lm) ?_
 rintro a w3 ⟨f3,F,k3,⟨B9,lr,e9,hB9,m9,n9⟩,g23⟩
 have g3:=g2.trans g23;have gw3:=Vv hG ε g3 δ;have k0:f3 0=dv:=k3 0 (by decide);have k2:f3 2=mv:=k3 2 (by decide);have k7:f3 7= .slice (some ⟨b7,o7,none⟩) 64 c7:=k3 7 (by decide);have k8:f3 8=v2:=k3 8 (by decide);clear k3;refine KT (AMY hG F gw3 (G9 δ g3.1) e9 m9 n9) ?_
 rintro a w4 ⟨f4,F,k4,⟨B10,e10,agB,m10⟩,g34⟩
 have g4:=g3.trans g34;have gw4:=Vv hG ε g4 δ;replace k0:f4 0=dv:=(k4 0 (by decide)).trans k0;replace k2:f4 2=mv:=(k4 2 (by decide)).trans k2;replace k7:f4 7= .slice (some ⟨b7,o7,none⟩) 64 c7:=(k4 7 (by decide)).trans k7;replace k8:f4 8=v2:=(k4 8 (by decide)).trans k8;have k9:f4 9= .pointer (some ⟨B9,0,none⟩):=(k4 9 (by decide)).trans e9;have m9':=m9.frm g34 fun _ _ h=>h
 clear k4;refine BQ (AB F rfl fun a F=>Cm F rfl (bf (F.ev e10)) fun a F=>AB F rfl fun a F=>AB F rfl fun a F=>
  Jr F rfl (Uy rfl (F.ev (t:=33) k0) F.e (F.ev (t:=35) k8) (F.ev (t:=36) k2) Tryz.call44) (gW hG gw4 (G9 δ g4.1) (hd.frm0 g4) (JI.of_mem m10) ((m2.frm0 g23).frm0 g34) (hm.frm0 g4) (by rw[Jy];omega) ld (by rw[Jy];omega) (by rw[Jy];omega) lm) fun e w5 h5=>?_)
 obtain⟨lk,nk,h5⟩:=h5.ex;have g5:=g4.trans h5.frm;have aeq:=m9'.frm h5.frm fun _ _ h=>h
 have aek:=m10.frm h5.frm fun _ _ h=>h
 refine⟨_,h5.ret,fun a F=>Cm F rfl oO fun a F=>?_⟩;have M6:=Hq w5 8 .u64 52 ⟨by decide,by decide⟩;have f6:CV w5 (w5.alloc (.cells (Array.replicate 8 (.int .u64 0)) 52)) (fun _ _=>False):=Cs _ _ _;generalize w5.alloc (.cells (Array.replicate 8 (.int .u64 0)) 52)=w6 at M6 f6 ⊢;have hlk:(AZ U8 lk).length=8:=Ep h5.rng.1;refine LP F rfl rfl (QX (cs:=AZ U8 lk) (fun w=>by rw[hlk];simp[go_sem]) F.e F.e Ip (fun j hj=>M6.ex j (by rw[hlk] at hj;exact hj))) fun a F=>Ae ?_
 have M7:=Ov h5.rng M6.ex;have f57:CV w5 (w6.setCells w5.heap.size 0 (AZ U8 lk)) (fun _ _=>False):=Ck _ _ f6 fun _ _=>.inl (JP _)
 generalize w6.setCells w5.heap.size 0 (AZ U8 lk)=w7 at M7 f57 ⊢;have g7:=g5.trans f57;have gw7:=Vv hG ε g7 δ;have h8:Fe w7 b7 o7 (Kn x):=h87.frm0 (((h2.frm.trans g23).trans g34).trans (h5.frm.trans f57));refine BQ (AB F rfl fun a F=>Cm F rfl (AGC (k:=32) (F.ev k7) rfl (by omega)) fun a F=>?_);have M8:Ar false w7 (b7,o7) L6 ((Kn x).take 32):=(h8.memI (Du x)).take (n:=32) (by omega);refine Jr F rfl (Dn rfl F.e Tryz.call38) (bH hG gw7 (G9 δ g7.1) M8 (by omega)) fun e w8 h9=>⟨_,h9.ret,fun a F=>?_⟩
 have g8:=g7.trans h9.frm;refine Jr F rfl (Dn rfl F.e Tryz.call37) (Yl hG h9.gw (G9 δ g8.1) h9.rng) fun e w9 h10=>⟨_,h10.ret,fun a F=>?_⟩
 have g9:=g8.trans h10.frm;have hN:N8 (Iw.raw I4 0 [(Kn x).take 32]) (((SI x).toNat:Nat):Int):=by
  rw[Zx];exact (Oi (Z5 x) (Ua x)).1
 refine Jr F rfl (Dn rfl F.e Tryz.call45) (eZ hG h10.gw (G9 δ g9.1) h10.rng hN) fun e w10 h11=>⟨_,h11.ret,fun a F=>Cm F rfl mh fun a F=>?_⟩
 have zo:=g9.trans h11.frm;have M11:=Hq w10 32 .u8 48 ⟨by decide,by decide⟩;have f11:CV w10 (w10.alloc (.cells (Array.replicate 32 (.int .u8 0)) 48)) (fun _ _=>False):=Cs _ _ _;generalize w10.alloc (.cells (Array.replicate 32 (.int .u8 0)) 48)=w11 at M11 f11 ⊢;have hcl:=Ep h11.rng.1;refine LP F rfl rfl (QX (cs:=AZ L6 (octV 32 (SI x).toNat)) (fun w=>by rw[hcl];simp[go_sem];rfl) F.e F.e Ip (fun j hj=>M11.ex j (by rw[hcl] at hj;exact hj))) fun a F=>Ae ?_
 have M12:=Ov h11.rng M11.ex;have f1012:CV w10 (w11.setCells w10.heap.size 0 (AZ L6 (octV 32 (SI x).toNat))) (fun _ _=>False):=Ck _ _ f11 fun _ _=>.inl (JP _)
 generalize w11.setCells w10.heap.size 0 (AZ L6 (octV 32 (SI x).toNat))=w12 at M12 f1012 ⊢;have g12:=zo.trans f1012;have aeb:=Vv hG ε g12 δ;have f712:CV w7 w12 (fun _ _=>False):=((h9.frm.trans h10.frm).trans h11.frm).trans f1012;refine KT (AMB (d:=d) (x:=x) (m:=m) hG F aeb (G9 δ g12.1) k9 ((aeq.frm f57 fun _ _ h=>h).frm f712 fun _ _ h=>h) n9 rfl (M7.frm f712 fun _ _ h=>h) nk rfl M12) ?_
 rintro a w13 ⟨f13,F,k13,⟨B13,e13,agm,m13⟩,abR⟩
 have g13:=g12.trans abR;have acu:=((aek.frm f57 fun _ _ h=>h).frm f712 fun _ _ h=>h).frm abR fun _ _ h=>h
 refine KT (APw F ((k13 10 (by decide)).trans e10) acu e13 m13) ?_
 rintro a w14 ⟨f14,F,M14,acC⟩
 have g14:=g13.trans acC;refine Kh ⟨F.df,f14 6,?_,⟨_,rfl,M14⟩,g14,Vv hG ε g14 δ⟩;have q:=F.tm 6;rw[Ti] at q;simp[results,Tryz.results21,go_sem];exact q
end
end
end Go.Proofs.YtloibefkijfdlaaGreatDoor
