/- Field operations called by hand. -/
import Derived.Test.YtkbfdaoohhmgoaaGreatDoorLhx
import Derived.Test.YtkbfdaoohhmgoaaGreatDoorVqa
namespace Go.Proofs.YtkbfdaoohhmgoaaGreatDoor
section
open Go Ma Go.RowKit Go.Lib
theorem AR5{T:Tb}(h:lk 63 T=some (.one Dv)){l:List Int}(hb:cI l)(hl:l.length=32)(v:List Int):NB T 63 [v,l]/\Gl (Jn (Cm l%57896044618658097711785492504343953926634992332820282019728792003956564819968)) (gv T 63 0 [v,l]):=by
 match l,hl,hb with
 | [b0,b1,b2,b3,b4,b5,b6,b7,b8,b9,b10,b11,ω,Γ,b14,b15,b16,b17,b18,Δ,b20,b21,b22,b23,Θ,Ψ,Ξ,b27,b28,b29,b30,b31],_,hb=>
  refine⟨C8 h trivial,?_⟩;rw[Bf h,AKJ];show Gl _ (BF 5 (Dn.raw Dp 0 [v,[b0,b1,b2,b3,b4,b5,b6,b7,b8,b9,b10,b11,ω,Γ,b14,b15,b16,b17,b18,Δ,b20,b21,b22,b23,Θ,Ψ,Ξ,b27,b28,b29,b30,b31]]));rw[ANK];obtain⟨h1,h2⟩:=AMb hb;rw[Ay h1.1];exact⟨h1,by rw[h2]⟩
abbrev pa (p:Nat×Nat):Value:=.pointer (some ⟨p.1,p.2,none⟩)
def Sp(p q:Nat×Nat):Prop:=p=q\/ZH p q 5 5
theorem Sp.ne{p q:Nat×Nat}(h:p.1≠q.1):Sp p q:=.inr (.inl h)
theorem NK{p q:Nat×Nat}{wr wr':Bool}(h:Sp p q):U9 (.mem (List.replicate 5 .u64) 96 wr) (.mem (List.replicate 5 .u64) 96 wr') p q:=λ_=>match h with
 | .inl h=>.inl ⟨rfl,by decide,h,rfl⟩
 | .inr h=>.inr h
theorem AO.Bm{f:Bool}{w:World}{b:Nat×Nat}{ks:List IntKind}{xs:List Int}(h:AO f w b ks xs):AO false w b ks xs:=⟨h.1,λi k x hk hx=>⟨(h.2 i k x hk hx).1,λe=>by cases e⟩⟩
structure Fc (GC:Nat->Nat->Option Value) (q:List Int->Prop) (p:Nat×Nat) (v:Value) (w:World) (e:Ending) (w':World):Prop where
 ret:e= .returned v
 mem:∃l,AO true w' p (List.replicate 5 .u64) l/\q l
 an:BD w w' (λb i=>b=p.1/\p.2<=i/\i<p.2+5)
 gw:GW GC w'
structure FnP (GC:Nat->Nat->Option Value) (q:List Int->Prop) (w:World) (e:Ending) (w':World):Prop where
 ret:∃p l,e= .returned (pa p)/\w.heap.size<=p.1/\AO true w' p (List.replicate 5 .u64) l/\q l
 an:BD w w' (λ_ _=>False)
 gw:GW GC w'
section
variable{GB:Nat}{GC:Nat->Nat->Option Value}{ad:Nat->Nat×Nat}(hG:GI GB GC ad){w:World}(ε:GW GC w)(δ:GB<=w.heap.size)
include hG ε δ
theorem QV{f:Nat}{p:Nat×Nat}{s:Az}{G:PF}{R:List Pq}{v:Value}{args:List Value}{ins:List (List Int)}{bs:List (Nat×Nat)}{q:List Int->Prop}(eM:Bv Tryz.prog GB GC f (.one s))(hP:Jg GB w s.params args ins bs)(hS:Ep s.params bs)(ph:bs.getD 0 (0,0)=p)(cY:s.outs= [(0,List.replicate 5 .u64,G)])(vf:s.ret=R)(hv:∀(fb:List (Nat×Nat)) vs,yJ ins args fb R vs->Od vs=v)(CN:s.pr 0= .l G)(hk:NB [(f,.one s)] f ins/\q (gv [(f,.one s)] f 0 ins)):
  Calls Tryz.prog f args.toArray w (Fc GC q p v w):=by
 have _:=hG;refine(eM true args ins bs w ε δ hP hS (λ_=>Oo hk.1) rfl).mono λe w' ⟨fb,vs,he,hq⟩=>?_
 simp only[FE.cf] at hq;have hr:=hq.ret;rw[vf] at hr;have hm:=hq.outs;rw[cY] at hm;have ur:=hm _ Jv;have P0:=hk.2;rw[Bf Ec,CN] at P0;refine⟨?_,⟨G ins,?_,P0⟩,hq.an.mono λb i _ hS=>?_,hq.gw⟩
 ·rw[he,hv fb vs hr]
 ·rw[<- ph];exact ur
 ·obtain⟨p',eA,e1,e2,e3⟩:=hS;rw[cY,NU] at eA;subst eA;rw[ph] at e1 e2 e3;exact⟨e1,e2,e3⟩
omit hG ε δ in
theorem oW{ins:List (List Int)}{v0:Value}{tl:List Value}:∀(fb:List (Nat×Nat)) vs,yJ ins (v0::tl) fb [.cF 0] vs->Od vs=v0:=λfb vs hr=>by
 match vs,hr with
 | [a],hr=>
  have h1:some v0=some a:=hr.1;rw[<- WT h1];rfl
omit hG ε δ in
theorem APm{ins:List (List Int)}{v0:Value}{tl:List Value}:∀(fb:List (Nat×Nat)) vs,yJ ins (v0::tl) fb [.cF 0,.ej] vs->Od vs= .tuple #[v0,.nilIface]:=λfb vs hr=>by
 match vs,hr with
 | [a,b],hr=>
  have h1:some v0=some a:=hr.1;have h2:b= .nilIface:=hr.2.1;rw[<- WT h1,h2];rfl
omit hG ε δ in
theorem ASF{ins:List (List Int)}{v0:Value}{tl:List Value}{g:PI}{n:Int}(hn:g ins=n):∀(fb:List (Nat×Nat)) vs,yJ ins (v0::tl) fb [.cF 0,.int .i64 g] vs->Od vs= .tuple #[v0,.int .i64 n]:=λfb vs hr=>by
 match vs,hr with
 | [a,b],hr=>
  have h1:some v0=some a:=hr.1;have h2:b= .int .i64 (g ins):=hr.2.1.1;rw[<- WT h1,h2,hn];rfl
variable{p q r:Nat×Nat}{x0 a b:List Int}{x y:Fp}(m0:AO true w p (List.replicate 5 .u64) x0)(h0:GB<=p.1)
include m0 h0
theorem AGS:Calls Tryz.prog 74 #[pa p] w (Fc GC (Gl 1) p (pa p) w):=
 QV (bs:=[p]) (ins:=[x0]) (args:=[pa p]) hG ε δ (II hG) ⟨⟨rfl,m0,λ_=>h0⟩,trivial⟩ Wx rfl rfl rfl oW rfl (by
  have h:=sQ Ec [x0];rw[P8] at h;exact h)
variable{f1 f2:Bool}(ma:AO f1 w q (List.replicate 5 .u64) a)(ha:Gl x a)(sa:Sp p q)
include ma ha sa
theorem Yq:Calls Tryz.prog 73 #[pa p,pa q] w (Fc GC (Gl x) p (pa p) w):=
 QV (bs:=[p,q]) (ins:=[x0,a]) (args:=[pa p,pa q]) hG ε δ (KD hG) ⟨⟨rfl,m0,λ_=>h0⟩,⟨rfl,ma.Bm,λh=>by cases h⟩,trivial⟩ (ZA (NK sa)) rfl rfl rfl oW rfl (uq Ec _ _ _ ha)
theorem kS:Calls Tryz.prog 71 #[pa p,pa q] w (Fc GC (Gl (0-x)) p (pa p) w):=
 QV (bs:=[p,q]) (ins:=[x0,a]) (args:=[pa p,pa q]) hG ε δ (GY hG) ⟨⟨rfl,m0,λ_=>h0⟩,⟨rfl,ma.Bm,λh=>by cases h⟩,trivial⟩ (ZA (NK sa)) rfl rfl rfl oW rfl (jC Ec _ _ _ ha)
theorem AN5:Calls Tryz.prog 64 #[pa p,pa q] w (Fc GC (Gl (x*x)) p (pa p) w):=
 QV (bs:=[p,q]) (ins:=[x0,a]) (args:=[pa p,pa q]) hG ε δ (DY hG) ⟨⟨rfl,m0,λ_=>h0⟩,⟨rfl,ma.Bm,λh=>by cases h⟩,trivial⟩ (ZA (NK sa)) rfl rfl rfl oW rfl (Zd Ec _ _ _ ha)
variable(mb:AO f2 w r (List.replicate 5 .u64) b)(hb:Gl y b)(sb:Sp p r)(sc:Sp q r)
include mb hb sb sc
theorem AHH:Calls Tryz.prog 69 #[pa p,pa q,pa r] w (Fc GC (Gl (x+y)) p (pa p) w):=
 QV (bs:=[p,q,r]) (ins:=[x0,a,b]) (args:=[pa p,pa q,pa r]) hG ε δ (Cr hG) ⟨⟨rfl,m0,λ_=>h0⟩,⟨rfl,ma.Bm,λh=>by cases h⟩,⟨rfl,mb.Bm,λh=>by cases h⟩,trivial⟩ (oK (NK sa) (NK sb) (NK sc)) rfl rfl rfl oW rfl (Rv Ec _ _ _ _ _ ha hb)
theorem AIf:Calls Tryz.prog 65 #[pa p,pa q,pa r] w (Fc GC (Gl (x-y)) p (pa p) w):=
 QV (bs:=[p,q,r]) (ins:=[x0,a,b]) (args:=[pa p,pa q,pa r]) hG ε δ (Bw hG) ⟨⟨rfl,m0,λ_=>h0⟩,⟨rfl,ma.Bm,λh=>by cases h⟩,⟨rfl,mb.Bm,λh=>by cases h⟩,trivial⟩ (oK (NK sa) (NK sb) (NK sc)) rfl rfl rfl oW rfl (Rn Ec _ _ _ _ _ ha hb)
theorem zL:Calls Tryz.prog 67 #[pa p,pa q,pa r] w (Fc GC (Gl (x*y)) p (pa p) w):=
 QV (bs:=[p,q,r]) (ins:=[x0,a,b]) (args:=[pa p,pa q,pa r]) hG ε δ (Ap hG) ⟨⟨rfl,m0,λ_=>h0⟩,⟨rfl,ma.Bm,λh=>by cases h⟩,⟨rfl,mb.Bm,λh=>by cases h⟩,trivial⟩ (oK (NK sa) (NK sb) (NK sc)) rfl rfl rfl oW rfl (KH Ec _ _ _ _ _ ha hb)
theorem AId{c:Bool}{v:Value}(hc:v= .int .i64 (bif c then 1 else 0)):Calls Tryz.prog 72 #[pa p,pa q,pa r,v] w (Fc GC (Gl (bif c then x else y)) p (pa p) w):=
 QV (bs:=[p,q,r,(0,0)]) (ins:=[x0,a,b,[bif c then 1 else 0]]) (args:=[pa p,pa q,pa r,v]) hG ε δ (GZ hG) ⟨⟨rfl,m0,λ_=>h0⟩,⟨rfl,ma.Bm,λh=>by cases h⟩,⟨rfl,mb.Bm,λh=>by cases h⟩,⟨_,rfl,hc,by cases c<;>exact⟨by decide,by decide⟩⟩,trivial⟩ ⟨λx hx=>by
  have eg:x ∈ [(Et.mem (List.replicate 5 .u64) 96 false,q),(.mem (List.replicate 5 .u64) 96 false,r),(.int .i64,(0,0))]:=hx;simp only[G9,List.not_mem_nil,or_false] at eg;rcases eg with rfl|rfl|rfl
  ·exact NK sa
  ·exact NK sb
  ·exact trivial,⟨λx hx=>by
   have eg:x ∈ [(Et.mem (List.replicate 5 .u64) 96 false,r),(.int .i64,(0,0))]:=hx;simp only[G9,List.not_mem_nil,or_false] at eg;rcases eg with rfl|rfl
   ·exact NK sc
   ·exact trivial,⟨λx hx=>by
    have eg:x ∈ [(Et.int .i64,((0,0):Nat×Nat))]:=hx;simp only[G9,List.not_mem_nil,or_false] at eg;subst eg;exact trivial,⟨λx hx=>(by cases hx),trivial⟩⟩⟩⟩ rfl rfl rfl oW rfl (jT Ec _ _ _ _ _ _ ha hb)
omit ma ha sa mb hb sb sc m0 h0 in
theorem AE3{f:Nat}{s:Az}{G:PF}{Q:List Int->Prop}(eM:Bv Tryz.prog GB GC f (.one s))(hP:s.params= [])(cY:s.outs= [])(Dd:s.fresh= [(List.replicate 5 .u64,G)])(vf:s.ret= [.kA 0])(CN:s.pr 0= .l G)(hk:NB [(f,.one s)] f []/\Q (gv [(f,.one s)] f 0 [])):Calls Tryz.prog f #[] w (FnP GC Q w):=by
 have _:=hG;have h:=eM true [] [] [] w ε δ (by show Jg GB w s.params [] [] [];rw[hP];trivial) (by show Ep s.params [];rw[hP];trivial) (λ_=>Oo hk.1) rfl;refine h.mono λe w' ⟨fb,vs,he,hq⟩=>?_
 simp only[FE.cf] at hq;have hr:=hq.ret;rw[vf] at hr
 match vs,hr with
 | [v],hr=>
 obtain⟨b,hb,hv⟩:=hr.1;subst hv;have hf:=hq.fresh;rw[Dd] at hf;have hm:=hf 0 (List.replicate 5 .u64,G) b rfl hb;have h2:=hk.2;rw[Bf Ec,CN] at h2;refine⟨⟨b,_,he,hq.fr b (MB hb),hm,h2⟩,hq.an.mono λb' o' _ hs=>?_,hq.gw⟩;obtain⟨p,eA,_⟩:=hs;rw[cY] at eA;cases eA
omit ma ha sa mb hb sb sc m0 h0 in
theorem qU:Calls Tryz.prog 66 #[] w (FnP GC (Gl 1) w):=AE3 hG ε δ (NH hG) rfl rfl rfl rfl rfl (by
 have h:=oh Ec [];rw[P8] at h;exact h)
omit ma ha sa mb hb sb sc m0 h0 in
theorem AL9:Calls Tryz.prog 68 #[] w (FnP GC (Gl dE) w):=AE3 hG ε δ (Kn hG) rfl rfl rfl rfl rfl (by
 have h:=ASC Ec [];rw[AQz] at h;exact h)
omit ma ha sa mb hb sb sc in
theorem ABT{b o c:Nat}{l:List Int}(hl:l.length=32)(hx:DD w b o l)(hc:32<=c)(cj:b≠p.1):Calls Tryz.prog 63 #[pa p,.slice (some ⟨b,o,none⟩) 32 c] w (Fc GC (Gl (Jn (Cm l%57896044618658097711785492504343953926634992332820282019728792003956564819968))) p (.tuple #[pa p,.nilIface]) w):=
 QV (bs:=[p,(b,o)]) (ins:=[x0,l]) (args:=[pa p,.slice (some ⟨b,o,none⟩) 32 c]) hG ε δ (H6 hG) ⟨⟨rfl,m0,λ_=>h0⟩,hx.pm hl hc,trivial⟩ (ZA λ_=>.inr (.inl (Ne.symm cj))) rfl rfl rfl APm rfl (AR5 Ec hx.1 hl _)
theorem AGa:Calls Tryz.prog 70 #[pa p,pa q,pa r] w (Fc GC (Gl ((TL (tX (.v 0) (.v 1))).ev (FX.v2 x y))) p (.tuple #[pa p,.int .i64 (bif (gH (.v 0) (.v 1)).bv (FX.v2 x y) then 1 else 0)]) w):=
 have h:=AEm Ec x0 a b x y ha hb
 QV (bs:=[p,q,r]) (ins:=[x0,a,b]) (args:=[pa p,pa q,pa r]) hG ε δ (J5 hG) ⟨⟨rfl,m0,λ_=>h0⟩,⟨rfl,ma.Bm,λh=>by cases h⟩,⟨rfl,mb.Bm,λh=>by cases h⟩,trivial⟩ (oK (NK sa) (NK sb) (NK sc)) rfl rfl rfl (ASF (g:=λa=>d1 (Ck.raw CR 1 a)) (by
  have h2:=h.2.2;rw[Bf Ec,xm] at h2;exact(List.cons.inj h2).1)) rfl ⟨h.1,h.2.1⟩
end
end
section
open Go Ma Go.RowKit Go.Lib
theorem AID{l:List Int}(hl:l.length=32)(h:cI l):Cm (HQ l)=Cm l%57896044618658097711785492504343953926634992332820282019728792003956564819968:=by
 rw[rG hl h];have e:l=l.take 31 ++ [l.getD 31 0]:=by
  have h1:=(List.take_append_drop 31 l).symm;have h2:l.drop 31= [l.getD 31 0]:=by
   rw[List.drop_eq_getElem_cons (by omega),List.drop_eq_nil_of_le (by omega)];simp[List.getD,hl]
  rw[h2] at h1;exact h1
 have ht:(l.take 31).length=31:=by rw[Qw,hl];rfl
 have h8:cI (l.take 31):=λx hx=>h x (List.mem_of_mem_take hx)
 have hb:=NT h8;rw[ht] at hb;have wc:0<=l.getD 31 0/\l.getD 31 0<=255:=h _ (by
  simp only[List.getD];rw[Io (by omega)];exact ku _)
 have e2:Cm l=Cm (l.take 31)+256^31*l.getD 31 0:=by
  conv=>lhs;rw[e]
  rw[QF,ht];simp[Cm]
 rw[QF,ht,e2];show Cm (l.take 31)+256^31*(l.getD 31 0%128+256*0)=_;have hp:(256:Int)^31=452312848583266388373324160190187140051835877600158453279131187530910662656:=by decide +kernel
 rw[hp] at hb ⊢;generalize Cm (l.take 31)=t at *
 generalize l.getD 31 0=u at *
 omega
section
variable{ρ:Operand->Value}{d:Option Tmp}{x y:Operand}{ty t t':TypeId}{pos:String}{af:Array Edge}{w:World}{b o:Nat}
theorem fE:(execOp ρ ⟨d,.alloc 60,ty,pos,af,none⟩).run Tryz.prog w= .ok (.value (.pointer (some ⟨w.heap.size,0,none⟩))) (w.alloc (.cells (Array.replicate 5 (.int .u64 0)) 60)):=by
 simp[execOp,go_sem];rfl
theorem AOt(h:ρ x= .pointer (some ⟨b,o,none⟩)):(execOp ρ ⟨d,.fieldAddr 62 x 3,ty,pos,af,none⟩).run Tryz.prog w= .ok (.value (.pointer (some ⟨b,o+10,none⟩))) w:=by
 simp[execOp,go_sem,h]
theorem ALe(h:ρ x= .pointer (some ⟨b,o,none⟩)):(execOp ρ ⟨d,.fieldAddr 62 x 4,ty,pos,af,none⟩).run Tryz.prog w= .ok (.value (.pointer (some ⟨b,o+15,none⟩))) w:=by
 simp[execOp,go_sem,h]
theorem AOM{v:Int}(hx:ρ x= .int .u8 v)(hy:ρ y= .int .u64 7)(h0:0<=v)(h1:v<=255):(execOp ρ ⟨d,.binOp .shr 5 x y t',ty,pos,af,none⟩).run Tryz.prog w= .ok (.value (.int .u8 (bif decide (128<=v) then 1 else 0))) w:=by
 have e:v/128=bif decide (128<=v) then 1 else 0:=by
  by_cases h:128<=v
  ·rw[decide_eq_true h];show v/128=1;omega
  ·rw[decide_eq_false h];show v/128=0;omega
 simp[execOp,go_sem,hx,hy];exact e
theorem AMJ{c:Bool}(h:ρ x= .int .u8 (bif c then 1 else 0)):(execOp ρ ⟨d,.convert 5 3 x,ty,pos,af,none⟩).run Tryz.prog w= .ok (.value (.int .i64 (bif c then 1 else 0))) w:=by
 cases c<;>simp[execOp,go_sem,h]<;>rfl
theorem AMZ{s:ByteArray}(h:ρ x= .string s):(execOp ρ ⟨d,.build 85 #[(0,x)],ty,pos,af,none⟩).run Tryz.prog w= .ok (.value (.agg #[.string s])) w:=by
 simp[execOp,go_sem,h]
theorem AOW{cs:Array Value}(h:ρ x= .agg cs):(execOp ρ ⟨d,.box 85 x,ty,pos,af,none⟩).run Tryz.prog w= .ok (.value (.pointer (some ⟨w.heap.size,0,none⟩))) (w.alloc (.cells cs 85)):=by
 simp[execOp,go_sem,h]
end
structure ErP (GC:Nat->Nat->Option Value) (w:World) (e:Ending) (w':World):Prop where
 ret:∃t x,e= .returned (.iface t x)
 an:BD w w' (λ_ _=>False)
 gw:GW GC w'
section
variable{GB:Nat}{GC:Nat->Nat->Option Value}{ad:Nat->Nat×Nat}(hG:GI GB GC ad){w:World}(ε:GW GC w)(δ:GB<=w.heap.size)
include hG ε δ
set_option maxRecDepth 100000 in
theorem Mi(s:ByteArray):Calls Tryz.prog 43 #[.string s] w (ErP GC w):=by
 refine enter (args:=[.string s]) Tryz.func43 rfl (n:=7) rfl λa F=>?_
 refine AP (Aj F rfl λa F=>AJ ?_);refine AP (AA F rfl λa F=>AZ F rfl (AMZ F.e) λa F=>AZ F rfl (AOW F.e) λa F=>?_);have f1:BD w (w.alloc (.cells #[.string s] 85)) (λ_ _=>False):=BC _ _ _;generalize w.alloc (.cells #[.string s] 85)=w1 at f1 ⊢;refine AZ F rfl (v:=.iface 83 (.pointer (some ⟨w.heap.size,0,none⟩))) (by simp only[execOp,F.ev (t:=5) rfl];rfl) λa F=>AB F rfl λa F=>AJ ?_
 refine Cn ⟨F.df,.iface 83 (.pointer (some ⟨w.heap.size,0,none⟩)),?_,⟨_,_,rfl⟩,f1,F4 hG ε f1 δ⟩;have q:=F.tm 2;rw[YJ] at q;simp[results,Tryz.results43,go_sem];exact q
end
theorem AO.fe{f:Bool}{w w':World}{b o b' o':Nat}{ks:List IntKind}{l:List Int}(m:AO f w (b,o) ks l)(hf:BD w w' (λc i=>c=(b',o').1/\(b',o').2<=i/\i<(b',o').2+5))(hn:b≠b'):AO f w' (b,o) ks l:=m.an hf λ_ _ h=>hn h.1
theorem AO.fn{f:Bool}{w w':World}{p:Nat×Nat}{ks:List IntKind}{l:List Int}(m:AO f w p ks l)(hf:BD w w' (λ_ _=>False)):AO f w' p ks l:=m.an hf λ_ _ h=>h
theorem BD.fe{A B w':World}{b' o':Nat}{S:Nat->Nat->Prop}(h:BD A B S)(h':BD B w' (λc i=>c=(b',o').1/\(b',o').2<=i/\i<(b',o').2+5))(hb:A.heap.size<=b'):BD A w' S:=h.trans' h' λc i hc hs=>absurd hs.1 (by show c≠b';omega)
theorem BD.fn{A B w':World}{S:Nat->Nat->Prop}(h:BD A B S)(h':BD B w' (λ_ _=>False)):BD A w' S:=h.trans' h' λ_ _ _ hs=>hs.elim
end
section
open Go Ma Go.RowKit Go.Lib
theorem Fr.gd{a:Act}{n:Nat}{f:Nat->Value}(F:Fr a n f){t:Nat}{v:Value}(h:f t=v):a.tmps[t]?.getD undef=v:=by
 rw[<- YJ];exact(F.tm t).trans h
structure PsP (GC:Nat->Nat->Option Value) (bv:Nat) (l:List Int) (w:World) (e:Ending) (w':World):Prop where
 ex:(∃h:∃x,Md dE x (yB l),e= .returned (.tuple #[pp bv,.nilIface])/\∃m,AO true w' (bv,0) (KU 20) m/\R3 (cO l h) m)\/((¬ ∃x,Md dE x (yB l))/\∃t v,e= .returned (.tuple #[.pointer none,.iface t v]))
 an:BD w w' (λb i=>b=bv/\i<20)
 gw:GW GC w'
theorem APP{f:Bool}{w:World}{b:Nat}{l0 l1 l2 l3:List Int}(h0:AO f w (b,0) (KU 5) l0)(h1:AO f w (b,5) (KU 5) l1)(h2:AO f w (b,10) (KU 5) l2)(h3:AO f w (b,15) (KU 5) l3):AO f w (b,0) (KU 20) (l0++(l1++(l2++l3))):=
 AO.join (ks:=KU 5) (js:=KU 15) h0 (AO.join (o:=5) (ks:=KU 5) (js:=KU 10) h1 (AO.join (o:=10) (ks:=KU 5) (js:=KU 5) h2 h3))
theorem AMM{x y X Y Z T:Fp}{m:List Int}(h:Md dE x y)(hX:X=0-x)(hY:Y=y)(hZ:Z=1)(hT:T=X*Y)(hm:MM [X,Y,Z,T] m):R3 (Pt.neg ⟨x,y,h⟩) m:=by
 have hX:X= -x:=by rw[hX];grind
 subst hX;subst hY;exact AEM (Pt.neg ⟨x,Y,h⟩).h hZ hT hm
theorem AMH{x y X Y Z T:Fp}{m:List Int}(h:Md dE x y)(hX:X=x)(hY:Y=y)(hZ:Z=1)(hT:T=X*Y)(hm:MM [X,Y,Z,T] m):R3 ⟨x,y,h⟩ m:=by
 subst hX;subst hY;exact AEM h hZ hT hm
theorem AIr{α:Type}{p:Prop}[Decidable p]{X a b:α}(h:X=bif decide p then a else b):(p->X=a)/\(¬p->X=b):=by
 constructor
 ·intro hp;rw[h,decide_eq_true hp];rfl
 ·intro hp;rw[h,decide_eq_false hp];rfl
theorem ALH{l:List Int}(h:∃x,Md dE x (yB l)){X Y Z T:Fp}{m:List Int}(hX:X=bif decide (128<=l.getD 31 0) then 0-xY (yB l) else xY (yB l))(hY:Y=yB l)(hZ:Z=1)(hT:T=X*Y)(hm:MM [X,Y,Z,T] m):R3 (cO l h) m:=by
 obtain⟨h1,h2⟩:=AIr hX;unfold cO;split
 ·rename_i hb;exact AMM (WY h) (h1 hb) hY hZ hT hm
 ·rename_i hb;exact AMH (WY h) (h2 hb) hY hZ hT hm
theorem AO.fo{f:Bool}{w w':World}{b o o':Nat}{ks:List IntKind}{l:List Int}(m:AO f w (b,o) ks l)(hf:BD w w' (λc i=>c=(b,o').1/\(b,o').2<=i/\i<(b,o').2+5))(hn:o'+5<=o\/o+ks.length<=o'):AO f w' (b,o) ks l:=m.an hf λi hi h=>by
 have h1:o'<=o+i:=h.2.1;have h2:o+i<o'+5:=h.2.2;omega
theorem BD.vt{A B w':World}{bv o':Nat}(h:BD A B (λb i=>b=bv/\i<20))(h':BD B w' (λc i=>c=(bv,o').1/\(bv,o').2<=i/\i<(bv,o').2+5))(ho:o'+5<=20):BD A w' (λb i=>b=bv/\i<20):=h.trans' h' λc i _ hs=>⟨hs.1,by have h2:i<o'+5:=hs.2.2;omega⟩
theorem qV{y:Fp}:(gH (.v 0) (.v 1)).bv (FX.v2 (y*y-1) (y*y*dE+1))=true↔∃x,Md dE x y:=by
 have h:=(YR (uY y) (vY y)).1;constructor
 ·intro h1;obtain⟨x,hx⟩:=h.1 h1;exact⟨x,Qb.1 hx⟩
 ·rintro⟨x,hx⟩;exact h.2 ⟨x,Qb.2 hx⟩
set_option maxRecDepth 100000 in
set_option maxHeartbeats 1000000 in
theorem AFi{GB:Nat}{GC:Nat->Nat->Option Value}{ad:Nat->Nat×Nat}(hG:GI GB GC ad){w:World}(ε:GW GC w)(δ:GB<=w.heap.size){bv b o c:Nat}{x0 l:List Int}(m0:AO true w (bv,0) (KU 20) x0)(lf:GB<=bv)(bj:bv<w.heap.size)(hl:l.length=32)(hx:DD w b o l)(hc:32<=c):
  Calls Tryz.prog 46 #[pp bv,.slice (some ⟨b,o,none⟩) 32 c] w (PsP GC bv l w):=by
 have hlb:b<w.heap.size:=hx.lt (by omega);refine enter (args:=[pp bv,.slice (some ⟨b,o,none⟩) 32 c]) Tryz.func46 rfl (n:=81) rfl λa F=>?_
 refine AP (Aj F rfl λa F=>Aj F rfl λa F=>AJ ?_);refine AP (AZ F rfl fE λa F=>?_);have M1:=Dj w 5 .u64 60 ⟨by decide,by decide⟩;have f1:BD w (w.alloc (.cells (Array.replicate 5 (.int .u64 0)) 60)) (λ_ _=>False):=BC _ _ _;have s1:=EC w (.cells (Array.replicate 5 (.int .u64 0)) 60);generalize hn1:w.heap.size=n1 at *
 generalize w.alloc (.cells (Array.replicate 5 (.int .u64 0)) 60)=w1 at M1 f1 s1 ⊢;refine AA F rfl λa F=>EG F rfl (Bg rfl F.e F.e Tryz.call63) (ABT (p:=(n1,0)) hG (F4 hG ε f1 (by omega)) (by omega) M1 (by show GB<=n1;omega) hl (hx.cr f1) hc (by show b≠n1;omega)) λe w2 h2=>⟨_,h2.ret,λa F=>?_⟩
 obtain⟨ly,my,hy⟩:=h2.mem;rw[<- AID hl hx.1] at hy;have hy:Gl (yB l) ly:=hy;generalize hyv:yB l=y at hy;have f2:=f1.fe h2.an (by omega);have s2:=h2.an.1;refine AA F rfl λa F=>AZ F rfl (Ik F.e) λa F=>AZ F rfl (FZ F.e) λa F=>AB F rfl λa F=>AB F rfl λa F=>AJ ?_
 refine wp_seq (wp_seq (cp (AA F rfl λa F=>AZ F rfl (ZT F.e rfl) λa F=>CY ?_)));refine wp_cond (t:=false) F.e (wp_skip ?_);obtain⟨f,F,e0,e1,e6⟩:∃f,Fr a 81 f/\f 0=pp bv/\f 1= .slice (some ⟨b,o,none⟩) 32 c/\f 6=pp n1:=⟨_,F,rfl,rfl,rfl⟩;refine AP (AZ F rfl fE λa F=>?_);have M3:=Dj w2 5 .u64 60 ⟨by decide,by decide⟩;have g3:BD w2 (w2.alloc (.cells (Array.replicate 5 (.int .u64 0)) 60)) (λ_ _=>False):=BC _ _ _;have s3:=EC w2 (.cells (Array.replicate 5 (.int .u64 0)) 60);generalize US:w2.heap.size=n2 at *
 generalize w2.alloc (.cells (Array.replicate 5 (.int .u64 0)) 60)=w3 at M3 g3 s3 ⊢;have f3:=f2.fn g3;refine AA F rfl λa F=>EG F rfl (Bg rfl (F.ev (t:=23) rfl) (F.ev (t:=24) e6) Tryz.call64) (AN5 (p:=(n2,0)) (q:=(n1,0)) hG (F4 hG ε f3 (by omega)) (by omega) M3 (by show GB<=n2;omega) (my.fn g3) hy (.ne (by show n2≠n1;omega))) λe w4 h4=>⟨_,h4.ret,λa F=>AB F rfl λa F=>AJ ?_⟩
 obtain⟨l2,m2,hy2⟩:=h4.mem;have f4:=f3.fe h4.an (by omega);have s4:=h4.an.1;have my4:=(my.fn g3).fe h4.an (by omega);obtain⟨f,F,e0,e1,e6,e8⟩:∃f,Fr a 81 f/\f 0=pp bv/\f 1= .slice (some ⟨b,o,none⟩) 32 c/\f 6=pp n1/\f 8=pp n2:=⟨_,F,e0,e1,e6,rfl⟩;refine AP (AZ F rfl fE λa F=>?_);have M5:=Dj w4 5 .u64 60 ⟨by decide,by decide⟩;have g5:BD w4 (w4.alloc (.cells (Array.replicate 5 (.int .u64 0)) 60)) (λ_ _=>False):=BC _ _ _;have s5:=EC w4 (.cells (Array.replicate 5 (.int .u64 0)) 60);generalize hn3:w4.heap.size=n3 at *
 generalize w4.alloc (.cells (Array.replicate 5 (.int .u64 0)) 60)=w5 at M5 g5 s5 ⊢;have f5:=f4.fn g5;refine AA F rfl λa F=>EG F rfl (LG rfl Tryz.call66) (qU hG (F4 hG ε f5 (by omega)) (by omega)) λe w6 h6=>?_
 obtain⟨⟨bo,oo⟩,lo,he6,hbo,mo,ho⟩:=h6.ret;have hbo:w5.heap.size<=bo:=hbo;refine⟨_,he6,λa F=>?_⟩;have f6:=f5.fn h6.an;have s6:=h6.an.1;refine EG F rfl (Hr rfl (F.ev (t:=26) rfl) (F.ev (t:=27) e8) (F.ev (t:=28) rfl) Tryz.call65) (AIf (p:=(n3,0)) (q:=(n2,0)) (r:=(bo,oo)) hG h6.gw (by omega) (M5.fn h6.an) (by show GB<=n3;omega) ((m2.fn g5).fn h6.an) hy2 (.ne (by show n3≠n2;omega)) mo ho (.ne (by show n3≠bo;omega)) (.ne (by show n2≠bo;omega))) λe w7 h7=>⟨_,h7.ret,λa F=>AB F rfl λa F=>AJ ?_⟩
 obtain⟨lu,mu,hu⟩:=h7.mem;have f7:=f6.fe h7.an (by omega);have s7:=h7.an.1;have my7:=((my4.fn g5).fn h6.an).fe h7.an (by omega);have m27:=((m2.fn g5).fn h6.an).fe h7.an (by omega);clear M1 M3 M5;obtain⟨f,F,e0,e1,e6,e8,e9⟩:∃f,Fr a 81 f/\f 0=pp bv/\f 1= .slice (some ⟨b,o,none⟩) 32 c/\f 6=pp n1/\f 8=pp n2/\f 9=pp n3:=⟨_,F,e0,e1,e6,e8,rfl⟩;refine AP (AZ F rfl fE λa F=>?_);have M8:=Dj w7 5 .u64 60 ⟨by decide,by decide⟩;have g8:BD w7 (w7.alloc (.cells (Array.replicate 5 (.int .u64 0)) 60)) (λ_ _=>False):=BC _ _ _;have s8:=EC w7 (.cells (Array.replicate 5 (.int .u64 0)) 60);generalize hn4:w7.heap.size=n4 at *
 generalize w7.alloc (.cells (Array.replicate 5 (.int .u64 0)) 60)=w8 at M8 g8 s8 ⊢;have f8:=f7.fn g8;refine AA F rfl λa F=>EG F rfl (LG rfl Tryz.call68) (AL9 hG (F4 hG ε f8 (by omega)) (by omega)) λe w9 h9=>?_
 obtain⟨⟨bd,od⟩,ld,he9,Mz,md,hd⟩:=h9.ret;have Mz:w8.heap.size<=bd:=Mz;refine⟨_,he9,λa F=>?_⟩;have f9:=f8.fn h9.an;have s9:=h9.an.1;refine EG F rfl (Hr rfl (F.ev (t:=30) rfl) (F.ev (t:=31) e8) (F.ev (t:=32) rfl) Tryz.call67) (zL (p:=(n4,0)) (q:=(n2,0)) (r:=(bd,od)) hG h9.gw (by omega) (M8.fn h9.an) (by show GB<=n4;omega) ((m27.fn g8).fn h9.an) hy2 (.ne (by show n4≠n2;omega)) md hd (.ne (by show n4≠bd;omega)) (.ne (by show n2≠bd;omega))) λe tI iu=>⟨_,iu.ret,λa F=>AB F rfl λa F=>AJ ?_⟩
 obtain⟨lv,mv,hv⟩:=iu.mem;have f10:=f9.fe iu.an (by omega);have s10:=iu.an.1;have aev:=((my7.fn g8).fn h9.an).fe iu.an (by omega);have aeq:=((mu.fn g8).fn h9.an).fe iu.an (by omega);obtain⟨f,F,e0,e1,e6,e9,kB⟩:∃f,Fr a 81 f/\f 0=pp bv/\f 1= .slice (some ⟨b,o,none⟩) 32 c/\f 6=pp n1/\f 9=pp n3/\f 10=pp n4:=⟨_,F,e0,e1,e6,e9,rfl⟩;refine AP (AA F rfl λa F=>AA F rfl λa F=>EG F rfl (LG rfl Tryz.call66) (qU hG iu.gw (by omega)) λe w11 A5=>?_);obtain⟨⟨bq,oq⟩,lq,aei,hbq,mq,hq⟩:=A5.ret;have hbq:tI.heap.size<=bq:=hbq;refine⟨_,aei,λa F=>?_⟩;have f11:=f10.fn A5.an;have s11:=A5.an.1;have ayC:n4<tI.heap.size:=by omega
 refine EG F rfl (Hr rfl (F.ev (t:=34) kB) (F.ev (t:=35) kB) (F.ev (t:=36) rfl) Tryz.call69) (AHH (p:=(n4,0)) (q:=(n4,0)) (r:=(bq,oq)) hG A5.gw (by omega) (mv.fn A5.an) (by show GB<=n4;omega) (mv.fn A5.an) hv (.inl rfl) mq hq (.ne (by show n4≠bq;omega)) (.ne (by show n4≠bq;omega))) λe sL rh=>⟨_,rh.ret,λa F=>AB F rfl λa F=>AJ ?_⟩
 obtain⟨lw,mw,hw⟩:=rh.mem;have f12:=f11.fe rh.an (by omega);have s12:=rh.an.1;have adW:=(aev.fn A5.an).fe rh.an (by omega);have ad4:=(aeq.fn A5.an).fe rh.an (by omega);obtain⟨f,F,e0,e1,e6,e9,kB⟩:∃f,Fr a 81 f/\f 0=pp bv/\f 1= .slice (some ⟨b,o,none⟩) 32 c/\f 6=pp n1/\f 9=pp n3/\f 10=pp n4:=⟨_,F,e0,e1,e6,e9,rfl⟩;refine AP (AZ F rfl fE λa F=>?_);have M13:=Dj sL 5 .u64 60 ⟨by decide,by decide⟩;have g13:BD sL (sL.alloc (.cells (Array.replicate 5 (.int .u64 0)) 60)) (λ_ _=>False):=BC _ _ _;have s13:=EC sL (.cells (Array.replicate 5 (.int .u64 0)) 60);generalize hn5:sL.heap.size=n5 at *
 generalize sL.alloc (.cells (Array.replicate 5 (.int .u64 0)) 60)=w13 at M13 g13 s13 ⊢;have f13:=f12.fn g13;refine AA F rfl λa F=>AA F rfl λa F=>EG F rfl (Hr rfl (F.ev (t:=39) rfl) (F.ev (t:=40) e9) (F.ev (t:=41) kB) Tryz.call70) (AGa (p:=(n5,0)) (q:=(n3,0)) (r:=(n4,0)) hG (F4 hG ε f13 (by omega)) (by omega) M13 (by show GB<=n5;omega) (ad4.fn g13) hu (.ne (by show n5≠n3;omega)) (mw.fn g13) hw (.ne (by show n5≠n4;omega)) (.ne (by show n3≠n4;omega))) λe pD tx=>⟨_,tx.ret,λa F=>?_⟩
 obtain⟨lx,mx,hx5⟩:=tx.mem;have f14:=f13.fe tx.an (by omega);have s14:=tx.an.1;have ad3:=(adW.fn g13).fe tx.an (by omega);generalize hbt:(gH (.v 0) (.v 1)).bv (FX.v2 (y*y-1) (y*y*dE+1))=bt at *
 refine AA F rfl λa F=>AZ F rfl (Ik F.e) λa F=>AZ F rfl (FZ F.e) λa F=>AB F rfl λa F=>AB F rfl λa F=>AJ ?_
 obtain⟨f,Fn,e0,e1,e6,wg,sy⟩:∃f,Fr a 81 f/\f 0=pp bv/\f 1= .slice (some ⟨b,o,none⟩) 32 c/\f 6=pp n1/\f 11=pp n5/\f 12= .int .i64 (bif bt then 1 else 0):=⟨_,F,e0,e1,e6,rfl,rfl⟩;cases bt with
 | false=>
  have F:=Fn;have ij:¬ ∃x,Md dE x y:=λh=>by
   rw[qV.2 h] at hbt;cases hbt
  refine wp_seq (wp_seq (cp (AA F rfl λa F=>AZ F rfl (ABy (i:=0) (j:=0) (F.ev (t:=45) sy) rfl) λa F=>CY ?_)));refine wp_cond (t:=true) F.e ?_;refine AP (EG F rfl (BJ rfl rfl Tryz.call43) (Mi hG (F4 hG ε f14 (by omega)) (by omega) _) λe w15 h15=>?_);obtain⟨t,v,he⟩:=h15.ret;refine⟨_,he,λa F=>Aj F rfl λa F=>AB F rfl λa F=>AJ ?_⟩;refine Cn ⟨F.df,.tuple #[.pointer none,.iface t v],?_,.inr ⟨hyv ▸ ij,t,v,rfl⟩,(f14.fn h15.an).mono λ_ _ _ h=>h.elim,h15.gw⟩;simp[results,Tryz.results46,go_sem];exact⟨F.gd rfl,F.gd rfl⟩
 | true=>
  have F:=Fn;have AM:∃x,Md dE x y:=qV.1 hbt;refine wp_seq (wp_seq (cp (AA F rfl λa F=>AZ F rfl (ABy (i:=1) (j:=0) (F.ev (t:=45) sy) rfl) λa F=>CY ?_)));refine wp_cond (t:=false) F.e (wp_skip ?_);refine AP (AZ F rfl fE λa F=>?_);have M15:=Dj pD 5 .u64 60 ⟨by decide,by decide⟩;have g15:BD pD (pD.alloc (.cells (Array.replicate 5 (.int .u64 0)) 60)) (λ_ _=>False):=BC _ _ _;have s15:=EC pD (.cells (Array.replicate 5 (.int .u64 0)) 60);generalize hn6:pD.heap.size=n6 at *
  generalize pD.alloc (.cells (Array.replicate 5 (.int .u64 0)) 60)=w15 at M15 g15 s15 ⊢;have f15:=f14.fn g15;refine AA F rfl λa F=>EG F rfl (Bg rfl (F.ev (t:=48) rfl) (F.ev (t:=49) wg) Tryz.call71) (kS (p:=(n6,0)) (q:=(n5,0)) hG (F4 hG ε f15 (by omega)) (by omega) M15 (by show GB<=n6;omega) (mx.fn g15) hx5 (.ne (by show n6≠n5;omega))) λe w16 wq=>⟨_,wq.ret,λa F=>AB F rfl λa F=>AJ ?_⟩
  obtain⟨ln,mn,hn⟩:=wq.mem;have f16:=f15.fe wq.an (by omega);have s16:=wq.an.1;have aeQ:=(ad3.fn g15).fe wq.an (by omega);have adn:=(mx.fn g15).fe wq.an (by omega);obtain⟨f,F,e0,e1,e6,wg,ψ⟩:∃f,Fr a 81 f/\f 0=pp bv/\f 1= .slice (some ⟨b,o,none⟩) 32 c/\f 6=pp n1/\f 11=pp n5/\f 13=pp n6:=⟨_,F,e0,e1,e6,wg,rfl⟩;have aeV:=hx.cr f16;have wc:0<=l.getD 31 0/\l.getD 31 0<=255:=hx.1 _ (by
   simp only[List.getD];rw[Io (by omega)];exact ku _)
  refine AP (AA F rfl λa F=>AA F rfl λa F=>AA F rfl λa F=>AA F rfl λa F=>AZ F rfl (mE (k:=31) (F.ev (t:=54) e1) rfl (by decide)) λa F=>AZ F rfl (lH F.e (aeV.2 31 (by omega))) λa F=>AZ F rfl (AOM F.e rfl wc.1 wc.2) λa F=>AZ F rfl (AMJ F.e) λa F=>EG F rfl (Rs rfl (F.ev (t:=51) wg) (F.ev (t:=52) ψ) (F.ev (t:=53) wg) (F.ev (t:=58) rfl) Tryz.call72) (AId (p:=(n5,0)) (q:=(n6,0)) (r:=(n5,0)) hG wq.gw (by omega) adn (by show GB<=n5;omega) mn hn (.ne (by show n5≠n6;omega)) adn hx5 (.inl rfl) (.ne (by show n6≠n5;omega)) rfl) λe w17 h17=>⟨_,h17.ret,λa F=>AB F rfl λa F=>AJ ?_⟩);obtain⟨lz,mz,hz⟩:=h17.mem;have f17:=f16.fe h17.an (by omega);have s17:=h17.an.1;have aea:=aeQ.fe h17.an (by omega);have HS:=m0.fn f17;obtain⟨f,F,e0,e1,e6,wg⟩:∃f,Fr a 81 f/\f 0=pp bv/\f 1= .slice (some ⟨b,o,none⟩) 32 c/\f 6=pp n1/\f 11=pp n5:=⟨_,F,e0,e1,e6,rfl⟩;have HH:x0.length=20:=m0.1.1;have p0:AO true w17 (bv,0) (KU 5) ((x0.drop 0).take 5):=HS.cut (by rw[Qw,VK,HH];rfl) (by omega) Qp;have p1:AO true w17 (bv,5) (KU 5) ((x0.drop 5).take 5):=HS.cut (k:=5) (by rw[Qw,VK,HH];rfl) (by omega) Qp;have p2:AO true w17 (bv,10) (KU 5) ((x0.drop 10).take 5):=HS.cut (k:=10) (by rw[Qw,VK,HH];rfl) (by omega) Qp;have p3:AO true w17 (bv,15) (KU 5) ((x0.drop 15).take 5):=HS.cut (k:=15) (by rw[Qw,VK,HH];rfl) (by omega) Qp;have k17:BD w w17 (λb i=>b=bv/\i<20):=f17.mono λ_ _ _ h=>h.elim
  refine AP (AA F rfl λa F=>Eu F e0 rfl λa F=>AZ F rfl (AGb (F.ev (t:=61) rfl)) λa F=>AA F rfl λa F=>EG F rfl (Bg rfl (F.ev (t:=62) rfl) (F.ev (t:=63) wg) Tryz.call73) (Yq (p:=(bv,0)) (q:=(n5,0)) hG h17.gw (by omega) p0 lf mz hz (.ne (by show bv≠n5;omega))) λe w18 HB=>⟨_,HB.ret,λa F=>AJ ?_⟩);obtain⟨r0,q0,z0⟩:=HB.mem;have k18:=k17.vt HB.an (by decide);have s18:=HB.an.1;have ade:=aea.fe HB.an (by omega);have afx:=mz.fe HB.an (by omega);have p1':=p1.fo HB.an (by decide);have p2':=p2.fo HB.an (by decide);have p3':=p3.fo HB.an (by decide);obtain⟨f,F,e0,e6,wg⟩:∃f,Fr a 81 f/\f 0=pp bv/\f 6=pp n1/\f 11=pp n5:=⟨_,F,e0,e6,wg⟩;refine AP (AA F rfl λa F=>Eu F e0 rfl λa F=>AZ F rfl (AJO (F.ev (t:=66) rfl)) λa F=>AA F rfl λa F=>EG F rfl (Bg rfl (F.ev (t:=67) rfl) (F.ev (t:=68) e6) Tryz.call73) (Yq (p:=(bv,5)) (q:=(n1,0)) hG HB.gw (by omega) p1' lf ade hy (.ne (by show bv≠n1;omega))) λe w19 HR=>⟨_,HR.ret,λa F=>AJ ?_⟩);obtain⟨r1,q1,z1⟩:=HR.mem;have k19:=k18.vt HR.an (by decide);have s19:=HR.an.1;have aeU:=ade.fe HR.an (by omega);have afH:=afx.fe HR.an (by omega);have q0':=q0.fo HR.an (by decide);have ae6:=p2'.fo HR.an (by decide);have aer:=p3'.fo HR.an (by decide);obtain⟨f,F,e0,e6,wg⟩:∃f,Fr a 81 f/\f 0=pp bv/\f 6=pp n1/\f 11=pp n5:=⟨_,F,e0,e6,wg⟩;refine AP (AA F rfl λa F=>Eu F e0 rfl λa F=>AZ F rfl (AOt (F.ev (t:=71) rfl)) λa F=>EG F rfl (BJ rfl (F.ev (t:=72) rfl) Tryz.call74) (AGS (p:=(bv,10)) hG HR.gw (by omega) ae6 lf) λe w20 Is=>⟨_,Is.ret,λa F=>AJ ?_⟩);obtain⟨r2,q2,z2⟩:=Is.mem;have k20:=k19.vt Is.an (by decide);have s20:=Is.an.1;have afw:=aeU.fe Is.an (by omega);have aee:=afH.fe Is.an (by omega);have aeY:=q0'.fo Is.an (by decide);have q1':=q1.fo Is.an (by decide);have p3x:=aer.fo Is.an (by decide);obtain⟨f,F,e0,e6,wg⟩:∃f,Fr a 81 f/\f 0=pp bv/\f 6=pp n1/\f 11=pp n5:=⟨_,F,e0,e6,wg⟩;refine AP (AA F rfl λa F=>Eu F e0 rfl λa F=>AZ F rfl (ALe (F.ev (t:=75) rfl)) λa F=>AA F rfl λa F=>AA F rfl λa F=>EG F rfl (Hr rfl (F.ev (t:=76) rfl) (F.ev (t:=77) wg) (F.ev (t:=78) e6) Tryz.call67) (zL (p:=(bv,15)) (q:=(n5,0)) (r:=(n1,0)) hG Is.gw (by omega) p3x lf aee hz (.ne (by show bv≠n5;omega)) afw hy (.ne (by show bv≠n1;omega)) (.ne (by show n5≠n1;omega))) λe w21 h21=>⟨_,h21.ret,λa F=>AJ ?_⟩);obtain⟨r3,q3,z3⟩:=h21.mem;have k21:=k20.vt h21.an (by decide);have q0x:=aeY.fo h21.an (by decide);have q1x:=q1'.fo h21.an (by decide);have q2x:=q2.fo h21.an (by decide);refine AP (AA F rfl λa F=>AB F rfl λa F=>Aj F rfl λa F=>AJ ?_);subst hyv;refine Cn ⟨F.df,.tuple #[pp bv,.nilIface],?_,.inl ⟨AM,rfl,_,APP q0x q1x q2x q3,ALH AM rfl rfl rfl rfl (fs4 rfl z0 rfl z1 rfl z2 (RD _).symm z3 rfl)⟩,k21,h21.gw⟩;simp[results,Tryz.results46,go_sem];exact⟨F.gd e0,F.gd rfl⟩
end
section
open Go Ma Go.RowKit Go.Lib
def kPU:List IntKind:=KU 20++List.replicate 32 .u8
def pu0:List Int:=List.replicate 20 0++List.replicate 32 0
section
variable{ρ:Operand->Value}{d:Option Tmp}{x y:Operand}{ty t t':TypeId}{pos:String}{af:Array Edge}{w:World}{b o:Nat}
theorem AFA:(execOp ρ ⟨d,.build 64 #[],ty,pos,af,none⟩).run Tryz.prog w= .ok (.value (.agg (AL kPU pu0).toArray)) w:=by
 simp[execOp,go_sem];rfl
theorem yH{cs:Array Value}(h:ρ x= .agg cs):(execOp ρ ⟨d,.box 64 x,ty,pos,af,none⟩).run Tryz.prog w= .ok (.value (.pointer (some ⟨w.heap.size,0,none⟩))) (w.alloc (.cells cs 64)):=by
 simp[execOp,go_sem,h]
theorem AQd(h:ρ x= .pointer (some ⟨b,o,none⟩)):(execOp ρ ⟨d,.fieldAddr 64 x 0,ty,pos,af,none⟩).run Tryz.prog w= .ok (.value (.pointer (some ⟨b,o,none⟩))) w:=by
 simp[execOp,go_sem,h]
theorem AQE(h:ρ x= .pointer (some ⟨b,o,none⟩)):(execOp ρ ⟨d,.fieldAddr 64 x 1,ty,pos,af,none⟩).run Tryz.prog w= .ok (.value (.pointer (some ⟨b,o+20,none⟩))) w:=by
 simp[execOp,go_sem,h]
end
theorem yU:∀l:List Int,v8 l=AL (List.replicate l.length .u8) l
 | []=>rfl
 |x::l=>CV (Value.int .u8 x :: ·) (yU l)
structure NpP (GC:Nat->Nat->Option Value) (l:List Int) (w:World) (e:Ending) (w':World):Prop where
 ex:(∃h:∃x,Md dE x (yB l),∃B m,e= .returned (.tuple #[pp B,.nilIface])/\w.heap.size<=B/\AO true w' (B,0) (KU 20) m/\R3 (cO l h) m/\AO true w' (B,20) (List.replicate 32 .u8) l)\/((¬ ∃x,Md dE x (yB l))/\∃t v,e= .returned (.tuple #[.pointer none,.iface t v]))
 an:BD w w' (λ_ _=>False)
 gw:GW GC w'
structure NqP (GC:Nat->Nat->Option Value) (B:Nat) (l:List Int) (w:World) (e:Ending) (w':World):Prop where
 ex:(∃h:∃x,Md dE x (yB l),e= .returned (.tuple #[pp B,.nilIface])/\∃m,AO true w' (B,0) (KU 20) m/\R3 (cO l h) m/\AO true w' (B,20) (List.replicate 32 .u8) l)\/((¬ ∃x,Md dE x (yB l))/\∃t v,e= .returned (.tuple #[.pointer none,.iface t v]))
 an:BD w w' (λb _=>b=B)
 gw:GW GC w'
section
variable{GB:Nat}{GC:Nat->Nat->Option Value}{ad:Nat->Nat×Nat}(hG:GI GB GC ad){w:World}(ε:GW GC w)(δ:GB<=w.heap.size)
include hG ε δ
set_option maxRecDepth 100000 in
set_option maxHeartbeats 1000000 in
theorem AMr{B b o c:Nat}{l x0 x1:List Int}(m0:AO true w (B,0) (KU 20) x0)(m1:AO true w (B,20) (List.replicate 32 .u8) x1)(hB:GB<=B)(hx:DD w b o l)(hl:l.length=32)(hc:32<=c)(cj:b≠B):
  Calls Tryz.prog 29 #[pp B,.slice (some ⟨b,o,none⟩) 32 c] w (NqP GC B l w):=by
 have bj:B<w.heap.size:=m0.ltK (by decide);refine enter (args:=[pp B,.slice (some ⟨b,o,none⟩) 32 c]) Tryz.func29 rfl (n:=35) rfl λa F=>?_
 refine AP (Aj F rfl λa F=>Aj F rfl λa F=>AJ ?_);refine wp_seq (AP (AA F rfl λa F=>AZ F rfl (OE (p:=some ⟨b,o,none⟩) (m:=32) (c:=c) (F.ev (t:=9) rfl)) λa F=>AB F rfl λa F=>AJ ?_));refine AP (AA F rfl λa F=>AZ F rfl (Qd (i:=32) (j:=32) F.e rfl) λa F=>AJ ?_);refine wp_cond (t:=false) F.e (wp_skip ?_);obtain⟨f,F,e0,e1⟩:∃f,Fr a 35 f/\f 0=pp B/\f 1= .slice (some ⟨b,o,none⟩) 32 c:=⟨_,F,rfl,rfl⟩;refine wp_seq (AP (AA F rfl λa F=>Eu F e0 rfl λa F=>AZ F rfl (AQd (F.ev (t:=19) rfl)) λa F=>AA F rfl λa F=>EG F rfl (Bg rfl (F.ev (t:=20) rfl) (F.ev (t:=21) e1) Tryz.call46) (AFi hG ε δ m0 hB bj hl hx hc) λe w1 h1=>?_));have f1:BD w w1 (λb _=>b=B):=h1.an.mono λ_ _ _ h=>h.1
 rcases h1.ex with⟨AM,he,m,hm,hR⟩|⟨ij,t,v,he⟩
 ·refine⟨_,he,λa F=>AA F rfl λa F=>AZ F rfl (Ik F.e) λa F=>AZ F rfl (FZ F.e) λa F=>AB F rfl λa F=>AB F rfl λa F=>AJ ?_⟩;refine AP (AA F rfl λa F=>AZ F rfl (ZT F.e rfl) λa F=>AJ ?_);refine wp_cond (t:=false) F.e (wp_skip ?_);have nF:=hx.LR f1 cj;obtain⟨f,F,e0,e1⟩:∃f,Fr a 35 f/\f 0=pp B/\f 1= .slice (some ⟨b,o,none⟩) 32 c:=⟨_,F,e0,e1⟩;have m11:=m1.an h1.an λ_ _ h=>absurd h.2 (by show ¬ 20+_<20;omega)
  refine AP (AA F rfl λa F=>Eu F e0 rfl λa F=>AZ F rfl (AQE (F.ev (t:=29) rfl)) λa F=>AZ F rfl (wC (F.ev (t:=30) rfl)) λa F=>AA F rfl λa F=>AZ F rfl (AE9 (ys:=l) (F.ev (t:=31) rfl) (F.ev (t:=32) e1) (by rw[hl];rfl) (λi hi=>by rw[Ce];exact nF.2 i hi) (λi hi=>m11.ex i (by rw[hl] at hi;simpa using hi))) λa F=>AJ ?_);have hv8:v8 l=AL (List.replicate 32 .u8) l:=by rw[<- hl];exact yU l
  have mm:=Iw (xs:=l) (ks:=List.replicate 32 .u8) (hx.Ks hl).1 m11.ex;rw[<- hv8] at mm;have g2:BD w1 (w1.setCells B 20 (v8 l)) (λb i=>b=B/\20<=i):=BG _ _ (BD.refl _ _) λi _=>.inr ⟨rfl,Nat.le_add_right _ _⟩
  have f2:BD w (w1.setCells B (0+20) (v8 l)) (λb _=>b=B):=f1.trans' g2 λ_ _ _ h=>h.1
  have Wa:AO true (w1.setCells B (0+20) (v8 l)) (B,0) (KU 20) m:=hm.an g2 λi hi h=>by
   have h2:20<=0+i:=h.2;have h3:i<20:=hi;omega
  have gw2:GW GC (w1.setCells B (0+20) (v8 l)):=Fu hG ε (f2.mono λ_ _ _ h=>h) hB;generalize w1.setCells B (0+20) (v8 l)=w2 at mm g2 f2 Wa gw2 ⊢;refine AP (AA F rfl λa F=>AB F rfl λa F=>Aj F rfl λa F=>AJ ?_);refine Cn ⟨F.df,.tuple #[pp B,.nilIface],?_,.inl ⟨AM,rfl,m,Wa,hR,mm⟩,f2,gw2⟩;simp[results,Tryz.results29,go_sem];exact⟨F.gd e0,F.gd rfl⟩
 ·refine⟨_,he,λa F=>AA F rfl λa F=>AZ F rfl (Ik F.e) λa F=>AZ F rfl (FZ F.e) λa F=>AB F rfl λa F=>AB F rfl λa F=>AJ ?_⟩;refine AP (AA F rfl λa F=>AZ F rfl (bS F.e rfl) λa F=>AJ ?_);refine wp_cond (t:=true) F.e ?_;refine AP (EG F rfl (BJ rfl rfl Tryz.call43) (Mi hG h1.gw (EX δ f1.1) _) λe w2 h2=>?_);obtain⟨t,v,he⟩:=h2.ret;refine⟨_,he,λa F=>Aj F rfl λa F=>AB F rfl λa F=>AJ ?_⟩;refine Cn ⟨F.df,.tuple #[.pointer none,.iface t v],?_,.inr ⟨ij,t,v,rfl⟩,f1.fn h2.an,h2.gw⟩;simp[results,Tryz.results29,go_sem];exact⟨F.gd rfl,F.gd rfl⟩
set_option maxRecDepth 100000 in
theorem ANr{b o c:Nat}{l:List Int}(hx:DD w b o l)(hl:l.length=32)(hc:32<=c):Calls Tryz.prog 12 #[.slice (some ⟨b,o,none⟩) 32 c] w (NpP GC l w):=by
 have hb:b<w.heap.size:=hx.lt (by omega);refine enter (args:=[.slice (some ⟨b,o,none⟩) 32 c]) Tryz.func12 rfl (n:=12) rfl λa F=>?_
 refine AP (Aj F rfl λa F=>Aj F rfl λa F=>AJ ?_);refine AP (AZ F rfl AFA λa F=>AZ F rfl (yH F.e) λa F=>AB F rfl λa F=>AJ ?_);have N1:=Jr w kPU pu0 64 (O8 (by decide));have f1:BD w (w.alloc (.cells (AL kPU pu0).toArray 64)) (λ_ _=>False):=BC _ _ _;generalize w.alloc (.cells (AL kPU pu0).toArray 64)=w1 at N1 f1 ⊢;obtain⟨ma,mb⟩:=AO.app (ks:=KU 20) (js:=List.replicate 32 .u8) (xs:=List.replicate 20 0) (ys:=List.replicate 32 0) N1 rfl;refine AP (AA F rfl λa F=>AA F rfl λa F=>EG F rfl (Bg rfl F.e F.e Tryz.call29) (AMr hG (F4 hG ε f1 δ) (EX δ f1.1) ma mb δ (hx.cr f1) hl hc (by omega)) λe w2 h2=>?_);have f2:BD w w2 (λ_ _=>False):=f1.trans' h2.an λb' i vn (h:b'=w.heap.size)=>by omega
 rcases h2.ex with⟨AM,he,m,hm,hR,hm8⟩|⟨ij,t,v,he⟩
 ·refine⟨_,he,λa F=>AZ F rfl (Ik F.e) λa F=>AZ F rfl (FZ F.e) λa F=>AB F rfl λa F=>AB F rfl λa F=>AJ ?_⟩;refine Cn ⟨F.df,.tuple #[pp w.heap.size,.nilIface],?_,.inl ⟨AM,w.heap.size,m,rfl,Ie _,hm,hR,hm8⟩,f2,h2.gw⟩;simp[results,Tryz.results12,go_sem];exact⟨F.gd rfl,F.gd rfl⟩
 ·refine⟨_,he,λa F=>AZ F rfl (Ik F.e) λa F=>AZ F rfl (FZ F.e) λa F=>AB F rfl λa F=>AB F rfl λa F=>AJ ?_⟩;refine Cn ⟨F.df,.tuple #[.pointer none,.iface t v],?_,.inr ⟨ij,t,v,rfl⟩,f2,h2.gw⟩;simp[results,Tryz.results12,go_sem];exact⟨F.gd rfl,F.gd rfl⟩
end
end
section
open Go Ma Go.RowKit Go.Lib
def bO:List Int:=[236,211,245,92,26,99,18,88,214,156,247,162,222,249,222,20,0,0,0,0,0,0,0,0,0,0,0,0,0,0,0,16]
def bw(x y c:Int):Int:=if x<y+c then 1 else 0
theorem ANG{x y c:Int}:bw x y c=0\/bw x y c=1:=by
 unfold bw;split
 ·exact .inr rfl
 ·exact .inl rfl
theorem ACq{w0 w1 w2 w3:Int}(h0:0<=w0/\w0<18446744073709551616)(h1:0<=w1/\w1<18446744073709551616)(h2:0<=w2/\w2<18446744073709551616)(h3:0<=w3/\w3<18446744073709551616):(bw 1152921504606846976 w3 (bw 0 w2 (bw 1503914060200516822 w1 (bw 6346243789798364140 w0 0))) == 0)=decide (w0+18446744073709551616*(w1+18446744073709551616*(w2+18446744073709551616*w3))<Vu):=by
 unfold bw Vu;rw[Bool.eq_iff_iff,beq_iff_eq,decide_eq_true_eq];split<;>split<;>split<;>split<;>omega
theorem APl{l:List Int}(hl:l.length=32):Cm l=Cm ((l.drop 0).take 8)+18446744073709551616*(Cm ((l.drop 8).take 8)+18446744073709551616*(Cm ((l.drop 16).take 8)+18446744073709551616*Cm ((l.drop 24).take 8))):=by
 match l,hl with
 | [b0,b1,b2,b3,b4,b5,b6,b7,b8,b9,b10,b11,ω,Γ,b14,b15,b16,b17,b18,Δ,b20,b21,b22,b23,Θ,Ψ,Ξ,b27,b28,b29,b30,b31],_=>
  simp only[List.drop_succ_cons,W7,List.take_succ_cons,zcv,Cm];omega
theorem vw{l:List Int}{k:Nat}(h:cI l)(hl:l.length=32)(hk:k+8<=32):0<=Cm ((l.drop k).take 8)/\Cm ((l.drop k).take 8)<18446744073709551616:=by
 have h8:cI ((l.drop k).take 8):=λx hx=>h x (HK (List.mem_of_mem_take hx))
 have hb:=NT h8;rw[Qw,VK,hl,Nat.min_eq_left (by omega)] at hb;exact hb
section
variable{ρ:Operand->Value}{d:Option Tmp}{x y z:Operand}{ty t t':TypeId}{pos:String}{af:Array Edge}{w:World}{b o:Nat}
theorem AKp{kk kk':IntKind}{m c i j:Nat}(hx:ρ x= .slice (some ⟨b,o,none⟩) m c)(hy:ρ y= .int kk i)(hz:ρ z= .int kk' j)(h1:i<=j)(h2:j<=c)(h3:i<c):(execOp ρ ⟨d,.slice 22 x (some y) (some z) none,ty,pos,af,none⟩).run Tryz.prog w= .ok (.value (.slice (some ⟨b,o+i,none⟩) (j-i) (c-i))) w:=by
 have hu:=run_underlying (w:=w) Tryz.underlying22;have hb:∀code,(Instr.sliceBound (.int kk' j) c code).run Tryz.prog w= .ok j w:=λcode=>Bn _ w h2 code
 have cV:∀code,(Instr.sliceBound (.int kk i) j code).run Tryz.prog w= .ok i w:=λcode=>Bn _ w h1 code
 have cj:¬c=i:=by omega
 simp only[execOp,hx,hy,hz,UT,Option.map_none,Instr.sliceAt,Instr.slice,Gi,hu,Fb];simp[Instr.sliceBounds,hb,cV,cj,Ce]
theorem AJ2{kk:IntKind}{m c k:Nat}(hx:ρ x= .slice (some ⟨b,o,none⟩) m c)(hy:ρ y= .int kk k)(h1:k<=m)(h2:m<=c)(h3:k<c):(execOp ρ ⟨d,.slice 22 x (some y) none none,ty,pos,af,none⟩).run Tryz.prog w= .ok (.value (.slice (some ⟨b,o+k,none⟩) (m-k) (c-k))) w:=by
 rw[zb hx hy h1 h2,if_neg (by omega)];simp[Ce]
theorem AS6{kk:IntKind}{j:Nat}(hx:ρ x= .pointer (some ⟨b,o,none⟩))(hz:ρ z= .int kk j)(h2:j<=32):(execOp ρ ⟨d,.slice 45 x none (some z) none,ty,pos,af,none⟩).run Tryz.prog w= .ok (.value (.slice (some ⟨b,o,none⟩) j 32)) w:=by
 have hu:=run_underlying (w:=w) Tryz.underlying45;simp only[execOp,hx,hz,UT,Option.map_none,Instr.sliceAt,Instr.slice,Gi,hu,Fb];simp[Instr.sliceBounds,Instr.sureAddr,go_sem];intro h;omega
theorem ASA{kk kk':IntKind}{i j:Nat}(hx:ρ x= .pointer (some ⟨b,o,none⟩))(hy:ρ y= .int kk i)(hz:ρ z= .int kk' j)(h1:i<=j)(h2:j<=32)(h3:i<32):(execOp ρ ⟨d,.slice 45 x (some y) (some z) none,ty,pos,af,none⟩).run Tryz.prog w= .ok (.value (.slice (some ⟨b,o+i,none⟩) (j-i) (32-i))) w:=by
 have hu:=run_underlying (w:=w) Tryz.underlying45;have cj:¬ 32=i:=by omega
 simp only[execOp,hx,hy,hz,UT,Option.map_none,Instr.sliceAt,Instr.slice,Gi,hu,Fb];simp[Instr.sliceBounds,Instr.sureAddr,cj,Ce,go_sem];rw[if_pos (by omega),if_pos h1]
theorem AUS{kk:IntKind}{i:Nat}(hx:ρ x= .pointer (some ⟨b,o,none⟩))(hy:ρ y= .int kk i)(h3:i<32):(execOp ρ ⟨d,.slice 45 x (some y) none none,ty,pos,af,none⟩).run Tryz.prog w= .ok (.value (.slice (some ⟨b,o+i,none⟩) (32-i) (32-i))) w:=by
 have hu:=run_underlying (w:=w) Tryz.underlying45;have cj:¬ 32=i:=by omega
 simp only[execOp,hx,hy,UT,Option.map_none,Instr.sliceAt,Instr.slice,Gi,hu,Fb];simp[Instr.sliceBounds,Instr.sureAddr,cj,Ce,go_sem];intro h;omega
theorem xC{i j k:Int}(hF:ρ (.func 121)= .func (.func 121) #[] #[])(hx:ρ x= .int .u64 i)(hy:ρ y= .int .u64 j)(hz:ρ z= .int .u64 k)(h1:0<=i)(h2:0<=j)(h3:k=0\/k=1)(h4:j<18446744073709551616){at_:Array TypeId}:(execOp ρ ⟨d,.call ⟨.value (.func 121),#[x,y,z],at_⟩,ty,pos,af,none⟩).run Tryz.prog w= .ok (.value (.tuple #[.int .u64 ((i+18446744073709551616-j-k)%18446744073709551616),.int .u64 (bw i j k)])) w:=by
 have h:=AEv i j k w h1 h2 h3 h4;simp[execOp,go_sem,hx,hy,hz,hF,h,bw]
end
set_option maxRecDepth 100000 in
set_option maxHeartbeats 1000000 in
theorem AIl{w:World}{b o c:Nat}{l:List Int}(hS:DD w 5 0 bO)(hx:DD w b o l)(hl:l.length=32)(hc:32<=c):Calls Tryz.prog 85 #[.slice (some ⟨b,o,none⟩) 32 c] w (λe w'=>e= .returned (.bool (decide (Cm l<Vu)))/\w=w'):=by
 have tw:∀k,k+8<=32->((l.drop k).take 8).length=8:=λk hk=>by
  rw[Qw,VK,hl];omega
 have l0:=vw (k:=0) hx.1 hl (by decide);have l1:=vw (k:=8) hx.1 hl (by decide);have l2:=vw (k:=16) hx.1 hl (by decide);have l3:=vw (k:=24) hx.1 hl (by decide);have hv:=APl hl;have x0:=hx.sub (i:=0) (k:=8) (by omega);have x1:=hx.sub (i:=8) (k:=8) (by omega);have x2:=hx.sub (i:=16) (k:=8) (by omega);have x3:=hx.sub (i:=24) (k:=8) (by omega);have y0:=hS.sub (i:=0) (k:=8) (by decide);have y1:=hS.sub (i:=8) (k:=8) (by decide);have y2:=hS.sub (i:=16) (k:=8) (by decide);have y3:=hS.sub (i:=24) (k:=8) (by decide);have n0:=tw 0 (by decide);have n1:=tw 8 (by decide);have n2:=tw 16 (by decide);have n3:=tw 24 (by decide);clear tw hS hx hl;rw[hv];clear hv;generalize (l.drop 0).take 8=p0 at *
 generalize (l.drop 8).take 8=p1 at *
 generalize (l.drop 16).take 8=p2 at *
 generalize (l.drop 24).take 8=p3 at *
 have q0:Cm ((bO.drop 0).take 8)=6346243789798364140:=by decide +kernel
 have q1:Cm ((bO.drop 8).take 8)=1503914060200516822:=by decide +kernel
 have q2:Cm ((bO.drop 16).take 8)=0:=by decide +kernel
 have q3:Cm ((bO.drop 24).take 8)=1152921504606846976:=by decide +kernel
 refine enter (args:=[.slice (some ⟨b,o,none⟩) 32 c]) Tryz.func85 rfl (n:=65) rfl λa F=>?_
 refine AP (Aj F rfl λa F=>AJ ?_);refine wp_seq (wp_seq (cp (AA F rfl λa F=>AZ F rfl (OE F.e) λa F=>AZ F rfl (Qd (i:=32) (j:=32) F.e rfl) λa F=>CY ?_)));refine wp_cond (t:=false) F.e (wp_skip ?_);obtain⟨f,F,e0⟩:∃f,Fr a 65 f/\f 0= .slice (some ⟨b,o,none⟩) 32 c:=⟨_,F,rfl⟩;refine AP (AA F rfl λa F=>AZ F rfl (gL (k:=8) (F.ev (t:=16) e0) rfl (by omega)) λa F=>EG F rfl (BJ rfl (F.ev (t:=17) rfl) Tryz.call120) (O7 x0 n0 (by omega)) λe w' h=>⟨_,h.1,λa F=>AB F rfl λa F=>AJ ?_⟩);obtain⟨-,rfl⟩:=h;obtain⟨f,F,e0,e3⟩:∃f,Fr a 65 f/\f 0= .slice (some ⟨b,o,none⟩) 32 c/\f 3= .int .u64 (Cm p0):=⟨_,F,e0,rfl⟩;refine AP (AA F rfl λa F=>AZ F rfl (AKp (i:=8) (j:=16) (F.ev (t:=19) e0) rfl rfl (by omega) (by omega) (by omega)) λa F=>EG F rfl (BJ rfl (F.ev (t:=20) rfl) Tryz.call120) (O7 x1 n1 (by omega)) λe w' h=>⟨_,h.1,λa F=>AB F rfl λa F=>AJ ?_⟩);obtain⟨-,rfl⟩:=h;obtain⟨f,F,e0,e3,e4⟩:∃f,Fr a 65 f/\f 0= .slice (some ⟨b,o,none⟩) 32 c/\f 3= .int .u64 (Cm p0)/\f 4= .int .u64 (Cm p1):=⟨_,F,e0,e3,rfl⟩;refine AP (AA F rfl λa F=>AZ F rfl (AKp (i:=16) (j:=24) (F.ev (t:=22) e0) rfl rfl (by omega) (by omega) (by omega)) λa F=>EG F rfl (BJ rfl (F.ev (t:=23) rfl) Tryz.call120) (O7 x2 n2 (by omega)) λe w' h=>⟨_,h.1,λa F=>AB F rfl λa F=>AJ ?_⟩);obtain⟨-,rfl⟩:=h;obtain⟨f,F,e0,e3,e4,e5⟩:∃f,Fr a 65 f/\f 0= .slice (some ⟨b,o,none⟩) 32 c/\f 3= .int .u64 (Cm p0)/\f 4= .int .u64 (Cm p1)/\f 5= .int .u64 (Cm p2):=⟨_,F,e0,e3,e4,rfl⟩;refine AP (AA F rfl λa F=>AZ F rfl (AJ2 (k:=24) (F.ev (t:=25) e0) rfl (by omega) (by omega) (by omega)) λa F=>EG F rfl (BJ rfl (F.ev (t:=26) rfl) Tryz.call120) (O7 x3 n3 (by omega)) λe w' h=>⟨_,h.1,λa F=>AB F rfl λa F=>AJ ?_⟩);obtain⟨-,rfl⟩:=h;obtain⟨f,F,e3,e4,e5,e6⟩:∃f,Fr a 65 f/\f 3= .int .u64 (Cm p0)/\f 4= .int .u64 (Cm p1)/\f 5= .int .u64 (Cm p2)/\f 6= .int .u64 (Cm p3):=⟨_,F,e3,e4,e5,rfl⟩;refine AP (AZ F rfl (AS6 (b:=5) (o:=0) (j:=8) rfl rfl (by omega)) λa F=>EG F rfl (BJ rfl (F.ev (t:=28) rfl) Tryz.call120) (O7 y0 rfl (by omega)) λe w' h=>⟨_,h.1,λa F=>AB F rfl λa F=>AJ ?_⟩);obtain⟨-,rfl⟩:=h;obtain⟨f,F,e3,e4,e5,e6,e7⟩:∃f,Fr a 65 f/\f 3= .int .u64 (Cm p0)/\f 4= .int .u64 (Cm p1)/\f 5= .int .u64 (Cm p2)/\f 6= .int .u64 (Cm p3)/\f 7= .int .u64 6346243789798364140:=⟨_,F,e3,e4,e5,e6,CV (Value.int .u64) q0⟩;refine AP (AZ F rfl (ASA (b:=5) (o:=0) (i:=8) (j:=16) rfl rfl rfl (by omega) (by omega) (by omega)) λa F=>EG F rfl (BJ rfl (F.ev (t:=30) rfl) Tryz.call120) (O7 y1 rfl (by omega)) λe w' h=>⟨_,h.1,λa F=>AB F rfl λa F=>AJ ?_⟩);obtain⟨-,rfl⟩:=h;obtain⟨f,F,e3,e4,e5,e6,e7,e8⟩:∃f,Fr a 65 f/\f 3= .int .u64 (Cm p0)/\f 4= .int .u64 (Cm p1)/\f 5= .int .u64 (Cm p2)/\f 6= .int .u64 (Cm p3)/\f 7= .int .u64 6346243789798364140/\f 8= .int .u64 1503914060200516822:=⟨_,F,e3,e4,e5,e6,e7,CV (Value.int .u64) q1⟩;refine AP (AZ F rfl (ASA (b:=5) (o:=0) (i:=16) (j:=24) rfl rfl rfl (by omega) (by omega) (by omega)) λa F=>EG F rfl (BJ rfl (F.ev (t:=32) rfl) Tryz.call120) (O7 y2 rfl (by omega)) λe w' h=>⟨_,h.1,λa F=>AB F rfl λa F=>AJ ?_⟩);obtain⟨-,rfl⟩:=h;obtain⟨f,F,e3,e4,e5,e6,e7,e8,e9⟩:∃f,Fr a 65 f/\f 3= .int .u64 (Cm p0)/\f 4= .int .u64 (Cm p1)/\f 5= .int .u64 (Cm p2)/\f 6= .int .u64 (Cm p3)/\f 7= .int .u64 6346243789798364140/\f 8= .int .u64 1503914060200516822/\f 9= .int .u64 0:=⟨_,F,e3,e4,e5,e6,e7,e8,CV (Value.int .u64) q2⟩;refine AP (AZ F rfl (AUS (b:=5) (o:=0) (i:=24) rfl rfl (by omega)) λa F=>EG F rfl (BJ rfl (F.ev (t:=34) rfl) Tryz.call120) (O7 y3 rfl (by omega)) λe w' h=>⟨_,h.1,λa F=>AB F rfl λa F=>AJ ?_⟩);obtain⟨-,rfl⟩:=h;obtain⟨f,F,e3,e4,e5,e6,e7,e8,e9,kB⟩:∃f,Fr a 65 f/\f 3= .int .u64 (Cm p0)/\f 4= .int .u64 (Cm p1)/\f 5= .int .u64 (Cm p2)/\f 6= .int .u64 (Cm p3)/\f 7= .int .u64 6346243789798364140/\f 8= .int .u64 1503914060200516822/\f 9= .int .u64 0/\f 10= .int .u64 1152921504606846976:=⟨_,F,e3,e4,e5,e6,e7,e8,e9,CV (Value.int .u64) q3⟩;refine AP (AA F rfl λa F=>AA F rfl λa F=>AZ F rfl (xC rfl (F.ev (t:=37) e7) (F.ev (t:=38) e3) rfl (by decide) l0.1 (.inl rfl) l0.2) λa F=>AA F rfl λa F=>AZ F rfl (Ik F.e) λa F=>AZ F rfl (FZ F.e) λa F=>AB F rfl λa F=>AB F rfl λa F=>AJ ?_);obtain⟨f,F,e4,e5,e6,e8,e9,kB,sy⟩:∃f,Fr a 65 f/\f 4= .int .u64 (Cm p1)/\f 5= .int .u64 (Cm p2)/\f 6= .int .u64 (Cm p3)/\f 8= .int .u64 1503914060200516822/\f 9= .int .u64 0/\f 10= .int .u64 1152921504606846976/\f 12= .int .u64 (bw 6346243789798364140 (Cm p0) 0):=⟨_,F,e4,e5,e6,e8,e9,kB,rfl⟩;refine AP (AA F rfl λa F=>AA F rfl λa F=>AA F rfl λa F=>AZ F rfl (xC rfl (F.ev (t:=43) e8) (F.ev (t:=44) e4) (F.ev (t:=45) sy) (by decide) l1.1 ANG l1.2) λa F=>AA F rfl λa F=>AZ F rfl (Ik F.e) λa F=>AZ F rfl (FZ F.e) λa F=>AB F rfl λa F=>AJ ?_);obtain⟨f,F,e5,e6,e9,kB,sy⟩:∃f,Fr a 65 f/\f 5= .int .u64 (Cm p2)/\f 6= .int .u64 (Cm p3)/\f 9= .int .u64 0/\f 10= .int .u64 1152921504606846976/\f 12= .int .u64 (bw 1503914060200516822 (Cm p1) (bw 6346243789798364140 (Cm p0) 0)):=⟨_,F,e5,e6,e9,kB,rfl⟩;refine AP (AA F rfl λa F=>AA F rfl λa F=>AA F rfl λa F=>AZ F rfl (xC rfl (F.ev (t:=50) e9) (F.ev (t:=51) e5) (F.ev (t:=52) sy) (by decide) l2.1 ANG l2.2) λa F=>AA F rfl λa F=>AZ F rfl (Ik F.e) λa F=>AZ F rfl (FZ F.e) λa F=>AB F rfl λa F=>AJ ?_);obtain⟨f,F,e6,kB,sy⟩:∃f,Fr a 65 f/\f 6= .int .u64 (Cm p3)/\f 10= .int .u64 1152921504606846976/\f 12= .int .u64 (bw 0 (Cm p2) (bw 1503914060200516822 (Cm p1) (bw 6346243789798364140 (Cm p0) 0))):=⟨_,F,e6,kB,rfl⟩;refine AP (AA F rfl λa F=>AA F rfl λa F=>AA F rfl λa F=>AZ F rfl (xC rfl (F.ev (t:=57) kB) (F.ev (t:=58) e6) (F.ev (t:=59) sy) (by decide) l3.1 ANG l3.2) λa F=>AA F rfl λa F=>AZ F rfl (Ik F.e) λa F=>AZ F rfl (FZ F.e) λa F=>AB F rfl λa F=>AJ ?_);obtain⟨f,F,sy⟩:∃f,Fr a 65 f/\f 12= .int .u64 (bw 1152921504606846976 (Cm p3) (bw 0 (Cm p2) (bw 1503914060200516822 (Cm p1) (bw 6346243789798364140 (Cm p0) 0)))):=⟨_,F,rfl⟩;refine AP (AA F rfl λa F=>AZ F rfl (ACj (F.ev (t:=63) sy) rfl) λa F=>AB F rfl λa F=>AJ ?_);refine Cn ⟨F.df,.bool _,?_,CV (λb=>Ending.returned (.bool b)) (ACq l0 l1 l2 l3),rfl⟩;simp[results,Tryz.results85,go_sem];exact F.gd rfl
end
section
open Go Ma Go.RowKit Go.Lib
structure ScP (GC:Nat->Nat->Option Value) (q:List Int->Prop) (p:Nat×Nat) (v:Value) (w:World) (e:Ending) (w':World):Prop where
 ret:e= .returned v
 mem:∃l,AO true w' p U4 l/\q l
 an:BD w w' (λb _=>b=p.1)
 gw:GW GC w'
theorem Lr(w:World)(S:Nat->Nat->Prop):BD w { w with drawn:=w.drawn+1 } S:=(BD.refl w S).of_heap (w':= { w with drawn:=w.drawn+1 }) rfl rfl rfl rfl
section
variable{ρ:Operand->Value}{d:Option Tmp}{x y:Operand}{ty t t':TypeId}{pos:String}{af:Array Edge}{w:World}{b o:Nat}
theorem ABu(h:ρ x= .pointer (some ⟨b,o,none⟩)):(execOp ρ ⟨d,.fieldAddr 122 x 0,ty,pos,af,none⟩).run Tryz.prog w= .ok (.value (.pointer (some ⟨b,o,none⟩))) w:=by
 simp[execOp,go_sem,h]
theorem x9{c:Bool}(h:ρ x= .bool c):(execOp ρ ⟨d,.unOp .not t x,ty,pos,af,none⟩).run Tryz.prog w= .ok (.value (.bool (!c))) w:=by
 simp[execOp,go_sem,h]
theorem ARl{n c:Nat}(h:ρ x= .slice (some ⟨b,o,none⟩) n c)(hn:32<=n):(execOp ρ ⟨d,.sliceToArrayPointer 45 x,ty,pos,af,none⟩).run Tryz.prog w= .ok (.value (.pointer (some ⟨b,o,none⟩))) w:=by
 have hu:=run_underlying (w:=w) Tryz.underlying45;simp[execOp,h,Instr.arrayAt,hu];intro h;omega
end
theorem AJx{ins:List (List Int)}{args:List Value}{fb:List (Nat×Nat)}{vs:List Value}(h:yJ ins args fb [] vs):vs= []:=by
 match vs,h with
 | [],_=>rfl
section
variable{GB:Nat}{GC:Nat->Nat->Option Value}{ad:Nat->Nat×Nat}(hG:GI GB GC ad){w:World}(ε:GW GC w)(δ:GB<=w.heap.size)
include hG ε δ
theorem AH7{bs os bx ox:Nat}{x0 x:List Int}(ms:AO true w (bs,os) U4 x0)(ph:GB<=bs)(mx:AO false w (bx,ox) (List.replicate 32 .u8) x)(cj:bs≠bx):
  Calls Tryz.prog 86 #[.pointer (some ⟨bs,os,none⟩),.pointer (some ⟨bx,ox,none⟩)] w (ScP GC (λl=>u4 l/\v4 l=Cm x) (bs,os) (.tuple #[]) w):=by
 have h:=jH hG ε δ (rv:=[]) (ET hG) rfl rfl rfl (b0:=(bs,os)) (b1:=(bx,ox)) (x0:=x0) (x1:=x) ⟨rfl,ms,λ_=>ph⟩ ⟨rfl,mx,λh=>(by cases h)⟩ (λ_=>.inr (.inl cj)) (Oo (xW Ec x0 x mx.jz mx.len8).1) (λfb vs h=>AJx h);have q:=ACU (T:=[(86,.one BN)]) Ec (v:=x0) mx.jz mx.len8;have e:HJ [(86,.one BN)] x0 x=BF 4 (BM.raw BO 0 [x0,x]):=by
  unfold HJ;rw[Bf Ec,AFf];rfl
 rw[e] at q;exact h.mono λe w' h=>⟨h.ret,⟨_,h.mem,q⟩,h.an,h.gw⟩
theorem AHi{bs os:Nat}{x:List Int}(ms:AO true w (bs,os) U4 x)(ph:GB<=bs)(hx:u4 x):
  Calls Tryz.prog 87 #[.pointer (some ⟨bs,os,none⟩),.pointer (some ⟨bs,os,none⟩)] w (ScP GC (λl=>Qu l (v4 x)) (bs,os) (.tuple #[]) w):=by
 have h:=jH hG ε δ (rv:=[]) (D9 hG) rfl rfl rfl (b0:=(bs,os)) (b1:=(bs,os)) (x0:=x) (x1:=x) ⟨rfl,ms,λ_=>ph⟩ ⟨rfl,ms.ro,λh=>(by cases h)⟩ (λ_=>.inl ⟨rfl,by decide,rfl,rfl⟩) (Oo (AFX Ec x x hx).1) (λfb vs h=>AJx h);have q:Qu (gv [(87,.one CF)] 87 0 [x,x]) (v4 x):=HD Ec YW (sO hx);rw[Bf Ec,YW] at q;exact h.mono λe w' h=>⟨h.ret,⟨_,h.mem,q⟩,h.an,h.gw⟩
end
structure CbP (GC:Nat->Nat->Option Value) (p:Nat×Nat) (l:List Int) (w:World) (e:Ending) (w':World):Prop where
 ex:(Cm l<Vu/\e= .returned (.tuple #[pa p,.nilIface])/\∃s,AO true w' p U4 s/\Qu s (Cm l))\/(¬Cm l<Vu/\∃t v,e= .returned (.tuple #[.pointer none,.iface t v]))
 an:BD w w' (λb _=>b=p.1)
 gw:GW GC w'
set_option maxRecDepth 100000 in
set_option maxHeartbeats 1000000 in
theorem AFO{GB:Nat}{GC:Nat->Nat->Option Value}{ad:Nat->Nat×Nat}(hG:GI GB GC ad){w:World}(ε:GW GC w)(δ:GB<=w.heap.size){bs os b o c:Nat}{x0 l:List Int}(hS:DD w 5 0 bO)(ms:AO true w (bs,os) U4 x0)(ph:GB<=bs)(hx:DD w b o l)(hl:l.length=32)(hc:32<=c)(cj:bs≠b):
  Calls Tryz.prog 58 #[.pointer (some ⟨bs,os,none⟩),.slice (some ⟨b,o,none⟩) 32 c] w (CbP GC (bs,os) l w):=by
 refine enter (args:=[.pointer (some ⟨bs,os,none⟩),.slice (some ⟨b,o,none⟩) 32 c]) Tryz.func58 rfl (n:=28) rfl λa F=>?_
 refine AP (Aj F rfl λa F=>Aj F rfl λa F=>AJ ?_);refine wp_seq (wp_seq (cp (AA F rfl λa F=>AZ F rfl (OE F.e) λa F=>AZ F rfl (Qd (i:=32) (j:=32) F.e rfl) λa F=>CY ?_)));refine wp_cond (t:=false) F.e (wp_skip ?_);refine wp_seq (AP (AA F rfl λa F=>EG F rfl (BJ rfl F.e Tryz.call85) (AIl hS hx hl hc) λe w' h=>⟨_,h.1,λa F=>?_⟩));obtain⟨-,rfl⟩:=h;by_cases bj:Cm l<Vu
 ·rw[decide_eq_true bj] at F;refine AZ F rfl (x9 F.e) λa F=>AJ ?_
  refine wp_cond (t:=false) F.e (wp_skip ?_);obtain⟨f,F,e0,e1⟩:∃f,Fr a 28 f/\f 0= .pointer (some ⟨bs,os,none⟩)/\f 1= .slice (some ⟨b,o,none⟩) 32 c:=⟨_,F,rfl,rfl⟩;refine wp_seq (wp_region_still_tail 5 mixed (by kernel_rfl) ?_);have g1:=Lr w (λ_ _=>False);generalize ({ w with drawn:=w.drawn+1 }:World)=w1 at g1 ⊢;have ms1:=ms.fn g1;have AD:=F4 hG ε g1 δ;refine Dm F rfl λa F=>IW F e0 rfl λa F=>BZ F rfl rfl rfl (ABu F.e) λa F=>Dm F rfl λa F=>BZ F rfl rfl rfl (ARl (F.ev (t:=17) e1) (by omega)) λa F=>?_
  refine EG F rfl (Bg rfl (F.ev (t:=16) rfl) (F.ev (t:=18) rfl) Tryz.call86) (AH7 hG AD (EX δ g1.1) ms1 ph ((hx.cr g1).Ks hl) cj) λe w2 h2=>⟨_,h2.ret,λa F=>AJ ?_⟩
  obtain⟨l2,m2,hu,hv⟩:=h2.mem;have g2:BD w w2 (λb _=>b=bs):=(g1.mono λ_ _ _ h=>h.elim).trans h2.an;obtain⟨f,F,e0⟩:∃f,Fr a 28 f/\f 0= .pointer (some ⟨bs,os,none⟩):=⟨_,F,e0⟩;refine wp_seq (wp_region_still_tail 6 mixed (by kernel_rfl) ?_);have g3':=Lr w2 (λ_ _=>False);have hw2:=h2.gw;generalize ({ w2 with drawn:=w2.drawn+1 }:World)=w3 at g3' ⊢;have g3:=g2.fn g3';have hw3:=F4 hG hw2 g3' (EX δ g2.1);refine Dm F rfl λa F=>IW F e0 rfl λa F=>BZ F rfl rfl rfl (ABu F.e) λa F=>Dm F rfl λa F=>IW F e0 rfl λa F=>BZ F rfl rfl rfl (ABu F.e) λa F=>?_
  refine EG F rfl (Bg rfl (F.ev (t:=22) rfl) (F.ev (t:=25) rfl) Tryz.call87) (AHi hG hw3 (EX δ g3.1) (m2.fn g3') ph hu) λe w4 h4=>⟨_,h4.ret,λa F=>AJ ?_⟩
  obtain⟨l4,m4,hs⟩:=h4.mem;rw[hv] at hs;refine AP (AA F rfl λa F=>AB F rfl λa F=>Aj F rfl λa F=>AJ ?_);refine Cn ⟨F.df,.tuple #[.pointer (some ⟨bs,os,none⟩),.nilIface],?_,.inl ⟨bj,rfl,l4,m4,hs⟩,g3.trans h4.an,h4.gw⟩;simp[results,Tryz.results58,go_sem];exact⟨F.gd e0,F.gd rfl⟩
 ·rw[decide_eq_false bj] at F;refine AZ F rfl (x9 F.e) λa F=>AJ ?_
  refine wp_cond (t:=true) F.e ?_;refine AP (EG F rfl (BJ rfl rfl Tryz.call43) (Mi hG ε δ _) λe w2 h2=>?_);obtain⟨t,v,he⟩:=h2.ret;refine⟨_,he,λa F=>Aj F rfl λa F=>AB F rfl λa F=>AJ ?_⟩;refine Cn ⟨F.df,.tuple #[.pointer none,.iface t v],?_,.inr ⟨bj,t,v,rfl⟩,h2.an.mono λ_ _ _ h=>h.elim,h2.gw⟩;simp[results,Tryz.results58,go_sem];exact⟨F.gd rfl,F.gd rfl⟩
end
section
open Go Ma Go.RowKit Go.Lib
section
variable{ρ:Operand->Value}{d:Option Tmp}{x y:Operand}{ty t t':TypeId}{pos:String}{af:Array Edge}{w:World}{b o:Nat}
theorem xI{n c:Nat}{xs:List Int}(h:ρ x= .slice (some ⟨b,o,none⟩) n c)(hx:DD w b o xs)(hl:xs.length=n):(execOp ρ ⟨d,.convert 22 9 x,ty,pos,af,none⟩).run Tryz.prog w= .ok (.value (.string ⟨(BW xs).toArray⟩)) w:=by
 have q:=hx.str (c:=c) hl Tryz.underlying22 Tryz.underlying5 Tryz.underlying9;simp only[execOp,h,Gi,q,Fb];rfl
theorem AKz{s u:ByteArray}(h:ρ x= .string s)(hy:ρ y= .string u):(execOp ρ ⟨d,.binOp .eql 9 x y t',ty,pos,af,none⟩).run Tryz.prog w= .ok (.value (.bool (s.toList == u.toList))) w:=by
 simp[execOp,go_sem,h,hy]
end
theorem qh(bs:ByteArray):∀(k i:Nat) (r:List UInt8),bs.size-i=k->ByteArray.toList.loop bs i r=r.reverse++bs.data.toList.drop i
 |0,i,r,h=>by
  have hl:bs.data.toList.length=bs.size:=Array.length_toList;rw[ByteArray.toList.loop,if_neg (by omega),List.drop_eq_nil_of_le (by omega),RD]
 | k+1,i,r,h=>by
  have hl:bs.data.toList.length=bs.size:=Array.length_toList;have hi:i<bs.size:=by omega
  rw[ByteArray.toList.loop,if_pos hi,qh bs k (i+1) _ (by omega),List.drop_eq_getElem_cons (by omega:i<bs.data.toList.length),List.reverse_cons,Yt];have e:bs.get! i=bs.data.toList[i]:=by
   show bs.data[i]! = _;rw[getElem!_pos bs.data i hi];exact(Array.getElem_toList _).symm
  rw[e];rfl
theorem ACI(bs:ByteArray):bs.toList=bs.data.toList:=by
 have h:=qh bs _ 0 [] rfl;rw[List.reverse_nil,MA,W7] at h;exact h
theorem AI3{x y:List Int}(hx:∀v∈x,0<=v/\v<=255)(hy:∀v∈y,0<=v/\v<=255)(h:BW x=BW y):x=y:=by
 have hf:∀ {l:List Int},(∀v∈l,0<=v/\v<=255)->(BW l).map (λb=>(b.toNat:Int))=l:=λ{l} hl=>by
  unfold BW;rw[List.map_map]
  conv=>rhs;rw[<- List.map_id l]
  refine fT λv hv=>?_
  have:=hl v hv;simp only[Function.comp_apply,UInt8.toNat_ofNat',id];omega
 rw[<- hf hx, <- hf hy,h]
theorem ADL{x y:List Int}(hx:∀v∈x,0<=v/\v<=255)(hy:∀v∈y,0<=v/\v<=255):((⟨(BW x).toArray⟩:ByteArray).toList == (⟨(BW y).toArray⟩:ByteArray).toList)=decide (x=y):=by
 rw[ACI,ACI,Bool.eq_iff_iff,beq_iff_eq,decide_eq_true_eq];exact⟨λh=>AI3 hx hy h,λh=>by rw[h]⟩
set_option maxRecDepth 100000 in
theorem AGu{w:World}{b1 o1 n1 c1 b2 o2 n2 c2:Nat}{xs ys:List Int}(h1:DD w b1 o1 xs)(h2:DD w b2 o2 ys)(l1:xs.length=n1)(l2:ys.length=n2):
  Calls Tryz.prog 61 #[.slice (some ⟨b1,o1,none⟩) n1 c1,.slice (some ⟨b2,o2,none⟩) n2 c2] w λe w'=>e= .returned (.bool (decide (xs=ys)))/\w=w':=by
 refine enter (args:=[.slice (some ⟨b1,o1,none⟩) n1 c1,.slice (some ⟨b2,o2,none⟩) n2 c2]) Tryz.func61 rfl (n:=10) rfl λa F=>?_
 refine AP (Aj F rfl λa F=>AJ ?_);refine AP (AA F rfl λa F=>AZ F rfl (xI F.e h1 l1) λa F=>AA F rfl λa F=>AZ F rfl (xI F.e h2 l2) λa F=>AZ F rfl (AKz F.e F.e) λa F=>AB F rfl λa F=>AJ ?_);rw[ADL h1.1 h2.1] at F;refine Cn ⟨F.df,.bool (decide (xs=ys)),?_,rfl,rfl⟩;simp[results,Tryz.results61,go_sem];exact F.gd rfl
theorem ANO{X Y Z T:Fp}{P:Pt}(h:Ma.P3 X Y Z T P):Ma.P3 (0-X) Y Z (0-T) P.neg:=by
 obtain⟨h1,h2,h3,h4⟩:=h;have e1:P.neg.x= -P.x:=rfl;have e2:P.neg.y=P.y:=rfl;refine⟨h1,?_,?_,?_⟩
 ·rw[e1];grind
 ·rw[e2];grind
 ·grind
theorem MM.four{X Y Z T:Fp}{l:List Int}(h:MM [X,Y,Z,T] l):∃u0 u1 u2 u3,l=u0++(u1++(u2++u3))/\Gl X u0/\Gl Y u1/\Gl Z u2/\Gl T u3:=by
 obtain⟨u0,w0,rfl,q0,u1,w1,rfl,q1,u2,w2,rfl,q2,u3,w3,rfl,q3,hw⟩:=h;have hw:w3= []:=hw;subst hw;exact⟨u0,u1,u2,u3,by rw[RD],q0,q1,q2,q3⟩
theorem AO.four{f:Bool}{w:World}{b:Nat}{u0 u1 u2 u3:List Int}(h:AO f w (b,0) (KU 20) (u0++(u1++(u2++u3))))(l0:u0.length=5)(l1:u1.length=5)(l2:u2.length=5):AO f w (b,0) (KU 5) u0/\AO f w (b,5) (KU 5) u1/\AO f w (b,10) (KU 5) u2/\AO f w (b,15) (KU 5) u3:=by
 obtain⟨a0,a⟩:=AO.app (ks:=KU 5) (js:=KU 15) h l0.symm;obtain⟨a1,a⟩:=AO.app (o:=0+5) (ks:=KU 5) (js:=KU 10) a l1.symm;obtain⟨a2,a3⟩:=AO.app (o:=0+5+5) (ks:=KU 5) (js:=KU 5) a l2.symm;exact⟨a0,a1,a2,a3⟩
set_option maxRecDepth 100000 in
set_option maxHeartbeats 1000000 in
theorem AIX{GB:Nat}{GC:Nat->Nat->Option Value}{ad:Nat->Nat×Nat}(hG:GI GB GC ad){w:World}(ε:GW GC w)(δ:GB<=w.heap.size){bv bp:Nat}{x0 xA:List Int}{A:Pt}(m0:AO true w (bv,0) (KU 20) x0)(lf:GB<=bv)(mA:AO true w (bp,0) (KU 20) xA)(hA:R3 A xA)(cj:bv≠bp):Calls Tryz.prog 59 #[pp bv,pp bp] w (DA GC .p3 A.neg bv (pp bv) w):=by
 have bj:bv<w.heap.size:=m0.ltK (by decide);have hlp:bp<w.heap.size:=mA.ltK (by decide);have hnz:=qg hA;obtain⟨X,Y,Z,T,hF,hP⟩:=hA;obtain⟨u0,u1,u2,u3,rfl,h0,h1,h2,h3⟩:=hF.four;refine enter (args:=[pp bv,pp bp]) Tryz.func59 rfl (n:=37) rfl λa F=>?_
 refine AP (Aj F rfl λa F=>AJ ?_);refine AP (AA F rfl λa F=>AZ F rfl (AJo (b:=bp) (o:=0) F.e) λa F=>?_);have c1:(w.alloc (.cells #[pp bp] 77)).cell? ⟨w.heap.size,0,none⟩=some (pp bp):=nP _ _ _;have f1:BD w (w.alloc (.cells #[pp bp] 77)) (λ_ _=>False):=BC _ _ _;generalize w.alloc (.cells #[pp bp] 77)=w1 at c1 f1 ⊢;have SO:=mA.fn f1;refine EG F rfl (BJ rfl F.e Tryz.call88) (wJ c1 SO hnz) λe w' h=>?_
 obtain⟨he,hw⟩:=h;subst hw;refine⟨_,he,λa F=>AJ ?_⟩;obtain⟨f,F,e0,e1⟩:∃f,Fr a 37 f/\f 0=pp bv/\f 1=pp bp:=⟨_,F,rfl,rfl⟩;obtain⟨a0,a1,a2,a3⟩:=SO.four h0.1.1 h1.1.1 h2.1.1;have HS:=m0.fn f1;have HH:x0.length=20:=m0.1.1;have p0:AO true w1 (bv,0) (KU 5) ((x0.drop 0).take 5):=HS.cut (by rw[Qw,VK,HH];rfl) (by omega) Qp;have p1:AO true w1 (bv,5) (KU 5) ((x0.drop 5).take 5):=HS.cut (k:=5) (by rw[Qw,VK,HH];rfl) (by omega) Qp;have p2:AO true w1 (bv,10) (KU 5) ((x0.drop 10).take 5):=HS.cut (k:=10) (by rw[Qw,VK,HH];rfl) (by omega) Qp;have p3:AO true w1 (bv,15) (KU 5) ((x0.drop 15).take 5):=HS.cut (k:=15) (by rw[Qw,VK,HH];rfl) (by omega) Qp;have k1:BD w w1 (λb i=>b=bv/\i<20):=f1.mono λ_ _ _ h=>h.elim
 have gw1:=F4 hG ε f1 δ;have s1:=f1.1;clear HS HH f1 c1 SO;refine wp_seq (wp_region_still_tail 6 mixed (by kernel_rfl) ?_);have g2:=Lr w1 (λ_ _=>False);generalize ({ w1 with drawn:=w1.drawn+1 }:World)=w2 at g2 ⊢;have s2:=g2.1;refine Dm F rfl λa F=>IW F e0 rfl λa F=>BZ F rfl rfl rfl (AGb (F.ev (t:=9) rfl)) λa F=>Dm F rfl λa F=>IW F e1 rfl λa F=>BZ F rfl rfl rfl (AGb (F.ev (t:=12) rfl)) λa F=>?_
 refine EG F rfl (Bg rfl (F.ev (t:=10) rfl) (F.ev (t:=13) rfl) Tryz.call71) (kS (p:=(bv,0)) (q:=(bp,0)) hG (F4 hG gw1 g2 (by omega)) (by omega) (p0.fn g2) lf (a0.fn g2) h0 (.ne cj)) λe w3 z3=>⟨_,z3.ret,λa F=>AJ ?_⟩
 obtain⟨r0,q0,ud⟩:=z3.mem;have s3:=z3.an.1;have k3:=(k1.fn g2).vt z3.an (by decide);have p1:=(p1.fn g2).fo z3.an (by decide);have p2:=(p2.fn g2).fo z3.an (by decide);have p3:=(p3.fn g2).fo z3.an (by decide);have a1:=(a1.fn g2).fe z3.an (Ne.symm cj);have a2:=(a2.fn g2).fe z3.an (Ne.symm cj);have a3:=(a3.fn g2).fe z3.an (Ne.symm cj);obtain⟨f,F,e0,e1⟩:∃f,Fr a 37 f/\f 0=pp bv/\f 1=pp bp:=⟨_,F,e0,e1⟩;refine wp_seq (wp_region_still_tail 6 mixed (by kernel_rfl) ?_);have g4:=Lr w3 (λ_ _=>False);have gw3:=z3.gw;generalize ({ w3 with drawn:=w3.drawn+1 }:World)=w4 at g4 ⊢;have s4:=g4.1;refine Dm F rfl λa F=>IW F e0 rfl λa F=>BZ F rfl rfl rfl (AJO (F.ev (t:=16) rfl)) λa F=>Dm F rfl λa F=>IW F e1 rfl λa F=>BZ F rfl rfl rfl (AJO (F.ev (t:=19) rfl)) λa F=>?_
 refine EG F rfl (Bg rfl (F.ev (t:=17) rfl) (F.ev (t:=20) rfl) Tryz.call73) (Yq (p:=(bv,5)) (q:=(bp,5)) hG (F4 hG gw3 g4 (by omega)) (by omega) (p1.fn g4) lf (a1.fn g4) h1 (.ne cj)) λe w5 z5=>⟨_,z5.ret,λa F=>AJ ?_⟩
 obtain⟨r1,q1,sd⟩:=z5.mem;have s5:=z5.an.1;have k5:=(k3.fn g4).vt z5.an (by decide);have q0:=(q0.fn g4).fo z5.an (by decide);have p2:=(p2.fn g4).fo z5.an (by decide);have p3:=(p3.fn g4).fo z5.an (by decide);have a2:=(a2.fn g4).fe z5.an (Ne.symm cj);have a3:=(a3.fn g4).fe z5.an (Ne.symm cj);obtain⟨f,F,e0,e1⟩:∃f,Fr a 37 f/\f 0=pp bv/\f 1=pp bp:=⟨_,F,e0,e1⟩;refine wp_seq (wp_region_still_tail 6 mixed (by kernel_rfl) ?_);have g6:=Lr w5 (λ_ _=>False);have gw5:=z5.gw;generalize ({ w5 with drawn:=w5.drawn+1 }:World)=w6 at g6 ⊢;have s6:=g6.1;refine Dm F rfl λa F=>IW F e0 rfl λa F=>BZ F rfl rfl rfl (AOt (F.ev (t:=23) rfl)) λa F=>Dm F rfl λa F=>IW F e1 rfl λa F=>BZ F rfl rfl rfl (AOt (F.ev (t:=26) rfl)) λa F=>?_
 refine EG F rfl (Bg rfl (F.ev (t:=24) rfl) (F.ev (t:=27) rfl) Tryz.call73) (Yq (p:=(bv,10)) (q:=(bp,10)) hG (F4 hG gw5 g6 (by omega)) (by omega) (p2.fn g6) lf (a2.fn g6) h2 (.ne cj)) λe w7 z7=>⟨_,z7.ret,λa F=>AJ ?_⟩
 obtain⟨r2,q2,Tr⟩:=z7.mem;have s7:=z7.an.1;have k7:=(k5.fn g6).vt z7.an (by decide);have q0:=(q0.fn g6).fo z7.an (by decide);have q1:=(q1.fn g6).fo z7.an (by decide);have p3:=(p3.fn g6).fo z7.an (by decide);have a3:=(a3.fn g6).fe z7.an (Ne.symm cj);obtain⟨f,F,e0,e1⟩:∃f,Fr a 37 f/\f 0=pp bv/\f 1=pp bp:=⟨_,F,e0,e1⟩;refine wp_seq (wp_region_still_tail 6 mixed (by kernel_rfl) ?_);have g8:=Lr w7 (λ_ _=>False);have gw7:=z7.gw;generalize ({ w7 with drawn:=w7.drawn+1 }:World)=w8 at g8 ⊢;have s8:=g8.1;refine Dm F rfl λa F=>IW F e0 rfl λa F=>BZ F rfl rfl rfl (ALe (F.ev (t:=30) rfl)) λa F=>Dm F rfl λa F=>IW F e1 rfl λa F=>BZ F rfl rfl rfl (ALe (F.ev (t:=33) rfl)) λa F=>?_
 refine EG F rfl (Bg rfl (F.ev (t:=31) rfl) (F.ev (t:=34) rfl) Tryz.call71) (kS (p:=(bv,15)) (q:=(bp,15)) hG (F4 hG gw7 g8 (by omega)) (by omega) (p3.fn g8) lf (a3.fn g8) h3 (.ne cj)) λe w9 z9=>⟨_,z9.ret,λa F=>AJ ?_⟩
 obtain⟨r3,q3,hr3⟩:=z9.mem;have k9:=(k7.fn g8).vt z9.an (by decide);have q0:=(q0.fn g8).fo z9.an (by decide);have q1:=(q1.fn g8).fo z9.an (by decide);have q2:=(q2.fn g8).fo z9.an (by decide);refine AP (AA F rfl λa F=>AB F rfl λa F=>AJ ?_);refine Cn ⟨F.df,pp bv,?_,rfl,⟨_,APP q0 q1 q2 q3,_,_,_,_,fs4 rfl ud rfl sd rfl Tr (RD _).symm hr3 rfl,ANO hP⟩,k9.mono λ_ _ _ h=>h.1,z9.gw⟩;simp[results,Tryz.results59,go_sem];exact F.gd e0
end
section
open Go Ma Go.RowKit Go.Lib Go.ChangeShapes Go.WideShapes
theorem nW(w:World)(k:Nat)(os:Array Obj)(S:Nat->Nat->Prop):BD w (Go.Sort.grow (w.drewN k) os) S:=by
 refine⟨by simp[Go.Sort.grow],λb x h=>⟨x,?_,.refl _ x⟩,rfl,rfl,rfl⟩;show(w.heap++os)[b]? = some x;have hb:=(Array.getElem?_eq_some_iff.1 h).1;rw[Array.getElem?_append_left hb];exact h
section
variable{ρ:Operand->Value}{d:Option Tmp}{x y:Operand}{ty t t':TypeId}{pos:String}{af:Array Edge}{w:World}{b o:Nat}
theorem aB{s u:ByteArray}(h:ρ x= .string s)(hy:ρ y= .string u)(hl:s.size+u.size<=9223372036854775807):(execOp ρ ⟨d,.binOp .add 9 x y t',ty,pos,af,none⟩).run Tryz.prog w= .ok (.value (.string (s++u))) w:=by
 simp[execOp,go_sem,h,hy,hl]
end
theorem qf{a s:ByteArray}(ha:a.size<=100)(hs:s.size<=21):a.size+s.size<=9223372036854775807:=by omega
structure StP (GC:Nat->Nat->Option Value) (w:World) (e:Ending) (w':World):Prop where
 ret:∃s:ByteArray,e= .returned (.string s)/\s.size<=21
 an:BD w w' (λ_ _=>False)
 gw:GW GC w'
structure EpP (GC:Nat->Nat->Option Value) (w:World) (e:Ending) (w':World):Prop where
 ret:∃t x,e= .returned (.tuple #[.pointer none,.iface t x])
 an:BD w w' (λ_ _=>False)
 gw:GW GC w'
section
variable{GB:Nat}{GC:Nat->Nat->Option Value}{ad:Nat->Nat×Nat}(hG:GI GB GC ad){w:World}(ε:GW GC w)(δ:GB<=w.heap.size)
include hG ε δ
theorem Sr {n:Int} (h0: -9223372036854775808<=n) (h1:n<=9223372036854775807) (θ:Lib.TabIs Tryz.prog w "internal/strconv.uint64pow10" .u64 Lib.pow10Tab):Calls Tryz.prog 44 #[.int .i64 n] w (StP GC w):=by
 refine(Tryz.strconv_Itoa n h0 h1 w θ).mono λe w' h=>?_
 obtain⟨he,k,os,rfl⟩:=h;exact⟨⟨_,he,by have:=Lib.itoa_length_le n h0 h1;simpa[ByteArray.size] using this⟩,nW _ _ _ _,F4 hG ε (nW _ _ _ _) δ⟩
set_option maxRecDepth 100000 in
theorem AN2 {pv:Value} {p:Option Addr} {n c:Nat} (hn:((n:Int) != 32)=true) (hb:(n:Int)<=4294967295) (θ:Lib.TabIs Tryz.prog w "internal/strconv.uint64pow10" .u64 Lib.pow10Tab):Calls Tryz.prog 29 #[pv,.slice p n c] w (EpP GC w):=by
 refine enter (args:=[pv,.slice p n c]) Tryz.func29 rfl (n:=35) rfl λa F=>?_
 refine AP (Aj F rfl λa F=>Aj F rfl λa F=>AJ ?_);refine wp_seq (AP (AA F rfl λa F=>AZ F rfl (OE (p:=p) (m:=n) (c:=c) (F.ev (t:=9) rfl)) λa F=>AB F rfl λa F=>AJ ?_));refine AP (AA F rfl λa F=>AZ F rfl (Qd (i:=n) (j:=32) F.e rfl) λa F=>AJ ?_);refine wp_cond (t:=true) (F.ev (CV Value.bool hn)) ?_;refine AP (AA F rfl λa F=>EG F rfl (BJ rfl F.e Tryz.call44) (Sr hG ε δ (by omega) (by omega) θ) λe w1 h1=>?_);obtain⟨s,he,hs⟩:=h1.ret;refine⟨_,he,λa F=>AZ F rfl (aB rfl F.e (qf (Kv rfl) hs)) λa F=>?_⟩;refine EG F rfl (BJ rfl F.e Tryz.call43) (Mi hG h1.gw (EX δ h1.an.1) _) λe w2 h2=>?_
 obtain⟨t,v,he⟩:=h2.ret;refine⟨_,he,λa F=>Aj F rfl λa F=>AB F rfl λa F=>AJ ?_⟩;refine Cn ⟨F.df,.tuple #[.pointer none,.iface t v],?_,⟨t,v,rfl⟩,h1.an.trans h2.an,h2.gw⟩;simp[results,Tryz.results29,go_sem];exact⟨F.gd rfl,F.gd rfl⟩
set_option maxRecDepth 100000 in
theorem AL0 {p:Option Addr} {n c:Nat} (hn:((n:Int) != 32)=true) (hb:(n:Int)<=4294967295) (θ:Lib.TabIs Tryz.prog w "internal/strconv.uint64pow10" .u64 Lib.pow10Tab):Calls Tryz.prog 12 #[.slice p n c] w (EpP GC w):=by
 refine enter (args:=[.slice p n c]) Tryz.func12 rfl (n:=12) rfl λa F=>?_
 refine AP (Aj F rfl λa F=>Aj F rfl λa F=>AJ ?_);refine AP (AZ F rfl AFA λa F=>AZ F rfl (yH F.e) λa F=>AB F rfl λa F=>AJ ?_);have f1:BD w (w.alloc (.cells (AL kPU pu0).toArray 64)) (λ_ _=>False):=BC _ _ _;have b1:=DT w (.cells (AL kPU pu0).toArray 64);generalize w.alloc (.cells (AL kPU pu0).toArray 64)=w1 at f1 b1 ⊢;refine AP (AA F rfl λa F=>AA F rfl λa F=>EG F rfl (Bg rfl F.e F.e Tryz.call29) (AN2 hG (F4 hG ε f1 δ) (EX δ f1.1) hn hb (eZ θ b1)) λe w2 h2=>?_);obtain⟨t,v,he⟩:=h2.ret;refine⟨_,he,λa F=>AZ F rfl (Ik F.e) λa F=>AZ F rfl (FZ F.e) λa F=>AB F rfl λa F=>AB F rfl λa F=>AJ ?_⟩;refine Cn ⟨F.df,.tuple #[.pointer none,.iface t v],?_,⟨t,v,rfl⟩,f1.trans h2.an,h2.gw⟩;simp[results,Tryz.results12,go_sem];exact⟨F.gd rfl,F.gd rfl⟩
set_option maxRecDepth 100000 in
theorem AMO {pv mv sp sc:Value} {p:Option Addr} {n c:Nat} (hn:((n:Int) != 64)=true) (hb:(n:Int)<=4294967295) (θ:Lib.TabIs Tryz.prog w "internal/strconv.uint64pow10" .u64 Lib.pow10Tab):Calls Tryz.prog 45 #[pv,mv,.slice p n c,sp,sc] w (ErP GC w):=by
 refine enter (args:=[pv,mv,.slice p n c,sp,sc]) Tryz.func45 rfl (n:=105) rfl λa F=>?_
 refine AP (Aj F rfl λa F=>AJ ?_);refine wp_seq (AP (AA F rfl λa F=>AZ F rfl (OE (p:=p) (m:=n) (c:=c) (F.ev (t:=19) rfl)) λa F=>AB F rfl λa F=>AJ ?_));refine AP (AA F rfl λa F=>AZ F rfl (Qd (i:=n) (j:=64) F.e rfl) λa F=>AJ ?_);refine wp_cond (t:=true) (F.ev (CV Value.bool hn)) ?_;refine AP (AA F rfl λa F=>EG F rfl (BJ rfl F.e Tryz.call44) (Sr hG ε δ (by omega) (by omega) θ) λe w1 h1=>?_);obtain⟨s,he,hs⟩:=h1.ret;refine⟨_,he,λa F=>AZ F rfl (aB rfl F.e (qf (Kv rfl) hs)) λa F=>?_⟩;refine EG F rfl (BJ rfl F.e Tryz.call43) (Mi hG h1.gw (EX δ h1.an.1) _) λe w2 h2=>?_
 obtain⟨t,v,he⟩:=h2.ret;refine⟨_,he,λa F=>AB F rfl λa F=>AJ ?_⟩;refine Cn ⟨F.df,.iface t v,?_,⟨t,v,rfl⟩,h1.an.trans h2.an,h2.gw⟩;simp[results,Tryz.results45,go_sem];exact F.gd rfl
end
end
section
open Go Ma Go.RowKit Go.Lib
section
variable{GB:Nat}{GC:Nat->Nat->Option Value}{ad:Nat->Nat×Nat}(hG:GI GB GC ad)
include hG
set_option maxRecDepth 100000 in
theorem ALh{a:Act}{w:World}{f:Nat->Value}{bs os cs:Nat}{sg:List Int}(F:Fr a 105 f)(ε:GW GC w)(δ:GB<=w.heap.size)(hS:DD w 5 0 bO)(e2:f 2= .slice (some ⟨bs,os,none⟩) 64 cs)(hx:DD w bs os sg)(hl:sg.length=64)(cS:64<=cs):
  (Uk 19 (Ab Tryz.f45)).wp Tryz.prog (λe a' w'=>e= .normal/\∃f',Fr a' 105 f'/\(∀t,t ∈ [0,1,2,10,14]->f' t=f t)/\((Cm (sg.drop 32)<Vu/\f' 15= .nilIface/\∃p s,f' 16=pa p/\AO true w' p U4 s/\Qu s (Cm (sg.drop 32)))\/(¬Cm (sg.drop 32)<Vu/\∃t x,f' 15= .iface t x))/\BD w w' (λ_ _=>False)/\GW GC w') a w:=by
 refine PS (N:=9) mixed (by kernel_rfl) ?_;have fd:=Lr w (λ_ _=>False);generalize ({ w with drawn:=w.drawn+1 }:World)=w1 at fd ⊢;refine OI (i:=1) (t:=78) (v:=f 2) rfl F rfl rfl rfl (by kernel_rfl) (λc a w h=>by cases h.1) (λw=>by simp only[execOp,F.ev (t:=2) rfl];rfl) λa F=>?_
 refine OI (i:=2) (t:=79) rfl F rfl rfl rfl (by kernel_rfl) (λc a w h=>by cases h.1) (λw=>AJ2 (k:=32) (F.ev e2) rfl (by omega) cS (by omega)) λa F=>?_
 have Th:bs<w.heap.size:=hx.lt (by omega);have nF:=hx.cr fd;have hd:(sg.drop 32).length=32:=by rw[VK,hl]
 have RT:DD w1 bs (os+32) (sg.drop 32):=by
  have:=nF.sub (i:=32) (k:=32) (by omega);rwa [NO (by omega)] at this
 have gw1:=F4 hG ε fd δ;refine FM (i:=0) (by kernel_rfl) (Ho (by kernel_rfl) rfl (LF F rfl rfl (LG rfl Tryz.call56) (zZ hG gw1 (EX δ fd.1)) λe w2 h2=>?_));obtain⟨B,o,he,hB,hM⟩:=h2.ret;refine⟨_,he,λa F=>?_⟩;have f2:=fd.trans h2.an;have cX:=fd.1;refine FM (i:=3) (by kernel_rfl) (Ho (by kernel_rfl) rfl (LF (t:=80) F rfl rfl (Bg rfl (F.ev (t:=77) rfl) (F.ev (t:=79) rfl) Tryz.call58) (AFO hG h2.gw (EX δ f2.1) (hS.cr f2) hM (by omega) (RT.cr h2.an) hd (by omega) (by omega)) λe w3 h3=>?_));have f3:BD w w3 (λ_ _=>False):=f2.trans' h3.an λb' i vn (h:b'=B)=>by omega
 rcases h3.ex with⟨bj,he,s,ms,hs⟩|⟨bj,t,x,he⟩
 ·refine⟨_,he,λa F=>?_⟩;refine FM (i:=4) (by kernel_rfl) (Ho (by kernel_rfl) rfl (iX F rfl λa F=>?_));refine OI (i:=5) rfl F rfl rfl rfl (by kernel_rfl) (λc a w h=>by cases h.1) (λw=>Ik (F.ev (t:=76) rfl)) λa F=>?_
  refine OI (i:=6) rfl F rfl rfl rfl (by kernel_rfl) (λc a w h=>by cases h.1) (λw=>FZ (F.ev (t:=76) rfl)) λa F=>?_
  refine FM (i:=7) (by kernel_rfl) (Ho (by kernel_rfl) rfl (OW F rfl rfl (by simp only[execOp,F.ev (t:=81) rfl];rfl) λa F=>?_));refine FM (i:=8) (by kernel_rfl) (Ho (by kernel_rfl) rfl (OW F rfl rfl (by simp only[execOp,F.ev (t:=82) rfl];rfl) λa F=>?_));exact wpAny_done (by kernel_rfl) ⟨rfl,_,F,λt ht=>by
   simp only[G9,List.not_mem_nil,or_false] at ht;rcases ht with rfl|rfl|rfl|rfl|rfl<;>rfl,.inl ⟨bj,rfl,(B,o),s,rfl,ms,hs⟩,f3,h3.gw⟩ 0
 ·refine⟨_,he,λa F=>?_⟩;refine FM (i:=4) (by kernel_rfl) (Ho (by kernel_rfl) rfl (iX F rfl λa F=>?_));refine OI (i:=5) rfl F rfl rfl rfl (by kernel_rfl) (λc a w h=>by cases h.1) (λw=>Ik (F.ev (t:=76) rfl)) λa F=>?_
  refine OI (i:=6) rfl F rfl rfl rfl (by kernel_rfl) (λc a w h=>by cases h.1) (λw=>FZ (F.ev (t:=76) rfl)) λa F=>?_
  refine FM (i:=7) (by kernel_rfl) (Ho (by kernel_rfl) rfl (OW F rfl rfl (by simp only[execOp,F.ev (t:=81) rfl];rfl) λa F=>?_));refine FM (i:=8) (by kernel_rfl) (Ho (by kernel_rfl) rfl (OW F rfl rfl (by simp only[execOp,F.ev (t:=82) rfl];rfl) λa F=>?_));exact wpAny_done (by kernel_rfl) ⟨rfl,_,F,λt ht=>by
   simp only[G9,List.not_mem_nil,or_false] at ht;rcases ht with rfl|rfl|rfl|rfl|rfl<;>rfl,.inr ⟨bj,t,x,rfl⟩,f3,h3.gw⟩ 0
set_option maxRecDepth 100000 in
theorem AOb{a:Act}{w:World}{f:Nat->Value}{bs os cs bp op:Nat}{sg m:List Int}{Q:Pt}(F:Fr a 105 f)(ε:GW GC w)(δ:GB<=w.heap.size)(e2:f 2= .slice (some ⟨bs,os,none⟩) 64 cs)(hx:DD w bs os sg)(hl:sg.length=64)(cS:64<=cs)(e18:f 18= .pointer (some ⟨bp,op,none⟩))(mp:AO true w (bp,op) (List.replicate 20 .u64) m)(hQ:R3 Q m):
  (Uk 24 (Ab Tryz.f45)).wp Tryz.prog (λe a' w'=>e= .normal/\∃f',Fr a' 105 f'/\f' 103= .bool (!decide (sg.take 32=S9 Q))/\BD w w' (λ_ _=>False)/\GW GC w') a w:=by
 refine PS (N:=6) mixed (by kernel_rfl) ?_;have fd:=Lr w (λ_ _=>False);generalize ({ w with drawn:=w.drawn+1 }:World)=w1 at fd ⊢;refine OI (i:=0) (t:=98) (v:=f 2) rfl F rfl rfl rfl (by kernel_rfl) (λc a w h=>by cases h.1) (λw=>by simp only[execOp,F.ev (t:=2) rfl];rfl) λa F=>?_
 refine OI (i:=1) (t:=99) rfl F rfl rfl rfl (by kernel_rfl) (λc a w h=>by cases h.1) (λw=>gL (k:=32) (F.ev e2) rfl (by omega)) λa F=>?_
 refine FM (i:=2) (by kernel_rfl) (Ho (by kernel_rfl) rfl (iX F rfl λa F=>?_));have gw1:=F4 hG ε fd δ;refine FM (i:=3) (by kernel_rfl) (Ho (by kernel_rfl) rfl (LF F rfl rfl (BJ rfl (F.ev (t:=100) e18) Tryz.call62) (ALk hG gw1 (EX δ fd.1) (mp.fn fd).ro hQ) λe w2 h2=>?_));obtain⟨B,o,he,hB,hM⟩:=h2.ret;rw[show pbF m=S9 Q from AJk Ec hQ] at hM;refine⟨_,he,λa F=>?_⟩;have f2:=fd.trans h2.an;have hb:DD w2 B o (S9 Q):=⟨hM.jz,λi hi=>(hM.at8 (by rw[hM.len8] at hi;exact hi)).1.1⟩;have RT:DD w2 bs os (sg.take 32):=by
  have:=(hx.cr f2).sub (i:=0) (k:=32) (by omega);exact this
 refine FM (i:=4) (by kernel_rfl) (Ho (by kernel_rfl) rfl (LF F rfl rfl (Bg rfl (F.ev (t:=99) rfl) (F.ev (t:=101) rfl) Tryz.call61) (AGu RT hb (by rw[Qw,hl];rfl) hM.len8) λe w3 h3=>?_));obtain⟨he,rfl⟩:=h3;refine⟨_,he,λa F=>?_⟩;refine FM (i:=5) (by kernel_rfl) (Ho (by kernel_rfl) rfl (OW F rfl rfl (x9 F.e) λa F=>?_));exact wpAny_done (by kernel_rfl) ⟨rfl,_,F,rfl,f2,h2.gw⟩ 0
end
end
end Go.Proofs.YtkbfdaoohhmgoaaGreatDoor
