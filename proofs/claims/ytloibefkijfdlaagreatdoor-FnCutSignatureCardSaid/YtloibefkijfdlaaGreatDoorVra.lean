/- Field operations called by hand. -/
import Derived.Test.YtloibefkijfdlaaGreatDoorLhx
import Derived.Test.YtloibefkijfdlaaGreatDoorVqa
namespace Go.Proofs.YtloibefkijfdlaaGreatDoor
section
open Go Ma Go.RowKit Go.Lib
theorem ANk{T:Tb}(h:lk 111 T=some (.one DJ)){l:List Int}(hb:cM l)(hl:l.length=32)(v:List Int):LM T 111 [v,l]/\Ho (Lh (Ct l%57896044618658097711785492504343953926634992332820282019728792003956564819968)) (gv T 111 0 [v,l]):=by
 match l,hl,hb with
 | [b0,b1,b2,b3,b4,b5,b6,b7,b8,b9,Ξ,Ψ,υ,τ,b14,b15,b16,b17,Ω,ψ,b20,b21,b22,b23,Δ,Γ,Θ,b27,b28,b29,b30,χ],_,hb=>
  refine⟨Cf h trivial,?_⟩;rw[BQ h,ACC];show Ho _ (BK 5 (DL.raw DK 0 [v,[b0,b1,b2,b3,b4,b5,b6,b7,b8,b9,Ξ,Ψ,υ,τ,b14,b15,b16,b17,Ω,ψ,b20,b21,b22,b23,Δ,Γ,Θ,b27,b28,b29,b30,χ]]));rw[ALJ];obtain⟨h1,h2⟩:=AKZ hb;rw[Bn h1.1];exact⟨h1,by rw[h2]⟩
abbrev pa (p:Nat×Nat):Value:=.pointer (some ⟨p.1,p.2,none⟩)
def Sp(p q:Nat×Nat):Prop:=p=q\/ZQ p q 5 5
theorem Sp.ne{p q:Nat×Nat}(h:p.1≠q.1):Sp p q:=.inr (.inl h)
theorem Nc{p q:Nat×Nat}{wr wr':Bool}(h:Sp p q):Rz (.mem (List.replicate 5 .u64) 96 wr) (.mem (List.replicate 5 .u64) 96 wr') p q:=λ_=>match h with
 | .inl h=>.inl ⟨rfl,by decide,h,rfl⟩
 | .inr h=>.inr h
theorem AQ.Cp{f:Bool}{w:World}{b:Nat×Nat}{ks:List IntKind}{xs:List Int}(h:AQ f w b ks xs):AQ false w b ks xs:=⟨h.1,λi k x hk hx=>⟨(h.2 i k x hk hx).1,λe=>by cases e⟩⟩
structure G4 (GC:Nat->Nat->Option Value) (q:List Int->Prop) (p:Nat×Nat) (v:Value) (w:World) (e:Ending) (w':World):Prop where
 ret:e= .returned v
 mem:∃l,AQ true w' p (List.replicate 5 .u64) l/\q l
 an:BM w w' (λb i=>b=p.1/\p.2<=i/\i<p.2+5)
 gw:GW GC w'
structure FnP (GC:Nat->Nat->Option Value) (q:List Int->Prop) (w:World) (e:Ending) (w':World):Prop where
 ret:∃p l,e= .returned (pa p)/\w.heap.size<=p.1/\AQ true w' p (List.replicate 5 .u64) l/\q l
 an:BM w w' (λ_ _=>False)
 gw:GW GC w'
section
variable{GB:Nat}{GC:Nat->Nat->Option Value}{ad:Nat->Nat×Nat}(hG:Gw GB GC ad){w:World}(ε:GW GC w)(δ:GB<=w.heap.size)
include hG ε δ
theorem QY{f:Nat}{p:Nat×Nat}{s:BH}{G:PF}{R:List Pw}{v:Value}{args:List Value}{ins:List (List Int)}{bs:List (Nat×Nat)}{q:List Int->Prop}(fS:Ck Tryz.prog GB GC f (.one s))(hP:KH GB w s.params args ins bs)(hS:Fv s.params bs)(ij:bs.getD 0 (0,0)=p)(ξ:s.outs= [(0,List.replicate 5 .u64,G)])(zv:s.ret=R)(hv:∀(fb:List (Nat×Nat)) vs,pg ins args fb R vs->PZ vs=v)(DB:s.pr 0= .l G)(hk:LM [(f,.one s)] f ins/\q (gv [(f,.one s)] f 0 ins)):
  Calls Tryz.prog f args.toArray w (G4 GC q p v w):=by
 have _:=hG;refine(fS true args ins bs w ε δ hP hS (λ_=>Nz hk.1) rfl).mono λe w' ⟨fb,vs,he,hq⟩=>?_
 simp only[FE.ca] at hq;have hr:=hq.ret;rw[zv] at hr;have hm:=hq.outs;rw[ξ] at hm;have ta:=hm _ Kh;have Tr:=hk.2;rw[BQ EL,DB] at Tr;refine⟨?_,⟨G ins,?_,Tr⟩,hq.an.mono λb i _ hS=>?_,hq.gw⟩
 ·rw[he,hv fb vs hr]
 ·rw[<- ij];exact ta
 ·obtain⟨p',eN,e1,e2,e3⟩:=hS;rw[ξ,NB] at eN;subst eN;rw[ij] at e1 e2 e3;exact⟨e1,e2,e3⟩
omit hG ε δ in
theorem jG{ins:List (List Int)}{v0:Value}{tl:List Value}:∀(fb:List (Nat×Nat)) vs,pg ins (v0::tl) fb [.cy 0] vs->PZ vs=v0:=λfb vs hr=>by
 match vs,hr with
 | [a],hr=>
  have h1:some v0=some a:=hr.1;rw[<- XW h1];rfl
omit hG ε δ in
theorem AOc{ins:List (List Int)}{v0:Value}{tl:List Value}:∀(fb:List (Nat×Nat)) vs,pg ins (v0::tl) fb [.cy 0,.eg] vs->PZ vs= .tuple #[v0,.nilIface]:=λfb vs hr=>by
 match vs,hr with
 | [a,b],hr=>
  have h1:some v0=some a:=hr.1;have h2:b= .nilIface:=hr.2.1;rw[<- XW h1,h2];rfl
omit hG ε δ in
theorem AOJ{ins:List (List Int)}{v0:Value}{tl:List Value}{g:PI}{n:Int}(hn:g ins=n):∀(fb:List (Nat×Nat)) vs,pg ins (v0::tl) fb [.cy 0,.int .i64 g] vs->PZ vs= .tuple #[v0,.int .i64 n]:=λfb vs hr=>by
 match vs,hr with
 | [a,b],hr=>
  have h1:some v0=some a:=hr.1;have h2:b= .int .i64 (g ins):=hr.2.1.1;rw[<- XW h1,h2,hn];rfl
variable{p q r:Nat×Nat}{x0 a b:List Int}{x y:Fp}(m0:AQ true w p (List.replicate 5 .u64) x0)(h0:GB<=p.1)
include m0 h0
theorem AHG:Calls Tryz.prog 122 #[pa p] w (G4 GC (Ho 1) p (pa p) w):=
 QY (bs:=[p]) (ins:=[x0]) (args:=[pa p]) hG ε δ (FR hG) ⟨⟨rfl,m0,λ_=>h0⟩,trivial⟩ pM rfl rfl rfl jG rfl (by
  have h:=Yw EL [x0];rw[Rb] at h;exact h)
variable{f1 f2:Bool}(ma:AQ f1 w q (List.replicate 5 .u64) a)(ha:Ho x a)(sa:Sp p q)
include ma ha sa
theorem Xo:Calls Tryz.prog 121 #[pa p,pa q] w (G4 GC (Ho x) p (pa p) w):=
 QY (bs:=[p,q]) (ins:=[x0,a]) (args:=[pa p,pa q]) hG ε δ (G9 hG) ⟨⟨rfl,m0,λ_=>h0⟩,⟨rfl,ma.Cp,λh=>by cases h⟩,trivial⟩ (YB (Nc sa)) rfl rfl rfl jG rfl (Ym EL _ _ _ ha)
theorem eF:Calls Tryz.prog 119 #[pa p,pa q] w (G4 GC (Ho (0-x)) p (pa p) w):=
 QY (bs:=[p,q]) (ins:=[x0,a]) (args:=[pa p,pa q]) hG ε δ (EP hG) ⟨⟨rfl,m0,λ_=>h0⟩,⟨rfl,ma.Cp,λh=>by cases h⟩,trivial⟩ (YB (Nc sa)) rfl rfl rfl jG rfl (WR EL _ _ _ ha)
theorem ALO:Calls Tryz.prog 112 #[pa p,pa q] w (G4 GC (Ho (x*x)) p (pa p) w):=
 QY (bs:=[p,q]) (ins:=[x0,a]) (args:=[pa p,pa q]) hG ε δ (DV hG) ⟨⟨rfl,m0,λ_=>h0⟩,⟨rfl,ma.Cp,λh=>by cases h⟩,trivial⟩ (YB (Nc sa)) rfl rfl rfl jG rfl (XC EL _ _ _ ha)
variable(mb:AQ f2 w r (List.replicate 5 .u64) b)(hb:Ho y b)(sb:Sp p r)(sc:Sp q r)
include mb hb sb sc
theorem AEu:Calls Tryz.prog 117 #[pa p,pa q,pa r] w (G4 GC (Ho (x+y)) p (pa p) w):=
 QY (bs:=[p,q,r]) (ins:=[x0,a,b]) (args:=[pa p,pa q,pa r]) hG ε δ (Cs hG) ⟨⟨rfl,m0,λ_=>h0⟩,⟨rfl,ma.Cp,λh=>by cases h⟩,⟨rfl,mb.Cp,λh=>by cases h⟩,trivial⟩ (jq (Nc sa) (Nc sb) (Nc sc)) rfl rfl rfl jG rfl (Qb EL _ _ _ _ _ ha hb)
theorem AFk:Calls Tryz.prog 113 #[pa p,pa q,pa r] w (G4 GC (Ho (x-y)) p (pa p) w):=
 QY (bs:=[p,q,r]) (ins:=[x0,a,b]) (args:=[pa p,pa q,pa r]) hG ε δ (Bg hG) ⟨⟨rfl,m0,λ_=>h0⟩,⟨rfl,ma.Cp,λh=>by cases h⟩,⟨rfl,mb.Cp,λh=>by cases h⟩,trivial⟩ (jq (Nc sa) (Nc sb) (Nc sc)) rfl rfl rfl jG rfl (Qh EL _ _ _ _ _ ha hb)
theorem vX:Calls Tryz.prog 115 #[pa p,pa q,pa r] w (G4 GC (Ho (x*y)) p (pa p) w):=
 QY (bs:=[p,q,r]) (ins:=[x0,a,b]) (args:=[pa p,pa q,pa r]) hG ε δ (Ap hG) ⟨⟨rfl,m0,λ_=>h0⟩,⟨rfl,ma.Cp,λh=>by cases h⟩,⟨rfl,mb.Cp,λh=>by cases h⟩,trivial⟩ (jq (Nc sa) (Nc sb) (Nc sc)) rfl rfl rfl jG rfl (KO EL _ _ _ _ _ ha hb)
theorem AF2{c:Bool}{v:Value}(hc:v= .int .i64 (bif c then 1 else 0)):Calls Tryz.prog 120 #[pa p,pa q,pa r,v] w (G4 GC (Ho (bif c then x else y)) p (pa p) w):=
 QY (bs:=[p,q,r,(0,0)]) (ins:=[x0,a,b,[bif c then 1 else 0]]) (args:=[pa p,pa q,pa r,v]) hG ε δ (Dq hG) ⟨⟨rfl,m0,λ_=>h0⟩,⟨rfl,ma.Cp,λh=>by cases h⟩,⟨rfl,mb.Cp,λh=>by cases h⟩,⟨_,rfl,hc,by cases c<;>exact⟨by decide,by decide⟩⟩,trivial⟩ ⟨λx hx=>by
  have eV:x ∈ [(GD.mem (List.replicate 5 .u64) 96 false,q),(.mem (List.replicate 5 .u64) 96 false,r),(.int .i64,(0,0))]:=hx;simp only[IR,List.not_mem_nil,or_false] at eV;rcases eV with rfl|rfl|rfl
  ·exact Nc sa
  ·exact Nc sb
  ·exact trivial,⟨λx hx=>by
   have eV:x ∈ [(GD.mem (List.replicate 5 .u64) 96 false,r),(.int .i64,(0,0))]:=hx;simp only[IR,List.not_mem_nil,or_false] at eV;rcases eV with rfl|rfl
   ·exact Nc sc
   ·exact trivial,⟨λx hx=>by
    have eV:x ∈ [(GD.int .i64,((0,0):Nat×Nat))]:=hx;simp only[IR,List.not_mem_nil,or_false] at eV;subst eV;exact trivial,⟨λx hx=>(by cases hx),trivial⟩⟩⟩⟩ rfl rfl rfl jG rfl (UD EL _ _ _ _ _ _ ha hb)
omit ma ha sa mb hb sb sc m0 h0 in
theorem ADa{f:Nat}{s:BH}{G:PF}{Q:List Int->Prop}(fS:Ck Tryz.prog GB GC f (.one s))(hP:s.params= [])(ξ:s.outs= [])(AH:s.fresh= [(List.replicate 5 .u64,G)])(zv:s.ret= [.i7 0])(DB:s.pr 0= .l G)(hk:LM [(f,.one s)] f []/\Q (gv [(f,.one s)] f 0 [])):Calls Tryz.prog f #[] w (FnP GC Q w):=by
 have _:=hG;have h:=fS true [] [] [] w ε δ (by show KH GB w s.params [] [] [];rw[hP];trivial) (by show Fv s.params [];rw[hP];trivial) (λ_=>Nz hk.1) rfl;refine h.mono λe w' ⟨fb,vs,he,hq⟩=>?_
 simp only[FE.ca] at hq;have hr:=hq.ret;rw[zv] at hr
 match vs,hr with
 | [v],hr=>
 obtain⟨b,hb,hv⟩:=hr.1;subst hv;have hf:=hq.fresh;rw[AH] at hf;have hm:=hf 0 (List.replicate 5 .u64,G) b rfl hb;have h2:=hk.2;rw[BQ EL,DB] at h2;refine⟨⟨b,_,he,hq.fr b (Le hb),hm,h2⟩,hq.an.mono λb' o' _ hs=>?_,hq.gw⟩;obtain⟨p,eN,_⟩:=hs;rw[ξ] at eN;cases eN
omit ma ha sa mb hb sb sc m0 h0 in
theorem kV:Calls Tryz.prog 114 #[] w (FnP GC (Ho 1) w):=ADa hG ε δ (KR hG) rfl rfl rfl rfl rfl (by
 have h:=Yq EL [];rw[Rb] at h;exact h)
omit ma ha sa mb hb sb sc m0 h0 in
theorem AJN:Calls Tryz.prog 116 #[] w (FnP GC (Ho dE) w):=ADa hG ε δ (JY hG) rfl rfl rfl rfl rfl (by
 have h:=AI8 EL [];rw[APN] at h;exact h)
omit ma ha sa mb hb sb sc in
theorem AB2{b o c:Nat}{l:List Int}(hl:l.length=32)(hx:C8 w b o l)(hc:32<=c)(cq:b≠p.1):Calls Tryz.prog 111 #[pa p,.slice (some ⟨b,o,none⟩) 32 c] w (G4 GC (Ho (Lh (Ct l%57896044618658097711785492504343953926634992332820282019728792003956564819968))) p (.tuple #[pa p,.nilIface]) w):=
 QY (bs:=[p,(b,o)]) (ins:=[x0,l]) (args:=[pa p,.slice (some ⟨b,o,none⟩) 32 c]) hG ε δ (Gn hG) ⟨⟨rfl,m0,λ_=>h0⟩,hx.pm hl hc,trivial⟩ (YB λ_=>.inr (.inl (Ne.symm cq))) rfl rfl rfl AOc rfl (ANk EL hx.1 hl _)
theorem AGJ:Calls Tryz.prog 118 #[pa p,pa q,pa r] w (G4 GC (Ho ((SI (nK (.v 0) (.v 1))).ev (FX.v2 x y))) p (.tuple #[pa p,.int .i64 (bif (Zj (.v 0) (.v 1)).bv (FX.v2 x y) then 1 else 0)]) w):=
 have h:=nO EL x0 a b x y ha hb
 QY (bs:=[p,q,r]) (ins:=[x0,a,b]) (args:=[pa p,pa q,pa r]) hG ε δ (Ic hG) ⟨⟨rfl,m0,λ_=>h0⟩,⟨rfl,ma.Cp,λh=>by cases h⟩,⟨rfl,mb.Cp,λh=>by cases h⟩,trivial⟩ (jq (Nc sa) (Nc sb) (Nc sc)) rfl rfl rfl (AOJ (g:=λa=>d1 (Cz.raw Cc 1 a)) (by
  have h2:=h.2.2;rw[BQ EL,rF] at h2;exact(List.cons.inj h2).1)) rfl ⟨h.1,h.2.1⟩
end
end
section
open Go Ma Go.RowKit Go.Lib
theorem ADx{l:List Int}(hl:l.length=32)(h:cM l):Ct (elB l)=Ct l%57896044618658097711785492504343953926634992332820282019728792003956564819968:=by
 rw[qL hl h];have e:l=l.take 31 ++ [l.getD 31 0]:=by
  have h1:=(List.take_append_drop 31 l).symm;have h2:l.drop 31= [l.getD 31 0]:=by
   rw[List.drop_eq_getElem_cons (by omega),List.drop_eq_nil_of_le (by omega)];simp[List.getD,hl]
  rw[h2] at h1;exact h1
 have ht:(l.take 31).length=31:=by rw[Rk,hl];rfl
 have h8:cM (l.take 31):=λx hx=>h x (List.mem_of_mem_take hx)
 have hb:=KV h8;rw[ht] at hb;have tg:0<=l.getD 31 0/\l.getD 31 0<=255:=h _ (by
  simp only[List.getD];rw[JC (by omega)];exact lY _)
 have e2:Ct l=Ct (l.take 31)+256^31*l.getD 31 0:=by
  conv=>lhs;rw[e]
  rw[QQ,ht];simp[Ct]
 rw[QQ,ht,e2];show Ct (l.take 31)+256^31*(l.getD 31 0%128+256*0)=_;have hp:(256:Int)^31=452312848583266388373324160190187140051835877600158453279131187530910662656:=by decide +kernel
 rw[hp] at hb ⊢;generalize Ct (l.take 31)=t at *
 generalize l.getD 31 0=u at *
 omega
section
variable{ρ:Operand->Value}{d:Option Tmp}{x y:Operand}{ty t t':TypeId}{pos:String}{af:Array Edge}{w:World}{b o:Nat}
theorem Zt:(execOp ρ ⟨d,.alloc 95,ty,pos,af,none⟩).run Tryz.prog w= .ok (.value (.pointer (some ⟨w.heap.size,0,none⟩))) (w.alloc (.cells (Array.replicate 5 (.int .u64 0)) 95)):=by
 simp[execOp,go_sem];rfl
theorem AJc(h:ρ x= .pointer (some ⟨b,o,none⟩)):(execOp ρ ⟨d,.fieldAddr 97 x 3,ty,pos,af,none⟩).run Tryz.prog w= .ok (.value (.pointer (some ⟨b,o+10,none⟩))) w:=by
 simp[execOp,go_sem,h]
theorem AM3(h:ρ x= .pointer (some ⟨b,o,none⟩)):(execOp ρ ⟨d,.fieldAddr 97 x 4,ty,pos,af,none⟩).run Tryz.prog w= .ok (.value (.pointer (some ⟨b,o+15,none⟩))) w:=by
 simp[execOp,go_sem,h]
theorem AMw{v:Int}(hx:ρ x= .int .u8 v)(hy:ρ y= .int .u64 7)(h0:0<=v)(h1:v<=255):(execOp ρ ⟨d,.binOp .shr 5 x y t',ty,pos,af,none⟩).run Tryz.prog w= .ok (.value (.int .u8 (bif decide (128<=v) then 1 else 0))) w:=by
 have e:v/128=bif decide (128<=v) then 1 else 0:=by
  by_cases h:128<=v
  ·rw[decide_eq_true h];show v/128=1;omega
  ·rw[decide_eq_false h];show v/128=0;omega
 simp[execOp,go_sem,hx,hy];exact e
theorem ALi{c:Bool}(h:ρ x= .int .u8 (bif c then 1 else 0)):(execOp ρ ⟨d,.convert 5 3 x,ty,pos,af,none⟩).run Tryz.prog w= .ok (.value (.int .i64 (bif c then 1 else 0))) w:=by
 cases c<;>simp[execOp,go_sem,h]<;>rfl
theorem AJ9{s:ByteArray}(h:ρ x= .string s):(execOp ρ ⟨d,.build 126 #[(0,x)],ty,pos,af,none⟩).run Tryz.prog w= .ok (.value (.agg #[.string s])) w:=by
 simp[execOp,go_sem,h]
theorem AIq{cs:Array Value}(h:ρ x= .agg cs):(execOp ρ ⟨d,.box 126 x,ty,pos,af,none⟩).run Tryz.prog w= .ok (.value (.pointer (some ⟨w.heap.size,0,none⟩))) (w.alloc (.cells cs 126)):=by
 simp[execOp,go_sem,h]
end
structure ErP (GC:Nat->Nat->Option Value) (w:World) (e:Ending) (w':World):Prop where
 ret:∃t x,e= .returned (.iface t x)
 an:BM w w' (λ_ _=>False)
 gw:GW GC w'
section
variable{GB:Nat}{GC:Nat->Nat->Option Value}{ad:Nat->Nat×Nat}(hG:Gw GB GC ad){w:World}(ε:GW GC w)(δ:GB<=w.heap.size)
include hG ε δ
set_option maxRecDepth 100000 in
theorem NU(s:ByteArray):Calls Tryz.prog 81 #[.string s] w (ErP GC w):=by
 refine enter (args:=[.string s]) Tryz.func81 rfl (n:=7) rfl λa F=>?_
 refine AO (AX F rfl λa F=>AJ ?_);refine AO (AA F rfl λa F=>AZ F rfl (AJ9 F.e) λa F=>AZ F rfl (AIq F.e) λa F=>?_);have f1:BM w (w.alloc (.cells #[.string s] 126)) (λ_ _=>False):=BI _ _ _;generalize w.alloc (.cells #[.string s] 126)=w1 at f1 ⊢;refine AZ F rfl (v:=.iface 124 (.pointer (some ⟨w.heap.size,0,none⟩))) (by simp only[execOp,F.ev (t:=5) rfl];rfl) λa F=>AB F rfl λa F=>AJ ?_
 refine DC ⟨F.df,.iface 124 (.pointer (some ⟨w.heap.size,0,none⟩)),?_,⟨_,_,rfl⟩,f1,Jk hG ε f1 δ⟩;have q:=F.tm 2;rw[Ti] at q;simp[results,Tryz.results81,go_sem];exact q
end
theorem AQ.fe{f:Bool}{w w':World}{b o b' o':Nat}{ks:List IntKind}{l:List Int}(m:AQ f w (b,o) ks l)(hf:BM w w' (λc i=>c=(b',o').1/\(b',o').2<=i/\i<(b',o').2+5))(hn:b≠b'):AQ f w' (b,o) ks l:=m.an hf λ_ _ h=>hn h.1
theorem AQ.fn{f:Bool}{w w':World}{p:Nat×Nat}{ks:List IntKind}{l:List Int}(m:AQ f w p ks l)(hf:BM w w' (λ_ _=>False)):AQ f w' p ks l:=m.an hf λ_ _ h=>h
theorem BM.fe{A B w':World}{b' o':Nat}{S:Nat->Nat->Prop}(h:BM A B S)(h':BM B w' (λc i=>c=(b',o').1/\(b',o').2<=i/\i<(b',o').2+5))(hb:A.heap.size<=b'):BM A w' S:=h.trans' h' λc i hc hs=>absurd hs.1 (by show c≠b';omega)
theorem BM.fn{A B w':World}{S:Nat->Nat->Prop}(h:BM A B S)(h':BM B w' (λ_ _=>False)):BM A w' S:=h.trans' h' λ_ _ _ hs=>hs.elim
end
section
open Go Ma Go.RowKit Go.Lib
theorem Fr.gd{a:Act}{n:Nat}{f:Nat->Value}(F:Fr a n f){t:Nat}{v:Value}(h:f t=v):a.tmps[t]?.getD undef=v:=by
 rw[<- Ti];exact(F.tm t).trans h
structure PsP (GC:Nat->Nat->Option Value) (bv:Nat) (l:List Int) (w:World) (e:Ending) (w':World):Prop where
 ex:(∃h:∃x,LB dE x (yB l),e= .returned (.tuple #[pp bv,.nilIface])/\∃m,AQ true w' (bv,0) (KU 20) m/\R3 (lX l h) m)\/((¬ ∃x,LB dE x (yB l))/\∃t v,e= .returned (.tuple #[.pointer none,.iface t v]))
 an:BM w w' (λb i=>b=bv/\i<20)
 gw:GW GC w'
theorem APs{f:Bool}{w:World}{b:Nat}{l0 l1 l2 l3:List Int}(h0:AQ f w (b,0) (KU 5) l0)(h1:AQ f w (b,5) (KU 5) l1)(h2:AQ f w (b,10) (KU 5) l2)(h3:AQ f w (b,15) (KU 5) l3):AQ f w (b,0) (KU 20) (l0++(l1++(l2++l3))):=
 AQ.join (ks:=KU 5) (js:=KU 15) h0 (AQ.join (o:=5) (ks:=KU 5) (js:=KU 10) h1 (AQ.join (o:=10) (ks:=KU 5) (js:=KU 5) h2 h3))
theorem ALr{x y X Y Z T:Fp}{m:List Int}(h:LB dE x y)(hX:X=0-x)(hY:Y=y)(hZ:Z=1)(hT:T=X*Y)(hm:Kl [X,Y,Z,T] m):R3 (Pt.neg ⟨x,y,h⟩) m:=by
 have hX:X= -x:=by rw[hX];grind
 subst hX;subst hY;exact ADA (Pt.neg ⟨x,Y,h⟩).h hZ hT hm
theorem AKE{x y X Y Z T:Fp}{m:List Int}(h:LB dE x y)(hX:X=x)(hY:Y=y)(hZ:Z=1)(hT:T=X*Y)(hm:Kl [X,Y,Z,T] m):R3 ⟨x,y,h⟩ m:=by
 subst hX;subst hY;exact ADA h hZ hT hm
theorem AG2{α:Type}{p:Prop}[Decidable p]{X a b:α}(h:X=bif decide p then a else b):(p->X=a)/\(¬p->X=b):=by
 constructor
 ·intro hp;rw[h,decide_eq_true hp];rfl
 ·intro hp;rw[h,decide_eq_false hp];rfl
theorem ANA{l:List Int}(h:∃x,LB dE x (yB l)){X Y Z T:Fp}{m:List Int}(hX:X=bif decide (128<=l.getD 31 0) then 0-xY (yB l) else xY (yB l))(hY:Y=yB l)(hZ:Z=1)(hT:T=X*Y)(hm:Kl [X,Y,Z,T] m):R3 (lX l h) m:=by
 obtain⟨h1,h2⟩:=AG2 hX;unfold lX;split
 ·rename_i hb;exact ALr (Q7 h) (h1 hb) hY hZ hT hm
 ·rename_i hb;exact AKE (Q7 h) (h2 hb) hY hZ hT hm
theorem AQ.fo{f:Bool}{w w':World}{b o o':Nat}{ks:List IntKind}{l:List Int}(m:AQ f w (b,o) ks l)(hf:BM w w' (λc i=>c=(b,o').1/\(b,o').2<=i/\i<(b,o').2+5))(hn:o'+5<=o\/o+ks.length<=o'):AQ f w' (b,o) ks l:=m.an hf λi hi h=>by
 have h1:o'<=o+i:=h.2.1;have h2:o+i<o'+5:=h.2.2;omega
theorem BM.wg{A B w':World}{bv o':Nat}(h:BM A B (λb i=>b=bv/\i<20))(h':BM B w' (λc i=>c=(bv,o').1/\(bv,o').2<=i/\i<(bv,o').2+5))(ho:o'+5<=20):BM A w' (λb i=>b=bv/\i<20):=h.trans' h' λc i _ hs=>⟨hs.1,by have h2:i<o'+5:=hs.2.2;omega⟩
theorem kM{y:Fp}:(Zj (.v 0) (.v 1)).bv (FX.v2 (y*y-1) (y*y*dE+1))=true↔∃x,LB dE x y:=by
 have h:=(VL (uY y) (vY y)).1;constructor
 ·intro h1;obtain⟨x,hx⟩:=h.1 h1;exact⟨x,OX.1 hx⟩
 ·rintro⟨x,hx⟩;exact h.2 ⟨x,OX.2 hx⟩
set_option maxRecDepth 100000 in
set_option maxHeartbeats 1000000 in
theorem ACT{GB:Nat}{GC:Nat->Nat->Option Value}{ad:Nat->Nat×Nat}(hG:Gw GB GC ad){w:World}(ε:GW GC w)(δ:GB<=w.heap.size){bv b o c:Nat}{x0 l:List Int}(m0:AQ true w (bv,0) (KU 20) x0)(mC:GB<=bv)(cf:bv<w.heap.size)(hl:l.length=32)(hx:C8 w b o l)(hc:32<=c):
  Calls Tryz.prog 96 #[pp bv,.slice (some ⟨b,o,none⟩) 32 c] w (PsP GC bv l w):=by
 have hlb:b<w.heap.size:=hx.lt (by omega);refine enter (args:=[pp bv,.slice (some ⟨b,o,none⟩) 32 c]) Tryz.func96 rfl (n:=81) rfl λa F=>?_
 refine AO (AX F rfl λa F=>AX F rfl λa F=>AJ ?_);refine AO (AZ F rfl Zt λa F=>?_);have M1:=Ey w 5 .u64 95 ⟨by decide,by decide⟩;have f1:BM w (w.alloc (.cells (Array.replicate 5 (.int .u64 0)) 95)) (λ_ _=>False):=BI _ _ _;have s1:=Gr w (.cells (Array.replicate 5 (.int .u64 0)) 95);generalize OS:w.heap.size=n1 at *
 generalize w.alloc (.cells (Array.replicate 5 (.int .u64 0)) 95)=w1 at M1 f1 s1 ⊢;refine AA F rfl λa F=>DI F rfl (Au rfl F.e F.e Tryz.call111) (AB2 (p:=(n1,0)) hG (Jk hG ε f1 (by omega)) (by omega) M1 (by show GB<=n1;omega) hl (hx.bc f1) hc (by show b≠n1;omega)) λe w2 h2=>⟨_,h2.ret,λa F=>?_⟩
 obtain⟨ly,my,hy⟩:=h2.mem;rw[<- ADx hl hx.1] at hy;have hy:Ho (yB l) ly:=hy;generalize hyv:yB l=y at hy;have f2:=f1.fe h2.an (by omega);have s2:=h2.an.1;refine AA F rfl λa F=>AZ F rfl (EZ F.e) λa F=>AZ F rfl (DW F.e) λa F=>AB F rfl λa F=>AB F rfl λa F=>AJ ?_
 refine wp_seq (wp_seq (cE (AA F rfl λa F=>AZ F rfl (Pm F.e rfl) λa F=>EM ?_)));refine wp_cond (t:=false) F.e (wp_skip ?_);obtain⟨f,F,e0,e1,e6⟩:∃f,Fr a 81 f/\f 0=pp bv/\f 1= .slice (some ⟨b,o,none⟩) 32 c/\f 6=pp n1:=⟨_,F,rfl,rfl,rfl⟩;refine AO (AZ F rfl Zt λa F=>?_);have M3:=Ey w2 5 .u64 95 ⟨by decide,by decide⟩;have g3:BM w2 (w2.alloc (.cells (Array.replicate 5 (.int .u64 0)) 95)) (λ_ _=>False):=BI _ _ _;have s3:=Gr w2 (.cells (Array.replicate 5 (.int .u64 0)) 95);generalize So:w2.heap.size=n2 at *
 generalize w2.alloc (.cells (Array.replicate 5 (.int .u64 0)) 95)=w3 at M3 g3 s3 ⊢;have f3:=f2.fn g3;refine AA F rfl λa F=>DI F rfl (Au rfl (F.ev (t:=23) rfl) (F.ev (t:=24) e6) Tryz.call112) (ALO (p:=(n2,0)) (q:=(n1,0)) hG (Jk hG ε f3 (by omega)) (by omega) M3 (by show GB<=n2;omega) (my.fn g3) hy (.ne (by show n2≠n1;omega))) λe w4 h4=>⟨_,h4.ret,λa F=>AB F rfl λa F=>AJ ?_⟩
 obtain⟨l2,m2,hy2⟩:=h4.mem;have f4:=f3.fe h4.an (by omega);have s4:=h4.an.1;have my4:=(my.fn g3).fe h4.an (by omega);obtain⟨f,F,e0,e1,e6,e8⟩:∃f,Fr a 81 f/\f 0=pp bv/\f 1= .slice (some ⟨b,o,none⟩) 32 c/\f 6=pp n1/\f 8=pp n2:=⟨_,F,e0,e1,e6,rfl⟩;refine AO (AZ F rfl Zt λa F=>?_);have M5:=Ey w4 5 .u64 95 ⟨by decide,by decide⟩;have g5:BM w4 (w4.alloc (.cells (Array.replicate 5 (.int .u64 0)) 95)) (λ_ _=>False):=BI _ _ _;have s5:=Gr w4 (.cells (Array.replicate 5 (.int .u64 0)) 95);generalize hn3:w4.heap.size=n3 at *
 generalize w4.alloc (.cells (Array.replicate 5 (.int .u64 0)) 95)=w5 at M5 g5 s5 ⊢;have f5:=f4.fn g5;refine AA F rfl λa F=>DI F rfl (LJ rfl Tryz.call114) (kV hG (Jk hG ε f5 (by omega)) (by omega)) λe w6 h6=>?_
 obtain⟨⟨bo,oo⟩,lo,he6,hbo,mo,ho⟩:=h6.ret;have hbo:w5.heap.size<=bo:=hbo;refine⟨_,he6,λa F=>?_⟩;have f6:=f5.fn h6.an;have s6:=h6.an.1;refine DI F rfl (Ea rfl (F.ev (t:=26) rfl) (F.ev (t:=27) e8) (F.ev (t:=28) rfl) Tryz.call113) (AFk (p:=(n3,0)) (q:=(n2,0)) (r:=(bo,oo)) hG h6.gw (by omega) (M5.fn h6.an) (by show GB<=n3;omega) ((m2.fn g5).fn h6.an) hy2 (.ne (by show n3≠n2;omega)) mo ho (.ne (by show n3≠bo;omega)) (.ne (by show n2≠bo;omega))) λe w7 h7=>⟨_,h7.ret,λa F=>AB F rfl λa F=>AJ ?_⟩
 obtain⟨lu,mu,hu⟩:=h7.mem;have f7:=f6.fe h7.an (by omega);have s7:=h7.an.1;have my7:=((my4.fn g5).fn h6.an).fe h7.an (by omega);have m27:=((m2.fn g5).fn h6.an).fe h7.an (by omega);clear M1 M3 M5;obtain⟨f,F,e0,e1,e6,e8,e9⟩:∃f,Fr a 81 f/\f 0=pp bv/\f 1= .slice (some ⟨b,o,none⟩) 32 c/\f 6=pp n1/\f 8=pp n2/\f 9=pp n3:=⟨_,F,e0,e1,e6,e8,rfl⟩;refine AO (AZ F rfl Zt λa F=>?_);have M8:=Ey w7 5 .u64 95 ⟨by decide,by decide⟩;have g8:BM w7 (w7.alloc (.cells (Array.replicate 5 (.int .u64 0)) 95)) (λ_ _=>False):=BI _ _ _;have s8:=Gr w7 (.cells (Array.replicate 5 (.int .u64 0)) 95);generalize hn4:w7.heap.size=n4 at *
 generalize w7.alloc (.cells (Array.replicate 5 (.int .u64 0)) 95)=w8 at M8 g8 s8 ⊢;have f8:=f7.fn g8;refine AA F rfl λa F=>DI F rfl (LJ rfl Tryz.call116) (AJN hG (Jk hG ε f8 (by omega)) (by omega)) λe w9 h9=>?_
 obtain⟨⟨bd,od⟩,ld,he9,LO,md,hd⟩:=h9.ret;have LO:w8.heap.size<=bd:=LO;refine⟨_,he9,λa F=>?_⟩;have f9:=f8.fn h9.an;have s9:=h9.an.1;refine DI F rfl (Ea rfl (F.ev (t:=30) rfl) (F.ev (t:=31) e8) (F.ev (t:=32) rfl) Tryz.call115) (vX (p:=(n4,0)) (q:=(n2,0)) (r:=(bd,od)) hG h9.gw (by omega) (M8.fn h9.an) (by show GB<=n4;omega) ((m27.fn g8).fn h9.an) hy2 (.ne (by show n4≠n2;omega)) md hd (.ne (by show n4≠bd;omega)) (.ne (by show n2≠bd;omega))) λe pZ lE=>⟨_,lE.ret,λa F=>AB F rfl λa F=>AJ ?_⟩
 obtain⟨lv,mv,hv⟩:=lE.mem;have f10:=f9.fe lE.an (by omega);have s10:=lE.an.1;have afn:=((my7.fn g8).fn h9.an).fe lE.an (by omega);have afN:=((mu.fn g8).fn h9.an).fe lE.an (by omega);obtain⟨f,F,e0,e1,e6,e9,jz⟩:∃f,Fr a 81 f/\f 0=pp bv/\f 1= .slice (some ⟨b,o,none⟩) 32 c/\f 6=pp n1/\f 9=pp n3/\f 10=pp n4:=⟨_,F,e0,e1,e6,e9,rfl⟩;refine AO (AA F rfl λa F=>AA F rfl λa F=>DI F rfl (LJ rfl Tryz.call114) (kV hG lE.gw (by omega)) λe w11 xF=>?_);obtain⟨⟨bq,oq⟩,lq,aec,hbq,mq,hq⟩:=xF.ret;have hbq:pZ.heap.size<=bq:=hbq;refine⟨_,aec,λa F=>?_⟩;have f11:=f10.fn xF.an;have s11:=xF.an.1;have asz:n4<pZ.heap.size:=by omega
 refine DI F rfl (Ea rfl (F.ev (t:=34) jz) (F.ev (t:=35) jz) (F.ev (t:=36) rfl) Tryz.call117) (AEu (p:=(n4,0)) (q:=(n4,0)) (r:=(bq,oq)) hG xF.gw (by omega) (mv.fn xF.an) (by show GB<=n4;omega) (mv.fn xF.an) hv (.inl rfl) mq hq (.ne (by show n4≠bq;omega)) (.ne (by show n4≠bq;omega))) λe yb wv=>⟨_,wv.ret,λa F=>AB F rfl λa F=>AJ ?_⟩
 obtain⟨lw,mw,hw⟩:=wv.mem;have f12:=f11.fe wv.an (by omega);have s12:=wv.an.1;have aee:=(afn.fn xF.an).fe wv.an (by omega);have aei:=(afN.fn xF.an).fe wv.an (by omega);obtain⟨f,F,e0,e1,e6,e9,jz⟩:∃f,Fr a 81 f/\f 0=pp bv/\f 1= .slice (some ⟨b,o,none⟩) 32 c/\f 6=pp n1/\f 9=pp n3/\f 10=pp n4:=⟨_,F,e0,e1,e6,e9,rfl⟩;refine AO (AZ F rfl Zt λa F=>?_);have M13:=Ey yb 5 .u64 95 ⟨by decide,by decide⟩;have g13:BM yb (yb.alloc (.cells (Array.replicate 5 (.int .u64 0)) 95)) (λ_ _=>False):=BI _ _ _;have s13:=Gr yb (.cells (Array.replicate 5 (.int .u64 0)) 95);generalize hn5:yb.heap.size=n5 at *
 generalize yb.alloc (.cells (Array.replicate 5 (.int .u64 0)) 95)=SO at M13 g13 s13 ⊢;have f13:=f12.fn g13;refine AA F rfl λa F=>AA F rfl λa F=>DI F rfl (Ea rfl (F.ev (t:=39) rfl) (F.ev (t:=40) e9) (F.ev (t:=41) jz) Tryz.call118) (AGJ (p:=(n5,0)) (q:=(n3,0)) (r:=(n4,0)) hG (Jk hG ε f13 (by omega)) (by omega) M13 (by show GB<=n5;omega) (aei.fn g13) hu (.ne (by show n5≠n3;omega)) (mw.fn g13) hw (.ne (by show n5≠n4;omega)) (.ne (by show n3≠n4;omega))) λe rm Ge=>⟨_,Ge.ret,λa F=>?_⟩
 obtain⟨lx,mx,hx5⟩:=Ge.mem;have f14:=f13.fe Ge.an (by omega);have s14:=Ge.an.1;have afq:=(aee.fn g13).fe Ge.an (by omega);generalize hbt:(Zj (.v 0) (.v 1)).bv (FX.v2 (y*y-1) (y*y*dE+1))=bt at *
 refine AA F rfl λa F=>AZ F rfl (EZ F.e) λa F=>AZ F rfl (DW F.e) λa F=>AB F rfl λa F=>AB F rfl λa F=>AJ ?_
 obtain⟨f,Fn,e0,e1,e6,gj,hU⟩:∃f,Fr a 81 f/\f 0=pp bv/\f 1= .slice (some ⟨b,o,none⟩) 32 c/\f 6=pp n1/\f 11=pp n5/\f 12= .int .i64 (bif bt then 1 else 0):=⟨_,F,e0,e1,e6,rfl,rfl⟩;cases bt with
 | false=>
  have F:=Fn;have iz:¬ ∃x,LB dE x y:=λh=>by
   rw[kM.2 h] at hbt;cases hbt
  refine wp_seq (wp_seq (cE (AA F rfl λa F=>AZ F rfl (ACo (i:=0) (j:=0) (F.ev (t:=45) hU) rfl) λa F=>EM ?_)));refine wp_cond (t:=true) F.e ?_;refine AO (DI F rfl (Ar rfl rfl Tryz.call81) (NU hG (Jk hG ε f14 (by omega)) (by omega) _) λe w15 AG=>?_);obtain⟨t,v,he⟩:=AG.ret;refine⟨_,he,λa F=>AX F rfl λa F=>AB F rfl λa F=>AJ ?_⟩;refine DC ⟨F.df,.tuple #[.pointer none,.iface t v],?_,.inr ⟨hyv ▸ iz,t,v,rfl⟩,(f14.fn AG.an).mono λ_ _ _ h=>h.elim,AG.gw⟩;simp[results,Tryz.results96,go_sem];exact⟨F.gd rfl,F.gd rfl⟩
 | true=>
  have F:=Fn;have BE:∃x,LB dE x y:=kM.1 hbt;refine wp_seq (wp_seq (cE (AA F rfl λa F=>AZ F rfl (ACo (i:=1) (j:=0) (F.ev (t:=45) hU) rfl) λa F=>EM ?_)));refine wp_cond (t:=false) F.e (wp_skip ?_);refine AO (AZ F rfl Zt λa F=>?_);have M15:=Ey rm 5 .u64 95 ⟨by decide,by decide⟩;have g15:BM rm (rm.alloc (.cells (Array.replicate 5 (.int .u64 0)) 95)) (λ_ _=>False):=BI _ _ _;have s15:=Gr rm (.cells (Array.replicate 5 (.int .u64 0)) 95);generalize hn6:rm.heap.size=n6 at *
  generalize rm.alloc (.cells (Array.replicate 5 (.int .u64 0)) 95)=w15 at M15 g15 s15 ⊢;have f15:=f14.fn g15;refine AA F rfl λa F=>DI F rfl (Au rfl (F.ev (t:=48) rfl) (F.ev (t:=49) gj) Tryz.call119) (eF (p:=(n6,0)) (q:=(n5,0)) hG (Jk hG ε f15 (by omega)) (by omega) M15 (by show GB<=n6;omega) (mx.fn g15) hx5 (.ne (by show n6≠n5;omega))) λe w16 nc=>⟨_,nc.ret,λa F=>AB F rfl λa F=>AJ ?_⟩
  obtain⟨ln,mn,hn⟩:=nc.mem;have f16:=f15.fe nc.an (by omega);have s16:=nc.an.1;have aeG:=(afq.fn g15).fe nc.an (by omega);have adh:=(mx.fn g15).fe nc.an (by omega);obtain⟨f,F,e0,e1,e6,gj,μ⟩:∃f,Fr a 81 f/\f 0=pp bv/\f 1= .slice (some ⟨b,o,none⟩) 32 c/\f 6=pp n1/\f 11=pp n5/\f 13=pp n6:=⟨_,F,e0,e1,e6,gj,rfl⟩;have aeE:=hx.bc f16;have tg:0<=l.getD 31 0/\l.getD 31 0<=255:=hx.1 _ (by
   simp only[List.getD];rw[JC (by omega)];exact lY _)
  refine AO (AA F rfl λa F=>AA F rfl λa F=>AA F rfl λa F=>AA F rfl λa F=>AZ F rfl (uC (k:=31) (F.ev (t:=54) e1) rfl (by decide)) λa F=>AZ F rfl (tH F.e (aeE.2 31 (by omega))) λa F=>AZ F rfl (AMw F.e rfl tg.1 tg.2) λa F=>AZ F rfl (ALi F.e) λa F=>DI F rfl (QF rfl (F.ev (t:=51) gj) (F.ev (t:=52) μ) (F.ev (t:=53) gj) (F.ev (t:=58) rfl) Tryz.call120) (AF2 (p:=(n5,0)) (q:=(n6,0)) (r:=(n5,0)) hG nc.gw (by omega) adh (by show GB<=n5;omega) mn hn (.ne (by show n5≠n6;omega)) adh hx5 (.inl rfl) (.ne (by show n6≠n5;omega)) rfl) λe w17 DA=>⟨_,DA.ret,λa F=>AB F rfl λa F=>AJ ?_⟩);obtain⟨lz,mz,hz⟩:=DA.mem;have f17:=f16.fe DA.an (by omega);have s17:=DA.an.1;have ae9:=aeG.fe DA.an (by omega);have HX:=m0.fn f17;obtain⟨f,F,e0,e1,e6,gj⟩:∃f,Fr a 81 f/\f 0=pp bv/\f 1= .slice (some ⟨b,o,none⟩) 32 c/\f 6=pp n1/\f 11=pp n5:=⟨_,F,e0,e1,e6,rfl⟩;have K2:x0.length=20:=m0.1.1;have p0:AQ true w17 (bv,0) (KU 5) ((x0.drop 0).take 5):=HX.cut (by rw[Rk,Uj,K2];rfl) (by omega) QU;have p1:AQ true w17 (bv,5) (KU 5) ((x0.drop 5).take 5):=HX.cut (k:=5) (by rw[Rk,Uj,K2];rfl) (by omega) QU;have p2:AQ true w17 (bv,10) (KU 5) ((x0.drop 10).take 5):=HX.cut (k:=10) (by rw[Rk,Uj,K2];rfl) (by omega) QU;have p3:AQ true w17 (bv,15) (KU 5) ((x0.drop 15).take 5):=HX.cut (k:=15) (by rw[Rk,Uj,K2];rfl) (by omega) QU;have k17:BM w w17 (λb i=>b=bv/\i<20):=f17.mono λ_ _ _ h=>h.elim
  refine AO (AA F rfl λa F=>FI F e0 rfl λa F=>AZ F rfl (AF3 (F.ev (t:=61) rfl)) λa F=>AA F rfl λa F=>DI F rfl (Au rfl (F.ev (t:=62) rfl) (F.ev (t:=63) gj) Tryz.call121) (Xo (p:=(bv,0)) (q:=(n5,0)) hG DA.gw (by omega) p0 mC mz hz (.ne (by show bv≠n5;omega))) λe S8 vA=>⟨_,vA.ret,λa F=>AJ ?_⟩);obtain⟨r0,q0,z0⟩:=vA.mem;have k18:=k17.wg vA.an (by decide);have s18:=vA.an.1;have ads:=ae9.fe vA.an (by omega);have aek:=mz.fe vA.an (by omega);have p1':=p1.fo vA.an (by decide);have p2':=p2.fo vA.an (by decide);have p3':=p3.fo vA.an (by decide);obtain⟨f,F,e0,e6,gj⟩:∃f,Fr a 81 f/\f 0=pp bv/\f 6=pp n1/\f 11=pp n5:=⟨_,F,e0,e6,gj⟩;refine AO (AA F rfl λa F=>FI F e0 rfl λa F=>AZ F rfl (AFm (F.ev (t:=66) rfl)) λa F=>AA F rfl λa F=>DI F rfl (Au rfl (F.ev (t:=67) rfl) (F.ev (t:=68) e6) Tryz.call121) (Xo (p:=(bv,5)) (q:=(n1,0)) hG vA.gw (by omega) p1' mC ads hy (.ne (by show bv≠n1;omega))) λe w19 DM=>⟨_,DM.ret,λa F=>AJ ?_⟩);obtain⟨r1,q1,z1⟩:=DM.mem;have k19:=k18.wg DM.an (by decide);have s19:=DM.an.1;have afa:=ads.fe DM.an (by omega);have afg:=aek.fe DM.an (by omega);have q0':=q0.fo DM.an (by decide);have afy:=p2'.fo DM.an (by decide);have aeo:=p3'.fo DM.an (by decide);obtain⟨f,F,e0,e6,gj⟩:∃f,Fr a 81 f/\f 0=pp bv/\f 6=pp n1/\f 11=pp n5:=⟨_,F,e0,e6,gj⟩;refine AO (AA F rfl λa F=>FI F e0 rfl λa F=>AZ F rfl (AJc (F.ev (t:=71) rfl)) λa F=>DI F rfl (Ar rfl (F.ev (t:=72) rfl) Tryz.call122) (AHG (p:=(bv,10)) hG DM.gw (by omega) afy mC) λe w20 vu=>⟨_,vu.ret,λa F=>AJ ?_⟩);obtain⟨r2,q2,z2⟩:=vu.mem;have k20:=k19.wg vu.an (by decide);have s20:=vu.an.1;have aeH:=afa.fe vu.an (by omega);have ae0:=afg.fe vu.an (by omega);have aeY:=q0'.fo vu.an (by decide);have q1':=q1.fo vu.an (by decide);have p3x:=aeo.fo vu.an (by decide);obtain⟨f,F,e0,e6,gj⟩:∃f,Fr a 81 f/\f 0=pp bv/\f 6=pp n1/\f 11=pp n5:=⟨_,F,e0,e6,gj⟩;refine AO (AA F rfl λa F=>FI F e0 rfl λa F=>AZ F rfl (AM3 (F.ev (t:=75) rfl)) λa F=>AA F rfl λa F=>AA F rfl λa F=>DI F rfl (Ea rfl (F.ev (t:=76) rfl) (F.ev (t:=77) gj) (F.ev (t:=78) e6) Tryz.call115) (vX (p:=(bv,15)) (q:=(n5,0)) (r:=(n1,0)) hG vu.gw (by omega) p3x mC ae0 hz (.ne (by show bv≠n5;omega)) aeH hy (.ne (by show bv≠n1;omega)) (.ne (by show n5≠n1;omega))) λe w21 C4=>⟨_,C4.ret,λa F=>AJ ?_⟩);obtain⟨r3,q3,z3⟩:=C4.mem;have k21:=k20.wg C4.an (by decide);have q0x:=aeY.fo C4.an (by decide);have q1x:=q1'.fo C4.an (by decide);have q2x:=q2.fo C4.an (by decide);refine AO (AA F rfl λa F=>AB F rfl λa F=>AX F rfl λa F=>AJ ?_);subst hyv;refine DC ⟨F.df,.tuple #[pp bv,.nilIface],?_,.inl ⟨BE,rfl,_,APs q0x q1x q2x q3,ANA BE rfl rfl rfl rfl (fs4 rfl z0 rfl z1 rfl z2 (Rw _).symm z3 rfl)⟩,k21,C4.gw⟩;simp[results,Tryz.results96,go_sem];exact⟨F.gd e0,F.gd rfl⟩
end
section
open Go Ma Go.RowKit Go.Lib
def kPU:List IntKind:=KU 20++List.replicate 32 .u8
def pu0:List Int:=List.replicate 20 0++List.replicate 32 0
section
variable{ρ:Operand->Value}{d:Option Tmp}{x y:Operand}{ty t t':TypeId}{pos:String}{af:Array Edge}{w:World}{b o:Nat}
theorem ADX:(execOp ρ ⟨d,.build 99 #[],ty,pos,af,none⟩).run Tryz.prog w= .ok (.value (.agg (Aj kPU pu0).toArray)) w:=by
 simp[execOp,go_sem];rfl
theorem vU{cs:Array Value}(h:ρ x= .agg cs):(execOp ρ ⟨d,.box 99 x,ty,pos,af,none⟩).run Tryz.prog w= .ok (.value (.pointer (some ⟨w.heap.size,0,none⟩))) (w.alloc (.cells cs 99)):=by
 simp[execOp,go_sem,h]
theorem AO4(h:ρ x= .pointer (some ⟨b,o,none⟩)):(execOp ρ ⟨d,.fieldAddr 99 x 0,ty,pos,af,none⟩).run Tryz.prog w= .ok (.value (.pointer (some ⟨b,o,none⟩))) w:=by
 simp[execOp,go_sem,h]
theorem AQI(h:ρ x= .pointer (some ⟨b,o,none⟩)):(execOp ρ ⟨d,.fieldAddr 99 x 1,ty,pos,af,none⟩).run Tryz.prog w= .ok (.value (.pointer (some ⟨b,o+20,none⟩))) w:=by
 simp[execOp,go_sem,h]
end
theorem wE:∀l:List Int,v8 l=Aj (List.replicate l.length .u8) l
 | []=>rfl
 |x::l=>EH (Value.int .u8 x :: ·) (wE l)
structure NpP (GC:Nat->Nat->Option Value) (l:List Int) (w:World) (e:Ending) (w':World):Prop where
 ex:(∃h:∃x,LB dE x (yB l),∃B m,e= .returned (.tuple #[pp B,.nilIface])/\w.heap.size<=B/\AQ true w' (B,0) (KU 20) m/\R3 (lX l h) m/\AQ true w' (B,20) (List.replicate 32 .u8) l)\/((¬ ∃x,LB dE x (yB l))/\∃t v,e= .returned (.tuple #[.pointer none,.iface t v]))
 an:BM w w' (λ_ _=>False)
 gw:GW GC w'
structure NqP (GC:Nat->Nat->Option Value) (B:Nat) (l:List Int) (w:World) (e:Ending) (w':World):Prop where
 ex:(∃h:∃x,LB dE x (yB l),e= .returned (.tuple #[pp B,.nilIface])/\∃m,AQ true w' (B,0) (KU 20) m/\R3 (lX l h) m/\AQ true w' (B,20) (List.replicate 32 .u8) l)\/((¬ ∃x,LB dE x (yB l))/\∃t v,e= .returned (.tuple #[.pointer none,.iface t v]))
 an:BM w w' (λb _=>b=B)
 gw:GW GC w'
section
variable{GB:Nat}{GC:Nat->Nat->Option Value}{ad:Nat->Nat×Nat}(hG:Gw GB GC ad){w:World}(ε:GW GC w)(δ:GB<=w.heap.size)
include hG ε δ
set_option maxRecDepth 100000 in
set_option maxHeartbeats 1000000 in
theorem ALH{B b o c:Nat}{l x0 x1:List Int}(m0:AQ true w (B,0) (KU 20) x0)(m1:AQ true w (B,20) (List.replicate 32 .u8) x1)(hB:GB<=B)(hx:C8 w b o l)(hl:l.length=32)(hc:32<=c)(cq:b≠B):
  Calls Tryz.prog 75 #[pp B,.slice (some ⟨b,o,none⟩) 32 c] w (NqP GC B l w):=by
 have cf:B<w.heap.size:=m0.ltK (by decide);refine enter (args:=[pp B,.slice (some ⟨b,o,none⟩) 32 c]) Tryz.func75 rfl (n:=35) rfl λa F=>?_
 refine AO (AX F rfl λa F=>AX F rfl λa F=>AJ ?_);refine wp_seq (AO (AA F rfl λa F=>AZ F rfl (NL (p:=some ⟨b,o,none⟩) (m:=32) (c:=c) (F.ev (t:=9) rfl)) λa F=>AB F rfl λa F=>AJ ?_));refine AO (AA F rfl λa F=>AZ F rfl (OV (i:=32) (j:=32) F.e rfl) λa F=>AJ ?_);refine wp_cond (t:=false) F.e (wp_skip ?_);obtain⟨f,F,e0,e1⟩:∃f,Fr a 35 f/\f 0=pp B/\f 1= .slice (some ⟨b,o,none⟩) 32 c:=⟨_,F,rfl,rfl⟩;refine wp_seq (AO (AA F rfl λa F=>FI F e0 rfl λa F=>AZ F rfl (AO4 (F.ev (t:=19) rfl)) λa F=>AA F rfl λa F=>DI F rfl (Au rfl (F.ev (t:=20) rfl) (F.ev (t:=21) e1) Tryz.call96) (ACT hG ε δ m0 hB cf hl hx hc) λe w1 h1=>?_));have f1:BM w w1 (λb _=>b=B):=h1.an.mono λ_ _ _ h=>h.1
 rcases h1.ex with⟨BE,he,m,hm,hR⟩|⟨iz,t,v,he⟩
 ·refine⟨_,he,λa F=>AA F rfl λa F=>AZ F rfl (EZ F.e) λa F=>AZ F rfl (DW F.e) λa F=>AB F rfl λa F=>AB F rfl λa F=>AJ ?_⟩;refine AO (AA F rfl λa F=>AZ F rfl (Pm F.e rfl) λa F=>AJ ?_);refine wp_cond (t:=false) F.e (wp_skip ?_);have iS:=hx.ab8 f1 cq;obtain⟨f,F,e0,e1⟩:∃f,Fr a 35 f/\f 0=pp B/\f 1= .slice (some ⟨b,o,none⟩) 32 c:=⟨_,F,e0,e1⟩;have m11:=m1.an h1.an λ_ _ h=>absurd h.2 (by show ¬ 20+_<20;omega)
  refine AO (AA F rfl λa F=>FI F e0 rfl λa F=>AZ F rfl (AQI (F.ev (t:=29) rfl)) λa F=>AZ F rfl (jv (F.ev (t:=30) rfl)) λa F=>AA F rfl λa F=>AZ F rfl (AAf (ys:=l) (F.ev (t:=31) rfl) (F.ev (t:=32) e1) (by rw[hl];rfl) (λi hi=>by rw[Cu];exact iS.2 i hi) (λi hi=>m11.ex i (by rw[hl] at hi;simpa using hi))) λa F=>AJ ?_);have hv8:v8 l=Aj (List.replicate 32 .u8) l:=by rw[<- hl];exact wE l
  have mm:=TB (xs:=l) (ks:=List.replicate 32 .u8) (hx.L4 hl).1 m11.ex;rw[<- hv8] at mm;have g2:BM w1 (w1.setCells B 20 (v8 l)) (λb i=>b=B/\20<=i):=EK _ _ (BM.refl _ _) λi _=>.inr ⟨rfl,Nat.le_add_right _ _⟩
  have f2:BM w (w1.setCells B (0+20) (v8 l)) (λb _=>b=B):=f1.trans' g2 λ_ _ _ h=>h.1
  have W6:AQ true (w1.setCells B (0+20) (v8 l)) (B,0) (KU 20) m:=hm.an g2 λi hi h=>by
   have h2:20<=0+i:=h.2;have h3:i<20:=hi;omega
  have gw2:GW GC (w1.setCells B (0+20) (v8 l)):=Ig hG ε (f2.mono λ_ _ _ h=>h) hB;generalize w1.setCells B (0+20) (v8 l)=w2 at mm g2 f2 W6 gw2 ⊢;refine AO (AA F rfl λa F=>AB F rfl λa F=>AX F rfl λa F=>AJ ?_);refine DC ⟨F.df,.tuple #[pp B,.nilIface],?_,.inl ⟨BE,rfl,m,W6,hR,mm⟩,f2,gw2⟩;simp[results,Tryz.results75,go_sem];exact⟨F.gd e0,F.gd rfl⟩
 ·refine⟨_,he,λa F=>AA F rfl λa F=>AZ F rfl (EZ F.e) λa F=>AZ F rfl (DW F.e) λa F=>AB F rfl λa F=>AB F rfl λa F=>AJ ?_⟩;refine AO (AA F rfl λa F=>AZ F rfl (YA F.e rfl) λa F=>AJ ?_);refine wp_cond (t:=true) F.e ?_;refine AO (DI F rfl (Ar rfl rfl Tryz.call81) (NU hG h1.gw (z8 δ f1.1) _) λe w2 h2=>?_);obtain⟨t,v,he⟩:=h2.ret;refine⟨_,he,λa F=>AX F rfl λa F=>AB F rfl λa F=>AJ ?_⟩;refine DC ⟨F.df,.tuple #[.pointer none,.iface t v],?_,.inr ⟨iz,t,v,rfl⟩,f1.fn h2.an,h2.gw⟩;simp[results,Tryz.results75,go_sem];exact⟨F.gd rfl,F.gd rfl⟩
set_option maxRecDepth 100000 in
theorem ALe{b o c:Nat}{l:List Int}(hx:C8 w b o l)(hl:l.length=32)(hc:32<=c):Calls Tryz.prog 50 #[.slice (some ⟨b,o,none⟩) 32 c] w (NpP GC l w):=by
 have hb:b<w.heap.size:=hx.lt (by omega);refine enter (args:=[.slice (some ⟨b,o,none⟩) 32 c]) Tryz.func50 rfl (n:=12) rfl λa F=>?_
 refine AO (AX F rfl λa F=>AX F rfl λa F=>AJ ?_);refine AO (AZ F rfl ADX λa F=>AZ F rfl (vU F.e) λa F=>AB F rfl λa F=>AJ ?_);have N1:=Lu w kPU pu0 99 (Ot (by decide));have f1:BM w (w.alloc (.cells (Aj kPU pu0).toArray 99)) (λ_ _=>False):=BI _ _ _;generalize w.alloc (.cells (Aj kPU pu0).toArray 99)=w1 at N1 f1 ⊢;obtain⟨ma,mb⟩:=AQ.app (ks:=KU 20) (js:=List.replicate 32 .u8) (xs:=List.replicate 20 0) (ys:=List.replicate 32 0) N1 rfl;refine AO (AA F rfl λa F=>AA F rfl λa F=>DI F rfl (Au rfl F.e F.e Tryz.call75) (ALH hG (Jk hG ε f1 δ) (z8 δ f1.1) ma mb δ (hx.bc f1) hl hc (by omega)) λe w2 h2=>?_);have f2:BM w w2 (λ_ _=>False):=f1.trans' h2.an λb' i xp (h:b'=w.heap.size)=>by omega
 rcases h2.ex with⟨BE,he,m,hm,hR,hm8⟩|⟨iz,t,v,he⟩
 ·refine⟨_,he,λa F=>AZ F rfl (EZ F.e) λa F=>AZ F rfl (DW F.e) λa F=>AB F rfl λa F=>AB F rfl λa F=>AJ ?_⟩;refine DC ⟨F.df,.tuple #[pp w.heap.size,.nilIface],?_,.inl ⟨BE,w.heap.size,m,rfl,KA _,hm,hR,hm8⟩,f2,h2.gw⟩;simp[results,Tryz.results50,go_sem];exact⟨F.gd rfl,F.gd rfl⟩
 ·refine⟨_,he,λa F=>AZ F rfl (EZ F.e) λa F=>AZ F rfl (DW F.e) λa F=>AB F rfl λa F=>AB F rfl λa F=>AJ ?_⟩;refine DC ⟨F.df,.tuple #[.pointer none,.iface t v],?_,.inr ⟨iz,t,v,rfl⟩,f2,h2.gw⟩;simp[results,Tryz.results50,go_sem];exact⟨F.gd rfl,F.gd rfl⟩
end
end
section
open Go Ma Go.RowKit Go.Lib
def R9:List Int:=[236,211,245,92,26,99,18,88,214,156,247,162,222,249,222,20,0,0,0,0,0,0,0,0,0,0,0,0,0,0,0,16]
def bw(x y c:Int):Int:=if x<y+c then 1 else 0
theorem AJJ{x y c:Int}:bw x y c=0\/bw x y c=1:=by
 unfold bw;split
 ·exact .inr rfl
 ·exact .inl rfl
theorem zZ{w0 w1 w2 w3:Int}(h0:0<=w0/\w0<18446744073709551616)(h1:0<=w1/\w1<18446744073709551616)(h2:0<=w2/\w2<18446744073709551616)(h3:0<=w3/\w3<18446744073709551616):(bw 1152921504606846976 w3 (bw 0 w2 (bw 1503914060200516822 w1 (bw 6346243789798364140 w0 0))) == 0)=decide (w0+18446744073709551616*(w1+18446744073709551616*(w2+18446744073709551616*w3))<Qm):=by
 unfold bw Qm;rw[Bool.eq_iff_iff,beq_iff_eq,decide_eq_true_eq];split<;>split<;>split<;>split<;>omega
theorem APa{l:List Int}(hl:l.length=32):Ct l=Ct ((l.drop 0).take 8)+18446744073709551616*(Ct ((l.drop 8).take 8)+18446744073709551616*(Ct ((l.drop 16).take 8)+18446744073709551616*Ct ((l.drop 24).take 8))):=by
 match l,hl with
 | [b0,b1,b2,b3,b4,b5,b6,b7,b8,b9,Ξ,Ψ,υ,τ,b14,b15,b16,b17,Ω,ψ,b20,b21,b22,b23,Δ,Γ,Θ,b27,b28,b29,b30,χ],_=>
  simp only[List.drop_succ_cons,zcw,List.take_succ_cons,zcx,Ct];omega
theorem uP{l:List Int}{k:Nat}(h:cM l)(hl:l.length=32)(hk:k+8<=32):0<=Ct ((l.drop k).take 8)/\Ct ((l.drop k).take 8)<18446744073709551616:=by
 have h8:cM ((l.drop k).take 8):=λx hx=>h x (LL (List.mem_of_mem_take hx))
 have hb:=KV h8;rw[Rk,Uj,hl,Nat.min_eq_left (by omega)] at hb;exact hb
section
variable{ρ:Operand->Value}{d:Option Tmp}{x y z:Operand}{ty t t':TypeId}{pos:String}{af:Array Edge}{w:World}{b o:Nat}
theorem AH8{kk kk':IntKind}{m c i j:Nat}(hx:ρ x= .slice (some ⟨b,o,none⟩) m c)(hy:ρ y= .int kk i)(hz:ρ z= .int kk' j)(h1:i<=j)(h2:j<=c)(h3:i<c):(execOp ρ ⟨d,.slice 22 x (some y) (some z) none,ty,pos,af,none⟩).run Tryz.prog w= .ok (.value (.slice (some ⟨b,o+i,none⟩) (j-i) (c-i))) w:=by
 have hu:=run_underlying (w:=w) Tryz.underlying22;have hb:∀code,(Instr.sliceBound (.int kk' j) c code).run Tryz.prog w= .ok j w:=λcode=>CW _ w h2 code
 have fx:∀code,(Instr.sliceBound (.int kk i) j code).run Tryz.prog w= .ok i w:=λcode=>CW _ w h1 code
 have cq:¬c=i:=by omega
 simp only[execOp,hx,hy,hz,UA,Option.map_none,Instr.sliceAt,Instr.slice,IY,hu,Hm];simp[Instr.sliceBounds,hb,fx,cq,Cu]
theorem AHQ{kk:IntKind}{m c k:Nat}(hx:ρ x= .slice (some ⟨b,o,none⟩) m c)(hy:ρ y= .int kk k)(h1:k<=m)(h2:m<=c)(h3:k<c):(execOp ρ ⟨d,.slice 22 x (some y) none none,ty,pos,af,none⟩).run Tryz.prog w= .ok (.value (.slice (some ⟨b,o+k,none⟩) (m-k) (c-k))) w:=by
 rw[tq hx hy h1 h2,if_neg (by omega)];simp[Cu]
theorem ART{kk:IntKind}{j:Nat}(hx:ρ x= .pointer (some ⟨b,o,none⟩))(hz:ρ z= .int kk j)(h2:j<=32):(execOp ρ ⟨d,.slice 48 x none (some z) none,ty,pos,af,none⟩).run Tryz.prog w= .ok (.value (.slice (some ⟨b,o,none⟩) j 32)) w:=by
 have hu:=run_underlying (w:=w) Tryz.underlying48;simp only[execOp,hx,hz,UA,Option.map_none,Instr.sliceAt,Instr.slice,IY,hu,Hm];simp[Instr.sliceBounds,Instr.sureAddr,go_sem];intro h;omega
theorem ANw{kk kk':IntKind}{i j:Nat}(hx:ρ x= .pointer (some ⟨b,o,none⟩))(hy:ρ y= .int kk i)(hz:ρ z= .int kk' j)(h1:i<=j)(h2:j<=32)(h3:i<32):(execOp ρ ⟨d,.slice 48 x (some y) (some z) none,ty,pos,af,none⟩).run Tryz.prog w= .ok (.value (.slice (some ⟨b,o+i,none⟩) (j-i) (32-i))) w:=by
 have hu:=run_underlying (w:=w) Tryz.underlying48;have cq:¬ 32=i:=by omega
 simp only[execOp,hx,hy,hz,UA,Option.map_none,Instr.sliceAt,Instr.slice,IY,hu,Hm];simp[Instr.sliceBounds,Instr.sureAddr,cq,Cu,go_sem];rw[if_pos (by omega),if_pos h1]
theorem ASP{kk:IntKind}{i:Nat}(hx:ρ x= .pointer (some ⟨b,o,none⟩))(hy:ρ y= .int kk i)(h3:i<32):(execOp ρ ⟨d,.slice 48 x (some y) none none,ty,pos,af,none⟩).run Tryz.prog w= .ok (.value (.slice (some ⟨b,o+i,none⟩) (32-i) (32-i))) w:=by
 have hu:=run_underlying (w:=w) Tryz.underlying48;have cq:¬ 32=i:=by omega
 simp only[execOp,hx,hy,UA,Option.map_none,Instr.sliceAt,Instr.slice,IY,hu,Hm];simp[Instr.sliceBounds,Instr.sureAddr,cq,Cu,go_sem];intro h;omega
theorem uj{i j k:Int}(hF:ρ (.func 171)= .func (.func 171) #[] #[])(hx:ρ x= .int .u64 i)(hy:ρ y= .int .u64 j)(hz:ρ z= .int .u64 k)(h1:0<=i)(h2:0<=j)(h3:k=0\/k=1)(h4:j<18446744073709551616){at_:Array TypeId}:(execOp ρ ⟨d,.call ⟨.value (.func 171),#[x,y,z],at_⟩,ty,pos,af,none⟩).run Tryz.prog w= .ok (.value (.tuple #[.int .u64 ((i+18446744073709551616-j-k)%18446744073709551616),.int .u64 (bw i j k)])) w:=by
 have h:=ABH i j k w h1 h2 h3 h4;simp[execOp,go_sem,hx,hy,hz,hF,h,bw]
end
set_option maxRecDepth 100000 in
set_option maxHeartbeats 1000000 in
theorem AF6{w:World}{b o c:Nat}{l:List Int}(hS:C8 w 5 0 R9)(hx:C8 w b o l)(hl:l.length=32)(hc:32<=c):Calls Tryz.prog 127 #[.slice (some ⟨b,o,none⟩) 32 c] w (λe w'=>e= .returned (.bool (decide (Ct l<Qm)))/\w=w'):=by
 have tE:∀k,k+8<=32->((l.drop k).take 8).length=8:=λk hk=>by
  rw[Rk,Uj,hl];omega
 have l0:=uP (k:=0) hx.1 hl (by decide);have l1:=uP (k:=8) hx.1 hl (by decide);have l2:=uP (k:=16) hx.1 hl (by decide);have l3:=uP (k:=24) hx.1 hl (by decide);have hv:=APa hl;have x0:=hx.sub (i:=0) (k:=8) (by omega);have x1:=hx.sub (i:=8) (k:=8) (by omega);have x2:=hx.sub (i:=16) (k:=8) (by omega);have x3:=hx.sub (i:=24) (k:=8) (by omega);have y0:=hS.sub (i:=0) (k:=8) (by decide);have y1:=hS.sub (i:=8) (k:=8) (by decide);have y2:=hS.sub (i:=16) (k:=8) (by decide);have y3:=hS.sub (i:=24) (k:=8) (by decide);have n0:=tE 0 (by decide);have n1:=tE 8 (by decide);have n2:=tE 16 (by decide);have n3:=tE 24 (by decide);clear tE hS hx hl;rw[hv];clear hv;generalize (l.drop 0).take 8=p0 at *
 generalize (l.drop 8).take 8=p1 at *
 generalize (l.drop 16).take 8=p2 at *
 generalize (l.drop 24).take 8=p3 at *
 have q0:Ct ((R9.drop 0).take 8)=6346243789798364140:=by decide +kernel
 have q1:Ct ((R9.drop 8).take 8)=1503914060200516822:=by decide +kernel
 have q2:Ct ((R9.drop 16).take 8)=0:=by decide +kernel
 have q3:Ct ((R9.drop 24).take 8)=1152921504606846976:=by decide +kernel
 refine enter (args:=[.slice (some ⟨b,o,none⟩) 32 c]) Tryz.func127 rfl (n:=65) rfl λa F=>?_
 refine AO (AX F rfl λa F=>AJ ?_);refine wp_seq (wp_seq (cE (AA F rfl λa F=>AZ F rfl (NL F.e) λa F=>AZ F rfl (OV (i:=32) (j:=32) F.e rfl) λa F=>EM ?_)));refine wp_cond (t:=false) F.e (wp_skip ?_);obtain⟨f,F,e0⟩:∃f,Fr a 65 f/\f 0= .slice (some ⟨b,o,none⟩) 32 c:=⟨_,F,rfl⟩;refine AO (AA F rfl λa F=>AZ F rfl (Yh (k:=8) (F.ev (t:=16) e0) rfl (by omega)) λa F=>DI F rfl (Ar rfl (F.ev (t:=17) rfl) Tryz.call170) (O0 x0 n0 (by omega)) λe w' h=>⟨_,h.1,λa F=>AB F rfl λa F=>AJ ?_⟩);obtain⟨-,rfl⟩:=h;obtain⟨f,F,e0,e3⟩:∃f,Fr a 65 f/\f 0= .slice (some ⟨b,o,none⟩) 32 c/\f 3= .int .u64 (Ct p0):=⟨_,F,e0,rfl⟩;refine AO (AA F rfl λa F=>AZ F rfl (AH8 (i:=8) (j:=16) (F.ev (t:=19) e0) rfl rfl (by omega) (by omega) (by omega)) λa F=>DI F rfl (Ar rfl (F.ev (t:=20) rfl) Tryz.call170) (O0 x1 n1 (by omega)) λe w' h=>⟨_,h.1,λa F=>AB F rfl λa F=>AJ ?_⟩);obtain⟨-,rfl⟩:=h;obtain⟨f,F,e0,e3,e4⟩:∃f,Fr a 65 f/\f 0= .slice (some ⟨b,o,none⟩) 32 c/\f 3= .int .u64 (Ct p0)/\f 4= .int .u64 (Ct p1):=⟨_,F,e0,e3,rfl⟩;refine AO (AA F rfl λa F=>AZ F rfl (AH8 (i:=16) (j:=24) (F.ev (t:=22) e0) rfl rfl (by omega) (by omega) (by omega)) λa F=>DI F rfl (Ar rfl (F.ev (t:=23) rfl) Tryz.call170) (O0 x2 n2 (by omega)) λe w' h=>⟨_,h.1,λa F=>AB F rfl λa F=>AJ ?_⟩);obtain⟨-,rfl⟩:=h;obtain⟨f,F,e0,e3,e4,e5⟩:∃f,Fr a 65 f/\f 0= .slice (some ⟨b,o,none⟩) 32 c/\f 3= .int .u64 (Ct p0)/\f 4= .int .u64 (Ct p1)/\f 5= .int .u64 (Ct p2):=⟨_,F,e0,e3,e4,rfl⟩;refine AO (AA F rfl λa F=>AZ F rfl (AHQ (k:=24) (F.ev (t:=25) e0) rfl (by omega) (by omega) (by omega)) λa F=>DI F rfl (Ar rfl (F.ev (t:=26) rfl) Tryz.call170) (O0 x3 n3 (by omega)) λe w' h=>⟨_,h.1,λa F=>AB F rfl λa F=>AJ ?_⟩);obtain⟨-,rfl⟩:=h;obtain⟨f,F,e3,e4,e5,e6⟩:∃f,Fr a 65 f/\f 3= .int .u64 (Ct p0)/\f 4= .int .u64 (Ct p1)/\f 5= .int .u64 (Ct p2)/\f 6= .int .u64 (Ct p3):=⟨_,F,e3,e4,e5,rfl⟩;refine AO (AZ F rfl (ART (b:=5) (o:=0) (j:=8) rfl rfl (by omega)) λa F=>DI F rfl (Ar rfl (F.ev (t:=28) rfl) Tryz.call170) (O0 y0 rfl (by omega)) λe w' h=>⟨_,h.1,λa F=>AB F rfl λa F=>AJ ?_⟩);obtain⟨-,rfl⟩:=h;obtain⟨f,F,e3,e4,e5,e6,e7⟩:∃f,Fr a 65 f/\f 3= .int .u64 (Ct p0)/\f 4= .int .u64 (Ct p1)/\f 5= .int .u64 (Ct p2)/\f 6= .int .u64 (Ct p3)/\f 7= .int .u64 6346243789798364140:=⟨_,F,e3,e4,e5,e6,EH (Value.int .u64) q0⟩;refine AO (AZ F rfl (ANw (b:=5) (o:=0) (i:=8) (j:=16) rfl rfl rfl (by omega) (by omega) (by omega)) λa F=>DI F rfl (Ar rfl (F.ev (t:=30) rfl) Tryz.call170) (O0 y1 rfl (by omega)) λe w' h=>⟨_,h.1,λa F=>AB F rfl λa F=>AJ ?_⟩);obtain⟨-,rfl⟩:=h;obtain⟨f,F,e3,e4,e5,e6,e7,e8⟩:∃f,Fr a 65 f/\f 3= .int .u64 (Ct p0)/\f 4= .int .u64 (Ct p1)/\f 5= .int .u64 (Ct p2)/\f 6= .int .u64 (Ct p3)/\f 7= .int .u64 6346243789798364140/\f 8= .int .u64 1503914060200516822:=⟨_,F,e3,e4,e5,e6,e7,EH (Value.int .u64) q1⟩;refine AO (AZ F rfl (ANw (b:=5) (o:=0) (i:=16) (j:=24) rfl rfl rfl (by omega) (by omega) (by omega)) λa F=>DI F rfl (Ar rfl (F.ev (t:=32) rfl) Tryz.call170) (O0 y2 rfl (by omega)) λe w' h=>⟨_,h.1,λa F=>AB F rfl λa F=>AJ ?_⟩);obtain⟨-,rfl⟩:=h;obtain⟨f,F,e3,e4,e5,e6,e7,e8,e9⟩:∃f,Fr a 65 f/\f 3= .int .u64 (Ct p0)/\f 4= .int .u64 (Ct p1)/\f 5= .int .u64 (Ct p2)/\f 6= .int .u64 (Ct p3)/\f 7= .int .u64 6346243789798364140/\f 8= .int .u64 1503914060200516822/\f 9= .int .u64 0:=⟨_,F,e3,e4,e5,e6,e7,e8,EH (Value.int .u64) q2⟩;refine AO (AZ F rfl (ASP (b:=5) (o:=0) (i:=24) rfl rfl (by omega)) λa F=>DI F rfl (Ar rfl (F.ev (t:=34) rfl) Tryz.call170) (O0 y3 rfl (by omega)) λe w' h=>⟨_,h.1,λa F=>AB F rfl λa F=>AJ ?_⟩);obtain⟨-,rfl⟩:=h;obtain⟨f,F,e3,e4,e5,e6,e7,e8,e9,jz⟩:∃f,Fr a 65 f/\f 3= .int .u64 (Ct p0)/\f 4= .int .u64 (Ct p1)/\f 5= .int .u64 (Ct p2)/\f 6= .int .u64 (Ct p3)/\f 7= .int .u64 6346243789798364140/\f 8= .int .u64 1503914060200516822/\f 9= .int .u64 0/\f 10= .int .u64 1152921504606846976:=⟨_,F,e3,e4,e5,e6,e7,e8,e9,EH (Value.int .u64) q3⟩;refine AO (AA F rfl λa F=>AA F rfl λa F=>AZ F rfl (uj rfl (F.ev (t:=37) e7) (F.ev (t:=38) e3) rfl (by decide) l0.1 (.inl rfl) l0.2) λa F=>AA F rfl λa F=>AZ F rfl (EZ F.e) λa F=>AZ F rfl (DW F.e) λa F=>AB F rfl λa F=>AB F rfl λa F=>AJ ?_);obtain⟨f,F,e4,e5,e6,e8,e9,jz,hU⟩:∃f,Fr a 65 f/\f 4= .int .u64 (Ct p1)/\f 5= .int .u64 (Ct p2)/\f 6= .int .u64 (Ct p3)/\f 8= .int .u64 1503914060200516822/\f 9= .int .u64 0/\f 10= .int .u64 1152921504606846976/\f 12= .int .u64 (bw 6346243789798364140 (Ct p0) 0):=⟨_,F,e4,e5,e6,e8,e9,jz,rfl⟩;refine AO (AA F rfl λa F=>AA F rfl λa F=>AA F rfl λa F=>AZ F rfl (uj rfl (F.ev (t:=43) e8) (F.ev (t:=44) e4) (F.ev (t:=45) hU) (by decide) l1.1 AJJ l1.2) λa F=>AA F rfl λa F=>AZ F rfl (EZ F.e) λa F=>AZ F rfl (DW F.e) λa F=>AB F rfl λa F=>AJ ?_);obtain⟨f,F,e5,e6,e9,jz,hU⟩:∃f,Fr a 65 f/\f 5= .int .u64 (Ct p2)/\f 6= .int .u64 (Ct p3)/\f 9= .int .u64 0/\f 10= .int .u64 1152921504606846976/\f 12= .int .u64 (bw 1503914060200516822 (Ct p1) (bw 6346243789798364140 (Ct p0) 0)):=⟨_,F,e5,e6,e9,jz,rfl⟩;refine AO (AA F rfl λa F=>AA F rfl λa F=>AA F rfl λa F=>AZ F rfl (uj rfl (F.ev (t:=50) e9) (F.ev (t:=51) e5) (F.ev (t:=52) hU) (by decide) l2.1 AJJ l2.2) λa F=>AA F rfl λa F=>AZ F rfl (EZ F.e) λa F=>AZ F rfl (DW F.e) λa F=>AB F rfl λa F=>AJ ?_);obtain⟨f,F,e6,jz,hU⟩:∃f,Fr a 65 f/\f 6= .int .u64 (Ct p3)/\f 10= .int .u64 1152921504606846976/\f 12= .int .u64 (bw 0 (Ct p2) (bw 1503914060200516822 (Ct p1) (bw 6346243789798364140 (Ct p0) 0))):=⟨_,F,e6,jz,rfl⟩;refine AO (AA F rfl λa F=>AA F rfl λa F=>AA F rfl λa F=>AZ F rfl (uj rfl (F.ev (t:=57) jz) (F.ev (t:=58) e6) (F.ev (t:=59) hU) (by decide) l3.1 AJJ l3.2) λa F=>AA F rfl λa F=>AZ F rfl (EZ F.e) λa F=>AZ F rfl (DW F.e) λa F=>AB F rfl λa F=>AJ ?_);obtain⟨f,F,hU⟩:∃f,Fr a 65 f/\f 12= .int .u64 (bw 1152921504606846976 (Ct p3) (bw 0 (Ct p2) (bw 1503914060200516822 (Ct p1) (bw 6346243789798364140 (Ct p0) 0)))):=⟨_,F,rfl⟩;refine AO (AA F rfl λa F=>AZ F rfl (ABq (F.ev (t:=63) hU) rfl) λa F=>AB F rfl λa F=>AJ ?_);refine DC ⟨F.df,.bool _,?_,EH (λb=>Ending.returned (.bool b)) (zZ l0 l1 l2 l3),rfl⟩;simp[results,Tryz.results127,go_sem];exact F.gd rfl
end
section
open Go Ma Go.RowKit Go.Lib
structure ScP (GC:Nat->Nat->Option Value) (q:List Int->Prop) (p:Nat×Nat) (v:Value) (w:World) (e:Ending) (w':World):Prop where
 ret:e= .returned v
 mem:∃l,AQ true w' p U4 l/\q l
 an:BM w w' (λb _=>b=p.1)
 gw:GW GC w'
theorem Ms(w:World)(S:Nat->Nat->Prop):BM w { w with drawn:=w.drawn+1 } S:=(BM.refl w S).of_heap (w':= { w with drawn:=w.drawn+1 }) rfl rfl rfl rfl
section
variable{ρ:Operand->Value}{d:Option Tmp}{x y:Operand}{ty t t':TypeId}{pos:String}{af:Array Edge}{w:World}{b o:Nat}
theorem AC1(h:ρ x= .pointer (some ⟨b,o,none⟩)):(execOp ρ ⟨d,.fieldAddr 82 x 0,ty,pos,af,none⟩).run Tryz.prog w= .ok (.value (.pointer (some ⟨b,o,none⟩))) w:=by
 simp[execOp,go_sem,h]
theorem AAE{c:Bool}(h:ρ x= .bool c):(execOp ρ ⟨d,.unOp .not t x,ty,pos,af,none⟩).run Tryz.prog w= .ok (.value (.bool (!c))) w:=by
 simp[execOp,go_sem,h]
theorem AO7{n c:Nat}(h:ρ x= .slice (some ⟨b,o,none⟩) n c)(hn:32<=n):(execOp ρ ⟨d,.sliceToArrayPointer 48 x,ty,pos,af,none⟩).run Tryz.prog w= .ok (.value (.pointer (some ⟨b,o,none⟩))) w:=by
 have hu:=run_underlying (w:=w) Tryz.underlying48;simp[execOp,h,Instr.arrayAt,hu];intro h;omega
end
theorem AH6{ins:List (List Int)}{args:List Value}{fb:List (Nat×Nat)}{vs:List Value}(h:pg ins args fb [] vs):vs= []:=by
 match vs,h with
 | [],_=>rfl
section
variable{GB:Nat}{GC:Nat->Nat->Option Value}{ad:Nat->Nat×Nat}(hG:Gw GB GC ad){w:World}(ε:GW GC w)(δ:GB<=w.heap.size)
include hG ε δ
theorem AF4{bs os bx ox:Nat}{x0 x:List Int}(ms:AQ true w (bs,os) U4 x0)(ij:GB<=bs)(mx:AQ false w (bx,ox) (List.replicate 32 .u8) x)(cq:bs≠bx):
  Calls Tryz.prog 128 #[.pointer (some ⟨bs,os,none⟩),.pointer (some ⟨bx,ox,none⟩)] w (ScP GC (λl=>u4 l/\v4 l=Ct x) (bs,os) (.tuple #[]) w):=by
 have h:=VZ hG ε δ (rv:=[]) (Es hG) rfl rfl rfl (b0:=(bs,os)) (b1:=(bx,ox)) (x0:=x0) (x1:=x) ⟨rfl,ms,λ_=>ij⟩ ⟨rfl,mx,λh=>(by cases h)⟩ (λ_=>.inr (.inl cq)) (Nz (wB EL x0 x mx.j9 mx.len8).1) (λfb vs h=>AH6 h);have q:=ADK (T:=[(128,.one BN)]) EL (v:=x0) mx.j9 mx.len8;have e:HR [(128,.one BN)] x0 x=BK 4 (BP.raw BO 0 [x0,x]):=by
  unfold HR;rw[BQ EL,ABz];rfl
 rw[e] at q;exact h.mono λe w' h=>⟨h.ret,⟨_,h.mem,q⟩,h.an,h.gw⟩
theorem AEY{bs os:Nat}{x:List Int}(ms:AQ true w (bs,os) U4 x)(ij:GB<=bs)(hx:u4 x):
  Calls Tryz.prog 129 #[.pointer (some ⟨bs,os,none⟩),.pointer (some ⟨bs,os,none⟩)] w (ScP GC (λl=>MO l (v4 x)) (bs,os) (.tuple #[]) w):=by
 have h:=VZ hG ε δ (rv:=[]) (ET hG) rfl rfl rfl (b0:=(bs,os)) (b1:=(bs,os)) (x0:=x) (x1:=x) ⟨rfl,ms,λ_=>ij⟩ ⟨rfl,ms.ro,λh=>(by cases h)⟩ (λ_=>.inl ⟨rfl,by decide,rfl,rfl⟩) (Nz (y8 EL x x hx).1) (λfb vs h=>AH6 h);have q:MO (gv [(129,.one CF)] 129 0 [x,x]) (v4 x):=yF EL Xh (mH hx);rw[BQ EL,Xh] at q;exact h.mono λe w' h=>⟨h.ret,⟨_,h.mem,q⟩,h.an,h.gw⟩
end
structure CbP (GC:Nat->Nat->Option Value) (p:Nat×Nat) (l:List Int) (w:World) (e:Ending) (w':World):Prop where
 ex:(Ct l<Qm/\e= .returned (.tuple #[pa p,.nilIface])/\∃s,AQ true w' p U4 s/\MO s (Ct l))\/(¬Ct l<Qm/\∃t v,e= .returned (.tuple #[.pointer none,.iface t v]))
 an:BM w w' (λb _=>b=p.1)
 gw:GW GC w'
set_option maxRecDepth 100000 in
set_option maxHeartbeats 1000000 in
theorem AAa{GB:Nat}{GC:Nat->Nat->Option Value}{ad:Nat->Nat×Nat}(hG:Gw GB GC ad){w:World}(ε:GW GC w)(δ:GB<=w.heap.size){bs os b o c:Nat}{x0 l:List Int}(hS:C8 w 5 0 R9)(ms:AQ true w (bs,os) U4 x0)(ij:GB<=bs)(hx:C8 w b o l)(hl:l.length=32)(hc:32<=c)(cq:bs≠b):
  Calls Tryz.prog 100 #[.pointer (some ⟨bs,os,none⟩),.slice (some ⟨b,o,none⟩) 32 c] w (CbP GC (bs,os) l w):=by
 refine enter (args:=[.pointer (some ⟨bs,os,none⟩),.slice (some ⟨b,o,none⟩) 32 c]) Tryz.func100 rfl (n:=28) rfl λa F=>?_
 refine AO (AX F rfl λa F=>AX F rfl λa F=>AJ ?_);refine wp_seq (wp_seq (cE (AA F rfl λa F=>AZ F rfl (NL F.e) λa F=>AZ F rfl (OV (i:=32) (j:=32) F.e rfl) λa F=>EM ?_)));refine wp_cond (t:=false) F.e (wp_skip ?_);refine wp_seq (AO (AA F rfl λa F=>DI F rfl (Ar rfl F.e Tryz.call127) (AF6 hS hx hl hc) λe w' h=>⟨_,h.1,λa F=>?_⟩));obtain⟨-,rfl⟩:=h;by_cases cf:Ct l<Qm
 ·rw[decide_eq_true cf] at F;refine AZ F rfl (AAE F.e) λa F=>AJ ?_
  refine wp_cond (t:=false) F.e (wp_skip ?_);obtain⟨f,F,e0,e1⟩:∃f,Fr a 28 f/\f 0= .pointer (some ⟨bs,os,none⟩)/\f 1= .slice (some ⟨b,o,none⟩) 32 c:=⟨_,F,rfl,rfl⟩;refine wp_seq (wp_region_still_tail 5 mixed (by kernel_rfl) ?_);have g1:=Ms w (λ_ _=>False);generalize ({ w with drawn:=w.drawn+1 }:World)=w1 at g1 ⊢;have ms1:=ms.fn g1;have CC:=Jk hG ε g1 δ;refine Ee F rfl λa F=>JQ F e0 rfl λa F=>CK F rfl rfl rfl (AC1 F.e) λa F=>Ee F rfl λa F=>CK F rfl rfl rfl (AO7 (F.ev (t:=17) e1) (by omega)) λa F=>?_
  refine DI F rfl (Au rfl (F.ev (t:=16) rfl) (F.ev (t:=18) rfl) Tryz.call128) (AF4 hG CC (z8 δ g1.1) ms1 ij ((hx.bc g1).L4 hl) cq) λe w2 h2=>⟨_,h2.ret,λa F=>AJ ?_⟩
  obtain⟨l2,m2,hu,hv⟩:=h2.mem;have g2:BM w w2 (λb _=>b=bs):=(g1.mono λ_ _ _ h=>h.elim).trans h2.an;obtain⟨f,F,e0⟩:∃f,Fr a 28 f/\f 0= .pointer (some ⟨bs,os,none⟩):=⟨_,F,e0⟩;refine wp_seq (wp_region_still_tail 6 mixed (by kernel_rfl) ?_);have g3':=Ms w2 (λ_ _=>False);have hw2:=h2.gw;generalize ({ w2 with drawn:=w2.drawn+1 }:World)=w3 at g3' ⊢;have g3:=g2.fn g3';have hw3:=Jk hG hw2 g3' (z8 δ g2.1);refine Ee F rfl λa F=>JQ F e0 rfl λa F=>CK F rfl rfl rfl (AC1 F.e) λa F=>Ee F rfl λa F=>JQ F e0 rfl λa F=>CK F rfl rfl rfl (AC1 F.e) λa F=>?_
  refine DI F rfl (Au rfl (F.ev (t:=22) rfl) (F.ev (t:=25) rfl) Tryz.call129) (AEY hG hw3 (z8 δ g3.1) (m2.fn g3') ij hu) λe w4 h4=>⟨_,h4.ret,λa F=>AJ ?_⟩
  obtain⟨l4,m4,hs⟩:=h4.mem;rw[hv] at hs;refine AO (AA F rfl λa F=>AB F rfl λa F=>AX F rfl λa F=>AJ ?_);refine DC ⟨F.df,.tuple #[.pointer (some ⟨bs,os,none⟩),.nilIface],?_,.inl ⟨cf,rfl,l4,m4,hs⟩,g3.trans h4.an,h4.gw⟩;simp[results,Tryz.results100,go_sem];exact⟨F.gd e0,F.gd rfl⟩
 ·rw[decide_eq_false cf] at F;refine AZ F rfl (AAE F.e) λa F=>AJ ?_
  refine wp_cond (t:=true) F.e ?_;refine AO (DI F rfl (Ar rfl rfl Tryz.call81) (NU hG ε δ _) λe w2 h2=>?_);obtain⟨t,v,he⟩:=h2.ret;refine⟨_,he,λa F=>AX F rfl λa F=>AB F rfl λa F=>AJ ?_⟩;refine DC ⟨F.df,.tuple #[.pointer none,.iface t v],?_,.inr ⟨cf,t,v,rfl⟩,h2.an.mono λ_ _ _ h=>h.elim,h2.gw⟩;simp[results,Tryz.results100,go_sem];exact⟨F.gd rfl,F.gd rfl⟩
end
section
open Go Ma Go.RowKit Go.Lib
section
variable{ρ:Operand->Value}{d:Option Tmp}{x y:Operand}{ty t t':TypeId}{pos:String}{af:Array Edge}{w:World}{b o:Nat}
theorem uJ{n c:Nat}{xs:List Int}(h:ρ x= .slice (some ⟨b,o,none⟩) n c)(hx:C8 w b o xs)(hl:xs.length=n):(execOp ρ ⟨d,.convert 22 9 x,ty,pos,af,none⟩).run Tryz.prog w= .ok (.value (.string ⟨(yJ xs).toArray⟩)) w:=by
 have q:=hx.str (c:=c) hl Tryz.underlying22 Tryz.underlying5 Tryz.underlying9;simp only[execOp,h,IY,q,Hm];rfl
theorem AHx{s u:ByteArray}(h:ρ x= .string s)(hy:ρ y= .string u):(execOp ρ ⟨d,.binOp .eql 9 x y t',ty,pos,af,none⟩).run Tryz.prog w= .ok (.value (.bool (s.toList == u.toList))) w:=by
 simp[execOp,go_sem,h,hy]
end
theorem jy(bs:ByteArray):∀(k i:Nat) (r:List UInt8),bs.size-i=k->ByteArray.toList.loop bs i r=r.reverse++bs.data.toList.drop i
 |0,i,r,h=>by
  have hl:bs.data.toList.length=bs.size:=Array.length_toList;rw[ByteArray.toList.loop,if_neg (by omega),List.drop_eq_nil_of_le (by omega),Rw]
 | k+1,i,r,h=>by
  have hl:bs.data.toList.length=bs.size:=Array.length_toList;have hi:i<bs.size:=by omega
  rw[ByteArray.toList.loop,if_pos hi,jy bs k (i+1) _ (by omega),List.drop_eq_getElem_cons (by omega:i<bs.data.toList.length),List.reverse_cons,bU];have e:bs.get! i=bs.data.toList[i]:=by
   show bs.data[i]! = _;rw[getElem!_pos bs.data i hi];exact(Array.getElem_toList _).symm
  rw[e];rfl
theorem AAt(bs:ByteArray):bs.toList=bs.data.toList:=by
 have h:=jy bs _ 0 [] rfl;rw[List.reverse_nil,yN,zcw] at h;exact h
theorem AFE{x y:List Int}(hx:∀v∈x,0<=v/\v<=255)(hy:∀v∈y,0<=v/\v<=255)(h:yJ x=yJ y):x=y:=by
 have hf:∀ {l:List Int},(∀v∈l,0<=v/\v<=255)->(yJ l).map (λb=>(b.toNat:Int))=l:=λ{l} hl=>by
  unfold yJ;rw[List.map_map]
  conv=>rhs;rw[<- List.map_id l]
  refine Zx λv hv=>?_
  have:=hl v hv;simp only[Function.comp_apply,UInt8.toNat_ofNat',id];omega
 rw[<- hf hx, <- hf hy,h]
theorem zL{x y:List Int}(hx:∀v∈x,0<=v/\v<=255)(hy:∀v∈y,0<=v/\v<=255):((⟨(yJ x).toArray⟩:ByteArray).toList == (⟨(yJ y).toArray⟩:ByteArray).toList)=decide (x=y):=by
 rw[AAt,AAt,Bool.eq_iff_iff,beq_iff_eq,decide_eq_true_eq];exact⟨λh=>AFE hx hy h,λh=>by rw[h]⟩
set_option maxRecDepth 100000 in
theorem AG9{w:World}{b1 o1 n1 c1 b2 o2 n2 c2:Nat}{xs ys:List Int}(h1:C8 w b1 o1 xs)(h2:C8 w b2 o2 ys)(l1:xs.length=n1)(l2:ys.length=n2):
  Calls Tryz.prog 103 #[.slice (some ⟨b1,o1,none⟩) n1 c1,.slice (some ⟨b2,o2,none⟩) n2 c2] w λe w'=>e= .returned (.bool (decide (xs=ys)))/\w=w':=by
 refine enter (args:=[.slice (some ⟨b1,o1,none⟩) n1 c1,.slice (some ⟨b2,o2,none⟩) n2 c2]) Tryz.func103 rfl (n:=10) rfl λa F=>?_
 refine AO (AX F rfl λa F=>AJ ?_);refine AO (AA F rfl λa F=>AZ F rfl (uJ F.e h1 l1) λa F=>AA F rfl λa F=>AZ F rfl (uJ F.e h2 l2) λa F=>AZ F rfl (AHx F.e F.e) λa F=>AB F rfl λa F=>AJ ?_);rw[zL h1.1 h2.1] at F;refine DC ⟨F.df,.bool (decide (xs=ys)),?_,rfl,rfl⟩;simp[results,Tryz.results103,go_sem];exact F.gd rfl
theorem AJz{X Y Z T:Fp}{P:Pt}(h:Ma.P3 X Y Z T P):Ma.P3 (0-X) Y Z (0-T) P.neg:=by
 obtain⟨h1,h2,h3,h4⟩:=h;have e1:P.neg.x= -P.x:=rfl;have e2:P.neg.y=P.y:=rfl;refine⟨h1,?_,?_,?_⟩
 ·rw[e1];grind
 ·rw[e2];grind
 ·grind
theorem Kl.four{X Y Z T:Fp}{l:List Int}(h:Kl [X,Y,Z,T] l):∃u0 u1 u2 u3,l=u0++(u1++(u2++u3))/\Ho X u0/\Ho Y u1/\Ho Z u2/\Ho T u3:=by
 obtain⟨u0,w0,rfl,q0,u1,w1,rfl,q1,u2,w2,rfl,q2,u3,w3,rfl,q3,hw⟩:=h;have hw:w3= []:=hw;subst hw;exact⟨u0,u1,u2,u3,by rw[Rw],q0,q1,q2,q3⟩
theorem AQ.four{f:Bool}{w:World}{b:Nat}{u0 u1 u2 u3:List Int}(h:AQ f w (b,0) (KU 20) (u0++(u1++(u2++u3))))(l0:u0.length=5)(l1:u1.length=5)(l2:u2.length=5):AQ f w (b,0) (KU 5) u0/\AQ f w (b,5) (KU 5) u1/\AQ f w (b,10) (KU 5) u2/\AQ f w (b,15) (KU 5) u3:=by
 obtain⟨a0,a⟩:=AQ.app (ks:=KU 5) (js:=KU 15) h l0.symm;obtain⟨a1,a⟩:=AQ.app (o:=0+5) (ks:=KU 5) (js:=KU 10) a l1.symm;obtain⟨a2,a3⟩:=AQ.app (o:=0+5+5) (ks:=KU 5) (js:=KU 5) a l2.symm;exact⟨a0,a1,a2,a3⟩
set_option maxRecDepth 100000 in
set_option maxHeartbeats 1000000 in
theorem AFb{GB:Nat}{GC:Nat->Nat->Option Value}{ad:Nat->Nat×Nat}(hG:Gw GB GC ad){w:World}(ε:GW GC w)(δ:GB<=w.heap.size){bv bp:Nat}{x0 xA:List Int}{A:Pt}(m0:AQ true w (bv,0) (KU 20) x0)(mC:GB<=bv)(mA:AQ true w (bp,0) (KU 20) xA)(hA:R3 A xA)(cq:bv≠bp):Calls Tryz.prog 101 #[pp bv,pp bp] w (yj GC .p3 A.neg bv (pp bv) w):=by
 have cf:bv<w.heap.size:=m0.ltK (by decide);have hlp:bp<w.heap.size:=mA.ltK (by decide);have hnz:=lK hA;obtain⟨X,Y,Z,T,hF,hP⟩:=hA;obtain⟨u0,u1,u2,u3,rfl,h0,h1,h2,h3⟩:=hF.four;refine enter (args:=[pp bv,pp bp]) Tryz.func101 rfl (n:=37) rfl λa F=>?_
 refine AO (AX F rfl λa F=>AJ ?_);refine AO (AA F rfl λa F=>AZ F rfl (AHW (b:=bp) (o:=0) F.e) λa F=>?_);have c1:(w.alloc (.cells #[pp bp] 121)).cell? ⟨w.heap.size,0,none⟩=some (pp bp):=lN _ _ _;have f1:BM w (w.alloc (.cells #[pp bp] 121)) (λ_ _=>False):=BI _ _ _;generalize w.alloc (.cells #[pp bp] 121)=w1 at c1 f1 ⊢;have Sh:=mA.fn f1;refine DI F rfl (Ar rfl F.e Tryz.call130) (rT c1 Sh hnz) λe w' h=>?_
 obtain⟨he,hw⟩:=h;subst hw;refine⟨_,he,λa F=>AJ ?_⟩;obtain⟨f,F,e0,e1⟩:∃f,Fr a 37 f/\f 0=pp bv/\f 1=pp bp:=⟨_,F,rfl,rfl⟩;obtain⟨a0,a1,a2,a3⟩:=Sh.four h0.1.1 h1.1.1 h2.1.1;have HX:=m0.fn f1;have K2:x0.length=20:=m0.1.1;have p0:AQ true w1 (bv,0) (KU 5) ((x0.drop 0).take 5):=HX.cut (by rw[Rk,Uj,K2];rfl) (by omega) QU;have p1:AQ true w1 (bv,5) (KU 5) ((x0.drop 5).take 5):=HX.cut (k:=5) (by rw[Rk,Uj,K2];rfl) (by omega) QU;have p2:AQ true w1 (bv,10) (KU 5) ((x0.drop 10).take 5):=HX.cut (k:=10) (by rw[Rk,Uj,K2];rfl) (by omega) QU;have p3:AQ true w1 (bv,15) (KU 5) ((x0.drop 15).take 5):=HX.cut (k:=15) (by rw[Rk,Uj,K2];rfl) (by omega) QU;have k1:BM w w1 (λb i=>b=bv/\i<20):=f1.mono λ_ _ _ h=>h.elim
 have Ys:=Jk hG ε f1 δ;have s1:=f1.1;clear HX K2 f1 c1 Sh;refine wp_seq (wp_region_still_tail 6 mixed (by kernel_rfl) ?_);have g2:=Ms w1 (λ_ _=>False);generalize ({ w1 with drawn:=w1.drawn+1 }:World)=w2 at g2 ⊢;have s2:=g2.1;refine Ee F rfl λa F=>JQ F e0 rfl λa F=>CK F rfl rfl rfl (AF3 (F.ev (t:=9) rfl)) λa F=>Ee F rfl λa F=>JQ F e1 rfl λa F=>CK F rfl rfl rfl (AF3 (F.ev (t:=12) rfl)) λa F=>?_
 refine DI F rfl (Au rfl (F.ev (t:=10) rfl) (F.ev (t:=13) rfl) Tryz.call119) (eF (p:=(bv,0)) (q:=(bp,0)) hG (Jk hG Ys g2 (by omega)) (by omega) (p0.fn g2) mC (a0.fn g2) h0 (.ne cq)) λe w3 z3=>⟨_,z3.ret,λa F=>AJ ?_⟩
 obtain⟨r0,q0,td⟩:=z3.mem;have s3:=z3.an.1;have k3:=(k1.fn g2).wg z3.an (by decide);have p1:=(p1.fn g2).fo z3.an (by decide);have p2:=(p2.fn g2).fo z3.an (by decide);have p3:=(p3.fn g2).fo z3.an (by decide);have a1:=(a1.fn g2).fe z3.an (Ne.symm cq);have a2:=(a2.fn g2).fe z3.an (Ne.symm cq);have a3:=(a3.fn g2).fe z3.an (Ne.symm cq);obtain⟨f,F,e0,e1⟩:∃f,Fr a 37 f/\f 0=pp bv/\f 1=pp bp:=⟨_,F,e0,e1⟩;refine wp_seq (wp_region_still_tail 6 mixed (by kernel_rfl) ?_);have g4:=Ms w3 (λ_ _=>False);have gw3:=z3.gw;generalize ({ w3 with drawn:=w3.drawn+1 }:World)=w4 at g4 ⊢;have s4:=g4.1;refine Ee F rfl λa F=>JQ F e0 rfl λa F=>CK F rfl rfl rfl (AFm (F.ev (t:=16) rfl)) λa F=>Ee F rfl λa F=>JQ F e1 rfl λa F=>CK F rfl rfl rfl (AFm (F.ev (t:=19) rfl)) λa F=>?_
 refine DI F rfl (Au rfl (F.ev (t:=17) rfl) (F.ev (t:=20) rfl) Tryz.call121) (Xo (p:=(bv,5)) (q:=(bp,5)) hG (Jk hG gw3 g4 (by omega)) (by omega) (p1.fn g4) mC (a1.fn g4) h1 (.ne cq)) λe w5 z5=>⟨_,z5.ret,λa F=>AJ ?_⟩
 obtain⟨r1,q1,tc⟩:=z5.mem;have s5:=z5.an.1;have k5:=(k3.fn g4).wg z5.an (by decide);have q0:=(q0.fn g4).fo z5.an (by decide);have p2:=(p2.fn g4).fo z5.an (by decide);have p3:=(p3.fn g4).fo z5.an (by decide);have a2:=(a2.fn g4).fe z5.an (Ne.symm cq);have a3:=(a3.fn g4).fe z5.an (Ne.symm cq);obtain⟨f,F,e0,e1⟩:∃f,Fr a 37 f/\f 0=pp bv/\f 1=pp bp:=⟨_,F,e0,e1⟩;refine wp_seq (wp_region_still_tail 6 mixed (by kernel_rfl) ?_);have g6:=Ms w5 (λ_ _=>False);have gw5:=z5.gw;generalize ({ w5 with drawn:=w5.drawn+1 }:World)=w6 at g6 ⊢;have s6:=g6.1;refine Ee F rfl λa F=>JQ F e0 rfl λa F=>CK F rfl rfl rfl (AJc (F.ev (t:=23) rfl)) λa F=>Ee F rfl λa F=>JQ F e1 rfl λa F=>CK F rfl rfl rfl (AJc (F.ev (t:=26) rfl)) λa F=>?_
 refine DI F rfl (Au rfl (F.ev (t:=24) rfl) (F.ev (t:=27) rfl) Tryz.call121) (Xo (p:=(bv,10)) (q:=(bp,10)) hG (Jk hG gw5 g6 (by omega)) (by omega) (p2.fn g6) mC (a2.fn g6) h2 (.ne cq)) λe w7 z7=>⟨_,z7.ret,λa F=>AJ ?_⟩
 obtain⟨r2,q2,hr2⟩:=z7.mem;have s7:=z7.an.1;have k7:=(k5.fn g6).wg z7.an (by decide);have q0:=(q0.fn g6).fo z7.an (by decide);have q1:=(q1.fn g6).fo z7.an (by decide);have p3:=(p3.fn g6).fo z7.an (by decide);have a3:=(a3.fn g6).fe z7.an (Ne.symm cq);obtain⟨f,F,e0,e1⟩:∃f,Fr a 37 f/\f 0=pp bv/\f 1=pp bp:=⟨_,F,e0,e1⟩;refine wp_seq (wp_region_still_tail 6 mixed (by kernel_rfl) ?_);have g8:=Ms w7 (λ_ _=>False);have gw7:=z7.gw;generalize ({ w7 with drawn:=w7.drawn+1 }:World)=w8 at g8 ⊢;have s8:=g8.1;refine Ee F rfl λa F=>JQ F e0 rfl λa F=>CK F rfl rfl rfl (AM3 (F.ev (t:=30) rfl)) λa F=>Ee F rfl λa F=>JQ F e1 rfl λa F=>CK F rfl rfl rfl (AM3 (F.ev (t:=33) rfl)) λa F=>?_
 refine DI F rfl (Au rfl (F.ev (t:=31) rfl) (F.ev (t:=34) rfl) Tryz.call119) (eF (p:=(bv,15)) (q:=(bp,15)) hG (Jk hG gw7 g8 (by omega)) (by omega) (p3.fn g8) mC (a3.fn g8) h3 (.ne cq)) λe w9 z9=>⟨_,z9.ret,λa F=>AJ ?_⟩
 obtain⟨r3,q3,hr3⟩:=z9.mem;have k9:=(k7.fn g8).wg z9.an (by decide);have q0:=(q0.fn g8).fo z9.an (by decide);have q1:=(q1.fn g8).fo z9.an (by decide);have q2:=(q2.fn g8).fo z9.an (by decide);refine AO (AA F rfl λa F=>AB F rfl λa F=>AJ ?_);refine DC ⟨F.df,pp bv,?_,rfl,⟨_,APs q0 q1 q2 q3,_,_,_,_,fs4 rfl td rfl tc rfl hr2 (Rw _).symm hr3 rfl,AJz hP⟩,k9.mono λ_ _ _ h=>h.1,z9.gw⟩;simp[results,Tryz.results101,go_sem];exact F.gd e0
end
section
open Go Ma Go.RowKit Go.Lib Go.ChangeShapes Go.WideShapes
theorem jE(w:World)(k:Nat)(os:Array Obj)(S:Nat->Nat->Prop):BM w (Go.Sort.grow (w.drewN k) os) S:=by
 refine⟨by simp[Go.Sort.grow],λb x h=>⟨x,?_,.refl _ x⟩,rfl,rfl,rfl⟩;show(w.heap++os)[b]? = some x;have hb:=(Array.getElem?_eq_some_iff.1 h).1;rw[Array.getElem?_append_left hb];exact h
section
variable{ρ:Operand->Value}{d:Option Tmp}{x y:Operand}{ty t t':TypeId}{pos:String}{af:Array Edge}{w:World}{b o:Nat}
theorem Yf{s u:ByteArray}(h:ρ x= .string s)(hy:ρ y= .string u)(hl:s.size+u.size<=9223372036854775807):(execOp ρ ⟨d,.binOp .add 9 x y t',ty,pos,af,none⟩).run Tryz.prog w= .ok (.value (.string (s++u))) w:=by
 simp[execOp,go_sem,h,hy,hl]
end
theorem jw{a s:ByteArray}(ha:a.size<=100)(hs:s.size<=21):a.size+s.size<=9223372036854775807:=by omega
structure StP (GC:Nat->Nat->Option Value) (w:World) (e:Ending) (w':World):Prop where
 ret:∃s:ByteArray,e= .returned (.string s)/\s.size<=21
 an:BM w w' (λ_ _=>False)
 gw:GW GC w'
structure EpP (GC:Nat->Nat->Option Value) (w:World) (e:Ending) (w':World):Prop where
 ret:∃t x,e= .returned (.tuple #[.pointer none,.iface t x])
 an:BM w w' (λ_ _=>False)
 gw:GW GC w'
section
variable{GB:Nat}{GC:Nat->Nat->Option Value}{ad:Nat->Nat×Nat}(hG:Gw GB GC ad){w:World}(ε:GW GC w)(δ:GB<=w.heap.size)
include hG ε δ
theorem SY {n:Int} (h0: -9223372036854775808<=n) (h1:n<=9223372036854775807) (η:Lib.TabIs Tryz.prog w "internal/strconv.uint64pow10" .u64 Lib.pow10Tab):Calls Tryz.prog 82 #[.int .i64 n] w (StP GC w):=by
 refine(Tryz.strconv_Itoa n h0 h1 w η).mono λe w' h=>?_
 obtain⟨he,k,os,rfl⟩:=h;exact⟨⟨_,he,by have:=Lib.itoa_length_le n h0 h1;simpa[ByteArray.size] using this⟩,jE _ _ _ _,Jk hG ε (jE _ _ _ _) δ⟩
set_option maxRecDepth 100000 in
theorem AIg {pv:Value} {p:Option Addr} {n c:Nat} (hn:((n:Int) != 32)=true) (hb:(n:Int)<=4294967295) (η:Lib.TabIs Tryz.prog w "internal/strconv.uint64pow10" .u64 Lib.pow10Tab):Calls Tryz.prog 75 #[pv,.slice p n c] w (EpP GC w):=by
 refine enter (args:=[pv,.slice p n c]) Tryz.func75 rfl (n:=35) rfl λa F=>?_
 refine AO (AX F rfl λa F=>AX F rfl λa F=>AJ ?_);refine wp_seq (AO (AA F rfl λa F=>AZ F rfl (NL (p:=p) (m:=n) (c:=c) (F.ev (t:=9) rfl)) λa F=>AB F rfl λa F=>AJ ?_));refine AO (AA F rfl λa F=>AZ F rfl (OV (i:=n) (j:=32) F.e rfl) λa F=>AJ ?_);refine wp_cond (t:=true) (F.ev (EH Value.bool hn)) ?_;refine AO (AA F rfl λa F=>DI F rfl (Ar rfl F.e Tryz.call82) (SY hG ε δ (by omega) (by omega) η) λe w1 h1=>?_);obtain⟨s,he,hs⟩:=h1.ret;refine⟨_,he,λa F=>AZ F rfl (Yf rfl F.e (jw (MQ rfl) hs)) λa F=>?_⟩;refine DI F rfl (Ar rfl F.e Tryz.call81) (NU hG h1.gw (z8 δ h1.an.1) _) λe w2 h2=>?_
 obtain⟨t,v,he⟩:=h2.ret;refine⟨_,he,λa F=>AX F rfl λa F=>AB F rfl λa F=>AJ ?_⟩;refine DC ⟨F.df,.tuple #[.pointer none,.iface t v],?_,⟨t,v,rfl⟩,h1.an.trans h2.an,h2.gw⟩;simp[results,Tryz.results75,go_sem];exact⟨F.gd rfl,F.gd rfl⟩
set_option maxRecDepth 100000 in
theorem AJn {p:Option Addr} {n c:Nat} (hn:((n:Int) != 32)=true) (hb:(n:Int)<=4294967295) (η:Lib.TabIs Tryz.prog w "internal/strconv.uint64pow10" .u64 Lib.pow10Tab):Calls Tryz.prog 50 #[.slice p n c] w (EpP GC w):=by
 refine enter (args:=[.slice p n c]) Tryz.func50 rfl (n:=12) rfl λa F=>?_
 refine AO (AX F rfl λa F=>AX F rfl λa F=>AJ ?_);refine AO (AZ F rfl ADX λa F=>AZ F rfl (vU F.e) λa F=>AB F rfl λa F=>AJ ?_);have f1:BM w (w.alloc (.cells (Aj kPU pu0).toArray 99)) (λ_ _=>False):=BI _ _ _;have b1:=OA w (.cells (Aj kPU pu0).toArray 99);generalize w.alloc (.cells (Aj kPU pu0).toArray 99)=w1 at f1 b1 ⊢;refine AO (AA F rfl λa F=>AA F rfl λa F=>DI F rfl (Au rfl F.e F.e Tryz.call75) (AIg hG (Jk hG ε f1 δ) (z8 δ f1.1) hn hb (aH η b1)) λe w2 h2=>?_);obtain⟨t,v,he⟩:=h2.ret;refine⟨_,he,λa F=>AZ F rfl (EZ F.e) λa F=>AZ F rfl (DW F.e) λa F=>AB F rfl λa F=>AB F rfl λa F=>AJ ?_⟩;refine DC ⟨F.df,.tuple #[.pointer none,.iface t v],?_,⟨t,v,rfl⟩,f1.trans h2.an,h2.gw⟩;simp[results,Tryz.results50,go_sem];exact⟨F.gd rfl,F.gd rfl⟩
set_option maxRecDepth 100000 in
theorem AMW {pv mv sp sc:Value} {p:Option Addr} {n c:Nat} (hn:((n:Int) != 64)=true) (hb:(n:Int)<=4294967295) (η:Lib.TabIs Tryz.prog w "internal/strconv.uint64pow10" .u64 Lib.pow10Tab):Calls Tryz.prog 83 #[pv,mv,.slice p n c,sp,sc] w (ErP GC w):=by
 refine enter (args:=[pv,mv,.slice p n c,sp,sc]) Tryz.func83 rfl (n:=105) rfl λa F=>?_
 refine AO (AX F rfl λa F=>AJ ?_);refine wp_seq (AO (AA F rfl λa F=>AZ F rfl (NL (p:=p) (m:=n) (c:=c) (F.ev (t:=19) rfl)) λa F=>AB F rfl λa F=>AJ ?_));refine AO (AA F rfl λa F=>AZ F rfl (OV (i:=n) (j:=64) F.e rfl) λa F=>AJ ?_);refine wp_cond (t:=true) (F.ev (EH Value.bool hn)) ?_;refine AO (AA F rfl λa F=>DI F rfl (Ar rfl F.e Tryz.call82) (SY hG ε δ (by omega) (by omega) η) λe w1 h1=>?_);obtain⟨s,he,hs⟩:=h1.ret;refine⟨_,he,λa F=>AZ F rfl (Yf rfl F.e (jw (MQ rfl) hs)) λa F=>?_⟩;refine DI F rfl (Ar rfl F.e Tryz.call81) (NU hG h1.gw (z8 δ h1.an.1) _) λe w2 h2=>?_
 obtain⟨t,v,he⟩:=h2.ret;refine⟨_,he,λa F=>AB F rfl λa F=>AJ ?_⟩;refine DC ⟨F.df,.iface t v,?_,⟨t,v,rfl⟩,h1.an.trans h2.an,h2.gw⟩;simp[results,Tryz.results83,go_sem];exact F.gd rfl
end
end
section
open Go Ma Go.RowKit Go.Lib
section
variable{GB:Nat}{GC:Nat->Nat->Option Value}{ad:Nat->Nat×Nat}(hG:Gw GB GC ad)
include hG
set_option maxRecDepth 100000 in
theorem AJx{a:Act}{w:World}{f:Nat->Value}{bs os cs:Nat}{sg:List Int}(F:Fr a 105 f)(ε:GW GC w)(δ:GB<=w.heap.size)(hS:C8 w 5 0 R9)(e2:f 2= .slice (some ⟨bs,os,none⟩) 64 cs)(hx:C8 w bs os sg)(hl:sg.length=64)(cS:64<=cs):
  (YG 19 (Ak Tryz.f83)).wp Tryz.prog (λe a' w'=>e= .normal/\∃f',Fr a' 105 f'/\(∀t,t ∈ [0,1,2,10,14]->f' t=f t)/\((Ct (sg.drop 32)<Qm/\f' 15= .nilIface/\∃p s,f' 16=pa p/\AQ true w' p U4 s/\MO s (Ct (sg.drop 32)))\/(¬Ct (sg.drop 32)<Qm/\∃t x,f' 15= .iface t x))/\BM w w' (λ_ _=>False)/\GW GC w') a w:=by
 refine PY (N:=9) mixed (by kernel_rfl) ?_;have fd:=Ms w (λ_ _=>False);generalize ({ w with drawn:=w.drawn+1 }:World)=w1 at fd ⊢;refine Kq (i:=1) (t:=78) (v:=f 2) rfl F rfl rfl rfl (by kernel_rfl) (λc a w h=>by cases h.1) (λw=>by simp only[execOp,F.ev (t:=2) rfl];rfl) λa F=>?_
 refine Kq (i:=2) (t:=79) rfl F rfl rfl rfl (by kernel_rfl) (λc a w h=>by cases h.1) (λw=>AHQ (k:=32) (F.ev e2) rfl (by omega) cS (by omega)) λa F=>?_
 have SJ:bs<w.heap.size:=hx.lt (by omega);have iS:=hx.bc fd;have hd:(sg.drop 32).length=32:=by rw[Uj,hl]
 have Rr:C8 w1 bs (os+32) (sg.drop 32):=by
  have:=iS.sub (i:=32) (k:=32) (by omega);rwa [N3 (by omega)] at this
 have Ys:=Jk hG ε fd δ;refine F7 (i:=0) (by kernel_rfl) (I6 (by kernel_rfl) rfl (Xf F rfl rfl (LJ rfl Tryz.call98) (Xd hG Ys (z8 δ fd.1)) λe w2 h2=>?_));obtain⟨B,o,he,hB,hM⟩:=h2.ret;refine⟨_,he,λa F=>?_⟩;have f2:=fd.trans h2.an;have eA:=fd.1;refine F7 (i:=3) (by kernel_rfl) (I6 (by kernel_rfl) rfl (Xf (t:=80) F rfl rfl (Au rfl (F.ev (t:=77) rfl) (F.ev (t:=79) rfl) Tryz.call100) (AAa hG h2.gw (z8 δ f2.1) (hS.bc f2) hM (by omega) (Rr.bc h2.an) hd (by omega) (by omega)) λe w3 h3=>?_));have f3:BM w w3 (λ_ _=>False):=f2.trans' h3.an λb' i xp (h:b'=B)=>by omega
 rcases h3.ex with⟨cf,he,s,ms,hs⟩|⟨cf,t,x,he⟩
 ·refine⟨_,he,λa F=>?_⟩;refine F7 (i:=4) (by kernel_rfl) (I6 (by kernel_rfl) rfl (fZ F rfl λa F=>?_));refine Kq (i:=5) rfl F rfl rfl rfl (by kernel_rfl) (λc a w h=>by cases h.1) (λw=>EZ (F.ev (t:=76) rfl)) λa F=>?_
  refine Kq (i:=6) rfl F rfl rfl rfl (by kernel_rfl) (λc a w h=>by cases h.1) (λw=>DW (F.ev (t:=76) rfl)) λa F=>?_
  refine F7 (i:=7) (by kernel_rfl) (I6 (by kernel_rfl) rfl (Rj F rfl rfl (by simp only[execOp,F.ev (t:=81) rfl];rfl) λa F=>?_));refine F7 (i:=8) (by kernel_rfl) (I6 (by kernel_rfl) rfl (Rj F rfl rfl (by simp only[execOp,F.ev (t:=82) rfl];rfl) λa F=>?_));exact wpAny_done (by kernel_rfl) ⟨rfl,_,F,λt ht=>by
   simp only[IR,List.not_mem_nil,or_false] at ht;rcases ht with rfl|rfl|rfl|rfl|rfl<;>rfl,.inl ⟨cf,rfl,(B,o),s,rfl,ms,hs⟩,f3,h3.gw⟩ 0
 ·refine⟨_,he,λa F=>?_⟩;refine F7 (i:=4) (by kernel_rfl) (I6 (by kernel_rfl) rfl (fZ F rfl λa F=>?_));refine Kq (i:=5) rfl F rfl rfl rfl (by kernel_rfl) (λc a w h=>by cases h.1) (λw=>EZ (F.ev (t:=76) rfl)) λa F=>?_
  refine Kq (i:=6) rfl F rfl rfl rfl (by kernel_rfl) (λc a w h=>by cases h.1) (λw=>DW (F.ev (t:=76) rfl)) λa F=>?_
  refine F7 (i:=7) (by kernel_rfl) (I6 (by kernel_rfl) rfl (Rj F rfl rfl (by simp only[execOp,F.ev (t:=81) rfl];rfl) λa F=>?_));refine F7 (i:=8) (by kernel_rfl) (I6 (by kernel_rfl) rfl (Rj F rfl rfl (by simp only[execOp,F.ev (t:=82) rfl];rfl) λa F=>?_));exact wpAny_done (by kernel_rfl) ⟨rfl,_,F,λt ht=>by
   simp only[IR,List.not_mem_nil,or_false] at ht;rcases ht with rfl|rfl|rfl|rfl|rfl<;>rfl,.inr ⟨cf,t,x,rfl⟩,f3,h3.gw⟩ 0
set_option maxRecDepth 100000 in
theorem AKc{a:Act}{w:World}{f:Nat->Value}{bs os cs bp op:Nat}{sg m:List Int}{Q:Pt}(F:Fr a 105 f)(ε:GW GC w)(δ:GB<=w.heap.size)(e2:f 2= .slice (some ⟨bs,os,none⟩) 64 cs)(hx:C8 w bs os sg)(hl:sg.length=64)(cS:64<=cs)(e18:f 18= .pointer (some ⟨bp,op,none⟩))(mp:AQ true w (bp,op) (List.replicate 20 .u64) m)(hQ:R3 Q m):
  (YG 24 (Ak Tryz.f83)).wp Tryz.prog (λe a' w'=>e= .normal/\∃f',Fr a' 105 f'/\f' 103= .bool (!decide (sg.take 32=JD Q))/\BM w w' (λ_ _=>False)/\GW GC w') a w:=by
 refine PY (N:=6) mixed (by kernel_rfl) ?_;have fd:=Ms w (λ_ _=>False);generalize ({ w with drawn:=w.drawn+1 }:World)=w1 at fd ⊢;refine Kq (i:=0) (t:=98) (v:=f 2) rfl F rfl rfl rfl (by kernel_rfl) (λc a w h=>by cases h.1) (λw=>by simp only[execOp,F.ev (t:=2) rfl];rfl) λa F=>?_
 refine Kq (i:=1) (t:=99) rfl F rfl rfl rfl (by kernel_rfl) (λc a w h=>by cases h.1) (λw=>Yh (k:=32) (F.ev e2) rfl (by omega)) λa F=>?_
 refine F7 (i:=2) (by kernel_rfl) (I6 (by kernel_rfl) rfl (fZ F rfl λa F=>?_));have Ys:=Jk hG ε fd δ;refine F7 (i:=3) (by kernel_rfl) (I6 (by kernel_rfl) rfl (Xf F rfl rfl (Ar rfl (F.ev (t:=100) e18) Tryz.call104) (ze hG Ys (z8 δ fd.1) (mp.fn fd).ro hQ) λe w2 h2=>?_));obtain⟨B,o,he,hB,hM⟩:=h2.ret;rw[show pbF m=JD Q from dn EL hQ] at hM;refine⟨_,he,λa F=>?_⟩;have f2:=fd.trans h2.an;have hb:C8 w2 B o (JD Q):=⟨hM.j9,λi hi=>(hM.at8 (by rw[hM.len8] at hi;exact hi)).1.1⟩;have Rr:C8 w2 bs os (sg.take 32):=by
  have:=(hx.bc f2).sub (i:=0) (k:=32) (by omega);exact this
 refine F7 (i:=4) (by kernel_rfl) (I6 (by kernel_rfl) rfl (Xf F rfl rfl (Au rfl (F.ev (t:=99) rfl) (F.ev (t:=101) rfl) Tryz.call103) (AG9 Rr hb (by rw[Rk,hl];rfl) hM.len8) λe w3 h3=>?_));obtain⟨he,rfl⟩:=h3;refine⟨_,he,λa F=>?_⟩;refine F7 (i:=5) (by kernel_rfl) (I6 (by kernel_rfl) rfl (Rj F rfl rfl (AAE F.e) λa F=>?_));exact wpAny_done (by kernel_rfl) ⟨rfl,_,F,rfl,f2,h2.gw⟩ 0
end
end
end Go.Proofs.YtloibefkijfdlaaGreatDoor
