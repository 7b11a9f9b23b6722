/- Walking by hand: rows that grow; rounds; values that are lists of words. -/
import Derived.Test.YtloibefkijfdlaaGreatDoorSb1
import Derived.Test.YtloibefkijfdlaaGreatDoorSix
namespace Go.Proofs.YtloibefkijfdlaaGreatDoor
section
open Go Go.RowKit Go.Lib
theorem PW{P:Program}{X:Code}{J:Nat->Act->World->Prop}{Q:Exit->Act->World->Prop}(h0:∀a w,J 0 a w->X.wp P (Exit.then (λ_ _=>False) Q) a w)(hs:∀k a w,J (k+1) a w->X.wp P (λe a' w'=>e= .normal/\J k a' w') a w):∀(k:Nat) (a:Act) (w:World),J k a w->Code.rounds P X Q (k+1) a w
 |0,a,w,h=>h0 a w h
 |k+1,a,w,h=>wp_mono (hs k a w h) λe a' w' ⟨he,hj⟩=>by
  subst he;exact PW h0 hs k a' w' hj
abbrev Wx (w:World) (B:Nat) (v:Value) (xs:List Int):Prop:=w.ownsRow B 5 1 v xs.length (v8 xs)
theorem dR(w:World)(cur:Array Value)(cap:Nat)(hc:cap<=1000)(hs:cur.size=cap):Wx (w.alloc (.cells cur 5)) w.heap.size (.slice (some ⟨w.heap.size,0,none⟩) 0 cap) []:=World.ownsRow_made w cur cap (KA _) (by unfold maxLen;omega) (by rw[hs,Nat.mul_one])
section
variable{ops:Array Oper}{Q:Exit->Act->World->Prop}{rest:List Oper}{a:Act}{w:World}{n:Nat}{f:Nat->Value}
end
theorem Wx.below{w w':World}{B:Nat}{v:Value}{xs:List Int}(h:Wx w B v xs)(hb:Below w.heap.size w w'):Wx w' B v xs:=by
 refine⟨h.1,?_⟩;rcases h.2 with h2|⟨g,cap,cur,h1,h2,h3,h4⟩
 ·exact .inl h2
 ·refine .inr ⟨g,cap,cur,h1,h2,?_,h4⟩;have cf:g<w.heap.size:=by
   rcases nE g w.heap.size with h|h
   ·exact h
   ·simp[ut h] at h3
  rw[hb.block g cf];exact h3
theorem Wx.sl{w:World}{B:Nat}{v:Value}{xs:List Int}(h:Wx w B v xs):∃ap c,v= .slice ap xs.length c:=by
 rcases h.2 with⟨h1,h2⟩|⟨g,cap,cur,h1,_⟩
 ·exact⟨none,0,by rw[h1,h2]⟩
 ·exact⟨_,_,h1⟩
theorem OA(w:World)(o:Obj):Below w.heap.size w (w.alloc o):=(Below.refl _ w).alloc (KA _) _
structure AgP (GC:Nat->Nat->Option Value) (ks:List IntKind) (l:List Int) (w:World) (e:Ending) (w':World):Prop where
 ret:e= .returned (.agg (Aj ks l).toArray)
 jn:La ks l
 an:BM w w' (λ_ _=>False)
 gw:GW GC w'
section
variable{GB:Nat}{GC:Nat->Nat->Option Value}{w:World}(ε:GW GC w)(δ:GB<=w.heap.size)
include ε δ
theorem Vn{f:Nat}{s:BH}{ks:List IntKind}{F:PF}{args:List Value}{ins:List (List Int)}{bs:List (Nat×Nat)}(fS:Ck Tryz.prog GB GC f (.one s))(ξ:s.outs= [])(zv:s.ret= [.agg ks F])(hP:KH GB w s.params args ins bs)(hS:Fv s.params bs)(Zs:s.hp=true->s.pre ins):
  Calls Tryz.prog f args.toArray w (AgP GC ks (F ins) w):=by
 refine(fS true args ins bs w ε δ hP hS Zs rfl).mono λe w' ⟨fb,vs,he,hq⟩=>?_
 simp only[FE.ca] at hq;have hr:=hq.ret;rw[zv] at hr
 match vs,hr with
 | [v],hr=>
  have h1:La ks (F ins)/\v= .agg (Aj ks (F ins)).toArray:=hr.1;refine⟨by rw[he,h1.2];rfl,h1.1,hq.an.mono λb o _ hs=>?_,hq.gw⟩;obtain⟨p,eN,_⟩:=hs;rw[ξ] at eN;cases eN
end
theorem pM{p:GD}{b:Nat×Nat}:Fv [p] [b]:=⟨λ_ h=>(by cases h),trivial⟩
theorem ANl{ks:List IntKind}{ps:List GD}{b:Nat×Nat}{bs:List (Nat×Nat)}(h:Fv ps bs):Fv (.agg ks::ps) (b::bs):=⟨λx _=>by unfold Rz;simp[GD.cE],h⟩
end
section
open Go Go.RowKit Go.Lib
section
variable{ρ:Operand->Value}{d:Option Tmp}{x y:Operand}{ty:TypeId}{pos:String}{af:Array Edge}{w:World}{b o:Nat}
theorem ADP:(execOp ρ ⟨d,.buildSlice 22 0 #[],ty,pos,af,none⟩).run Tryz.prog w= .ok (.value (.slice (some ⟨w.heap.size,0,none⟩) 0 0)) (w.alloc (.cells #[] 5)):=by
 simp[execOp,go_sem]
theorem qg{i j:Int}(h:ρ x= .int .i64 i)(hy:ρ y= .int .i64 j):(execOp ρ ⟨d,.binOp .sub 3 x y 3,ty,pos,af,none⟩).run Tryz.prog w= .ok (.value (.int .i64 (IntKind.i64.wrap (i-j)))) w:=by
 simp[execOp,go_sem,h,hy]
theorem fP{i j:Int}(h:ρ x= .int .i64 i)(hy:ρ y= .int .i64 j):(execOp ρ ⟨d,.binOp .lss 3 x y 3,ty,pos,af,none⟩).run Tryz.prog w= .ok (.value (.bool (decide (i<j)))) w:=by
 simp[execOp,go_sem,h,hy]
end
theorem AKT(x:Int):0<=IntKind.u8.wrap x/\IntKind.u8.wrap x<=255:=by
 rw[ABV];omega
theorem C8.bc{w w':World}{b o:Nat}{xs:List Int}(h:C8 w b o xs)(hf:BM w w' (λ_ _=>False)):C8 w' b o xs:=⟨h.1,λi hi=>(hf.fp (f:=false) ⟨h.2 i hi,λh=>(by cases h)⟩ (λh=>h)).1⟩
theorem AGC{v:Int}:∀x∈Oe v,0<=x/\x<=255:=λx h=>by
 unfold Oe at h;obtain⟨k,-,rfl⟩:=UT.1 h;exact AKT _
theorem AFF{m:List Int}:∀x∈MC m,0<=x/\x<=255:=λx hx=>by
 unfold MC qF at hx;obtain⟨v,-,h⟩:=List.mem_flatMap.1 hx;exact AGC x h
end
end Go.Proofs.YtloibefkijfdlaaGreatDoor
