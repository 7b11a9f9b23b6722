/- FnExactSign: every seed and every message. -/
import Derived.Test.YtloibefkijfdlaaGreatDoorLy
namespace Go.Proofs.YtloibefkijfdlaaGreatDoor
open Go Ma Go.RowKit Go.Lib Go.ChangeShapes Go.WideShapes
def NoP(w:World)(e:Ending)(w':World):Prop:=e= .returned (.tuple #[.slice none 0 0,.bool false])∧Below w.heap.size w w'
set_option maxRecDepth 100000 in
set_option maxHeartbeats 2000000 in
theorem AI5 (v vm:Value) (n:Nat) (w:World) (hc:Calls Tryz.prog 34 #[v] w (AET w n)) (hn:((n:Int) == 32)=false) (hb:(n:Int)≤2147483647) (χ:Lib.TabIs Tryz.prog w "internal/strconv.uint64pow10" .u64 Lib.pow10Tab):
  Calls Tryz.prog 20 #[v,vm] w (NoP w):=by
 have mx:=mixed
 go_enter Tryz.func20,Tryz.ntmps20
 go_wp2_with (first
  |(go_at_call 34;refine hc.mono ?_;clear hc;rintro e w1 ⟨a,c,rfl,hb1⟩;have acZ:=NM χ hb1)
  |(go_at_call 64;refine (AGg _ _ _ _ _ hn hb (NM acZ ((Below.refl _ _).alloc (JP _) _))).mono ?_;rintro e w2 ⟨⟨t,x,rfl⟩,hb2⟩)
  |go_in)
 have hb3:Below w1.heap.size w1 w2:=((Below.refl _ w1).alloc (JP _) _).trans (hb2.mono (by simp));exact bodyPost_ret (v:=.tuple #[.slice none 0 0,.bool false]) (by simp[results,Tryz.results20,go_sem]) rfl ⟨rfl,hb1.trans (hb3.mono hb1.size)⟩
set_option maxRecDepth 100000 in
theorem AMp(a a':Option Addr)(n c n' c':Nat)(w:World)(h:2147483647<(n:Int)):Calls Tryz.prog 4 #[.slice a n c,.slice a' n' c'] w (VN w):=by
 go_enter Tryz.func4,Tryz.ntmps4
 go_wp2
 all_goals go_ret
 all_goals exact⟨rfl,Below.refl _ _⟩
set_option maxRecDepth 100000 in
theorem zT(a a':Option Addr)(n c n' c':Nat)(w:World)(h0:(n:Int)≤2147483647)(h:1048576<(n':Int)):Calls Tryz.prog 4 #[.slice a n c,.slice a' n' c'] w (VN w):=by
 go_enter Tryz.func4,Tryz.ntmps4
 go_wp2
 all_goals go_ret
 all_goals exact⟨rfl,Below.refl _ _⟩
set_option maxRecDepth 100000 in
set_option maxHeartbeats 2000000 in
theorem APf(a a':Option Addr)(n c n' c':Nat)(w:World)(hfs:Calls Tryz.prog 20 #[.slice a n c,.slice a' n' c'] w (NoP w))(hn:((n:Int) == 32)=false)(hb:(n:Int)≤2147483647)(hm:(n':Int)≤1048576):Calls Tryz.prog 4 #[.slice a n c,.slice a' n' c'] w (VN w):=by
 have mx:=mixed
 go_enter Tryz.func4,Tryz.ntmps4
 go_wp2_with (go_at_call 20;refine hfs.mono ?_;clear hfs;rintro e w1 ⟨rfl,hb1⟩)
 all_goals go_ret
 all_goals exact⟨rfl,hb1⟩
section
variable{GB:Nat}{GC:Nat→Nat→Option Value}{ad:Nat→Nat×Nat}(hG:Jk GB GC ad)
include hG
set_option maxRecDepth 100000 in
set_option maxHeartbeats 2000000 in
theorem ASl{w:World}{b0 o0 c0:Nat}{a':Option Addr}{n' c':Nat}{x m:List Int}(ε:GW GC w)(δ:GB≤w.heap.size)(hx0:Fe w b0 o0 x)(hl:x.length=32)(hc0:32≤c0)(hm:JI w (.slice a' n' c') m)(hml:m.length=n')(hn:(n':Int)≤1048576)(hz:(.slice a' n' c':Value)= .slice none 0 0∨∃ a n c,(.slice a' n' c':Value)= .slice (some a) n c):
  Calls Tryz.prog 4 #[.slice (some ⟨b0,o0,none⟩) 32 c0,.slice a' n' c'] w (VN w):=by
 have hx:JI w (.slice (some ⟨b0,o0,none⟩) 32 c0) x:=JI.of_has hx0 hl hc0;have hsg:=AG0 hG ε δ hx hl hm (by omega) hz;rw[lh (d:=[]) hl] at hsg;have mx:=mixed;have hml2:m.length<1099511627776/2:=by omega
 have HZ:=Lib.hid hz;have HL:=Lib.hid hl;have HM:=Lib.hid hml;clear hz hl hml
 go_enter Tryz.func4,Tryz.ntmps4
 go_wp2_with (go_at_call 20;refine hsg.mono ?_;clear hsg;rintro e w1 h1;obtain⟨v0,he,m0⟩:=h1.ret;subst he)
 have g1:=h1.frm;have l64:=dS [] x m;obtain⟨r0,s0,k0,e0,j0,n0⟩:=m0.has (by rw[l64];omega);rw[l64] at e0 j0;subst e0;clear m0;have hrs:=Xv hG h1.gw (G9 δ g1.1) (JI.nil (xs:=[]) (w:=w1) (v:=.slice none 0 0) rfl rfl) (hx.frm0 g1) HL.out (hm.frm0 g1) (by decide) hml2
 go_wp2_with (first
  |(go_at_call 22;refine AI7.mono ?_;rintro e w2 ⟨rfl,rfl⟩)
  |(go_at_call 21;refine hrs.mono ?_;clear hrs;rintro e w3 h3;obtain⟨v3,he,m3⟩:=h3.ret;subst he;obtain⟨r3,s3,k3,e3,j3,n3⟩:=m3.has (by rw[l64];omega);rw[l64] at e3 j3;subst e3;clear m3))
 have g3:=h3.frm;have y0:=n0.frm0 g3;have hb3:Below w.heap.size w w3:=PG (g1.trans g3) fun _ _ h=>h
 refine (eB w3 y0 n3 l64 l64).mono ?_
 rintro e w4 ⟨rfl,rfl⟩
 clear h1 h3 g1 g3 n0 ε hx0 hx hm y0 n3
 go_wp2
 all_goals go_ret
 all_goals exact⟨rfl,hb3⟩
end
set_option maxRecDepth 100000 in
theorem ZJ {GB:Nat} {GC:Nat→Nat→Option Value} {ad:Nat→Nat×Nat} (hG:Jk GB GC ad) {H:Type} {enc:TypeId×Value→H} {W:World} {Gw:Nat} {v0 v1:Value} {d0 d1:DataW H} {p0 p1:List MemPlace} (χ:Lib.TabIs Tryz.prog W "internal/strconv.uint64pow10" .u64 Lib.pow10Tab) (ε:GW GC W) (δ:GB≤W.heap.size)
  (hv0:Value.okWide Tryz.prog W .any Gw 22 v0) (h0:DataW.Trod enc Tryz.prog W 0 (fun _=>true) true 22 v0 d0 p0) (hv1:Value.okWide Tryz.prog W .any Gw 22 v1) (h1:DataW.Trod enc Tryz.prog W 0 (fun _=>true) true 22 v1 d1 p1):
  Calls Tryz.prog 4 #[v0,v1] W fun e W'=>e= .returned (.bool true)∧Below W.heap.size W W':=by
 obtain⟨a1,n1,c1,m,hv,hm,hml,hz⟩:=Xe hv1 h1;subst hv
 rcases uf 32 (by omega) Tryz.underlying22 Tryz.underlying5 (by kernel_rfl) hv0 h0 with ⟨a,n,c,hv,hn⟩|⟨b,o,c,xs,rfl,hc,hl,hx⟩
 ·obtain⟨a',n',c',xs',hv',hm',hl',hz'⟩:=Xe hv0 h0;rw[hv] at hv'
  cases hv'
  subst hv;subst hl'
  by_cases hbig:2147483647<(xs'.length:Int)
  ·exact AMp a _ _ c _ _ W hbig
  ·by_cases hlong:1048576<(n1:Int)
   ·exact zT a _ _ c _ _ W (by omega) hlong
   ·exact APf a _ _ c _ _ W (AI5 _ _ _ W (AHo hm' (by omega) hz') (wF hn) (by omega) χ) (wF hn) (by omega) (by omega)
 ·by_cases hlong:1048576<(n1:Int)
  ·exact zT _ _ _ c _ _ W (by omega) hlong
  ·exact ASl hG ε δ hx hl hc hm hml (by omega) hz
end Go.Proofs.YtloibefkijfdlaaGreatDoor
