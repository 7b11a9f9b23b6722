/- The package's variables of this seat: what a row lays is what the contracts ask (printed by mkgk.py). -/
import Derived.Test.YtloibefkijfdlaaGreatDoorLa
import Derived.Test.YtloibefkijfdlaaGreatDoorRows
namespace Go.Proofs.YtloibefkijfdlaaGreatDoor
open Go Go.Proofs.YtloibefkijfdlaaGreatDoor
def nQ(W:World)(b o:Nat):Option Value:=if b<W.heap.size then W.cell? ⟨b,o,none⟩ else none
theorem MM{W:World}{b o:Nat}{v:Value}(h:W.cell? ⟨b,o,none⟩=some v):b<W.heap.size:=by
 rcases nE b W.heap.size with h1|h1
 ·exact h1
 ·simp[World.cell?,ut h1] at h
theorem NH{W:World}{b o:Nat}{v:Value}(h:W.cell? ⟨b,o,none⟩=some v):nQ W b o=some v:=by
 unfold nQ;rw[if_pos (MM h)];exact h
theorem AEn{W:World}(b o:Nat)(v:Value)(h:nQ W b o=some v):b<W.heap.size:=by
 unfold nQ at h;split at h
 ·assumption
 ·cases h
theorem bP(W:World):GW (nQ W) W:=λb o v h=>by
 unfold nQ at h;split at h
 ·exact h
 ·cases h
def APG(zs:List Int):List LV:=zs.map λz=>.int .u64 (.lit z)
theorem glI{GC:Nat->Nat->Option Value}{V:Vl}{zs:List Int}{m:Nat}{b:Nat×Nat}(hr:zs.all (Yl .u64)=true)(hc:∀i,i<zs.length->GC b.1 (b.2+i)=some (.int .u64 (zs.getD i 0))):
  ∀(i:Nat) (lv:LV),(APG zs)[i]? = some lv->XD m lv=true/\GC b.1 (b.2+i)=some (lv.den V):=λi lv h=>by
 unfold APG at h;rw[Ng,Vu] at h;obtain⟨z,hz,rfl⟩:=h;have hi:=(OQ.1 hz).1;refine⟨Mx.1 hr z (Le hz),?_⟩;rw[hc i hi,List.getD,hz];rfl
theorem glP{GC:Nat->Nat->Option Value}{V:Vl}{l m:Nat}{b:Nat×Nat}(hl:(Nat.ble 500 l&&Nat.blt l (500+m))=true)(hc:GC b.1 b.2=some (.pointer (some ⟨(V.ν l).1,(V.ν l).2,none⟩))):
  ∀(i:Nat) (lv:LV),[LV.ptr l 0][i]? = some lv->XD m lv=true/\GC b.1 (b.2+i)=some (lv.den V):=λi lv h=>by
 rcases i with _|i
 ·simp only[Ul,Ai] at h;subst h;exact⟨hl,hc⟩
 ·simp at h
theorem gok{W:World}(h:laidMet Tryz.prog Rows.fnSignVerifyRow.laid W):∃ad,Gw W.heap.size (nQ W) ad:=by
 obtain⟨b0,o0,p0,c0⟩:=Vi (k:=.u64) (P:=Tryz.prog) (W:=W) (name:= "loop.example/pub-g03339/pub/edwards25519.scalarTwo168") (d:=(match (Rows.laid_loop_example_pub_g03339_pub_edwards25519_scalarTwo168:DataW Unit) with | .ptr d=>d|d=>d)) (g:=0) (n:=4) (t:=118) (e:=82) (by kernel_rfl) (by kernel_rfl) (by kernel_rfl) (by kernel_rfl) (of_decide_eq_true (by kernel_rfl)) h (Le (i:=6) rfl);rw[show Tryz.prog.cellsOf 82=4 by kernel_rfl] at c0;obtain⟨b1,o1,p1,c1⟩:=Vi (k:=.u64) (P:=Tryz.prog) (W:=W) (name:= "loop.example/pub-g03339/pub/edwards25519.scalarTwo336") (d:=(match (Rows.laid_loop_example_pub_g03339_pub_edwards25519_scalarTwo336:DataW Unit) with | .ptr d=>d|d=>d)) (g:=1) (n:=4) (t:=118) (e:=82) (by kernel_rfl) (by kernel_rfl) (by kernel_rfl) (by kernel_rfl) (of_decide_eq_true (by kernel_rfl)) h (Le (i:=7) rfl);rw[show Tryz.prog.cellsOf 82=4 by kernel_rfl] at c1;obtain⟨b2,o2,p2,c2⟩:=Vi (k:=.u64) (P:=Tryz.prog) (W:=W) (name:= "loop.example/pub-g03339/pub/field.sqrtM1") (d:=(match (Rows.laid_loop_example_pub_g03339_pub_field_sqrtM1:DataW Unit) with | .ptr d=>d|d=>d)) (g:=2) (n:=2) (t:=139) (e:=95) (by kernel_rfl) (by kernel_rfl) (by kernel_rfl) (by kernel_rfl) (of_decide_eq_true (by kernel_rfl)) h (Le (i:=5) rfl);rw[show Tryz.prog.cellsOf 95=5 by kernel_rfl] at c2;obtain⟨b3,o3,p3,c3⟩:=Vi (k:=.u64) (P:=Tryz.prog) (W:=W) (name:= "loop.example/pub-g03339/pub/field.feZero") (d:=(match (Rows.laid_loop_example_pub_g03339_pub_field_feZero:DataW Unit) with | .ptr d=>d|d=>d)) (g:=3) (n:=2) (t:=139) (e:=95) (by kernel_rfl) (by kernel_rfl) (by kernel_rfl) (by kernel_rfl) (of_decide_eq_true (by kernel_rfl)) h (Le (i:=3) rfl);rw[show Tryz.prog.cellsOf 95=5 by kernel_rfl] at c3;obtain⟨b4,o4,p4,c4⟩:=Vi (k:=.u64) (P:=Tryz.prog) (W:=W) (name:= "loop.example/pub-g03339/pub/field.feOne") (d:=(match (Rows.laid_loop_example_pub_g03339_pub_field_feOne:DataW Unit) with | .ptr d=>d|d=>d)) (g:=4) (n:=2) (t:=139) (e:=95) (by kernel_rfl) (by kernel_rfl) (by kernel_rfl) (by kernel_rfl) (of_decide_eq_true (by kernel_rfl)) h (Le (i:=4) rfl);rw[show Tryz.prog.cellsOf 95=5 by kernel_rfl] at c4;have c6:=PX (k:=.u64) (P:=Tryz.prog) (W:=W) (name:= "loop.example/pub-g03339/pub/sha512._K") (d:=Rows.laid_loop_example_pub_g03339_pub_sha512_K) (g:=6) (n:=2) (t:=109) (by kernel_rfl) (by kernel_rfl) (by kernel_rfl) h (Le (i:=9) rfl);rw[show Tryz.prog.cellsOf 109=80 by kernel_rfl] at c6;refine⟨λk=>match k with|0=>(b0,o0)|1=>(b1,o1)|2=>(b2,o2)|3=>(b3,o3)|4=>(b4,o4)|_=>(0,0),AEn,?_,?_⟩
 ·intro x hx;simp only[SA,IR,List.not_mem_nil,or_false] at hx;rcases hx with rfl|rfl|rfl|rfl|rfl|rfl|rfl|rfl|rfl|rfl|rfl
  ·exact glP (b:=(0,0)) (by decide) (NH p0)
  ·exact glP (b:=(1,0)) (by decide) (NH p1)
  ·exact glP (b:=(2,0)) (by decide) (NH p2)
  ·exact glP (b:=(3,0)) (by decide) (NH p3)
  ·exact glP (b:=(4,0)) (by decide) (NH p4)
  ·exact glI (b:=(6,0)) (zs:=Gv 2 (Rows.laid_loop_example_pub_g03339_pub_sha512_K:DataW Unit)) (by kernel_rfl) (λi hi=>NH (by rw[Km];exact c6 i hi))
  ·exact glI (b:=(b0,o0)) (zs:=Gv 4 (match (Rows.laid_loop_example_pub_g03339_pub_edwards25519_scalarTwo168:DataW Unit) with | .ptr d=>d|d=>d)) (by kernel_rfl) (λi hi=>NH (c0 i hi))
  ·exact glI (b:=(b1,o1)) (zs:=Gv 4 (match (Rows.laid_loop_example_pub_g03339_pub_edwards25519_scalarTwo336:DataW Unit) with | .ptr d=>d|d=>d)) (by kernel_rfl) (λi hi=>NH (c1 i hi))
  ·exact glI (b:=(b2,o2)) (zs:=Gv 2 (match (Rows.laid_loop_example_pub_g03339_pub_field_sqrtM1:DataW Unit) with | .ptr d=>d|d=>d)) (by kernel_rfl) (λi hi=>NH (c2 i hi))
  ·exact glI (b:=(b3,o3)) (zs:=Gv 2 (match (Rows.laid_loop_example_pub_g03339_pub_field_feZero:DataW Unit) with | .ptr d=>d|d=>d)) (by kernel_rfl) (λi hi=>NH (c3 i hi))
  ·exact glI (b:=(b4,o4)) (zs:=Gv 2 (match (Rows.laid_loop_example_pub_g03339_pub_field_feOne:DataW Unit) with | .ptr d=>d|d=>d)) (by kernel_rfl) (λi hi=>NH (c4 i hi))
 ·intro x hx;simp only[SA,IR,List.not_mem_nil,or_false] at hx;rcases hx with rfl|rfl|rfl|rfl|rfl|rfl|rfl|rfl|rfl|rfl|rfl
  ·exact MM p0
  ·exact MM p1
  ·exact MM p2
  ·exact MM p3
  ·exact MM p4
  ·exact MM (c6 0 (by decide))
  ·exact MM (c0 0 (by decide))
  ·exact MM (c1 0 (by decide))
  ·exact MM (c2 0 (by decide))
  ·exact MM (c3 0 (by decide))
  ·exact MM (c4 0 (by decide))
end Go.Proofs.YtloibefkijfdlaaGreatDoor
