/- The package's variables of this seat: what a row lays is what the contracts ask (printed by mkgk.py). -/
import Derived.Test.YtkbfdaoohhmgoaaGreatDoorLa
import Derived.Test.YtkbfdaoohhmgoaaGreatDoorRows
namespace Go.Proofs.YtkbfdaoohhmgoaaGreatDoor
open Go Go.Proofs.YtkbfdaoohhmgoaaGreatDoor
def uX(W:World)(b o:Nat):Option Value:=if b<W.heap.size then W.cell? ⟨b,o,none⟩ else none
theorem LC{W:World}{b o:Nat}{v:Value}(h:W.cell? ⟨b,o,none⟩=some v):b<W.heap.size:=by
 rcases kz b W.heap.size with h1|h1
 ·exact h1
 ·simp[World.cell?,uM h1] at h
theorem Mh{W:World}{b o:Nat}{v:Value}(h:W.cell? ⟨b,o,none⟩=some v):uX W b o=some v:=by
 unfold uX;rw[if_pos (LC h)];exact h
theorem AJM{W:World}(b o:Nat)(v:Value)(h:uX W b o=some v):b<W.heap.size:=by
 unfold uX at h;split at h
 ·assumption
 ·cases h
theorem ADf(W:World):GW (uX W) W:=λb o v h=>by
 unfold uX at h;split at h
 ·exact h
 ·cases h
def ARB(zs:List Int):List LV:=zs.map λz=>.int .u64 (.lit z)
theorem glI{GC:Nat->Nat->Option Value}{V:Vl}{zs:List Int}{m:Nat}{b:Nat×Nat}(hr:zs.all (bL .u64)=true)(hc:∀i,i<zs.length->GC b.1 (b.2+i)=some (.int .u64 (zs.getD i 0))):
  ∀(i:Nat) (lv:LV),(ARB zs)[i]? = some lv->X7 m lv=true/\GC b.1 (b.2+i)=some (lv.den V):=λi lv h=>by
 unfold ARB at h;rw[Ng,Yg] at h;obtain⟨z,hz,rfl⟩:=h;have hi:=(Oa.1 hz).1;refine⟨Kh.1 hr z (MB hz),?_⟩;rw[hc i hi,List.getD,hz];rfl
theorem glP{GC:Nat->Nat->Option Value}{V:Vl}{l m:Nat}{b:Nat×Nat}(hl:(Nat.ble 500 l&&Nat.blt l (500+m))=true)(hc:GC b.1 b.2=some (.pointer (some ⟨(V.ν l).1,(V.ν l).2,none⟩))):
  ∀(i:Nat) (lv:LV),[LV.ptr l 0][i]? = some lv->X7 m lv=true/\GC b.1 (b.2+i)=some (lv.den V):=λi lv h=>by
 rcases i with _|i
 ·simp only[UV,Ai] at h;subst h;exact⟨hl,hc⟩
 ·simp at h
theorem gok{W:World}(h:laidMet Tryz.prog Rows.fnExactVerifyRow.laid W):∃ad,GI W.heap.size (uX W) ad:=by
 obtain⟨b0,o0,p0,c0⟩:=Vv (k:=.u64) (P:=Tryz.prog) (W:=W) (name:= "loop.example/pub-g03339/pub/edwards25519.scalarTwo168") (d:=(match (Rows.laid_loop_example_pub_g03339_pub_edwards25519_scalarTwo168:DataW Unit) with | .ptr d=>d|d=>d)) (g:=0) (n:=4) (t:=90) (e:=122) (by kernel_rfl) (by kernel_rfl) (by kernel_rfl) (by kernel_rfl) (of_decide_eq_true (by kernel_rfl)) h (MB (i:=6) rfl);rw[show Tryz.prog.cellsOf 122=4 by kernel_rfl] at c0;obtain⟨b1,o1,p1,c1⟩:=Vv (k:=.u64) (P:=Tryz.prog) (W:=W) (name:= "loop.example/pub-g03339/pub/edwards25519.scalarTwo336") (d:=(match (Rows.laid_loop_example_pub_g03339_pub_edwards25519_scalarTwo336:DataW Unit) with | .ptr d=>d|d=>d)) (g:=1) (n:=4) (t:=90) (e:=122) (by kernel_rfl) (by kernel_rfl) (by kernel_rfl) (by kernel_rfl) (of_decide_eq_true (by kernel_rfl)) h (MB (i:=7) rfl);rw[show Tryz.prog.cellsOf 122=4 by kernel_rfl] at c1;obtain⟨b2,o2,p2,c2⟩:=Vv (k:=.u64) (P:=Tryz.prog) (W:=W) (name:= "loop.example/pub-g03339/pub/field.sqrtM1") (d:=(match (Rows.laid_loop_example_pub_g03339_pub_field_sqrtM1:DataW Unit) with | .ptr d=>d|d=>d)) (g:=2) (n:=2) (t:=98) (e:=60) (by kernel_rfl) (by kernel_rfl) (by kernel_rfl) (by kernel_rfl) (of_decide_eq_true (by kernel_rfl)) h (MB (i:=5) rfl);rw[show Tryz.prog.cellsOf 60=5 by kernel_rfl] at c2;obtain⟨b3,o3,p3,c3⟩:=Vv (k:=.u64) (P:=Tryz.prog) (W:=W) (name:= "loop.example/pub-g03339/pub/field.feZero") (d:=(match (Rows.laid_loop_example_pub_g03339_pub_field_feZero:DataW Unit) with | .ptr d=>d|d=>d)) (g:=3) (n:=2) (t:=98) (e:=60) (by kernel_rfl) (by kernel_rfl) (by kernel_rfl) (by kernel_rfl) (of_decide_eq_true (by kernel_rfl)) h (MB (i:=3) rfl);rw[show Tryz.prog.cellsOf 60=5 by kernel_rfl] at c3;obtain⟨b4,o4,p4,c4⟩:=Vv (k:=.u64) (P:=Tryz.prog) (W:=W) (name:= "loop.example/pub-g03339/pub/field.feOne") (d:=(match (Rows.laid_loop_example_pub_g03339_pub_field_feOne:DataW Unit) with | .ptr d=>d|d=>d)) (g:=4) (n:=2) (t:=98) (e:=60) (by kernel_rfl) (by kernel_rfl) (by kernel_rfl) (by kernel_rfl) (of_decide_eq_true (by kernel_rfl)) h (MB (i:=4) rfl);rw[show Tryz.prog.cellsOf 60=5 by kernel_rfl] at c4;have c7:=Wm (k:=.u64) (P:=Tryz.prog) (W:=W) (name:= "loop.example/pub-g03339/pub/sha512._K") (d:=Rows.laid_loop_example_pub_g03339_pub_sha512_K) (g:=7) (n:=2) (t:=108) (by kernel_rfl) (by kernel_rfl) (by kernel_rfl) h (MB (i:=9) rfl);rw[show Tryz.prog.cellsOf 108=80 by kernel_rfl] at c7;refine⟨λk=>match k with|0=>(b0,o0)|1=>(b1,o1)|2=>(b2,o2)|3=>(b3,o3)|4=>(b4,o4)|_=>(0,0),AJM,?_,?_⟩
 ·intro x hx;simp only[Uc,G9,List.not_mem_nil,or_false] at hx;rcases hx with rfl|rfl|rfl|rfl|rfl|rfl|rfl|rfl|rfl|rfl|rfl
  ·exact glP (b:=(0,0)) (by decide) (Mh p0)
  ·exact glP (b:=(1,0)) (by decide) (Mh p1)
  ·exact glP (b:=(2,0)) (by decide) (Mh p2)
  ·exact glP (b:=(3,0)) (by decide) (Mh p3)
  ·exact glP (b:=(4,0)) (by decide) (Mh p4)
  ·exact glI (b:=(7,0)) (zs:=Hu 2 (Rows.laid_loop_example_pub_g03339_pub_sha512_K:DataW Unit)) (by kernel_rfl) (λi hi=>Mh (by rw[KN];exact c7 i hi))
  ·exact glI (b:=(b0,o0)) (zs:=Hu 4 (match (Rows.laid_loop_example_pub_g03339_pub_edwards25519_scalarTwo168:DataW Unit) with | .ptr d=>d|d=>d)) (by kernel_rfl) (λi hi=>Mh (c0 i hi))
  ·exact glI (b:=(b1,o1)) (zs:=Hu 4 (match (Rows.laid_loop_example_pub_g03339_pub_edwards25519_scalarTwo336:DataW Unit) with | .ptr d=>d|d=>d)) (by kernel_rfl) (λi hi=>Mh (c1 i hi))
  ·exact glI (b:=(b2,o2)) (zs:=Hu 2 (match (Rows.laid_loop_example_pub_g03339_pub_field_sqrtM1:DataW Unit) with | .ptr d=>d|d=>d)) (by kernel_rfl) (λi hi=>Mh (c2 i hi))
  ·exact glI (b:=(b3,o3)) (zs:=Hu 2 (match (Rows.laid_loop_example_pub_g03339_pub_field_feZero:DataW Unit) with | .ptr d=>d|d=>d)) (by kernel_rfl) (λi hi=>Mh (c3 i hi))
  ·exact glI (b:=(b4,o4)) (zs:=Hu 2 (match (Rows.laid_loop_example_pub_g03339_pub_field_feOne:DataW Unit) with | .ptr d=>d|d=>d)) (by kernel_rfl) (λi hi=>Mh (c4 i hi))
 ·intro x hx;simp only[Uc,G9,List.not_mem_nil,or_false] at hx;rcases hx with rfl|rfl|rfl|rfl|rfl|rfl|rfl|rfl|rfl|rfl|rfl
  ·exact LC p0
  ·exact LC p1
  ·exact LC p2
  ·exact LC p3
  ·exact LC p4
  ·exact LC (c7 0 (by decide))
  ·exact LC (c0 0 (by decide))
  ·exact LC (c1 0 (by decide))
  ·exact LC (c2 0 (by decide))
  ·exact LC (c3 0 (by decide))
  ·exact LC (c4 0 (by decide))
end Go.Proofs.YtkbfdaoohhmgoaaGreatDoor
