/- FnPublicParse: every seed. -/
import Derived.Test.YtdcmnkbegcebgaaGreatDoorLp
import Derived.Test.YtdcmnkbegcebgaaGreatDoorPq
namespace Go.Proofs.YtdcmnkbegcebgaaGreatDoor
open Go Ma Go.RowKit Go.Lib Go.ChangeShapes Go.WideShapes

section
variable {GB : Nat} {GC : Nat → Nat → Option Value} {ad : Nat → Nat × Nat} (hG : GOk GB GC ad)
include hG
set_option maxRecDepth 100000 in
set_option maxHeartbeats 2000000 in
theorem parse_32 {w : World} {b1 o1 c1 : Nat} {xs : List Int} (hgw : GW GC w) (hGB : GB ≤ w.heap.size) (hs : Has8 w b1 o1 xs) (l1 : xs.length = 32) (hc1 : 32 ≤ c1) :
    Calls Tryz.prog 3 #[.slice (some ⟨b1, o1, none⟩) 32 c1] w fun e w' => e = .returned (.bool true) ∧ Below w.heap.size w w' := by
  obtain ⟨x0, x1, x2, hpk, hfs⟩ := fs_pub hG hgw hGB hs l1 hc1
  have mx := mixed
  clear hs l1 hc1
  go_enter Tryz.func3, Tryz.ntmps3
  go_wp2_with (go_at_call 8; refine hfs.mono ?_; clear hfs; rintro e w1 ⟨⟨p0, q0, k0, p1, q1, k1, p2, q2, k2, he, _, _, hk2, _, _, hm2, _, _, hp2, _, _, ln2⟩, hb⟩; subst he)
  refine (pp_32 hG (gw_below hG hgw hb hGB) (Nat.le_trans hGB hb.size) hm2 hpk hk2).mono ?_
  rintro e w2 ⟨⟨b0, o0, c0, he, _, h0, _, l0⟩, hb2⟩
  subst he
  have k2' : Has8 w2 p2 q2 x2 := hm2.below hb2 (hm2.lt (by omega))
  have hend : Below w.heap.size w w2 := hb.trans (hb2.mono hb.size)
  clear hm2 hgw hpk hb hb2
  go_wp2_with (go_at_call 10; (with_reducible refine (same_any w2 h0 k2' l0 ln2).mono ?_); rintro e w3 ⟨rfl, rfl⟩)
  all_goals go_ret
  all_goals exact ⟨rfl, hend⟩
end
set_option maxRecDepth 100000 in
theorem parse_len (a : Option Addr) (n c : Nat) (w : World) (h1 : ((n : Int) == 32) = false) : Calls Tryz.prog 3 #[.slice a n c] w fun e w' => e = .returned (.bool true) ∧ Below w.heap.size w w' := by
  go_enter Tryz.func3, Tryz.ntmps3
  go_wp2
  all_goals go_ret
  all_goals exact ⟨rfl, Below.refl _ _⟩
set_option maxRecDepth 100000 in
theorem law_fnPublicParse {GB : Nat} {GC : Nat → Nat → Option Value} {ad : Nat → Nat × Nat} (hG : GOk GB GC ad) {H : Type} {enc : TypeId × Value → H} {W : World} {base : Nat} {v0 : Value} {d0 : DataW H} {p0 : List MemPlace} (hgw : GW GC W) (hGB : GB ≤ W.heap.size)
    (hv0 : Value.okWide Tryz.prog W .any base 22 v0) (h0 : DataW.Trod enc Tryz.prog W 0 (fun _ => true) true 22 v0 d0 p0) :
    Calls Tryz.prog 3 #[v0] W fun e W' => e = .returned (.bool true) ∧ Below W.heap.size W W' := by
  rcases open_n 32 (by omega) Tryz.underlying22 Tryz.underlying5 (by kernel_rfl) hv0 h0 with ⟨a, n, c, rfl, hn⟩ | ⟨b, o, c, xs, rfl, hc, hl, hx⟩
  · exact parse_len a n c W (ne_dec hn)
  · exact parse_32 hG hgw hGB hx hl hc
end Go.Proofs.YtdcmnkbegcebgaaGreatDoor
