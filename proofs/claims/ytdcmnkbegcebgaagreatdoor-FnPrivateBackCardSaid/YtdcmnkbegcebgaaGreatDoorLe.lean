/- FnPrivateBack: every seed. -/
import Derived.Test.YtdcmnkbegcebgaaGreatDoorLb
namespace Go.Proofs.YtdcmnkbegcebgaaGreatDoor
open Go Go.RowKit
set_option maxRecDepth 100000 in
theorem law_fnPrivateBack {GB : Nat} {GC : Nat → Nat → Option Value} {ad : Nat → Nat × Nat} (hG : GOk GB GC ad) {H : Type} {enc : TypeId × Value → H} {W : World} {base : Nat} {v : Value} {d : DataW H} {p : List MemPlace} (hgw : GW GC W) (hGB : GB ≤ W.heap.size)
    (hval : Value.okWide Tryz.prog W .any base 22 v) (h : DataW.Trod enc Tryz.prog W 0 (fun _ => true) true 22 v d p) :
    Calls Tryz.prog 4 #[v] W fun e W' => e = .returned (.bool true) ∧ Below W.heap.size W W' := by
  rcases open_u8 Tryz.underlying22 Tryz.underlying5 (by kernel_rfl) hval h with ⟨rfl, _, _⟩ | ⟨a, n, c, zs, rfl, hnc, hcm, hz, _, _, hcell, hr, hsp⟩
  · exact back_nil W
  · by_cases hn : n = 32
    · subst hn
      obtain ⟨b, o, s⟩ := a
      have hs : s = none := hsp (by omega)
      subst hs
      refine back_32 hG (xs := zs.take 32) hgw hGB (by rw [List.length_take]; omega) hnc (fun x hx => hr x (List.mem_of_mem_take hx)) fun i hi => ?_
      have := hcell i (by omega)
      rw [Addr.add_lit] at this
      rw [this]
      simp [List.getD, hi]
    · exact back_len a n c W (by simpa using hn) (by simp; omega)
end Go.Proofs.YtdcmnkbegcebgaaGreatDoor
