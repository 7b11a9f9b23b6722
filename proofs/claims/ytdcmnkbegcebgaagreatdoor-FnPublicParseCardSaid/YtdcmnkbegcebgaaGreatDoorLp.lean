/- FnPrivateOther: every seed. -/
import Derived.Test.YtdcmnkbegcebgaaGreatDoorLo
namespace Go.Proofs.YtdcmnkbegcebgaaGreatDoor
open Go Go.RowKit Go.ChangeShapes Go.WideShapes

set_option maxRecDepth 100000 in
theorem other_len1 (a a' : Option Addr) (n c n' c' : Nat) (w : World) (h1 : ((n : Int) == 32) = false) : Calls Tryz.prog 6 #[.slice a n c, .slice a' n' c'] w fun e w' => e = .returned (.bool true) ∧ Below w.heap.size w w' := by
  go_enter Tryz.func6, Tryz.ntmps6
  go_wp2
  all_goals go_ret
  all_goals exact ⟨rfl, Below.refl _ _⟩
set_option maxRecDepth 100000 in
theorem other_len2 (a a' : Option Addr) (c n' c' : Nat) (w : World) (h1 : ((n' : Int) == 32) = false) : Calls Tryz.prog 6 #[.slice a 32 c, .slice a' n' c'] w fun e w' => e = .returned (.bool true) ∧ Below w.heap.size w w' := by
  go_enter Tryz.func6, Tryz.ntmps6
  go_wp2
  all_goals go_ret
  all_goals exact ⟨rfl, Below.refl _ _⟩
/-- a slice of bytes that came in, by its length -/
theorem open_n {H : Type} {enc : TypeId × Value → H} {P : Program} {W : World} {base : Nat} {t e : TypeId} {v : Value} {d : DataW H} {p : List MemPlace} (m : Nat) (hm : 0 < m) (ht : P.underlying t = some (.slice e)) (he : P.underlying e = some (.int .u8)) (hc : P.cellsOf e = 1)
    (hval : Value.okWide P W .any base t v) (h : DataW.Trod enc P W 0 (fun _ => true) true t v d p) :
    (∃ (a : Option Addr) (n c : Nat), v = .slice a n c ∧ n ≠ m) ∨ ∃ (b o c : Nat) (xs : List Int), v = .slice (some ⟨b, o, none⟩) m c ∧ m ≤ c ∧ xs.length = m ∧ Has8 W b o xs := by
  rcases open_u8 ht he hc hval h with ⟨rfl, _, _⟩ | ⟨a, n, c, zs, rfl, hnc, hcm, hz, _, _, hcell, hr, hsp⟩
  · exact .inl ⟨none, 0, 0, rfl, by omega⟩
  · by_cases hn : n = m
    · subst hn
      obtain ⟨b, o, s⟩ := a
      have hs : s = none := hsp (by omega)
      subst hs
      refine .inr ⟨b, o, c, zs.take n, rfl, hnc, by rw [List.length_take]; omega, fun x hx => hr x (List.mem_of_mem_take hx), fun i hi => ?_⟩
      rw [List.length_take] at hi
      have := hcell i (by omega)
      rw [Addr.add_lit] at this
      rw [this]
      simp [List.getD, show i < n by omega]
    · exact .inl ⟨some a, n, c, rfl, hn⟩
theorem ne_dec {n m : Nat} (h : n ≠ m) : ((n : Int) == (m : Int)) = false := by
  simp only [beq_eq_false_iff_ne, ne_eq]; omega
set_option maxRecDepth 100000 in
theorem law_fnPrivateOther {GB : Nat} {GC : Nat → Nat → Option Value} {ad : Nat → Nat × Nat} (hG : GOk GB GC ad) {H : Type} {enc : TypeId × Value → H} {W : World} {base : Nat} {v0 v1 : Value} {d0 d1 : DataW H} {p0 p1 : List MemPlace} (hgw : GW GC W) (hGB : GB ≤ W.heap.size)
    (hv0 : Value.okWide Tryz.prog W .any base 22 v0) (h0 : DataW.Trod enc Tryz.prog W 0 (fun _ => true) true 22 v0 d0 p0) (hv1 : Value.okWide Tryz.prog W .any base 22 v1) (h1 : DataW.Trod enc Tryz.prog W 0 (fun _ => true) true 22 v1 d1 p1) :
    Calls Tryz.prog 6 #[v0, v1] W fun e W' => e = .returned (.bool true) ∧ Below W.heap.size W W' := by
  rcases open_n 32 (by omega) Tryz.underlying22 Tryz.underlying5 (by kernel_rfl) hv0 h0 with ⟨a, n, c, rfl, hn⟩ | ⟨b, o, c, xs, rfl, hc, hl, hx⟩
  · obtain ⟨a', n', c', rfl⟩ := okWide_slice Tryz.underlying22 hv1
    exact other_len1 a a' n c n' c' W (ne_dec hn)
  · rcases open_n 32 (by omega) Tryz.underlying22 Tryz.underlying5 (by kernel_rfl) hv1 h1 with ⟨a', n', c', rfl, hn⟩ | ⟨b', o', c', ys, rfl, hc', hl', hy⟩
    · exact other_len2 _ a' c n' c' W (ne_dec hn)
    · exact other_32 hG hgw hGB hx hy hl hl' hc hc'
end Go.Proofs.YtdcmnkbegcebgaaGreatDoor
