/- FnPrivateOther: the walk. -/
import Derived.Test.YtdcmnkbegcebgaaGreatDoorLx
import Derived.OwnWalk
import Derived.Deep.LoopGhost
import Derived.Lib.Walk
import Derived.Lib.SliceRun
namespace Go.Proofs.YtdcmnkbegcebgaaGreatDoor
open Go Ma Go.RowKit Go.Lib

theorem mixed : Tryz.prog.follows .mixedOrders = true := by kernel_rfl
theorem i8 : (Tryz.prog.info? 5).map (fun i => (i.zero, i.size, i.bytes)) = some (some (Value.int IntKind.u8 0), 1, 1) := by kernel_rfl
def v8 (xs : List Int) : List Value := xs.map (Value.int .u8)
theorem Has8.at {w : World} {b o : Nat} {xs : List Int} (h : Has8 w b o xs) : ∀ j u, (v8 xs)[j]? = some u → w.cell? ((⟨b, o, none⟩ : Addr).add j) = some u := fun j u hj => by
  have hj' : j < xs.length := by have := (List.getElem?_eq_some_iff.1 hj).1; simpa [v8] using this
  rw [Addr.add_lit, h.2 j hj']
  have : (v8 xs)[j]? = some (.int .u8 (xs.getD j 0)) := by simp [v8, List.getD, hj']
  rw [this] at hj; exact hj
theorem v8_one {xs : List Int} : ∀ u ∈ v8 xs, u.oneCell' = true := fun u hu => by
  obtain ⟨x, _, rfl⟩ := List.mem_map.1 hu; rfl
/-- bytes in a row of one's own -/
theorem own_has {w : World} {B n : Nat} {v : Value} {xs : List Int} (h : w.ownsRow B 5 1 v n (v8 xs)) (h0 : 0 < n) (hx : ∀ x ∈ xs, 0 ≤ x ∧ x ≤ 255) : ∃ b c, v = .slice (some ⟨b, 0, none⟩) n c ∧ n ≤ c ∧ B ≤ b ∧ b < w.heap.size ∧ Has8 w b 0 xs := by
  obtain ⟨hl, ⟨_, h1⟩ | ⟨g, cap, cur, h1, h2, h3, h4, h5, h6, h7⟩⟩ := h
  · omega
  · have hlt : g < w.heap.size := by
      rcases Nat.lt_or_ge g w.heap.size with h | h
      · exact h
      · simp [Array.getElem?_eq_none h] at h3
    refine ⟨g, cap, h1, h4, h2, hlt, hx, fun i hi => ?_⟩
    have hl2 : xs.length = n := by simpa [v8] using hl
    have h8 : cur[i]? = some (.int .u8 (xs.getD i 0)) := by
      have e1 : (cur.toList.take (n * 1))[i]? = (v8 xs)[i]? := by rw [h7]
      rw [List.getElem?_take, if_pos (by omega)] at e1
      have e2 : (v8 xs)[i]? = some (.int .u8 (xs.getD i 0)) := by simp [v8, List.getD, hi]
      rw [e2] at e1
      simpa using e1
    simp only [World.cell?, h3, Nat.zero_add, h8]
    rfl
theorem grown_new {w1 w2 : World} {o : Obj} {n c : Nat} (h : (w1.alloc o).grownBy w2 (Value.slice (some ⟨w1.heap.size, 0, none⟩) n c).ownBlock) : Below w1.heap.size w1 w2 :=
  ((Below.refl _ w1).alloc (Nat.le_refl _) _).grown h (by simp) (by intro k hk; simp [Value.ownBlock] at hk; omega)
theorem grown_own {B n : Nat} {e : TypeId} {v : Value} {xs : List Value} {w1 w2 : World} (hown : w1.ownsRow B e 1 v n xs) (h : w1.grownBy w2 v.ownBlock) (hB : B ≤ w1.heap.size) : Below B w1 w2 :=
  (Below.refl _ w1).grown h hB (fun k hk => (hown.lt k hk).1)
section
variable {GB : Nat} {GC : Nat → Nat → Option Value} {ad : Nat → Nat × Nat} (hG : GOk GB GC ad)
include hG
set_option maxRecDepth 100000 in
set_option maxHeartbeats 2000000 in
theorem other_32 {w : World} {b1 o1 c1 b2 o2 c2 : Nat} {xs ys : List Int} (hgw : GW GC w) (hGB : GB ≤ w.heap.size) (hs : Has8 w b1 o1 xs) (ho : Has8 w b2 o2 ys) (l1 : xs.length = 32) (l2 : ys.length = 32) (_hc1 : 32 ≤ c1) (hc2 : 32 ≤ c2) :
    Calls Tryz.prog 6 #[.slice (some ⟨b1, o1, none⟩) 32 c1, .slice (some ⟨b2, o2, none⟩) 32 c2] w fun e w' => e = .returned (.bool true) ∧ Below w.heap.size w w' := by
  obtain ⟨x0, x1, x2, hfs⟩ := fs_32 hG hgw hGB ho l2 hc2
  have hb1 : b1 < w.heap.size := hs.lt (by omega)
  obtain ⟨i0, hi, hz0, hz1, hz2⟩ := info_parts i8
  have mx := mixed
  have t22 := Tryz.underlying22
  go_enter Tryz.func6, Tryz.ntmps6
  go_wp2_with (first
    | (go_at_call 8; refine hfs.mono ?_; clear hfs; rintro e w1 ⟨⟨p0, q0, k0, p1, q1, k1, p2, q2, k2, he, _, _, hk2, _, _, hm2, _, _, hp2, _, _, ln2⟩, hb⟩; subst he
       have hs1 := hs.below hb hb1
       have hz : w.heap.size ≤ w1.heap.size := hb.size
       have ha1 : Below w1.heap.size w1 (w1.alloc (.cells #[] 5)) := (Below.refl _ w1).alloc (Nat.le_refl _) _
       have hs2 := hs1.below ha1 (by omega)
       have hm3 := hm2.below ha1 (hm2.lt (by omega))
       have hl3 := hm2.lt (by omega))
    | (at_builtin; refine wpList_append_own (o := ⟨some 39, _, _, _, _, _⟩) _ rfl _ _ 22 rfl w1.heap.size 5 i0 (.int .u8 0) 1 1 t22 hi hz0 hz1 hz2 rfl (by decide) _ _ _ rfl (World.ownsRow_made w1 #[] 0 (Nat.le_refl _) (Nat.zero_le _) rfl) ⟨b1, o1, none⟩ 32 c1 (v8 xs) rfl (by simp [v8, l1]) hs2.at v8_one (by unfold maxLen; omega) (by omega) (by simp) ?_
       intro v1 w2 hown1 hgrow1 _
       have hb2 : Below w1.heap.size w1 w2 := grown_new hgrow1
       have hm4 := hm2.below hb2 hl3)
    | (at_builtin; refine wpList_append_own (o := ⟨some 41, _, _, _, _, _⟩) _ rfl _ _ 22 rfl w1.heap.size 5 i0 (.int .u8 0) 1 1 t22 hi hz0 hz1 hz2 rfl (by decide) _ _ _ rfl hown1 ⟨p2, q2, none⟩ 32 k2 (v8 x2) rfl (by simp [v8, ln2]) hm4.at v8_one (by unfold maxLen; omega) (by omega) hb2.size ?_
       intro v2 w3 hown2 hgrow2 _
       have hb3 : Below w1.heap.size w2 w3 := grown_own hown1 hgrow2 hb2.size))
  rw [show ([] : List Value) ++ v8 xs ++ v8 x2 = v8 (xs ++ x2) by simp [v8]] at hown2
  have hxx : ∀ x ∈ xs ++ x2, 0 ≤ x ∧ x ≤ 255 := fun x hx => by
    rcases List.mem_append.1 hx with h | h
    · exact hs.1 x h
    · exact hm2.1 x h
  obtain ⟨b, c, rfl, hcc, hBb, hbl, h8⟩ := own_has hown2 (by omega) hxx
  have hl : (xs ++ x2).length = 64 := by simp [l1, ln2]
  have hbw : Below w.heap.size w w3 := hb.trans ((hb2.trans hb3).mono hz)
  have hz3 : w.heap.size ≤ w3.heap.size := hbw.size
  refine (fp_64 hG (gw_below hG hgw hbw hGB) (by omega) h8 hl hcc).mono ?_
  rintro e w4 ⟨⟨r0, s0, m0, r1, s1, m1, r2, s2, m2, he, _, _, _, g0, g1, g2, _⟩, hb4⟩
  subst he
  have k0 : Has8 w4 b 0 (xs ++ x2) := h8.below hb4 hbl
  have k1 : Has8 w4 b1 o1 xs := (hs.below hbw hb1).below hb4 (by omega)
  have k2' : Has8 w4 p2 q2 x2 := (hm2.below (hb2.trans hb3) hl3).below hb4 (by have := (hb2.trans hb3).size; omega)
  rw [show (xs ++ x2).take 32 = xs by rw [← l1, List.take_left]] at g1
  rw [show (xs ++ x2).drop 32 = x2 by rw [← l1, List.drop_left]] at g2
  have hend : Below w.heap.size w w4 := hbw.trans (hb4.mono hz3)
  clear hs1 hs2 hm3 hm4 hgrow1 hgrow2 hown1 hown2 hb2 hb3 hb4 hbw ha1 hxx h8 hs ho hm2 hgw
  go_wp2_with (first
    | (go_at_call 10; (with_reducible refine (same_any w4 g0 k0 hl hl).mono ?_); rintro e w5 ⟨rfl, rfl⟩)
    | (go_at_call 10; (with_reducible refine (same_any w4 g1 k1 l1 l1).mono ?_); rintro e w5 ⟨rfl, rfl⟩)
    | (go_at_call 10; (with_reducible refine (same_any w4 g2 k2' ln2 ln2).mono ?_); rintro e w5 ⟨rfl, rfl⟩))
  all_goals go_ret
  all_goals exact ⟨rfl, hend⟩
end
end Go.Proofs.YtdcmnkbegcebgaaGreatDoor
