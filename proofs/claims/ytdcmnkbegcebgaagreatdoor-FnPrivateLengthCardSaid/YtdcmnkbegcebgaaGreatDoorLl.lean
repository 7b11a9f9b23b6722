/- FnPrivateLength: bytes that are not 64 are no private key: the walks. -/
import Derived.Test.YtdcmnkbegcebgaaGreatDoorIt
import Derived.Test.YtdcmnkbegcebgaaGreatDoorLp
import Derived.WalkMore
import Derived.Lib.ItoaLen
namespace Go.Proofs.YtdcmnkbegcebgaaGreatDoor
open Go Ma Go.RowKit Go.Lib Go.ChangeShapes Go.WideShapes

theorem tab_below {P : Program} {w w' : World} {name : String} {k : IntKind} {zs : List Int} (h : Lib.TabIs P w name k zs) (hb : Below w.heap.size w w') : Lib.TabIs P w' name k zs := by
  unfold Lib.TabIs at h ⊢
  unfold World.var? at h ⊢
  cases hg : P.globalNamed name with
  | none => rw [hg] at h; cases h
  | some g =>
    rw [hg] at h
    simp only [Option.bind_some] at h ⊢
    have hlt : g < w.heap.size := by
      rcases Nat.lt_or_ge g w.heap.size with h1 | h1
      · exact h1
      · simp [Array.getElem?_eq_none h1] at h
    rw [hb.block g hlt]; exact h
theorem grow_below (w : World) (n : Nat) (os : Array Obj) : Below w.heap.size w (Go.Sort.grow (w.drewN n) os) :=
  ⟨rfl, rfl, rfl, by simp [Go.Sort.grow], fun k hk => by
    show (w.heap ++ os)[k]? = _
    rw [Array.getElem?_append_left hk]⟩
theorem own_slice {w : World} {B n : Nat} {e : TypeId} {v : Value} {xs : List Value} (h : w.ownsRow B e 1 v n xs) : ∃ a c, v = .slice a n c := by
  obtain ⟨_, ⟨h1, h2⟩ | ⟨g, cap, cur, h1, _⟩⟩ := h
  · exact ⟨none, 0, by rw [h1, h2]⟩
  · exact ⟨_, _, h1⟩

/-- a copy of a slice of bytes, by its length -/
def CloneP (w : World) (n : Nat) (e : Ending) (w' : World) : Prop := ∃ a c, e = .returned (.slice a n c) ∧ Below w.heap.size w w'
set_option maxRecDepth 100000 in
set_option maxHeartbeats 2000000 in
theorem clone_has (b o n c : Nat) (xs : List Int) (w : World) (hx : Has8 w b o xs) (hl : xs.length = n) (hn : n ≤ 140737488355328) :
    Calls Tryz.prog 16 #[.slice (some ⟨b, o, none⟩) n c] w (CloneP w n) := by
  obtain ⟨i0, hi, hz0, hz1, hz2⟩ := info_parts i8
  have mx := mixed
  have t22 := Tryz.underlying22
  have q22 : ∀ (w : World) (a : Option Addr) (n c n' c' : Nat), (binOp .eql 22 (.slice a n c) (.slice none n' c')).run Tryz.prog w = .ok (.bool a.isNone) w := fun w a n c n' c' => Lib.run_eql_slice_nil w _ _ a n c n' c' t22
  have ha1 : Below w.heap.size w (w.alloc (.cells #[] 5)) := (Below.refl _ w).alloc (Nat.le_refl _) _
  have hx1 : ∀ j u, (v8 xs)[j]? = some u → (w.alloc (.cells #[] 5)).cell? ((⟨b, o, none⟩ : Addr).add j) = some u := by
    intro j u hj
    have h0 : 0 < xs.length := by have := (List.getElem?_eq_some_iff.1 hj).1; simp [v8] at this; omega
    exact (hx.below ha1 (hx.lt h0)).at j u hj
  clear hx
  go_enter Tryz.func16, Tryz.ntmps16
  go_wp2_with (at_builtin; refine wpList_append_own _ rfl _ _ 22 rfl w.heap.size 5 i0 (.int .u8 0) 1 1 t22 hi hz0 hz1 hz2 rfl (by decide) _ _ _ rfl (World.ownsRow_made w #[] 0 (Nat.le_refl _) (Nat.zero_le _) rfl) ⟨b, o, none⟩ n c (v8 xs) rfl (by simp [v8, hl]) hx1 v8_one (by unfold maxLen; omega) (by omega) (by simp) ?_; intro v' w1 hown hgrow _; have hb := grown_new hgrow)
  obtain ⟨a, c', rfl⟩ := own_slice (by simpa using hown)
  clear hown hgrow
  go_wp2
  go_ret
  exact ⟨_, _, rfl, hb⟩
set_option maxRecDepth 100000 in
theorem clone_nil (w : World) : Calls Tryz.prog 16 #[.slice none 0 0] w (CloneP w 0) := by
  have t22 := Tryz.underlying22
  have q22 : ∀ (w : World) (a : Option Addr) (n c n' c' : Nat), (binOp .eql 22 (.slice a n c) (.slice none n' c')).run Tryz.prog w = .ok (.bool a.isNone) w := fun w a n c n' c' => Lib.run_eql_slice_nil w _ _ a n c n' c' t22
  go_enter Tryz.func16, Tryz.ntmps16
  go_wp2
  go_ret
  exact ⟨_, _, rfl, Below.refl _ _⟩

set_option maxRecDepth 100000 in
set_option maxHeartbeats 2000000 in
theorem clone_zero (a : Addr) (c : Nat) (w : World) : Calls Tryz.prog 16 #[.slice (some a) 0 c] w (CloneP w 0) := by
  obtain ⟨i0, hi, hz0, hz1, hz2⟩ := info_parts i8
  have mx := mixed
  have t22 := Tryz.underlying22
  have q22 : ∀ (w : World) (a : Option Addr) (n c n' c' : Nat), (binOp .eql 22 (.slice a n c) (.slice none n' c')).run Tryz.prog w = .ok (.bool a.isNone) w := fun w a n c n' c' => Lib.run_eql_slice_nil w _ _ a n c n' c' t22
  go_enter Tryz.func16, Tryz.ntmps16
  go_wp2_with (at_builtin; refine wpList_append_own _ rfl _ _ 22 rfl w.heap.size 5 i0 (.int .u8 0) 1 1 t22 hi hz0 hz1 hz2 rfl (by decide) _ _ _ rfl (World.ownsRow_made w #[] 0 (Nat.le_refl _) (Nat.zero_le _) rfl) a 0 c [] rfl rfl (by intro j u hj; simp at hj) (by intro u hu; cases hu) (by unfold maxLen; omega) (by omega) (by simp) ?_; intro v' w1 hown hgrow _; have hb := grown_new hgrow)
  obtain ⟨a, c', rfl⟩ := own_slice hown
  clear hown hgrow
  go_wp2
  go_ret
  exact ⟨_, _, rfl, hb⟩
/-- a key that is not taken: an error, and nothing else has turned -/
def ErrP (w : World) (e : Ending) (w' : World) : Prop := (∃ t x, e = .returned (.tuple #[.pointer none, .iface t x])) ∧ Below w.heap.size w w'
set_option maxRecDepth 100000 in
set_option maxHeartbeats 2000000 in
theorem npk_bad (p : Addr) (a : Option Addr) (n c : Nat) (w : World) (hn : ((n : Int) == 64) = false) (hb : (n : Int) ≤ 2147483647) (htab : Lib.TabIs Tryz.prog w "internal/strconv.uint64pow10" .u64 Lib.pow10Tab) :
    Calls Tryz.prog 26 #[.pointer (some p), .slice a n c] w (ErrP w) := by
  have mx := mixed
  have hlen : 33 + (Lib.itoa (n : Int)).length ≤ 9223372036854775807 := by
    have := Lib.itoa_length_le (n : Int) (by omega) (by omega)
    omega
  go_enter Tryz.func26, Tryz.ntmps26
  go_wp2_with (first
    | (go_at_call 29; refine (Tryz.strconv_Itoa _ (by omega) (by omega) _ htab).mono ?_; rintro e w' ⟨rfl, k, os, rfl⟩; have hb1 := grow_below w k os)
    | go_in)
  go_ret2
  exact ⟨⟨_, _, rfl⟩, hb1.alloc hb1.size _⟩
/-- the key that is not taken, told -/
def BadP (w : World) (e : Ending) (w' : World) : Prop := e = .returned (.tuple #[.slice none 0 0, .slice none 0 0, .slice none 0 0, .bool false]) ∧ Below w.heap.size w w'
theorem told_bad (p : Value) (t : TypeId) (x : Value) (w : World) : Calls Tryz.prog 14 #[p, .iface t x] w fun e w' => e = .returned (.tuple #[.slice none 0 0, .slice none 0 0, .slice none 0 0, .bool false]) ∧ w = w' := by
  go_enter Tryz.func14, Tryz.ntmps14
  go_wp2
  exact bodyPost_ret (v := .tuple #[.slice none 0 0, .slice none 0 0, .slice none 0 0, .bool false]) (by simp [results, Tryz.results14, go_sem]) rfl ⟨rfl, rfl⟩
set_option maxRecDepth 100000 in
set_option maxHeartbeats 2000000 in
theorem fp_bad (v : Value) (n : Nat) (w : World) (hc : Calls Tryz.prog 16 #[v] w (CloneP w n)) (hn : ((n : Int) == 64) = false) (hb : (n : Int) ≤ 2147483647) (htab : Lib.TabIs Tryz.prog w "internal/strconv.uint64pow10" .u64 Lib.pow10Tab) :
    Calls Tryz.prog 11 #[v] w (BadP w) := by
  have mx := mixed
  go_enter Tryz.func11, Tryz.ntmps11
  go_wp2_with (first
    | (go_at_call 16; refine hc.mono ?_; clear hc; rintro e w1 ⟨a, c, rfl, hb1⟩; have htab1 := tab_below htab hb1)
    | (go_at_call 26; refine (npk_bad _ _ _ _ _ hn hb (tab_below htab1 ((Below.refl _ _).alloc (Nat.le_refl _) _))).mono ?_; rintro e w2 ⟨⟨t, x, rfl⟩, hb2⟩)
    | (go_at_call 14; refine (told_bad _ _ _ _).mono ?_; rintro e w3 ⟨rfl, rfl⟩)
    | go_in)
  have hb3 : Below w1.heap.size w1 w2 := ((Below.refl _ w1).alloc (Nat.le_refl _) _).trans (hb2.mono (by simp))
  exact bodyPost_ret (v := .tuple #[.slice none 0 0, .slice none 0 0, .slice none 0 0, .bool false]) (by simp [results, Tryz.results11, go_sem]) rfl ⟨rfl, hb1.trans (hb3.mono hb1.size)⟩
/-- the law, where it looks -/
def LawP (w : World) (e : Ending) (w' : World) : Prop := e = .returned (.bool true) ∧ Below w.heap.size w w'
section
variable {GB : Nat} {GC : Nat → Nat → Option Value} {ad : Nat → Nat × Nat} (hG : GOk GB GC ad)
include hG
set_option maxRecDepth 100000 in
set_option maxHeartbeats 2000000 in
theorem length_32 {w : World} {a0 : Option Addr} {n c0 b2 o2 c2 : Nat} {ys : List Int} (hgw : GW GC w) (hGB : GB ≤ w.heap.size) (hfp : Calls Tryz.prog 11 #[.slice a0 n c0] w (BadP w)) (hn : ((n : Int) == 64) = false) (hb : (n : Int) ≤ 2147483647) (ho : Has8 w b2 o2 ys) (l2 : ys.length = 32) (hc2 : 32 ≤ c2) :
    Calls Tryz.prog 5 #[.slice a0 n c0, .slice (some ⟨b2, o2, none⟩) 32 c2] w (LawP w) := by
  have mx := mixed
  have hb2 : b2 < w.heap.size := ho.lt (by omega)
  go_enter Tryz.func5, Tryz.ntmps5
  go_wp2_with (go_at_call 11; refine hfp.mono ?_; clear hfp; rintro e w1 ⟨rfl, hb1⟩)
  obtain ⟨x0, x1, x2, hfs⟩ := fs_32 hG (gw_below hG hgw hb1 hGB) (Nat.le_trans hGB hb1.size) (ho.below hb1 hb2) l2 hc2
  refine hfs.mono ?_
  clear hfs
  rintro e w2 ⟨⟨p0, q0, k0, p1, q1, k1, p2, q2, k2, he, hk0, _, _, hm0, _, _, _, _, _, ln0, _⟩, hb3⟩
  subst he
  have hb4 : Below w.heap.size w w2 := hb1.trans (hb3.mono hb1.size)
  have hfp2 := fp_64 hG (gw_below hG hgw hb4 hGB) (Nat.le_trans hGB hb4.size) hm0 ln0 hk0
  go_wp2_with (go_at_call 11; refine hfp2.mono ?_; clear hfp2; rintro e w3 ⟨⟨r0, s0, m0, r1, s1, m1, r2, s2, m2, he, _⟩, hb5⟩; subst he)
  all_goals go_ret
  all_goals exact ⟨rfl, hb4.trans (hb5.mono hb4.size)⟩
end
set_option maxRecDepth 100000 in
theorem length_len1 (a a' : Option Addr) (n c n' c' : Nat) (w : World) (h1 : ((n' : Int) == 32) = false) (h2 : ((n : Int) == 64) = false) : Calls Tryz.prog 5 #[.slice a n c, .slice a' n' c'] w fun e w' => e = .returned (.bool true) ∧ Below w.heap.size w w' := by
  go_enter Tryz.func5, Tryz.ntmps5
  go_wp2
  all_goals go_ret
  all_goals exact ⟨rfl, Below.refl _ _⟩
set_option maxRecDepth 100000 in
theorem length_len3 (a a' : Option Addr) (c n' c' : Nat) (w : World) (_h1 : ((n' : Int) == 32) = false) : Calls Tryz.prog 5 #[.slice a 64 c, .slice a' n' c'] w fun e w' => e = .returned (.bool true) ∧ Below w.heap.size w w' := by
  go_enter Tryz.func5, Tryz.ntmps5
  go_wp2
  all_goals go_ret
  all_goals exact ⟨rfl, Below.refl _ _⟩
set_option maxRecDepth 100000 in
theorem length_len2 (a a' : Option Addr) (c c' : Nat) (w : World) : Calls Tryz.prog 5 #[.slice a 64 c, .slice a' 32 c'] w fun e w' => e = .returned (.bool true) ∧ Below w.heap.size w w' := by
  go_enter Tryz.func5, Tryz.ntmps5
  go_wp2
  all_goals go_ret
  all_goals exact ⟨rfl, Below.refl _ _⟩
set_option maxRecDepth 100000 in
theorem length_big (a a' : Option Addr) (n c c' : Nat) (w : World) (h : 2147483647 < (n : Int)) : Calls Tryz.prog 5 #[.slice a n c, .slice a' 32 c'] w fun e w' => e = .returned (.bool true) ∧ Below w.heap.size w w' := by
  go_enter Tryz.func5, Tryz.ntmps5
  go_wp2
  all_goals go_ret
  all_goals exact ⟨rfl, Below.refl _ _⟩
set_option maxRecDepth 100000 in
theorem law_fnPrivateLength {GB : Nat} {GC : Nat → Nat → Option Value} {ad : Nat → Nat × Nat} (hG : GOk GB GC ad) {H : Type} {enc : TypeId × Value → H} {W : World} {base : Nat} {v0 v1 : Value} {d0 d1 : DataW H} {p0 p1 : List MemPlace} (htab : Lib.TabIs Tryz.prog W "internal/strconv.uint64pow10" .u64 Lib.pow10Tab) (hgw : GW GC W) (hGB : GB ≤ W.heap.size)
    (hv0 : Value.okWide Tryz.prog W .any base 22 v0) (h0 : DataW.Trod enc Tryz.prog W 0 (fun _ => true) true 22 v0 d0 p0) (hv1 : Value.okWide Tryz.prog W .any base 22 v1) (h1 : DataW.Trod enc Tryz.prog W 0 (fun _ => true) true 22 v1 d1 p1) :
    Calls Tryz.prog 5 #[v0, v1] W fun e W' => e = .returned (.bool true) ∧ Below W.heap.size W W' := by
  rcases open_n 32 (by omega) Tryz.underlying22 Tryz.underlying5 (by kernel_rfl) hv1 h1 with ⟨a', n', c', rfl, hn'⟩ | ⟨b', o', c', ys, rfl, hc', hl', hy⟩
  · obtain ⟨a, n, c, rfl⟩ := okWide_slice Tryz.underlying22 hv0
    by_cases hn : n = 64
    · subst hn
      exact length_len3 a a' c n' c' W (ne_dec hn')
    · exact length_len1 a a' n c n' c' W (ne_dec hn') (ne_dec hn)
  · rcases open_u8 Tryz.underlying22 Tryz.underlying5 (by kernel_rfl) hv0 h0 with ⟨rfl, _, _⟩ | ⟨a, n, c, zs, rfl, hnc, hcm, hz, _, _, hcell, hr, hsp⟩
    · exact length_32 hG hgw hGB (fp_bad _ 0 W (clone_nil W) (by decide) (by decide) htab) (by decide) (by decide) hy hl' hc'
    · by_cases hn : n = 64
      · subst hn
        exact length_len2 _ _ c c' W
      · by_cases hbig : 2147483647 < (n : Int)
        · exact length_big _ _ n c c' W hbig
        · have hcl : Calls Tryz.prog 16 #[.slice (some a) n c] W (CloneP W n) := by
            by_cases hc0 : c = 0
            · subst hc0
              have : n = 0 := by omega
              subst this
              exact clone_zero a 0 W
            · obtain ⟨b, o, s⟩ := a
              have hs : s = none := hsp (by omega)
              subst hs
              exact clone_has b o n c (zs.take n) W ⟨fun x hx => hr x (List.mem_of_mem_take hx), fun i hi => by
                rw [List.length_take] at hi
                have := hcell i (by omega)
                rw [Addr.add_lit] at this
                rw [this]
                simp [List.getD, show i < n by omega]⟩ (by rw [List.length_take]; omega) (by omega)
          exact length_32 hG hgw hGB (fp_bad _ n W hcl (ne_dec hn) (by omega) htab) (ne_dec hn) (by omega) hy hl' hc'
end Go.Proofs.YtdcmnkbegcebgaaGreatDoor
