/- blockGeneric on any number of blocks: one round. blockGeneric on any number of blocks: a whole round. blockGeneric on any number of blocks: a whole round, joined. blockGeneric on any number of blocks: the test, and the cutting of the slice. blockGeneric on any number of blocks: the loop. -/
import Derived.Test.YtloibefkijfdlaaGreatDoorHb2
namespace Go.Proofs.YtloibefkijfdlaaGreatDoor
open Go
noncomputable def s1 (h : List Int) : List (List Int) := match g1.step C0B [h] with
 | some r => r.2
 | none => []
noncomputable def s3 (h : List (List Int)) : List (List Int) × List (List Int) := match g3.step C0B h with
 | some r => r
 | none => ([], [])
noncomputable def s4 (v : List (List Int)) (ws blk : List Int) : List (List Int) := match g4.step C4B (v ++ [ws, blk]) with
 | some r => r.1
 | none => []
noncomputable def sA (k : Nat) (x y : List Int) : List Int := match (gA k).step C0B [x, y] with
 | some r => r.1.getD 0 []
 | none => []
noncomputable def xS (h : List (List Int)) (ws blk : List Int) : List (List Int) × List Int :=
 let v := s4 (s3 h).2 ws blk
 ((List.range 8).map fun k => sA k ((s3 h).1.getD k []) (v.getD k []), v.getD 8 [])
def IV (v : Value) (xs : List Int) : Prop := ∃ x, xs = [x] ∧ v = .int .u64 x ∧ inR .u64 x
theorem PMs_int {GB : Nat} {w : World} : ∀ {n : Nat} {vs : List Value} {xs : List (List Int)} {bs : List (Nat × Nat)}, PMs GB w (List.replicate n (.int .u64)) vs xs bs → ∀ j, j < n → IV (vs.getD j undef) (xs.getD j [])
 | 0, _, _, _, _, j, hj => by omega
 | n + 1, v :: vs, x :: xs, b :: bs, h, 0, _ => h.1
 | n + 1, v :: vs, x :: xs, b :: bs, h, j + 1, hj => PMs_int (n := n) h.2 j (by omega)
 | n + 1, [], _, _, h, _, _ => h.elim
 | n + 1, _ :: _, [], _, h, _, _ => h.elim
 | n + 1, _ :: _, _ :: _, [], h, _, _ => h.elim
theorem int_PMs {GB : Nat} {w : World} : ∀ {n : Nat} {vs : List Value} {xs : List (List Int)} {bs : List (Nat × Nat)}, vs.length = n → xs.length = n → bs.length = n → (∀ j, j < n → IV (vs.getD j undef) (xs.getD j [])) → PMs GB w (List.replicate n (.int .u64)) vs xs bs
 | 0, [], [], [], _, _, _, _ => trivial
 | n + 1, v :: vs, x :: xs, b :: bs, h1, h2, h3, h => ⟨h 0 (by omega), int_PMs (n := n) (by simpa using h1) (by simpa using h2) (by simpa using h3) fun j hj => h (j + 1) (by omega)⟩
 | 0, _ :: _, _, _, h, _, _, _ => by simp at h
 | 0, _, _ :: _, _, _, h, _, _ => by simp at h
 | 0, _, _, _ :: _, _, _, h, _ => by simp at h
 | n + 1, [], _, _, h, _, _, _ => by simp at h
 | n + 1, _, [], _, _, h, _, _ => by simp at h
 | n + 1, _, _, [], _, _, h, _ => by simp at h
theorem PMs_app {GB : Nat} {w : World} {qs : List PSh} {us : List Value} {ys : List (List Int)} {cs : List (Nat × Nat)} (h' : PMs GB w qs us ys cs) : ∀ {ps : List PSh} {vs : List Value} {xs : List (List Int)} {bs : List (Nat × Nat)}, PMs GB w ps vs xs bs → PMs GB w (ps ++ qs) (vs ++ us) (xs ++ ys) (bs ++ cs)
 | [], [], [], [], _ => h'
 | _ :: _, _ :: _, _ :: _, _ :: _, h => ⟨h.1, PMs_app h' h.2⟩
 | [], _ :: _, _, _, h => h.elim
 | [], [], _ :: _, _, h => h.elim
 | [], [], [], _ :: _, h => h.elim
 | _ :: _, [], _, _, h => h.elim
 | _ :: _, _ :: _, [], _, h => h.elim
 | _ :: _, _ :: _, _ :: _, [], h => h.elim
theorem PSeps_int {qs : List PSh} {cs : List (Nat × Nat)} (h' : PSeps qs cs) : ∀ {n : Nat} {bs : List (Nat × Nat)}, bs.length = n → PSeps (List.replicate n (.int .u64) ++ qs) (bs ++ cs)
 | 0, [], _ => h'
 | n + 1, _ :: _, h => ⟨fun _ _ => trivial, PSeps_int h' (n := n) (by simpa using h)⟩
 | 0, _ :: _, h => by simp at h
 | n + 1, [], h => by simp at h
theorem PSeps_nil : PSeps [] [] := trivial
section
variable {GB : Nat} {GC : Nat → Nat → Option Value} {ad : Nat → Nat × Nat} (hG : GOk GB GC ad)
include hG
theorem C0B_ok : CxOk Tryz.prog C0B GB GC := mkC_ok hG TOk.nil IlOk.nil
omit hG in
theorem cov0 (c : Code) (E : En) (_ : E.P = Tryz.prog) (h : E.C = C0B) (_ : E.GB = GB) (_ : E.GC = GC) : Cov E c ∧ ∀ f j, lk f C0B.inl = some j → Cov E j.c :=
 ⟨Cov.of_nil (by rw [h]; rfl) _, fun _ _ hj => (by cases hj)⟩
end
section
variable {GB : Nat} {GC : Nat → Nat → Option Value} {ad : Nat → Nat × Nat}
theorem chk_gAk {k : Nat} (hk : k < 8) : (gA k).chk C0B = true ∧ cleanT ((gA k).i.tree C0B) = true := by
 have := List.all_eq_true.1 chk_gA k (List.mem_range.2 hk)
 simpa only [baE] using this
theorem keep_gA : ((List.range 8).all fun k => ([0, 1, 4] ++ hS ++ vS).all fun t => Nat.beq t (5 + k) || Nat.beq t (13 + k) || hasN t (gA k).i.keep) = true := by kernel_rfl
theorem keep_gAk {k t : Nat} (hk : k < 8) (ht : t ∈ [0, 1, 4] ++ hS ++ vS) (h1 : t ≠ 5 + k) (h2 : t ≠ 13 + k) : t ∈ (gA k).i.keep := by
 have := List.all_eq_true.1 (List.all_eq_true.1 keep_gA k (List.mem_range.2 hk)) t ht
 simp only [Bool.or_eq_true] at this
 rcases this with (h | h) | h
 ·exact absurd (nbE h) h1
 ·exact absurd (nbE h) h2
 ·exact hasN_iff.1 h
theorem gA_wp (hG : GOk GB GC ad) {k : Nat} (hk : k < 8) {a : Act} {w : World} {x y : List Int} (hgw : GW GC w) (hGB : GB ≤ w.heap.size) (hx : IV (a.tmps.getD (5 + k) undef) x) (hy : IV (a.tmps.getD (13 + k) undef) y) (hsz : a.tmps.size = g3.i.nt) (hdf : a.defers = []) :
  (rB (26 + k)).wp Tryz.prog (fun e a' w' => e = .normal ∧ IV (a'.tmps.getD (5 + k) undef) (sA k x y) ∧ (∀ t, t ∈ [0, 1, 4] ++ hS ++ vS → t ≠ 5 + k → t ≠ 13 + k → a'.tmps.getD t undef = a.tmps.getD t undef) ∧ Frm w w' (fun _ _ => False) ∧ a'.tmps.size = g3.i.nt ∧ a'.defers = [] ∧ GW GC w') a w := by
 obtain ⟨c1, c2⟩ := chk_gAk hk
 have hP : PMs GB w (gA k).i.s0.params ((gA k).i.ps.map fun t => a.tmps.getD t undef) [x, y] [(0, 0), (0, 0)] := ⟨hx, hy, trivial⟩
 have hr := sg_round (g := gA k) (C0B_ok hG) c1 (gls_of hG (.inl rfl)).1 (gls_of hG (.inl rfl)).2 (cov0 (GB := GB) (GC := GC) _) hgw hGB hP ⟨fun _ _ => trivial, fun _ h => (by cases h), trivial⟩ hsz hdf (cleanT_ok c2)
 refine wp_mono hr ?_
 rintro e a' w' ⟨r, r2, bs2, hs, rfl, -, hm, hf, h1, h2, h3, -, h5⟩
 have hm' : PMs GB w' (List.replicate 2 (.int .u64)) ((gA k).i.ps.map fun t => a'.tmps.getD t undef) r [(0, 0), (0, 0)] := hm
 refine ⟨rfl, ?_, fun t ht n1 n2 => h3 t (keep_gAk hk ht n1 n2), hf.mono fun b o _ hS => ?_, h1, h2, h5⟩
 ·have := PMs_int hm' 0 (by omega)
  unfold sA
  rw [hs]
  exact this
 ·obtain ⟨p, hp, _⟩ := hS
  cases hp
end
end Go.Proofs.YtloibefkijfdlaaGreatDoor

namespace Go.Proofs.YtloibefkijfdlaaGreatDoor
open Go
noncomputable def tlB : Nat → Code
 | 0 => rB 34
 | m + 1 => .seq (rB (26 + (7 - m))) (tlB m)
theorem xB_eq : xB = .seq (rB 3) (.seq c4B (tlB 8)) := rfl
theorem in_hS {j : Nat} (h : j < 8) : 5 + j ∈ [0, 1, 4] ++ hS ++ vS := by
 have : ∀ j, j < 8 → 5 + j ∈ [0, 1, 4] ++ hS ++ vS := by decide
 exact this j h
theorem in_vS {j : Nat} (h : j < 8) : 13 + j ∈ [0, 1, 4] ++ hS ++ vS := by
 have : ∀ j, j < 8 → 13 + j ∈ [0, 1, 4] ++ hS ++ vS := by decide
 exact this j h
theorem in_0 {t : Nat} (h : t = 0 ∨ t = 1 ∨ t = 4) : t ∈ [0, 1, 4] ++ hS ++ vS := by
 rcases h with rfl | rfl | rfl <;> decide
section
variable {GB : Nat} {GC : Nat → Nat → Option Value} {ad : Nat → Nat × Nat}
theorem tl_wp (hG : GOk GB GC ad) {h v : List (List Int)} {Q : Exit → Act → World → Prop} : ∀ {m : Nat} {a : Act} {w : World}, m ≤ 8 → GW GC w → GB ≤ w.heap.size →
  (∀ j, j < 8 - m → IV (a.tmps.getD (5 + j) undef) (sA j (h.getD j []) (v.getD j []))) → (∀ j, 8 - m ≤ j → j < 8 → IV (a.tmps.getD (5 + j) undef) (h.getD j [])) → (∀ j, 8 - m ≤ j → j < 8 → IV (a.tmps.getD (13 + j) undef) (v.getD j [])) →
  a.tmps.size = g3.i.nt → a.defers = [] →
  (∀ a' w', (∀ j, j < 8 → IV (a'.tmps.getD (5 + j) undef) (sA j (h.getD j []) (v.getD j []))) → (∀ t, t = 0 ∨ t = 1 ∨ t = 4 → a'.tmps.getD t undef = a.tmps.getD t undef) → Frm w w' (fun _ _ => False) → a'.tmps.size = g3.i.nt → a'.defers = [] → GW GC w' → (rB 34).wp Tryz.prog Q a' w') →
  (tlB m).wp Tryz.prog Q a w
 | 0, a, w, _, hgw, _, h1, _, _, hsz, hdf, hQ => hQ a w (fun j hj => h1 j hj) (fun _ _ => rfl) (Frm.refl _ _) hsz hdf hgw
 | m + 1, a, w, hm, hgw, hGB, h1, h2, h3, hsz, hdf, hQ => by
  have hk : 7 - m < 8 := by omega
  refine wp_seq (wp_mono (gA_wp hG hk hgw hGB (h2 _ (by omega) hk) (h3 _ (by omega) hk) hsz hdf) ?_)
  rintro e a' w' ⟨rfl, q1, q2, q3, q4, q5, q6⟩
  show (tlB m).wp _ _ _ _
  refine tl_wp hG (h := h) (v := v) (by omega) q6 (Nat.le_trans hGB q3.1) (fun j hj => ?_) (fun j hj hj' => ?_) (fun j hj hj' => ?_) q4 q5 fun a2 w2 k1 k2 k3 k4 k5 k6 => ?_
  ·by_cases hjk : j = 7 - m
   ·subst hjk; exact q1
   ·rw [q2 _ (in_hS (by omega)) (by omega) (by omega)]
    exact h1 j (by omega)
  ·rw [q2 _ (in_hS hj') (by omega) (by omega)]
   exact h2 j (by omega) hj'
  ·rw [q2 _ (in_vS hj') (by omega) (by omega)]
   exact h3 j (by omega) hj'
  ·refine hQ a2 w2 k1 (fun t ht => ?_) (q3.trans k3) k4 k5 k6
   rw [k2 t ht, q2 t (in_0 ht) (by omega) (by omega)]
theorem keep_g3 : ([0, 1, 4].all fun t => hasN t g3.i.keep) = true := by kernel_rfl
theorem keep_g4 : ((0 :: hS).all fun t => hasN t g4.i.keep) = true := by kernel_rfl
theorem keep_3 {t : Nat} (h : t = 0 ∨ t = 1 ∨ t = 4) : t ∈ g3.i.keep := hasN_iff.1 (List.all_eq_true.1 keep_g3 t (by rcases h with rfl | rfl | rfl <;> decide))
theorem keep_4 {t : Nat} (h : t ∈ 0 :: hS) : t ∈ g4.i.keep := hasN_iff.1 (List.all_eq_true.1 keep_g4 t h)
theorem hS_get (a : Act) {j : Nat} (h : j < 8) : (hS.map fun t => a.tmps.getD t undef).getD j undef = a.tmps.getD (5 + j) undef := by
 match j, h with
 | 0, _ | 1, _ | 2, _ | 3, _ | 4, _ | 5, _ | 6, _ | 7, _ => rfl
theorem vS_get (a : Act) {j : Nat} (h : j < 8) : (vS.map fun t => a.tmps.getD t undef).getD j undef = a.tmps.getD (13 + j) undef := by
 match j, h with
 | 0, _ | 1, _ | 2, _ | 3, _ | 4, _ | 5, _ | 6, _ | 7, _ => rfl
theorem g3_wp (hG : GOk GB GC ad) {a : Act} {w : World} {h : List (List Int)} (hgw : GW GC w) (hGB : GB ≤ w.heap.size) (hl : h.length = 8) (hh : ∀ j, j < 8 → IV (a.tmps.getD (5 + j) undef) (h.getD j [])) (hsz : a.tmps.size = g3.i.nt) (hdf : a.defers = []) :
  (rB 3).wp Tryz.prog (fun e a' w' => e = .normal ∧ (∀ j, j < 8 → IV (a'.tmps.getD (5 + j) undef) ((s3 h).1.getD j [])) ∧ (∀ j, j < 8 → IV (a'.tmps.getD (13 + j) undef) ((s3 h).2.getD j [])) ∧ (s3 h).2.length = 8 ∧ (∀ t, t = 0 ∨ t = 1 ∨ t = 4 → a'.tmps.getD t undef = a.tmps.getD t undef) ∧ Frm w w' (fun _ _ => False) ∧ a'.tmps.size = g3.i.nt ∧ a'.defers = [] ∧ GW GC w') a w := by
 have c := chk_g3
 simp only [baE] at c
 have hP : PMs GB w g3.i.s0.params (g3.i.ps.map fun t => a.tmps.getD t undef) h (List.replicate 8 (0, 0)) := int_PMs (n := 8) (vs := hS.map fun t => a.tmps.getD t undef) rfl hl (by simp) fun j hj => by rw [hS_get a hj]; exact hh j hj
 have hS' : PSeps g3.i.s0.params (List.replicate 8 (0, 0)) := by
  have := PSeps_int PSeps_nil (n := 8) (bs := List.replicate 8 (0, 0)) (by simp)
  rw [List.append_nil, List.append_nil] at this
  exact this
 have hr := sg_round (g := g3) (C0B_ok hG) c.1 (gls_of hG (.inl rfl)).1 (gls_of hG (.inl rfl)).2 (cov0 (GB := GB) (GC := GC) _) hgw hGB hP hS' hsz hdf (cleanT_ok c.2)
 refine wp_mono hr ?_
 rintro e a' w' ⟨r, r2, bs2, hs, rfl, hx, hm, hf, h1, h2, h3, -, h5⟩
 have e3 : s3 h = (r, r2) := by unfold s3; rw [hs]
 have hm' : PMs GB w' (List.replicate 8 (.int .u64)) (hS.map fun t => a'.tmps.getD t undef) r (List.replicate 8 (0, 0)) := hm
 have hx' : PMs GB w' (List.replicate 8 (.int .u64)) (vS.map fun t => a'.tmps.getD t undef) r2 bs2 := hx
 rw [e3]
 refine ⟨rfl, fun j hj => ?_, fun j hj => ?_, ?_, fun t ht => h3 t (keep_3 ht), hf.mono fun b o _ hS => ?_, h1, h2, h5⟩
 ·have := PMs_int hm' j hj
  rwa [hS_get a' hj] at this
 ·have := PMs_int hx' j hj
  rwa [vS_get a' hj] at this
 ·have := (PMs_args hx').2.1
  simpa using this
 ·obtain ⟨p, hp, _⟩ := hS
  cases hp
theorem rot_ok (hG : GOk GB GC ad) : TOk GB GC [(191, .one s_bits_RotateLeft64)] := .cons (k := 191) rfl (ok_bits_RotateLeft64 hG) Tryz.call191 (FnI.len _ _) .nil
theorem C4B_ok (hG : GOk GB GC ad) : CxOk Tryz.prog C4B GB GC := mkCL_ok hG (TOk.consL (by decide) (fun b => by cases b <;> exact LenOk_lp _ _ _) (rot_ok hG)) IlOk.nil _
theorem blk_g4 : blocksOf l2B.id c4B = [.loop l2B.c] := by kernel_rfl
theorem cov4 (hG : GOk GB GC ad) (E : En) (e1 : E.P = Tryz.prog) (e2 : E.C = C4B) (e3 : E.GB = GB) (e4 : E.GC = GC) : Cov E g4.i.c ∧ ∀ f j, lk f C4B.inl = some j → Cov E j.c := by
 have hone : ∀ fe, lk (1000000 + 154) C4B.T = some fe → fe = .one (l2B.sum Cb_sha512_blockGeneric (l2B.pre Cb_sha512_blockGeneric)) := fun fe h => by
  rw [lk_g4] at h; exact (Option.some.inj h).symm
 refine ⟨?_, fun _ _ hj => (by cases hj)⟩
 refine Cov.one (d := ⟨1000000 + 154, l2B.ps, l2B.ss, l2B.cl, l2B.nt⟩) (by rw [e2]; rfl) blk_g4 ?_ ?_
 ·exact LpI.ok (mkC_ok hG (rot_ok hG) IlOk.nil) chk_l2B (gls_of hG (.inr rfl)).1 (gls_of hG (.inr rfl)).2 (fun E' _ c2 _ _ => ⟨Cov.of_nil (by rw [c2]; rfl) _, fun _ _ _ => Cov.of_nil (by rw [c2]; rfl) _⟩) e1 e3 e4 rfl rfl rfl rfl (fun fe h => hone fe (by rw [e2] at h; exact h)) (fun _ _ h => h)
 ·intro fe h x
  rw [e2] at h
  rw [hone fe h]; rfl
end
end Go.Proofs.YtloibefkijfdlaaGreatDoor

namespace Go.Proofs.YtloibefkijfdlaaGreatDoor
open Go
theorem PMs_split {GB : Nat} {w : World} {qs : List PSh} : ∀ {n : Nat} {vs us : List Value} {xs : List (List Int)} {bs cs : List (Nat × Nat)}, vs.length = n → bs.length = n → PMs GB w (List.replicate n (.int .u64) ++ qs) (vs ++ us) xs (bs ++ cs) →
  (∀ j, j < n → IV (vs.getD j undef) (xs.getD j [])) ∧ PMs GB w qs us (xs.drop n) cs
 | 0, [], us, xs, [], cs, _, _, h => ⟨fun _ hj => by omega, h⟩
 | n + 1, v :: vs, us, x :: xs, b :: bs, cs, h1, h2, h => by
  obtain ⟨k1, k2⟩ := PMs_split (n := n) (vs := vs) (bs := bs) (by simpa using h1) (by simpa using h2) h.2
  exact ⟨fun j hj => (match j, hj with
   | 0, _ => h.1
   | j + 1, hj => k1 j (by omega)), k2⟩
 | n + 1, _ :: _, _, [], _ :: _, _, _, _, h => h.elim
 | 0, _ :: _, _, _, _, _, h, _, _ => by simp at h
 | 0, [], _, _, _ :: _, _, _, h, _ => by simp at h
 | n + 1, [], _, _, _, _, h, _, _ => by simp at h
 | n + 1, _ :: _, _, _, [], _, _, h, _ => by simp at h
section
variable {GB : Nat} {GC : Nat → Nat → Option Value} {ad : Nat → Nat × Nat}
set_option maxRecDepth 100000 in
theorem g4_wp (hG : GOk GB GC ad) {a : Act} {w : World} {v : List (List Int)} {ws blk : List Int} {B pb po m c : Nat} (hgw : GW GC w) (hGB : GB ≤ w.heap.size) (hl : v.length = 8) (hv : ∀ j, j < 8 → IV (a.tmps.getD (13 + j) undef) (v.getD j []))
  (h4 : a.tmps.getD 4 undef = .pointer (some ⟨B, 0, none⟩)) (h1 : a.tmps.getD 1 undef = .slice (some ⟨pb, po, none⟩) m c) (hm : 128 ≤ m) (hW : MemI true w (B, 0) (List.replicate 80 .u64) ws) (hB : GB ≤ B) (hb : MemI false w (pb, po) (List.replicate 128 .u8) blk) (hne : B ≠ pb)
  (hsz : a.tmps.size = g3.i.nt) (hdf : a.defers = []) :
  c4B.wp Tryz.prog (fun e a' w' => e = .normal ∧ (∀ j, j < 8 → IV (a'.tmps.getD (13 + j) undef) ((s4 v ws blk).getD j [])) ∧ MemI true w' (B, 0) (List.replicate 80 .u64) ((s4 v ws blk).getD 8 []) ∧ a'.tmps.getD 4 undef = a.tmps.getD 4 undef ∧ a'.tmps.getD 1 undef = a.tmps.getD 1 undef ∧ (∀ t, t ∈ 0 :: hS → a'.tmps.getD t undef = a.tmps.getD t undef) ∧ Frm w w' (fun b _ => b = B) ∧ a'.tmps.size = g3.i.nt ∧ a'.defers = [] ∧ GW GC w') a w := by
 have hP : PMs GB w g4.i.s0.params (g4.i.ps.map fun t => a.tmps.getD t undef) (v ++ [ws, blk]) (List.replicate 8 (0, 0) ++ [(B, 0), (pb, po)]) := by
  show PMs GB w (List.replicate 8 (.int .u64) ++ [.mem (List.replicate 80 .u64) 1 true, .slm (List.replicate 128 .u8) 0 false]) ((vS.map fun t => a.tmps.getD t undef) ++ [a.tmps.getD 4 undef, a.tmps.getD 1 undef]) _ _
  have hq : PMs GB w [.mem (List.replicate 80 .u64) 1 true, .slm (List.replicate 128 .u8) 0 false] [a.tmps.getD 4 undef, a.tmps.getD 1 undef] [ws, blk] [(B, 0), (pb, po)] :=
   ⟨⟨h4, hW, fun _ => hB⟩, ⟨m, c, h1, by simpa using hm, hb, fun h => (by cases h)⟩, trivial⟩
  refine PMs_app hq (int_PMs (n := 8) rfl hl (by simp) fun j hj => ?_)
  rw [vS_get a hj]; exact hv j hj
 have hS' : PSeps g4.i.s0.params (List.replicate 8 (0, 0) ++ [(B, 0), (pb, po)]) := by
  show PSeps (List.replicate 8 (.int .u64) ++ [.mem (List.replicate 80 .u64) 1 true, .slm (List.replicate 128 .u8) 0 false]) _
  have hq : PSeps [.mem (List.replicate 80 .u64) 1 true, .slm (List.replicate 128 .u8) 0 false] [(B, 0), (pb, po)] :=
   ⟨fun x hx => by rw [List.mem_singleton.1 hx]; exact fun _ => .inr (.inl hne), fun x hx => (by cases hx), trivial⟩
  exact PSeps_int hq (by simp)
 have hr := sg_round (g := g4) (C4B_ok hG) chk_g4 (gls_of hG (.inl rfl)).1 (gls_of hG (.inl rfl)).2 (cov4 (GB := GB) (GC := GC) hG) hgw hGB hP hS' hsz hdf (ob_g4 _)
 refine wp_mono hr ?_
 rintro e a' w' ⟨r, r2, bs2, hs, rfl, -, hm', hf, k1, k2, k3, k4, k5⟩
 have e3 : s4 v ws blk = r := by unfold s4; rw [hs]
 have hm2 : PMs GB w' (List.replicate 8 (.int .u64) ++ [.mem (List.replicate 80 .u64) 1 true, .slm (List.replicate 128 .u8) 0 false]) ((vS.map fun t => a'.tmps.getD t undef) ++ [a'.tmps.getD 4 undef, a'.tmps.getD 1 undef]) r (List.replicate 8 (0, 0) ++ [(B, 0), (pb, po)]) := hm'
 obtain ⟨z1, z2⟩ := PMs_split (n := 8) (bs := List.replicate 8 (0, 0)) (vs := vS.map fun t => a'.tmps.getD t undef) rfl rfl hm2
 rw [e3]
 refine ⟨rfl, fun j hj => ?_, ?_, k4 8 4 (.mem (List.replicate 80 .u64) 1 true) rfl (by simp [PSh.reg]) rfl, k4 9 1 (.slm (List.replicate 128 .u8) 0 false) rfl (by simp [PSh.reg]) rfl, fun t ht => k3 t (keep_4 ht), hf.mono fun b o _ hS => ?_, k1, k2, k5⟩
 ·have := z1 j hj
  rwa [vS_get a' hj] at this
 ·have e8 : r.getD 8 [] = (r.drop 8).getD 0 [] := by simp [List.getD]
  rw [e8]
  match hq : r.drop 8 with
  | [] => rw [hq] at z2; exact z2.elim
  | y :: ys =>
   rw [hq] at z2
   exact z2.1.2.1
 ·obtain ⟨p, hp, hb1, _⟩ := hS
  rw [List.mem_singleton.1 hp] at hb1
  exact hb1
set_option maxRecDepth 100000 in
theorem xB_wp (hG : GOk GB GC ad) {a : Act} {w : World} {h : List (List Int)} {ws blk : List Int} {B pb po m c : Nat} {Q : Exit → Act → World → Prop} (hgw : GW GC w) (hGB : GB ≤ w.heap.size) (hl : h.length = 8) (hv : ∀ j, j < 8 → IV (a.tmps.getD (5 + j) undef) (h.getD j []))
  (h4 : a.tmps.getD 4 undef = .pointer (some ⟨B, 0, none⟩)) (h1 : a.tmps.getD 1 undef = .slice (some ⟨pb, po, none⟩) m c) (hm : 128 ≤ m) (hW : MemI true w (B, 0) (List.replicate 80 .u64) ws) (hB : GB ≤ B) (hb : MemI false w (pb, po) (List.replicate 128 .u8) blk) (hne : B ≠ pb)
  (hsz : a.tmps.size = g3.i.nt) (hdf : a.defers = [])
  (hQ : ∀ a' w', (∀ j, j < 8 → IV (a'.tmps.getD (5 + j) undef) ((xS h ws blk).1.getD j [])) → MemI true w' (B, 0) (List.replicate 80 .u64) (xS h ws blk).2 → (∀ t, t = 0 ∨ t = 1 ∨ t = 4 → a'.tmps.getD t undef = a.tmps.getD t undef) → Frm w w' (fun b _ => b = B) → a'.tmps.size = g3.i.nt → a'.defers = [] → GW GC w' → (rB 34).wp Tryz.prog Q a' w') :
  xB.wp Tryz.prog Q a w := by
 rw [xB_eq]
 have hfb : ∀ {w1 w2 : World}, Frm w1 w2 (fun _ _ => False) → Frm w1 w2 (fun b _ => b = B) := fun h => h.mono fun _ _ _ hh => hh.elim
 refine wp_seq (wp_mono (g3_wp hG hgw hGB hl hv hsz hdf) ?_)
 rintro e a1 w1 ⟨rfl, p1, p2, p3, p4, p5, p6, p7, p8⟩
 show (Code.seq c4B (tlB 8)).wp _ _ _ _
 have hW1 : MemI true w1 (B, 0) (List.replicate 80 .u64) ws := ⟨hW.1, fun i k x hk hx => p5.hasC (hW.2 i k x hk hx) (fun h => h)⟩
 have hb1 : MemI false w1 (pb, po) (List.replicate 128 .u8) blk := ⟨hb.1, fun i k x hk hx => p5.hasC (hb.2 i k x hk hx) (fun h => h)⟩
 refine wp_seq (wp_mono (g4_wp hG p8 (Nat.le_trans hGB p5.1) p3 p2 ((p4 4 (.inr (.inr rfl))).trans h4) ((p4 1 (.inr (.inl rfl))).trans h1) hm hW1 hB hb1 hne p6 p7) ?_)
 rintro e a2 w2 ⟨rfl, q1, q2, q3, q4, q5, q6, q7, q8, q9⟩
 show (tlB 8).wp _ _ _ _
 refine tl_wp hG (h := (s3 h).1) (v := s4 (s3 h).2 ws blk) (Nat.le_refl 8) q9 (Nat.le_trans (Nat.le_trans hGB p5.1) q6.1) (fun j hj => by omega) (fun j _ hj => ?_) (fun j _ hj => q1 j hj) q7 q8 fun a3 w3 k1 k2 k3 k4 k5 k6 => ?_
 ·have : 5 + j ∈ 0 :: hS := by
   have : ∀ j, j < 8 → 5 + j ∈ 0 :: hS := by decide
   exact this j hj
  rw [q5 _ this]; exact p1 j hj
 ·refine hQ a3 w3 (fun j hj => ?_) ⟨q2.1, fun i k x hk hx => k3.hasC (q2.2 i k x hk hx) (fun h => h)⟩ (fun t ht => ?_) (((hfb p5).trans q6).trans (hfb k3)) k4 k5 k6
  ·have e1 : (xS h ws blk).1.getD j [] = sA j ((s3 h).1.getD j []) ((s4 (s3 h).2 ws blk).getD j []) := by
    simp [xS, List.getD, hj]
   rw [e1]; exact k1 j hj
  ·rw [k2 t ht, ← p4 t ht]
   rcases ht with rfl | rfl | rfl
   ·exact q5 0 (lmS)
   ·exact q4
   ·exact q3
end
end Go.Proofs.YtloibefkijfdlaaGreatDoor

namespace Go.Proofs.YtloibefkijfdlaaGreatDoor
open Go
def opsOf : Code → Array Oper
 | .region _ o _ => o
 | _ => #[]
noncomputable def gp (k i : Nat) : String := match (opsOf (rB k)).toList[i]? with
 | some o => o.pos
 | none => ""
noncomputable def ga (k i : Nat) := match (opsOf (rB k)).toList[i]? with
 | some o => o.after
 | none => #[]
theorem wpl {P : Program} {ops : Array Oper} {Q : Exit → Act → World → Prop} {o : Oper} {rest : List Oper} {a : Act} {w w' : World} {v : Value} (hg : o.guard = none) (h : (execOp a.eval o).run P w = .ok (.value v) w') (hn : wpList P ops Q rest (a.put o.dst v) w') : wpList P ops Q (o :: rest) a w :=
 wpList_plain hg fun _ hK => upon_value h (hK _ _ hn)
theorem r0_eq : rB 0 = .region 0 [⟨some 4, .alloc 109, 0, gp 0 0, ga 0 0, none⟩].toArray false := by kernel_rfl
theorem r2_eq : rB 2 = .region 2 [⟨some 69, .move (.tmp 1), 22, gp 2 0, ga 2 0, none⟩, ⟨some 70, .call ⟨.builtin .len, #[.tmp 69], #[22]⟩, 3, gp 2 1, ga 2 1, none⟩, ⟨some 71, .binOp .geq 3 (.tmp 70) (.const (.int .i64 128)) 3, 4, gp 2 2, ga 2 2, none⟩].toArray false := by kernel_rfl
theorem r34_eq : rB 34 = .region 34 [⟨some 273, .move (.tmp 1), 22, gp 34 0, ga 34 0, none⟩, ⟨some 274, .slice 22 (.tmp 273) (some (.const (.int .i64 128))) none none, 22, gp 34 1, ga 34 1, none⟩, ⟨some 1, .assign (.tmp 274), 22, gp 34 2, ga 34 2, none⟩].toArray false := by kernel_rfl
theorem ex_move {P : Program} {ρ : Operand → Value} {d : Option Tmp} {x : Operand} {ty : TypeId} {pos : String} {af : Array Edge} {g : Option (Nat × Bool)} {w : World} : (execOp ρ ⟨d, .move x, ty, pos, af, g⟩).run P w = .ok (.value (ρ x)) w := by simp [execOp, go_sem]
theorem ex_assign {P : Program} {ρ : Operand → Value} {d : Option Tmp} {x : Operand} {ty : TypeId} {pos : String} {af : Array Edge} {g : Option (Nat × Bool)} {w : World} : (execOp ρ ⟨d, .assign x, ty, pos, af, g⟩).run P w = .ok (.value (ρ x)) w := by simp [execOp, go_sem]
theorem ex_len {ρ : Operand → Value} {d : Option Tmp} {x : Operand} {pos : String} {af : Array Edge} {g : Option (Nat × Bool)} {w : World} {p : Option Addr} {m c : Nat} (h : ρ x = .slice p m c) : (execOp ρ ⟨d, .call ⟨.builtin .len, #[x], #[22]⟩, 3, pos, af, g⟩).run Tryz.prog w = .ok (.value (.int .i64 m)) w := by
 simp [execOp, go_sem, h]
theorem ex_geq {ρ : Operand → Value} {d : Option Tmp} {x y : Operand} {pos : String} {af : Array Edge} {g : Option (Nat × Bool)} {w : World} {i j : Int} (hx : ρ x = .int .i64 i) (hy : ρ y = .int .i64 j) : (execOp ρ ⟨d, .binOp .geq 3 x y 3, 4, pos, af, g⟩).run Tryz.prog w = .ok (.value (.bool (decide (j ≤ i)))) w := by
 simp [execOp, go_sem, hx, hy]
theorem ex_slice {ρ : Operand → Value} {d : Option Tmp} {x y : Operand} {pos : String} {af : Array Edge} {g : Option (Nat × Bool)} {w : World} {b o m c : Nat} (hx : ρ x = .slice (some ⟨b, o, none⟩) m c) (hy : ρ y = .int .i64 128) (h1 : 128 ≤ m) (h2 : m ≤ c) : (execOp ρ ⟨d, .slice 22 x (some y) none none, 22, pos, af, g⟩).run Tryz.prog w = .ok (.value (.slice (if c - 128 = 0 then some ⟨b, o, none⟩ else some ⟨b, o + 128, none⟩) (m - 128) (c - 128))) w := by
 have hu := run_underlying (w := w) Tryz.underlying22
 have hs : ∀ w : World, (sizeOf 5).run Tryz.prog w = .ok 1 w := fun w => by simp [go_sem]
 have hb : ∀ code, (Instr.sliceBound (.int .i64 128) m code).run Tryz.prog w = .ok 128 w := fun code => run_sliceBound _ w (k := .i64) (n := 128) h1 code
 simp only [execOp, hx, hy, Option.map_some, Option.map_none, Instr.sliceAt, Instr.slice, Sem.run_bind, hu, Result.andThen_ok]
 have hc : (c - 128 = 0) = (c = 128) := propext (by omega)
 simp [Instr.sliceBounds, hb, hs, addr_add, hc]
theorem ev_tmp {a : Act} {t : Nat} : a.eval (.tmp t) = a.tmps.getD t undef := rfl
theorem nt_315 : g3.i.nt = 315 := by kernel_rfl
theorem r2_wp {a : Act} {w : World} {p : Option Addr} {m c : Nat} {Q : Exit → Act → World → Prop} (h1 : a.tmps.getD 1 undef = .slice p m c) (hsz : a.tmps.size = g3.i.nt)
  (hQ : ∀ a', a'.tmps.getD 71 undef = .bool (decide ((128 : Int) ≤ m)) → (∀ t, t ≠ 69 → t ≠ 70 → t ≠ 71 → a'.tmps.getD t undef = a.tmps.getD t undef) → a'.tmps.size = g3.i.nt → a'.defers = a.defers → Q .normal a' w) : (rB 2).wp Tryz.prog Q a w := by
 rw [r2_eq]
 have hnt := nt_315
 have tp : ∀ {b : Act} {t u : Nat} {v : Value}, b.tmps.size = 315 → t < 315 → (b.put (some t) v).tmps.getD u undef = if t = u then v else b.tmps.getD u undef := fun hb ht => tmps_put (by omega)
 rw [hnt] at hsz hQ
 refine wp_region_lit (wpl rfl ex_move ?_)
 rw [ev_tmp, h1]
 generalize hb : a.put (some 69) (.slice p m c) = b
 have b1 : b.tmps.size = 315 := by rw [← hb, put_size]; exact hsz
 have b2 : ∀ u, b.tmps.getD u undef = if 69 = u then .slice p m c else a.tmps.getD u undef := fun u => by rw [← hb]; exact tp hsz (by omega)
 have b3 : b.defers = a.defers := by rw [← hb, put_df]
 refine wpl rfl (ex_len (p := p) (m := m) (c := c) (by rw [ev_tmp, b2]; rfl)) ?_
 generalize hd : b.put (some 70) (.int .i64 m) = d
 have d1 : d.tmps.size = 315 := by rw [← hd, put_size]; exact b1
 have d2 : ∀ u, d.tmps.getD u undef = if 70 = u then .int .i64 m else b.tmps.getD u undef := fun u => by rw [← hd]; exact tp b1 (by omega)
 have d3 : d.defers = a.defers := by rw [← hd, put_df, b3]
 refine wpl rfl (ex_geq (i := m) (j := 128) (by rw [ev_tmp, d2]; rfl) rfl) ?_
 refine wpList_nil (hQ _ ?_ (fun t n1 n2 n3 => ?_) (by rw [put_size]; exact d1) (by rw [put_df, d3]))
 ·rw [tp d1 (by omega)]; rfl
 ·rw [tp d1 (by omega), if_neg (fun h => n3 h.symm), d2, if_neg (fun h => n2 h.symm), b2, if_neg (fun h => n1 h.symm)]
theorem r34_wp {a : Act} {w : World} {b0 o m c : Nat} {Q : Exit → Act → World → Prop} (h1 : a.tmps.getD 1 undef = .slice (some ⟨b0, o, none⟩) m c) (hm : 128 ≤ m) (hc : m ≤ c) (hsz : a.tmps.size = g3.i.nt)
  (hQ : ∀ a', a'.tmps.getD 1 undef = .slice (if c - 128 = 0 then some ⟨b0, o, none⟩ else some ⟨b0, o + 128, none⟩) (m - 128) (c - 128) → (∀ t, t ≠ 273 → t ≠ 274 → t ≠ 1 → a'.tmps.getD t undef = a.tmps.getD t undef) → a'.tmps.size = g3.i.nt → a'.defers = a.defers → Q .normal a' w) : (rB 34).wp Tryz.prog Q a w := by
 rw [r34_eq]
 have hnt := nt_315
 have tp : ∀ {b : Act} {t u : Nat} {v : Value}, b.tmps.size = 315 → t < 315 → (b.put (some t) v).tmps.getD u undef = if t = u then v else b.tmps.getD u undef := fun hb ht => tmps_put (by omega)
 rw [hnt] at hsz hQ
 generalize hv : Value.slice (if c - 128 = 0 then some ⟨b0, o, none⟩ else some ⟨b0, o + 128, none⟩) (m - 128) (c - 128) = v at hQ
 refine wp_region_lit (wpl rfl ex_move ?_)
 rw [ev_tmp, h1]
 generalize hb : a.put (some 273) (.slice (some ⟨b0, o, none⟩) m c) = b
 have b1 : b.tmps.size = 315 := by rw [← hb, put_size]; exact hsz
 have b2 : ∀ u, b.tmps.getD u undef = if 273 = u then .slice (some ⟨b0, o, none⟩) m c else a.tmps.getD u undef := fun u => by rw [← hb]; exact tp hsz (by omega)
 have b3 : b.defers = a.defers := by rw [← hb, put_df]
 refine wpl rfl (ex_slice (b := b0) (o := o) (m := m) (c := c) (by rw [ev_tmp, b2]; rfl) rfl hm hc) ?_
 rw [hv]
 generalize hd : b.put (some 274) v = d
 have d1 : d.tmps.size = 315 := by rw [← hd, put_size]; exact b1
 have d2 : ∀ u, d.tmps.getD u undef = if 274 = u then v else b.tmps.getD u undef := fun u => by rw [← hd]; exact tp b1 (by omega)
 have d3 : d.defers = a.defers := by rw [← hd, put_df, b3]
 refine wpl rfl ex_assign ?_
 rw [ev_tmp, d2, if_pos rfl]
 refine wpList_nil (hQ _ ?_ (fun t n1 n2 n3 => ?_) (by rw [put_size]; exact d1) (by rw [put_df, d3]))
 ·rw [tp d1 (by omega)]; rfl
 ·rw [tp d1 (by omega), if_neg (fun h => n3 h.symm), d2, if_neg (fun h => n2 h.symm), b2, if_neg (fun h => n1 h.symm)]
end Go.Proofs.YtloibefkijfdlaaGreatDoor

namespace Go.Proofs.YtloibefkijfdlaaGreatDoor
open Go
noncomputable def bks : Nat → List (List Int) → List Int → List Int → List (List Int)
 | 0, h, _, _ => h
 | n + 1, h, ws, xs => bks n (xS h ws (xs.take 128)).1 (xS h ws (xs.take 128)).2 (xs.drop 128)
theorem MemI.take {f : Bool} {w : World} {b : Nat × Nat} {n m : Nat} {xs : List Int} (h : MemI f w b (List.replicate m .u8) xs) (hn : n ≤ m) : MemI f w b (List.replicate n .u8) (xs.take n) := by
 obtain ⟨⟨h1, h2⟩, h3⟩ := h
 rw [List.length_replicate] at h1
 have hk : ∀ {i : Nat} {k : IntKind}, (List.replicate n IntKind.u8)[i]? = some k → i < n ∧ (List.replicate m IntKind.u8)[i]? = some k := fun {i k} hi => by
  rw [List.getElem?_replicate] at hi ⊢
  split at hi
  ·rename_i hlt
   exact ⟨hlt, by rw [if_pos (by omega)]; exact hi⟩
  ·cases hi
 refine ⟨⟨by rw [List.length_take, List.length_replicate]; omega, fun i k x hi hx => ?_⟩, fun i k x hi hx => ?_⟩
 ·obtain ⟨k1, k2⟩ := hk hi
  exact h2 i k x k2 (by rwa [List.getElem?_take_of_lt k1] at hx)
 ·obtain ⟨k1, k2⟩ := hk hi
  exact h3 i k x k2 (by rwa [List.getElem?_take_of_lt k1] at hx)
theorem MemI.drop {f : Bool} {w : World} {b o n m : Nat} {xs : List Int} (h : MemI f w (b, o) (List.replicate m .u8) xs) (hn : n ≤ m) : MemI f w (b, o + n) (List.replicate (m - n) .u8) (xs.drop n) := by
 obtain ⟨⟨h1, h2⟩, h3⟩ := h
 rw [List.length_replicate] at h1
 have hk : ∀ {i : Nat} {k : IntKind}, (List.replicate (m - n) IntKind.u8)[i]? = some k → (List.replicate m IntKind.u8)[n + i]? = some k := fun {i k} hi => by
  rw [List.getElem?_replicate] at hi ⊢
  split at hi
  ·rw [if_pos (by omega)]; exact hi
  ·cases hi
 refine ⟨⟨by rw [List.length_drop, List.length_replicate]; omega, fun i k x hi hx => ?_⟩, fun i k x hi hx => ?_⟩
 ·exact h2 (n + i) k x (hk hi) (by rwa [List.getElem?_drop] at hx)
 ·have := h3 (n + i) k x (hk hi) (by rwa [List.getElem?_drop] at hx)
  rwa [← Nat.add_assoc] at this
theorem MemI.frm {f : Bool} {w w' : World} {S : Nat → Nat → Prop} {b : Nat × Nat} {ks : List IntKind} {xs : List Int} (h : MemI f w b ks xs) (hf : Frm w w' S) (hn : ∀ i, i < ks.length → ¬ S b.1 (b.2 + i)) : MemI f w' b ks xs :=
 ⟨h.1, fun i k x hk hx => hf.hasC (h.2 i k x hk hx) (hn i (List.getElem?_eq_some_iff.1 hk).1)⟩
theorem xS_len (h : List (List Int)) (ws blk : List Int) : (xS h ws blk).1.length = 8 := by simp [xS]
noncomputable def oB : Code := .seq (.seq (rB 2) (.cond (.tmp 71) .skip (.exit 0))) (.block 1 xB)
section
variable {GB : Nat} {GC : Nat → Nat → Option Value} {ad : Nat → Nat × Nat}
theorem oB_wp (hG : GOk GB GC ad) {B pb : Nat} {Q : Exit → Act → World → Prop} (hB : GB ≤ B) (hne : B ≠ pb) : ∀ (n : Nat) {a : Act} {w : World} {h : List (List Int)} {ws xs : List Int} {p : Option Addr} {po c : Nat}, GW GC w → GB ≤ w.heap.size → h.length = 8 → (∀ j, j < 8 → IV (a.tmps.getD (5 + j) undef) (h.getD j [])) →
  a.tmps.getD 4 undef = .pointer (some ⟨B, 0, none⟩) → a.tmps.getD 1 undef = .slice p (n * 128) c → (0 < n → p = some ⟨pb, po, none⟩) → n * 128 ≤ c → MemI true w (B, 0) (List.replicate 80 .u64) ws → MemI false w (pb, po) (List.replicate (n * 128) .u8) xs →
  a.tmps.size = g3.i.nt → a.defers = [] →
  (∀ a' w', (∀ j, j < 8 → IV (a'.tmps.getD (5 + j) undef) ((bks n h ws xs).getD j [])) → (bks n h ws xs).length = 8 → a'.tmps.getD 0 undef = a.tmps.getD 0 undef → Frm w w' (fun b _ => b = B) → a'.tmps.size = g3.i.nt → a'.defers = [] → GW GC w' → Q .normal a' w') →
  Code.rounds Tryz.prog oB (Exit.inBlock 0 Q) (n + 1) a w
 | 0, a, w, h, ws, xs, p, po, c, hgw, hGB, hl, hv, h4, h1, hp, hc, hW, hb, hsz, hdf, hQ => by
  rw [rounds_succ]
  refine wp_seq (wp_seq (r2_wp h1 hsz fun a1 e1 e2 e3 e4 => ?_))
  refine wp_cond (t := false) (by rw [ev_tmp, e1]; rfl) (wp_exit ?_)
  show Q .normal a1 w
  exact hQ a1 w (fun j hj => by rw [e2 _ (by omega) (by omega) (by omega)]; exact hv j hj) hl (e2 0 (by omega) (by omega) (by omega)) (Frm.refl _ _) e3 (e4.trans hdf) hgw
 | n + 1, a, w, h, ws, xs, p, po, c, hgw, hGB, hl, hv, h4, h1, hp, hc, hW, hb, hsz, hdf, hQ => by
  rw [rounds_succ]
  have hp' := hp (by omega)
  subst hp'
  refine wp_seq (wp_seq (r2_wp h1 hsz fun a1 e1 e2 e3 e4 => ?_))
  refine wp_cond (t := true) (by rw [ev_tmp, e1]; congr 1; simp; omega) (wp_skip ?_)
  show (Code.block 1 xB).wp _ _ _ _
  refine wp_block (xB_wp hG (B := B) (pb := pb) (po := po) (m := (n + 1) * 128) (c := c) (blk := xs.take 128) hgw hGB hl (fun j hj => by rw [e2 _ (by omega) (by omega) (by omega)]; exact hv j hj) ((e2 4 (by omega) (by omega) (by omega)).trans h4) ((e2 1 (by omega) (by omega) (by omega)).trans h1) (by omega) hW hB (hb.take (by omega)) hne e3 (e4.trans hdf) ?_)
  intro a2 w2 k1 k2 k3 k4 k5 k6 k7
  refine r34_wp ((k3 1 (.inr (.inl rfl))).trans ((e2 1 (by omega) (by omega) (by omega)).trans h1)) (by omega) hc k5 fun a3 q1 q2 q3 q4 => ?_
  show Code.rounds Tryz.prog oB (Exit.inBlock 0 Q) (n + 1) a3 w2
  have hm : (n + 1) * 128 - 128 = n * 128 := by omega
  have hb2 := (hb.frm k4 fun i _ (hh : pb = B) => hne hh.symm).drop (show 128 ≤ (n + 1) * 128 by omega)
  rw [hm] at q1 hb2
  refine oB_wp hG hB hne n (po := po + 128) k7 (Nat.le_trans hGB k4.1) (xS_len _ _ _) (fun j hj => by rw [q2 _ (by omega) (by omega) (by omega)]; exact k1 j hj) ?_ q1 (fun h0 => if_neg (by omega)) (by omega) k2 hb2 q3 (q4.trans k6) fun a' w' y1 y1' y2 y3 y4 y5 y6 => hQ a' w' y1 y1' ?_ (k4.trans y3) y4 y5 y6
  ·rw [q2 4 (by omega) (by omega) (by omega), k3 4 (.inr (.inr rfl)), e2 4 (by omega) (by omega) (by omega)]; exact h4
  ·rw [y2, q2 0 (by omega) (by omega) (by omega), k3 0 (.inl rfl), e2 0 (by omega) (by omega) (by omega)]
end
end Go.Proofs.YtloibefkijfdlaaGreatDoor
