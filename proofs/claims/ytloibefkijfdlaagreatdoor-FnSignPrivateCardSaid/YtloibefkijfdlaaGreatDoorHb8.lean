/- blockGeneric on any number of blocks: the whole function. -/
import Derived.Test.YtloibefkijfdlaaGreatDoorHc
import Derived.Test.YtloibefkijfdlaaGreatDoorLa
namespace Go.Proofs.YtloibefkijfdlaaGreatDoor
open Go
theorem z80 : Tryz.zeroCells109 = Array.replicate 80 (.int .u64 0) := by kernel_rfl
theorem ex_al80 {ρ : Operand → Value} {ty : TypeId} {pos : String} {af : Array Edge} {w : World} : (execOp ρ ⟨some 4, .alloc 109, ty, pos, af, none⟩).run Tryz.prog w = .ok (.value (.pointer (some ⟨w.heap.size, 0, none⟩))) (w.alloc (.cells (Array.replicate 80 (.int .u64 0)) 109)) := by
 simp [execOp, go_sem, z80]
theorem mem_new (w : World) (n : Nat) (k : IntKind) (e : TypeId) (h0 : inR k 0) : MemI true (w.alloc (.cells (Array.replicate n (.int k 0)) e)) (w.heap.size, 0) (List.replicate n k) (List.replicate n 0) := by
 have hk : ∀ (i : Nat) (k' : IntKind) (x : Int), (List.replicate n k)[i]? = some k' → (List.replicate n (0 : Int))[i]? = some x → i < n ∧ k' = k ∧ x = 0 := fun i k' x h1 h2 => by
  rw [List.getElem?_replicate] at h1 h2
  split at h1
  ·rename_i hi
   rw [if_pos hi] at h2
   exact ⟨hi, by simpa using h1.symm, by simpa using h2.symm⟩
  ·cases h1
 refine ⟨⟨by simp, fun i k' x h1 h2 => ?_⟩, fun i k' x h1 h2 => ?_⟩
 ·obtain ⟨_, rfl, rfl⟩ := hk i k' x h1 h2; exact h0
 ·obtain ⟨hi, rfl, rfl⟩ := hk i k' x h1 h2
  refine HasC.of_obj (c := Array.replicate n (.int k' 0)) (e := e) (lo := 0) (hi := 0) ?_ ?_ (fun _ => by omega)
  ·show (w.heap.push _)[w.heap.size]? = _
   exact Array.getElem?_push_size
  ·rw [Nat.zero_add, Array.getElem?_replicate, if_pos hi]
theorem frm_alloc (w : World) (o : Obj) (S : Nat → Nat → Prop) : Frm w (w.alloc o) S := (Frm.refl w S).push (o := o) rfl rfl rfl rfl
theorem IV.mem {w : World} {b : Nat × Nat} {n : Nat} {xs : List Int} (h : MemI true w b (List.replicate n .u64) xs) : xs.length = n := by
 have := h.1.1; simpa using this
def wl (h : List Int) : List (List Int) := h.map fun x => [x]
def unwl (l : List (List Int)) : List Int := l.map fun x => x.getD 0 0
theorem unwl_wl (h : List Int) : unwl (wl h) = h := by
 unfold unwl wl
 rw [List.map_map]
 exact (List.map_congr_left fun _ _ => rfl).trans (List.map_id _)
theorem keep_g1 : (hasN 4 g1.i.keep && hasN 1 g1.i.keep) = true := by kernel_rfl
theorem s1_eq' {a b c d e f g i : Int} : g1.step C0B [[a, b, c, d, e, f, g, i]] = some ([[a, b, c, d, e, f, g, i]], [[a], [b], [c], [d], [e], [f], [g], [i]]) := by kernel_rfl
theorem s1_eq {h : List Int} (hl : h.length = 8) : g1.step C0B [h] = some ([h], wl h) := by
 match h, hl with
 | [a, b, c, d, e, f, g, i], _ => exact s1_eq'
theorem s35_eq {a b c d e f g i : Int} {old : List Int} : (g35.step C0B [old, [a], [b], [c], [d], [e], [f], [g], [i]]).map (fun r => r.1.getD 0 []) = some [a, b, c, d, e, f, g, i] := by kernel_rfl
theorem iv_get {l : List (List Int)} {a : Act} (hl : l.length = 8) (h : ∀ j, j < 8 → IV (a.tmps.getD (5 + j) undef) (l.getD j [])) : l = wl (unwl l) ∧ (unwl l).length = 8 ∧ ∀ x ∈ unwl l, inR .u64 x := by
 have hx : ∀ j, j < 8 → ∃ x, l.getD j [] = [x] ∧ inR .u64 x := fun j hj => by
  obtain ⟨x, h1, _, h3⟩ := h j hj
  exact ⟨x, h1, h3⟩
 refine ⟨?_, by simp [unwl, hl], ?_⟩
 ·unfold wl unwl
  rw [List.map_map]
  refine List.ext_getElem (by simp) fun j h1 h2 => ?_
  obtain ⟨x, e, _⟩ := hx j (by omega)
  simp only [List.getElem_map, Function.comp]
  have : l[j] = [x] := by rw [← e]; simp [List.getD, h1]
  rw [this]; rfl
 ·intro x hx'
  obtain ⟨y, hy, rfl⟩ := List.mem_map.1 hx'
  obtain ⟨j, hj, rfl⟩ := List.getElem_of_mem hy
  obtain ⟨x, e, h3⟩ := hx j (by omega)
  have : l[j] = [x] := by rw [← e]; simp [List.getD, hj]
  rw [this]; exact h3
noncomputable def blk (n : Nat) (h xs : List Int) : List Int := unwl (bks n (wl h) (List.replicate 80 0) xs)
structure BlkP (GC : Nat → Nat → Option Value) (B o n : Nat) (h xs : List Int) (w : World) (e : Ending) (w' : World) : Prop where
 ret : e = .returned (.tuple #[])
 mem : MemI true w' (B, o) (List.replicate 8 .u64) (blk n h xs)
 frm : Frm w w' (fun b i => b = B ∧ o ≤ i ∧ i < o + 8)
 gw : GW GC w'
theorem ent_bB : Tryz.f154.body = some bB := by kernel_rfl
theorem nt_bB : Tryz.f154.ntmps = 315 := by kernel_rfl
section
variable {GB : Nat} {GC : Nat → Nat → Option Value} {ad : Nat → Nat × Nat}
theorem blk_any (hG : GOk GB GC ad) {w : World} {B o n pb po c : Nat} {h xs : List Int} (hgw : GW GC w) (hGB : GB ≤ w.heap.size) (hB : GB ≤ B) (hh : MemI true w (B, o) (List.replicate 8 .u64) h) (hp : MemI false w (pb, po) (List.replicate (n * 128) .u8) xs) (hn : 0 < n) (hc : n * 128 ≤ c) :
  Calls Tryz.prog 154 #[.pointer (some ⟨B, o, none⟩), .slice (some ⟨pb, po, none⟩) (n * 128) c] w (BlkP GC B o n h xs w) := by
 have hl : h.length = 8 := by have := hh.1.1; simpa using this
 have hpb : pb < w.heap.size := by
  have hl2 : xs.length = n * 128 := by have := hp.1.1; simpa using this
  have hk : (List.replicate (n * 128) IntKind.u8)[0]? = some .u8 := by simp [List.getElem?_replicate]; omega
  exact (hp.2 0 .u8 _ hk (lgE (by omega))).lt
 refine enter (args := [.pointer (some ⟨B, o, none⟩), .slice (some ⟨pb, po, none⟩) (n * 128) c]) Tryz.func154 ent_bB (n := 315) (by rw [nt_bB]; rfl) fun a F => ?_
 rw [bB_eq]
 have hnt := nt_315
 refine wp_seq ?_
 rw [r0_eq]
 refine reg (w_val F rfl rfl rfl ex_al80 fun a1 F1 => w_nil ?_)
 show (Code.seq (rB 1) _).wp _ _ _ _
 generalize hw1 : w.alloc (.cells (Array.replicate 80 (.int .u64 0)) 109) = w1
 have hW : MemI true w1 (w.heap.size, 0) (List.replicate 80 .u64) (List.replicate 80 0) := by rw [← hw1]; exact mem_new w 80 .u64 _ ⟨by decide, by decide⟩
 have hf1 : Frm w w1 (fun _ _ => False) := by rw [← hw1]; exact frm_alloc _ _ _
 have hgw1 : GW GC w1 := fun b o v hv => (hf1.hasC (f := false) ⟨hgw b o v hv, fun h => (by cases h)⟩ (fun h => h)).1
 have hh1 := hh.frm hf1 fun _ _ h => h
 have hp1 := hp.frm hf1 fun _ _ h => h
 have hGB1 : GB ≤ w1.heap.size := Nat.le_trans hGB hf1.1
 have k1 := chk_g1
 simp only [baE] at k1
 have hP : PMs GB w1 g1.i.s0.params (g1.i.ps.map fun t => a1.tmps.getD t undef) [h] [(B, o)] := ⟨⟨(F1.tm 0).trans rfl, ⟨hh1.1, fun i k x hk hx => (hh1.2 i k x hk hx).weak⟩, fun h => (by cases h)⟩, trivial⟩
 have hr := sg_round (g := g1) (C0B_ok hG) k1.1 (gls_of hG (.inl rfl)).1 (gls_of hG (.inl rfl)).2 (cov0 (GB := GB) (GC := GC) _) hgw1 hGB1 hP ⟨fun _ h => (by cases h), trivial⟩ (F1.sz.trans hnt.symm) F1.df (cleanT_ok k1.2)
 refine wp_seq (wp_mono hr ?_)
 rintro e a2 w2 ⟨r, r2, bs2, hs, rfl, hm, -, hf, q1, q2, q3, q4, q5⟩
 rw [s1_eq hl] at hs
 simp only [osE, Prod.mk.injEq] at hs
 obtain ⟨rfl, rfl⟩ := hs
 have hm' : PMs GB w2 (List.replicate 8 (.int .u64)) (hS.map fun t => a2.tmps.getD t undef) (wl h) bs2 := hm
 have hf2 : Frm w1 w2 (fun _ _ => False) := hf.mono fun b o _ hS => by
  obtain ⟨p, hp, _⟩ := hS
  cases hp
 have k2 := keep_g1
 simp only [baE] at k2
 show (Code.seq (.block 0 (.loop oB)) _).wp _ _ _ _
 have e0 : a2.tmps.getD 0 undef = .pointer (some ⟨B, o, none⟩) := by
  rw [q4 0 0 _ rfl (by simp [PSh.reg]) rfl]; exact (F1.tm 0).trans rfl
 refine wp_seq (wp_block (wp_loop_rounds (n + 1) (oB_wp hG (B := w.heap.size) (pb := pb) (po := po) (p := some ⟨pb, po, none⟩) (c := c) (h := wl h) (ws := List.replicate 80 0) (xs := xs) hGB (by omega) n q5 (Nat.le_trans hGB1 hf2.1) (by simp [wl, hl]) (fun j hj => by
  have := PMs_int hm' j hj
  rwa [hS_get a2 hj] at this) ?_ ?_ (fun _ => rfl) hc (hW.frm hf2 fun _ _ h => h) (hp1.frm hf2 fun _ _ h => h) q1 q2 ?_)))
 ·rw [q3 4 (hasN_iff.1 k2.1)]; exact (F1.tm 4).trans rfl
 ·rw [q3 1 (hasN_iff.1 k2.2)]; exact (F1.tm 1).trans rfl
 intro a3 w3 y1 y2 y3 y4 y5 y6 y7
 show (rB 35).wp _ _ _ _
 obtain ⟨z1, z2, z3⟩ := iv_get y2 y1
 have hB3 : MemI true w3 (B, o) (List.replicate 8 .u64) h := (hh1.frm hf2 fun _ _ h => h).frm y4 fun i _ (hh' : B = w.heap.size) => by
  have hlt : B < w.heap.size := by
   have hk : (List.replicate 8 IntKind.u64)[0]? = some .u64 := rfl
   exact (hh.2 0 .u64 _ hk (lgE (by omega))).lt
  omega
 have k35 := chk_g35
 simp only [baE] at k35
 have hP3 : PMs GB w3 g35.i.s0.params (g35.i.ps.map fun t => a3.tmps.getD t undef) (h :: bks n (wl h) (List.replicate 80 0) xs) ((B, o) :: List.replicate 8 (0, 0)) := ⟨⟨y3.trans e0, hB3, fun _ => hB⟩, int_PMs (n := 8) (vs := hS.map fun t => a3.tmps.getD t undef) rfl y2 (by simp) fun j hj => by rw [hS_get a3 hj]; exact y1 j hj⟩
 have hS3 : PSeps g35.i.s0.params ((B, o) :: List.replicate 8 (0, 0)) := by
  refine ⟨fun x hx => ?_, ?_⟩
  ·have hx1 := List.of_mem_zip hx
   have : x.1 = PSh.int .u64 := (List.mem_replicate.1 hx1.1).2
   unfold PSep
   rw [this]
   simp [PSh.reg]
  ·have := PSeps_int PSeps_nil (n := 8) (bs := List.replicate 8 (0, 0)) (by simp)
   rw [List.append_nil, List.append_nil] at this
   exact this
 have hr3 := sg_round (g := g35) (C0B_ok hG) k35.1 (gls_of hG (.inl rfl)).1 (gls_of hG (.inl rfl)).2 (cov0 (GB := GB) (GC := GC) _) y7 (Nat.le_trans (Nat.le_trans hGB1 hf2.1) y4.1) hP3 hS3 y5 y6 (cleanT_ok k35.2)
 refine wp_mono hr3 ?_
 rintro e a4 w4 ⟨r, r2, bs4, hs, rfl, -, hm4, hf4, u1, u2, u3, -, u5⟩
 have hr0 : r.getD 0 [] = blk n h xs := by
  have hb : bks n (wl h) (List.replicate 80 0) xs = wl (blk n h xs) := z1
  have hbl : (blk n h xs).length = 8 := z2
  rw [hb] at hs
  generalize blk n h xs = l at hs hbl
  match l, hbl with
  | [a, b, c, d, e, f, g, i], _ =>
   have := @s35_eq a b c d e f g i h
   rw [show [h, [a], [b], [c], [d], [e], [f], [g], [i]] = h :: wl [a, b, c, d, e, f, g, i] from rfl, hs] at this
   simpa using this
 refine ⟨u2, .tuple #[], by simp [results, go_sem], rfl, ?_, ?_, u5⟩
 ·have hm5 : PMs GB w4 g35.i.s0.params _ r _ := hm4
  match r, hm5 with
  | x :: r, hm5 =>
   have : x = blk n h xs := hr0
   subst this
   exact hm5.1.2.1
 ·have h3 : Frm w w3 (fun _ _ => False) := ((hf1.trans hf2).trans' y4 fun b i hb (hh' : b = w.heap.size) => by omega)
  refine (h3.mono fun _ _ _ h => h.elim).trans' hf4 fun b i _ hS => ?_
  obtain ⟨p, hp, h1, h2, h4⟩ := hS
  have hp' : p ∈ [((0 : Nat), List.replicate 8 IntKind.u64, (Go.Proofs.YtloibefkijfdlaaGreatDoor.z1 : PF))] := hp
  rw [List.mem_singleton] at hp'
  subst hp'
  exact ⟨h1, h2, h4⟩
end
end Go.Proofs.YtloibefkijfdlaaGreatDoor
